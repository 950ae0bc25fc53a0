/- Part 5 of the proof's texts, made small by a program. -/
import Derived.Test.YtlcfillobkdnmaaGreatDoorTu4
set_option linter.unusedVariables false
set_option linter.unusedSimpArgs false
set_option maxHeartbeats 4000000
namespace Go.Jw
open Go Go.RowKit Go.Proofs
set_option maxRecDepth 8000
open Go.Sort (SWO)
section rules
variable {P:Program} {n:Nat} {F:List Nat} {c:Ctx F} {ops:Array Oper} {d:Nat} {T:TypeId} {l:List Oper} {k:List KI} {Q:Post} {e:dI} {M:List HA} {D:List DA}
theorem jH(i:Nat){b:Nat}{cs:List Value}{U:TypeId}(hi:M[i]? =some (.blk b cs U))(hF:F=[])(next:cL P n c ops l k Q e (M.eraseIdx i) (.dblk b cs U::D)):cL P n c ops l k Q e M D:=
  jU (h:= .blk b cs U) [.dblk b cs U] (fun x _ h=>by rw [hF]at h;cases h) (vN hi) (fun w ok h hok hD d hd=>by
    rcases List.mem_singleton.1 hd with rfl
    exact⟨hok _ cB,h⟩) next
theorem p6(i:Nat){x y:Operand}{A:Option Addr}{m cap j:Nat}{kd:IntKind}{S E sz by_ U:Nat}{xs:List Value}(hS:cd P S E sz by_)(hd:Nat.blt d n=true)(hx:ev e x=some (.slice A m cap))(hy:ev e y=some (.int kd (j:Nat)))(hi:M[i]? =some (.row A m cap U 1 xs))(hj:j<m)
  (next:cL P n c ops l k Q ((d, .pointer (some (At A (j*sz))))::e) M D):cR P n c ops (some d) (.indexAddr S x y) T l k Q e M D:=by
 intro a w hf
 obtain⟨_,_,h3⟩:=tR (hf.toFitsW.mem hi)
 have hl:xs.length=m:=by have:=(hf.toFitsW.mem hi:(HA.row A m cap U 1 xs).holds w).1;omega
 obtain⟨a',ha,_⟩:=h3 j xs[j] (List.getElem?_eq_getElem aC)
 subst ha
 exact wJ hS hd hx hy hj next a w hf
end rules
abbrev ye(x:Nat):Value:=encN (2*x)
def vals(ys:List Y):List ByteArray:=ys.map Y.val
theorem vb(i:Nat):(List.range i).map ye++[ye i]=(List.range (i+1)).map ye:=by rw [List.range_succ,List.map_append];rfl
theorem JH(n:Nat):(List.range n).map ye=((List.range n).map (2* ·)).map encN:=by rw [List.map_map];rfl
theorem r8{ks:List ByteArray}{us:List V}(hl:ks.length=us.length):(ks.zip (us.map dW)).length=us.length:=by rw [List.length_zip,List.length_map];omega
theorem AS{ks:List ByteArray}{us:List V}(hl:ks.length=us.length){i:Nat}(h:i<us.length):((ks.zip (us.map dW)).flatMap eM)[2*i]? =some (cc dV (ks.getD i ⟨#[]⟩)):=by
 rw [pd (by rw [r8 hl];exact h),List.getElem_zip,tZ aC]
theorem GZ{ks:List ByteArray}{us:List V}(hl:ks.length=us.length){i:Nat}(h:i<us.length):((ks.zip (us.map dW)).flatMap eM)[2*i+1]? =some (dW (us[i])):=by
 rw [pe (by rw [r8 hl];exact h),List.getElem_zip,List.getElem_map]
theorem JI{ks:List ByteArray}{us:List V}(hl:ks.length=us.length){ds:List Nat}(hp:ds.Perm ((List.range us.length).map (2* ·)))(hs:ds.Pairwise (fun x y=>FY (vals ((ks.zip (us.map dW)).flatMap eM)) y x=false)):
  ∃es:List Nat,es.Perm (List.range us.length)∧es.Pairwise (fun x y=>FY ks y x=false)∧ds.map encN=es.map ye:=by
 have hev: ∀ x∈ds,∃y,y<us.length∧x=2*y:=fun x hx=>by
  obtain⟨y,hy,rfl⟩:=List.mem_map.1 (hp.mem_iff.1 hx)
  exact⟨y,List.mem_range.1 hy,rfl⟩
 have hkey: ∀ y,y<us.length→(vals ((ks.zip (us.map dW)).flatMap eM)).getD (2*y) ⟨#[]⟩=ks.getD y ⟨#[]⟩:=fun y hy=>by
  unfold vals
  rw [List.getD_eq_getElem?_getD,List.getElem?_map,AS hl hy]
  rfl
 refine⟨ds.map (· /2),?_,?_,?_⟩
 ·have:=hp.map (· /2)
  rw [List.map_map]at this
  have e:((fun x=>x/2)∘fun x=>2*x)=(id:Nat→Nat):=by funext x;simp only [Function.comp,id];omega
  rwa [e,List.map_id]at this
 ·rw [List.pairwise_map]
  refine hs.imp_of_mem fun {x y} hx hy h=>?_
  obtain⟨a,ha,rfl⟩:=hev x hx
  obtain⟨b,hb,rfl⟩:=hev y hy
  unfold FY at h⊢
  rw [hkey a ha,hkey b hb]at h
  rw [show 2*a/2=a by omega,show 2*b/2=b by omega]
  exact h
 ·rw [List.map_map]
  refine List.map_congr_left fun x hx=>?_
  obtain⟨y,_,rfl⟩:=hev x hx
  show encN (2*y)=encN (2*(2*y/2))
  congr 1
  omega
set_option maxHeartbeats 2000000 in
theorem Ga(W:World)(keys:List ByteArray)(dk:List Nat)(b1 nb b9 b n c m:Nat)(ka:Addr)(kc:Nat)(hn1:W.cell? ⟨b1,0,none⟩=some (cW nb))(hks:W.cell? ⟨nb,6,none⟩=some (.slice (some ka) m kc))(hm:m=keys.length)(hps:W.cell? ⟨b9,0,none⟩=some (.slice (some ⟨b,0,none⟩) n c))(hn:dk.length=n)
  (hdk: ∀ j x,dk[j]? =some x→W.cell? ⟨b,j,none⟩=some (encN x)) (hkk: ∀ j s,keys[j]? =some s→ ∃q,W.cell? (ka.add j)=some (cW q)∧W.cell? ⟨q,3,none⟩=some (.string s)) (hlt: ∀ x∈dk,x<keys.length) (i j:Nat) (hi:i<dk.length) (hj:j<dk.length):
  Calls Tryz.prog 167 #[.int .i64 i, .int .i64 j,cW b1,cW b9] W fun e w'=>e= .returned (.bool (FY keys dk[i] dk[j]))∧ ∃q,w'=W.drewN q:=by
 have hxi:=hlt _ (List.getElem_mem hi)
 have hxj:=hlt _ (List.getElem_mem hj)
 have ci:=hdk i _ (List.getElem?_eq_getElem hi)
 have cj:=hdk j _ (List.getElem?_eq_getElem hj)
 obtain⟨qi,ki,vi⟩:=hkk _ _ (List.getElem?_eq_getElem hxi)
 obtain⟨qj,kj,vj⟩:=hkk _ _ (List.getElem?_eq_getElem hxj)
 have hin:i<n:=by omega
 have hjn:j<n:=by omega
 have him:dk[i]<m:=by omega
 have hjm:dk[j]<m:=by omega
 have hlk:FY keys dk[i] dk[j]=Op.bytesLess keys[dk[i]].toList keys[dk[j]].toList:=by
  unfold FY
  rw [fS,tZ hxi,tZ hxj,rQ,rQ]
 go_enter Tryz.func167,Tryz.ntmps167
 go_wp2
 go_quiet (fail)
 go_wp2
 go_ret
 refine⟨?_,nq,rfl⟩
 rw [hlk]
 rfl
theorem JJ:ww Tryz.prog 167:=⟨_,Tryz.func167,by kernel_rfl,rfl⟩
theorem EJ(ys:List Y)(A:Option Addr)(m ca nb b1 b9 pb n c9:Nat)(t v:ByteArray)(k:Int)(hm:m=ys.length): ∀ (W:World) (dk:List Nat),dk.length=n→(∀ x∈dk,x<ys.length)→(∀ x∈[HA.blk b9 [.slice (some ⟨pb,0,none⟩) n c9] 139],x.holds W)→(∀ j x,dk[j]? =some x→W.cell? ⟨pb,j,none⟩=some (encN x))→
  (∃ok,∀ d∈[DA.dblk b1 [cW nb] 102, .dblk nb (da k t v A m ca) 150, .kids (.slice A m ca) ys],d.p W ok)→ ∀ (i j:Nat) (hi:i<dk.length) (hj:j<dk.length),
   Calls Tryz.prog 167 (#[.int .i64 i, .int .i64 j]++ #[cW b1,cW b9]) W fun e w'=>e= .returned (.bool (FY (vals ys) dk[i] dk[j]))∧ ∃q,w'=W.drewN q:=by
 intro W dk hn hlt hM hdk hD i j hi hj
 obtain⟨ok,hD⟩:=hD
 have h1:BlkP W ok b1 [cW nb] 102:=hD _ List.mem_cons_self
 have h2:BlkP W ok nb (da k t v A m ca) 150:=hD _ (List.mem_cons_of_mem _ List.mem_cons_self)
 obtain⟨A',c',hv,_,_,hk⟩:KidsV W ok (.slice A m ca) ys:=hD _ (List.mem_cons_of_mem _ (List.mem_cons_of_mem _ List.mem_cons_self))
 injection hv with e1 e2 e3
 subst e1;subst e3
 have hkid: ∀ (x:Nat) (y:Y),ys[x]? =some y→ ∃a b,A=some a∧ok a.block∧W.cell? (a.add x)=some (cW b)∧NodeP W ok y b:=fun x y hx=>by
  have:=hk.get hx
  simpa using this
 obtain⟨a,_,rfl,_⟩:=hkid _ _ (List.getElem?_eq_getElem (hlt _ (List.getElem_mem hi)))
 refine Ga W (vals ys) dk b1 nb b9 pb n c9 m a ca ?_ ?_ (by unfold vals;rw [List.length_map];exact hm) ?_ hn hdk (fun j s hj=>?_) (fun x hx=>by unfold vals;rw [List.length_map];exact hlt x hx) i j hi hj
 ·rw [tI h1.2];rfl
 ·rw [tI h2.2];rfl
 ·have:=hM _ List.mem_cons_self
  rw [tI this];rfl
 ·unfold vals at hj
  rw [List.getElem?_map]at hj
  obtain⟨y,hy,rfl⟩:=Option.map_eq_some_iff.1 hj
  obtain⟨a',b',ha,_,hc,hnode⟩:=hkid _ _ hy
  cases ha
  refine⟨b',hc,?_⟩
  obtain⟨q,tt,vv,zs⟩:=y
  obtain⟨_,_,_,A2,c2,hb,_⟩:=hnode
  rw [tI hb]
  rfl
def Gb(fb:Addr)(u:V):Prop:= ∀ b,CtR Tryz.prog 107 #[cW b] [.node b (dW u),kg fb] (AR (cz u))

theorem Lh(fb:Addr)(b:Nat)(y:Y)(v:V)(hk:y.kind=8)(H:CtR Tryz.prog 166 #[cW b] [.node b y,kg fb] (AR v)):CtR Tryz.prog 107 #[cW b] [.node b y,kg fb] (AR v):=by
 refine Ct.of_run (args:=[cW b]) Tryz.func107 aF Z Tryz.ntmps107 Z (fun c=>?_)
 refine kO 0 Z (fun A0 cap0 ht0 hv0 hl0 hc0=>?_)
 refine rO 3 Z (yK Z Z Z (fun b1=>?_))
 refine jH 0 Z Z (zA ?_)
 refine zS cx Z (fun b2=>?_)
 change cL _ _ _ _ _ _ _ _ (HA.blk _ [_,_,_,_,_] _::_) _
 refine oO 7 Z (zH 0 dU Z Z Z Z ?_)
 refine zA (sP uf Z Z ?_)
 refine oO 7 Z (zH 0 dU Z Z Z Z ?_)
 refine oO 3 Z (zC wR Z Z ?_)
 refine zA (zH 1 dZ Z Z Z Z ?_)
 refine oR 9 Z (vF Z (decide_eq_true (by exact_mod_cast hk)) ?_)
 refine rO 3 Z (zH 0 dU Z Z Z Z ?_)
 refine zA (zT Z Z Z H (dC 3 4 Z Z) (fun u27 D27 hv27=>?_))
 obtain⟨_,rfl,A27,c27,B27,d27,rfl,rfl⟩:=hv27
 refine oO 5 Z (zF 0 (M':=[HA.blk _ [_,_,_,_,_] _]) Z Z Z Z cY Z Z Z ?_)
 refine oK 3 [3,2] Z Z ?_
 refine yQ (M':=[HA.blk b2 [_,_,_,_,_] 25]) (by repeat (first|exact zQ _|refine zB 0 Z ?_|refine zB 1 Z ?_|refine zB 2 Z ?_|refine zB 3 Z ?_|refine zB 4 Z ?_)) ?_
 exact xX 0 Tryz.results107 Z Z Z cP ⟨rfl,_,rfl,_,_,_,_,rfl,rfl⟩ nS (cS 0 Z)
theorem Li(fb:Addr)(b:Nat)(us:List V)(h60:us.length≤60)(H: ∀ x∈us,Gb fb x):CtR Tryz.prog 107 #[cW b] [.node b (dG 2 (us.map dW)),kg fb] (AR (.mk 4 0 ⟨#[]⟩ [] (us.map cz))):=by
 refine Ct.of_run (args:=[cW b]) Tryz.func107 aF Z Tryz.ntmps107 Z (fun c=>?_)
 refine wF 0 Z (fun A0 cap0 ht0 hv0 hl0 hc0=>?_)
 rw [List.length_map]
 rw [List.length_map]at hl0
 unfold maxLen at hc0
 refine rO 3 Z (yK Z Z Z (fun b1=>?_))
 refine jH 0 Z Z (zA ?_)
 refine zS cx Z (fun b2=>?_)
 change cL _ _ _ _ _ _ _ _ (HA.blk _ [_,_,_,_,_] _::_) _
 refine oO 7 Z (zH 0 dU Z Z Z Z ?_)
 refine zA (sP uf Z Z ?_)
 refine oO 7 Z (zH 0 dU Z Z Z Z ?_)
 refine oO 3 Z (zC wR Z Z ?_)
 refine zA (zH 1 dZ Z Z Z Z ?_)
 refine oK 17 [30,23,2,1] Z Z (rO 4 Z ?_)
 refine yX Z Z (iM ..) (zA ?_)
 refine zS cx Z (fun b4=>?_)
 change cL _ _ _ _ _ _ _ _ (HA.blk _ [_,_,_,_,_] _::_) _
 refine zA (zF 0 (M':=[HA.blk _ [_,_,_,_,_] _,_]) Z Z Z Z cY Z Z Z ?_)
 refine oO 5 Z (zH 0 dU Z Z Z Z ?_)
 refine oO 3 Z (zC wS Z Z ?_)
 refine zA (zH 1 dg Z Z Z Z ?_)
 refine zA (yA cy Z Z ?_)
 refine oK 4 [38,37,36,4,2] Z Z (xS 25 5 ?_)
 refine tL ?_
 refine yL 1 (fun(⟨i,A,ca,xs⟩:Nat×Option Addr×Nat×List Value)=>i≤us.length) (fun(⟨i,A,ca,xs⟩:Nat×Option Addr×Nat×List Value)=>[(38, .int .i64 ((i:Nat):Int))]) (fun(⟨i,A,ca,xs⟩:Nat×Option Addr×Nat×List Value)=>HA.row A i ca 25 5 xs::HA.blk b4 [.int .i64 4, .int .i64 0, .string ⟨#[]⟩, .slice none 0 0, .slice A i ca] 25::HA.blk b2 [.int .i64 0, .int .i64 0, .string ⟨#[]⟩, .slice none 0 0, .slice none 0 0] 25::[]) (fun(⟨i,A,ca,xs⟩:Nat×Option Addr×Nat×List Value)=> .its xs ((us.take i).map cz):: .dblk b1 [cW b] 102:: .dblk b (da 2 ⟨#[]⟩ ⟨#[]⟩ A0 us.length cap0) 150:: .kids (.slice A0 us.length cap0) (us.map dW):: .node b (dG 2 (us.map dW))::kg fb::[]) (fun(⟨i,A,ca,xs⟩:Nat×Option Addr×Nat×List Value)=>us.length - i) (0,none,0,[]) bq (eC Z (eN _)) Z Z ?_ (eC Z (eC Z (eC Z (eC Z (eN _)))))
 intro ⟨i,A,ca,xs⟩ hI K hK
 change Run _ _ _ _ _ [(38,_),(37,_),(36,_),(4,_),(2,_)] [_,_,_] [_,_,_,_,_,_]
 have hi:i≤us.length:=hI
 refine rO 3 Z (yJ Z Z Z ?_)
 refine oR 2 Z (zN Z (fun h39=>?_) (fun h39=>?_))
 ·refine rO 6 Z (wY 3 cy Z Z Z Z h39 ?_)
  refine tE 3 i Z (ga h39) (fun bk=>?_)
  refine zA (yH dU Z Z (fun _ h=>tF h (j:=0) Z) ?_)
  refine oO 8 Z (zT Z Z Z (H _ (List.getElem_mem h39) bk) (dC 1 7 Z Z) (fun u44 D44 hv44=>?_))
  obtain⟨_,rfl,A44,c44,B44,d44,rfl,rfl⟩:=hv44
  refine oO 7 Z (zS cx Z (fun b7=>?_))
  change cL _ _ _ _ _ _ _ _ (HA.blk _ [_,_,_,_,_] _::_) _
  refine zA (zF 0 (M':=[HA.blk _ [_,_,_,_,_] _,_,_,_]) Z Z Z Z cY Z Z Z ?_)
  refine oK 3 [8,7,38,37,36,4,2] Z Z (rO 12 Z ?_)
  refine zC yV Z Z (zA ?_)
  refine zG 2 dJ Z Z Z Z (zA ?_)
  refine zJ 0 Z cP Z Z (zA ?_)
  refine zM cg Z Z Z Z Z (fun b53=>?_)
  refine zA ?_
  refine cf 2 0 cg (fun A54 c54=>?_)
  refine zA (zC yV Z Z ?_)
  refine zA (zF 3 (M':=[_,_,_,HA.blk _ [_,_,_,_,_] _,_]) Z Z Z Z ei Z Z Z ?_)
  refine oK 1 [38,37,36,4,2] Z Z (rO 3 Z ?_)
  refine yB Z Z aC (oR 3 Z ?_)
  refine wN 3 0 Z Z Z ?_
  rw [sX (f:=cz) h39]
  exact kQ (hK (i+1,_,_,_) bc (by show us.length - (i+1)<us.length - i;omega)) (eC Z (eC Z (eC Z (eC Z (eC Z (eN _)))))) (hD:=(cl 0 Z sQ))
 obtain rfl:i=us.length:=by omega
 rw [List.take_length]
 refine rO 4 Z (zJ 1 Z cP Z Z ?_)
 refine zA (zF 2 (M':=[_,_,HA.blk _ [_,_,_,_,_] _]) Z Z Z Z cY Z Z Z ?_)
 refine oR 3 Z (qI ?_)
 refine uM 0 1 (us.map cz) Z Z ba (by rw [List.length_map]) (wU 1 0 Z Z (s:=⟨#[]⟩) (q:=4) (m:=0) aE ?_)
 refine yQ (M':=[HA.blk b2 [_,_,_,_,_] 25]) (by repeat (first|exact zQ _|refine zB 0 Z ?_|refine zB 1 Z ?_|refine zB 2 Z ?_|refine zB 3 Z ?_|refine zB 4 Z ?_)) ?_
 exact xX 0 Tryz.results107 Z Z Z cP ⟨rfl,_,rfl,none,0,_,_,by simp only [V.kind,V.num,V.text,V.keys,V.items,List.length_map,List.length_nil];rfl,rfl⟩ nS (cS 0 Z)
theorem sK{M M2:List HA}(h:iJ M2 M:=by repeat (first|exact wO _|exact zQ _|refine zB 0 rfl ?_|refine zB 1 rfl ?_|refine zB 2 rfl ?_|refine zB 3 rfl ?_|refine zB 4 rfl ?_|refine zB 5 rfl ?_|refine zB 6 rfl ?_|refine zB 7 rfl ?_|refine zB 8 rfl ?_)):iJ M2 M:=h
set_option maxHeartbeats 4000000 in
theorem Lj(fb:Addr)(b:Nat)(ks:List ByteArray)(us:List V)(hl:ks.length=us.length)(h60:us.length≤60)(hnd:ks.Nodup)(hszs: ∀ s∈ks,s.size≤maxLen)(H: ∀ x∈us,Gb fb x)(ys:List Y)(hys:ys=(ks.zip (us.map dW)).flatMap eM):CtR Tryz.prog 107 #[cW b] [.node b (dG 4 ys),kg fb] (AR (cz (.mk 5 0 ⟨#[]⟩ ks us))):=by
 refine Ct.of_run (args:=[cW b]) Tryz.func107 aF Z Tryz.ntmps107 Z (fun c=>?_)
 have hfl:ys.length=2*us.length:=by rw [hys,tv,r8 hl]
 have hk0: ∀ x,x<us.length→ys[2*x]? =some (cc dV (ks.getD x ⟨#[]⟩)):=fun x hx=>by rw [hys];exact AS hl hx
 have hk1: ∀ x (h:x<us.length),ys[2*x+1]? =some (dW us[x]):=fun x hx=>by rw [hys];exact GZ hl hx
 have h2t:((2*us.length:Nat):Int).tmod 2=0:=by rw [show((2*us.length:Nat):Int)=2*(us.length:Int)by omega];exact Int.mul_tmod_right _ _
 refine wF 0 Z (fun A0 cap0 ht0 hv0 hl0 hc0=>?_)
 rw [hfl]
 rw [hfl]at hl0
 unfold maxLen at hc0
 refine rO 3 Z (yK Z Z Z (fun b1=>?_))
 refine jH 0 Z Z (zA ?_)
 refine zS cx Z (fun b2=>?_)
 change cL _ _ _ _ _ _ _ _ (HA.blk _ [_,_,_,_,_] _::_) _
 refine oO 7 Z (zH 0 dU Z Z Z Z ?_)
 refine zA (sP uf Z Z ?_)
 refine oO 7 Z (zH 0 dU Z Z Z Z ?_)
 refine oO 3 Z (zC wR Z Z ?_)
 refine zA (zH 1 dZ Z Z Z Z ?_)
 refine oK 17 [30,23,2,1] Z Z (rO 13 Z ?_)
 refine zH 0 dU Z Z Z Z (oO 3 Z ?_)
 refine zC wS Z Z (zA ?_)
 refine zH 1 dg Z Z Z Z (zA ?_)
 refine yA cy Z Z (zA ?_)
 refine CS Z Z Z aE ?_
 rw [h2t]
 refine zA (sT Z Z Z ?_)
 refine oK 1 [66,2,1] Z Z (rO 5 Z ?_)
 refine uT ui Z (fun b68=>?_)
 refine zA (zS K5 Z (fun b9=>?_))
 change cL _ _ _ _ _ _ _ _ (HA.blk _ [_] _::_) _
 refine zA (zF 0 (M':=[HA.blk _ [_] _,_,_]) Z Z Z Z Hm Z Z Z ?_)
 refine oK 8 [10,9,2,1] Z Z ?_
 refine yL 1 (fun(⟨i,pb,c9⟩:Nat×Nat×Nat)=>i≤us.length) (fun(⟨i,pb,c9⟩:Nat×Nat×Nat)=>[(10, .int .i64 ((2*i:Nat):Int))]) (fun(⟨i,pb,c9⟩:Nat×Nat×Nat)=>HA.blk b9 [.slice (some ⟨pb,0,none⟩) i c9] 139::HA.row (some ⟨pb,0,none⟩) i c9 3 1 ((List.range i).map ye)::HA.blk b2 [.int .i64 0, .int .i64 0, .string ⟨#[]⟩, .slice none 0 0, .slice none 0 0] 25::[]) (fun(⟨i,pb,c9⟩:Nat×Nat×Nat)=> .dblk b1 [cW b] 102:: .dblk b (da 4 ⟨#[]⟩ ⟨#[]⟩ A0 (2*us.length) cap0) 150:: .kids (.slice A0 (2*us.length) cap0) ys:: .node b (dG 4 ys)::kg fb::[]) (fun(⟨i,pb,c9⟩:Nat×Nat×Nat)=>us.length - i) (0,_,_) bq (eC Z (eN _)) Z Z ?_ (eC Z (eC Z (eC Z (eN _))))
 intro ⟨i,pb,c9⟩ hI K hK
 change Run _ _ _ _ _ [(10,_),(9,_),(2,_),(1,_)] [_,_,_] [_,_,_,_,_]
 have hi:i≤us.length:=hI
 refine rO 6 Z (zH 0 dU Z Z Z Z ?_)
 refine oO 3 Z (zC wS Z Z ?_)
 refine zA (zH 1 dg Z Z Z Z ?_)
 refine zA (yA cy Z Z ?_)
 refine zA (yJ Z Z Z ?_)
 refine zX (zN Z (fun h75=>?_) (fun h75=>?_))
 ·refine rO 5 Z (zG 0 Dj Z Z Z Z ?_)
  refine oO 3 Z (zM ui Z Z Z Z Z (fun b80=>?_))
  refine zA ?_
  refine cf 2 0 ui (fun A81 c81=>?_)
  refine zA (zF 1 (M':=[_,HA.blk _ [_] _,_,_]) Z Z Z Z Hm Z Z Z ?_)
  refine oK 1 [10,9,2,1] Z Z (rO 5 Z ?_)
  refine xQ (s:=((2*(i+1):Nat):Int)) Z Z Z aC aC aC (oR 3 Z ?_)
  refine Ds 2 Z aC (fun pb1 hpb=>?_)
  subst hpb
  rw [vb]
  exact kQ (hK (i+1,pb1,_) bc (by show us.length - (i+1)<us.length - i;omega)) (eC Z (eC Z (eC Z (eC Z (eN _)))))
 obtain rfl:i=us.length:=by omega
 rw [JH]
 refine rO 4 Z (zG 0 Dj Z Z Z Z ?_)
 refine zA (kf aF Z Z ?_)
 refine zA (rH Z Z Z ?_)
 refine zA ?_
 refine qB 1 0 Z Z Z (NX 167 #[cW b1,cW b9] pb us.length c9 ys.length ((List.range us.length).map (2* ·)) (fun x hx=>by obtain⟨z,hz,rfl⟩:=List.mem_map.1 hx;have:=List.mem_range.1 hz;omega) (FY (vals ys)) (GI _) [HA.blk b9 [.slice (some ⟨pb,0,none⟩) us.length c9] 139] [.dblk b1 [cW b] 102, .dblk b (da 4 ⟨#[]⟩ ⟨#[]⟩ A0 (2*us.length) cap0) 150, .kids (.slice A0 (2*us.length) cap0) ys] aC (fun args w=>gV JJ args w) (fun W dk h1 h2=>EJ ys A0 (2*us.length) cap0 b b1 b9 pb us.length c9 _ _ _ hfl.symm W dk h1 h2)) Z Z (cl 0 Z (dC 1 2 Z Z)) (fun u85 M85 D85 hv85=>?_)
 obtain⟨rfl,⟨ds,hdp,hds,rfl⟩,rfl⟩:=hv85
 rw [hys]at hds
 obtain⟨es,hep,hes,hee⟩:=JI hl hdp hds
 rw [hee]
 have hel:es.length=us.length:=by rw [hep.length_eq,List.length_range]
 have hep2:es.Perm (List.range ks.length):=by rw [hl];exact hep
 refine oK 1 [9,2,1] Z Z (rO 3 Z ?_)
 refine yX Z Z (iM ..) (zA ?_)
 refine zS cx Z (fun b11=>?_)
 change cL _ _ _ _ _ _ _ _ (HA.blk _ [_,_,_,_,_] _::_) _
 refine zA (zF 0 (M':=[HA.blk _ [_,_,_,_,_] _,_,_,_]) Z Z Z Z cY Z Z Z ?_)
 refine oO 5 Z (zG 2 Dj Z Z Z Z ?_)
 refine zA (yA ui Z Z ?_)
 refine oK 4 [89,88,87,11,2,1] Z Z (xS 25 5 ?_)
 refine xS 9 1 (tL ?_)
 refine yL 1 (fun(⟨i3,KA,kc,KI,ic,xv⟩:Nat×Option Addr×Nat×Option Addr×Nat×List Value)=>i3≤us.length) (fun(⟨i3,KA,kc,KI,ic,xv⟩:Nat×Option Addr×Nat×Option Addr×Nat×List Value)=>[(89, .int .i64 ((i3:Nat):Int))]) (fun(⟨i3,KA,kc,KI,ic,xv⟩:Nat×Option Addr×Nat×Option Addr×Nat×List Value)=>HA.row KA i3 kc 9 1 ((es.take i3).map (fun x=>Value.string (ks.getD x ⟨#[]⟩)))::HA.row KI i3 ic 25 5 xv::HA.blk b11 [.int .i64 5, .int .i64 0, .string ⟨#[]⟩, .slice KA i3 kc, .slice KI i3 ic] 25::HA.row (some ⟨pb,0,none⟩) us.length c9 3 1 (es.map ye)::HA.blk b9 [.slice (some ⟨pb,0,none⟩) us.length c9] 139::HA.blk b2 [.int .i64 0, .int .i64 0, .string ⟨#[]⟩, .slice none 0 0, .slice none 0 0] 25::[]) (fun(⟨i3,KA,kc,KI,ic,xv⟩:Nat×Option Addr×Nat×Option Addr×Nat×List Value)=> .its xv ((es.take i3).map (fun x=>(us.map cz).getD x Dq)):: .dblk b1 [cW b] 102:: .dblk b (da 4 ⟨#[]⟩ ⟨#[]⟩ A0 (2*us.length) cap0) 150:: .kids (.slice A0 (2*us.length) cap0) ys:: .node b (dG 4 ys)::kg fb::[]) (fun(⟨i3,KA,kc,KI,ic,xv⟩:Nat×Option Addr×Nat×Option Addr×Nat×List Value)=>us.length - i3) (0,none,0,none,0,[]) bq (eC Z (eN _)) Z Z ?_ (eC Z (eC Z (eC Z (eC Z (eC Z (eN _))))))
 intro ⟨i3,KA,kc,KI,ic,xv⟩ hI K hK1
 change Run _ _ _ _ _ [(89,_),(88,_),(87,_),(11,_),(2,_),(1,_)] [_,_,_,_,_,_] [_,_,_,_,_,_]
 have hi3:i3≤us.length:=hI
 refine rO 3 Z (yJ Z Z Z ?_)
 refine oR 2 Z (zN Z (fun h90=>?_) (fun h90=>?_))
 ·have hld:i3<es.length:=by omega
  have hde:es[i3]<us.length:=jE hep _ (List.getElem_mem hld)
  have hdk:es[i3]<ks.length:=by omega
  have hdv:es[i3]<(us.map cz).length:=by rw [List.length_map];exact hde
  refine rO 8 Z (wJ ui Z Z Z h90 ?_)
  refine zA ?_
  refine yH KF Z Z (fun _ h=>Is h (i:=3) Z (by rw [List.getElem?_map,List.getElem?_eq_getElem hld];rfl)) ?_
  refine oO 8 Z (zH 1 dU Z Z Z Z ?_)
  refine oO 3 Z (zC wS Z Z ?_)
  refine zA (zH 2 dg Z Z Z Z ?_)
  refine oO 3 Z (wY (i:=2*es[i3]) 3 cy Z Z Z Z aC ?_)
  refine tE 3 (2*es[i3]) Z (hk0 _ hde) (fun bk=>?_)
  refine rL 1 Z (fun A1 cap1 ht1 hv1 hl1 hc1=>?_)
  refine zA (yH dU Z Z (fun _ h=>tF h (j:=2) Z) ?_)
  refine oO 3 Z (zC vB Z Z ?_)
  refine zA (zH 0 dK Z Z Z Z ?_)
  refine oK 3 [14,13,12,89,88,87,11,2,1] Z Z (rO 3 Z ?_)
  refine zH 5 dU Z Z Z Z (oO 3 Z ?_)
  refine zC wS Z Z (zA ?_)
  refine zH 6 dg Z Z Z Z (oO 3 Z ?_)
  refine yB Z Z aC (zA ?_)
  refine wY (i:=2*es[i3]+1) 7 cy Z Z Z Z aC (tE 7 (2*es[i3]+1) Z (hk1 _ hde) (fun bv=>?_))
  refine zA (yH dU Z Z (fun _ h=>tF h (j:=0) Z) ?_)
  refine zA (zT Z Z Z (H _ (List.getElem_mem hde) bv) (dC 1 11 Z Z) (fun u113 D113 hv113=>?_))
  obtain⟨_,rfl,A113,c113,B113,d113,rfl,rfl⟩:=hv113
  refine oO 7 Z (zS cx Z (fun b15=>?_))
  change cL _ _ _ _ _ _ _ _ (HA.blk _ [_,_,_,_,_] _::_) _
  refine zA (zF 0 (M':=[HA.blk _ [_,_,_,_,_] _,_,_,_,_,_,_]) Z Z Z Z cY Z Z Z ?_)
  refine oK 3 [16,15,14,12,89,88,87,11,2,1] Z Z (rS 9 Z ?_)
  refine vM (s:=118) Z (rfl) (oO 3 Z ?_)
  refine vC Z Z Z (oS 2 Z ?_)
  refine yC (s:=121) Z (fun h121=>?_) (fun h121=>?_)
  ·refine zI Z Z (zC xI Z Z ?_)
   refine zI Z Z (zG 3 dN Z Z Z Z ?_)
   refine oO 3 Z (xY (s:=((i3 - 1:Nat):Int)) Z Z Z aC aC aC ?_)
   refine zI Z Z (p6 1 cX Z Z Z Z aC ?_)
   refine zI Z Z (yH (v:= .string (ks.getD (es[i3 - 1]'aC) ⟨#[]⟩)) dK Z Z (fun _ h=>AE h (i:=1) Z (Dt aC aC)) ?_)
   refine oK 9 [131,15,14,89,88,87,11,2,1] Z Z (xL Z (decide_eq_false (fun he=>BW hnd hep2 (i:=i3 - 1) (j:=i3) aC aC he)) ?_)
   refine xZ (yO yE ?_)
   refine zR (tP 0 Z cK (zY xI Z) ?_)
   refine tP 2 Z cK (zZ Z) (tP 5 Z cK (zY yV Z) ?_)
   refine uS (zB 0 Z (zB 2 Z (zQ _))) (wD (zB 0 Z (zB 2 Z (zQ _))) 1 (yN _ _ _ _) Z cK aD aD aD Z (yR 1 dN Z Z Z) ?_)
   refine wD (zB 0 Z (zB 2 Z (zQ _))) 6 (yN _ _ _ _) Z cK aD aD aD Z (yR 1 dJ Z Z Z) (wD (zB 0 Z (zB 2 Z (zQ _))) 7 (yN _ _ _ _) Z cK aD aD aD Z (vG 0 Z cP Z) ?_)
   refine tX (rs:=[3,8]) aD aJ ?_
   intro j hj
   simp only [List.mem_cons,List.not_mem_nil,or_false]at hj
   rcases hj with rfl|rfl
   ·refine zO (I2:=[[7,6,1],[5,0],[]]) Z cK aD (fun Kd hKd=>?_)
    refine zM cX Z Z Z Z Z (fun b136=>?_)
    refine hKd _ _ _ (vV sK sQ (hC (zD (zP)))) ?_
    refine tX (rs:=[4,8]) aD aJ ?_
    intro j hj
    simp only [List.mem_cons,List.not_mem_nil,or_false]at hj
    rcases hj with rfl|rfl
    ·refine zO (I2:=[[7,6],[5],[]]) Z cK aD (fun Kd hKd=>?_)
     refine cf 2 0 cX (fun A137 c137=>?_)
     refine hKd _ _ _ (vV sK sQ (hC (zD (zP)))) ?_
     refine zR (tP 10 Z cK (zY xI Z) ?_)
     refine zL 8 aD ?_
     refine zO (I2:=[[10],[6],[5],[]]) Z cK aD (fun Kd hKd=>?_)
     refine zM cg Z Z Z Z Z (fun b141=>?_)
     refine hKd _ _ _ (hC (vV sK sQ (hC (zD (zP))))) ?_
     refine zL 9 aD ?_
     refine zO (I2:=[[10],[],[],[]]) Z cK aD (fun Kd hKd=>?_)
     refine cf 4 0 cg (fun A142 c142=>?_)
     refine hKd _ _ _ (hC (zD (zD (zD (zP))))) (zL 11 aD ?_)
     refine zO (I2:=[[],[],[],[]]) Z cK aD (fun Kd hKd=>?_)
     refine zF 5 (M':=[_,_,_,_,_,HA.blk _ [_,_,_,_,_] _,_,_,_]) Z Z Z Z fF Z Z Z (hKd _ _ _ (zD (zD (zD (zD (zP))))) ?_)
     refine tP 12 Z cK (zY yV Z) (zL 13 aD ?_)
     refine zO (I2:=[[],[],[],[]]) Z cK aD (fun Kd hKd=>?_)
     refine zF 5 (M':=[_,_,_,_,_,HA.blk _ [_,_,_,_,_] _,_,_,_]) Z Z Z Z ei Z Z Z (hKd _ _ _ (zD (zD (zD (zD (zP))))) ?_)
     refine yG aD (rK 0 [89,88,87,11,2,1] Z Z ?_)
     refine rO 3 Z (yB Z Z aC ?_)
     refine oR 3 Z (wN 7 0 Z Z Z ?_)
     rw [uE (f:=fun x=>(us.map cz).getD x Dq) hld bJ,uE (f:=fun x=>Value.string (ks.getD x ⟨#[]⟩)) hld rfl]
     exact kQ (hK1 (i3+1,_,_,_,_,_) bZ aw) (eC Z (eC Z (eC Z (eC Z (eC Z (eC Z (eN _))))))) (hD:=(cl 0 Z sQ))
    refine zO (I2:=[[6,1],[5,0],[]]) Z cK aD (fun Kd hKd=>?_)
    refine zM cg Z Z Z Z Z (fun b141=>?_)
    refine hKd _ _ _ (vV sK sQ (hC (zD (zP)))) ?_
    refine zL 4 aD ?_
    refine zO (I2:=[[6],[5],[]]) Z cK aD (fun Kd hKd=>?_)
    refine cf 3 1 cX (fun A137 c137=>?_)
    refine hKd _ _ _ (vV sK sQ (hC (zD (zP)))) ?_
    refine zR (tP 10 Z cK (zY xI Z) ?_)
    refine zL 9 aD ?_
    refine zO (I2:=[[10],[],[],[]]) Z cK aD (fun Kd hKd=>?_)
    refine cf 4 0 cg (fun A142 c142=>?_)
    refine hKd _ _ _ (hC (zD (zD (zD (zP))))) (zL 11 aD ?_)
    refine zO (I2:=[[],[],[],[]]) Z cK aD (fun Kd hKd=>?_)
    refine zF 5 (M':=[_,_,_,_,_,HA.blk _ [_,_,_,_,_] _,_,_,_]) Z Z Z Z fF Z Z Z (hKd _ _ _ (zD (zD (zD (zD (zP))))) ?_)
    refine tP 12 Z cK (zY yV Z) (zL 13 aD ?_)
    refine zO (I2:=[[],[],[],[]]) Z cK aD (fun Kd hKd=>?_)
    refine zF 5 (M':=[_,_,_,_,_,HA.blk _ [_,_,_,_,_] _,_,_,_]) Z Z Z Z ei Z Z Z (hKd _ _ _ (zD (zD (zD (zD (zP))))) ?_)
    refine yG aD (rK 0 [89,88,87,11,2,1] Z Z ?_)
    refine rO 3 Z (yB Z Z aC ?_)
    refine oR 3 Z (wN 7 0 Z Z Z ?_)
    rw [uE (f:=fun x=>(us.map cz).getD x Dq) hld bJ,uE (f:=fun x=>Value.string (ks.getD x ⟨#[]⟩)) hld rfl]
    exact kQ (hK1 (i3+1,_,_,_,_,_) bZ aw) (eC Z (eC Z (eC Z (eC Z (eC Z (eC Z (eN _))))))) (hD:=(cl 0 Z sQ))
   refine zO (I2:=[[6,1],[5,2,0],[]]) Z cK aD (fun Kd hKd=>?_)
   refine zM cg Z Z Z Z Z (fun b141=>?_)
   refine hKd _ _ _ (vV sK sQ (hC (zD (zP)))) ?_
   refine zL 3 aD ?_
   refine zO (I2:=[[6,1],[5,0],[]]) Z cK aD (fun Kd hKd=>?_)
   refine zM cX Z Z Z Z Z (fun b136=>?_)
   refine hKd _ _ _ (vV sK sQ (hC (zD (zP)))) ?_
   refine zL 4 aD ?_
   refine zO (I2:=[[6],[5],[]]) Z cK aD (fun Kd hKd=>?_)
   refine cf 3 0 cX (fun A137 c137=>?_)
   refine hKd _ _ _ (vV sK sQ (hC (zD (zP)))) ?_
   refine zR (tP 10 Z cK (zY xI Z) ?_)
   refine zL 9 aD ?_
   refine zO (I2:=[[10],[],[],[]]) Z cK aD (fun Kd hKd=>?_)
   refine cf 4 1 cg (fun A142 c142=>?_)
   refine hKd _ _ _ (hC (zD (zD (zD (zP))))) (zL 11 aD ?_)
   refine zO (I2:=[[],[],[],[]]) Z cK aD (fun Kd hKd=>?_)
   refine zF 5 (M':=[_,_,_,_,_,HA.blk _ [_,_,_,_,_] _,_,_,_]) Z Z Z Z fF Z Z Z (hKd _ _ _ (zD (zD (zD (zD (zP))))) ?_)
   refine tP 12 Z cK (zY yV Z) (zL 13 aD ?_)
   refine zO (I2:=[[],[],[],[]]) Z cK aD (fun Kd hKd=>?_)
   refine zF 5 (M':=[_,_,_,_,_,HA.blk _ [_,_,_,_,_] _,_,_,_]) Z Z Z Z ei Z Z Z (hKd _ _ _ (zD (zD (zD (zD (zP))))) ?_)
   refine yG aD (rK 0 [89,88,87,11,2,1] Z Z ?_)
   refine rO 3 Z (yB Z Z aC ?_)
   refine oR 3 Z (wN 7 0 Z Z Z ?_)
   rw [uE (f:=fun x=>(us.map cz).getD x Dq) hld bJ,uE (f:=fun x=>Value.string (ks.getD x ⟨#[]⟩)) hld rfl]
   exact kQ (hK1 (i3+1,_,_,_,_,_) bZ aw) (eC Z (eC Z (eC Z (eC Z (eC Z (eC Z (eN _))))))) (hD:=(cl 0 Z sQ))
  refine oK 13 [131,15,14,89,88,87,11,2,1] Z Z (rR 2 Z ?_)
  refine yO yE (zR ?_)
  refine tP 0 Z cK (zY xI Z) (tP 2 Z cK (zZ Z) ?_)
  refine tP 5 Z cK (zY yV Z) (uS (zB 0 Z (zB 2 Z (zQ _))) ?_)
  refine wD (zB 0 Z (zB 2 Z (zQ _))) 1 (yN _ _ _ _) Z cK aD aD aD Z (yR 1 dN Z Z Z) (wD (zB 0 Z (zB 2 Z (zQ _))) 6 (yN _ _ _ _) Z cK aD aD aD Z (yR 1 dJ Z Z Z) ?_)
  refine wD (zB 0 Z (zB 2 Z (zQ _))) 7 (yN _ _ _ _) Z cK aD aD aD Z (vG 0 Z cP Z) (tX (rs:=[3,8]) aD aJ ?_)
  intro j hj
  simp only [List.mem_cons,List.not_mem_nil,or_false]at hj
  rcases hj with rfl|rfl
  ·refine zO (I2:=[[7,6,1],[5,0],[]]) Z cK aD (fun Kd hKd=>?_)
   refine zM cX Z Z Z Z Z (fun b136=>?_)
   refine hKd _ _ _ (vV sK sQ (hC (zD (zP)))) ?_
   refine tX (rs:=[4,8]) aD aJ ?_
   intro j hj
   simp only [List.mem_cons,List.not_mem_nil,or_false]at hj
   rcases hj with rfl|rfl
   ·refine zO (I2:=[[7,6],[5],[]]) Z cK aD (fun Kd hKd=>?_)
    refine cf 2 0 cX (fun A137 c137=>?_)
    refine hKd _ _ _ (vV sK sQ (hC (zD (zP)))) ?_
    refine zR (tP 10 Z cK (zY xI Z) ?_)
    refine zL 8 aD ?_
    refine zO (I2:=[[10],[6],[5],[]]) Z cK aD (fun Kd hKd=>?_)
    refine zM cg Z Z Z Z Z (fun b141=>?_)
    refine hKd _ _ _ (hC (vV sK sQ (hC (zD (zP))))) ?_
    refine zL 9 aD ?_
    refine zO (I2:=[[10],[],[],[]]) Z cK aD (fun Kd hKd=>?_)
    refine cf 4 0 cg (fun A142 c142=>?_)
    refine hKd _ _ _ (hC (zD (zD (zD (zP))))) (zL 11 aD ?_)
    refine zO (I2:=[[],[],[],[]]) Z cK aD (fun Kd hKd=>?_)
    refine zF 5 (M':=[_,_,_,_,_,HA.blk _ [_,_,_,_,_] _,_,_,_]) Z Z Z Z fF Z Z Z (hKd _ _ _ (zD (zD (zD (zD (zP))))) ?_)
    refine tP 12 Z cK (zY yV Z) (zL 13 aD ?_)
    refine zO (I2:=[[],[],[],[]]) Z cK aD (fun Kd hKd=>?_)
    refine zF 5 (M':=[_,_,_,_,_,HA.blk _ [_,_,_,_,_] _,_,_,_]) Z Z Z Z ei Z Z Z (hKd _ _ _ (zD (zD (zD (zD (zP))))) ?_)
    refine yG aD (rK 0 [89,88,87,11,2,1] Z Z ?_)
    refine rO 3 Z (yB Z Z aC ?_)
    refine oR 3 Z (wN 7 0 Z Z Z ?_)
    rw [uE (f:=fun x=>(us.map cz).getD x Dq) hld bJ,uE (f:=fun x=>Value.string (ks.getD x ⟨#[]⟩)) hld rfl]
    exact kQ (hK1 (i3+1,_,_,_,_,_) bZ aw) (eC Z (eC Z (eC Z (eC Z (eC Z (eC Z (eN _))))))) (hD:=(cl 0 Z sQ))
   refine zO (I2:=[[6,1],[5,0],[]]) Z cK aD (fun Kd hKd=>?_)
   refine zM cg Z Z Z Z Z (fun b141=>?_)
   refine hKd _ _ _ (vV sK sQ (hC (zD (zP)))) ?_
   refine zL 4 aD ?_
   refine zO (I2:=[[6],[5],[]]) Z cK aD (fun Kd hKd=>?_)
   refine cf 3 1 cX (fun A137 c137=>?_)
   refine hKd _ _ _ (vV sK sQ (hC (zD (zP)))) ?_
   refine zR (tP 10 Z cK (zY xI Z) ?_)
   refine zL 9 aD ?_
   refine zO (I2:=[[10],[],[],[]]) Z cK aD (fun Kd hKd=>?_)
   refine cf 4 0 cg (fun A142 c142=>?_)
   refine hKd _ _ _ (hC (zD (zD (zD (zP))))) (zL 11 aD ?_)
   refine zO (I2:=[[],[],[],[]]) Z cK aD (fun Kd hKd=>?_)
   refine zF 5 (M':=[_,_,_,_,_,HA.blk _ [_,_,_,_,_] _,_,_,_]) Z Z Z Z fF Z Z Z (hKd _ _ _ (zD (zD (zD (zD (zP))))) ?_)
   refine tP 12 Z cK (zY yV Z) (zL 13 aD ?_)
   refine zO (I2:=[[],[],[],[]]) Z cK aD (fun Kd hKd=>?_)
   refine zF 5 (M':=[_,_,_,_,_,HA.blk _ [_,_,_,_,_] _,_,_,_]) Z Z Z Z ei Z Z Z (hKd _ _ _ (zD (zD (zD (zD (zP))))) ?_)
   refine yG aD (rK 0 [89,88,87,11,2,1] Z Z ?_)
   refine rO 3 Z (yB Z Z aC ?_)
   refine oR 3 Z (wN 7 0 Z Z Z ?_)
   rw [uE (f:=fun x=>(us.map cz).getD x Dq) hld bJ,uE (f:=fun x=>Value.string (ks.getD x ⟨#[]⟩)) hld rfl]
   exact kQ (hK1 (i3+1,_,_,_,_,_) bZ aw) (eC Z (eC Z (eC Z (eC Z (eC Z (eC Z (eN _))))))) (hD:=(cl 0 Z sQ))
  refine zO (I2:=[[6,1],[5,2,0],[]]) Z cK aD (fun Kd hKd=>?_)
  refine zM cg Z Z Z Z Z (fun b141=>?_)
  refine hKd _ _ _ (vV sK sQ (hC (zD (zP)))) ?_
  refine zL 3 aD ?_
  refine zO (I2:=[[6,1],[5,0],[]]) Z cK aD (fun Kd hKd=>?_)
  refine zM cX Z Z Z Z Z (fun b136=>?_)
  refine hKd _ _ _ (vV sK sQ (hC (zD (zP)))) ?_
  refine zL 4 aD ?_
  refine zO (I2:=[[6],[5],[]]) Z cK aD (fun Kd hKd=>?_)
  refine cf 3 0 cX (fun A137 c137=>?_)
  refine hKd _ _ _ (vV sK sQ (hC (zD (zP)))) ?_
  refine zR (tP 10 Z cK (zY xI Z) ?_)
  refine zL 9 aD ?_
  refine zO (I2:=[[10],[],[],[]]) Z cK aD (fun Kd hKd=>?_)
  refine cf 4 1 cg (fun A142 c142=>?_)
  refine hKd _ _ _ (hC (zD (zD (zD (zP))))) (zL 11 aD ?_)
  refine zO (I2:=[[],[],[],[]]) Z cK aD (fun Kd hKd=>?_)
  refine zF 5 (M':=[_,_,_,_,_,HA.blk _ [_,_,_,_,_] _,_,_,_]) Z Z Z Z fF Z Z Z (hKd _ _ _ (zD (zD (zD (zD (zP))))) ?_)
  refine tP 12 Z cK (zY yV Z) (zL 13 aD ?_)
  refine zO (I2:=[[],[],[],[]]) Z cK aD (fun Kd hKd=>?_)
  refine zF 5 (M':=[_,_,_,_,_,HA.blk _ [_,_,_,_,_] _,_,_,_]) Z Z Z Z ei Z Z Z (hKd _ _ _ (zD (zD (zD (zD (zP))))) ?_)
  refine yG aD (rK 0 [89,88,87,11,2,1] Z Z ?_)
  refine rO 3 Z (yB Z Z aC ?_)
  refine oR 3 Z (wN 7 0 Z Z Z ?_)
  rw [uE (f:=fun x=>(us.map cz).getD x Dq) hld bJ,uE (f:=fun x=>Value.string (ks.getD x ⟨#[]⟩)) hld rfl]
  exact kQ (hK1 (i3+1,_,_,_,_,_) bZ aw) (eC Z (eC Z (eC Z (eC Z (eC Z (eC Z (eN _))))))) (hD:=(cl 0 Z sQ))
 obtain rfl:i3=us.length:=by omega
 have het:es.take us.length=es:=by rw [←hel];exact List.take_length
 rw [het]
 refine wP 0 (es.map fun x=>ks.getD x ⟨#[]⟩) Z ba (by rw [List.map_map];rfl) (by intro s hs;obtain⟨x,hx,rfl⟩:=List.mem_map.1 hs;rw [tZ (jE hep2 _ hx)];exact hszs _ (List.getElem_mem _)) (uM 0 1 (es.map fun x=>(us.map cz).getD x Dq) Z Z ba (by rw [List.length_map,hel]) ?_)
 refine wU 1 0 Z Z (s:=⟨#[]⟩) (q:=5) (m:=0) aE (rO 4 Z ?_)
 refine zJ 0 Z cP Z Z (zA ?_)
 refine zF 3 (M':=[_,_,_,HA.blk _ [_,_,_,_,_] _]) Z Z Z Z cY Z Z Z (oR 3 Z ?_)
 have hsv:cz (.mk 5 0 ⟨#[]⟩ ks us)= .mk 5 0 ⟨#[]⟩ (es.map fun x=>ks.getD x ⟨#[]⟩) (es.map fun x=>(us.map cz).getD x Dq):=by
  rw [kZ (x6 Dq ks (us.map cz) es (by rw [List.length_map];exact hl) hnd hep2 hes),List.map_map,List.map_map]
  rfl
 rw [hsv]
 refine yQ (M':=[HA.blk b2 [_,_,_,_,_] 25]) (by repeat (first|exact zQ _|refine zB 0 Z ?_|refine zB 1 Z ?_|refine zB 2 Z ?_|refine zB 3 Z ?_|refine zB 4 Z ?_)) ?_
 exact xX 0 Tryz.results107 Z Z Z cP ⟨rfl,_,rfl,KA,kc,KI,ic,by simp only [V.kind,V.num,V.text,V.keys,V.items,List.length_map,hel],rfl⟩ nS (cS 0 Z)
theorem N0(fb:Addr)(u:V):Pl (cz u)→Eql u→Gb fb u:=by
  refine V.indS (p:=fun u=>Pl (cz u)→Eql u→Gb fb u) (fun u IH hp he=>?_) u
  have hk:=GH hp
  have hD: ∀ {b:Nat} {y:Y} {v:V},CtR Tryz.prog 166 #[cW b] [.node b y] (AR v)→CtR Tryz.prog 166 #[cW b] [.node b y,kg fb] (AR v):=fun h=>Ct.data h (fun d hd=>by rw [List.mem_singleton.1 hd];exact List.mem_cons_self)
  intro b
  by_cases h4:u.kind=4
  · obtain⟨hu,h60,hit⟩:=NU hp he h4
    have h1:=Li fb b u.items h60 (fun x hx=>IH x (xB hx) (hit x hx).1 (hit x hx).2)
    rw [←x5,←mR (q:=4) (n:=0) (s:=⟨#[]⟩) (ks:=[]) aE,←hu]at h1
    exact h1
  by_cases h5:u.kind=5
  · obtain⟨hu,hl,h60,hnd,hkw,hit⟩:=NV hp he h5
    have h1:=Lj fb b u.keys u.items hl h60 hnd (fun k hk=>by have:=(hkw k hk).1.2;unfold maxLen;omega) (fun x hx=>IH x (xB hx) (hit x hx).1 (hit x hx).2) _ rfl
    rw [←rr,←hu]at h1
    exact h1
  obtain⟨hpu,hu⟩:=GG hp h4 h5
  rw [hu]
  have hk8:(dW u).kind=8:=by rw [BU hk.1 hk.2,if_neg h4,if_neg h5]
  refine Lh fb b _ u hk8 ?_
  have hnum:=hpu.num
  rcases(by omega:u.kind=0∨u.kind=1∨u.kind=2∨u.kind=3∨u.kind=6)with h|h|h|h|h
  · have hs:=gh hpu aC aC
    obtain⟨q,m,s,ks,ts⟩:=u
    simp only [V.kind]at h
    subst h
    simp only [V.kind,V.num,V.text,V.keys,V.items]at hs
    have e:V.mk 0 m s ks ts= .mk 0 0 ⟨#[]⟩ [] []:=by
      unfold dR at hs
      simp at hs
      simp [hs]
    rw [e,pL]
    exact hD (Le b)
  · obtain⟨hl,hn⟩:=jC hpu h
    rw [hl,jD]
    rcases hn with hn|hn
    · rw [hn];exact hD (Ld b)
    · rw [hn];exact hD (Lc b)
  · have hl:=nZ hpu h
    obtain⟨a1,a2⟩:=hnum.num aC
    rw [hl,nc]
    exact hD (Lf b _ a1 a2)
  · have hl:=gK hpu h
    rw [hl,gL]
    exact hD (Lb b _)
  · have hl:=Do hpu h
    obtain⟨a1,a2⟩:=hnum.num aC
    have h0:=hpu.frac h
    rw [hl,Dp]
    exact Lg fb b _ h0 a1 a2
end Go.Jw

namespace Go.Jw
open Go Go.RowKit Go.Proofs
set_option maxRecDepth 8000
section rules
variable {P:Program} {n:Nat} {F:List Nat} {c:Ctx F} {ops:Array Oper} {d:Nat} {T:TypeId} {l:List Oper} {k:List KI} {Q:Post} {e:dI} {M:List HA} {D:List DA}
theorem yf(i j:Nat){mb:Nat}{G:Gr}(hi:M[i]? =some (.many 124 (Gr.blks G)))(hj:D[j]? =some (.graph mb G))(hF:F=[])(next:cL P n c ops l k Q e (M.eraseIdx i) (.gr mb G::D)):cL P n c ops l k Q e M D:=
  jU (h:= .many 124 (Gr.blks G)) [.gr mb G] (fun x _ h=>by rw [hF]at h;cases h) (vN hi) (fun w ok h hok hD d hd=>by
    rcases List.mem_singleton.1 hd with rfl
    intro g hg
    have hm:(g.1,g.2.1)∈Gr.blks G:=List.mem_map.2 ⟨g,hg,rfl⟩
    refine⟨⟨hok _ ?_,h _ hm⟩,mb,(dget hD j hj:(DA.graph mb G).p w ok) g hg⟩
    simp only [HA.foot,List.mem_map]
    exact⟨_,hm,rfl⟩) next
end rules
def Om(t:V)(u:Value)(D':List DA):Prop:= ∃A1 c1 A2 c2,u= .agg #[.int .i64 0, .int .i64 t.kind, .int .i64 t.num, .string t.text, .slice A1 t.keys.length c1, .slice A2 t.items.length c2]∧D'=[.val (.agg #[.int .i64 t.kind, .int .i64 t.num, .string t.text, .slice A1 t.keys.length c1, .slice A2 t.items.length c2]) t]
theorem Lk(fb:Addr){u:V}(hp:Pl (cz u))(he:Eql u)(b:Nat):CtR Tryz.prog 107 #[cW b] [.node b (dW u),yd fb] (AR (cz u)):=Ct.wide (N0 fb u hp he b) (fun w ok h d hd=>by
 have h4:=h (yd fb) aJ
 simp only [List.mem_cons,List.not_mem_nil,or_false]at hd
 rcases hd with rfl|rfl
 ·exact h _ List.mem_cons_self
 ·exact h4.2)

theorem N1(ft:DA)(mb:Nat)(G:Gr)(v:V)(b:Nat)(hU:Unf G v b)(hC:oe ft mb G v):CtR Tryz.prog 108 #[cW b] [.gr mb G, .tab,ft] (fun u D'=> ∃y,eE v y∧RN y u D'):=by
 refine Ct.of_run (args:=[cW b]) Tryz.func108 aF Z Tryz.ntmps108 Z (fun c=>?_)
 refine rO 10 Z (zT Z Z Z (hC b hU) (cl 0 Z (dC 1 2 Z Z)) (fun u4 D4 hv4=>?_))
 obtain⟨y4,hy4,b4,rfl,rfl⟩:=hv4
 exact oR 3 Z (zE Tryz.results108 Z ⟨rfl,y4,hy4,b4,rfl,rfl⟩ nS (cS 0 Z))
theorem Pq(fb:Addr)(mb:Nat)(G:Gr)(v:V)(b:Nat)(hU:Unf G v b)(hp:Pl v)(hs:IsShape v):CtR Tryz.prog 60 #[cW b] [.gr mb G, .tab,yd fb] (Om (wr v)):=by
 refine Ct.of_run (args:=[cW b]) Tryz.func60 aF Z Tryz.ntmps60 Z (fun c=>?_)
 refine rO 3 Z (zS KR Z (fun b2=>?_))
 change cL _ _ _ _ _ _ _ _ (HA.blk _ [_,_,_,_,_,_] _::_) _
 refine oO 7 Z (sP iC Z Z ?_)
 refine oO 8 Z (zT Z Z Z (N1 (yd fb) mb G v b hU (NT (yd fb) mb G v (.inl (Ny fb)) hp hs)) (cl 0 Z (dC 1 2 Z Z)) (fun u10 D10 hv10=>?_))
 obtain⟨y10,hy10,b10,rfl,rfl⟩:=hv10
 obtain⟨u,rfl,hu,he⟩:=Iq v hp hs y10 hy10
 have hpu:Pl (cz u):=hu▸Hs hs hp
 refine zA (zT Z Z Z (Lk fb hpu he b10) (dC 0 3 Z Z) (fun u11 D11 hv11=>?_))
 obtain⟨_,rfl,A11,m11,B11,d11,rfl,rfl⟩:=hv11
 rw [hu]
 refine oO 7 Z (zS cx Z (fun b3=>?_))
 change cL _ _ _ _ _ _ _ _ (HA.blk _ [_,_,_,_,_] _::_) _
 refine zA (zF 0 (M':=[HA.blk _ [_,_,_,_,_] _,_]) Z Z Z Z cY Z Z Z ?_)
 refine oK 3 [4,3,2] Z Z (rO 13 Z ?_)
 refine zJ 0 Z cP Z Z (zA ?_)
 refine yX Z Z (IQ ..) (zA ?_)
 refine zF 1 (M':=[_,HA.blk _ [_,_,_,_,_,_] _]) Z Z Z Z KQ Z Z Z (zX ?_)
 refine yQ (M':=[HA.blk b2 [_,_,_,_,_,_] 34]) (by repeat (first|exact zQ _|refine zB 0 Z ?_|refine zB 1 Z ?_|refine zB 2 Z ?_|refine zB 3 Z ?_|refine zB 4 Z ?_)) ?_
 exact yZ 0 Tryz.results60 Z Z KP ⟨rfl,A11,m11,B11,d11,rfl,rfl⟩ nS (cS 0 Z)
theorem c27(a b:V)(ha:Wf a)(hb:Wf b)(y:Value)(A1 A2:Option Addr)(c1 c2:Nat):dd Tryz.prog 27 #[.agg #[.int .i64 0, .int .i64 a.kind, .int .i64 a.num, .string a.text, .slice A1 a.keys.length c1, .slice A2 a.items.length c2],y] [.val (.agg #[.int .i64 a.kind, .int .i64 a.num, .string a.text, .slice A1 a.keys.length c1, .slice A2 a.items.length c2]) a, .val y b] (.bool (tb (eI a=eI b))):=by
 refine Ct.of_run (args:=[.agg #[.int .i64 0, .int .i64 a.kind, .int .i64 a.num, .string a.text, .slice A1 a.keys.length c1, .slice A2 a.items.length c2],y]) Tryz.func27 aF Z Tryz.ntmps27 Z (fun c=>?_)
 refine yP 1 Z (fun B1 m1 B2 m2 hy hsz hk1 hk2 hi1 hi2=>?_)
 subst hy
 refine rO 3 Z (yK Z Z Z (fun b2=>?_))
 refine zA (yK Z Z Z (fun b3=>?_))
 refine oR 4 Z (yO yE ?_)
 refine zR (tP 0 Z cK (zY II Z) ?_)
 refine yF (tM 1 Z cK (yR 1 fM Z Z Z) ?_)
 refine tM 2 Z cK (mr Z Z) (zR ?_)
 refine tP 3 Z cK (zZ Z) (o1 (s:=8) Z (rfl) ?_)
 refine tP 4 Z (dF Z Z) (zY IJ Z) (yF ?_)
 refine tM 5 Z (dF Z Z) (CW 1 Z cP Z Z Z) (tM 7 Z (dF Z Z) (vG 0 Z cP Z) ?_)
 refine zL 6 aD ?_
 refine zO (I2:=[[7],[],[],[],[]]) Z (dF Z Z) aD (fun Kd hKd=>?_)
 refine zT Z Z Z (Ol a ha _) aA (fun u11 D11 hv11=>?_)
 obtain⟨A11,m11,B11,d11,rfl,rfl⟩:=hv11
 refine hKd _ _ _ (hC (zD (zD (zD (zD (zP)))))) (zL 8 aD ?_)
 refine zO (I2:=[[],[],[],[],[]]) Z (dF Z Z) aD (fun Kd hKd=>?_)
 refine zT Z Z Z (Ol b hb _) aA (fun u13 D13 hv13=>?_)
 obtain⟨A13,m13,B13,d13,rfl,rfl⟩:=hv13
 refine hKd _ _ _ (zD (zD (zD (zD (zD (zP)))))) (zL 9 aD ?_)
 refine zO (I2:=[[],[],[],[],[]]) Z (dF Z Z) aD (fun Kd hKd=>?_)
 refine zK Z Z Z (c25 (eI a) (eI b) _ _) aB (hKd _ _ _ (zD (zD (zD (zD (zD (zP)))))) ?_)
 refine zR (tP 10 Z cK (rW Z Z) ?_)
 refine tP 11 Z cK (xC Z) (yG aD ?_)
 refine rK 0 [4] Z Z ?_
 exact zE Tryz.results27 Z ⟨rfl,rfl,rfl⟩ nS (fun _ h=>by cases h)
theorem JK{sh:Int}{x y:V}(h:y∈kidsOf sh x):y=x∨y∈x.items:=by
 unfold kidsOf at h
 (repeat' split at h)<;>first|(exact .inl (List.mem_singleton.1 h))|(exact .inr (List.mem_filter.1 h).1)|cases h
theorem JL{v x y:V}{sh:Int}(hp:Pl v)(hx:x∈v.items)(h:y∈kidsOf sh x):Pl y:=(JK h).elim (fun e=>e▸hp.item x hx) (fun e=>(hp.item x hx).item y e)
theorem pM:cM dL=1:=by decide+kernel
theorem EK{U:Nat→V→Prop}{x:V}{fv:FVal}(h:FvRel U 9 x fv): ∃l ps,fv= .named l∧ps.Perm (x.keys.zip x.items)∧All2 (fun(q:ByteArray×Nat) (p:ByteArray×V)=>q.1=p.1∧U q.2 p.2) l ps:=by
 cases fv<;>try exact absurd h.1 aE
 case any=>exact absurd (show(9:Int)=14 from h) aE
 case named l=>
  obtain⟨_,ps,hp,hU⟩:=h
  exact⟨l,ps,rfl,hp,hU⟩
theorem yg{v x:V}{key:ByteArray}(hs:IsShape v)(hp:Pl v)(h9:cM key=9)(hx:getV v key=some x):Pl x∧x.kind=5∧ ∀ z∈x.items,z.kind=5∧IsShape z∧Pl z:=by
 obtain⟨j,hj1,hj2⟩:=pD hx
 obtain⟨hf,hkid,_⟩:=((wQ v).1 hs).2 j _ _ hj1 hj2
 have hm:=List.mem_of_getElem? hj2
 rw [h9]at hf hkid
 obtain⟨h5,hi⟩:=fits9.1 ⟨hf,hkid⟩
 exact⟨hp.item x hm,h5,fun z hz=>⟨(hi z hz).kind,hi z hz,(hp.item x hm).item z hz⟩⟩
theorem EL(v:V):(cO v).keys.zip (cO v).items=((v.keys.zip v.items).filter (fun p=>eD p.1)).map (fun p=>(p.1,cQ (cM p.1) cO p.2)):=by
  rw [rD]
  unfold dD
  simp only [V.keys,V.items]
  rw [List.zip_map]
  generalize (List.filter _ _)=l
  induction l with
  |nil=>rfl
  |cons a l ih=>simp [ih]
theorem qU{v:V}(hs:IsShape v)(hp:Pl v):Pl (cO v):=hp.elim fun d h=>⟨d,x7 v hs d h⟩
theorem sI{v:V}(hs:IsShape v)(hp:Pl v)(key:ByteArray):getV (cO v) key=if eD key=true then(getV v key).map (cQ (cM key) cO)else none:=by
  have hget: ∀ y,getV (cO v) key=some y↔ ∃x,getV v key=some x∧eD key=true∧y=cQ (cM key) cO x:=by
    intro y
    rw [←xD (qU hs hp) (rT v),EL,List.mem_map]
    constructor
    · rintro ⟨⟨k',x⟩,hm,he⟩
      injection he with e1 e2
      subst e1;subst e2
      obtain⟨h1,h2⟩:=List.mem_filter.1 hm
      exact⟨x,(xD hp hs.kind).1 h1,h2,rfl⟩
    · rintro ⟨x,h1,h2,rfl⟩
      exact⟨(key,x),List.mem_filter.2 ⟨(xD hp hs.kind).2 h1,h2⟩,rfl⟩
  cases h:getV (cO v) key with
  |some y=>
    obtain⟨x,h1,h2,rfl⟩:=(hget y).1 h
    rw [if_pos h2,h1]
    rfl
  |none=>
    split
    · rename_i hk
      cases hv:getV v key with
      |none=>rfl
      |some x=>
        have:=(hget _).2 ⟨x,hv,hk,rfl⟩
        rw [h]at this
        cases this
    · rfl
theorem nx{w:World}{ok:Nat→Prop}{t:V}{y:Value}(h:ValP w ok t y): ∃A1 c1 A2 c2,y= .agg #[.int .i64 t.kind, .int .i64 t.num, .string t.text, .slice A1 t.keys.length c1, .slice A2 t.items.length c2]:=by
 obtain⟨q,r,s,ks,its⟩:=t
 simp only [ValP]at h
 obtain⟨kv,iv,rfl,_,⟨A1,c1,rfl,_⟩,A2,c2,rfl,_⟩:=h
 exact⟨A1,c1,A2,c2,rfl⟩
theorem vc(x:Value)(t:V)(key:ByteArray)(hkl:t.keys.length≤t.items.length):CtR Tryz.prog 62 #[x, .string key] [.val x t] (fun u D'=> ∃y,u= .tuple #[y, .bool (getV t key).isSome]∧RV ((getV t key).getD zV) y D'):=by
 refine⟨(Oj x t key hkl).1,fun w ok hok hM hn hD=>Calls.mono ((Oj x t key hkl).2 w ok hok hM hn hD) ?_⟩
 rintro e w' ⟨u,M',D',rfl,⟨hM',y,rfl,rfl⟩,hchg,hm,hn',hft,hd⟩
 obtain⟨A1,c1,A2,c2,hy⟩:=nx (hd _ List.mem_cons_self)
 exact⟨_,M',_,rfl,⟨hM',y,rfl,A1,c1,A2,c2,hy,rfl⟩,hchg,hm,hn',hft,hd⟩
end Go.Jw

namespace Go.Jw
open Go Go.RowKit
theorem vd(pre zs vs post:List Value)(h:zs.length=vs.length):d2 (pre++(zs++post)) pre.length vs=pre++(vs++post):=by
  induction vs generalizing pre zs with
  |nil=>
    have:zs=[]:=List.eq_nil_of_length_eq_zero h
    subst this
    rfl
  |cons v vs ih=>
    cases zs with
    |nil=>cases h
    |cons z zs=>
      have e:(pre++(z::zs++post)).set pre.length v=(pre++[v])++(zs++post):=by simp
      have:=ih (pre++[v]) zs cF
      rw [d2,e]
      simp only [List.length_append,List.length_singleton]at this
      rw [this]
      simp
section rules
variable {P:Program} {n:Nat} {F:List Nat} {c:Ctx F} {ops:Array Oper} {d:Nat} {T:TypeId} {l:List Oper} {k:List KI} {Q:Post} {e:dI} {M:List HA} {D:List DA}
theorem ny(i:Nat){x y:Operand}{A:Option Addr}{m cap j:Nat}{kd:IntKind}{S E sz by_ U:Nat}{xs:List Value}(hS:cd P S E sz by_)(hx:ev e x=some (.slice A m cap))(hy:ev e y=some (.int kd (j:Nat)))(hi:M[i]? =some (.row A m cap U sz xs))(hj:j<m):
  St P n c (.indexAddr S x y) T e M D (.pointer (some (At A (j*sz)))):=by
 intro d a w hf
 have hrow:=hf.toFitsW.mem hi
 rcases hrow.2 with ⟨_,h⟩|⟨g,cap',cur,hv,_⟩
 ·omega
 ·injection hv with h4
  subst h4
  exact tD (T:=T) hS hx hy hj d a w hf
theorem fX(i:Nat){x y:Operand}{A:Option Addr}{m cap E sz S:Nat}{pre zs vs:List Value}{v:Value}(hx:ev e x=some (.pointer (some (At A (m*sz)))))(hy:ev e y=some v)(hi:M[i]? =some (.row A (m+1) cap E sz (pre++zs)))(hz:zs.length=sz)(hvs:vs.length=sz)(hv:v.cells=vs.toArray)
  (hs: ∃i,P.info? S=some i∧i.size=sz) (h1:vs.all (·.oneCell')=true) (next:cL P n c ops l k Q e (M.set i (.row A (m+1) cap E sz (pre++vs))) D):cR P n c ops none (.store S x y) T l k Q e M D:=by
 intro a w hf
 have hrow:=hf.toFitsW.mem hi
 have hpl:pre.length=m*sz:=by
  have:=hrow.1
  rw [List.length_append,hz,Nat.succ_mul]at this
  omega
 rcases hrow.2 with ⟨_,h⟩|⟨g,cap',cur,hv',hg,hc,hnc,hm,hsz,ht⟩
 ·omega
 ·injection hv' with hA _ hcap
  subst hA;subst hcap
  have hcur:cur.toList=pre++(zs++cur.toList.drop ((m+1)*sz)):=by
   rw [←List.append_assoc,←ht,List.take_append_drop]
  have hcs:w.heap[g]? =some (.cells cur.toList.toArray E (0,0)):=by rw [Array.toArray_toList];exact hc
  obtain⟨w',hr,hh,hcg⟩:=hY (P:=P) (T':=S) (v:=v) (o:=pre.length) hcs hv (by rw [hvs];exact hs) (by rw [hcur];simp;omega) (fun u hu=>(List.all_eq_true.1 h1) u hu)
  have hadr:At (some ⟨g,0,none⟩) (m*sz)=⟨g,pre.length,none⟩:=by
   show(⟨g,0,none⟩:Addr).add (m*sz)=_
   rw [vD,Nat.zero_add,hpl]
  unfold Oper.wp
  have:(execOp a.eval (dM none (.store S x y) T)).run P w= .ok .skip w':=by simp [execOp,dM,hf.ev hx,hf.ev hy,hadr,hr]
  rw [this]
  refine next _ _ (hf.world (hf.toFitsW.swapAt hi (x':= .row (some ⟨g,0,none⟩) (m+1) cap E sz (pre++vs)) ?_ (by simpa [HA.foot]using hcg) cB (fun q hq=> .inl hq)))
  refine⟨by rw [List.length_append,hpl,hvs,Nat.succ_mul], .inr ⟨g,cap,_,rfl,Nat.zero_le _,hh,hnc,hm,?_,?_⟩⟩
  ·rw [List.size_toArray,mj];simpa using hsz
  ·have e:d2 cur.toList pre.length vs=pre++(vs++cur.toList.drop ((m+1)*sz)):=by
    conv=>lhs;rw [hcur]
    exact vd _ _ _ _ aC
   rw [e]
   show List.take ((m+1)*sz) (pre++(vs++_))=_
   rw [←List.append_assoc]
   exact List.take_left' (by rw [List.length_append,hpl,hvs,Nat.succ_mul])
theorem tA(i j:Nat){x y:Operand}{A:Option Addr}{m cap:Nat}{S E sz by_:Nat}{xs vs:List Value}{b:Nat}{U:TypeId}(hS:cd P S E sz by_)(hd:Nat.blt d n=true)(hx:ev e x=some (.slice A m cap))(hy:ev e y=some (.slice (some ⟨b,0,none⟩) 1 1))(hi:M[i]? =some (.row A m cap E sz xs))
  (hj:M[j]? =some (.blk b vs U)) (hl:vs.length=sz) (h1:vs.all (·.oneCell')=true) (hsz:m+1≤maxLen) (hby:(m+1)*by_≤140737488355328) (hA: ∀ a,A=some a→c.w0.heap.size≤a.block)
  (next: ∀ A' cap',(∀ a,A'=some a→c.w0.heap.size≤a.block)→cL P n c ops l k Q ((d, .slice A' (m+1) cap')::e) (M.set i (.row A' (m+1) cap' E sz (xs++vs))) D):
  cR P n c ops (some d) (.call {callee:= .builtin .append,args:= #[x,y],argTypes:= #[S,S]}) T l k Q e M D:=
 mq i hS hd hx hy hi aC (fun w h=> .inr ⟨_,rfl,fun q u hq=>by rw [vD];exact df h hj (by rw [Nat.zero_add];exact hq)⟩) (fun u hu=>List.all_eq_true.1 h1 u hu) hsz hby (fun A' cap' h=>next A' cap' (h hA))
theorem l0(i:Nat){h:HA}(D':List DA)(hfr: ∀ b∈h.foot,c.w0.heap.size≤b)(hi:M[i]? =some h)(hd: ∀ (w:World) (ok:Nat→Prop),h.holds w→(∀ b∈h.foot,ok b)→(∀ d∈D,d.p w ok)→ ∀ d∈D',d.p w ok)
  (next:Run P n c k Q e (M.eraseIdx i) (D'++D)):Run P n c k Q e M D:=
 wy D' (fun b hb hbF=>absurd (c.hF b hbF) (by have:=hfr b hb;omega)) (vN hi) hd next
theorem ib(i j:Nat){A:Option Addr}{m cap E:Nat}{xs:List Value}(ts:List V)(hA: ∀ a,A=some a→c.w0.heap.size≤a.block)(hi:M[i]? =some (.row A m cap E 5 xs))(hj:D[j]? =some (.its xs ts))(hm:m=ts.length)(next:Run P n c k Q e (M.eraseIdx i) (.vals (.slice A m cap) ts::D)):Run P n c k Q e M D:=
  l0 i [.vals (.slice A m cap) ts] (fun b hb=>by
    cases A with
    |none=>cases hb
    |some a=>rw [List.mem_singleton.1 hb];exact hA a rfl) hi (fun w ok h hok hD d hd=>by
    rcases List.mem_singleton.1 hd with rfl
    exact ls h hok (hD _ (List.mem_of_getElem? hj)) hm) next
theorem pE{fo:Operand}{ags:Array Operand}{ts:Array TypeId}{f:FuncId}{cap:Array Value}{vs:List Value}{pre M1:List HA}{D1:List DA}{R:Value→List HA→List DA→Prop}(hd:Nat.blt d n=true)(hfo:ev e fo=some (.func (.func f) #[] cap))(has:ags.toList.mapM (ev e)=some vs)
  (hct:Ct P f (vs.toArray++cap) M1 D1 R) (hM:M=pre++M1) (hD: ∀ d∈D1,d∈D)
  (next: ∀ v M' D',R v M' D'→cL P n c ops l k Q ((d,v)::e) (pre++M') (D'++D)):cR P n c ops (some d) (.call {callee:= .value fo,args:=ags,argTypes:=ts}) T l k Q e M D:=by
 subst hM
 refine fun a w hf=>vT (M1:=M1) (M2:=pre) hd hfo has hct Z hD (fun v M' D' hR a' w' hf'=>next v M' D' hR a' w' (hf'.world (hf'.toFitsW.perm List.perm_append_comm))) a w (hf.world (hf.toFitsW.perm List.perm_append_comm))
end rules
end Go.Jw

namespace Go.Jw
open Go Go.RowKit Go.Proofs
def HE(M N:List HA):Prop:=(∀ w:World,(∀ h∈M,h.holds w)↔ ∀ h∈N,h.holds w)∧(foots M).Perm (foots N)
theorem HE.refl(M:List HA):HE M M:=⟨fun _=>Iff.rfl, .refl _⟩
theorem HE.symm{M N:List HA}(h:HE M N):HE N M:=⟨fun w=>(h.1 w).symm,h.2.symm⟩
theorem HE.trans{M N L:List HA}(h:HE M N)(k:HE N L):HE M L:=⟨fun w=>(h.1 w).trans (k.1 w),h.2.trans k.2⟩
theorem HE.perm{M N:List HA}(h:M.Perm N):HE M N:=⟨fun w=>⟨fun a x hx=>a x (h.mem_iff.2 hx),fun a x hx=>a x (h.mem_iff.1 hx)⟩,mh h⟩
theorem HE.append{M N M' N':List HA}(h:HE M N)(k:HE M' N'):HE (M++M') (N++N'):=by
 refine⟨fun w=>?_,by rw [yS,yS];exact h.2.append k.2⟩
 have e: ∀ A B:List HA,(∀ x∈A++B,x.holds w)↔(∀ x∈A,x.holds w)∧ ∀ x∈B,x.holds w:=fun A B=>
  ⟨fun a=>⟨fun x hx=>a x (List.mem_append_left _ hx),fun x hx=>a x (List.mem_append_right _ hx)⟩,fun a x hx=>(List.mem_append.1 hx).elim (a.1 x) (a.2 x)⟩
 rw [e,e,h.1 w,k.1 w]
theorem FitsW.he{F:List Nat}{c:Ctx F}{M N:List HA}{D:List DA}{w:World}(h:FitsW c M D w)(he:HE M N):FitsW c N D w:=
 ⟨h.chg,(he.1 w).1 h.own,he.2.nodup_iff.1 h.nodup,fun b hb=>h.foot b (he.2.mem_iff.2 hb),fun d hd=>
  d.mono (fun k hk=>⟨hk.1,hk.2.1,fun h'=>hk.2.2 (he.2.mem_iff.2 h')⟩) (fun _ _=>rfl) (h.dat d hd)⟩
theorem Ct.he{P:Program}{f:FuncId}{args:Array Value}{M N:List HA}{D:List DA}{R:Value→List HA→List DA→Prop}(h:Ct P f args N D R)(he:HE M N):Ct P f args M D R:=by
 refine⟨h.1,fun w ok hok hM hn hD=>?_⟩
 refine Calls.mono (h.2 w ok (fun k hk=>⟨(hok k hk).1,fun h'=>(hok k hk).2 (he.2.mem_iff.2 h')⟩) ((he.1 w).1 hM) (he.2.nodup_iff.1 hn) hD) ?_
 rintro e w' ⟨v,M',D',rfl,hR,hchg,hm,hnd,hft,hdat⟩
 exact⟨v,M',D',rfl,hR,hchg.mono (fun k _ hk=>he.2.mem_iff.2 hk),hm,hnd,fun b hb=>(hft b hb).imp (fun h=>he.2.mem_iff.2 h) id,hdat⟩
theorem Ct.turn{P:Program}{f:FuncId}{args:Array Value}{M:List HA}{D:List DA}{R R':Value→List HA→List DA→Prop}(h:Ct P f args M D R)
  (hr:(foots M).Nodup→ ∀ u M' D',(foots M').Nodup→R u M' D'→ ∃N' E',HE M' N'∧(∀ (w:World) (ok:Nat→Prop),(∀ d∈D',d.p w ok)→(∀ d∈D,d.p w ok)→ ∀ d∈E',d.p w ok)∧R' u N' E'):Ct P f args M D R':=by
 refine⟨h.1,fun w ok hok hM hn hD=>Calls.mono (h.2 w ok hok hM hn hD) ?_⟩
 rintro e w' ⟨v,M',D',rfl,hR,hchg,hm,hnd,hft,hdat⟩
 obtain⟨N',E',he,hE,hR'⟩:=hr hn v M' D' hnd hR
 refine⟨v,N',E',rfl,hR',hchg,(he.1 w').1 hm,he.2.nodup_iff.1 hnd,fun b hb=>hft b (he.2.mem_iff.2 hb),hE _ _ (fun d hd=>?_) (fun d hd=>?_)⟩
 ·exact d.mono (fun k hk=>⟨hk.1,hk.2.1,fun h'=>hk.2.2 (he.2.mem_iff.2 h')⟩) (fun _ _=>rfl) (hdat d hd)
 ·refine d.mono (fun k hk=>⟨.inl hk,Nat.lt_of_lt_of_le (hok k hk).1 hchg.size,fun h'=>?_⟩) (fun k hk=>hchg.block k (hok k hk).1 (hok k hk).2) (hD d hd)
  rcases hft k (he.2.mem_iff.2 h')with h1|h1
  ·exact(hok k hk).2 h1
  ·exact absurd (hok k hk).1 aC
theorem Ct.know{P:Program}{f:FuncId}{args:Array Value}{M:List HA}{D:List DA}{R:Value→List HA→List DA→Prop}{p:Prop}(hp:(foots M).Nodup→ ∀ (w:World) (ok:Nat→Prop),(∀ d∈D,d.p w ok)→p)(hF:ww P f)(h:p→Ct P f args M D R):Ct P f args M D R:=
 ⟨hF,fun w ok hok hM hn hD=>(h (hp hn w ok hD)).2 w ok hok hM hn hD⟩
theorem Ct.draw{P:Program}{f:FuncId}{args:Array Value}{M:List HA}{D E:List DA}{R:Value→List HA→List DA→Prop}(hE: ∀ (w:World) (ok:Nat→Prop),(∀ d∈D,d.p w ok)→ ∀ d∈E,d.p w ok)(h:Ct P f args M E R):Ct P f args M D R:=
 ⟨h.1,fun w ok hok hM hn hD=>h.2 w ok hok hM hn (hE w ok hD)⟩


abbrev cv:=Nat→Option Flds
def iE(σ:cv)(b:Nat)(o:Option Flds):cv:=fun d=>if d=b then o else σ d
theorem vS(σ:cv)(b:Nat)(o:Option Flds):iE σ b o b=o:=if_pos rfl
theorem uA{σ:cv}{b d:Nat}(h:d≠b)(o:Option Flds):iE σ b o d=σ d:=if_neg h
theorem AT(σ:cv)(b:Nat)(o o':Option Flds):iE (iE σ b o) b o'=iE σ b o':=by
 funext d
 by_cases h:d=b
 ·rw [h,vS,vS]
 ·rw [uA h,uA h,uA h]
theorem gN{σ:cv}{b:Nat}{o:Option Flds}(h:σ b=o):iE σ b o=σ:=by
 funext x
 by_cases h1:x=b
 ·rw [h1,vS,h]
 ·rw [uA h1]
def GOk(G:Gr)(σ:cv):Prop:=(G.map (·.1)).Nodup∧ ∀ b f,G.at b f↔σ b=some f
theorem GOk.ex{G:Gr}(h:(G.map (·.1)).Nodup): ∃σ,GOk G σ:=by
  induction G with
  |nil=>exact⟨fun _=>none,h,fun b f=>⟨(fun⟨cs,hm⟩=>absurd hm aJ),(fun h=>by cases h)⟩⟩
  |cons g G ih=>
    rw [List.map_cons,List.nodup_cons]at h
    obtain⟨σ,h1,h2⟩:=ih h.2
    refine⟨iE σ g.1 (some g.2.2),by rw [List.map_cons,List.nodup_cons];exact h,fun b f=>?_⟩
    by_cases hb:b=g.1
    · subst hb
      rw [vS]
      constructor
      · rintro ⟨cs,hm⟩
        rcases List.mem_cons.1 hm with e|e
        · rw [←e]
        · exact absurd (List.mem_map.2 ⟨_,e,rfl⟩) h.1
      · intro e
        injection e with e
        exact⟨g.2.1,by rw [←e];exact List.mem_cons_self⟩
    · rw [uA hb,←h2]
      constructor
      · rintro ⟨cs,hm⟩
        rcases List.mem_cons.1 hm with e|e
        · exact absurd (congrArg Prod.fst e) hb
        · exact⟨cs,e⟩
      · rintro ⟨cs,hm⟩
        exact⟨cs,List.mem_cons_of_mem _ hm⟩
theorem GOk.perm{G G':Gr}{σ:cv}(h:GOk G σ)(hp:G.Perm G'):GOk G' σ:=
 ⟨(hp.map _).nodup_iff.1 h.1,fun b f=>by rw [←h.2];exact⟨fun⟨cs,hm⟩=>⟨cs,hp.mem_iff.2 hm⟩,fun⟨cs,hm⟩=>⟨cs,hp.mem_iff.1 hm⟩⟩⟩
theorem GOk.tail{g:Nat×List Value×Flds}{R:Gr}{σ:cv}(h:GOk (g::R) σ):GOk R (iE σ g.1 none):=by
 have hn:=h.1
 rw [List.map_cons,List.nodup_cons]at hn
 refine⟨hn.2,fun b f=>?_⟩
 by_cases hb:b=g.1
 ·subst hb
  rw [vS]
  exact⟨fun⟨cs,hm⟩=>absurd (List.mem_map.2 ⟨_,hm,rfl⟩) hn.1,fun e=>by cases e⟩
 ·rw [uA hb,←h.2]
  constructor
  ·rintro ⟨cs,hm⟩;exact⟨cs,List.mem_cons_of_mem _ hm⟩
  ·rintro ⟨cs,hm⟩
   rcases List.mem_cons.1 hm with e|e
   ·exact absurd (congrArg Prod.fst e) hb
   ·exact⟨cs,e⟩
theorem GOk.join{R:Gr}{σ:cv}{b:Nat}(h:GOk R (iE σ b none))(cs:List Value)(f:Flds):GOk ((b,cs,f)::R) (iE σ b (some f)):=by
 have hno: ∀ cs f,(b,cs,f)∉R:=fun cs f hm=>by
  have:=(h.2 b f).1 ⟨cs,hm⟩
  rw [vS]at this
  cases this
 refine⟨?_,fun d f'=>?_⟩
 ·rw [List.map_cons,List.nodup_cons]
  refine⟨fun hm=>?_,h.1⟩
  obtain⟨⟨b',cs',f'⟩,h1,h2⟩:=List.mem_map.1 hm
  exact hno cs' f' (by rw [show b=b' from h2.symm];exact h1)
 ·by_cases hb:d=b
  ·subst hb
   rw [vS]
   constructor
   ·rintro ⟨cs',hm⟩
    rcases List.mem_cons.1 hm with e|e
    ·injection e with _ e;injection e with _ e;rw [e]
    ·exact absurd e (hno _ _)
   ·intro e;injection e with e;exact⟨cs,by rw [e];exact List.mem_cons_self⟩
  ·rw [uA hb]
   have:=h.2 d f'
   rw [uA hb]at this
   rw [←this]
   constructor
   ·rintro ⟨cs',hm⟩
    rcases List.mem_cons.1 hm with e|e
    ·exact absurd (congrArg Prod.fst e) hb
    ·exact⟨cs',e⟩
   ·rintro ⟨cs',hm⟩;exact⟨cs',List.mem_cons_of_mem _ hm⟩
theorem GOk.split{G:Gr}{σ:cv}{b:Nat}{f:Flds}(h:GOk G σ)(hb:σ b=some f): ∃cs R,G.Perm ((b,cs,f)::R)∧GOk R (iE σ b none):=by
 obtain⟨cs,hm⟩:=(h.2 b f).2 hb
 obtain⟨s,t,rfl⟩:=List.append_of_mem hm
 have hp:(s++(b,cs,f)::t).Perm ((b,cs,f)::(s++t)):=List.perm_middle
 exact⟨cs,s++t,hp,(h.perm hp).tail⟩
theorem Bi{G G':Gr}(h:G.Perm G'):(Gr.blks G).Perm (Gr.blks G'):=h.map _
theorem EM{U:TypeId}{gs gs':List (Nat×List Value)}(h:gs.Perm gs'):HE [.many U gs] [.many U gs']:=
 ⟨fun w=>by
  constructor<;>intro a x hx<;>rcases List.mem_singleton.1 hx with rfl<;>intro g hg
  ·exact(a _ List.mem_cons_self:(HA.many U gs).holds w) g (h.mem_iff.2 hg)
  ·exact(a _ List.mem_cons_self:(HA.many U gs').holds w) g (h.mem_iff.1 hg),by simpa [foots,HA.foot]using h.map _⟩
theorem EN(U:TypeId)(b:Nat)(cs:List Value)(gs:List (Nat×List Value)):HE [.many U ((b,cs)::gs)] [.blk b cs U, .many U gs]:=
 ⟨fun w=>by
  constructor
  ·intro a x hx
   have h1:(HA.many U ((b,cs)::gs)).holds w:=a _ List.mem_cons_self
   simp only [List.mem_cons,List.not_mem_nil,or_false]at hx
   rcases hx with rfl|rfl
   ·exact h1 (b,cs) List.mem_cons_self
   ·exact fun g hg=>h1 g (List.mem_cons_of_mem _ hg)
  ·intro a x hx
   rcases List.mem_singleton.1 hx with rfl
   intro g hg
   rcases List.mem_cons.1 hg with rfl|hg
   ·exact(a _ List.mem_cons_self:(HA.blk b cs U).holds w)
   ·exact(a _ (List.mem_cons_of_mem _ List.mem_cons_self):(HA.many U gs).holds w) g hg,by simp [foots,HA.foot]⟩
theorem sJ{G R:Gr}{b:Nat}{cs:List Value}{f:Flds}(h:G.Perm ((b,cs,f)::R)):HE [.many 124 (Gr.blks G)] [.blk b cs 124, .many 124 (Gr.blks R)]:=
 (EM (Bi h)).trans (EN 124 b cs (Gr.blks R))
theorem yh{U:TypeId}{gs:List (Nat×List Value)}{M:List HA}(h:(foots (.many U gs::M)).Nodup):(gs.map (·.1)).Nodup:=(List.nodup_append.1 h).1
theorem ie{G:Gr}{M:List HA}(h:(foots (.many 124 (Gr.blks G)::M)).Nodup):(G.map (·.1)).Nodup:=by
 have:=yh h
 rw [Gr.blks,List.map_map]at this
 exact this
def Flds.put(f:Flds)(i:Nat)(o:Option FVal):Flds:=fun j=>if j=i then o else f j
section rules
variable {P:Program} {n:Nat} {F:List Nat} {c:Ctx F} {ops:Array Oper} {d:Nat} {T:TypeId} {l:List Oper} {k:List KI} {Q:Post} {e:dI} {M:List HA} {D:List DA}
theorem lW{N:List HA}(he:HE M N)(next:Run P n c k Q e N D):Run P n c k Q e M D:=fun a w hf=>next a w (hf.world (hf.toFitsW.he he))
theorem r9{N:List HA}(he:HE M N)(next:cL P n c ops l k Q e N D):cL P n c ops l k Q e M D:=fun a w hf=>next a w (hf.world (hf.toFitsW.he he))
theorem EO(next:(foots M).Nodup→Run P n c k Q e M D):Run P n c k Q e M D:=fun a w hf=>next hf.toFitsW.nodup a w hf
theorem qL{w:World}{ok:Nat→Prop}{mb:Nat}{cs:List Value}{f:Flds}(h:CellsP w ok mb cs f){i:Nat}(h1:1≤i)(h2:i≤36): ∃p:Option Addr,cs[i]? =some (.pointer p)∧p.isSome=(f i).isSome∧ ∀ fv,f i=some fv→FvP w ok fv (.pointer p):=by
  obtain⟨u,hu,hm⟩:=h.2.2 i h1 h2
  cases hf:f i with
  |none=>
    rw [hf]at hm
    exact⟨none,by rw [hu];exact congrArg some hm,rfl,fun fv h=>by cases h⟩
  |some fv=>
    rw [hf]at hm
    have: ∃p:Addr,u= .pointer (some p):=by
      cases fv with
      |text s=>obtain⟨p,a,b⟩:=hm;exact⟨_,a⟩
      |bool x=>obtain⟨p,a,b⟩:=hm;exact⟨_,a⟩
      |int n=>obtain⟨p,a,b⟩:=hm;exact⟨_,a⟩
      |numI n=>obtain⟨b,p,a,c⟩:=hm;exact⟨_,a⟩
      |numF n=>obtain⟨b,p,a,c⟩:=hm;exact⟨_,a⟩
      |sbS c=>obtain⟨b,a,d⟩:=hm;exact⟨_,a⟩
      |sbB x=>obtain⟨b,p,a,c⟩:=hm;exact⟨_,a⟩
      |itS c=>obtain⟨b,a,d⟩:=hm;exact⟨_,a⟩
      |itL bs=>obtain⟨b,p,sl,a,c⟩:=hm;exact⟨_,a⟩
      |texts l=>obtain⟨p,sl,a,d⟩:=hm;exact⟨_,a⟩
      |named l=>obtain⟨p,sl,nbs,a,d⟩:=hm;exact⟨_,a⟩
      |deps l=>obtain⟨p,sl,nbs,a,d⟩:=hm;exact⟨_,a⟩
      |enums l=>obtain⟨p,A,c,a,d⟩:=hm;exact⟨_,a⟩
      |tyS s=>obtain⟨b,p,a,c⟩:=hm;exact⟨_,a⟩
      |tyL l=>obtain⟨b,p,sl,a,c⟩:=hm;exact⟨_,a⟩
      |list bs=>obtain⟨p,sl,a,d⟩:=hm;exact⟨_,a⟩
      |one c=>exact⟨_,hm⟩
      |any=>obtain⟨p,a⟩:=hm;exact⟨_,a⟩
    obtain⟨p,rfl⟩:=this
    exact⟨some p,hu,rfl,fun fv' h=>by injection h with h;subst h;exact hm⟩
theorem ey{w:World}{ok:Nat→Prop}{mb:Nat}{cs:List Value}{f:Flds}(h:CellsP w ok mb cs f){i:Nat}(h1:1≤i){p:Option Addr}{o:Option FVal}(hp:p.isSome=o.isSome)(ho: ∀ fv,o=some fv→FvP w ok fv (.pointer p)):CellsP w ok mb (cs.set i (.pointer p)) (f.put i o):=by
  refine⟨by simp [h.1],by rw [List.getElem?_set_ne aC];exact h.2.1,fun q hq hq2=>?_⟩
  by_cases hoq:q=i
  · subst hoq
    refine⟨.pointer p,by rw [List.getElem?_set_self bx],?_⟩
    simp only [Flds.put,if_true]
    cases o with
    |none=>cases p with
      |none=>rfl
      |some a=>cases hp
    |some fv=>exact ho fv rfl
  · obtain⟨u',hu',hm⟩:=h.2.2 q hq hq2
    exact⟨u',by rw [List.getElem?_set_ne aC];exact hu',by simp only [Flds.put,if_neg hoq];exact hm⟩
end rules
end Go.Jw

namespace Go.Jw
open Go Go.RowKit
def ig(q:Nat)(f s:Flds):Flds:=fun i=>if i=q then(s i).or (f i)else f i
theorem EP(l:List Nat)(hn:l.Nodup)(f s:Flds):l.foldl (fun g q=>ig q g s) f=fun i=>if i∈l then(s i).or (f i)else f i:=by
  induction l generalizing f with
  |nil=>funext i;simp
  |cons q l ih=>
    rw [List.nodup_cons]at hn
    rw [List.foldl_cons,ih hn.2]
    funext i
    by_cases hi:i∈l
    · have hq:i≠q:=fun e=>hn.1 (e▸hi)
      simp [hi,ig,hq]
    · by_cases hq:i=q
      · subst hq;simp [hi,ig]
      · simp [hi,ig,hq]
section rules
variable {P:Program} {n:Nat} {F:List Nat} {c:Ctx F} {ops:Array Oper} {d:Nat} {T:TypeId} {l:List Oper} {k:List KI} {Q:Post} {e:dI} {M:List HA} {D:List DA}
theorem p7(t:Nat)(v:Value)(e:dI):dE ((t,v)::e) t=some v:=by rw [vW,if_pos rfl]
theorem AU{t s:Nat}(v:Value)(e:dI)(h:s≠t):dE ((s,v)::e) t=dE e t:=by rw [vW,if_neg h]
theorem JM{a n:Nat}(h:a<n):Nat.blt a n=true:=by simpa using h
theorem xM{b s mb mb2:Nat}{cs cs2:List Value}{f f2:Flds}(a q T:Nat)(ha:2≤a)(hn:a+11<n)(h1:1≤q)(h2:q≤36)(hT:cb P T)(hfo:cN P 124 q q)(hpn:P.underlying T=some (.pointer (P.pointee T)))(hsi: ∃i,P.info? T=some i∧i.size=1)
    {i1 i2:Nat} {A1 A2 A3 A4 A5 B1 B2 B3 B4 B5 B6 B7 B8 C1:TypeId} {p1 p2 p3 p4 p5 q1 q2 q3 q4 q5 q6 q7 q8:String} {e1 e2 e3 e4 e5 g1 g2 g3 g4 g5 g6 g7 g8:Array Edge}
    (next: ∀ cs',Run P n c k Q [(0,cW b),(1,cW s)] [.blk b cs' 124, .blk s cs2 124] [.flds mb cs' (ig q f f2), .flds mb2 cs2 f2]):
    Run P n c (.code (.seq (.region i1 #[⟨some a, .move (.tmp 1),A1,p1,e1,none⟩,⟨some (a+1), .nilCheck (.tmp a),A2,p2,e2,none⟩,⟨some (a+2), .fieldAddr 124 (.tmp (a+1)) q,A3,p3,e3,none⟩,⟨some (a+3), .load T (.tmp (a+2)),A4,p4,e4,none⟩,⟨some (a+4), .binOp .neq T (.tmp (a+3)) (.const (.pointer none)) C1,A5,p5,e5,none⟩] false)
      (.cond (.tmp (a+4)) (.region i2 #[⟨some (a+5), .move (.tmp 0),B1,q1,g1,none⟩,⟨some (a+6), .move (.tmp 1),B2,q2,g2,none⟩,⟨some (a+7), .nilCheck (.tmp (a+6)),B3,q3,g3,none⟩,⟨some (a+8), .fieldAddr 124 (.tmp (a+7)) q,B4,q4,g4,none⟩,⟨some (a+9), .load T (.tmp (a+8)),B5,q5,g5,none⟩,⟨some (a+10), .nilCheck (.tmp (a+5)),B6,q6,g6,none⟩,⟨some (a+11), .fieldAddr 124 (.tmp (a+10)) q,B7,q7,g7,none⟩,⟨none, .store T (.tmp (a+11)) (.tmp (a+9)),B8,q8,g8,none⟩] false) .skip))::k)
      Q [(0,cW b),(1,cW s)] [.blk b cs 124, .blk s cs2 124] [.flds mb cs f, .flds mb2 cs2 f2]:=by
  have ev1: ∀ (t:Nat) (v:Value) (e:dI),ev ((t,v)::e) (.tmp t)=some v:=fun t v e=>p7 t v e
  have evn: ∀ (t s:Nat) (v:Value) (e:dI),s≠t→ev ((s,v)::e) (.tmp t)=ev e (.tmp t):=fun t s v e h=>AU v e h
  have hbl: ∀ j,j≤11→Nat.blt (a+j) n=true:=fun j hj=>JM aC
  refine vY (p:=cs.length=37) (fun w ok h=>(h (.flds mb cs f) aJ).1) (fun hcl=>?_)
  refine vY (p:= ∃p:Option Addr,cs2[q]? =some (.pointer p)∧p.isSome=(f2 q).isSome) (fun w ok h=>?_) (fun⟨p,hcp,hps⟩=>?_)
  · obtain⟨p,a1,a2,_⟩:=qL (h (.flds mb2 cs2 f2) aJ) h1 h2
    exact⟨p,a1,a2⟩
  refine xK (jS (zA ?_))
  refine mE (hbl 0 aC) (v:=cW s) (by rw [evn 1 0 _ _ aE];exact ev1 1 _ _) (zA ?_)
  refine fH (hbl 1 aC) (ev1 _ _ _) (zA ?_)
  refine zC hfo (hbl 2 aC) (ev1 _ _ _) (zA ?_)
  refine tO 1 hT (hbl 3 aC) (ev1 _ _ _) Z (by rw [Nat.zero_add];exact hcp) (zA ?_)
  refine yI hpn (hbl 4 aC) (ev1 _ _ _) (zX ?_)
  refine zW (ev1 _ _ _) (fun hb=>?_) (fun hb=>?_)
  · refine jS (zA ?_)
    refine mE (hbl 5 aC) (v:=cW b) (by(repeat rw [evn 0 _ _ _ aC]);exact ev1 0 _ _) (zA ?_)
    refine mE (hbl 6 aC) (v:=cW s) (by(repeat rw [evn 1 _ _ _ aC]);exact ev1 1 _ _) (zA ?_)
    refine fH (hbl 7 aC) (ev1 _ _ _) (zA ?_)
    refine zC hfo (hbl 8 aC) (ev1 _ _ _) (zA ?_)
    refine tO 1 hT (hbl 9 aC) (ev1 _ _ _) Z (by rw [Nat.zero_add];exact hcp) (zA ?_)
    refine fH (p:=⟨b,0,none⟩) (hbl 10 aC) (by(repeat rw [evn (a+5) _ _ _ aC]);exact ev1 _ _ _) (zA ?_)
    refine zC hfo (hbl 11 aC) (ev1 _ _ _) (zA ?_)
    rw [Nat.zero_add]
    refine rN 0 (v:= .pointer p) (ev1 _ _ _) (by(repeat rw [evn (a+9) _ _ _ aC]);exact ev1 _ _ _) Z Z Z hsi aC (zX ?_)
    refine ir (e':=[(0,cW b),(1,cW s)]) (eC au (eC au (eN _))) ?_
    refine uR (fun w ok h x hx=>?_) (next (cs.set q (.pointer p)))
    have hf1:CellsP w ok mb cs f:=h (.flds mb cs f) aJ
    have hf2:CellsP w ok mb2 cs2 f2:=h (.flds mb2 cs2 f2) aJ
    simp only [List.mem_cons,List.not_mem_nil,or_false]at hx
    rcases hx with rfl|rfl
    · obtain⟨p',a1,a2,a3⟩:=qL hf2 h1 h2
      rw [hcp]at a1
      injection a1 with a1
      injection a1 with a1
      subst a1
      have e:ig q f f2=f.put q (f2 q):=by
        funext i
        unfold ig Flds.put
        by_cases hi:i=q
        · subst hi
          rw [if_pos rfl,if_pos rfl]
          cases hfi:f2 i with
          |none=>rw [hfi]at a2;rw [hb]at a2;cases a2
          |some fv=>rfl
        · rw [if_neg hi,if_neg hi]
      show CellsP w ok mb (cs.set q (.pointer p)) (ig q f f2)
      rw [e]
      exact ey hf1 h1 a2 a3
    · exact hf2
  · refine xZ ?_
    refine ir (e':=[(0,cW b),(1,cW s)]) (eC au (eC au (eN _))) ?_
    have e:ig q f f2=f:=by
      funext i
      unfold ig
      by_cases hi:i=q
      · subst hi
        rw [if_pos rfl]
        cases hfi:f2 i with
        |none=>rfl
        |some fv=>rw [hfi,hb]at hps;cases hps
      · rw [if_neg hi]
    have:=next cs
    rw [e]at this
    exact this
end rules
end Go.Jw

namespace Go.Jw
open Go Go.RowKit Go.Proofs
set_option maxRecDepth 8000
abbrev dv:=List (ByteArray×V)
def lk(l:dv)(k:ByteArray):Option V:=(l.find? (fun p=>decide (p.1=k))).map (·.2)
theorem EQ(k:ByteArray):lk [] k=none:=rfl
theorem sS(p:ByteArray×V)(l:dv)(k:ByteArray):lk (p::l) k=if p.1=k then some p.2 else lk l k:=by
 unfold lk
 rw [List.find?_cons]
 by_cases h:p.1=k
 ·simp [h]
 ·simp [h]
theorem ER(l:dv)(f:ByteArray→V→V)(k:ByteArray):lk (l.map fun p=>(p.1,f p.1 p.2)) k=(lk l k).map (f k):=by
  induction l with
  |nil=>rfl
  |cons p l ih=>
    rw [List.map_cons,sS,sS,ih]
    split
    · rename_i h;simp only at h;rw [h];rfl
    · rfl
theorem p8(l:dv)(q:ByteArray→Bool)(k:ByteArray):lk (l.filter fun p=>q p.1) k=if q k=true then lk l k else none:=by
  induction l with
  |nil=>simp [EQ]
  |cons p l ih=>
    rw [List.filter_cons]
    by_cases hq:q p.1=true
    · rw [if_pos hq,sS,sS,ih]
      by_cases h:p.1=k
      · rw [if_pos h,if_pos h,←h,if_pos hq]
      · rw [if_neg h,if_neg h]
    · rw [if_neg hq,ih,sS]
      by_cases h:p.1=k
      · rw [←h,if_neg hq,if_neg hq]
      · rw [if_neg h]
theorem yi{l:dv}{k:ByteArray}{x:V}(h:lk l k=some x):(k,x)∈l:=by
  induction l with
  |nil=>cases h
  |cons p l ih=>
    rw [sS]at h
    split at h
    · rename_i hp
      injection h with h
      rw [←hp,←h]
      exact List.mem_cons_self
    · exact List.mem_cons_of_mem _ (ih h)
theorem yj(ks:List ByteArray)(ts:List V)(key:ByteArray)(h:ks.length≤ts.length):(if ks.findIdx (fun x=>decide (x=key))<ks.length then ts[ks.findIdx (fun x=>decide (x=key))]? else none)=lk (ks.zip ts) key:=by
  induction ks generalizing ts with
  |nil=>rfl
  |cons k ks ih=>
    cases ts with
    |nil=>simp at h
    |cons t ts=>
      rw [List.zip_cons_cons,sS,List.findIdx_cons]
      by_cases hk:k=key
      · simp [hk]
      · have:=ih ts cF
        simp only [hk,decide_false,cond_false,if_false,List.length_cons,Nat.add_lt_add_iff_right,List.getElem?_cons_succ]
        exact this
theorem pN{v:V}(h:v.keys.length≤v.items.length)(key:ByteArray):getV v key=lk (v.keys.zip v.items) key:=by
 rw [←yj _ _ _ h]
 unfold getV dh
 split
 ·rename_i hlt
  rw [if_neg aC]
  simp
 ·rw [if_pos rfl]
def l4(l:dv):V:= .mk 5 0 ⟨#[]⟩ (l.map (·.1)) (l.map (·.2))
theorem pO(l:dv):(l4 l).keys.zip (l4 l).items=l:=by
  show(l.map (·.1)).zip (l.map (·.2))=l
  induction l with
  |nil=>rfl
  |cons p l ih=>simp [ih]
theorem km(l:dv)(key:ByteArray):getV (l4 l) key=lk l key:=by
 rw [pN (by simp [l4,V.keys,V.items]),pO]
def dH(key:ByteArray)(own:V):dv→dv
  |[]=>[(key,own)]
  |p::l=>if Op.bytesLess p.1.toList key.toList=false then(key,own)::(p::l).filter (fun q=> !decide (q.1=key))else p::dH key own l
def dq(v:V)(key:ByteArray)(own:V):V:=l4 (dH key own (v.keys.zip v.items))
def withoutV(v:V)(key:ByteArray):V:=l4 ((v.keys.zip v.items).filter (fun q=> !decide (q.1=key)))
theorem ES(k:ByteArray):Op.bytesLess k.toList k.toList=false:=by
 rw [fS]
 exact decide_eq_false (List.lt_irrefl _)
theorem Gc(key:ByteArray)(own:V)(l:dv)(k:ByteArray):lk (dH key own l) k=if k=key then some own else lk l k:=by
  induction l with
  |nil=>
    rw [dH,sS]
    by_cases h:k=key
    · rw [if_pos h.symm,if_pos h]
    · rw [if_neg (Ne.symm h),if_neg h]
  |cons p l ih=>
    rw [dH]
    split
    · rw [sS,p8 (p::l) (fun x=> !decide (x=key))]
      by_cases h:k=key
      · rw [if_pos h.symm,if_pos h]
      · rw [if_neg (Ne.symm h),if_neg h,if_pos (by simp [h])]
    · rename_i hlt
      rw [sS,sS,ih]
      by_cases h:k=key
      · rw [if_pos h,if_pos h]
        split
        · rename_i hp
          rw [hp,h,ES]at hlt
          exact absurd Z hlt
        · rfl
      · rw [if_neg h,if_neg h]
theorem ve{v:V}(h:v.keys.length≤v.items.length)(key:ByteArray)(own:V)(k:ByteArray):getV (dq v key own) k=if k=key then some own else getV v k:=by
 rw [dq,km,Gc,pN h]
theorem fY{v:V}(h:v.keys.length≤v.items.length)(key k:ByteArray):getV (withoutV v key) k=if k=key then none else getV v k:=by
 rw [withoutV,km,p8 _ (fun x=> !decide (x=key)),pN h]
 by_cases hk:k=key<;>simp [hk]
theorem nz(v:V)(key:ByteArray):(withoutV v key).keys.length≤(withoutV v key).items.length:=by simp [withoutV,l4,V.keys,V.items]
theorem Gd(v:V)(key:ByteArray)(own:V):(dq v key own).keys.length≤(dq v key own).items.length:=by simp [dq,l4,V.keys,V.items]
noncomputable def belowV(g:V→V)(v:V):V:=l4 ((v.keys.zip v.items).map fun p=>(p.1,cQ (cM p.1) g p.2))
theorem uV{v:V}(h:v.keys.length≤v.items.length)(g:V→V)(k:ByteArray):getV (belowV g v) k=(getV v k).map (cQ (cM k) g):=by
 rw [belowV,km,ER _ (fun k x=>cQ (cM k) g x),pN h]
theorem JN(l:dv):(l4 l).keys.length≤(l4 l).items.length:=by simp [l4,V.keys,V.items]

def AV(l:dv):Prop:=l.Pairwise (fun a b=>rl a.1<rl b.1)
theorem yl(a b:ByteArray):Op.bytesLess a.toList b.toList=false↔rl b≤rl a:=by
 rw [fS,rQ,rQ,decide_eq_false_iff_not,List.not_lt]
theorem ym{ks:List ByteArray}(h:di ks)(ts:List V):AV (ks.zip ts):=gg (pi h)
theorem ET{l:dv}(h:AV l)(hw: ∀ p∈l,du p.1):di (l.map (·.1)):=by
  intro i hi
  refine⟨?_,fun h0=>?_⟩
  · obtain⟨p,hp,he⟩:=List.mem_map.1 (List.getElem_mem hi)
    rw [←he];exact hw p hp
  · have hp:(l.map (·.1)).Pairwise (fun a b=>rl a<rl b):=by rw [List.pairwise_map];exact h
    have hlt:=List.pairwise_iff_getElem.1 hp (i - 1) i aC hi aC
    refine⟨(yl _ _).2 (List.le_of_lt hlt),fun he=>?_⟩
    rw [he]at hlt
    exact List.lt_irrefl _ hlt
theorem ez{key:ByteArray}{own:V}{l:dv}{p:ByteArray×V}(h:p∈dH key own l):p=(key,own)∨p∈l:=by
  induction l with
  |nil=>exact .inl (List.mem_singleton.1 h)
  |cons q l ih=>
    rw [dH]at h
    split at h
    · rcases List.mem_cons.1 h with h|h
      · exact .inl h
      · exact .inr (List.mem_filter.1 h).1
    · rcases List.mem_cons.1 h with h|h
      · exact .inr (by rw [h];exact List.mem_cons_self)
      · exact(ih h).imp id (List.mem_cons_of_mem _)
theorem vf{key:ByteArray}{own:V}{l:dv}(h:AV l):AV (dH key own l):=by
  induction l with
  |nil=>exact List.pairwise_singleton _ _
  |cons p l ih=>
    have hc:=List.pairwise_cons.1 h
    rw [dH]
    split
    · rename_i hle
      refine List.pairwise_cons.2 ⟨fun q hq=>?_,h.filter _⟩
      obtain⟨hq1,hq2⟩:=List.mem_filter.1 hq
      have hne:q.1≠key:=by simpa using hq2
      have h1:rl key≤rl p.1:=(yl _ _).1 hle
      have h2:rl key≤rl q.1:=by
        rcases List.mem_cons.1 hq1 with e|e
        · rw [e];exact h1
        · exact List.le_trans h1 (List.le_of_lt (hc.1 q e))
      refine Classical.byContradiction fun hn=>hne (x2 (List.le_antisymm (List.not_lt.1 hn) h2))
    · rename_i hlt
      refine List.pairwise_cons.2 ⟨fun q hq=>?_,ih hc.2⟩
      rcases ez hq with e|e
      · rw [e]
        have: ¬ rl key≤rl p.1:=fun hle=>hlt ((yl _ _).2 hle)
        exact List.not_le.1 this
      · exact hc.1 q e
theorem EU(key:ByteArray)(own:V)(l:dv):(dH key own l).length≤l.length+1:=by
  induction l with
  |nil=>exact Nat.le_refl _
  |cons p l ih=>
    rw [dH]
    split
    · have:=List.length_filter_le (fun q:ByteArray×V=> !decide (q.1=key)) (p::l)
      simp only [List.length_cons]at this⊢
      omega
    · simp only [List.length_cons];omega
theorem qa{l:dv}{d:Nat}(h:AV l)(hw: ∀ p∈l,du p.1)(hl:l.length≤60)(hp: ∀ p∈l,IsPlain d p.2):IsPlain (d+1) (l4 l):=by
 refine .inr ⟨⟨rfl,rfl, .inr ⟨rfl,by simp [l4,V.keys,V.items],ET h hw⟩⟩,by simpa [l4,V.items]using hl,fun x hx=>?_⟩
 obtain⟨p,hp',rfl⟩:=List.mem_map.1 hx
 exact hp p hp'
theorem qc{v:V}(hp:Pl v)(hk:v.kind=5)(h: ∀ key x,getV v key=some x→cT (cM key) x∧(∀ z∈kidsOf (cM key) x,IsShape z)∧(key=kId→ ∃u,getV v dL=some u∧dS u.text)):IsShape v:=by
 refine(wQ v).2 ⟨hk,fun j k x hj hx=>h k x ((xD hp hk).1 ?_)⟩
 refine List.mem_of_getElem? (i:=j) ?_
 rw [List.getElem?_zip_eq_some]
 exact⟨hj,hx⟩
theorem xN{v:V}(hs:IsShape v){key:ByteArray}{x:V}(h:getV v key=some x):cT (cM key) x∧(∀ z∈kidsOf (cM key) x,IsShape z)∧(key=kId→ ∃u,getV v dL=some u∧dS u.text):=by
 obtain⟨j,hj1,hj2⟩:=pD h
 exact((wQ v).1 hs).2 j _ _ hj1 hj2
theorem All2.map{α β γ:Type}{R:α→β→Prop}{S:α→γ→Prop}{g:β→γ}{l:List α}{l':List β}(h: ∀ a b,a∈l→b∈l'→R a b→S a (g b))(h2:All2 R l l'):All2 S l (l'.map g):=by
  refine⟨by rw [List.length_map];exact h2.1,fun i a b ha hb=>?_⟩
  rw [List.getElem?_map]at hb
  cases hl:l'[i]? with
  |none=>rw [hl]at hb;cases hb
  |some b'=>
    rw [hl]at hb
    injection hb with hb
    rw [←hb]
    exact h a b' (List.mem_of_getElem? ha) (List.mem_of_getElem? hl) (h2.2 i a b' ha hl)
theorem EW(ks:List ByteArray)(ts:List V)(g:V→V):ks.zip (ts.map g)=(ks.zip ts).map (fun p=>(p.1,g p.2)):=by
  induction ks generalizing ts with
  |nil=>rfl
  |cons k ks ih=>cases ts with
    |nil=>rfl
    |cons t ts=>simp [ih]
theorem FvRel.turn{U U':Nat→V→Prop}{g:V→V}(hg: ∀ z,(g z).kind=5){sh:Int}{x:V}{fv:FVal}(hfit:cT sh x)(h: ∀ c z,c∈db fv→z∈kidsOf sh x→U c z→U' c (g z))(hf:FvRel U sh x fv):FvRel U' sh (cQ sh g x) fv:=by
  have all5: ∀ (hi: ∀ y∈x.items,y.kind=5),∀ y∈x.items,cp g y=g y:=fun hi y hy=>xV (hi y hy)
  cases fv with
  |text s=>obtain⟨rfl,h2⟩:=hf;exact⟨rfl,h2⟩
  |bool s=>obtain⟨rfl,h2⟩:=hf;exact⟨rfl,h2⟩
  |int s=>obtain⟨rfl,h2⟩:=hf;exact⟨rfl,h2⟩
  |numI s=>obtain⟨rfl,h2⟩:=hf;exact⟨rfl,h2⟩
  |numF s=>obtain⟨rfl,h2⟩:=hf;exact⟨rfl,h2⟩
  |sbS b=>
    obtain⟨rfl,h5,hu⟩:=hf
    have e:cQ 6 g x=g x:=by simp [cQ,h5]
    rw [e]
    exact⟨rfl,hg x,h b x cH br hu⟩
  |sbB s=>
    obtain⟨rfl,h1,h2⟩:=hf
    have e:cQ 6 g x=x:=by simp [cQ,h1]
    rw [e]
    exact⟨rfl,h1,h2⟩
  |itS b=>
    obtain⟨rfl,h5,hu⟩:=hf
    have e:cQ 7 g x=g x:=by simp [cQ,h5]
    rw [e]
    exact⟨rfl,hg x,h b x cH br hu⟩
  |itL bs=>
    obtain⟨rfl,h4,hu⟩:=hf
    have hi: ∀ y∈x.items,y.kind=5:=by simpa [cT,h4]using hfit
    have e:cQ 7 g x=ce g x:=by simp [cQ,h4]
    rw [e]
    refine⟨rfl,h4,?_⟩
    show All2 U' bs (x.items.map (cp g))
    exact hu.map fun a b ha hb hab=>by rw [all5 hi b hb];exact h a b ha (by rw [gf h4 hi];exact hb) hab
  |texts l=>obtain⟨rfl,h2⟩:=hf;exact⟨rfl,h2⟩
  |named l=>
    obtain⟨rfl,ps,hp,hu⟩:=hf
    have hi: ∀ y∈x.items,y.kind=5:=by
      have:x.kind=5∧ ∀ x'∈x.items,x'.kind=5:=by simpa [cT]using hfit
      exact this.2
    have e:cQ 9 g x=ce g x:=by simp [cQ]
    rw [e]
    refine⟨rfl,ps.map (fun p=>(p.1,cp g p.2)),?_,?_⟩
    · show(ps.map _).Perm (x.keys.zip (x.items.map (cp g)))
      rw [EW]
      exact hp.map _
    · exact hu.map fun a b ha hb hab=>by
        have hm:=(List.of_mem_zip (hp.mem_iff.1 hb)).2
        refine⟨hab.1,?_⟩
        show U' a.2 (cp g b.2)
        rw [all5 hi _ hm]
        exact h a.2 b.2 (List.mem_map.2 ⟨a,ha,rfl⟩) (by rw [kU hi];exact hm) hab.2
  |deps l=>obtain⟨rfl,h2⟩:=hf;exact⟨rfl,h2⟩
  |enums l=>obtain⟨rfl,h2⟩:=hf;exact⟨rfl,h2⟩
  |tyS s=>obtain⟨rfl,h2⟩:=hf;exact⟨rfl,h2⟩
  |tyL l=>obtain⟨rfl,h2⟩:=hf;exact⟨rfl,h2⟩
  |list bs=>
    obtain⟨rfl,hu⟩:=hf
    have hi: ∀ y∈x.items,y.kind=5:=by
      have:x.kind=4∧ ∀ x'∈x.items,x'.kind=5:=by simpa [cT]using hfit
      exact this.2
    have e:cQ 13 g x=ce g x:=by simp [cQ]
    rw [e]
    refine⟨rfl,?_⟩
    show All2 U' bs (x.items.map (cp g))
    exact hu.map fun a b ha hb hab=>by rw [all5 hi b hb];exact h a b ha (by rw [eO hi];exact hb) hab
  |one b=>
    obtain⟨rfl,hu⟩:=hf
    exact⟨rfl,h b x cH cG hu⟩
  |any=>exact hf
def kidsV(v:V):List V:=(v.keys.zip v.items).flatMap (fun p=>kidsOf (cM p.1) p.2)
theorem wL{v z:V}(h:z∈kidsV v):SizeOf.sizeOf z<SizeOf.sizeOf v:=by
 obtain⟨p,hp,hz⟩:=List.mem_flatMap.1 h
 exact Nat.lt_of_le_of_lt (sO hz) (xB (List.of_mem_zip hp).2)
noncomputable def cn(p:V→Prop):V→Prop:=V.fix (α:=Prop) (fun v f=>p v∧ ∀ z∈kidsV v,f z)
theorem wG(p:V→Prop)(v:V):cn p v↔p v∧ ∀ z∈kidsV v,cn p z:=by
 have:=V.fix_eq (α:=Prop) (G:=fun v f=>p v∧ ∀ z∈kidsV v,f z) (fun t g g' h=>by
  have:(∀ z∈kidsV t,g z)↔ ∀ z∈kidsV t,g' z:=⟨fun a z hz=>by rw [←h z (wL hz)];exact a z hz,fun a z hz=>by rw [h z (wL hz)];exact a z hz⟩
  simp only [this]) v
 show V.fix _ v↔_
 rw [this]
 rfl
theorem xH{v x z:V}{key:ByteArray}(hp:Pl v)(hk:v.kind=5)(h:getV v key=some x)(hz:z∈kidsOf (cM key) x):z∈kidsV v:=
 List.mem_flatMap.2 ⟨(key,x),(xD hp hk).2 h,hz⟩
theorem vP{v z:V}(hp:Pl v)(h:z∈kidsV v):Pl z:=by
 obtain⟨p,hpm,hz⟩:=List.mem_flatMap.1 h
 exact JL hp (List.of_mem_zip hpm).2 hz
theorem wH{v z:V}(hp:Pl v)(hs:IsShape v)(h:z∈kidsV v):IsShape z:=by
 obtain⟨p,hpm,hz⟩:=List.mem_flatMap.1 h
 exact(xN hs ((xD hp hs.kind).1 (show(p.1,p.2)∈_ from hpm))).2.1 z hz
theorem kn{g g':V→V}{v:V}(h: ∀ x,SizeOf.sizeOf x<SizeOf.sizeOf v→g x=g' x):belowV g v=belowV g' v:=by
 unfold belowV
 congr 1
 refine List.map_congr_left fun p hp=>?_
 rw [pB fun x hx=>h x (Nat.lt_of_le_of_lt hx (xB (List.of_mem_zip hp).2))]

noncomputable def ol(u:V):V:=match getV u iT with
  |some a=>dq (withoutV u iT) eY a
  |none=>u
noncomputable def cV:V→V:=V.fix (α:=V) (fun v g=>ol (belowV g v))
theorem qM(v:V):cV v=ol (belowV cV v):=
 V.fix_eq (α:=V) (G:=fun v g=>ol (belowV g v)) (fun t g g' h=>by rw [kn h]) v
theorem Bj{u:V}(h:u.kind=5):(ol u).kind=5:=by
 unfold ol
 split
 ·rfl
 ·exact h
theorem qG(v:V):(cV v).kind=5:=by rw [qM];exact Bj rfl
theorem rU(g:V→V)(v:V):(belowV g v).keys.length≤(belowV g v).items.length:=JN _
theorem fA{v:V}(hl:v.keys.length≤v.items.length)(key:ByteArray):
    getV (cV v) key=match getV v iT with
      |some a=>if key=eY then some (cQ 13 cV a)else if key=iT then none else(getV v key).map (cQ (cM key) cV)
      |none=>(getV v key).map (cQ (cM key) cV):=by
  rw [qM,ol,uV hl]
  cases h:getV v iT with
  |none=>exact uV hl _ _
  |some a=>
    have e:cM iT=13:=by decide+kernel
    simp only [Option.map_some]
    rw [ve (nz _ _),fY (rU _ _),uV hl,e]
def eF(f:Flds):Flds:=match f 29 with
  |some a=>(f.put 30 (some a)).put 29 none
  |none=>f
theorem qN{f:Flds}(h:f 29=none):eF f=f:=by unfold eF;rw [h]
theorem pW{f:Flds}{a:FVal}(h:f 29=some a):eF f=(f.put 30 (some a)).put 29 none:=by unfold eF;rw [h]
theorem Ge(f:Flds):eF f 29=none:=by
  cases h:f 29 with
  |none=>rw [qN h];exact h
  |some a=>rw [pW h];rfl
theorem EX(f:Flds):eF (eF f)=eF f:=qN (Ge f)
def cw:List Nat:=[14,15,22,23,24,28,29,30,31,32]
inductive Rch (σ:cv):Nat→Nat→Prop where
  |refl (b:Nat):Rch σ b b
  |step {b c d i:Nat} {f:Flds} (h:σ b=some f) (hi:i∈cw) (hc:c∈cU f i) (r:Rch σ c d):Rch σ b d
theorem mc{U:Nat→V→Prop}{i:Nat}{x:V}{fv:FVal}{c:Nat}(h1:1≤i)(h2:i≤36)(h:FvRel U (shIdx i) x fv)(hc:c∈db fv):i∈cw:=by
  have key:shIdx i=5∨shIdx i=6∨shIdx i=7∨shIdx i=9∨shIdx i=13→i∈cw:=by
    have: ∀ i:Fin 37,shIdx i.1=5∨shIdx i.1=6∨shIdx i.1=7∨shIdx i.1=9∨shIdx i.1=13→i.1∈cw:=by decide
    exact this ⟨i,aC⟩
  cases fv with
  |sbS b=>exact key (.inr (.inl h.1))
  |itS b=>exact key (.inr (.inr (.inl h.1)))
  |itL bs=>exact key (.inr (.inr (.inl h.1)))
  |named l=>exact key (.inr (.inr (.inr (.inl h.1))))
  |list bs=>exact key (.inr (.inr (.inr (.inr h.1))))
  |one b=>exact key (.inl h.1)
  |_=>simp [db]at hc
def ff(v:V):Prop:= ¬ ((getV v iT).isSome=true∧(getV v eY).isSome=true)
theorem Bk{key:ByteArray}{i:Nat}(h:kwIdx key=i)(k:ByteArray)(hk:kwIdx k=i)(h0:i≠0):key=k:=xu (h.trans hk.symm) (by rw [h];exact h0)
theorem yn{G0 G1:Gr}{σ0 σ1:cv}(h0:GOk G0 σ0)(h1:GOk G1 σ1)(v:V): ∀ b,Pl v→IsShape v→cn ff v→(∀ d,Rch σ0 b d→σ1 d=(σ0 d).map eF)→Unf G0 v b→Unf G1 (cV v) b:=by
  refine V.indS (p:=fun v=> ∀ b,Pl v→IsShape v→cn ff v→(∀ d,Rch σ0 b d→σ1 d=(σ0 d).map eF)→Unf G0 v b→Unf G1 (cV v) b) (fun v IH b hp hs hd hr hu=>?_) v
  obtain⟨f,hat,hU⟩:=(qT G0 v b).1 hu
  have hf0:σ0 b=some f:=(h0.2 b f).1 hat
  have hf1:σ1 b=some (eF f):=by rw [hr b (.refl b),hf0];rfl
  have hle:=hp.wf.le
  have hd':=(wG _ _).1 hd
  refine(qT G1 _ b).2 ⟨eF f,(h1.2 b _).2 hf1,fun i hi hj=>?_⟩
  have turn: ∀ (i:Nat) key x fv,1≤i→i≤36→f i=some fv→kwIdx key=i→getV v key=some x→FvRel (fun b x=>Unf G0 x b) (shIdx i) x fv→FvRel (fun b x=>Unf G1 x b) (shIdx i) (cQ (shIdx i) cV x) fv:=by
    intro i key x fv hi hj hfv hkw hx hrel
    have hsh:cM key=shIdx i:=by rw [iS bz,hkw]
    have hfit:=xN hs hx
    rw [hsh]at hfit
    refine FvRel.turn qG hfit.1 (fun c z hc hz huc=>?_) hrel
    have hzk:z∈kidsV v:=xH hp hs.kind hx bn
    exact IH z (wL hzk) c (vP hp hzk) (wH hp hs hzk) (hd'.2 z hzk) (fun d hrd=>hr d (.step hf0 (mc hi hj hrel hc) (by unfold cU;rw [hfv];exact hc) hrd)) huc
  cases h29:f 29 with
  |none=>
    rw [qN h29]
    have hno:getV v iT=none:=by
      have:=hU 29 aE aE
      rw [h29]at this
      exact this iT aD
    have:=hU i hi hj
    cases hfi:f i with
    |none=>
      rw [hfi]at this
      intro key hkw
      rw [fA hle,hno]
      simp only
      rw [this key hkw];rfl
    |some fv=>
      rw [hfi]at this
      obtain⟨key,x,hkw,hx,hrel⟩:=this
      have hsh:cM key=shIdx i:=by rw [iS bz,hkw]
      refine⟨key,cQ (cM key) cV x,hkw,?_,by rw [hsh];exact turn i key x fv hi hj hfi hkw hx hrel⟩
      rw [fA hle,hno,hx];rfl
  |some a=>
    rw [pW h29]
    obtain⟨key,xa,hkwa,hxa,hrela⟩: ∃key x,kwIdx key=29∧getV v key=some x∧FvRel (fun b x=>Unf G0 x b) (shIdx 29) x a:=by
      have:=hU 29 aE aE
      rw [h29]at this
      exact this
    obtain rfl:=Bk hkwa iT aD aE
    have hget:=fun key=>fA hle key
    rw [hxa]at hget
    simp only at hget
    by_cases e29:i=29
    · subst e29
      intro key hkw
      obtain rfl:=Bk hkw iT aD aE
      rw [hget,if_neg aD,if_pos rfl]
    · by_cases e30:i=30
      · subst e30
        show FldRel _ _ 30 (some a)
        refine⟨eY,_,by decide+kernel,by rw [hget,if_pos Z],?_⟩
        exact turn 29 iT xa a aE aE h29 hkwa hxa hrela
      · have e:((f.put 30 (some a)).put 29 none) i=f i:=by simp [Flds.put,e29,e30]
        rw [e]
        have hne: ∀ key,kwIdx key=i→getV (cV v) key=(getV v key).map (cQ (cM key) cV):=by
          intro key hkw
          rw [hget,if_neg (fun h=>e30 (by rw [←hkw,h];decide+kernel)),if_neg (fun h=>e29 (by rw [←hkw,h];decide+kernel))]
        have:=hU i hi hj
        cases hfi:f i with
        |none=>
          rw [hfi]at this
          intro key hkw
          rw [hne key hkw,this key hkw];rfl
        |some fv=>
          rw [hfi]at this
          obtain⟨key,x,hkw,hx,hrel⟩:=this
          have hsh:cM key=shIdx i:=by rw [iS bz,hkw]
          refine⟨key,cQ (cM key) cV x,hkw,by rw [hne key hkw,hx];rfl,by rw [hsh];exact turn i key x fv hi hj hfi hkw hx hrel⟩
theorem n4{g:V→V}{x:V}(h: ∀ y∈x.items,y.kind=5){p:V→Prop}(hs: ∀ y∈x.items,p (g y)): ∀ z∈(ce g x).items,p z:=by
 intro z hz
 unfold ce at hz
 simp only [V.items]at hz
 obtain⟨y,hy,rfl⟩:=List.mem_map.1 hz
 rw [xV (h y hy)]
 exact hs y hy
theorem fZ{g:V→V}{sh:Int}{x:V}(hf:cT sh x)(h: ∀ y∈kidsOf sh x,IsShape (g y)):cT sh (cQ sh g x)∧ ∀ y∈kidsOf sh (cQ sh g x),IsShape y:=by
 unfold cQ
 split
 ·rename_i h5
  subst h5
  exact fits5.2 (h x cG)
 split
 ·rename_i h6
  subst h6
  split
  ·rename_i hk
   exact fits6.2 (.inr (h x bi))
  ·rename_i hk
   have hf':x.kind=1∨x.kind=5:=by simpa [cT]using hf
   exact fits6.2 (.inl (hf'.resolve_right hk))
 split
 ·rename_i h7
  subst h7
  split
  ·rename_i hk
   exact fits7.2 (.inl (h x bj))
  ·rename_i hk
   have hf':x.kind=5∨(x.kind=4∧ ∀ x'∈x.items,x'.kind=5):=by simpa [cT]using hf
   have h4:=hf'.resolve_left hk
   exact fits7.2 (.inr ⟨h4.1,n4 h4.2 fun y hy=>h y bG⟩)
 split
 ·rename_i h9
  rcases h9 with h9|h9
  ·subst h9
   have hf':x.kind=5∧ ∀ x'∈x.items,x'.kind=5:=by simpa [cT]using hf
   exact fits9.2 ⟨hf'.1,n4 hf'.2 fun y hy=>h y bU⟩
  ·subst h9
   have hf':x.kind=4∧ ∀ x'∈x.items,x'.kind=5:=by simpa [cT]using hf
   exact fits13.2 ⟨hf'.1,n4 hf'.2 fun y hy=>h y bS⟩
 ·rename_i h5 h6 h7 h9
  refine⟨hf,fun y hy=>?_⟩
  unfold kidsOf at hy
  rw [if_neg h5,if_neg h6,if_neg h7,if_neg h9]at hy
  cases hy
theorem gO{g:V→V}(hg: ∀ z,(g z).kind=5){sh:Int}{x z:V}(hf:cT sh x)(h:z∈kidsOf sh (cQ sh g x)): ∃y∈kidsOf sh x,z=g y:=by
 have all: ∀ (hi: ∀ y∈x.items,y.kind=5),z∈(ce g x).items→ ∃y∈x.items,z=g y:=fun hi hz=>by
  unfold ce at hz
  simp only [V.items]at hz
  obtain⟨y,hy,rfl⟩:=List.mem_map.1 hz
  exact⟨y,hy,by rw [xV (hi y hy)]⟩
 unfold cQ at h
 split at h
 ·rename_i h5
  subst h5
  simp [kidsOf]at h
  exact⟨x,by simp [kidsOf],h⟩
 split at h
 ·rename_i h6
  subst h6
  split at h
  ·rename_i hk
   rw [pf (hg x)]at h
   exact⟨x,by rw [pf hk];simp,List.mem_singleton.1 h⟩
  ·rename_i hk
   exact⟨z,h,by simp [kidsOf,hk]at h⟩
 split at h
 ·rename_i h7
  subst h7
  split at h
  ·rename_i hk
   rw [t8 (hg x)]at h
   exact⟨x,by rw [t8 hk];simp,List.mem_singleton.1 h⟩
  ·rename_i hk
   have hf':x.kind=5∨(x.kind=4∧ ∀ x'∈x.items,x'.kind=5):=by simpa [cT]using hf
   have h4:=hf'.resolve_left hk
   rw [gf h4.1 h4.2]
   refine all h4.2 ?_
   have hk': ¬ (ce g x).kind=5:=hk
   simp only [kidsOf,hk']at h
   simp at h
   exact h.1
 split at h
 ·rename_i h9
  have hf': ∀ x'∈x.items,x'.kind=5:=by
   rcases h9 with h9|h9
   ·subst h9
    have:x.kind=5∧ ∀ x'∈x.items,x'.kind=5:=by simpa [cT]using hf
    exact this.2
   ·subst h9
    have:x.kind=4∧ ∀ x'∈x.items,x'.kind=5:=by simpa [cT]using hf
    exact this.2
  have e:kidsOf sh x=x.items:=by
   rcases h9 with h9|h9
   ·subst h9;exact kU hf'
   ·subst h9;exact eO hf'
  rw [e]
  refine all hf' ?_
  rcases h9 with h9|h9<;>subst h9<;>simp [kidsOf]at h<;>exact h.1
 ·rename_i h5 h6 h7 h9
  unfold kidsOf at h
  rw [if_neg h5,if_neg h6,if_neg h7,if_neg h9]at h
  cases h
theorem pF{key:ByteArray}{i:Nat}(h:kwIdx key=i)(h0:i≠0):cM key=shIdx i:=by rw [iS (by rw [h];exact h0),h]
theorem Gf{key:ByteArray}(h:kwIdx key≠0):eD key=true:=by
  have hs:cM key=shIdx (kwIdx key):=iS h
  unfold eD
  rw [hs]
  refine decide_eq_true ?_
  rcases kw_case (key:=key)with ⟨_,hm⟩|h0
  · have: ∀ q∈[35,36,32,31,30,29,28,26,20,19,18,17,16,14,13,12,11,10,9,8,7,6,3,25,23,24,22,21,34,15,27,1,2,33],shIdx q≠0:=by decide
    exact this _ hm
  · exact absurd h0 h
theorem qO(v:V):IsShape v→Pl v→IsShape (cO v):=by
  refine V.indS (p:=fun v=>IsShape v→Pl v→IsShape (cO v)) (fun v IH hs hp=>?_) v
  refine qc (qU hs hp) (rT v) fun key y hy=>?_
  rw [sI hs hp]at hy
  split at hy
  · cases hx:getV v key with
    |none=>rw [hx]at hy;cases hy
    |some x=>
      rw [hx]at hy
      injection hy with hy
      subst hy
      obtain⟨h1,h2,h3⟩:=xN hs hx
      obtain⟨h4,h5⟩:=fZ (g:=cO) h1 (fun z hz=>IH z (wL (xH hp hs.kind hx hz)) (h2 z hz) (vP hp (xH hp hs.kind hx hz)))
      refine⟨h4,h5,fun he=>?_⟩
      obtain⟨u,hu,hf⟩:=h3 he
      refine⟨cQ (cM dL) cO u,?_,?_⟩
      · rw [sI hs hp,if_pos aD,hu];rfl
      · rw [pM];exact hf
  · cases hy
theorem n7{G:Gr}(v:V): ∀ b,Pl v→IsShape v→Unf G v b→Unf G (cO v) b:=by
  refine V.indS (p:=fun v=> ∀ b,Pl v→IsShape v→Unf G v b→Unf G (cO v) b) (fun v IH b hp hs hu=>?_) v
  obtain⟨f,hat,hU⟩:=(qT G v b).1 hu
  refine(qT G _ b).2 ⟨f,hat,fun i hi hj=>?_⟩
  have:=hU i hi hj
  cases hfi:f i with
  |none=>
    rw [hfi]at this
    intro key hkw
    rw [sI hs hp,this key hkw]
    split<;>rfl
  |some fv=>
    rw [hfi]at this
    obtain⟨key,x,hkw,hx,hrel⟩:=this
    have hsh:=pF hkw aC
    refine⟨key,cQ (cM key) cO x,hkw,by rw [sI hs hp,if_pos (Gf bz),hx];rfl,?_⟩
    have hfit:=xN hs hx
    rw [hsh]at hfit⊢
    refine FvRel.turn rT hfit.1 (fun c z hc hz huc=>?_) hrel
    have hzk:z∈kidsV v:=xH hp hs.kind hx bn
    exact IH z (wL hzk) c (vP hp hzk) (wH hp hs hzk) huc
theorem n8{v z:V}(hp:Pl v)(hs:IsShape v)(h:z∈kidsV (cO v)): ∃y∈kidsV v,z=cO y:=by
  obtain⟨p,hpm,hz⟩:=List.mem_flatMap.1 h
  have hg:=(xD (qU hs hp) (rT v)).1 (show(p.1,p.2)∈_ from hpm)
  rw [sI hs hp]at hg
  split at hg
  · cases hx:getV v p.1 with
    |none=>rw [hx]at hg;cases hg
    |some x=>
      rw [hx]at hg
      injection hg with hg
      rw [←hg]at hz
      obtain⟨y,hy,rfl⟩:=gO rT (xN hs hx).1 hz
      exact⟨y,xH hp hs.kind hx hy,rfl⟩
  · cases hg
theorem pX{p q:V→Prop}(hpq: ∀ v,Pl v→IsShape v→p v→q (cO v))(v:V):Pl v→IsShape v→cn p v→cn q (cO v):=by
 refine V.indS (p:=fun v=>Pl v→IsShape v→cn p v→cn q (cO v)) (fun v IH hp hs hd=>?_) v
 obtain⟨h1,h2⟩:=(wG _ _).1 hd
 refine(wG _ _).2 ⟨hpq v hp hs h1,fun z hz=>?_⟩
 obtain⟨y,hy,rfl⟩:=n8 hp hs hz
 exact IH y (wL hy) (vP hp hy) (wH hp hs hy) (h2 y hy)
theorem jI{p:V→Prop}(h: ∀ v,p v)(v:V):cn p v:=
 V.indS (p:=fun v=>cn p v) (fun v IH=>(wG _ _).2 ⟨h v,fun z hz=>IH z (wL hz)⟩) v
def ii(v:V):Prop:= ∀ k∈v.keys,eD k=true
theorem ko(v:V):ii (cO v):=by
 intro k hk
 rw [rD]at hk
 obtain⟨p,hp,rfl⟩:=List.mem_map.1 hk
 exact(List.mem_filter.1 hp).2
theorem EY{g:V→V}{sh:Int}{x:V}(hp:Pl x)(hf:cT sh x)(h: ∀ y∈kidsOf sh x,g y=y):cQ sh g x=x:=by
  have all:(x.kind=4∨x.kind=5)→(∀ y∈x.items,y.kind=5)→(∀ y∈x.items,g y=y)→ce g x=x:=by
    intro hk hi hfix
    have e:x.items.map (cp g)=x.items:=by
      conv=>rhs;rw [←List.map_id x.items]
      exact List.map_congr_left fun y hy=>by rw [xV (hi y hy),hfix y hy];rfl
    unfold ce
    rw [e]
    obtain⟨d,hd⟩:=hp
    obtain⟨q,m,s,ks,ts⟩:=x
    simp only [V.kind,V.keys,V.items]at hk⊢
    cases d with
    |zero=>exact absurd hd (uY hk)
    |succ d=>
      obtain⟨⟨h1,h2,_⟩,_⟩:=(wX hk).1 hd
      rw [h1,h2]
  unfold cQ
  split
  · rename_i h5;subst h5;exact h x cG
  split
  · rename_i h6;subst h6
    split
    · rename_i hk;exact h x bi
    · rfl
  split
  · rename_i h7;subst h7
    split
    · rename_i hk;exact h x bj
    · rename_i hk
      have hf':x.kind=5∨(x.kind=4∧ ∀ x'∈x.items,x'.kind=5):=by simpa [cT]using hf
      have h4:=hf'.resolve_left hk
      exact all (.inl h4.1) h4.2 (fun y hy=>h y bG)
  split
  · rename_i h9
    rcases h9 with h9|h9
    · subst h9
      have hf':x.kind=5∧ ∀ x'∈x.items,x'.kind=5:=by simpa [cT]using hf
      exact all (.inr hf'.1) hf'.2 (fun y hy=>h y bU)
    · subst h9
      have hf':x.kind=4∧ ∀ x'∈x.items,x'.kind=5:=by simpa [cT]using hf
      exact all (.inl hf'.1) hf'.2 (fun y hy=>h y bS)
  · rfl
theorem gk(w:V):Pl w→IsShape w→cn ii w→cO w=w:=by
 refine V.indS (p:=fun w=>Pl w→IsShape w→cn ii w→cO w=w) (fun w IH hp hs hd=>?_) w
 obtain⟨h1,h2⟩:=(wG _ _).1 hd
 have hm:=qE hp hs.kind
 rw [rD]
 unfold dD
 have e:(w.keys.zip w.items).filter (fun p=>eD p.1)=w.keys.zip w.items:=List.filter_eq_self.2 fun p hpm=>h1 _ (List.of_mem_zip hpm).1
 have e2:(w.keys.zip w.items).map (fun p=>cQ (cM p.1) cO p.2)=(w.keys.zip w.items).map (fun p=>p.2):=List.map_congr_left fun p hpm=>by
  have hg:=(xD hp hs.kind).1 (show(p.1,p.2)∈_ from hpm)
  refine EY (hp.item _ (List.of_mem_zip hpm).2) (xN hs hg).1 fun y hy=>?_
  have hyk:=xH hp hs.kind hg hy
  exact IH y (wL hyk) (vP hp hyk) (wH hp hs hyk) (h2 y hyk)
 rw [e,e2]
 have e3:(w.keys.zip w.items).map (·.1)=w.keys:=List.map_fst_zip (by rw [hm.2.1];exact Nat.le_refl _)
 have e4:(w.keys.zip w.items).map (fun p=>p.2)=w.items:=List.map_snd_zip (by rw [hm.2.1];exact Nat.le_refl _)
 rw [e3,e4]
 exact hm.1.symm
theorem JO:du eY:=by
 refine⟨fun j hj=>?_,by decide⟩
 have: ∀ j:Fin 5,IS eY[j.1]! :=by unfold IS;decide
 have h5:j<5:=hj
 have:=this ⟨j,h5⟩
 rwa [getElem!_pos eY j hj]at this
theorem jJ(g:V→V)(v:V):(belowV g v).keys.zip (belowV g v).items=(v.keys.zip v.items).map fun p=>(p.1,cQ (cM p.1) g p.2):=pO _
theorem sa{l:dv}(f:ByteArray→V→V)(h:AV l):AV (l.map fun p=>(p.1,f p.1 p.2)):=by
 unfold AV
 rw [List.pairwise_map]
 exact h
theorem oA{l:dv}(q:ByteArray×V→Bool)(h:AV l):AV (l.filter q):=h.sublist List.filter_sublist
theorem vg{d:Nat}{v:V}(hp:IsPlain (d+1) v)(hk:v.kind=5):v.items.length≤60∧ ∀ x∈v.items,IsPlain d x:=by
 obtain⟨q,m,s,ks,ts⟩:=v
 exact((wX (.inr hk)).1 hp).2
theorem vh{d:Nat}{g:V→V}{v:V}(hp:IsPlain (d+1) v)(hs:IsShape v)(hg: ∀ y∈kidsV v,∀ d,IsPlain d y→IsPlain d (g y)):
  AV ((v.keys.zip v.items).map fun p=>(p.1,cQ (cM p.1) g p.2))∧(∀ p∈(v.keys.zip v.items).map fun p=>(p.1,cQ (cM p.1) g p.2),du p.1∧IsPlain d p.2)∧((v.keys.zip v.items).map fun p=>(p.1,cQ (cM p.1) g p.2)).length≤60:=by
 have hPl:Pl v:=⟨_,hp⟩
 have hk5:=hs.kind
 have hko:=hPl.keys hk5
 obtain⟨he,hl,hsort⟩:=qE hPl hk5
 obtain⟨h60,hit⟩:=vg hp hk5
 refine⟨sa (fun k x=>cQ (cM k) g x) (gg hsort),fun p hpm=>?_,by rw [List.length_map,List.length_zip];omega⟩
 obtain⟨q,hq,rfl⟩:=List.mem_map.1 hpm
 have hgq:=(xD hPl hk5).1 (show(q.1,q.2)∈_ from hq)
 exact⟨iZ hko _ (List.of_mem_zip hq).1,jb (xN hs hgq).1 (fun y hy d hd=>hg y (xH hPl hk5 hgq hy) d hd) (hit _ (List.of_mem_zip hq).2)⟩
theorem Bl{d:Nat}{v:V}(hp:IsPlain d v)(hk:v.kind=5): ∃e,d=e+1:=by
  cases d with
  |zero=>obtain⟨q,m,s,ks,ts⟩:=v;exact absurd hp (uY (.inr hk))
  |succ d=>exact⟨d,rfl⟩
theorem sd(v:V):IsShape v→Pl v→ ∀ d,IsPlain d v→IsPlain d (cV v):=by
  refine V.indS (p:=fun v=>IsShape v→Pl v→ ∀ d,IsPlain d v→IsPlain d (cV v)) (fun v IH hs hPl d hp=>?_) v
  obtain⟨d,rfl⟩:=Bl hp hs.kind
  obtain⟨h1,h2,h3⟩:=vh (g:=cV) hp hs (fun y hy d hd=>IH y (wL hy) (wH hPl hs hy) (vP hPl hy) d hd)
  have hb:IsPlain (d+1) (belowV cV v):=qa h1 (fun p hp=>(h2 p hp).1) h3 (fun p hp=>(h2 p hp).2)
  rw [qM,ol]
  cases ha:getV (belowV cV v) iT with
  |none=>exact hb
  |some a=>
    have hz:=yi (by rw [←pN (rU _ _)];exact ha:lk ((belowV cV v).keys.zip (belowV cV v).items) iT=some a)
    rw [jJ]at hz
    simp only
    rw [dq,withoutV,pO,jJ]
    generalize (v.keys.zip v.items).map (fun p=>(p.1,cQ (cM p.1) cV p.2))=L at h1 h2 h3 hz
    have hlt:(L.filter fun q=> !decide (q.1=iT)).length<L.length:=by
      refine Nat.lt_of_le_of_ne (List.length_filter_le _ _) fun he=>?_
      have:=List.filter_eq_self.1 (List.filter_sublist.eq_of_length he) _ hz
      simp at this
    refine qa (vf (oA _ h1)) (fun p hpm=>?_) ?_ (fun p hpm=>?_)
    · rcases ez hpm with e|e
      · rw [e];exact JO
      · exact(h2 p (List.mem_filter.1 e).1).1
    · have:=EU eY a (L.filter fun q=> !decide (q.1=iT))
      omega
    · rcases ez hpm with e|e
      · rw [e];exact(h2 _ hz).2
      · exact(h2 p (List.mem_filter.1 e).1).2
theorem eZ{v:V}(hs:IsShape v)(hp:Pl v):Pl (cV v):=hp.elim fun d h=>⟨d,sd v hs hp d h⟩
theorem l5{v y:V}{key:ByteArray}(hl:v.keys.length≤v.items.length)(h:getV (cV v) key=some y):(∃x,getV v key=some x∧y=cQ (cM key) cV x)∨(key=eY∧ ∃x,getV v iT=some x∧y=cQ 13 cV x):=by
  rw [fA hl]at h
  cases ha:getV v iT with
  |none=>
    rw [ha]at h
    simp only at h
    cases hx:getV v key with
    |none=>rw [hx]at h;cases h
    |some x=>rw [hx]at h;injection h with h;exact .inl ⟨x,rfl,h.symm⟩
  |some a=>
    rw [ha]at h
    simp only at h
    split at h
    · rename_i hk
      injection h with h
      exact .inr ⟨hk,a,rfl,h.symm⟩
    · split at h
      · cases h
      · cases hx:getV v key with
        |none=>rw [hx]at h;cases h
        |some x=>rw [hx]at h;injection h with h;exact .inl ⟨x,rfl,h.symm⟩
theorem JP:cM iT=13:=by decide+kernel
theorem Ll:cM eY=13:=by decide+kernel
theorem pP(v:V):IsShape v→Pl v→IsShape (cV v):=by
  refine V.indS (p:=fun v=>IsShape v→Pl v→IsShape (cV v)) (fun v IH hs hp=>?_) v
  have hl:=hp.wf.le
  have sub: ∀ key x,getV v key=some x→cT (cM key) (cQ (cM key) cV x)∧ ∀ z∈kidsOf (cM key) (cQ (cM key) cV x),IsShape z:=fun key x hx=>
    fZ (xN hs hx).1 fun z hz=>IH z (wL (xH hp hs.kind hx hz)) ((xN hs hx).2.1 z hz) (vP hp (xH hp hs.kind hx hz))
  refine qc (eZ hs hp) (qG v) fun key y hy=>?_
  rcases l5 hl hy with ⟨x,hx,rfl⟩|⟨rfl,x,hx,rfl⟩
  · obtain⟨h1,h2⟩:=sub key x hx
    refine⟨h1,h2,fun he=>?_⟩
    obtain⟨u,hu,h4⟩:=(xN hs hx).2.2 he
    refine⟨cQ (cM dL) cV u,?_,by rw [pM];exact h4⟩
    rw [fA hl]
    cases getV v iT with
    |none=>simp only;rw [hu];rfl
    |some a=>simp only;rw [if_neg aD,if_neg aD,hu];rfl
  · have:=sub iT x hx
    rw [JP]at this
    rw [Ll]
    exact⟨this.1,this.2,fun he=>absurd he aD⟩
theorem se{v z:V}(hp:Pl v)(hs:IsShape v)(h:z∈kidsV (cV v)): ∃y∈kidsV v,z=cV y:=by
 obtain⟨p,hpm,hz⟩:=List.mem_flatMap.1 h
 have hg:=(xD (eZ hs hp) (qG v)).1 (show(p.1,p.2)∈_ from hpm)
 rcases l5 hp.wf.le hg with ⟨x,hx,he⟩|⟨hk,x,hx,he⟩
 ·rw [he]at hz
  obtain⟨y,hy,rfl⟩:=gO qG (xN hs hx).1 hz
  exact⟨y,xH hp hs.kind hx hy,rfl⟩
 ·rw [hk,Ll,he]at hz
  have hf:=(xN hs hx).1
  rw [JP]at hf
  obtain⟨y,hy,rfl⟩:=gO qG hf hz
  exact⟨y,xH hp hs.kind hx (by rw [JP];exact hy),rfl⟩
theorem yo{v:V}(hk:ii v):ii (cV v):=by
  have hb: ∀ p∈(belowV cV v).keys.zip (belowV cV v).items,eD p.1=true:=fun p hp=>by
    rw [jJ]at hp
    obtain⟨q,hq,rfl⟩:=List.mem_map.1 hp
    exact hk _ (List.of_mem_zip hq).1
  rw [qM,ol]
  cases ha:getV (belowV cV v) iT with
  |none=>
    intro k hk
    obtain⟨q,hq,rfl⟩:=List.mem_map.1 (show k∈((v.keys.zip v.items).map fun p=>(p.1,cQ (cM p.1) cV p.2)).map (·.1)from hk)
    rw [←jJ]at hq
    exact hb q hq
  |some a=>
    intro k hk
    obtain⟨q,hq,rfl⟩:=List.mem_map.1 (show k∈(dH eY a _).map (·.1)from hk)
    rcases ez hq with e|e
    · rw [e];exact(by decide+kernel:eD eY=true)
    · rw [withoutV,pO]at e
      exact hb q (List.mem_filter.1 e).1
theorem l6(v:V):Pl v→IsShape v→cn ii v→cn ii (cV v):=by
 refine V.indS (p:=fun v=>Pl v→IsShape v→cn ii v→cn ii (cV v)) (fun v IH hp hs hd=>?_) v
 obtain⟨h1,h2⟩:=(wG _ _).1 hd
 refine(wG _ _).2 ⟨yo h1,fun z hz=>?_⟩
 obtain⟨y,hy,rfl⟩:=se hp hs hz
 exact IH y (wL hy) (vP hp hy) (wH hp hs hy) (h2 y hy)
theorem vk{v:V}(hp:Pl v)(hs:IsShape v)(h:ff v):ff (cO v):=by
 unfold ff
 rw [sI hs hp,sI hs hp,if_pos aD,if_pos aD,Option.isSome_map,Option.isSome_map]
 exact h
theorem yp{G0 G1:Gr}{σ0 σ1:cv}(h0:GOk G0 σ0)(h1:GOk G1 σ1){v:V}{b:Nat}(hp:Pl v)(hs:IsShape v)(hd:cn ff v)(hr: ∀ d,Rch σ0 b d→σ1 d=(σ0 d).map eF)(hu:Unf G0 v b):
  ∃w,w=cV (cO v)∧Unf G1 w b∧IsShape w∧Pl w∧cO w=w:=by
 have hpn:=qU hs hp
 have hsn:=qO v hs hp
 have hk:=pX (p:=fun _=>True) (q:=ii) (fun v _ _ _=>ko v) v hp hs (jI (fun _=>trivial) v)
 refine⟨_,rfl,yn h0 h1 _ b hpn hsn (pX (fun v a b c=>vk a b c) v hp hs hd) hr (n7 v b hp hs hu),pP _ hsn hpn,eZ hsn hpn,gk _ (eZ hsn hpn) (pP _ hsn hpn) (l6 _ hpn hsn hk)⟩
noncomputable def USig(σ:cv):V→Nat→Prop:=V.fix (α:=Nat→Prop) (fun v r b=> ∃f,σ b=some f∧ ∀ i,1≤i→i≤36→FldRel (fun b x=>r x b) v i (f i))
theorem xO(σ:cv)(v:V)(b:Nat):USig σ v b↔ ∃f,σ b=some f∧ ∀ i,1≤i→i≤36→FldRel (fun b x=>USig σ x b) v i (f i):=by
 have:=V.fix_eq (α:=Nat→Prop) (G:=fun v r b=> ∃f,σ b=some f∧ ∀ i,1≤i→i≤36→FldRel (fun b x=>r x b) v i (f i)) (fun t g g' h=>by
  funext b
  apply propext
  constructor
  ·rintro ⟨f,h1,h2⟩
   exact⟨f,h1,fun i hi hj=>(h2 i hi hj).mono fun b x hx hu=>by rw [←h x hx];exact hu⟩
  ·rintro ⟨f,h1,h2⟩
   exact⟨f,h1,fun i hi hj=>(h2 i hi hj).mono fun b x hx hu=>by rw [h x hx];exact hu⟩) v
 show V.fix (α:=Nat→Prop) _ v b↔_
 rw [this]
 rfl
theorem gP{G:Gr}{σ:cv}(h:GOk G σ)(v:V): ∀ b,Unf G v b↔USig σ v b:=by
 refine V.indS (p:=fun v=> ∀ b,Unf G v b↔USig σ v b) (fun v IH b=>?_) v
 rw [qT,xO]
 constructor
 ·rintro ⟨f,h1,h2⟩
  exact⟨f,(h.2 b f).1 h1,fun i hi hj=>(h2 i hi hj).mono fun c x hx hu=>(IH x hx c).1 hu⟩
 ·rintro ⟨f,h1,h2⟩
  exact⟨f,(h.2 b f).2 h1,fun i hi hj=>(h2 i hi hj).mono fun c x hx hu=>(IH x hx c).2 hu⟩
theorem FvRel.kid{U:Nat→V→Prop}{sh:Int}{x:V}{fv:FVal}{c:Nat}(hfit:cT sh x)(h:FvRel U sh x fv)(hc:c∈db fv): ∃z∈kidsOf sh x,U c z:=by
  have get: ∀ (bs:List Nat) (l:List V),All2 U bs l→c∈bs→ ∃z∈l,U c z:=fun bs l h2 hm=>by
    obtain⟨i,hi,rfl⟩:=List.getElem_of_mem hm
    have hi':i<l.length:=by rw [←h2.1];exact hi
    exact⟨l[i],List.getElem_mem hi',h2.2 i _ _ (List.getElem?_eq_getElem hi) (List.getElem?_eq_getElem hi')⟩
  cases fv with
  |sbS b=>obtain⟨rfl,h5,hu⟩:=h;exact⟨x,by simp [kidsOf,h5],by rw [List.mem_singleton.1 hc];exact hu⟩
  |itS b=>obtain⟨rfl,h5,hu⟩:=h;exact⟨x,by simp [kidsOf,h5],by rw [List.mem_singleton.1 hc];exact hu⟩
  |itL bs=>
    obtain⟨rfl,h4,hu⟩:=h
    have hi: ∀ y∈x.items,y.kind=5:=by simpa [cT,h4]using hfit
    rw [gf h4 hi]
    exact get bs _ hu hc
  |named l=>
    obtain⟨rfl,ps,hp,hu⟩:=h
    have hi: ∀ y∈x.items,y.kind=5:=by
      have:x.kind=5∧ ∀ x'∈x.items,x'.kind=5:=by simpa [cT]using hfit
      exact this.2
    rw [kU hi]
    obtain⟨q,hq,rfl⟩:=List.mem_map.1 hc
    obtain⟨i,hi,rfl⟩:=List.getElem_of_mem hq
    have hi':i<ps.length:=by rw [←hu.1];exact hi
    exact⟨ps[i].2,(List.of_mem_zip (hp.mem_iff.1 (List.getElem_mem hi'))).2,(hu.2 i _ _ (List.getElem?_eq_getElem hi) (List.getElem?_eq_getElem hi')).2⟩
  |list bs=>
    obtain⟨rfl,hu⟩:=h
    have hi: ∀ y∈x.items,y.kind=5:=by
      have:x.kind=4∧ ∀ x'∈x.items,x'.kind=5:=by simpa [cT]using hfit
      exact this.2
    rw [eO hi]
    exact get bs _ hu hc
  |one b=>obtain⟨rfl,hu⟩:=h;exact⟨x,by simp [kidsOf],by rw [List.mem_singleton.1 hc];exact hu⟩
  |_=>simp [db]at hc
def lX(sh:Int):FVal→Prop
  | .text _=>sh=1
  | .bool _=>sh=2
  | .int _=>sh=4
  | .numI _=>sh=3
  | .numF _=>sh=3
  | .sbS _=>sh=6
  | .sbB _=>sh=6
  | .itS _=>sh=7
  | .itL _=>sh=7
  | .texts _=>sh=8
  | .named _=>sh=9
  | .deps _=>sh=10
  | .enums _=>sh=11
  | .tyS _=>sh=12
  | .tyL _=>sh=12
  | .list _=>sh=13
  | .one _=>sh=5
  | .any=>sh=14
theorem FvRel.ok{U:Nat→V→Prop}{sh:Int}{x:V}{fv:FVal}(h:FvRel U sh x fv):lX sh fv:=by
 cases fv<;>first|exact h.1|exact h
def FT(f:Flds):Prop:= ∀ i fv,1≤i→i≤36→f i=some fv→lX (shIdx i) fv
theorem AW{σ:cv}{v:V}{b:Nat}(h:USig σ v b): ∃f,σ b=some f∧FT f:=by
 obtain⟨f,h1,h2⟩:=(xO σ v b).1 h
 refine⟨f,h1,fun i fv hi hj hf=>?_⟩
 have:=h2 i hi hj
 rw [hf]at this
 obtain⟨key,x,_,_,hr⟩:=this
 exact hr.ok
theorem tV: ∀ i∈cw,1≤i∧i≤36:=by decide
theorem EZ{σ:cv}{v:V}{b c i:Nat}{f:Flds}(hp:Pl v)(hs:IsShape v)(h:USig σ v b)(hf:σ b=some f)(hi:i∈cw)(hc:c∈cU f i): ∃z∈kidsV v,USig σ z c:=by
  obtain⟨f',h1,h2⟩:=(xO σ v b).1 h
  rw [hf]at h1
  injection h1 with h1
  subst h1
  have hle:=tV i hi
  have:=h2 i hle.1 hle.2
  unfold cU at hc
  cases hfi:f i with
  |none=>rw [hfi]at hc;cases hc
  |some fv=>
    rw [hfi]at this hc
    obtain⟨key,x,hkw,hx,hr⟩:=this
    have hsh:=pF hkw aC
    have hfit:=(xN hs hx).1
    rw [hsh]at hfit
    obtain⟨z,hz,hu⟩:=hr.kid hfit hc
    exact⟨z,xH hp hs.kind hx bn,hu⟩
theorem qd{p:Nat→Prop}(n:Nat):p n→ ∃m,p m∧ ∀ k,p k→m≤k:=by
  induction n using Nat.strongRecOn with
  |_ n ih=>
    intro hn
    by_cases h: ∃k,k<n∧p k
    · obtain⟨k,hk,hp⟩:=h
      exact ih k hk hp
    · exact⟨n,hn,fun k hk=>Nat.le_of_not_lt fun hlt=>h ⟨k,hlt,hk⟩⟩
structure Ea(good:V→Prop):Prop where
 pl: ∀ v,good v→Pl v
 shape: ∀ v,good v→IsShape v
 kid: ∀ v,good v→ ∀ z∈kidsV v,good z
def fB(good:V→Prop)(σ:cv)(d:Nat):Prop:= ∃v,good v∧USig σ v d
theorem AX{good:V→Prop}(hg:Ea good)(σ:cv): ∃mu:Nat→Nat,∀ d,fB good σ d→ ∃f,σ d=some f∧FT f∧ ∀ i∈cw,∀ c∈cU f i,fB good σ c∧mu c<mu d:=by
 have hex: ∀ d,∃m:Nat,fB good σ d→(∃v,good v∧USig σ v d∧SizeOf.sizeOf v=m)∧ ∀ v,good v→USig σ v d→m≤SizeOf.sizeOf v:=fun d=>by
  by_cases h:fB good σ d
  ·obtain⟨v,h1,h2⟩:=h
   obtain⟨m,hm,hl⟩:=qd (p:=fun m=> ∃v,good v∧USig σ v d∧SizeOf.sizeOf v=m) _ ⟨v,h1,h2,rfl⟩
   exact⟨m,fun _=>⟨hm,fun v h1 h2=>hl _ ⟨v,h1,h2,rfl⟩⟩⟩
  ·exact⟨0,fun h'=>absurd h' h⟩
 refine⟨fun d=>Classical.choose (hex d),fun d hd=>?_⟩
 obtain⟨⟨v,h1,h2,h3⟩,_⟩:=Classical.choose_spec (hex d) hd
 obtain⟨f,hf,hft⟩:=AW h2
 refine⟨f,hf,hft,fun i hi c hc=>?_⟩
 obtain⟨z,hz,hu⟩:=EZ (hg.pl v h1) (hg.shape v h1) h2 hf hi hc
 have hc':fB good σ c:=⟨z,hg.kid v h1 z hz,hu⟩
 refine⟨hc',?_⟩
 have hle:=(Classical.choose_spec (hex c) hc').2 z (hg.kid v h1 z hz) hu
 have hlt:=wL hz
 show Classical.choose (hex c)<Classical.choose (hex d)
 omega
theorem All2.mono2{α β:Type}{R R':α→β→Prop}{l:List α}{l':List β}(h: ∀ a b,a∈l→b∈l'→R a b→R' a b)(h2:All2 R l l'):All2 R' l l':=
 ⟨h2.1,fun i a b ha hb=>h a b (List.mem_of_getElem? ha) (List.mem_of_getElem? hb) (h2.2 i a b ha hb)⟩
theorem FvRel.monoK{U U':Nat→V→Prop}{sh:Int}{v:V}{fv:FVal}(h: ∀ c x,c∈db fv→SizeOf.sizeOf x≤SizeOf.sizeOf v→U c x→U' c x)(hf:FvRel U sh v fv):FvRel U' sh v fv:=by
  have hi: ∀ c x,c∈db fv→x∈v.items→U c x→U' c x:=fun c x hc hx=>h c x hc (Nat.le_of_lt (xB hx))
  cases fv with
  |sbS b=>exact⟨hf.1,hf.2.1,h b v cH (Nat.le_refl _) hf.2.2⟩
  |itS b=>exact⟨hf.1,hf.2.1,h b v cH (Nat.le_refl _) hf.2.2⟩
  |itL bs=>exact⟨hf.1,hf.2.1,hf.2.2.mono2 hi⟩
  |named l=>
    obtain⟨h1,ps,h2,h3⟩:=hf
    exact⟨h1,ps,h2,h3.mono2 fun q p hq hp hr=>⟨hr.1,hi _ _ (List.mem_map.2 ⟨q,hq,rfl⟩) (List.of_mem_zip (h2.mem_iff.1 hp)).2 hr.2⟩⟩
  |list bs=>exact⟨hf.1,hf.2.mono2 hi⟩
  |one b=>exact⟨hf.1,h b v cH (Nat.le_refl _) hf.2⟩
  |text s=>exact hf
  |bool x=>exact hf
  |int n=>exact hf
  |numI n=>exact hf
  |numF n=>exact hf
  |sbB x=>exact hf
  |texts l=>exact hf
  |deps l=>exact hf
  |enums l=>exact hf
  |tyS s=>exact hf
  |tyL l=>exact hf
  |any=>exact hf
theorem gl{U U':Nat→V→Prop}{v:V}{i:Nat}{f:Flds}(h1:1≤i)(h2:i≤36)(h: ∀ c x,i∈cw→c∈cU f i→SizeOf.sizeOf x<SizeOf.sizeOf v→U c x→U' c x)(hf:FldRel U v i (f i)):FldRel U' v i (f i):=by
  cases hfi:f i with
  |none=>rw [hfi]at hf;exact hf
  |some fv=>
    rw [hfi]at hf
    obtain⟨key,x,a,b,hr⟩:=hf
    exact⟨key,x,a,b,hr.monoK fun c y hc hy hu=>h c y (mc h1 h2 hr hc) bF (Nat.lt_of_le_of_lt hy (xB (uU b))) hu⟩
theorem oB{σ σ':cv}(v:V): ∀ b,(∀ d,Rch σ b d→σ' d=σ d)→USig σ v b→USig σ' v b:=by
 refine V.indS (p:=fun v=> ∀ b,(∀ d,Rch σ b d→σ' d=σ d)→USig σ v b→USig σ' v b) (fun v IH b hr hu=>?_) v
 obtain⟨f,hf,hU⟩:=(xO _ _ _).1 hu
 exact(xO _ _ _).2 ⟨f,(hr b (.refl b)).trans hf,fun i hi hj=>gl hi hj (fun c x hik hc hx huc=>IH x hx c (fun d hd=>hr d (.step hf hik hc hd)) huc) (hU i hi hj)⟩
theorem rch_agree'{σ σ':cv}{b d:Nat}(h:Rch σ' b d):(∀ d,Rch σ b d→σ' d=σ d)→Rch σ b d:=by
  induction h with
  |refl b=>exact fun _=> .refl b
  |step h hi hc r ih=>
    intro hr
    have h':=h
    rw [hr _ (.refl _)]at h'
    exact .step h' hi hc (ih fun d hd=>hr d (.step h' hi hc hd))
theorem Rch.trans{σ:cv}{a b d:Nat}(h:Rch σ a b)(k:Rch σ b d):Rch σ a d:=by
  induction h with
  |refl b=>exact k
  |step h hi hc r ih=>exact .step h hi hc (ih k)

def setL(l:dv)(out:V):V:=l.foldl (fun o p=>dq o p.1 p.2) out
def eS(own out:V):V:=setL (own.keys.zip own.items) out
theorem Eb{l:dv}{out:V}(h:out.keys.length≤out.items.length)(hn:(l.map (·.1)).Nodup)(key:ByteArray):getV (setL l out) key=(lk l key).or (getV out key):=by
  induction l generalizing out with
  |nil=>simp [setL,EQ]
  |cons p l ih=>
    rw [List.map_cons,List.nodup_cons]at hn
    show getV (setL l (dq out p.1 p.2)) key=_
    rw [ih (Gd _ _ _) hn.2,ve h,sS]
    by_cases hk:key=p.1
    · subst hk
      have:lk l p.1=none:=by
        cases hl:lk l p.1 with
        |none=>rfl
        |some x=>exact absurd (List.mem_map.2 ⟨_,yi hl,rfl⟩) hn.1
      rw [if_pos rfl,if_pos rfl,this]
      rfl
    · rw [if_neg hk,if_neg (Ne.symm hk)]
theorem vl(ks:List ByteArray)(ts:List V):List.Sublist ((ks.zip ts).map (·.1)) ks:=by
  induction ks generalizing ts with
  |nil=>exact List.Sublist.refl _
  |cons k ks ih=>cases ts with
    |nil=>exact List.nil_sublist _
    |cons t ts=>exact(ih ts).cons_cons k
theorem map_fst_zip'{ks:List ByteArray}{ts:List V}(h:ks.Nodup):((ks.zip ts).map (·.1)).Nodup:=h.sublist (vl ks ts)
theorem qe{own out:V}(ho:own.keys.Nodup)(hl:own.keys.length≤own.items.length)(h:out.keys.length≤out.items.length)(key:ByteArray):getV (eS own out) key=(getV own key).or (getV out key):=by
 rw [eS,Eb h (map_fst_zip' ho),←pN hl]
theorem Ec{v:V}(hp:Pl v)(hk:v.kind=5):v.keys.Nodup:=nY (qE hp hk).2.2
theorem Bm{l:dv}{out:V}(h:out.kind=5):(setL l out).kind=5:=by
  induction l generalizing out with
  |nil=>exact h
  |cons p l ih=>exact ih rfl
theorem Ed{l:dv}{out:V}{q:ByteArray×V}(h:q∈(setL l out).keys.zip (setL l out).items):q∈l∨q∈out.keys.zip out.items:=by
  induction l generalizing out with
  |nil=>exact .inr h
  |cons p l ih=>
    rcases ih (out:=dq out p.1 p.2) h with e|e
    · exact .inl (List.mem_cons_of_mem _ e)
    · rw [dq,pO]at e
      rcases ez e with e|e
      · exact .inl (by rw [e];exact List.mem_cons_self)
      · exact .inr e

def cpyL:List Nat:=[1,2,6,7,8,9,10,11,12,13,14,15,16,17,18,19,20,21,22,23,24,25,26,27,28,29,30,31,32,33,34,35,36,3]
def jp(f s:Flds):Flds:=fun i=>if i∈cpyL then(s i).or (f i)else f i
theorem vm: ∀ i:Fin 37,i.1∈cpyL∨i.1=0∨i.1=4∨i.1=5:=by decide
theorem N2(key:ByteArray):kwIdx key≠4∧kwIdx key≠5:=by
 rcases kw_case (key:=key)with ⟨_,hm⟩|h0
 ·constructor<;>intro h<;>rw [h]at hm<;>revert hm<;>decide
 ·rw [h0];decide
theorem AY{U:Nat→V→Prop}{v:V}{i:Nat}{o:Option FVal}(h:FldRel U v i o)(hi:i=4∨i=5):o=none:=by
  cases o with
  |none=>rfl
  |some fv=>
    obtain⟨key,x,hk,_⟩:=h
    have:=N2 key
    rcases hi with rfl|rfl
    · exact absurd hk this.1
    · exact absurd hk this.2
theorem qf{U:Nat→V→Prop}{own out:V}{i:Nat}{s f:Option FVal}(hget: ∀ key,getV (eS own out) key=(getV own key).or (getV out key))(hs:FldRel U own i s)(hf:FldRel U out i f):FldRel U (eS own out) i (s.or f):=by
  cases s with
  |some fv=>
    obtain⟨key,x,h1,h2,h3⟩:=hs
    exact⟨key,x,h1,by rw [hget,h2];rfl,h3⟩
  |none=>
    cases f with
    |none=>intro key hk;rw [hget,hs key hk,hf key hk];rfl
    |some fv=>
      obtain⟨key,x,h1,h2,h3⟩:=hf
      exact⟨key,x,h1,by rw [hget,hs key h1,h2];rfl,h3⟩
theorem Gg{U:Nat→V→Prop}{own out:V}{i:Nat}{s f:Flds}(h1:1≤i)(h2:i≤36)(hget: ∀ key,getV (eS own out) key=(getV own key).or (getV out key))(hs:FldRel U own i (s i))(hf:FldRel U out i (f i)):FldRel U (eS own out) i (jp f s i):=by
 unfold jp
 split
 ·exact qf hget hs hf
 ·rename_i hn
  have h45:i=4∨i=5:=by
   rcases vm ⟨i,aC⟩with h|h|h
   ·exact absurd h hn
   ·simp only at h;omega
   ·exact h
  rw [AY hf h45]
  have:=qf hget hs hf
  rw [AY hf h45,AY hs h45]at this
  exact this
theorem On(b s mb mb2:Nat)(cs cs2:List Value)(f f2:Flds):Ct Tryz.prog 74 #[cW b,cW s] [.blk b cs 124, .blk s cs2 124] [.flds mb cs f, .flds mb2 cs2 f2] (fun u M' D'=>u= .tuple #[]∧ ∃cs',M'=[.blk b cs' 124, .blk s cs2 124]∧D'=[.flds mb cs' (jp f f2)]):=by
 refine Ct.of_run (args:=[cW b,cW s]) Tryz.func74 aF Z Tryz.ntmps74 Z (fun c=>?_)
 refine xK (xM 4 1 111 aE aE aE aE dP jy dc eU (fun cs41=>?_))
 refine xK (xM 16 2 111 aE aE aE aE dP fO dc eU (fun cs42=>?_))
 refine xK (xM 28 6 113 aE aE aE aE jv mH pg o2 (fun cs46=>?_))
 refine xK (xM 40 7 113 aE aE aE aE jv mI pg o2 (fun cs47=>?_))
 refine xK (xM 52 8 112 aE aE aE aE fp mJ jR mw (fun cs48=>?_))
 refine xK (xM 64 9 113 aE aE aE aE jv mK pg o2 (fun cs49=>?_))
 refine xK (xM 76 10 112 aE aE aE aE fp jz jR mw (fun cs50=>?_))
 refine xK (xM 88 11 114 aE aE aE aE eV j0 fT fu (fun cs51=>?_))
 refine xK (xM 100 12 114 aE aE aE aE eV j3 fT fu (fun cs52=>?_))
 refine xK (xM 112 13 111 aE aE aE aE dP j4 dc eU (fun cs53=>?_))
 refine xK (xM 124 14 115 aE aE aE aE iK fx nW zj (fun cs54=>?_))
 refine xK (xM 136 15 116 aE aE aE aE ln rX Db HY (fun cs55=>?_))
 refine xK (xM 148 16 114 aE aE aE aE eV j5 fT fu (fun cs56=>?_))
 refine xK (xM 160 17 114 aE aE aE aE eV j7 fT fu (fun cs57=>?_))
 refine xK (xM 172 18 112 aE aE aE aE fp j9 jR mw (fun cs58=>?_))
 refine xK (xM 184 19 114 aE aE aE aE eV kA fT fu (fun cs59=>?_))
 refine xK (xM 196 20 114 aE aE aE aE eV kB fT fu (fun cs60=>?_))
 refine xK (xM 208 21 117 aE aE aE aE jw kC ud zk (fun cs61=>?_))
 refine xK (xM 220 22 115 aE aE aE aE iK en nW zj (fun cs62=>?_))
 refine xK (xM 232 23 118 aE aE aE aE eB qX kX o4 (fun cs63=>?_))
 refine xK (xM 244 24 118 aE aE aE aE eB fy kX o4 (fun cs64=>?_))
 refine xK (xM 256 25 119 aE aE aE aE ta f3 Dc HZ (fun cs65=>?_))
 refine xK (xM 268 26 120 aE aE aE aE Cw kD Hl Ha (fun cs66=>?_))
 refine xK (xM 280 27 121 aE aE aE aE iL tK ue Hb (fun cs67=>?_))
 refine xK (xM 292 28 122 aE aE aE aE dm rY fU jx (fun cs68=>?_))
 refine xK (xM 304 29 122 aE aE aE aE dm rZ fU jx (fun cs69=>?_))
 refine xK (xM 316 30 122 aE aE aE aE dm qY fU jx (fun cs70=>?_))
 refine xK (xM 328 31 63 aE aE aE aE dx f6 iC Fh (fun cs71=>?_))
 refine xK (xM 340 32 118 aE aE aE aE eB qZ kX o4 (fun cs72=>?_))
 refine xK (xM 352 33 111 aE aE aE aE dP kE dc eU (fun cs73=>?_))
 refine xK (xM 364 34 111 aE aE aE aE dP kF dc eU (fun cs74=>?_))
 refine xK (xM 376 35 102 aE aE aE aE dU mx uf HW (fun cs75=>?_))
 refine xK (xM 388 36 111 aE aE aE aE dP kG dc eU (fun cs76=>?_))
 refine xM 400 3 111 aE aE aE aE dP fP dc eU (fun cs43=>?_)
 refine vI Tryz.results74 ⟨rfl,_,rfl,?_⟩ (List.Sublist.refl _) (D':=[.flds mb _ (cpyL.foldl (fun g q=>ig q g f2) f)]) (fun d hd=>by rw [List.mem_singleton.1 hd];exact List.mem_cons_self)
 rw [EP cpyL aE f f2]
 rfl
def d5(v:V):Prop:=Pl v∧IsShape v
theorem sch_good:Ea d5:=⟨fun v h=>h.1,fun v h=>h.2,fun v h z hz=>⟨vP h.1 hz,wH h.1 h.2 hz⟩⟩
theorem vn{v:V}(hp:Pl v)(hs:IsShape v):cn ii (cO v):=
 pX (p:=fun _=>True) (q:=ii) (fun v _ _ _=>ko v) v hp hs (jI (fun _=>trivial) v)
def N3(k:ByteArray)(t:V)(bo nk n:Nat)(xk:List Value)(ts:List V)(u:Value)(M':List HA)(D':List DA):Prop:=
 u= .tuple #[]∧ ∃Ak ck A ca xs,M'=[.row Ak (nk+1) ck 9 1 (xk++[.string k]), .row A (n+1) ca 25 5 xs, .blk bo [.int .i64 5, .int .i64 0, .string ⟨#[]⟩, .slice Ak (nk+1) ck, .slice A (n+1) ca] 25]∧D'=[.its xs (ts++[t])]
def ij(key:ByteArray)(own:V)(done:Bool)(l:dv):dv:=if done then l.filter (fun q=> !decide (q.1=key))else dH key own l
def WAt(key:ByteArray)(own:V)(l:dv)(i:Nat)(done:Bool)(nk:Nat)(xk:List Value)(ts:List V):Prop:=
 i≤l.length∧ ∃acc:dv,nk=acc.length∧xk=acc.map (fun p=>Value.string p.1)∧ts=acc.map (fun p=>p.2)∧acc++ij key own done (l.drop i)=dH key own l∧acc.length≤i+1∧(done=false→acc.length≤i)
section
variable {key k:ByteArray} {own x:V} {l:dv} {i nk:Nat} {xk:List Value} {ts:List V}
theorem WAt.zero(key:ByteArray)(own:V)(l:dv):WAt key own l 0 false 0 [] []:=⟨Nat.zero_le _,[],rfl,rfl,rfl,rfl,Nat.zero_le _,fun _=>Nat.le_refl _⟩
theorem kr{l:dv}{i:Nat}{p:ByteArray×V}(h:l[i]? =some p):l.drop i=p::l.drop (i+1):=by
 obtain⟨hi,he⟩:=List.getElem?_eq_some_iff.1 h
 rw [←he,List.drop_eq_getElem_cons hi]
theorem vo{l:dv}{i:Nat}{p:ByteArray×V}(h:l[i]? =some p):i<l.length:=(List.getElem?_eq_some_iff.1 h).1
theorem Ee{p:ByteArray×V}{r:dv}(h:p.1≠key):ij key own true (p::r)=p::ij key own true r:=by
 simp [ij,h]
theorem Ef{p:ByteArray×V}{r:dv}(h:p.1=key):ij key own true (p::r)=ij key own true r:=by
 simp [ij,h]
theorem Eg{p:ByteArray×V}{r:dv}(h:Op.bytesLess p.1.toList key.toList=false):ij key own false (p::r)=(key,own)::ij key own true (p::r):=by
 show dH key own (p::r)=_
 rw [dH,if_pos h];rfl
theorem JQ{p:ByteArray×V}{r:dv}(h: ¬ Op.bytesLess p.1.toList key.toList=false):ij key own false (p::r)=p::ij key own false r:=by
 show dH key own (p::r)=_
 rw [dH,if_neg h];rfl
theorem WAt.s1(h:WAt key own l i true nk xk ts)(hp:l[i]? =some (k,x))(hk:k≠key):WAt key own l (i+1) true (nk+1) (xk++[.string k]) (ts++[x]):=by
 obtain⟨h0,acc,h1,h2,h3,h4,h5⟩:=h
 rw [kr hp,Ee hk]at h4
 exact⟨vo hp,acc++[(k,x)],by simp [h1],by simp [h2],by simp [h3],by rw [←h4];simp,by simp;omega,fun h=>by cases h⟩
theorem WAt.s2(h:WAt key own l i true nk xk ts)(hp:l[i]? =some (k,x))(hk:k=key):WAt key own l (i+1) true nk xk ts:=by
 obtain⟨h0,acc,h1,h2,h3,h4,h5⟩:=h
 rw [kr hp,Ef hk]at h4
 exact⟨vo hp,acc,h1,h2,h3,h4,aC,fun h=>by cases h⟩
theorem WAt.len{done:Bool}(h:WAt key own l i done nk xk ts):nk≤i+1:=by
 obtain⟨h0,acc,h1,h2,h3,h4,h5⟩:=h
 omega
theorem WAt.s3(h:WAt key own l i false nk xk ts)(hp:l[i]? =some (k,x))(hl:Op.bytesLess k.toList key.toList=false)(hk:k≠key):WAt key own l (i+1) true (nk+1+1) (xk++[.string key]++[.string k]) (ts++[own]++[x]):=by
 obtain⟨h0,acc,h1,h2,h3,h4,h5,h6⟩:=h
 rw [kr hp,Eg hl,Ee hk]at h4
 have:=h6 rfl
 exact⟨vo hp,acc++[(key,own)]++[(k,x)],by simp [h1],by simp [h2],by simp [h3],by rw [←h4];simp,by simp;omega,fun h=>by cases h⟩
theorem WAt.s4(h:WAt key own l i false nk xk ts)(hp:l[i]? =some (k,x))(hl:Op.bytesLess k.toList key.toList=false)(hk:k=key):WAt key own l (i+1) true (nk+1) (xk++[.string key]) (ts++[own]):=by
 obtain⟨h0,acc,h1,h2,h3,h4,h5,h6⟩:=h
 rw [kr hp,Eg hl,Ef hk]at h4
 have:=h6 rfl
 exact⟨vo hp,acc++[(key,own)],by simp [h1],by simp [h2],by simp [h3],by rw [←h4];simp,by simp;omega,fun h=>by cases h⟩
theorem WAt.s5(h:WAt key own l i false nk xk ts)(hp:l[i]? =some (k,x))(hl: ¬ Op.bytesLess k.toList key.toList=false):WAt key own l (i+1) false (nk+1) (xk++[.string k]) (ts++[x]):=by
 obtain⟨h0,acc,h1,h2,h3,h4,h5,h6⟩:=h
 rw [kr hp,JQ hl]at h4
 have:=h6 rfl
 exact⟨vo hp,acc++[(k,x)],by simp [h1],by simp [h2],by simp [h3],by rw [←h4];simp,by simp;omega,fun _=>by simp;omega⟩
theorem WAt.endT(h:WAt key own l l.length true nk xk ts):nk=((dH key own l).map (fun p=>p.2)).length∧xk=(dH key own l).map (fun p=>Value.string p.1)∧ts=(dH key own l).map (fun p=>p.2):=by
 obtain⟨h0,acc,h1,h2,h3,h4,h5,h6⟩:=h
 rw [List.drop_length]at h4
 have e:acc=dH key own l:=by rw [←h4];exact(List.append_nil acc).symm
 subst e
 exact⟨by rw [List.length_map];exact h1,h2,h3⟩
theorem WAt.endF(h:WAt key own l l.length false nk xk ts):nk+1=((dH key own l).map (fun p=>p.2)).length∧xk++[.string key]=(dH key own l).map (fun p=>Value.string p.1)∧ts++[own]=(dH key own l).map (fun p=>p.2):=by
 obtain⟨h0,acc,h1,h2,h3,h4,h5,h6⟩:=h
 rw [List.drop_length]at h4
 have e:acc++[(key,own)]=dH key own l:=h4
 rw [←e]
 exact⟨by simp [h1],by simp [h2],by simp [h3]⟩
theorem oC{own:V}(hk:key.size≤maxLen)(hl: ∀ p∈l,p.1.size≤maxLen): ∀ s∈(dH key own l).map (fun p=>p.1),s.size≤maxLen:=by
 intro s hs
 obtain⟨p,hp,rfl⟩:=List.mem_map.1 hs
 rcases ez hp with e|e
 ·rw [e];exact hk
 ·exact hl p e
end

theorem Eh(k:ByteArray)(x:Value)(t:V)(bo:Nat)(Ak A:Option Addr)(nk ck n ca:Nat)(xk xs:List Value)(ts:List V)(h1:nk≤2000000)(h2:n≤2000000):Ct Tryz.prog 109 #[.string k,x,cW bo] [.row Ak nk ck 9 1 xk, .row A n ca 25 5 xs, .blk bo [.int .i64 5, .int .i64 0, .string ⟨#[]⟩, .slice Ak nk ck, .slice A n ca] 25] [.val x t, .its xs ts] (N3 k t bo nk n xk ts):=by
 refine Ct.of_run (args:=[.string k,x,cW bo]) Tryz.func109 aF Z Tryz.ntmps109 Z (fun c=>?_)
 refine yP 0 Z (fun A1 c1 A2 c2 hx hsz hk1 hk2 hi1 hi2=>?_)
 subst hx
 refine rO 3 Z (yK Z Z Z (fun b4=>?_))
 refine oO 4 Z (zC xI Z Z ?_)
 refine zA (zG 3 dN Z Z Z Z ?_)
 refine oO 3 Z (zM cX Z Z Z Z Z (fun b8=>?_))
 refine zA ?_
 refine cf 2 0 cX (fun A9 c9=>?_)
 refine zA (zC xI Z Z ?_)
 refine zA (zF 4 (M':=[_,_,_,_,HA.blk _ [_,_,_,_,_] _]) Z Z Z Z fF Z Z Z ?_)
 refine zX (yO yE ?_)
 refine zR (tP 0 Z cK (zY yV Z) ?_)
 refine yF (tM 1 Z cK (yR 4 dJ Z Z Z) ?_)
 refine tM 2 Z cK (vG 1 Z cP Z) (tM 3 Z cK (fj cg Z) ?_)
 refine zL 4 aD ?_
 refine zO (I2:=[[3,2,1],[0],[]]) Z cK aD (fun Kd hKd=>?_)
 refine zM cg Z Z Z Z Z (fun b15=>?_)
 refine hKd _ _ _ (hC (hC (zD (zP)))) (zL 5 aD ?_)
 refine zO (I2:=[[],[],[]]) Z cK aD (fun Kd hKd=>?_)
 refine cf 4 0 cg (fun A16 c16=>?_)
 refine hKd _ _ _ (zD (zD (zD (zP)))) (zR ?_)
 refine tP 8 Z cK (zY yV Z) (uS (zB 4 Z (zQ _)) ?_)
 refine wD (zB 4 Z (zQ _)) 6 (yN _ _ _ _) Z cK aD aD aD Z (ny 0 cg Z Z Z aC) (tX (rs:=[7,9]) aD aJ ?_)
 intro j hj
 simp only [List.mem_cons,List.not_mem_nil,or_false]at hj
 rcases hj with rfl|rfl
 ·refine zO (I2:=[[],[8],[],[],[]]) Z cK aD (fun Kd hKd=>?_)
  refine fX 4 Z Z Z Z Z Z cY Z (hKd _ _ _ (zD (hC (zD (zD (zD (zP)))))) ?_)
  refine zL 9 aD ?_
  refine zO (I2:=[[],[],[],[],[]]) Z cK aD (fun Kd hKd=>?_)
  refine zF 5 (M':=[_,_,_,_,_,HA.blk _ [_,_,_,_,_] _]) Z Z Z Z ei Z Z Z (hKd _ _ _ (zD (zD (zD (zD (zD (zP)))))) ?_)
  refine yG aD (rK 0 [] Z Z ?_)
  refine wN 3 2 Z Z Z ?_
  exact vI Tryz.results109 ⟨rfl,_,_,_,_,_,rfl,rfl⟩ ak (cS 0 Z)
 refine zO (I2:=[[6],[],[],[],[]]) Z cK aD (fun Kd hKd=>?_)
 refine zF 5 (M':=[_,_,_,_,_,HA.blk _ [_,_,_,_,_] _]) Z Z Z Z ei Z Z Z ?_
 refine hKd _ _ _ (vV sK sQ (zD (zD (zD (zD (zP)))))) ?_
 refine zL 7 aD ?_
 refine zO (I2:=[[],[],[],[],[]]) Z cK aD (fun Kd hKd=>?_)
 refine fX 4 Z Z Z Z Z Z cY Z (hKd _ _ _ (zD (zD (zD (zD (zD (zP)))))) ?_)
 refine yG aD (rK 0 [] Z Z ?_)
 refine wN 3 2 Z Z Z ?_
 exact vI Tryz.results109 ⟨rfl,_,_,_,_,_,rfl,rfl⟩ ak (cS 0 Z)
theorem KJ(v own:V)(key:ByteArray)(x y:Value)(hkl:v.keys.length≤1000000)(hl:v.keys.length≤v.items.length)(hks:key.size≤maxLen):CtR Tryz.prog 64 #[x, .string key,y] [.val x v, .val y own] (RV (dq v key own)):=by
 refine Ct.of_run (args:=[x, .string key,y]) Tryz.func64 aF Z Tryz.ntmps64 Z (fun c=>?_)
 refine yP 0 Z (fun A1 c1 A2 c2 hx hsz1 hk1 hk2 hi1 hi2=>?_)
 subst hx
 refine yP 3 Z (fun A3 c3 A4 c4 hx hsz3 hk3 hk4 hi3 hi4=>?_)
 subst hx
 refine uB 2 Z (fun hksz=>?_)
 have hzl:(v.keys.zip v.items).length=v.keys.length:=by rw [List.length_zip];omega
 refine rO 3 Z (yK Z Z Z (fun b3=>?_))
 refine zA (yK Z Z Z (fun b5=>?_))
 refine zA (zS cx Z (fun b6=>?_))
 change cL _ _ _ _ _ _ _ _ (HA.blk _ [_,_,_,_,_] _::_) _
 refine oO 4 Z (yX Z Z (iM ..) ?_)
 refine zA (zS cx Z (fun b7=>?_))
 change cL _ _ _ _ _ _ _ _ (HA.blk _ [_,_,_,_,_] _::_) _
 refine zA (zF 0 (M':=[HA.blk _ [_,_,_,_,_] _,_,_,_]) Z Z Z Z cY Z Z Z ?_)
 refine oO 6 Z (rH Z Z Z ?_)
 refine oO 7 Z (zC xI Z Z ?_)
 refine zA (zG 3 dN Z Z Z Z ?_)
 refine zA (yA cX Z Z ?_)
 refine oK 3 [17,16,15,9,8,7,6,5,3,1] Z Z (rK 1 [17,8,16,15,9,7,6,5,3,1] Z Z ?_)
 refine xS 25 5 (xS 9 1 ?_)
 refine tL (yL 2 (fun(⟨i,done,nk,Ak,ck,xk,A,ca,xs,ts⟩:Nat×Bool×Nat×Option Addr×Nat×List Value×Option Addr×Nat×List Value×List V)=>WAt key own (v.keys.zip v.items) i done nk xk ts) (fun(⟨i,done,nk,Ak,ck,xk,A,ca,xs,ts⟩:Nat×Bool×Nat×Option Addr×Nat×List Value×Option Addr×Nat×List Value×List V)=>[(17, .int .i64 ((i:Nat):Int)),(8, .bool done)]) (fun(⟨i,done,nk,Ak,ck,xk,A,ca,xs,ts⟩:Nat×Bool×Nat×Option Addr×Nat×List Value×Option Addr×Nat×List Value×List V)=>HA.row Ak nk ck 9 1 xk::HA.row A nk ca 25 5 xs::HA.blk b7 [.int .i64 5, .int .i64 0, .string ⟨#[]⟩, .slice Ak nk ck, .slice A nk ca] 25::HA.blk b6 [.int .i64 0, .int .i64 0, .string ⟨#[]⟩, .slice none 0 0, .slice none 0 0] 25::HA.blk b5 [.int .i64 own.kind, .int .i64 own.num, .string own.text, .slice A3 own.keys.length c3, .slice A4 own.items.length c4] 25::HA.blk b3 [.int .i64 v.kind, .int .i64 v.num, .string v.text, .slice A1 v.keys.length c1, .slice A2 v.items.length c2] 25::[]) (fun(⟨i,done,nk,Ak,ck,xk,A,ca,xs,ts⟩:Nat×Bool×Nat×Option Addr×Nat×List Value×Option Addr×Nat×List Value×List V)=> .its xs ts:: .strs (.slice A3 own.keys.length c3) own.keys:: .vals (.slice A4 own.items.length c4) own.items:: .strs (.slice A1 v.keys.length c1) v.keys:: .vals (.slice A2 v.items.length c2) v.items:: .val (.agg #[.int .i64 v.kind, .int .i64 v.num, .string v.text, .slice A1 v.keys.length c1, .slice A2 v.items.length c2]) v:: .val (.agg #[.int .i64 own.kind, .int .i64 own.num, .string own.text, .slice A3 own.keys.length c3, .slice A4 own.items.length c4]) own::[]) (fun(⟨i,done,nk,Ak,ck,xk,A,ca,xs,ts⟩:Nat×Bool×Nat×Option Addr×Nat×List Value×Option Addr×Nat×List Value×List V)=>v.keys.length - i) (0,false,0,none,0,[],none,0,[],[]) (WAt.zero _ _ _) (eC Z (eC Z (eN _))) Z Z ?_ (eC Z (eC Z (eC Z (eC Z (eC Z (eC Z (eC Z (eC Z (eN _))))))))))
 intro ⟨i,done,nk,Ak,ck,xk,A,ca,xs,ts⟩ hI K hK
 replace hI:WAt key own (v.keys.zip v.items) i done nk xk ts:=hI
 change Run _ _ _ _ _ [(17,_),(8,_),(16,_),(15,_),(9,_),(7,_),(6,_),(5,_),(3,_),(1,_)] [_,_,_,_,_,_] [_,_,_,_,_,_,_]
 replace hI:WAt key own (v.keys.zip v.items) i done nk xk ts:=hI
 have hi:i≤v.keys.length:=hzl▸hI.1
 refine rO 3 Z (yJ Z Z Z ?_)
 refine oR 2 Z (zN Z (fun h18=>?_) (fun h18=>?_))
 ·refine rO 8 Z (xP 3 cX Z Z Z Z h18 ?_)
  have hlt:i<v.items.length:=by omega
  have hp:(v.keys.zip v.items)[i]? =some (v.keys[i],v.items[i]):=by rw [List.getElem?_zip_eq_some];exact⟨List.getElem?_eq_getElem h18,List.getElem?_eq_getElem hlt⟩
  have hlen:=hI.len
  refine zA (yH dK Z Z (fun _ h=>xF h (j:=3) Z (List.getElem?_eq_getElem h18)) ?_)
  refine oK 5 [11,10,17,8,16,15,9,7,6,5,3,1] Z Z (rS 9 Z ?_)
  refine yU (s:=24) Z (fun h24=>?_) (fun h24=>?_)
  ·have hdf:done=false:=by simpa using h24
   subst hdf
   refine oO 5 Z (Fe Z Z Z ?_)
   refine oK 3 [28,11,10,17,8,16,15,9,7,6,5,3,1] Z Z (zW Z (fun h28=>?_) (fun h28=>?_))
   ·refine rO 7 Z (zJ 4 Z cP Z Z ?_)
    refine zA ?_
    refine vT (M1:=[_,_,_]) (M2:=_) Z Z Z (Eh key _ own b7 _ _ _ _ _ _ _ _ _ aC aC) Z (dC 6 0 Z Z) (fun u32 M32 D32 hv32=>?_)
    obtain⟨rfl,Ak32,ck32,A32,ca32,xs32,rfl,rfl⟩:=hv32
    refine oK 1 [11,10,17,16,15,9,7,6,5,3,1] Z Z (rO 11 Z ?_)
    refine iu Z Z Z (oK 1 [35,8,11,10,17,16,15,9,7,6,5,3,1] Z Z ?_)
    refine zN Z (fun h35=>?_) (fun h35=>?_)
    ·refine rO 6 Z (zC yV Z Z ?_)
     refine zA (zG 5 dJ Z Z Z Z ?_)
     refine oO 3 Z (wK 5 cg Z Z Z Z hlt ?_)
     refine zA (wA 5 cP Z Z Z (List.getElem?_eq_getElem hlt) (fun A42 c42 B42 d42=>?_))
     refine zA ?_
     refine vT (M1:=[_,_,_]) (M2:=_) Z Z Z (Eh _ _ (v.items[i]'hlt) b7 _ _ _ _ _ _ _ _ _ aC aC) Z (dC 0 1 Z Z) (fun u43 M43 D43 hv43=>?_)
     obtain⟨rfl,Ak43,ck43,A43,ca43,xs43,rfl,rfl⟩:=hv43
     refine oK 1 [8,17,16,15,9,7,6,5,3,1] Z Z (rO 3 Z ?_)
     refine yB Z Z aC (oR 3 Z ?_)
     exact kQ (hK (i+1,true,_,_,_,_,_,_,_,_) (hI.s3 hp (by simpa using h28) (by simpa using h35)) aq) (eC Z (eC Z (eC Z (eC Z (eC Z (eC Z (eC Z (eC Z (eC Z (eC Z (eN _))))))))))) (hD:=(cl 0 Z sQ))
    refine rO 4 Z (yB Z Z aC ?_)
    refine oR 3 Z ?_
    exact kQ (hK (i+1,true,_,_,_,_,_,_,_,_) (hI.s4 hp (by simpa using h28) (by simpa using h35)) aq) (eC Z (eC Z (eC Z (eC Z (eC Z (eC Z (eC Z (eC Z (eC Z (eC Z (eN _))))))))))) (hD:=(cl 0 Z sQ))
   refine rO 8 Z (iu Z Z Z ?_)
   refine oK 1 [35,11,10,17,8,16,15,9,7,6,5,3,1] Z Z (zN Z (fun h35=>?_) (fun h35=>?_))
   ·refine rO 6 Z (zC yV Z Z ?_)
    refine zA (zG 5 dJ Z Z Z Z ?_)
    refine oO 3 Z (wK 4 cg Z Z Z Z hlt ?_)
    refine zA (wA 4 cP Z Z Z (List.getElem?_eq_getElem hlt) (fun A42 c42 B42 d42=>?_))
    refine zA ?_
    refine vT (M1:=[_,_,_]) (M2:=_) Z Z Z (Eh _ _ (v.items[i]'hlt) b7 _ _ _ _ _ _ _ _ _ aC aC) Z (dC 0 1 Z Z) (fun u43 M43 D43 hv43=>?_)
    obtain⟨rfl,Ak43,ck43,A43,ca43,xs43,rfl,rfl⟩:=hv43
    refine oK 1 [17,8,16,15,9,7,6,5,3,1] Z Z (rO 3 Z ?_)
    refine yB Z Z aC (oR 3 Z ?_)
    exact kQ (hK (i+1,false,_,_,_,_,_,_,_,_) (hI.s5 hp (by simpa using h28)) aq) (eC Z (eC Z (eC Z (eC Z (eC Z (eC Z (eC Z (eC Z (eC Z (eC Z (eN _))))))))))) (hD:=(cl 0 Z sQ))
   refine rO 4 Z (yB Z Z aC ?_)
   refine oR 3 Z ?_
   exact kQ (hK (i+1,false,_,_,_,_,_,_,_,_) (absurd (by rw [show v.keys[i]=key from by simpa using h35];exact ES key) (by simpa using h28: ¬ Op.bytesLess v.keys[i].toList key.toList=false)) aq) (eC Z (eC Z (eC Z (eC Z (eC Z (eC Z (eC Z (eC Z (eC Z (eC Z (eN _))))))))))) (hD:=(cl 0 Z sQ))
  have hdf:done=true:=by simpa using h24
  subst hdf
  refine oK 6 [28,11,10,17,8,16,15,9,7,6,5,3,1] Z Z (rO 9 Z ?_)
  refine iu Z Z Z (oK 1 [35,11,10,17,8,16,15,9,7,6,5,3,1] Z Z ?_)
  refine zN Z (fun h35=>?_) (fun h35=>?_)
  ·refine rO 6 Z (zC yV Z Z ?_)
   refine zA (zG 5 dJ Z Z Z Z ?_)
   refine oO 3 Z (wK 4 cg Z Z Z Z hlt ?_)
   refine zA (wA 4 cP Z Z Z (List.getElem?_eq_getElem hlt) (fun A42 c42 B42 d42=>?_))
   refine zA ?_
   refine vT (M1:=[_,_,_]) (M2:=_) Z Z Z (Eh _ _ (v.items[i]'hlt) b7 _ _ _ _ _ _ _ _ _ aC aC) Z (dC 0 1 Z Z) (fun u43 M43 D43 hv43=>?_)
   obtain⟨rfl,Ak43,ck43,A43,ca43,xs43,rfl,rfl⟩:=hv43
   refine oK 1 [17,8,16,15,9,7,6,5,3,1] Z Z (rO 3 Z ?_)
   refine yB Z Z aC (oR 3 Z ?_)
   exact kQ (hK (i+1,true,_,_,_,_,_,_,_,_) (hI.s1 hp (by simpa using h35)) aq) (eC Z (eC Z (eC Z (eC Z (eC Z (eC Z (eC Z (eC Z (eC Z (eC Z (eN _))))))))))) (hD:=(cl 0 Z sQ))
  refine rO 4 Z (yB Z Z aC ?_)
  refine oR 3 Z ?_
  exact kQ (hK (i+1,true,_,_,_,_,_,_,_,_) (hI.s2 hp (by simpa using h35)) aq) (eC Z (eC Z (eC Z (eC Z (eC Z (eC Z (eC Z (eC Z (eC Z (eC Z (eN _))))))))))) (hD:=(cl 0 Z sQ))
 obtain rfl:i=v.keys.length:=by omega
 have hlen:=hI.len
 refine rR 9 Z (zW Z (fun h46=>?_) (fun h46=>?_))
 ·refine rO 6 Z (zJ 4 Z cP Z Z ?_)
  refine zA ?_
  refine vT (M1:=[_,_,_]) (M2:=_) Z Z Z (Eh key _ own b7 _ _ _ _ _ _ _ _ _ aC aC) Z (dC 6 0 Z Z) (fun u50 M50 D50 hv50=>?_)
  obtain⟨rfl,Ak50,ck50,A50,ca50,xs50,rfl,rfl⟩:=hv50
  refine oK 1 [7,6] Z Z (rO 3 Z ?_)
  refine zJ 2 Z cP Z Z (zA ?_)
  refine zF 3 (M':=[_,_,_,HA.blk _ [_,_,_,_,_] _,_,_]) Z Z Z Z cY Z Z Z (zX ?_)
  have hdf:done=false:=by simpa using h46
  subst hdf
  rw [←hzl]at hI
  obtain⟨e1,e2,e3⟩:=hI.endF
  refine wP 0 ((dH key own (v.keys.zip v.items)).map (fun p=>p.1)) Z aG (by rw [e2,List.map_map];rfl) (oC hks (fun p hp=>hksz _ (List.of_mem_zip hp).1)) (uM 0 1 ((dH key own (v.keys.zip v.items)).map (fun p=>p.2)) Z (by rw [←e3];rfl) aG e1 ?_)
  refine wU (q:=5) (m:=0) (s:=⟨#[]⟩) 1 0 Z Z aE ?_
  exact yZ 1 Tryz.results64 Z Z cP ⟨rfl,_,_,_,_,by show _=Value.agg #[.int .i64 5, .int .i64 0, .string ⟨#[]⟩, .slice _ ((dH key own (v.keys.zip v.items)).map (fun p=>p.1)).length _, .slice _ ((dH key own (v.keys.zip v.items)).map (fun p=>p.2)).length _];rw [←e1,show((dH key own (v.keys.zip v.items)).map (fun p=>p.1)).length=((dH key own (v.keys.zip v.items)).map (fun p=>p.2)).length by simp,←e1],rfl⟩ nS (cS 0 Z)
 refine rO 4 Z (zJ 2 Z cP Z Z ?_)
 refine zA (zF 3 (M':=[_,_,_,HA.blk _ [_,_,_,_,_] _,_,_]) Z Z Z Z cY Z Z Z ?_)
 refine oK 1 [6] Z Z ?_
 have hdf:done=true:=by simpa using h46
 subst hdf
 rw [←hzl]at hI
 obtain⟨e1,e2,e3⟩:=hI.endT
 refine wP 0 ((dH key own (v.keys.zip v.items)).map (fun p=>p.1)) Z aG (by rw [e2,List.map_map];rfl) (oC hks (fun p hp=>hksz _ (List.of_mem_zip hp).1)) (uM 0 1 ((dH key own (v.keys.zip v.items)).map (fun p=>p.2)) Z (by rw [←e3];rfl) aG e1 ?_)
 refine wU (q:=5) (m:=0) (s:=⟨#[]⟩) 1 0 Z Z aE ?_
 exact yZ 1 Tryz.results64 Z Z cP ⟨rfl,_,_,_,_,by show _=Value.agg #[.int .i64 5, .int .i64 0, .string ⟨#[]⟩, .slice _ ((dH key own (v.keys.zip v.items)).map (fun p=>p.1)).length _, .slice _ ((dH key own (v.keys.zip v.items)).map (fun p=>p.2)).length _];rw [←e1,show((dH key own (v.keys.zip v.items)).map (fun p=>p.1)).length=((dH key own (v.keys.zip v.items)).map (fun p=>p.2)).length by simp,←e1],rfl⟩ nS (cS 0 Z)
abbrev dw:ByteArray:=⟨#[79,110,101,79,102]⟩
structure Trv(β:Type) where
 mb:Nat
 X:β→List HA
 D0:List DA
 I:β×cv→Prop
 S:Bool→Nat→Prop
 mu:Nat→Nat
 dn:β×cv→Bool→Nat→Prop
def Trv.Post{β:Type}(t:Trv β)(x:β×cv)(one:Bool)(b:Nat)(same:Nat→Prop):Value→List HA→List DA→Prop:=fun u M' D'=>
 u= .tuple #[]∧ ∃(y:β×cv) (G':Gr),t.I y∧GOk G' y.2∧M'= .many 124 (Gr.blks G')::t.X y.1∧D'=[.graph t.mb G']∧(∀ o d,t.dn x o d→t.dn y o d)∧t.dn y one b∧ ∀ d,same d→y.2 d=x.2 d
structure Trv.Ok{β:Type}(t:Trv β)(P:Program)(fo:FuncId)(cap:Array Value):Prop where
 kid: ∀ x one b,t.I x→t.S one b→ ∃f,x.2 b=some f∧FT f∧ ∀ i∈cw,∀ c∈cU f i,t.S (decide (i=30)) c∧t.mu c<t.mu b
 op: ∀ x b f ctx G,t.I x→t.S (decide (ctx=dw)) b→x.2 b=some f→(∀ i∈cw,∀ c∈cU f i,t.dn x (decide (i=30)) c)→GOk G x.2→
  Ct P fo (#[cW b, .string ctx]++cap) (.many 124 (Gr.blks G)::t.X x.1) (.graph t.mb G::t.D0) (t.Post x (decide (ctx=dw)) b (· ≠b))
theorem qP{fv:FVal}(h:lX 13 fv): ∃bs,fv= .list bs:=by
 cases fv<;>first|exact⟨_,rfl⟩|exact absurd h cJ
def Lm(mb:Nat)(good:V→Prop)(σ0:cv)(mu:Nat→Nat):Trv Unit where
 mb:=mb
 X:=fun _=>[]
 D0:=[]
 I:=fun x=> ∀ d,fB good σ0 d→x.2 d=σ0 d∨x.2 d=(σ0 d).map eF
 S:=fun _=>fB good σ0
 mu:=mu
 dn:=fun x _ b=> ∀ d,Rch σ0 b d→x.2 d=(σ0 d).map eF
theorem Gh{f:Flds}{c i:Nat}(hi:i∈cw)(h:c∈cU (eF f) i): ∃j∈cw,c∈cU f j:=by
  cases ha:f 29 with
  |none=>rw [qN ha]at h;exact⟨i,hi,h⟩
  |some a=>
    rw [pW ha]at h
    by_cases e29:i=29
    · subst e29;simp [cU,Flds.put]at h
    by_cases e30:i=30
    · subst e30
      refine⟨29,by decide,?_⟩
      simpa [cU,Flds.put,ha]using h
    · refine⟨i,hi,?_⟩
      have e:((f.put 30 (some a)).put 29 none) i=f i:=by simp [Flds.put,e29,e30]
      unfold cU at h⊢
      rwa [e]at h
theorem kids_ch'{f:Flds}{c i:Nat}(hb:f 29=none∨f 30=none)(hi:i∈cw)(h:c∈cU f i): ∃j∈cw,c∈cU (eF f) j:=by
  cases ha:f 29 with
  |none=>rw [qN ha];exact⟨i,hi,h⟩
  |some a=>
    rw [pW ha]
    have h30:f 30=none:=hb.resolve_left (by rw [ha];exact fun e=>by cases e)
    by_cases e29:i=29
    · subst e29
      refine⟨30,by decide,?_⟩
      simpa [cU,Flds.put,ha]using h
    by_cases e30:i=30
    · subst e30;simp [cU,h30]at h
    · refine⟨i,hi,?_⟩
      have e:((f.put 30 (some a)).put 29 none) i=f i:=by simp [Flds.put,e29,e30]
      unfold cU at h⊢
      rwa [e]
theorem Ln{f:Flds}(h:FT f):FT (eF f):=by
  cases ha:f 29 with
  |none=>rw [qN ha];exact h
  |some a=>
    rw [pW ha]
    intro i fv hi hj hf
    by_cases e29:i=29
    · subst e29;simp [Flds.put]at hf
    by_cases e30:i=30
    · subst e30
      have:some a=some fv:=by simpa [Flds.put]using hf
      injection this with this
      rw [←this]
      exact h 29 a aE aE ha
    · have e:((f.put 30 (some a)).put 29 none) i=f i:=by simp [Flds.put,e29,e30]
      rw [e]at hf
      exact h i fv hi hj hf
def KK(v:V):Prop:=Pl v∧IsShape v∧cn ff v
theorem Ei:Ea KK:=⟨fun v h=>h.1,fun v h=>h.2.1,fun v h z hz=>⟨vP h.1 hz,wH h.1 h.2.1 hz,((wG _ _).1 h.2.2).2 z hz⟩⟩
theorem Ej{σ:cv}{b:Nat}{f:Flds}(h:fB KK σ b)(hf:σ b=some f):f 29=none∨f 30=none:=by
  obtain⟨v,⟨hp,hs,hd⟩,hu⟩:=h
  obtain⟨f',h1,h2⟩:=(xO _ _ _).1 hu
  rw [hf]at h1
  injection h1 with h1
  subst h1
  have hn:=((wG _ _).1 hd).1
  cases h29:f 29 with
  |none=>exact .inl rfl
  |some a=>cases h30:f 30 with
    |none=>exact .inr rfl
    |some a'=>
      exfalso
      have e29:=h2 29 aE aE
      have e30:=h2 30 aE aE
      rw [h29]at e29
      rw [h30]at e30
      obtain⟨k,x,hk,hx,_⟩:=e29
      obtain⟨k',x',hk',hx',_⟩:=e30
      obtain rfl:=Bk hk iT aD aE
      obtain rfl:=Bk hk' eY aD aE
      exact hn ⟨by rw [hx];rfl,by rw [hx'];rfl⟩
theorem JR{P:Program}{fo:FuncId}{mb:Nat}{σ0:cv}{mu:Nat→Nat}(hmu: ∀ d,fB KK σ0 d→ ∃f,σ0 d=some f∧FT f∧ ∀ i∈cw,∀ c∈cU f i,fB KK σ0 c∧mu c<mu d)
    (hop: ∀ σ b f ctx G,σ b=some f→GOk G σ→Ct P fo #[cW b, .string ctx] [.many 124 (Gr.blks G)] [.graph mb G] (fun u M' D'=>u= .tuple #[]∧ ∃G',GOk G' (iE σ b (some (eF f)))∧M'=[.many 124 (Gr.blks G')]∧D'=[.graph mb G'])):
    (Lm mb KK σ0 mu).Ok P fo #[] where
  kid:=fun x _ b hI hS=>by
    obtain⟨f,h1,h2,h3⟩:=hmu b hS
    rcases hI b hS with h|h
    · exact⟨f,h.trans h1,h2,h3⟩
    · refine⟨eF f,by rw [h,h1];rfl,Ln h2,fun i hi c hc=>?_⟩
      obtain⟨j,hj,hc'⟩:=Gh hi hc
      exact h3 j hj c hc'
  op:=fun x b f ctx G hI hS hf hk hG=>by
    refine(hop x.2 b f ctx G hf hG).mono ?_
    rintro u M' D' ⟨rfl,G',hG',rfl,rfl⟩
    obtain⟨f0,h1,h2,h3⟩:=hmu b hS
    have hch:some (eF f)=(σ0 b).map eF:=by
      rcases hI b hS with h|h
      · rw [←h,hf];rfl
      · rw [h,h1]at hf
        injection hf with hf
        rw [←hf,EX,h1];rfl
    refine⟨rfl,((),iE x.2 b (some (eF f))),G',fun d hd=>?_,hG',rfl,rfl,fun o d hdn e he=>?_,fun d hd=>?_,fun d hd=>uA hd _⟩
    · by_cases e:d=b
      · subst e;exact .inr (by show iE x.2 d _ d=_;rw [vS,hch])
      · rw [show((),iE x.2 b (some (eF f))).2 d=x.2 d from uA e _];exact hI d hd
    · by_cases e':e=b
      · subst e';show iE x.2 e _ e=_;rw [vS,hch]
      · rw [show((),iE x.2 b (some (eF f))).2 e=x.2 e from uA e' _];exact hdn e he
    · by_cases e:d=b
      · subst e;show iE x.2 d _ d=_;rw [vS,hch]
      · rw [show((),iE x.2 b (some (eF f))).2 d=x.2 d from uA e _]
        cases hd with
        |refl=>exact absurd rfl e
        |step hσ hi hc r=>
          rw [h1]at hσ
          injection hσ with hσ
          subst hσ
          rcases hI b hS with h|h
          · rw [h,h1]at hf
            injection hf with hf
            subst hf
            exact hk _ hi _ hc d r
          · rw [h,h1]at hf
            injection hf with hf
            obtain⟨j,hj,hc'⟩:=kids_ch' (Ej hS h1) hi hc
            rw [hf]at hc'
            exact hk _ hj _ hc' d r
section
variable {β:Type} {t:Trv β} {x0 y:β×cv} {b:Nat} {f:Flds} {l:List Nat} {G:Gr}
def AtS(t:Trv β)(x0:β×cv)(b:Nat)(f:Flds)(l:List Nat)(y:β×cv)(G:Gr):Prop:=
 t.I y∧GOk G y.2∧(∀ o d,t.dn x0 o d→t.dn y o d)∧y.2 b=some f∧(∀ i∈l,∀ c∈cU f i,t.dn y (decide (i=30)) c)∧ ∀ d,t.mu b≤t.mu d→y.2 d=x0.2 d
theorem AtS.add{q:Nat}(h:AtS t x0 b f l y G)(hq: ∀ c∈cU f q,t.dn y (decide (q=30)) c):AtS t x0 b f (q::l) y G:=
 ⟨h.1,h.2.1,h.2.2.1,h.2.2.2.1,fun i hi c hc=>(List.mem_cons.1 hi).elim (fun e=>by subst e;exact hq c hc) (fun e=>h.2.2.2.2.1 i e c hc),h.2.2.2.2.2⟩
theorem AtS.none{q:Nat}(h:AtS t x0 b f l y G)(hq:f q=none):AtS t x0 b f (q::l) y G:=h.add (fun c hc=>by unfold cU at hc;rw [hq]at hc;cases hc)
theorem AtS.mem(h:AtS t x0 b f l y G): ∃cs,(b,cs,f)∈G:=(h.2.1.2 b f).2 h.2.2.2.1
theorem AtS.move{c:Nat}{one:Bool}{y':β×cv}{G':Gr}(h:AtS t x0 b f l y G)(hc:t.mu c<t.mu b)(hI:t.I y')(hG:GOk G' y'.2)(hm: ∀ o d,t.dn y o d→t.dn y' o d)(hs: ∀ d,t.mu c<t.mu d→y'.2 d=y.2 d):AtS t x0 b f l y' G':=
 ⟨hI,hG,fun o d hd=>hm o d (h.2.2.1 o d hd),(hs b hc).trans h.2.2.2.1,fun i hi c hc=>hm _ _ (h.2.2.2.2.1 i hi c hc),fun d hd=>(hs d (Nat.lt_of_lt_of_le hc hd)).trans (h.2.2.2.2.2 d hd)⟩
end
def H0{β:Type}(t:Trv β)(fn:Value)(b:Nat):Prop:= ∀ c,t.mu c<t.mu b→ ∀ (y:β×cv) (G:Gr) (ctx:ByteArray),t.S (decide (ctx=dw)) c→t.I y→GOk G y.2→
 Ct Tryz.prog 121 #[cW c,fn, .string ctx] (.many 124 (Gr.blks G)::t.X y.1) (.graph t.mb G::t.D0) (t.Post y (decide (ctx=dw)) c (fun d=>t.mu c<t.mu d))
theorem Lo{mu:Nat→Nat}{p:Nat→Prop}(h: ∀ b,(∀ c,mu c<mu b→p c)→p b)(b:Nat):p b:=by
  have: ∀ m b,mu b=m→p b:=fun m=>by
    induction m using Nat.strongRecOn with
    |_ m ih=>exact fun b hb=>h b fun c hc=>ih _ (hb▸hc) c rfl
  exact this _ b Z
theorem Ek{fv:FVal}(h:lX 6 fv):(∃c,fv= .sbS c)∨ ∃x,fv= .sbB x:=by
 cases fv<;>first|exact .inl ⟨_,rfl⟩|exact .inr ⟨_,rfl⟩|exact absurd h cJ
theorem El{fv:FVal}(h:lX 7 fv):(∃c,fv= .itS c)∨ ∃bs,fv= .itL bs:=by
 cases fv<;>first|exact .inl ⟨_,rfl⟩|exact .inr ⟨_,rfl⟩|exact absurd h cJ
theorem lY{fv:FVal}(h:lX 9 fv): ∃l,fv= .named l:=by
 cases fv<;>first|exact⟨_,rfl⟩|exact absurd h cJ
theorem Bn{fv:FVal}(h:lX 10 fv): ∃l,fv= .deps l:=by
 cases fv<;>first|exact⟨_,rfl⟩|exact absurd h cJ
theorem Bo{fv:FVal}(h:lX 5 fv): ∃c,fv= .one c:=by
 cases fv<;>first|exact⟨_,rfl⟩|exact absurd h cJ
theorem uW{f:Flds}{q:Nat}{fv:FVal}(h:f q=some fv):cU f q=db fv:=by unfold cU;rw [h]
def oP(o:Option Nat):Value:= .pointer (o.map fun c=>⟨c,0,none⟩)
def DA.itd(o:Option Addr)(fv:FVal):DA:=⟨fun w ok=> ∀ p,o=some p→ ∃sl bs,fv= .itL bs∧PtsTo w ok p sl∧RowPtrs w ok sl bs,fun h1 h2 h p hp=>by
 obtain⟨sl,bs,a,c,d⟩:=h p hp
 exact⟨sl,bs,a,c.mono h1 h2,d.mono h1 h2⟩⟩
section rules
variable {P:Program} {n:Nat} {F:List Nat} {c:Ctx F} {ops:Array Oper} {d:Nat} {T:TypeId} {l:List Oper} {k:List KI} {Q:Post} {e:dI} {M:List HA} {D:List DA}
theorem xU(j q:Nat){mb b:Nat}{cs:List Value}{f:Flds}{G:Gr}(hj:D[j]? =some (.graph mb G))(hm:(b,cs,f)∈G)(h1:1≤q)(h2:q≤36)(next: ∀ p:Option Addr,cs[q]? =some (.pointer p)→p.isSome=(f q).isSome→Run P n c k Q e M D):Run P n c k Q e M D:=
 vY (p:= ∃p:Option Addr,cs[q]? =some (.pointer p)∧p.isSome=(f q).isSome) (fun w ok h=>by
  obtain⟨p,a,a2,_⟩:=qL ((dget h j hj:(DA.graph mb G).p w ok) _ hm) h1 h2
  exact⟨p,a,a2⟩) (fun⟨p,a,a2⟩=>next p a a2)
theorem vQ(j q:Nat){mb b:Nat}{cs:List Value}{f:Flds}{G:Gr}{p:Option Addr}{fv:FVal}(hj:D[j]? =some (.graph mb G))(hm:(b,cs,f)∈G)(h1:1≤q)(h2:q≤36)(hc:cs[q]? =some (.pointer p))(hf:f q=some fv)(next:Run P n c k Q e M (.fv (.pointer p) fv::D)):Run P n c k Q e M D:=
 yM (.fv (.pointer p) fv) (fun w ok h=>by
  obtain⟨p',a,_,a3⟩:=qL ((dget h j hj:(DA.graph mb G).p w ok) _ hm) h1 h2
  rw [hc]at a
  injection a with a
  injection a with a
  subst a
  exact a3 fv hf) next
theorem xE{G:Gr}{b:Nat}{cs:List Value}{f:Flds}(hm:(b,cs,f)∈G):(b,cs)∈Gr.blks G:=List.mem_map.2 ⟨_,hm,rfl⟩
theorem Em(j:Nat){u:Value}{fv:FVal}(hj:D[j]? =some (.fv u fv))(hok:lX 6 fv)(next: ∀ (b:Nat) (o:Option Nat) (q:Option Addr),u=cW b→db fv=o.toList→Run P n c k Q e M (.dblk b [oP o, .pointer q] 185::D)):Run P n c k Q e M D:=by
 rcases Ek hok with ⟨z,rfl⟩|⟨z,rfl⟩
 ·exact vK (α:=Nat) (fun b=>u=cW b) (fun b=>[.dblk b [cW z, .pointer none] 185]) (fun w ok h=>by
   obtain⟨b,h1,h3⟩:FvP w ok (.sbS z) u:=dget h j hj
   exact⟨b,h1,eX h3⟩) (fun b hx=>next b (some z) none hx Z)
 ·exact vK (α:=Nat×Addr) (fun x=>u=cW x.1) (fun x=>[.dblk x.1 [.pointer none, .pointer (some x.2)] 185]) (fun w ok h=>by
   obtain⟨b,p,h1,h3,_⟩:FvP w ok (.sbB z) u:=dget h j hj
   exact⟨(b,p),h1,eX h3⟩) (fun x hx=>next x.1 none (some x.2) hx Z)
theorem JS(j:Nat){u:Value}{fv:FVal}(hj:D[j]? =some (.fv u fv))(hok:lX 7 fv)(next: ∀ (b:Nat) (o:Option Nat) (q:Option Addr),u=cW b→(q=none→db fv=o.toList)→Run P n c k Q e M (.dblk b [oP o, .pointer q] 187:: .itd q fv::D)):Run P n c k Q e M D:=by
 rcases El hok with ⟨z,rfl⟩|⟨bs,rfl⟩
 ·exact vK (α:=Nat) (fun b=>u=cW b) (fun b=>[.dblk b [cW z, .pointer none] 187, .itd none (.itS z)]) (fun w ok h=>by
   obtain⟨b,h1,h3⟩:FvP w ok (.itS z) u:=dget h j hj
   exact⟨b,h1,eu h3 (eX (fun p hp=>by cases hp))⟩) (fun b hx=>next b (some z) none hx (fun _=>rfl))
 ·exact vK (α:=Nat×Addr) (fun x=>u=cW x.1) (fun x=>[.dblk x.1 [.pointer none, .pointer (some x.2)] 187, .itd (some x.2) (.itL bs)]) (fun w ok h=>by
   obtain⟨b,p,sl,h1,h3,h4,h5⟩:FvP w ok (.itL bs) u:=dget h j hj
   exact⟨(b,p),h1,eu h3 (eX (fun p' hp=>by cases hp;exact⟨sl,bs,rfl,h4,h5⟩))⟩) (fun x hx=>next x.1 none (some x.2) hx (fun h=>by cases h))
theorem Gi(j:Nat){p:Addr}{fv:FVal}(hj:D[j]? =some (.itd (some p) fv))(next: ∀ sl bs,fv= .itL bs→Run P n c k Q e M (.pts p sl:: .rowp sl bs::D)):Run P n c k Q e M D:=
 vK (α:=Value×List Nat) (fun x=>fv= .itL x.2) (fun x=>[.pts p x.1, .rowp x.1 x.2]) (fun w ok h=>by
  obtain⟨sl,bs,h1,h2,h3⟩:=(dget h j hj:(DA.itd (some p) fv).p w ok) p rfl
  exact⟨(sl,bs),h1,eu h2 (eX h3)⟩) (fun x hx=>next x.1 x.2 hx)
theorem fC{β:Type}{t:Trv β}{x0 y:β×cv}{b b1:Nat}{f:Flds}{L:List Nat}(q:Nat){G:Gr}{fn:Value}{ctx:ByteArray}{fo:Operand}{ags:Array Operand}{ts:Array TypeId}(hI:AtS t x0 b f L y G)(hone:decide (ctx=dw)=decide (q=30))
  (IH:H0 t fn b) (hk:t.S (decide (q=30)) b1∧t.mu b1<t.mu b) (hd:Nat.blt d n=true) (hfo:ev e fo=some (.func (.func 121) #[] #[])) (has:ags.toList.mapM (ev e)=some [cW b1,fn, .string ctx]) (hD: ∀ x∈DA.graph t.mb G::t.D0,x∈D)
  (next: ∀ y' G',AtS t x0 b f L y' G'→t.dn y' (decide (q=30)) b1→(∀ o d,t.dn y o d→t.dn y' o d)→cL Tryz.prog n c ops l k Q ((d, .tuple #[])::e) (.many 124 (Gr.blks G')::t.X y'.1) (.graph t.mb G'::D)):
  cR Tryz.prog n c ops (some d) (.call {callee:= .value fo,args:=ags,argTypes:=ts}) T l k Q e (.many 124 (Gr.blks G)::t.X y.1) D:=by
 refine vT (M1:= .many 124 (Gr.blks G)::t.X y.1) (M2:=[]) hd hfo has (IH b1 hk.2 y G ctx (by rw [hone];exact hk.1) hI.1 hI.2.1) (List.append_nil _) hD ?_
 rintro v M' D' ⟨rfl,y',G',hy,hG,rfl,rfl,hm,hdn,hs⟩
 rw [List.append_nil]
 rw [hone]at hdn
 exact next y' G' (hI.move (one:=true) hk.2 hy hG hm hs) hdn hm
end rules
theorem gm{β:Type}{t:Trv β}{y y':β×cv}{o:Bool}{bs:List Nat}{i:Nat}{c:Nat}(h: ∀ j c,j<i→bs[j]? =some c→t.dn y o c)(hm: ∀ o d,t.dn y o d→t.dn y' o d)(hc:bs[i]? =some c)(hd:t.dn y' o c): ∀ j c,j<i+1→bs[j]? =some c→t.dn y' o c:=by
 intro j c' hj hc'
 rcases Nat.lt_or_eq_of_le (Nat.le_of_lt_succ hj)with h1|h1
 ·exact hm _ _ (h j c' h1 hc')
 ·subst h1;rw [hc]at hc';injection hc' with hc';rw [←hc'];exact hd
theorem jd{β:Type}{t:Trv β}{y:β×cv}{o:Bool}{bs:List Nat}{i:Nat}(hi:bs.length≤i)(h: ∀ j c,j<i→bs[j]? =some c→t.dn y o c): ∀ c∈bs,t.dn y o c:=by
 intro c hc
 obtain⟨j,hj,rfl⟩:=List.getElem_of_mem hc
 exact h j _ aC (List.getElem?_eq_getElem hj)

section rules
variable {P:Program} {n:Nat} {F:List Nat} {c:Ctx F} {ops:Array Oper} {d:Nat} {T:TypeId} {l:List Oper} {k:List KI} {Q:Post} {e:dI} {M:List HA} {D:List DA}
theorem ku{fo:Operand}{ags:Array Operand}{ts:Array TypeId}{f:FuncId}{cap:Array Value}{vs:List Value}{D1:List DA}{R:Value→List HA→List DA→Prop}(hd:Nat.blt d n=true)(hfo:ev e fo=some (.func (.func f) #[] cap))(has:ags.toList.mapM (ev e)=some vs)
  (hct:Ct P f (vs.toArray++cap) M D1 R) (hD: ∀ d∈D1,d∈D)
  (next: ∀ v M' D',R v M' D'→cL P n c ops l k Q ((d,v)::e) M' (D'++D)):cR P n c ops (some d) (.call {callee:= .value fo,args:=ags,argTypes:=ts}) T l k Q e M D:=
 vT (M1:=M) (M2:=[]) hd hfo has hct (List.append_nil _) hD (fun v M' D' h=>by rw [List.append_nil];exact next v M' D' h)
end rules
theorem JT{β:Type}(t:Trv β)(fo:FuncId)(cap:Array Value)(hok:t.Ok Tryz.prog fo cap)(b:Nat): ∀ (y:β×cv) (G:Gr) (ctx:ByteArray),t.S (decide (ctx=dw)) b→t.I y→GOk G y.2→
  Ct Tryz.prog 121 #[cW b, .func (.func fo) #[] cap, .string ctx] (.many 124 (Gr.blks G)::t.X y.1) (.graph t.mb G::t.D0) (t.Post y (decide (ctx=dw)) b (fun d=>t.mu b<t.mu d)):=by
 revert b
 refine Lo (mu:=t.mu) (fun b IH=>?_)
 intro y G ctx hS hI0 hG0
 replace IH:H0 t (.func (.func fo) #[] cap) b:=IH
 refine Ct.of_run (args:=[cW b, .func (.func fo) #[] cap, .string ctx]) Tryz.func121 aF Z Tryz.ntmps121 Z (fun c=>?_)
 obtain⟨f,hf,hft,hkid⟩:=hok.kid y _ b hI0 hS
 obtain⟨x0,hx0⟩: ∃x0,x0=y:=⟨y,rfl⟩
 have hI:AtS t x0 b f [] y G:=⟨hI0,hG0,fun o d h=>hx0▸h,hf,fun i h=>(by cases h),fun d h=>(by rw [hx0])⟩
 obtain⟨cs,hm⟩:=hI.mem
 refine xU 0 14 Z hm aE aE (fun p14 hc14 hp14=>?_)
 refine rO 8 Z (zC fx Z Z ?_)
 refine zA (yY 0 iK Z Z Z (xE hm) (by rw [Nat.zero_add];exact hc14) ?_)
 refine zA (yI nW Z Z ?_)
 refine oK 1 [33,0,1,2] Z Z (vO [0,1,2] (fun(⟨y,G⟩:(β×cv)×Gr)=>AtS t x0 b f [14] y G) (fun(⟨y,G⟩:(β×cv)×Gr)=>[]) (fun(⟨y,G⟩:(β×cv)×Gr)=> .many 124 (Gr.blks G)::t.X y.1) (fun(⟨y,G⟩:(β×cv)×Gr)=> .graph t.mb G::t.D0) ?_ ?_)
 ·intro K hK
  refine zW Z (fun h33=>?_) (fun h33=>?_)
  ·obtain⟨fv,hfv⟩: ∃fv,f 14=some fv:=Option.isSome_iff_exists.1 (hp14.symm.trans h33)
   have hok:=hft 14 fv aE aE hfv
   refine vQ 0 14 Z hm aE aE hc14 hfv ?_
   have hks:=uW hfv
   refine Em 0 Z hok (fun bb o q hu hfk=>?_)
   cases hu
   rw [hfk]at hks
   refine rO 7 Z (zC fx Z Z ?_)
   refine zA (yY 0 iK Z Z Z (xE hm) (by rw [Nat.zero_add];exact hc14) ?_)
   refine oO 3 Z (zC i0 Z Z ?_)
   refine zA (zH 0 dx Z Z Z Z ?_)
   refine oO 8 Z (yI iC Z Z ?_)
   refine oK 1 [42,6,0,1,2] Z Z (zW Z (fun h42=>?_) (fun h42=>?_))
   ·obtain⟨bb,rfl⟩: ∃bb,o=some bb:=by
     cases o with
     |none=>cases h42
     |some z=>exact⟨z,rfl⟩
    refine rO 6 Z ?_
    refine fC 14 hI aD IH (hkid 14 aE _ (by rw [hks];simp)) Z Z Z aQ (fun y45 G45 hI45 hd45 hm45=>?_)
    refine zX ?_
    exact kQ (hK (_,_) (hI45.add (fun c hc=>by rw [hks]at hc;rcases List.mem_singleton.1 hc with rfl;exact hd45))) (eC Z (eC Z (eC Z (eN _))))
   obtain rfl:o=none:=by
    cases o with
    |none=>rfl
    |some z=>cases h42
   refine xZ ?_
   exact kQ (hK (_,_) (hI.add (fun c hc=>by rw [hks]at hc;cases hc))) (eC Z (eC Z (eC Z (eN _))))
  have hf14:f 14=none:=tY hp14 h33
  refine xZ ?_
  exact kQ (hK (_,_) (hI.none hf14)) (eC Z (eC Z (eC Z (eN _))))
 intro ⟨y,G⟩ hI
 replace hI:AtS t x0 b f [14] y G:=hI
 change Run _ _ _ _ _ [(0,_),(1,_),(2,_)] (.many 124 (Gr.blks G)::t.X y.1) (.graph t.mb G::t.D0)
 obtain⟨cs,hm⟩:=hI.mem
 refine xU 0 15 Z hm aE aE (fun p15 hc15 hp15=>?_)
 refine rO 8 Z (zC rX Z Z ?_)
 refine zA (yY 0 ln Z Z Z (xE hm) bK ?_)
 refine zA (yI Db Z Z ?_)
 refine oK 1 [50,0,1,2] Z Z (vO [0,1,2] (fun(⟨y,G⟩:(β×cv)×Gr)=>AtS t x0 b f [15,14] y G) (fun(⟨y,G⟩:(β×cv)×Gr)=>[]) (fun(⟨y,G⟩:(β×cv)×Gr)=> .many 124 (Gr.blks G)::t.X y.1) (fun(⟨y,G⟩:(β×cv)×Gr)=> .graph t.mb G::t.D0) ?_ ?_)
 ·intro Kj2 hKj2
  refine zW Z (fun h50=>?_) (fun h50=>?_)
  ·obtain⟨fv,hfv⟩: ∃fv,f 15=some fv:=Option.isSome_iff_exists.1 (hp15.symm.trans h50)
   have hok:=hft 15 fv aE aE hfv
   refine vQ 0 15 Z hm aE aE hc15 hfv ?_
   have hks:=uW hfv
   refine JS 0 Z hok (fun bb o q hu hfk=>?_)
   cases hu
   refine rO 7 Z (zC rX Z Z ?_)
   refine zA (yY 0 ln Z Z Z (xE hm) bK ?_)
   refine oO 3 Z (zC mL Z Z ?_)
   refine zA (zH 0 dm Z Z Z Z ?_)
   refine zA (yI fU Z Z ?_)
   refine zX (zW Z (fun h58=>?_) (fun h58=>?_))
   ·obtain⟨pl,rfl⟩: ∃pl,q=some pl:=Option.isSome_iff_exists.1 h58
    refine Gi 1 Z (fun sl bs hx=>?_)
    subst hx
    refine vU 1 Z (fun A1 c1 hx hk1 hk2=>?_)
    subst hx
    unfold maxLen at hk2
    change cU f 15=bs at hks
    refine rO 7 Z (zC rX Z Z ?_)
    refine zA (yY 0 ln Z Z Z (xE hm) bK ?_)
    refine oO 3 Z (zC mL Z Z ?_)
    refine zA (zH 2 dm Z Z Z Z ?_)
    refine oO 3 Z (yW 0 kK Z Z Z ?_)
    refine zA (yA eH Z Z ?_)
    refine oK 3 [69,68,67,0,1,2] Z Z (rK 1 [69,68,67,0,1,2] Z Z ?_)
    refine tH (D':= .graph t.mb G:: .rowp (.slice A1 bs.length c1) bs::t.D0) aZ (yL 1 (fun(⟨i,y,G⟩:Nat×(β×cv)×Gr)=>i≤bs.length∧AtS t x0 b f [14] y G∧ ∀ j c,j<i→bs[j]? =some c→t.dn y (decide (15=30)) c) (fun(⟨i,y,G⟩:Nat×(β×cv)×Gr)=>[(69, .int .i64 ((i:Nat):Int))]) (fun(⟨i,y,G⟩:Nat×(β×cv)×Gr)=> .many 124 (Gr.blks G)::t.X y.1) (fun(⟨i,y,G⟩:Nat×(β×cv)×Gr)=> .graph t.mb G:: .rowp (.slice A1 bs.length c1) bs::t.D0) (fun(⟨i,y,G⟩:Nat×(β×cv)×Gr)=>bs.length - i) (0,y,G) (⟨Nat.zero_le _,hI,fun j c h=>absurd h (Nat.not_lt_zero _)⟩) (eC Z (eN _)) Z Z ?_ (eC Z (eC Z (eC Z (eC Z (eC Z (eN _)))))))
    intro ⟨i,y,G⟩ hI K hK
    change Run _ _ _ _ _ [(69,_),(68,_),(67,_),(0,_),(1,_),(2,_)] (.many 124 (Gr.blks G)::t.X y.1) (.graph t.mb G:: .rowp (.slice A1 bs.length c1) bs::t.D0)
    obtain⟨hi,hI,hno⟩:=hI
    refine rO 3 Z (yJ Z Z Z ?_)
    refine oR 2 Z (zN Z (fun h70=>?_) (fun h70=>?_))
    ·refine rO 6 Z ?_
     have hlt:i<bs.length:=h70
     refine wT 1 eH Z Z Z Z hlt (zA ?_)
     refine yH dx Z Z (fun _ h=>vJ h (j:=1) Z (List.getElem?_eq_getElem hlt)) ?_
     refine oO 9 Z ?_
     refine fC 15 hI aD IH (hkid 15 aE _ bD) Z Z Z aQ (fun y75 G75 hI75 hd75 hm75=>?_)
     refine oO 4 Z (yB Z Z aC ?_)
     refine oR 3 Z ?_
     exact kQ (hK (i+1,_,_) (⟨by show i+1≤_;omega,hI75,gm hno hm75 (List.getElem?_eq_getElem hlt) hd75⟩) ax) (eC Z (eC Z (eC Z (eC Z (eC Z (eC Z (eN _))))))) (hD:=(cl 0 Z sQ))
    have hall:=jd aC hno
    refine sA Z ?_
    exact kQ (hKj2 (_,_) (hI.add (fun c hc=>by rw [hks]at hc;exact hall c hc))) (eC Z (eC Z (eC Z (eN _))))
   obtain rfl:q=none:=Option.not_isSome_iff_eq_none.1 (by rw [h58];exact Bool.false_ne_true)
   rw [hfk rfl]at hks
   refine rO 7 Z (zC rX Z Z ?_)
   refine zA (yY 0 ln Z Z Z (xE hm) bK ?_)
   refine oO 3 Z (zC kI Z Z ?_)
   refine zA (zH 0 dx Z Z Z Z ?_)
   refine zA (yI iC Z Z ?_)
   refine oK 1 [84,0,1,2] Z Z (zW Z (fun h84=>?_) (fun h84=>?_))
   ·obtain⟨bb,rfl⟩: ∃bb,o=some bb:=by
     cases o with
     |none=>cases h84
     |some z=>exact⟨z,rfl⟩
    refine rO 6 Z (zC rX Z Z ?_)
    refine zA (yY 0 ln Z Z Z (xE hm) bK ?_)
    refine oO 3 Z (zC kI Z Z ?_)
    refine zA (zH 0 dx Z Z Z Z ?_)
    refine oO 3 Z ?_
    refine fC 15 hI aD IH (hkid 15 aE _ (by rw [hks];simp)) Z Z Z aQ (fun y93 G93 hI93 hd93 hm93=>?_)
    refine oK 1 [0,1,2] Z Z ?_
    exact kQ (hKj2 (_,_) (hI93.add (fun c hc=>by rw [hks]at hc;rcases List.mem_singleton.1 hc with rfl;exact hd93))) (eC Z (eC Z (eC Z (eN _))))
   obtain rfl:o=none:=by
    cases o with
    |none=>rfl
    |some z=>cases h84
   refine xZ ?_
   exact kQ (hKj2 (_,_) (hI.add (fun c hc=>by rw [hks]at hc;cases hc))) (eC Z (eC Z (eC Z (eN _))))
  have hf15:f 15=none:=tY hp15 h50
  refine xZ ?_
  exact kQ (hKj2 (_,_) (hI.none hf15)) (eC Z (eC Z (eC Z (eN _))))
 intro ⟨y,G⟩ hI
 replace hI:AtS t x0 b f [15,14] y G:=hI
 change Run _ _ _ _ _ [(0,_),(1,_),(2,_)] (.many 124 (Gr.blks G)::t.X y.1) (.graph t.mb G::t.D0)
 obtain⟨cs,hm⟩:=hI.mem
 refine xU 0 22 Z hm aE aE (fun p22 hc22 hp22=>?_)
 refine rO 8 Z (zC en Z Z ?_)
 refine zA (yY 0 iK Z Z Z (xE hm) (by rw [Nat.zero_add];exact hc22) ?_)
 refine zA (yI nW Z Z ?_)
 refine oK 1 [98,0,1,2] Z Z (vO [0,1,2] (fun(⟨y,G⟩:(β×cv)×Gr)=>AtS t x0 b f [22,15,14] y G) (fun(⟨y,G⟩:(β×cv)×Gr)=>[]) (fun(⟨y,G⟩:(β×cv)×Gr)=> .many 124 (Gr.blks G)::t.X y.1) (fun(⟨y,G⟩:(β×cv)×Gr)=> .graph t.mb G::t.D0) ?_ ?_)
 ·intro Kj3 hKj3
  refine zW Z (fun h98=>?_) (fun h98=>?_)
  ·obtain⟨fv,hfv⟩: ∃fv,f 22=some fv:=Option.isSome_iff_exists.1 (hp22.symm.trans h98)
   have hok:=hft 22 fv aE aE hfv
   refine vQ 0 22 Z hm aE aE hc22 hfv ?_
   have hks:=uW hfv
   refine Em 0 Z hok (fun bb o q hu hfk=>?_)
   cases hu
   rw [hfk]at hks
   refine rO 7 Z (zC en Z Z ?_)
   refine zA (yY 0 iK Z Z Z (xE hm) (by rw [Nat.zero_add];exact hc22) ?_)
   refine oO 3 Z (zC i0 Z Z ?_)
   refine zA (zH 0 dx Z Z Z Z ?_)
   refine oO 8 Z (yI iC Z Z ?_)
   refine oK 1 [107,9,0,1,2] Z Z (zW Z (fun h107=>?_) (fun h107=>?_))
   ·obtain⟨bb,rfl⟩: ∃bb,o=some bb:=by
     cases o with
     |none=>cases h107
     |some z=>exact⟨z,rfl⟩
    refine rO 6 Z ?_
    refine fC 22 hI aD IH (hkid 22 aE _ (by rw [hks];simp)) Z Z Z aQ (fun y110 G110 hI110 hd110 hm110=>?_)
    refine zX ?_
    exact kQ (hKj3 (_,_) (hI110.add (fun c hc=>by rw [hks]at hc;rcases List.mem_singleton.1 hc with rfl;exact hd110))) (eC Z (eC Z (eC Z (eN _))))
   obtain rfl:o=none:=by
    cases o with
    |none=>rfl
    |some z=>cases h107
   refine xZ ?_
   exact kQ (hKj3 (_,_) (hI.add (fun c hc=>by rw [hks]at hc;cases hc))) (eC Z (eC Z (eC Z (eN _))))
  have hf22:f 22=none:=tY hp22 h98
  refine xZ ?_
  exact kQ (hKj3 (_,_) (hI.none hf22)) (eC Z (eC Z (eC Z (eN _))))
 intro ⟨y,G⟩ hI
 replace hI:AtS t x0 b f [22,15,14] y G:=hI
 change Run _ _ _ _ _ [(0,_),(1,_),(2,_)] (.many 124 (Gr.blks G)::t.X y.1) (.graph t.mb G::t.D0)
 obtain⟨cs,hm⟩:=hI.mem
 refine xU 0 23 Z hm aE aE (fun p23 hc23 hp23=>?_)
 refine rO 8 Z (zC qX Z Z ?_)
 refine zA (yY 0 eB Z Z Z (xE hm) (by rw [Nat.zero_add];exact hc23) ?_)
 refine zA (yI kX Z Z ?_)
 refine oK 1 [115,0,1,2] Z Z (vO [0,1,2] (fun(⟨y,G⟩:(β×cv)×Gr)=>AtS t x0 b f [23,22,15,14] y G) (fun(⟨y,G⟩:(β×cv)×Gr)=>[]) (fun(⟨y,G⟩:(β×cv)×Gr)=> .many 124 (Gr.blks G)::t.X y.1) (fun(⟨y,G⟩:(β×cv)×Gr)=> .graph t.mb G::t.D0) ?_ ?_)
 ·intro Kj4 hKj4
  refine zW Z (fun h115=>?_) (fun h115=>?_)
  ·obtain⟨fv,hfv⟩: ∃fv,f 23=some fv:=Option.isSome_iff_exists.1 (hp23.symm.trans h115)
   have hok:=hft 23 fv aE aE hfv
   refine vQ 0 23 Z hm aE aE hc23 hfv ?_
   have hks:=uW hfv
   obtain⟨l,rfl⟩:=lY hok
   refine rP 0 Z (fun pl sl nbs hu=>?_)
   cases hu
   refine vU 1 Z (fun A1 c1 hx hk1 hk2=>?_)
   subst hx
   refine sH 2 Z (fun hnl=>?_)
   unfold maxLen at hk2
   change cU f 23=l.map (·.2)at hks
   refine rO 7 Z (zC qX Z Z ?_)
   refine zA (yY 0 eB Z Z Z (xE hm) (by rw [Nat.zero_add];exact hc23) ?_)
   refine oO 3 Z (yW 0 ju Z Z Z ?_)
   refine zA (yA eA Z Z ?_)
   refine oK 4 [123,122,121,0,1,2] Z Z (tH (D':= .graph t.mb G:: .rowp (.slice A1 nbs.length c1) nbs:: .nam nbs l::t.D0) aX ?_)
   refine yL 1 (fun(⟨i,y,G⟩:Nat×(β×cv)×Gr)=>i≤nbs.length∧AtS t x0 b f [22,15,14] y G∧ ∀ j c,j<i→(l.map (·.2))[j]? =some c→t.dn y (decide (23=30)) c) (fun(⟨i,y,G⟩:Nat×(β×cv)×Gr)=>[(123, .int .i64 ((i:Nat):Int))]) (fun(⟨i,y,G⟩:Nat×(β×cv)×Gr)=> .many 124 (Gr.blks G)::t.X y.1) (fun(⟨i,y,G⟩:Nat×(β×cv)×Gr)=> .graph t.mb G:: .rowp (.slice A1 nbs.length c1) nbs:: .nam nbs l::t.D0) (fun(⟨i,y,G⟩:Nat×(β×cv)×Gr)=>nbs.length - i) (0,y,G) (⟨Nat.zero_le _,hI,fun j c h=>absurd h (Nat.not_lt_zero _)⟩) (eC Z (eN _)) Z Z ?_ (eC Z (eC Z (eC Z (eC Z (eC Z (eN _))))))
   intro ⟨i,y,G⟩ hI K hK1
   change Run _ _ _ _ _ [(123,_),(122,_),(121,_),(0,_),(1,_),(2,_)] (.many 124 (Gr.blks G)::t.X y.1) (.graph t.mb G:: .rowp (.slice A1 nbs.length c1) nbs:: .nam nbs l::t.D0)
   obtain⟨hi,hI,hno⟩:=hI
   refine rO 3 Z (yJ Z Z Z ?_)
   refine oR 2 Z (zN Z (fun h124=>?_) (fun h124=>?_))
   ·refine rO 6 Z ?_
    have hlt:i<nbs.length:=h124
    have hll:i<l.length:=by omega
    refine wT 1 eA Z Z Z Z hlt (fV 2 i Z (List.getElem?_eq_getElem hll) (List.getElem?_eq_getElem hlt) (fun hksz=>?_))
    refine zA (yH lq Z Z (fun _ h=>vJ h (j:=2) Z (List.getElem?_eq_getElem hlt)) ?_)
    refine oO 10 Z (zC fQ Z Z ?_)
    refine zA (zH 0 dx Z Z Z Z ?_)
    refine oK 3 [12,123,122,121,0,1,2] Z Z (rO 6 Z ?_)
    refine fC 23 hI aD IH (hkid 23 aE _ am) Z Z Z aQ (fun y133 G133 hI133 hd133 hm133=>?_)
    refine oO 4 Z (yB Z Z aC ?_)
    refine oR 3 Z ?_
    exact kQ (hK1 (i+1,_,_) (⟨by show i+1≤_;omega,hI133,gm hno hm133 (by rw [List.getElem?_map,List.getElem?_eq_getElem hll];rfl) hd133⟩) av) (eC Z (eC Z (eC Z (eC Z (eC Z (eC Z (eN _))))))) (hD:=(cl 0 Z sQ))
   have hall:=jd (bs:=l.map (·.2)) bR hno
   refine sA Z ?_
   exact kQ (hKj4 (_,_) (hI.add (fun c hc=>by rw [hks]at hc;exact hall c hc))) (eC Z (eC Z (eC Z (eN _))))
  have hf23:f 23=none:=tY hp23 h115
  refine xZ ?_
  exact kQ (hKj4 (_,_) (hI.none hf23)) (eC Z (eC Z (eC Z (eN _))))
 intro ⟨y,G⟩ hI
 replace hI:AtS t x0 b f [23,22,15,14] y G:=hI
 change Run _ _ _ _ _ [(0,_),(1,_),(2,_)] (.many 124 (Gr.blks G)::t.X y.1) (.graph t.mb G::t.D0)
 obtain⟨cs,hm⟩:=hI.mem
 refine xU 0 24 Z hm aE aE (fun p24 hc24 hp24=>?_)
 refine rO 8 Z (zC fy Z Z ?_)
 refine zA (yY 0 eB Z Z Z (xE hm) (by rw [Nat.zero_add];exact hc24) ?_)
 refine zA (yI kX Z Z ?_)
 refine oK 1 [139,0,1,2] Z Z (vO [0,1,2] (fun(⟨y,G⟩:(β×cv)×Gr)=>AtS t x0 b f [24,23,22,15,14] y G) (fun(⟨y,G⟩:(β×cv)×Gr)=>[]) (fun(⟨y,G⟩:(β×cv)×Gr)=> .many 124 (Gr.blks G)::t.X y.1) (fun(⟨y,G⟩:(β×cv)×Gr)=> .graph t.mb G::t.D0) ?_ ?_)
 ·intro Kj5 hKj5
  refine zW Z (fun h139=>?_) (fun h139=>?_)
  ·obtain⟨fv,hfv⟩: ∃fv,f 24=some fv:=Option.isSome_iff_exists.1 (hp24.symm.trans h139)
   have hok:=hft 24 fv aE aE hfv
   refine vQ 0 24 Z hm aE aE hc24 hfv ?_
   have hks:=uW hfv
   obtain⟨l,rfl⟩:=lY hok
   refine rP 0 Z (fun pl sl nbs hu=>?_)
   cases hu
   refine vU 1 Z (fun A1 c1 hx hk1 hk2=>?_)
   subst hx
   refine sH 2 Z (fun hnl=>?_)
   unfold maxLen at hk2
   change cU f 24=l.map (·.2)at hks
   refine rO 7 Z (zC fy Z Z ?_)
   refine zA (yY 0 eB Z Z Z (xE hm) (by rw [Nat.zero_add];exact hc24) ?_)
   refine oO 3 Z (yW 0 ju Z Z Z ?_)
   refine zA (yA eA Z Z ?_)
   refine oK 4 [147,146,145,0,1,2] Z Z (tH (D':= .graph t.mb G:: .rowp (.slice A1 nbs.length c1) nbs:: .nam nbs l::t.D0) aX ?_)
   refine yL 1 (fun(⟨i,y,G⟩:Nat×(β×cv)×Gr)=>i≤nbs.length∧AtS t x0 b f [23,22,15,14] y G∧ ∀ j c,j<i→(l.map (·.2))[j]? =some c→t.dn y (decide (24=30)) c) (fun(⟨i,y,G⟩:Nat×(β×cv)×Gr)=>[(147, .int .i64 ((i:Nat):Int))]) (fun(⟨i,y,G⟩:Nat×(β×cv)×Gr)=> .many 124 (Gr.blks G)::t.X y.1) (fun(⟨i,y,G⟩:Nat×(β×cv)×Gr)=> .graph t.mb G:: .rowp (.slice A1 nbs.length c1) nbs:: .nam nbs l::t.D0) (fun(⟨i,y,G⟩:Nat×(β×cv)×Gr)=>nbs.length - i) (0,y,G) (⟨Nat.zero_le _,hI,fun j c h=>absurd h (Nat.not_lt_zero _)⟩) (eC Z (eN _)) Z Z ?_ (eC Z (eC Z (eC Z (eC Z (eC Z (eN _))))))
   intro ⟨i,y,G⟩ hI K hK2
   change Run _ _ _ _ _ [(147,_),(146,_),(145,_),(0,_),(1,_),(2,_)] (.many 124 (Gr.blks G)::t.X y.1) (.graph t.mb G:: .rowp (.slice A1 nbs.length c1) nbs:: .nam nbs l::t.D0)
   obtain⟨hi,hI,hno⟩:=hI
   refine rO 3 Z (yJ Z Z Z ?_)
   refine oR 2 Z (zN Z (fun h148=>?_) (fun h148=>?_))
   ·refine rO 6 Z ?_
    have hlt:i<nbs.length:=h148
    have hll:i<l.length:=by omega
    refine wT 1 eA Z Z Z Z hlt (fV 2 i Z (List.getElem?_eq_getElem hll) (List.getElem?_eq_getElem hlt) (fun hksz=>?_))
    refine zA (yH lq Z Z (fun _ h=>vJ h (j:=2) Z (List.getElem?_eq_getElem hlt)) ?_)
    refine oO 10 Z (zC fQ Z Z ?_)
    refine zA (zH 0 dx Z Z Z Z ?_)
    refine oK 3 [15,147,146,145,0,1,2] Z Z (rO 6 Z ?_)
    refine fC 24 hI aD IH (hkid 24 aE _ am) Z Z Z aQ (fun y157 G157 hI157 hd157 hm157=>?_)
    refine oO 4 Z (yB Z Z aC ?_)
    refine oR 3 Z ?_
    exact kQ (hK2 (i+1,_,_) (⟨by show i+1≤_;omega,hI157,gm hno hm157 (by rw [List.getElem?_map,List.getElem?_eq_getElem hll];rfl) hd157⟩) av) (eC Z (eC Z (eC Z (eC Z (eC Z (eC Z (eN _))))))) (hD:=(cl 0 Z sQ))
   have hall:=jd (bs:=l.map (·.2)) bR hno
   refine sA Z ?_
   exact kQ (hKj5 (_,_) (hI.add (fun c hc=>by rw [hks]at hc;exact hall c hc))) (eC Z (eC Z (eC Z (eN _))))
  have hf24:f 24=none:=tY hp24 h139
  refine xZ ?_
  exact kQ (hKj5 (_,_) (hI.none hf24)) (eC Z (eC Z (eC Z (eN _))))
 intro ⟨y,G⟩ hI
 replace hI:AtS t x0 b f [24,23,22,15,14] y G:=hI
 change Run _ _ _ _ _ [(0,_),(1,_),(2,_)] (.many 124 (Gr.blks G)::t.X y.1) (.graph t.mb G::t.D0)
 obtain⟨cs,hm⟩:=hI.mem
 refine xU 0 25 Z hm aE aE (fun p25 hc25 hp25=>?_)
 refine rO 8 Z (zC f3 Z Z ?_)
 refine zA (yY 0 ta Z Z Z (xE hm) (by rw [Nat.zero_add];exact hc25) ?_)
 refine zA (yI Dc Z Z ?_)
 refine oK 1 [163,0,1,2] Z Z (vO [0,1,2] (fun(⟨y,G⟩:(β×cv)×Gr)=>AtS t x0 b f [25,24,23,22,15,14] y G) (fun(⟨y,G⟩:(β×cv)×Gr)=>[]) (fun(⟨y,G⟩:(β×cv)×Gr)=> .many 124 (Gr.blks G)::t.X y.1) (fun(⟨y,G⟩:(β×cv)×Gr)=> .graph t.mb G::t.D0) ?_ ?_)
 ·intro Kj6 hKj6
  refine zW Z (fun h163=>?_) (fun h163=>?_)
  ·obtain⟨fv,hfv⟩: ∃fv,f 25=some fv:=Option.isSome_iff_exists.1 (hp25.symm.trans h163)
   have hok:=hft 25 fv aE aE hfv
   refine vQ 0 25 Z hm aE aE hc25 hfv ?_
   have hks:=uW hfv
   obtain⟨l,rfl⟩:=Bn hok
   refine ug 0 Z (fun pl sl nbs hu=>?_)
   cases hu
   refine vU 1 Z (fun A1 c1 hx hk1 hk2=>?_)
   subst hx
   refine nX 2 Z (fun hnl=>?_)
   unfold maxLen at hk2
   refine rO 7 Z (zC f3 Z Z ?_)
   refine zA (yY 0 ta Z Z Z (xE hm) (by rw [Nat.zero_add];exact hc25) ?_)
   refine oO 3 Z (yW 0 C0 Z Z Z ?_)
   refine zA (yA my Z Z ?_)
   refine oK 4 [171,170,169,0,1,2] Z Z (tH (D':= .graph t.mb G:: .rowp (.slice A1 nbs.length c1) nbs:: .dep nbs l::t.D0) aX ?_)
   have hI0:=hI
   refine yL 1 (fun(i:Nat)=>i≤nbs.length) (fun(i:Nat)=>[(171, .int .i64 ((i:Nat):Int))]) (fun(i:Nat)=> .many 124 (Gr.blks G)::t.X y.1) (fun(i:Nat)=> .graph t.mb G:: .rowp (.slice A1 nbs.length c1) nbs:: .dep nbs l::t.D0) (fun(i:Nat)=>nbs.length - i) 0 (Nat.zero_le _) (eC Z (eN _)) Z Z ?_ (eC Z (eC Z (eC Z (eC Z (eC Z (eN _))))))
   intro i hI K hK3
   change Run _ _ _ _ _ [(171,_),(170,_),(169,_),(0,_),(1,_),(2,_)] _ _
   have hi:i≤nbs.length:=hI
   replace hI:=hI0
   refine rO 3 Z (yJ Z Z Z ?_)
   refine oR 2 Z (zN Z (fun h172=>?_) (fun h172=>?_))
   ·refine rO 6 Z ?_
    have hlt:i<nbs.length:=h172
    have hll:i<l.length:=by omega
    refine wT 1 my Z Z Z Z hlt (z7 2 i Z (List.getElem?_eq_getElem hll) (List.getElem?_eq_getElem hlt) (fun tb p2 sl2 hksz=>?_))
    refine zA (yH Hn Z Z (fun _ h=>vJ h (j:=5) Z (List.getElem?_eq_getElem hlt)) ?_)
    refine oO 10 Z (zC zn Z Z ?_)
    refine zA (zH 0 Hc Z Z Z Z ?_)
    refine oK 3 [18,171,170,169,0,1,2] Z Z (rO 7 Z ?_)
    refine zC zo Z Z (zA ?_)
    refine zH 1 dx Z Z Z Z (oO 8 Z ?_)
    refine yI iC Z Z (oO 6 Z ?_)
    refine yB Z Z aC (oK 3 [171,170,169,0,1,2] Z Z ?_)
    exact kQ (hK3 (i+1) bc av) (eC Z (eC Z (eC Z (eC Z (eC Z (eC Z (eN _)))))))
   replace hI:=hI0
   refine sA Z ?_
   exact kQ (hKj6 (_,_) (hI0.add (fun c hc=>by rw [hks]at hc;cases hc))) (eC Z (eC Z (eC Z (eN _))))
  have hf25:f 25=none:=tY hp25 h163
  refine xZ ?_
  exact kQ (hKj6 (_,_) (hI.none hf25)) (eC Z (eC Z (eC Z (eN _))))
 intro ⟨y,G⟩ hI
 replace hI:AtS t x0 b f [25,24,23,22,15,14] y G:=hI
 change Run _ _ _ _ _ [(0,_),(1,_),(2,_)] (.many 124 (Gr.blks G)::t.X y.1) (.graph t.mb G::t.D0)
 obtain⟨cs,hm⟩:=hI.mem
 refine xU 0 28 Z hm aE aE (fun p28 hc28 hp28=>?_)
 refine rO 8 Z (zC rY Z Z ?_)
 refine zA (yY 0 dm Z Z Z (xE hm) (by rw [Nat.zero_add];exact hc28) ?_)
 refine zA (yI fU Z Z ?_)
 refine oK 1 [193,0,1,2] Z Z (vO [0,1,2] (fun(⟨y,G⟩:(β×cv)×Gr)=>AtS t x0 b f [28,25,24,23,22,15,14] y G) (fun(⟨y,G⟩:(β×cv)×Gr)=>[]) (fun(⟨y,G⟩:(β×cv)×Gr)=> .many 124 (Gr.blks G)::t.X y.1) (fun(⟨y,G⟩:(β×cv)×Gr)=> .graph t.mb G::t.D0) ?_ ?_)
 ·intro Kj7 hKj7
  refine zW Z (fun h193=>?_) (fun h193=>?_)
  ·obtain⟨fv,hfv⟩: ∃fv,f 28=some fv:=Option.isSome_iff_exists.1 (hp28.symm.trans h193)
   have hok:=hft 28 fv aE aE hfv
   refine vQ 0 28 Z hm aE aE hc28 hfv ?_
   have hks:=uW hfv
   obtain⟨bs,rfl⟩:=qP hok
   refine iX 0 Z (fun pl sl hu=>?_)
   cases hu
   refine vU 1 Z (fun A1 c1 hx hk1 hk2=>?_)
   subst hx
   unfold maxLen at hk2
   change cU f 28=bs at hks
   refine rO 7 Z (zC rY Z Z ?_)
   refine zA (yY 0 dm Z Z Z (xE hm) (by rw [Nat.zero_add];exact hc28) ?_)
   refine oO 3 Z (yW 0 kK Z Z Z ?_)
   refine zA (yA eH Z Z ?_)
   refine oK 4 [201,200,199,0,1,2] Z Z (tH (D':= .graph t.mb G:: .rowp (.slice A1 bs.length c1) bs::t.D0) aZ ?_)
   refine yL 1 (fun(⟨i,y,G⟩:Nat×(β×cv)×Gr)=>i≤bs.length∧AtS t x0 b f [25,24,23,22,15,14] y G∧ ∀ j c,j<i→bs[j]? =some c→t.dn y (decide (28=30)) c) (fun(⟨i,y,G⟩:Nat×(β×cv)×Gr)=>[(201, .int .i64 ((i:Nat):Int))]) (fun(⟨i,y,G⟩:Nat×(β×cv)×Gr)=> .many 124 (Gr.blks G)::t.X y.1) (fun(⟨i,y,G⟩:Nat×(β×cv)×Gr)=> .graph t.mb G:: .rowp (.slice A1 bs.length c1) bs::t.D0) (fun(⟨i,y,G⟩:Nat×(β×cv)×Gr)=>bs.length - i) (0,y,G) (⟨Nat.zero_le _,hI,fun j c h=>absurd h (Nat.not_lt_zero _)⟩) (eC Z (eN _)) Z Z ?_ (eC Z (eC Z (eC Z (eC Z (eC Z (eN _))))))
   intro ⟨i,y,G⟩ hI K hK4
   change Run _ _ _ _ _ [(201,_),(200,_),(199,_),(0,_),(1,_),(2,_)] (.many 124 (Gr.blks G)::t.X y.1) (.graph t.mb G:: .rowp (.slice A1 bs.length c1) bs::t.D0)
   obtain⟨hi,hI,hno⟩:=hI
   refine rO 3 Z (yJ Z Z Z ?_)
   refine oR 2 Z (zN Z (fun h202=>?_) (fun h202=>?_))
   ·refine rO 6 Z ?_
    have hlt:i<bs.length:=h202
    refine wT 1 eH Z Z Z Z hlt (zA ?_)
    refine yH dx Z Z (fun _ h=>vJ h (j:=1) Z (List.getElem?_eq_getElem hlt)) ?_
    refine oO 9 Z ?_
    refine fC 28 hI aD IH (hkid 28 aE _ bD) Z Z Z aQ (fun y207 G207 hI207 hd207 hm207=>?_)
    refine oO 4 Z (yB Z Z aC ?_)
    refine oR 3 Z ?_
    exact kQ (hK4 (i+1,_,_) (⟨by show i+1≤_;omega,hI207,gm hno hm207 (List.getElem?_eq_getElem hlt) hd207⟩) ax) (eC Z (eC Z (eC Z (eC Z (eC Z (eC Z (eN _))))))) (hD:=(cl 0 Z sQ))
   have hall:=jd aC hno
   refine sA Z ?_
   exact kQ (hKj7 (_,_) (hI.add (fun c hc=>by rw [hks]at hc;exact hall c hc))) (eC Z (eC Z (eC Z (eN _))))
  have hf28:f 28=none:=tY hp28 h193
  refine xZ ?_
  exact kQ (hKj7 (_,_) (hI.none hf28)) (eC Z (eC Z (eC Z (eN _))))
 intro ⟨y,G⟩ hI
 replace hI:AtS t x0 b f [28,25,24,23,22,15,14] y G:=hI
 change Run _ _ _ _ _ [(0,_),(1,_),(2,_)] (.many 124 (Gr.blks G)::t.X y.1) (.graph t.mb G::t.D0)
 obtain⟨cs,hm⟩:=hI.mem
 refine xU 0 29 Z hm aE aE (fun p29 hc29 hp29=>?_)
 refine rO 8 Z (zC rZ Z Z ?_)
 refine zA (yY 0 dm Z Z Z (xE hm) bL ?_)
 refine zA (yI fU Z Z ?_)
 refine oK 1 [213,0,1,2] Z Z (vO [0,1,2] (fun(⟨y,G⟩:(β×cv)×Gr)=>AtS t x0 b f [29,28,25,24,23,22,15,14] y G) (fun(⟨y,G⟩:(β×cv)×Gr)=>[]) (fun(⟨y,G⟩:(β×cv)×Gr)=> .many 124 (Gr.blks G)::t.X y.1) (fun(⟨y,G⟩:(β×cv)×Gr)=> .graph t.mb G::t.D0) ?_ ?_)
 ·intro Kj8 hKj8
  refine zW Z (fun h213=>?_) (fun h213=>?_)
  ·obtain⟨fv,hfv⟩: ∃fv,f 29=some fv:=Option.isSome_iff_exists.1 (hp29.symm.trans h213)
   have hok:=hft 29 fv aE aE hfv
   refine vQ 0 29 Z hm aE aE hc29 hfv ?_
   have hks:=uW hfv
   obtain⟨bs,rfl⟩:=qP hok
   refine iX 0 Z (fun pl sl hu=>?_)
   cases hu
   refine vU 1 Z (fun A1 c1 hx hk1 hk2=>?_)
   subst hx
   unfold maxLen at hk2
   change cU f 29=bs at hks
   refine rO 7 Z (zC rZ Z Z ?_)
   refine zA (yY 0 dm Z Z Z (xE hm) bL ?_)
   refine oO 3 Z (yW 0 kK Z Z Z ?_)
   refine zA (yA eH Z Z ?_)
   refine oK 4 [221,220,219,0,1,2] Z Z (tH (D':= .graph t.mb G:: .rowp (.slice A1 bs.length c1) bs::t.D0) aZ ?_)
   refine yL 1 (fun(⟨i,y,G⟩:Nat×(β×cv)×Gr)=>i≤bs.length∧AtS t x0 b f [28,25,24,23,22,15,14] y G∧ ∀ j c,j<i→bs[j]? =some c→t.dn y (decide (29=30)) c) (fun(⟨i,y,G⟩:Nat×(β×cv)×Gr)=>[(221, .int .i64 ((i:Nat):Int))]) (fun(⟨i,y,G⟩:Nat×(β×cv)×Gr)=> .many 124 (Gr.blks G)::t.X y.1) (fun(⟨i,y,G⟩:Nat×(β×cv)×Gr)=> .graph t.mb G:: .rowp (.slice A1 bs.length c1) bs::t.D0) (fun(⟨i,y,G⟩:Nat×(β×cv)×Gr)=>bs.length - i) (0,y,G) (⟨Nat.zero_le _,hI,fun j c h=>absurd h (Nat.not_lt_zero _)⟩) (eC Z (eN _)) Z Z ?_ (eC Z (eC Z (eC Z (eC Z (eC Z (eN _))))))
   intro ⟨i,y,G⟩ hI K hK5
   change Run _ _ _ _ _ [(221,_),(220,_),(219,_),(0,_),(1,_),(2,_)] (.many 124 (Gr.blks G)::t.X y.1) (.graph t.mb G:: .rowp (.slice A1 bs.length c1) bs::t.D0)
   obtain⟨hi,hI,hno⟩:=hI
   refine rO 3 Z (yJ Z Z Z ?_)
   refine oR 2 Z (zN Z (fun h222=>?_) (fun h222=>?_))
   ·refine rO 6 Z ?_
    have hlt:i<bs.length:=h222
    refine wT 1 eH Z Z Z Z hlt (zA ?_)
    refine yH dx Z Z (fun _ h=>vJ h (j:=1) Z (List.getElem?_eq_getElem hlt)) ?_
    refine oO 9 Z ?_
    refine fC 29 hI aD IH (hkid 29 aE _ bD) Z Z Z aQ (fun y227 G227 hI227 hd227 hm227=>?_)
    refine oO 4 Z (yB Z Z aC ?_)
    refine oR 3 Z ?_
    exact kQ (hK5 (i+1,_,_) (⟨by show i+1≤_;omega,hI227,gm hno hm227 (List.getElem?_eq_getElem hlt) hd227⟩) ax) (eC Z (eC Z (eC Z (eC Z (eC Z (eC Z (eN _))))))) (hD:=(cl 0 Z sQ))
   have hall:=jd aC hno
   refine sA Z ?_
   exact kQ (hKj8 (_,_) (hI.add (fun c hc=>by rw [hks]at hc;exact hall c hc))) (eC Z (eC Z (eC Z (eN _))))
  have hf29:f 29=none:=tY hp29 h213
  refine xZ ?_
  exact kQ (hKj8 (_,_) (hI.none hf29)) (eC Z (eC Z (eC Z (eN _))))
 intro ⟨y,G⟩ hI
 replace hI:AtS t x0 b f [29,28,25,24,23,22,15,14] y G:=hI
 change Run _ _ _ _ _ [(0,_),(1,_),(2,_)] (.many 124 (Gr.blks G)::t.X y.1) (.graph t.mb G::t.D0)
 obtain⟨cs,hm⟩:=hI.mem
 refine xU 0 30 Z hm aE aE (fun p30 hc30 hp30=>?_)
 refine rO 8 Z (zC qY Z Z ?_)
 refine zA (yY 0 dm Z Z Z (xE hm) (by rw [Nat.zero_add];exact hc30) ?_)
 refine zA (yI fU Z Z ?_)
 refine oK 1 [233,0,1,2] Z Z (vO [0,1,2] (fun(⟨y,G⟩:(β×cv)×Gr)=>AtS t x0 b f [30,29,28,25,24,23,22,15,14] y G) (fun(⟨y,G⟩:(β×cv)×Gr)=>[]) (fun(⟨y,G⟩:(β×cv)×Gr)=> .many 124 (Gr.blks G)::t.X y.1) (fun(⟨y,G⟩:(β×cv)×Gr)=> .graph t.mb G::t.D0) ?_ ?_)
 ·intro Kj9 hKj9
  refine zW Z (fun h233=>?_) (fun h233=>?_)
  ·obtain⟨fv,hfv⟩: ∃fv,f 30=some fv:=Option.isSome_iff_exists.1 (hp30.symm.trans h233)
   have hok:=hft 30 fv aE aE hfv
   refine vQ 0 30 Z hm aE aE hc30 hfv ?_
   have hks:=uW hfv
   obtain⟨bs,rfl⟩:=qP hok
   refine iX 0 Z (fun pl sl hu=>?_)
   cases hu
   refine vU 1 Z (fun A1 c1 hx hk1 hk2=>?_)
   subst hx
   unfold maxLen at hk2
   change cU f 30=bs at hks
   refine rO 7 Z (zC qY Z Z ?_)
   refine zA (yY 0 dm Z Z Z (xE hm) (by rw [Nat.zero_add];exact hc30) ?_)
   refine oO 3 Z (yW 0 kK Z Z Z ?_)
   refine zA (yA eH Z Z ?_)
   refine oK 4 [241,240,239,0,1,2] Z Z (tH (D':= .graph t.mb G:: .rowp (.slice A1 bs.length c1) bs::t.D0) aZ ?_)
   refine yL 1 (fun(⟨i,y,G⟩:Nat×(β×cv)×Gr)=>i≤bs.length∧AtS t x0 b f [29,28,25,24,23,22,15,14] y G∧ ∀ j c,j<i→bs[j]? =some c→t.dn y (decide (30=30)) c) (fun(⟨i,y,G⟩:Nat×(β×cv)×Gr)=>[(241, .int .i64 ((i:Nat):Int))]) (fun(⟨i,y,G⟩:Nat×(β×cv)×Gr)=> .many 124 (Gr.blks G)::t.X y.1) (fun(⟨i,y,G⟩:Nat×(β×cv)×Gr)=> .graph t.mb G:: .rowp (.slice A1 bs.length c1) bs::t.D0) (fun(⟨i,y,G⟩:Nat×(β×cv)×Gr)=>bs.length - i) (0,y,G) (⟨Nat.zero_le _,hI,fun j c h=>absurd h (Nat.not_lt_zero _)⟩) (eC Z (eN _)) Z Z ?_ (eC Z (eC Z (eC Z (eC Z (eC Z (eN _))))))
   intro ⟨i,y,G⟩ hI K hK6
   change Run _ _ _ _ _ [(241,_),(240,_),(239,_),(0,_),(1,_),(2,_)] (.many 124 (Gr.blks G)::t.X y.1) (.graph t.mb G:: .rowp (.slice A1 bs.length c1) bs::t.D0)
   obtain⟨hi,hI,hno⟩:=hI
   refine rO 3 Z (yJ Z Z Z ?_)
   refine oR 2 Z (zN Z (fun h242=>?_) (fun h242=>?_))
   ·refine rO 6 Z ?_
    have hlt:i<bs.length:=h242
    refine wT 1 eH Z Z Z Z hlt (zA ?_)
    refine yH dx Z Z (fun _ h=>vJ h (j:=1) Z (List.getElem?_eq_getElem hlt)) ?_
    refine oO 9 Z ?_
    refine fC 30 hI aD IH (hkid 30 aE _ bD) Z Z Z aQ (fun y247 G247 hI247 hd247 hm247=>?_)
    refine oO 4 Z (yB Z Z aC ?_)
    refine oR 3 Z ?_
    exact kQ (hK6 (i+1,_,_) (⟨by show i+1≤_;omega,hI247,gm hno hm247 (List.getElem?_eq_getElem hlt) hd247⟩) ax) (eC Z (eC Z (eC Z (eC Z (eC Z (eC Z (eN _))))))) (hD:=(cl 0 Z sQ))
   have hall:=jd aC hno
   refine sA Z ?_
   exact kQ (hKj9 (_,_) (hI.add (fun c hc=>by rw [hks]at hc;exact hall c hc))) (eC Z (eC Z (eC Z (eN _))))
  have hf30:f 30=none:=tY hp30 h233
  refine xZ ?_
  exact kQ (hKj9 (_,_) (hI.none hf30)) (eC Z (eC Z (eC Z (eN _))))
 intro ⟨y,G⟩ hI
 replace hI:AtS t x0 b f [30,29,28,25,24,23,22,15,14] y G:=hI
 change Run _ _ _ _ _ [(0,_),(1,_),(2,_)] (.many 124 (Gr.blks G)::t.X y.1) (.graph t.mb G::t.D0)
 obtain⟨cs,hm⟩:=hI.mem
 refine xU 0 31 Z hm aE aE (fun p31 hc31 hp31=>?_)
 refine rO 8 Z (zC f6 Z Z ?_)
 refine zA (yY 0 dx Z Z Z (xE hm) (by rw [Nat.zero_add];exact hc31) ?_)
 refine zA (yI iC Z Z ?_)
 refine oK 1 [253,0,1,2] Z Z (vO [0,1,2] (fun(⟨y,G⟩:(β×cv)×Gr)=>AtS t x0 b f [31,30,29,28,25,24,23,22,15,14] y G) (fun(⟨y,G⟩:(β×cv)×Gr)=>[]) (fun(⟨y,G⟩:(β×cv)×Gr)=> .many 124 (Gr.blks G)::t.X y.1) (fun(⟨y,G⟩:(β×cv)×Gr)=> .graph t.mb G::t.D0) ?_ ?_)
 ·intro Kj10 hKj10
  refine zW Z (fun h253=>?_) (fun h253=>?_)
  ·obtain⟨fv,hfv⟩: ∃fv,f 31=some fv:=Option.isSome_iff_exists.1 (hp31.symm.trans h253)
   have hok:=hft 31 fv aE aE hfv
   refine vQ 0 31 Z hm aE aE hc31 hfv ?_
   have hks:=uW hfv
   obtain⟨bb,rfl⟩:=Bo hok
   refine vY (p:=p31=some ⟨bb,0,none⟩) (fun w ok h=>by have:=(dget h 0 Z:(DA.fv (.pointer p31) (.one bb)).p w ok);cases this;rfl) (fun hu=>?_)
   subst hu
   change cU f 31=[bb]at hks
   refine rO 6 Z (zC f6 Z Z ?_)
   refine zA (yY 0 dx Z Z Z (xE hm) (by rw [Nat.zero_add];exact hc31) ?_)
   refine oO 3 Z ?_
   refine fC 31 hI aD IH (hkid 31 aE _ (by rw [hks];simp)) Z Z Z aQ (fun y259 G259 hI259 hd259 hm259=>?_)
   refine zX ?_
   exact kQ (hKj10 (_,_) (hI259.add (fun c hc=>by rw [hks]at hc;rcases List.mem_singleton.1 hc with rfl;exact hd259))) (eC Z (eC Z (eC Z (eN _))))
  have hf31:f 31=none:=tY hp31 h253
  refine xZ ?_
  exact kQ (hKj10 (_,_) (hI.none hf31)) (eC Z (eC Z (eC Z (eN _))))
 intro ⟨y,G⟩ hI
 replace hI:AtS t x0 b f [31,30,29,28,25,24,23,22,15,14] y G:=hI
 change Run _ _ _ _ _ [(0,_),(1,_),(2,_)] (.many 124 (Gr.blks G)::t.X y.1) (.graph t.mb G::t.D0)
 obtain⟨cs,hm⟩:=hI.mem
 refine xU 0 32 Z hm aE aE (fun p32 hc32 hp32=>?_)
 refine rO 8 Z (zC qZ Z Z ?_)
 refine zA (yY 0 eB Z Z Z (xE hm) (by rw [Nat.zero_add];exact hc32) ?_)
 refine zA (yI kX Z Z ?_)
 refine oK 1 [264,0,1,2] Z Z (vO [0,1,2] (fun(⟨y,G⟩:(β×cv)×Gr)=>AtS t x0 b f [32,31,30,29,28,25,24,23,22,15,14] y G) (fun(⟨y,G⟩:(β×cv)×Gr)=>[]) (fun(⟨y,G⟩:(β×cv)×Gr)=> .many 124 (Gr.blks G)::t.X y.1) (fun(⟨y,G⟩:(β×cv)×Gr)=> .graph t.mb G::t.D0) ?_ ?_)
 ·intro Kj11 hKj11
  refine zW Z (fun h264=>?_) (fun h264=>?_)
  ·obtain⟨fv,hfv⟩: ∃fv,f 32=some fv:=Option.isSome_iff_exists.1 (hp32.symm.trans h264)
   have hok:=hft 32 fv aE aE hfv
   refine vQ 0 32 Z hm aE aE hc32 hfv ?_
   have hks:=uW hfv
   obtain⟨l,rfl⟩:=lY hok
   refine rP 0 Z (fun pl sl nbs hu=>?_)
   cases hu
   refine vU 1 Z (fun A1 c1 hx hk1 hk2=>?_)
   subst hx
   refine sH 2 Z (fun hnl=>?_)
   unfold maxLen at hk2
   change cU f 32=l.map (·.2)at hks
   refine rO 7 Z (zC qZ Z Z ?_)
   refine zA (yY 0 eB Z Z Z (xE hm) (by rw [Nat.zero_add];exact hc32) ?_)
   refine oO 3 Z (yW 0 ju Z Z Z ?_)
   refine zA (yA eA Z Z ?_)
   refine oK 4 [272,271,270,0,1,2] Z Z (tH (D':= .graph t.mb G:: .rowp (.slice A1 nbs.length c1) nbs:: .nam nbs l::t.D0) aX ?_)
   refine yL 1 (fun(⟨i,y,G⟩:Nat×(β×cv)×Gr)=>i≤nbs.length∧AtS t x0 b f [31,30,29,28,25,24,23,22,15,14] y G∧ ∀ j c,j<i→(l.map (·.2))[j]? =some c→t.dn y (decide (32=30)) c) (fun(⟨i,y,G⟩:Nat×(β×cv)×Gr)=>[(272, .int .i64 ((i:Nat):Int))]) (fun(⟨i,y,G⟩:Nat×(β×cv)×Gr)=> .many 124 (Gr.blks G)::t.X y.1) (fun(⟨i,y,G⟩:Nat×(β×cv)×Gr)=> .graph t.mb G:: .rowp (.slice A1 nbs.length c1) nbs:: .nam nbs l::t.D0) (fun(⟨i,y,G⟩:Nat×(β×cv)×Gr)=>nbs.length - i) (0,y,G) (⟨Nat.zero_le _,hI,fun j c h=>absurd h (Nat.not_lt_zero _)⟩) (eC Z (eN _)) Z Z ?_ (eC Z (eC Z (eC Z (eC Z (eC Z (eN _))))))
   intro ⟨i,y,G⟩ hI K hK7
   change Run _ _ _ _ _ [(272,_),(271,_),(270,_),(0,_),(1,_),(2,_)] (.many 124 (Gr.blks G)::t.X y.1) (.graph t.mb G:: .rowp (.slice A1 nbs.length c1) nbs:: .nam nbs l::t.D0)
   obtain⟨hi,hI,hno⟩:=hI
   refine rO 3 Z (yJ Z Z Z ?_)
   refine oR 2 Z (zN Z (fun h273=>?_) (fun h273=>?_))
   ·refine rO 6 Z ?_
    have hlt:i<nbs.length:=h273
    have hll:i<l.length:=by omega
    refine wT 1 eA Z Z Z Z hlt (fV 2 i Z (List.getElem?_eq_getElem hll) (List.getElem?_eq_getElem hlt) (fun hksz=>?_))
    refine zA (yH lq Z Z (fun _ h=>vJ h (j:=2) Z (List.getElem?_eq_getElem hlt)) ?_)
    refine oO 10 Z (zC fQ Z Z ?_)
    refine zA (zH 0 dx Z Z Z Z ?_)
    refine oK 3 [28,272,271,270,0,1,2] Z Z (rO 6 Z ?_)
    refine fC 32 hI aD IH (hkid 32 aE _ am) Z Z Z aQ (fun y282 G282 hI282 hd282 hm282=>?_)
    refine oO 4 Z (yB Z Z aC ?_)
    refine oR 3 Z ?_
    exact kQ (hK7 (i+1,_,_) (⟨by show i+1≤_;omega,hI282,gm hno hm282 (by rw [List.getElem?_map,List.getElem?_eq_getElem hll];rfl) hd282⟩) av) (eC Z (eC Z (eC Z (eC Z (eC Z (eC Z (eN _))))))) (hD:=(cl 0 Z sQ))
   have hall:=jd (bs:=l.map (·.2)) bR hno
   refine sA Z ?_
   exact kQ (hKj11 (_,_) (hI.add (fun c hc=>by rw [hks]at hc;exact hall c hc))) (eC Z (eC Z (eC Z (eN _))))
  have hf32:f 32=none:=tY hp32 h264
  refine xZ ?_
  exact kQ (hKj11 (_,_) (hI.none hf32)) (eC Z (eC Z (eC Z (eN _))))
 intro ⟨y,G⟩ hI
 replace hI:AtS t x0 b f [32,31,30,29,28,25,24,23,22,15,14] y G:=hI
 change Run _ _ _ _ _ [(0,_),(1,_),(2,_)] (.many 124 (Gr.blks G)::t.X y.1) (.graph t.mb G::t.D0)
 refine rO 8 Z ?_
 refine ku Z Z Z (hok.op y b f ctx G hI.1 hS hI.2.2.2.1 (fun i hi c hc=>hI.2.2.2.2.1 i ((by decide: ∀ i∈cw,i∈[32,31,30,29,28,25,24,23,22,15,14]) i hi) c hc) hI.2.1) (fun d hd=>hd) (fun u287 M287 D287 hv287=>?_)
 obtain⟨rfl,y2,G2,hy2,hG2,rfl,rfl,hm2,hdn2,hs2⟩:=hv287
 refine zX ?_
 exact vI Tryz.results121 ⟨rfl,y2,G2,hy2,hG2,rfl,rfl,fun o d hd=>hm2 o d (hI.2.2.1 o d (hx0▸hd)),hdn2,fun d hd=>(hs2 d (fun e=>by subst e;exact Nat.lt_irrefl _ hd)).trans ((hI.2.2.2.2.2 d (Nat.le_of_lt hd)).trans (by rw [hx0]))⟩ (List.Sublist.refl _) (cS 0 Z)
section rules
variable {P:Program} {n:Nat} {F:List Nat} {c:Ctx F} {ops:Array Oper} {d:Nat} {T:TypeId} {l:List Oper} {k:List KI} {Q:Post} {e:dI} {M:List HA} {D:List DA}
theorem Bp{fo:Operand}{ags:Array Operand}{ts:Array TypeId}{f:FuncId}{fst cap:Array Value}{vs:List Value}{M1 M2:List HA}{D1:List DA}{R:Value→List HA→List DA→Prop}(hd:Nat.blt d n=true)(hfo:ev e fo=some (.func (.func f) fst cap))(has:ags.toList.mapM (ev e)=some vs)
    (hct:Ct P f (fst++vs.toArray++cap) M1 D1 R) (hM:M1++M2=M) (hD: ∀ d∈D1,d∈D)
    (next: ∀ v M' D',R v M' D'→cL P n c ops l k Q ((d,v)::e) (M'++M2) (D'++D)):cR P n c ops (some d) (.call {callee:= .value fo,args:=ags,argTypes:=ts}) T l k Q e M D:=by
  subst hM
  intro a w hf
  have hargs:ags.map a.eval=vs.toArray:=by
    apply Array.ext'
    simpa using zg hf has
  unfold Oper.wp
  have hrun:(execOp a.eval (dM (some d) (.call {callee:= .value fo,args:=ags,argTypes:=ts}) T)).run P w= .ok (.enter f (fst++vs.toArray++cap)) w:=by
    simp [execOp,dM,resolve,hf.ev hfo,Deferred.ofValue,invoke,hargs,gV hct.1]
  rw [hrun]
  have hlt:=hf.lt
  refine Calls.mono (hct.2 w (c.now (M1++M2) w) (fun k hk=>⟨hk.2.1,fun h'=>hk.2.2 bB⟩) (fun h hh=>hf.own h (List.mem_append_left _ hh))
    (by have:=hf.nodup;rw [yS]at this;exact(List.nodup_append.1 this).1) (fun d hd'=>hf.dat d (hD d hd'))) ?_
  rintro e' w' ⟨v,M',D',rfl,hR,hchg,hm,hn,hft,hdat⟩
  refine next v M' D' hR _ w' ((hf.world (hf.toFitsW.swap hchg hm hn hft fun x hx=>?_)).put hd v)
  refine x.mono (fun q hq=>?_) (fun _ _=>rfl) (hdat x hx)
  obtain⟨h1,h2,h3⟩:=hq
  refine⟨?_,h2,?_⟩
  · rcases h1 with h1|h1
    · exact h1.1
    · exact .inr (Nat.le_trans hf.chg.size h1)
  · rw [yS,List.mem_append,not_or]
    refine⟨h3,fun h4=>?_⟩
    rcases h1 with h1|h1
    · exact h1.2.2 bA
    · exact absurd (hlt q bA) aC
theorem fD{fo:Operand}{ags:Array Operand}{ts:Array TypeId}{f:FuncId}{fst cap:Array Value}{vs:List Value}{pre M1:List HA}{D1:List DA}{R:Value→List HA→List DA→Prop}(hd:Nat.blt d n=true)(hfo:ev e fo=some (.func (.func f) fst cap))(has:ags.toList.mapM (ev e)=some vs)
  (hct:Ct P f (fst++vs.toArray++cap) M1 D1 R) (hM:M=pre++M1) (hD: ∀ d∈D1,d∈D)
  (next: ∀ v M' D',R v M' D'→cL P n c ops l k Q ((d,v)::e) (pre++M') (D'++D)):cR P n c ops (some d) (.call {callee:= .value fo,args:=ags,argTypes:=ts}) T l k Q e M D:=by
 subst hM
 refine fun a w hf=>Bp (M1:=M1) (M2:=pre) hd hfo has hct Z hD (fun v M' D' hR a' w' hf'=>next v M' D' hR a' w' (hf'.world (hf'.toFitsW.perm List.perm_append_comm))) a w (hf.world (hf.toFitsW.perm List.perm_append_comm))
end rules
inductive FoldR {α:Type} (Rl:V→α→α→V→Prop) (a0:α):List V→α→List V→Prop where
  |nil:FoldR Rl a0 [] a0 []
  |pos {l:List V} {a a1:α} {l':List V} {own v:V} (h:FoldR Rl a0 l a l') (hk:own.kind=5) (hr:Rl own a a1 v):FoldR Rl a0 (l++[own]) a1 (l'++[v])
  |neg {l:List V} {a:α} {l':List V} {own:V} (h:FoldR Rl a0 l a l') (hk: ¬ own.kind=5):FoldR Rl a0 (l++[own]) a (l'++[own])
theorem FoldR.len{α:Type}{Rl:V→α→α→V→Prop}{a0 a:α}{l l':List V}(h:FoldR Rl a0 l a l'):l'.length=l.length:=by
  induction h with
  |nil=>rfl
  |pos h hk hr ih=>simp [ih]
  |neg h hk ih=>simp [ih]
theorem FoldR.stepP{α:Type}{Rl:V→α→α→V→Prop}{a0 a a1:α}{ts l':List V}{i:Nat}{v:V}(hi:i<ts.length)(h:FoldR Rl a0 (ts.take i) a l')(hk:ts[i].kind=5)(hr:Rl ts[i] a a1 v):FoldR Rl a0 (ts.take (i+1)) a1 (l'++[v]):=by
 rw [List.take_add_one,List.getElem?_eq_getElem hi]
 exact .pos h hk hr
theorem FoldR.stepN{α:Type}{Rl:V→α→α→V→Prop}{a0 a:α}{ts l':List V}{i:Nat}(hi:i<ts.length)(h:FoldR Rl a0 (ts.take i) a l')(hk: ¬ ts[i].kind=5):FoldR Rl a0 (ts.take (i+1)) a (l'++[ts[i]]):=by
 rw [List.take_add_one,List.getElem?_eq_getElem hi]
 exact .neg h hk
def Bq{α:Type}(Rl:V→α→α→V→Prop)(t:V)(a a':α)(v':V):Prop:= ∃ts',FoldR Rl a t.items a' ts'∧v'= .mk t.kind 0 ⟨#[]⟩ t.keys ts'
def dX{α:Type}(Rl:V→α→α→V→Prop)(sh:Int)(t:V)(a a':α)(v':V):Prop:=
 if sh=5 then Rl t a a' v' else if sh=6 then(if t.kind=5 then Rl t a a' v' else a'=a∧v'=t)else if sh=7 then(if t.kind=5 then Rl t a a' v' else Bq Rl t a a' v')else if sh=9∨sh=13 then Bq Rl t a a' v' else a'=a∧v'=t
def FZ{α:Type}(X:α→List HA)(DX:α→DA)(Ok:Nat→α→Prop)(Rl:V→α→α→V→Prop)(f:FuncId)(fst cap:Array Value)(own:V):Prop:=
 ∀ (k:Nat) (a:α) (y:Value),Ok (k+1) a→Ct Tryz.prog f (fst++ #[y]++cap) (X a) [.val y own,DX a] (fun u M' D'=> ∃a' v' D1,Rl own a a' v'∧Ok k a'∧M'=X a'∧RV v' u D1∧D'=D1++[DX a'])
theorem tW{x:HA}: ∀ {M' M:List HA},iJ M' M→iJ M' (x::M)
  |[],_,_=>trivial
  |_::M',M,⟨i,hi,h⟩=>⟨i+1,by simpa using hi,by
    rw [List.eraseIdx_cons_succ]
    exact tW h⟩

theorem JU{α:Type}{X:α→List HA}{DX:α→DA}{Ok:Nat→α→Prop}{Rl:V→α→α→V→Prop}(hOk: ∀ k a,Ok (k+1) a→Ok k a)(t:V)(f:FuncId)(fst cap:Array Value)(hkl:t.keys.length≤1000000)(hil:t.items.length≤1000000)(hf: ∀ own∈t.items,own.kind=5→FZ X DX Ok Rl f fst cap own)(bv bh:Nat)(A1 A2:Option Addr)(c1 c2:Nat)(a0:α)(h0:Ok t.items.length a0):
  Ct Tryz.prog 94 #[.pointer (some ⟨bv,0,none⟩), .pointer (some ⟨bh,0,none⟩)] (.blk bv [.int .i64 t.kind, .int .i64 t.num, .string t.text, .slice A1 t.keys.length c1, .slice A2 t.items.length c2] 25:: .blk bh [.func (.func f) fst cap] 27::X a0) [.val (.agg #[.int .i64 t.kind, .int .i64 t.num, .string t.text, .slice A1 t.keys.length c1, .slice A2 t.items.length c2]) t,DX a0] (fun u M' D'=> ∃a' v' D1,Bq Rl t a0 a' v'∧M'= .blk bv [.int .i64 t.kind, .int .i64 t.num, .string t.text, .slice A1 t.keys.length c1, .slice A2 t.items.length c2] 25:: .blk bh [.func (.func f) fst cap] 27::X a'∧RV v' u D1∧D'=D1++[DX a']):=by
 refine Ct.of_run (args:=[.pointer (some ⟨bv,0,none⟩), .pointer (some ⟨bh,0,none⟩)]) Tryz.func94 aF Z Tryz.ntmps94 Z (fun c=>?_)
 refine yP 0 Z (fun A1 c1 A2 c2 hx hs hk1 hk2 hi1 hi2=>?_)
 injection hx with hx
 simp only [Array.mk.injEq,List.cons.injEq,Value.slice.injEq,true_and,and_true]at hx
 obtain⟨⟨rfl,rfl⟩,rfl,rfl⟩:=hx
 unfold maxLen at hi2 hk2
 refine uB 0 Z (fun hksz=>?_)
 refine rO 3 Z (zS cx Z (fun b2=>?_))
 change cL _ _ _ _ _ _ _ _ (HA.blk _ [_,_,_,_,_] _::_) _
 refine oK 2 [2,0,1] Z Z (ow (fun(⟨b3,Ak,ck⟩:Nat×Option Addr×Nat)=>True) (fun(⟨b3,Ak,ck⟩:Nat×Option Addr×Nat)=>[(3, .pointer (some ⟨b3,0,none⟩))]) (fun(⟨b3,Ak,ck⟩:Nat×Option Addr×Nat)=>HA.blk b3 [.int .i64 t.kind, .int .i64 0, .string ⟨#[]⟩, .slice Ak t.keys.length ck, .slice none 0 0] 25::HA.blk b2 [.int .i64 0, .int .i64 0, .string ⟨#[]⟩, .slice none 0 0, .slice none 0 0] 25::HA.blk bv [.int .i64 t.kind, .int .i64 t.num, .string t.text, .slice A1 t.keys.length c1, .slice A2 t.items.length c2] 25::HA.blk bh [.func (.func f) fst cap] 27::X a0) (fun(⟨b3,Ak,ck⟩:Nat×Option Addr×Nat)=> .strs (.slice Ak t.keys.length ck) t.keys:: .strs (.slice A1 t.keys.length c1) t.keys:: .vals (.slice A2 t.items.length c2) t.items:: .val (.agg #[.int .i64 t.kind, .int .i64 t.num, .string t.text, .slice A1 t.keys.length c1, .slice A2 t.items.length c2]) t::DX a0::[]) ?_ ?_)
 ·intro K hK
  refine yO yE (zR ?_)
  refine tP 0 Z cK (zY vZ Z) (tP 3 Z cK (zY xI Z) ?_)
  refine yF (tM 1 Z cK (yR 1 fM Z Z Z) ?_)
  refine tM 4 Z cK (yR 1 dN Z Z Z) (tX (rs:=[2,7]) aD aJ ?_)
  intro j hj
  simp only [List.mem_cons,List.not_mem_nil,or_false]at hj
  rcases hj with rfl|rfl
  ·refine zO (I2:=[[4,1],[3,0],[]]) Z cK aD (fun Kd hKd=>?_)
   refine uT cX Z (fun b8=>?_)
   refine hKd _ _ _ (uL aY sQ (uL aY sQ (zD (zP)))) (tX (rs:=[5,7]) aD aJ ?_)
   intro j hj
   simp only [List.mem_cons,List.not_mem_nil,or_false]at hj
   rcases hj with rfl|rfl
   ·refine zO (I2:=[[1],[0],[]]) Z cK aD (fun Kd hKd=>?_)
    refine tT 0 0 cX Z Z Z Z Z Z bf aC (fun Ak ck=>?_)
    rw [Nat.zero_add]
    refine hKd _ _ _ (uL aY sQ (uL aY sQ (zD (zP)))) (yF ?_)
    refine tM 6 Z cK (sU Z (f7 ..)) (zL 7 aD ?_)
    refine zO (I2:=[[6],[1],[0],[]]) Z cK aD (fun Kd hKd=>?_)
    refine zS cx Z (fun b3=>?_)
    change cL _ _ _ _ _ _ _ _ (HA.blk _ [_,_,_,_,_] _::_) _
    refine hKd _ _ _ (uL aY sQ (uL aY sQ (uL aY sQ (zD (zP))))) (zL 8 aD ?_)
    refine zO (I2:=[[],[],[],[]]) Z cK aD (fun Kd hKd=>?_)
    refine zF 0 (M':=HA.blk _ [_,_,_,_,_] _::_) Z Z Z Z cY Z Z Z (hKd _ _ _ (zD (zD (zD (zD (zP))))) ?_)
    refine yG aD (wP 1 t.keys Z aN Z hksz ?_)
    exact kQ (hK (_,_,_) (trivial)) (eC Z (eC Z (eC Z (eC Z (eN _))))) (hM:=(by repeat (first|exact wO _|exact zQ _|refine zB 0 Z ?_|refine zB 1 Z ?_|refine zB 2 Z ?_|refine zB 3 Z ?_|refine zB 4 Z ?_|refine zB 5 Z ?_|refine zB 6 Z ?_|refine zB 7 Z ?_|refine zB 8 Z ?_|refine tW ?_)))
   refine zO (I2:=[[4,1],[3,0],[]]) Z cK aD (fun Kd hKd=>?_)
   refine zS cx Z (fun b3=>?_)
   change cL _ _ _ _ _ _ _ _ (HA.blk _ [_,_,_,_,_] _::_) _
   refine hKd _ _ _ (uL aY sQ (uL aY sQ (zD (zP)))) (zL 5 aD ?_)
   refine zO (I2:=[[1],[0],[]]) Z cK aD (fun Kd hKd=>?_)
   refine tT 1 0 cX Z Z Z Z Z Z bf aC (fun Ak ck=>?_)
   rw [Nat.zero_add]
   refine hKd _ _ _ (uL aY sQ (uL aY sQ (zD (zP)))) (yF ?_)
   refine tM 6 Z cK (sU Z (f7 ..)) (zL 8 aD ?_)
   refine zO (I2:=[[],[],[],[]]) Z cK aD (fun Kd hKd=>?_)
   refine zF 0 (M':=HA.blk _ [_,_,_,_,_] _::_) Z Z Z Z cY Z Z Z (hKd _ _ _ (zD (zD (zD (zD (zP))))) ?_)
   refine yG aD (wP 1 t.keys Z aN Z hksz ?_)
   exact kQ (hK (_,_,_) (trivial)) (eC Z (eC Z (eC Z (eC Z (eN _))))) (hM:=(by repeat (first|exact wO _|exact zQ _|refine zB 0 Z ?_|refine zB 1 Z ?_|refine zB 2 Z ?_|refine zB 3 Z ?_|refine zB 4 Z ?_|refine zB 5 Z ?_|refine zB 6 Z ?_|refine zB 7 Z ?_|refine zB 8 Z ?_|refine tW ?_)))
  refine zO (I2:=[[4,1],[3,0],[]]) Z cK aD (fun Kd hKd=>?_)
  refine zS cx Z (fun b3=>?_)
  change cL _ _ _ _ _ _ _ _ (HA.blk _ [_,_,_,_,_] _::_) _
  refine hKd _ _ _ (uL aY sQ (uL aY sQ (zD (zP)))) (zL 2 aD ?_)
  refine zO (I2:=[[4,1],[3,0],[]]) Z cK aD (fun Kd hKd=>?_)
  refine uT cX Z (fun b8=>?_)
  refine hKd _ _ _ (uL aY sQ (uL aY sQ (zD (zP)))) (zL 5 aD ?_)
  refine zO (I2:=[[1],[0],[]]) Z cK aD (fun Kd hKd=>?_)
  refine tT 0 0 cX Z Z Z Z Z Z bf aC (fun Ak ck=>?_)
  rw [Nat.zero_add]
  refine hKd _ _ _ (uL aY sQ (uL aY sQ (zD (zP)))) (yF ?_)
  refine tM 6 Z cK (sU Z (f7 ..)) (zL 8 aD ?_)
  refine zO (I2:=[[],[],[],[]]) Z cK aD (fun Kd hKd=>?_)
  refine zF 1 (M':=_::HA.blk _ [_,_,_,_,_] _::_) Z Z Z Z cY Z Z Z (hKd _ _ _ (zD (zD (zD (zD (zP))))) ?_)
  refine yG aD (wP 0 t.keys Z aN Z hksz ?_)
  exact kQ (hK (_,_,_) (trivial)) (eC Z (eC Z (eC Z (eC Z (eN _))))) (hM:=(by repeat (first|exact wO _|exact zQ _|refine zB 0 Z ?_|refine zB 1 Z ?_|refine zB 2 Z ?_|refine zB 3 Z ?_|refine zB 4 Z ?_|refine zB 5 Z ?_|refine zB 6 Z ?_|refine zB 7 Z ?_|refine zB 8 Z ?_|refine tW ?_)))
 intro ⟨b3,Ak,ck⟩ hI
 replace hI:True:=hI
 change Run _ _ _ _ _ [(3,_),(2,_),(0,_),(1,_)] (HA.blk b3 [.int .i64 t.kind, .int .i64 0, .string ⟨#[]⟩, .slice Ak t.keys.length ck, .slice none 0 0] 25::HA.blk b2 [.int .i64 0, .int .i64 0, .string ⟨#[]⟩, .slice none 0 0, .slice none 0 0] 25::HA.blk bv [.int .i64 t.kind, .int .i64 t.num, .string t.text, .slice A1 t.keys.length c1, .slice A2 t.items.length c2] 25::HA.blk bh [.func (.func f) fst cap] 27::X a0) [_,_,_,_,_]
 refine xS 25 5 (rO 4 Z ?_)
 refine zC yV Z Z (zA ?_)
 refine zG 3 dJ Z Z Z Z (zA ?_)
 refine yA cg Z Z (oK 4 [16,15,14,3,2,1] Z Z ?_)
 refine yM (DX a0) (fun w ok h=>dget h 4 Z) (tL ?_)
 refine yL 1 (fun(⟨i,a,A,ca,xs,ts⟩:Nat×α×Option Addr×Nat×List Value×List V)=>i≤t.items.length∧FoldR Rl a0 (t.items.take i) a ts∧Ok (t.items.length - i) a∧ ∀ q,A=some q→c.w0.heap.size≤q.block) (fun(⟨i,a,A,ca,xs,ts⟩:Nat×α×Option Addr×Nat×List Value×List V)=>[(16, .int .i64 ((i:Nat):Int))]) (fun(⟨i,a,A,ca,xs,ts⟩:Nat×α×Option Addr×Nat×List Value×List V)=>HA.row A i ca 25 5 xs::HA.blk b3 [.int .i64 t.kind, .int .i64 0, .string ⟨#[]⟩, .slice Ak t.keys.length ck, .slice A i ca] 25::HA.blk b2 [.int .i64 0, .int .i64 0, .string ⟨#[]⟩, .slice none 0 0, .slice none 0 0] 25::HA.blk bv [.int .i64 t.kind, .int .i64 t.num, .string t.text, .slice A1 t.keys.length c1, .slice A2 t.items.length c2] 25::HA.blk bh [.func (.func f) fst cap] 27::X a) (fun(⟨i,a,A,ca,xs,ts⟩:Nat×α×Option Addr×Nat×List Value×List V)=> .its xs ts::DX a:: .strs (.slice Ak t.keys.length ck) t.keys:: .strs (.slice A1 t.keys.length c1) t.keys:: .vals (.slice A2 t.items.length c2) t.items:: .val (.agg #[.int .i64 t.kind, .int .i64 t.num, .string t.text, .slice A1 t.keys.length c1, .slice A2 t.items.length c2]) t::DX a0::[]) (fun(⟨i,a,A,ca,xs,ts⟩:Nat×α×Option Addr×Nat×List Value×List V)=>t.items.length - i) (0,a0,none,0,[],[]) (⟨Nat.zero_le _, .nil,h0,fun q h=>by cases h⟩) (eC Z (eN _)) Z Z ?_ (eC Z (eC Z (eC Z (eC Z (eC Z (eN _))))))
 intro ⟨i,a,A,ca,xs,ts⟩ hI K hK
 change Run _ _ _ _ _ [(16,_),(15,_),(14,_),(3,_),(2,_),(1,_)] (HA.row A i ca 25 5 xs::HA.blk b3 [.int .i64 t.kind, .int .i64 0, .string ⟨#[]⟩, .slice Ak t.keys.length ck, .slice A i ca] 25::HA.blk b2 [.int .i64 0, .int .i64 0, .string ⟨#[]⟩, .slice none 0 0, .slice none 0 0] 25::HA.blk bv [.int .i64 t.kind, .int .i64 t.num, .string t.text, .slice A1 t.keys.length c1, .slice A2 t.items.length c2] 25::HA.blk bh [.func (.func f) fst cap] 27::X a) [_,_,_,_,_,_,_]
 obtain⟨hi,hF,hO,hA⟩:=hI
 refine rO 3 Z (yJ Z Z Z ?_)
 refine oR 2 Z (zN Z (fun h17=>?_) (fun h17=>?_))
 ·rw [show t.items.length - i=(t.items.length - (i+1))+1 by omega]at hO
  refine rO 6 Z (wK 4 cg Z Z Z Z aC ?_)
  refine zA (wA 4 cP Z Z Z (List.getElem?_eq_getElem h17) (fun A3 c3 A4 c4=>?_))
  refine zA (zS cx Z (fun b5=>?_))
  change cL _ _ _ _ _ _ _ _ (HA.blk _ [_,_,_,_,_] _::_) _
  refine zA (zF 0 (M':=HA.blk _ [_,_,_,_,_] _::_) Z Z Z Z cY Z Z Z ?_)
  refine oO 5 Z (zC vZ Z Z ?_)
  refine zA (zG 0 fM Z Z Z Z ?_)
  refine oR 3 Z (zN Z (fun h22=>?_) (fun h22=>?_))
  ·refine rO 2 Z (zG 5 s8 Z Z Z Z ?_)
   refine zA (zJ 0 Z cP Z Z ?_)
   refine zA (fD (pre:=[_,_,_,_,_,_]) Z Z Z (hf _ (List.getElem_mem h17) h22 _ a _ hO) Z (dC 0 2 Z Z) (fun u25 M25 D25 hv25=>?_))
   obtain⟨a25,v25,D25,hR25,hO25,rfl,⟨A5,c5,A6,c6,rfl,rfl⟩,rfl⟩:=hv25
   refine zA (zF 0 (M':=HA.blk _ [_,_,_,_,_] _::_) Z Z Z Z cY Z Z Z ?_)
   refine oK 1 [5,16,15,14,3,2,1] Z Z (rO 2 Z ?_)
   refine zC yV Z Z (zA ?_)
   refine zG 2 dJ Z Z Z Z (zA ?_)
   refine zJ 0 Z cP Z Z (zA ?_)
   refine zM cg Z Z Z Z Z (fun b29=>?_)
   refine zA ?_
   refine tA 2 0 cg Z Z Z Z Z Z Z bf aC hA (fun A30 c30 hA30=>?_)
   refine zA (zC yV Z Z ?_)
   refine zA (zF 3 (M':=_::_::_::HA.blk _ [_,_,_,_,_] _::_) Z Z Z Z ei Z Z Z ?_)
   refine oO 4 Z (yB Z Z aC ?_)
   refine oR 3 Z (wN 3 0 Z Z Z ?_)
   exact kQ (hK (i+1,_,_,_,_,_) (⟨by show i+1≤_;omega,hF.stepP h17 h22 hR25,hO25,hA30⟩) ao) (eC Z (eC Z (eC Z (eC Z (eC Z (eC Z (eN _))))))) (hM:=(by repeat (first|exact wO _|exact zQ _|refine zB 0 Z ?_|refine zB 1 Z ?_|refine zB 2 Z ?_|refine zB 3 Z ?_|refine zB 4 Z ?_|refine zB 5 Z ?_|refine zB 6 Z ?_|refine zB 7 Z ?_|refine zB 8 Z ?_|refine tW ?_))) (hD:=(by intro d hd;refine(List.mem_cons.1 hd).elim (fun e=>e▸ac) (fun hd=>?_);refine(List.mem_cons.1 hd).elim (fun e=>e▸ac) (fun hd=>?_);repeat (first|exact hd|apply List.mem_cons_of_mem)))
  refine rO 3 Z (zC yV Z Z ?_)
  refine zA (zG 2 dJ Z Z Z Z ?_)
  refine zA (zJ 0 Z cP Z Z ?_)
  refine zA (zM cg Z Z Z Z Z (fun b29=>?_))
  refine zA ?_
  refine tA 2 0 cg Z Z Z Z Z Z Z bf aC hA (fun A30 c30 hA30=>?_)
  refine zA (zC yV Z Z ?_)
  refine zA (zF 3 (M':=_::_::_::HA.blk _ [_,_,_,_,_] _::_) Z Z Z Z ei Z Z Z ?_)
  refine oK 1 [16,15,14,3,2,1] Z Z (rO 3 Z ?_)
  refine yB Z Z aC (oR 3 Z ?_)
  refine wN 1 0 Z Z Z ?_
  exact kQ (hK (i+1,_,_,_,_,_) (⟨by show i+1≤_;omega,hF.stepN h17 h22,hOk _ _ hO,hA30⟩) ao) (eC Z (eC Z (eC Z (eC Z (eC Z (eC Z (eN _))))))) (hM:=(by repeat (first|exact wO _|exact zQ _|refine zB 0 Z ?_|refine zB 1 Z ?_|refine zB 2 Z ?_|refine zB 3 Z ?_|refine zB 4 Z ?_|refine zB 5 Z ?_|refine zB 6 Z ?_|refine zB 7 Z ?_|refine zB 8 Z ?_|refine tW ?_))) (hD:=(by intro d hd;refine(List.mem_cons.1 hd).elim (fun e=>e▸ac) (fun hd=>?_);refine(List.mem_cons.1 hd).elim (fun e=>e▸ac) (fun hd=>?_);repeat (first|exact hd|apply List.mem_cons_of_mem)))
 obtain rfl:i=t.items.length:=by omega
 rw [List.take_length]at hF
 have hlen:=hF.len
 refine rO 4 Z (zJ 1 Z cP Z Z ?_)
 refine zA (zF 2 (M':=_::_::HA.blk _ [_,_,_,_,_] _::_) Z Z Z Z cY Z Z Z ?_)
 refine zX (ib 0 0 ts hA Z Z hlen.symm ?_)
 refine wU (q:=t.kind) (m:=0) (s:=⟨#[]⟩) 3 0 Z Z aE ?_
 exact yZ 1 Tryz.results94 Z Z cP ⟨a,_,_,⟨ts,hF,rfl⟩,rfl,⟨_,_,_,_,by simp only [V.kind,V.num,V.text,V.keys,V.items,hlen];rfl,rfl⟩,rfl⟩ aY (by intro d hd;refine(List.mem_cons.1 hd).elim (fun e=>e▸ac) (fun hd=>?_);refine(List.mem_cons.1 hd).elim (fun e=>e▸ac) (fun hd=>?_);repeat (first|exact hd|apply List.mem_cons_of_mem))
theorem Gj{α:Type}{X:α→List HA}{DX:α→DA}{Ok:Nat→α→Prop}{Rl:V→α→α→V→Prop}(hOk: ∀ k a,Ok (k+1) a→Ok k a)(key:ByteArray)(t:V)(x:Value)(f:FuncId)(fst cap:Array Value)(hkl:t.keys.length≤1000000)(hil:t.items.length≤1000000)(hf: ∀ own∈kidsOf (cM key) t,FZ X DX Ok Rl f fst cap own)(a0:α)(h0:Ok (t.items.length+1) a0):Ct Tryz.prog 54 #[.string key,x, .func (.func f) fst cap] (X a0) [.val x t,DX a0] (fun u M' D'=> ∃a' v' D1,dX Rl (cM key) t a0 a' v'∧M'=X a'∧RV v' u D1∧D'=D1++[DX a']):=by
 refine Ct.of_run (args:=[.string key,x, .func (.func f) fst cap]) Tryz.func54 aF Z Tryz.ntmps54 Z (fun c=>?_)
 refine yP 0 Z (fun A1 c1 A2 c2 hx hs hk1 hk2 hi1 hi2=>?_)
 subst hx
 unfold maxLen at hi2 hk2
 refine rO 3 Z (yK Z Z Z (fun b4=>?_))
 refine zA (yK Z Z Z (fun b5=>?_))
 refine zA (zS cx Z (fun b6=>?_))
 change cL _ _ _ _ _ _ _ _ (HA.blk _ [_,_,_,_,_] _::_) _
 refine oO 4 Z (rH Z Z Z ?_)
 refine oO 9 Z (zK Z Z Z (Mf key) cZ ?_)
 refine oR 9 Z (zN Z (fun h11=>?_) (fun h11=>?_))
 ·refine rO 3 Z (zG 1 s8 Z Z Z Z ?_)
  refine zA (zJ 2 Z cP Z Z ?_)
  refine zA ?_
  refine fD (pre:=[_,_,_]) Z Z Z (hf t bw _ a0 _ h0) Z (dC 2 3 Z Z) (fun u15 M15 D15 hv15=>?_)
  obtain⟨a15,v15,D15,hR15,hO15,rfl,⟨A15,c15,B15,d15,rfl,rfl⟩,rfl⟩:=hv15
  refine zA (zF 0 (M':=HA.blk _ [_,_,_,_,_] _::_) Z Z Z Z cY Z Z Z ?_)
  refine oK 1 [6] Z Z ?_
  have e:dX Rl (cM key) t a0 a15 v15:=by simp [dX, *]
  exact yZ 0 Tryz.results54 Z Z cP ⟨a15,v15,_,e,rfl,⟨_,_,_,_,rfl,rfl⟩,rfl⟩ aY (dC 0 1 Z Z)
 refine rR 7 Z (zN Z (fun h16=>?_) (fun h16=>?_))
 ·refine rO 3 Z (zC vZ Z Z ?_)
  refine zA (zG 2 fM Z Z Z Z ?_)
  refine oK 3 [20,6,5,4] Z Z (zN Z (fun h20=>?_) (fun h20=>?_))
  ·refine rO 3 Z (zG 1 s8 Z Z Z Z ?_)
   refine zA (zJ 2 Z cP Z Z ?_)
   refine zA ?_
   refine fD (pre:=[_,_,_]) Z Z Z (hf t bw _ a0 _ h0) Z (dC 2 3 Z Z) (fun u23 M23 D23 hv23=>?_)
   obtain⟨a23,v23,D23,hR23,hO23,rfl,⟨A23,c23,B23,d23,rfl,rfl⟩,rfl⟩:=hv23
   refine zA (zF 0 (M':=HA.blk _ [_,_,_,_,_] _::_) Z Z Z Z cY Z Z Z ?_)
   refine zX ?_
   have e:dX Rl (cM key) t a0 a23 v23:=by simp [dX, *]
   exact yZ 0 Tryz.results54 Z Z cP ⟨a23,v23,_,e,rfl,⟨_,_,_,_,rfl,rfl⟩,rfl⟩ aY (dC 0 1 Z Z)
  refine rO 5 Z (zJ 2 Z cP Z Z ?_)
  refine zA (zF 0 (M':=HA.blk _ [_,_,_,_,_] _::_) Z Z Z Z cY Z Z Z ?_)
  refine zX ?_
  have e:dX Rl (cM key) t a0 a0 t:=by simp [dX, *]
  exact yZ 0 Tryz.results54 Z Z cP ⟨a0,t,_,e,rfl,⟨_,_,_,_,rfl,rfl⟩,rfl⟩ aY (dC 2 3 Z Z)
 refine rK 7 [24,10,7,6,5,4] Z Z (zN Z (fun h24=>?_) (fun h24=>?_))
 ·refine rO 4 Z (zC vZ Z Z ?_)
  refine zA (zG 2 fM Z Z Z Z ?_)
  refine oR 3 Z (zN Z (fun h28=>?_) (fun h28=>?_))
  ·refine rO 3 Z (zG 1 s8 Z Z Z Z ?_)
   refine zA (zJ 2 Z cP Z Z ?_)
   refine zA ?_
   refine fD (pre:=[_,_,_]) Z Z Z (hf t bw _ a0 _ h0) Z (dC 2 3 Z Z) (fun u31 M31 D31 hv31=>?_)
   obtain⟨a31,v31,D31,hR31,hO31,rfl,⟨A31,c31,B31,d31,rfl,rfl⟩,rfl⟩:=hv31
   refine zA (zF 0 (M':=HA.blk _ [_,_,_,_,_] _::_) Z Z Z Z cY Z Z Z ?_)
   refine oK 1 [6] Z Z ?_
   have e:dX Rl (cM key) t a0 a31 v31:=by simp [dX, *]
   exact yZ 0 Tryz.results54 Z Z cP ⟨a31,v31,_,e,rfl,⟨_,_,_,_,rfl,rfl⟩,rfl⟩ aY (dC 0 1 Z Z)
  refine rS 5 Z (r9 (HE.perm (.cons _ (List.Perm.swap _ _ _))) ?_)
  refine zA ?_
  refine fD (pre:=[_]) Z Z Z (JU hOk t f fst cap hkl hil (fun own ho hk5=>hf own bw) b4 b5 _ _ _ _ a0 (hOk _ _ h0)) Z (dC 2 3 Z Z) (fun u33 M33 D33 hv33=>?_)
  obtain⟨a33,v33,D33,hR33,rfl,⟨A33,c33,B33,d33,rfl,rfl⟩,rfl⟩:=hv33
  refine zA (zF 0 (M':=HA.blk _ [_,_,_,_,_] _::_) Z Z Z Z cY Z Z Z ?_)
  refine oK 1 [6] Z Z ?_
  have e:dX Rl (cM key) t a0 a33 v33:=by simp [dX, *]
  exact yZ 0 Tryz.results54 Z Z cP ⟨a33,v33,_,e,rfl,⟨_,_,_,_,rfl,rfl⟩,rfl⟩ aY (dC 0 1 Z Z)
 refine rR 8 Z (vA Z (fun h34=>?_) (fun h34=>?_))
 ·refine rS 6 Z (r9 (HE.perm (.cons _ (List.Perm.swap _ _ _))) ?_)
  refine zA ?_
  refine fD (pre:=[_]) Z Z Z (JU hOk t f fst cap hkl hil (fun own ho hk5=>hf own bw) b4 b5 _ _ _ _ a0 (hOk _ _ h0)) Z (dC 2 3 Z Z) (fun u38 M38 D38 hv38=>?_)
  obtain⟨a38,v38,D38,hR38,rfl,⟨A38,c38,B38,d38,rfl,rfl⟩,rfl⟩:=hv38
  refine zA (zF 0 (M':=HA.blk _ [_,_,_,_,_] _::_) Z Z Z Z cY Z Z Z ?_)
  refine oK 1 [6] Z Z ?_
  have e:dX Rl (cM key) t a0 a38 v38:=by simp [dX, *]
  exact yZ 0 Tryz.results54 Z Z cP ⟨a38,v38,_,e,rfl,⟨_,_,_,_,rfl,rfl⟩,rfl⟩ aY (dC 0 1 Z Z)
 refine rR 6 Z (zN Z (fun h34_1=>?_) (fun h34_1=>?_))
 ·refine rS 4 Z (r9 (HE.perm (.cons _ (List.Perm.swap _ _ _))) ?_)
  refine zA ?_
  refine fD (pre:=[_]) Z Z Z (JU hOk t f fst cap hkl hil (fun own ho hk5=>hf own bw) b4 b5 _ _ _ _ a0 (hOk _ _ h0)) Z (dC 2 3 Z Z) (fun u38 M38 D38 hv38=>?_)
  obtain⟨a38,v38,D38,hR38,rfl,⟨A38,c38,B38,d38,rfl,rfl⟩,rfl⟩:=hv38
  refine zA (zF 0 (M':=HA.blk _ [_,_,_,_,_] _::_) Z Z Z Z cY Z Z Z ?_)
  refine oK 1 [6] Z Z ?_
  have e:dX Rl (cM key) t a0 a38 v38:=by simp [dX, *]
  exact yZ 0 Tryz.results54 Z Z cP ⟨a38,v38,_,e,rfl,⟨_,_,_,_,rfl,rfl⟩,rfl⟩ aY (dC 0 1 Z Z)
 refine rO 5 Z (zJ 2 Z cP Z Z ?_)
 refine zA (zF 0 (M':=HA.blk _ [_,_,_,_,_] _::_) Z Z Z Z cY Z Z Z ?_)
 refine oK 1 [6] Z Z ?_
 have e:dX Rl (cM key) t a0 a0 t:=by simp [dX, *]
 exact yZ 0 Tryz.results54 Z Z cP ⟨a0,t,_,e,rfl,⟨_,_,_,_,rfl,rfl⟩,rfl⟩ aY (dC 2 3 Z Z)
abbrev KS:=Option Addr×Nat×List Value×List V
def XK(b:Nat)(a:KS):List HA:=[.blk b [.slice a.1 a.2.2.2.length a.2.1] 23, .row a.1 a.2.2.2.length a.2.1 25 5 a.2.2.1]
def DK(a:KS):DA:= .its a.2.2.1 a.2.2.2
def Mg(k:Nat)(a:KS):Prop:=a.2.2.2.length+k≤1000000
def Mh(own:V)(a a':KS)(v:V):Prop:=a'.2.2.2=a.2.2.2++[own]∧v=own
theorem Pr(k:Nat)(a:KS)(h:Mg (k+1) a):Mg k a:=by unfold Mg at*;omega
theorem Lp{a0 a:KS}{l l':List V}(h:FoldR Mh a0 l a l'):a.2.2.2=a0.2.2.2++l.filter (fun x=>decide (x.kind=5)):=by
  induction h with
  |nil=>simp
  |pos h hk hr ih=>rw [hr.1,ih,List.filter_append];simp [hk]
  |neg h hk ih=>rw [ih,List.filter_append];simp [hk]
theorem Lq{sh:Int}{t:V}{a a':KS}{v:V}(h:dX Mh sh t a a' v):a'.2.2.2=a.2.2.2++kidsOf sh t:=by
 have al:Bq Mh t a a' v→a'.2.2.2=a.2.2.2++t.items.filter (fun x=>decide (x.kind=5)):=fun⟨ts,h,_⟩=>Lp h
 unfold dX at h
 unfold kidsOf
 split at h
 ·rename_i h5;rw [if_pos h5];exact h.1
 rename_i h5;rw [if_neg h5]
 split at h
 ·rename_i h6
  rw [if_pos h6]
  split at h
  ·rename_i hk;rw [if_pos hk];exact h.1
  ·rename_i hk;rw [if_neg hk,h.1];simp
 rename_i h6;rw [if_neg h6]
 split at h
 ·rename_i h7
  rw [if_pos h7]
  split at h
  ·rename_i hk;rw [if_pos hk];exact h.1
  ·rename_i hk;rw [if_neg hk];exact al h
 rename_i h7;rw [if_neg h7]
 split at h
 ·rename_i h9;rw [if_pos h9];exact al h
 ·rename_i h9;rw [if_neg h9,h.1];simp
theorem N4(b3:Nat)(own:V):FZ (XK b3) DK Mg Mh 112 #[] #[cW b3] own:=by
 intro k a x hO
 obtain⟨A,ca,xs,out⟩:=a
 have hO:out.length+(k+1)≤1000000:=hO
 change Ct Tryz.prog 112 #[x,cW b3] [.blk b3 [.slice A out.length ca] 23, .row A out.length ca 25 5 xs] [.val x own, .its xs out] _
 refine Ct.of_run (args:=[x,cW b3]) Tryz.func112 aF Z Tryz.ntmps112 Z (fun c=>?_)
 refine yP 0 Z (fun A1 c1 A2 c2 hx hsz hk1 hk2 hi1 hi2=>?_)
 subst hx
 refine rO 3 Z (yK Z Z Z (fun b2=>?_))
 refine zA (zS cx Z (fun b3=>?_))
 change cL _ _ _ _ _ _ _ _ (HA.blk _ [_,_,_,_,_] _::_) _
 refine oR 2 Z (yO yE ?_)
 refine tM 0 Z cK (yR 2 dJ Z Z Z) (tM 1 Z cK (vG 1 Z cP Z) ?_)
 refine tM 2 Z cK (fj cg Z) (zL 3 aD ?_)
 refine zO (I2:=[[2,1,0]]) Z cK aD (fun Kd hKd=>?_)
 refine zM cg Z Z Z Z Z (fun b7=>?_)
 refine hKd _ _ _ (uL aY sQ (zP)) (zL 4 aD ?_)
 refine zO (I2:=[[]]) Z cK aD (fun Kd hKd=>?_)
 refine cf 4 0 cg (fun A8 c8=>?_)
 refine hKd _ _ _ (zD (zP)) (uS (zB 4 Z (zQ _)) ?_)
 refine wD (zB 4 Z (zQ _)) 5 (yN _ _ _ _) Z cK aD aD aD Z (ny 0 cg Z Z Z aC) (tX (rs:=[6,7]) aD aJ ?_)
 intro j hj
 simp only [List.mem_cons,List.not_mem_nil,or_false]at hj
 rcases hj with rfl|rfl
 ·refine zO (I2:=[[],[]]) Z cK aD (fun Kd hKd=>?_)
  refine fX 4 Z Z Z Z Z Z cY Z (hKd _ _ _ (zD (zD (zP))) ?_)
  refine zL 7 aD ?_
  refine zO (I2:=[[],[]]) Z cK aD (fun Kd hKd=>?_)
  refine zF 3 (M':=[_,_,_,HA.blk _ [_] _,_]) Z Z Z Z ei Z Z Z (hKd _ _ _ (zD (zD (zP))) ?_)
  refine yG aD (rO 3 Z ?_)
  refine zJ 2 Z cP Z Z (zA ?_)
  refine zF 1 (M':=[_,HA.blk _ [_,_,_,_,_] _,_,_,_]) Z Z Z Z cY Z Z Z (oK 1 [3] Z Z ?_)
  refine wN 3 2 Z Z Z ?_
  have e:out.length+1=(out++[own]).length:=by simp
  rw [e]
  exact yZ 1 Tryz.results112 Z Z cP ⟨(A8,c8,_,out++[own]),own,_,⟨rfl,rfl⟩,(by show(out++[own]).length+k≤_;rw [←e];omega),rfl,⟨_,_,_,_,rfl,rfl⟩,rfl⟩ aY (dC 3 0 Z Z)
 refine zO (I2:=[[5],[]]) Z cK aD (fun Kd hKd=>?_)
 refine zF 3 (M':=[_,_,_,HA.blk _ [_] _,_]) Z Z Z Z ei Z Z Z ?_
 refine hKd _ _ _ (vV (by repeat (first|exact wO _|exact zQ _|refine zB 0 Z ?_|refine zB 1 Z ?_|refine zB 2 Z ?_|refine zB 3 Z ?_|refine zB 4 Z ?_|refine zB 5 Z ?_|refine zB 6 Z ?_|refine zB 7 Z ?_|refine zB 8 Z ?_|refine tW ?_)) sQ (zD (zP))) ?_
 refine zL 6 aD ?_
 refine zO (I2:=[[],[]]) Z cK aD (fun Kd hKd=>?_)
 refine fX 4 Z Z Z Z Z Z cY Z (hKd _ _ _ (zD (zD (zP))) ?_)
 refine yG aD (rO 3 Z ?_)
 refine zJ 2 Z cP Z Z (zA ?_)
 refine zF 1 (M':=[_,HA.blk _ [_,_,_,_,_] _,_,_,_]) Z Z Z Z cY Z Z Z (oK 1 [3] Z Z ?_)
 refine wN 3 2 Z Z Z ?_
 have e:out.length+1=(out++[own]).length:=by simp
 rw [e]
 exact yZ 1 Tryz.results112 Z Z cP ⟨(A8,c8,_,out++[own]),own,_,⟨rfl,rfl⟩,(by show(out++[own]).length+k≤_;rw [←e];omega),rfl,⟨_,_,_,_,rfl,rfl⟩,rfl⟩ aY (dC 3 0 Z Z)
end Go.Jw

