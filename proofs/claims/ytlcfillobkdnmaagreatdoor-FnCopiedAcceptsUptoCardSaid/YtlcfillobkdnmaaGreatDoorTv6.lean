/- Part 6 of the proof's texts, made small by a program. -/
import Derived.Test.YtlcfillobkdnmaaGreatDoorTv5
import Derived.Laws.IdiomCopy
set_option linter.unusedVariables false
set_option linter.unusedSimpArgs false
set_option maxHeartbeats 4000000
namespace Go.Jw
open Go Go.RowKit Go.Proofs
set_option maxRecDepth 8000
theorem fQ{p:Prop}[Decidable p]:tb p=decide p:=by unfold tb;congr
theorem JX.pure{x:Option Nat}{o:Bool}{st:Int}(h:JX x o st){f:JS}{b:Bool}(hf: ∀ k,f k=some (b,k)):JQ (x.bind f) b o st:=by
  cases x with
  |none=>exact h
  |some k=>show JQ (f k) b o st;rw [hf k];exact⟨rfl,h⟩
theorem kW{α:Type}(f:α→JS)(l:List α):cx f l none=none:=by
  induction l with
  |nil=>rfl
  |cons a l ih=>exact ih
theorem jx{α:Type}(f:α→JS)(l:List α)(x:Option Nat):x.bind (fun k=>cx f l (some (true,k)))=cx f l (x.map fun k=>(true,k)):=by
  cases x with
  |none=>exact(kW f l).symm
  |some k=>rfl
theorem AZ{α:Type}{f:JS}{g:Bool→α→α}{σ:Option (α×Nat)}{q:α×Nat}(hf:iL f)(h:eo f g σ=some q): ∃q0,σ=some q0∧q.2≤q0.2:=by
  cases σ with
  |none=>cases h
  |some q0=>
    refine⟨q0,rfl,?_⟩
    have h:(f q0.2).map (fun r=>(g r.1 q0.1,r.2))=some q:=h
    cases hf0:f q0.2 with
    |none=>rw [hf0]at h;cases h
    |some r=>
      rw [hf0]at h
      have:=hf _ _ hf0
      injection h with h
      subst h
      exact this
theorem l0{α:Type}{f:α→JS}(hf: ∀ a,iL (f a))(l:List α): ∀ {σ:Option (Bool×Nat)} {q:Bool×Nat},cx f l σ=some q→ ∃q0,σ=some q0∧q.2≤q0.2:=by
  induction l with
  |nil=>intro σ q h;exact⟨q,h,Nat.le_refl _⟩
  |cons a l ih=>
    intro σ q h
    obtain⟨q1,h1,h2⟩:=ih (σ:=sd (f a) σ) h
    obtain⟨q0,h3,h4⟩:=AZ (hf a) h1
    exact⟨q0,h3,Nat.le_trans h2 h4⟩
theorem Aa{α:Type}{f:α→JS}(hf: ∀ a,iL (f a))(l:List α): ∀ {σ:Option (Nat×Nat)} {q:Nat×Nat},dh f l σ=some q→ ∃q0,σ=some q0∧q.2≤q0.2:=by
  induction l with
  |nil=>intro σ q h;exact⟨q,h,Nat.le_refl _⟩
  |cons a l ih=>
    intro σ q h
    obtain⟨q1,h1,h2⟩:=ih (σ:=eo (f a) (fun b n=>if b=true then n+1 else n) σ) h
    obtain⟨q0,h3,h4⟩:=AZ (hf a) h1
    exact⟨q0,h3,Nat.le_trans h2 h4⟩
theorem LC{α:Type}{x:Option Nat}{N:Nat}{σ:Option (α×Nat)}{a:α}(hN: ∀ k,x=some k→k<N)(h: ∀ q,σ=some q→ ∃q0,(x.map fun k=>(a,k))=some q0∧q.2≤q0.2): ∀ k,σ.map (·.2)=some k→k<N:=by
  intro k hk
  cases σ with
  |none=>cases hk
  |some q=>
    injection hk with hk
    obtain⟨q0,h1,h2⟩:=h q rfl
    cases x with
    |none=>cases h1
    |some k0=>
      injection h1 with h1
      subst h1
      have:=hN k0 rfl
      have h2:q.2≤k0:=h2
      have hk:q.2=k:=hk
      omega
theorem pg{α:Type}{f:α→JS}(hf: ∀ a,iL (f a)){l:List α}{x:Option Nat}{N:Nat}(hN: ∀ k,x=some k→k<N): ∀ k,(cx f l (x.map fun k=>(true,k))).map (·.2)=some k→k<N:=
 LC hN fun q h=>l0 hf l h
theorem FA{α:Type}{f:α→JS}(hf: ∀ a,iL (f a)){l:List α}{x:Option Nat}{N:Nat}(hN: ∀ k,x=some k→k<N): ∀ k,(dh f l (x.map fun k=>(0,k))).map (·.2)=some k→k<N:=
 LC hN fun q h=>Aa hf l h
theorem rH(b:Bool):iL (fun k=>some (b,k)):=fun k r h=>by injection h with h;subst h;exact Nat.le_refl _
theorem nU{A:V→V→JS}(hA: ∀ s v,iL (A s v))(own v:V):iL (dI A own v):=by
 unfold dI
 split
 ·exact rH _
 ·exact hA own v
theorem vB{α:Type}{f:α→JS}{l:List α}{i:Nat}{a:α}{σ:Option (Bool×Nat)}{g b o o':Bool}{st st':Int}(ha:l[i]? =some a)(h:JQ (cx f (l.take i) σ) g o st)(h':JQ (((cx f (l.take i) σ).map (·.2)).bind (f a)) b o' st'):JQ (cx f (l.take (i+1)) σ) (b && g) o' st':=by
 rw [CK f l σ ha]
 exact JQ.step (fun b a=>b && a) h h'
theorem pT{α:Type}{f:α→JS}{l:List α}{i:Nat}{a:α}{σ:Option (Nat×Nat)}{m:Nat}{b o o':Bool}{st st':Int}(ha:l[i]? =some a)(h:JQ (dh f (l.take i) σ) m o st)(h':JQ (((dh f (l.take i) σ).map (·.2)).bind (f a)) b o' st'):JQ (dh f (l.take (i+1)) σ) (if b=true then m+1 else m) o' st':=by
 rw [CL f l σ ha]
 exact JQ.step (fun b n=>if b=true then n+1 else n) h h'
def Ab(l:List V)(i:Nat):Prop:= ∀ (a b:Nat) (z:V),b<a→a<i→l[a]? =some z→l[b]? ≠some z
theorem yy{l:List V}{i:Nat}(h:Ab l i)(h2: ∀ (b:Nat) (z:V),b<i→l[i]? =some z→l[b]? ≠some z):Ab l (i+1):=fun a b z h3 h4 h5=>by
  rcases Nat.lt_or_ge a i with h6|h6
  · exact h a b z h3 h6 h5
  · obtain rfl:a=i:=by omega
    exact h2 b z h3 h5
theorem JF{own v:V}(h:own.num=1→Ab v.items v.items.length):K5 own v=true:=
 df fun⟨h1,i,j,a,h2,h3,h4⟩=>h h1 i j a h2 (List.getElem?_eq_some_iff.1 h3).1 h3 h4
theorem OC{own v:V}{i j:Nat}(h1:own.num=1)(h2:j<i)(hi:i<v.items.length)(hj:j<v.items.length)(h:v.items[i]=v.items[j]):K5 own v=false:=
 tb_f fun e=>e ⟨h1,i,j,_,h2,List.getElem?_eq_getElem hi,by rw [h];exact List.getElem?_eq_getElem hj⟩
def wt(own v:V):List (V×V):=if own.kind=4 then own.items.zip v.items else v.items.map fun x=>(own,x)
theorem JG{own v:V}{i:Nat}(h:own.kind=4)(h1:i<own.items.length)(h2:i<v.items.length):(wt own v)[i]? =some (own.items[i],v.items[i]):=by
 unfold wt
 rw [if_pos h,List.getElem?_zip_eq_some]
 exact⟨List.getElem?_eq_getElem h1,List.getElem?_eq_getElem h2⟩
theorem JH{own v:V}{i:Nat}(h: ¬ own.kind=4)(h2:i<v.items.length):(wt own v)[i]? =some (own,v.items[i]):=by
 unfold wt
 rw [if_neg h,List.getElem?_map,List.getElem?_eq_getElem h2]
 rfl
theorem Ac{own v:V}{i:Nat}(h:v.items.length≤i∨(own.kind=4∧own.items.length≤i)):(wt own v).take i=wt own v:=by
 refine List.take_of_length_le ?_
 unfold wt
 split
 ·rw [List.length_zip]
  rcases h with h|h<;>omega
 ·rename_i hk
  rw [List.length_map]
  rcases h with h|h
  ·exact h
  ·exact absurd h.1 hk
theorem HX{A:V→V→JS}{s own v:V}{key:ByteArray}(h1: ¬ key=MC)(h2: ¬ key=MD)(h3: ¬ key=ME)(h:key=k15)(x:Option Nat):x.bind (gq A s key own v)=cx (fun p:V×V=>A p.1 p.2) (wt own v) (x.map fun k=>(true,k)):=by
 rw [←jx]
 congr 1
 funext k
 unfold gq wt
 rw [if_neg h1,if_neg h2,if_neg h3,if_pos h]
theorem LD{A:V→V→JS}{s own v it:V}{key:ByteArray}(hit:it=(getV s k15).getD zV)(h1: ¬ key=MC)(h2: ¬ key=MD)(h3: ¬ key=ME)(h4: ¬ key=k15)(h:key=k14)(hk:it.kind=4)(x:Option Nat):x.bind (gq A s key own v)=cx (fun y=>dI A own y) (v.items.drop it.items.length) (x.map fun k=>(true,k)):=by
 rw [←jx]
 congr 1
 funext k
 unfold gq
 rw [if_neg h1,if_neg h2,if_neg h3,if_neg h4,if_pos h,←hit,if_neg (fun e=>e hk)]
theorem QP(jb:Nat)(w:V)(Ar Br:Option Addr)(cr dr:Nat)(N:Nat)(A:V→V→JS)(hA:JA jb w Ar Br cr dr N A)(o:Bool)(st:Int)(s own v:V)(xs xo xv:Value)(key:ByteArray)(hs:Pl s)(ho:Pl own)(hv:Pl v)(x:Option Nat)(hx:JX x o st)(hN: ∀ k,x=some k→k<N):Ct Tryz.prog 194 #[ptr jb,xs, .string key,xo,xv] [.blk jb [.int .i64 w.kind, .int .i64 w.num, .string w.text, .slice Ar w.keys.length cr, .slice Br w.items.length dr, .bool o, .int .i64 st] 131] [.val xs s, .val xo own, .val xv v, .val (.agg #[.int .i64 w.kind, .int .i64 w.num, .string w.text, .slice Ar w.keys.length cr, .slice Br w.items.length dr]) w] (JR jb w Ar Br cr dr (x.bind (gq A s key own v))):=by
 refine Ct.of_run (args:=[ptr jb,xs, .string key,xo,xv]) Tryz.func194 aF Z Tryz.ntmps194 Z (fun c=>?_)
 refine yN 0 Z (fun A1 c1 B1 d1 hx1 hsz1 hk1 hl1 hi1 hj1=>?_)
 subst hx1
 refine yN 3 Z (fun A2 c2 B2 d2 hx2 hsz2 hk2 hl2 hi2 hj2=>?_)
 subst hx2
 refine yN 6 Z (fun A3 c3 B3 d3 hx3 hsz3 hk3 hl3 hi3 hj3=>?_)
 subst hx3
 have hln:=hv.len
 have hol:=ho.len
 have hsle:=hs.wf.le
 have hvle:=hv.wf.le
 have hole:=ho.wf.le
 unfold JR
 refine rO 3 Z (yK Z Z Z (fun b6=>?_))
 refine zA (yK Z Z Z (fun b8=>?_))
 refine zA (yK Z Z Z (fun b9=>?_))
 refine oO 6 Z (zC yX Z Z ?_)
 refine zA (zF 0 c7 Z Z Z Z ?_)
 refine zA (zX cX Z Z ?_)
 refine oK 17 [25,24,11,9,8,6,0] Z Z (zI Z (fun h25=>?_) (fun h25=>?_))
 ·refine rO 5 Z (zC wZ Z Z ?_)
  refine zA (zF 1 dx Z Z Z Z ?_)
  refine zA (sE Z Z Z ?_)
  refine oK 3 [10] Z Z ?_
  refine yD (M':=[HA.blk jb [_,_,_,_,_,_,_] 131]) (by repeat (first|exact zQ _|refine zB 0 Z ?_|refine zB 1 Z ?_|refine zB 2 Z ?_|refine zB 3 Z ?_|refine zB 4 Z ?_|refine zB 5 Z ?_|refine zB 6 Z ?_|refine zB 7 Z ?_|refine zB 8 Z ?_)) ?_
  exact zD Tryz.results194 Z ⟨_,_,_,rfl,rfl,rfl,hx.pure fun k=>by unfold gq;rw [if_pos h25,fQ]⟩ (List.Sublist.refl _) (fun _ h=>by cases h)
 refine rR 7 Z (zI Z (fun h31=>?_) (fun h31=>?_))
 ·refine rO 5 Z (zC wZ Z Z ?_)
  refine zA (zF 1 dx Z Z Z Z ?_)
  refine zA (uA Z Z Z ?_)
  refine oK 3 [10] Z Z ?_
  refine yD (M':=[HA.blk jb [_,_,_,_,_,_,_] 131]) (by repeat (first|exact zQ _|refine zB 0 Z ?_|refine zB 1 Z ?_|refine zB 2 Z ?_|refine zB 3 Z ?_|refine zB 4 Z ?_|refine zB 5 Z ?_|refine zB 6 Z ?_|refine zB 7 Z ?_|refine zB 8 Z ?_)) ?_
  exact zD Tryz.results194 Z ⟨_,_,_,rfl,rfl,rfl,hx.pure fun k=>by unfold gq;rw [if_neg h25,if_pos h31,fQ]⟩ (List.Sublist.refl _) (fun _ h=>by cases h)
 refine rR 7 Z (zI Z (fun h37=>?_) (fun h37=>?_))
 ·refine rK 6 [12,11,9,8] Z Z (yB 1 (fun(⟨i,u⟩:Nat×Unit)=>i≤v.items.length∧(own.num=1→Ab v.items i)) (fun(⟨i,u⟩:Nat×Unit)=>[(12, .int .i64 ((i:Nat):Int))]) (fun(⟨i,u⟩:Nat×Unit)=>HA.blk b9 [.int .i64 v.kind, .int .i64 v.num, .string v.text, .slice A3 v.keys.length c3, .slice B3 v.items.length d3] 25::HA.blk b8 [.int .i64 own.kind, .int .i64 own.num, .string own.text, .slice A2 own.keys.length c2, .slice B2 own.items.length d2] 25::HA.blk b6 [.int .i64 s.kind, .int .i64 s.num, .string s.text, .slice A1 s.keys.length c1, .slice B1 s.items.length d1] 25::HA.blk jb [.int .i64 w.kind, .int .i64 w.num, .string w.text, .slice Ar w.keys.length cr, .slice Br w.items.length dr, .bool o, .int .i64 st] 131::[]) (fun(⟨i,u⟩:Nat×Unit)=> .strs (.slice A3 v.keys.length c3) v.keys:: .vals (.slice B3 v.items.length d3) v.items:: .strs (.slice A2 own.keys.length c2) own.keys:: .vals (.slice B2 own.items.length d2) own.items:: .strs (.slice A1 s.keys.length c1) s.keys:: .vals (.slice B1 s.items.length d1) s.items:: .val (.agg #[.int .i64 s.kind, .int .i64 s.num, .string s.text, .slice A1 s.keys.length c1, .slice B1 s.items.length d1]) s:: .val (.agg #[.int .i64 own.kind, .int .i64 own.num, .string own.text, .slice A2 own.keys.length c2, .slice B2 own.items.length d2]) own:: .val (.agg #[.int .i64 v.kind, .int .i64 v.num, .string v.text, .slice A3 v.keys.length c3, .slice B3 v.items.length d3]) v:: .val (.agg #[.int .i64 w.kind, .int .i64 w.num, .string w.text, .slice Ar w.keys.length cr, .slice Br w.items.length dr]) w::[]) (fun(⟨i,u⟩:Nat×Unit)=>v.items.length - i) (0,()) (⟨Nat.zero_le _,fun _ a b z _ hb=>absurd hb (Nat.not_lt_zero _)⟩) (eC Z (eN _)) Z Z ?_ (eC Z (eC Z (eC Z (eN _)))))
  intro ⟨i,u⟩ hI K hK
  change Run _ _ _ _ _ [(12,_),(11,_),(9,_),(8,_)] [_,_,_,_] [_,_,_,_,_,_,_,_,_,_]
  obtain⟨hi,hno⟩:=hI
  refine rO 4 Z (zC wZ Z Z ?_)
  refine zA (zF 1 dx Z Z Z Z ?_)
  refine oS 4 Z (zW (s:=42) Z (fun h42=>?_) (fun h42=>?_))
  ·refine oO 5 Z (yL Z Z Z ?_)
   refine oR 3 Z (yC Z (fun h46=>?_) (fun h46=>?_))
   ·have h46:=of_decide_eq_true h46
    refine rK 9 [13,12,11,9,8] Z Z (yB 1 (fun(⟨k,u⟩:Nat×Unit)=>k≤i∧ ∀ (b:Nat) (z:V),b<k→v.items[i]? =some z→v.items[b]? ≠some z) (fun(⟨k,u⟩:Nat×Unit)=>[(13, .int .i64 ((k:Nat):Int))]) (fun(⟨k,u⟩:Nat×Unit)=>HA.blk b9 [.int .i64 v.kind, .int .i64 v.num, .string v.text, .slice A3 v.keys.length c3, .slice B3 v.items.length d3] 25::HA.blk b8 [.int .i64 own.kind, .int .i64 own.num, .string own.text, .slice A2 own.keys.length c2, .slice B2 own.items.length d2] 25::HA.blk b6 [.int .i64 s.kind, .int .i64 s.num, .string s.text, .slice A1 s.keys.length c1, .slice B1 s.items.length d1] 25::HA.blk jb [.int .i64 w.kind, .int .i64 w.num, .string w.text, .slice Ar w.keys.length cr, .slice Br w.items.length dr, .bool o, .int .i64 st] 131::[]) (fun(⟨k,u⟩:Nat×Unit)=> .strs (.slice A3 v.keys.length c3) v.keys:: .vals (.slice B3 v.items.length d3) v.items:: .strs (.slice A2 own.keys.length c2) own.keys:: .vals (.slice B2 own.items.length d2) own.items:: .strs (.slice A1 s.keys.length c1) s.keys:: .vals (.slice B1 s.items.length d1) s.items:: .val (.agg #[.int .i64 s.kind, .int .i64 s.num, .string s.text, .slice A1 s.keys.length c1, .slice B1 s.items.length d1]) s:: .val (.agg #[.int .i64 own.kind, .int .i64 own.num, .string own.text, .slice A2 own.keys.length c2, .slice B2 own.items.length d2]) own:: .val (.agg #[.int .i64 v.kind, .int .i64 v.num, .string v.text, .slice A3 v.keys.length c3, .slice B3 v.items.length d3]) v:: .val (.agg #[.int .i64 w.kind, .int .i64 w.num, .string w.text, .slice Ar w.keys.length cr, .slice Br w.items.length dr]) w::[]) (fun(⟨k,u⟩:Nat×Unit)=>i - k) (0,()) (⟨Nat.zero_le _,fun b z hb=>absurd hb (Nat.not_lt_zero _)⟩) (eC Z (eN _)) Z Z ?_ (eC Z (eC Z (eC Z (eC Z (eN _))))))
    intro ⟨k,u⟩ hI K hK1
    change Run _ _ _ _ _ [(13,_),(12,_),(11,_),(9,_),(8,_)] [_,_,_,_] [_,_,_,_,_,_,_,_,_,_]
    obtain⟨hk,hnk⟩:=hI
    refine rO 8 Z (yL Z Z Z ?_)
    refine yO (zI Z (fun h51=>?_) (fun h51=>?_))
    ·refine rR 4 Z (yW yM ?_)
     refine zO (tP 0 Z cF (zZ yX Z) ?_)
     refine tP 2 Z cF (zP Z) (tP 5 Z cF (zZ yX Z) ?_)
     refine tP 7 Z cF (zP Z) (yF ?_)
     refine tM 1 Z cF (yT 0 c7 Z Z Z) (tM 3 Z cF (wJ 1 cX Z Z Z h46) ?_)
     refine uZ 1 Z (List.getElem?_eq_getElem h46) (fun A58 m58 B58 d58=>?_)
     refine yF (tM 4 Z cF (vN 0 Z cM Z Z) ?_)
     refine tM 6 Z cF (yT 0 c7 Z Z Z) (tM 8 Z cF (wJ 3 cX Z Z Z (show k<v.items.length by omega)) ?_)
     refine uZ 3 Z (List.getElem?_eq_getElem (show k<v.items.length by omega)) (fun A63 m63 B63 d63=>?_)
     refine yF (tM 9 Z cF (vN 0 Z cM Z Z) ?_)
     refine zS 10 aD ?_
     refine zT (I2:=[[],[],[],[],[]]) Z cF aD (fun Kd hKd=>?_)
     refine zL Z Z Z (c25 _ _ _ _) aB (hKd _ _ _ (zE (zE (zE (zE (zE (zU)))))) ?_)
     refine yJ aD (rK 0 [64,13,12,11,9,8] Z Z ?_)
     refine yC Z (fun h64=>?_) (fun h64=>?_)
     ·refine rR 5 Z ?_
      refine yD (M':=[HA.blk jb [_,_,_,_,_,_,_] 131]) (by repeat (first|exact zQ _|refine zB 0 Z ?_|refine zB 1 Z ?_|refine zB 2 Z ?_|refine zB 3 Z ?_|refine zB 4 Z ?_|refine zB 5 Z ?_|refine zB 6 Z ?_|refine zB 7 Z ?_|refine zB 8 Z ?_)) ?_
      exact zD Tryz.results194 Z ⟨_,_,_,rfl,rfl,rfl,hx.pure fun k=>by unfold gq;rw [if_neg h25,if_neg h31,if_pos h37,OC h42 h51 h46 aC (yS.1 h64)]⟩ (List.Sublist.refl _) (fun _ h=>by cases h)
     refine rO 6 Z (zN Z Z aC ?_)
     refine oR 3 Z ?_
     exact kQ (hK1 (k+1,()) (⟨by show k+1≤_;omega,fun b z hb he hz=>(Nat.lt_or_ge b k).elim (fun hlt=>hnk b z hlt he hz) (fun hge=>by obtain rfl:b=k:=Nat.le_antisymm (Nat.le_of_lt_succ hb) hge;rw [List.getElem?_eq_getElem h46]at he;rw [List.getElem?_eq_getElem aC]at hz;exact xH.1 (by simpa using h64) (Option.some.inj (he.trans hz.symm)))⟩) (by show i - (k+1)<i - k;omega)) (eC Z (eC Z (eC Z (eC Z (eC Z (eN _))))))
    refine rO 6 Z (zN Z Z aC ?_)
    refine oR 3 Z ?_
    exact kQ (hK (i+1,()) (⟨by show i+1≤_;omega,fun e=>yy (hno e) (fun b z hb he=>hnk b z aC he)⟩) ar) (eC Z (eC Z (eC Z (eC Z (eN _)))))
   have h46:=of_decide_eq_false h46
   refine rK 7 [10] Z Z ?_
   refine yD (M':=[HA.blk jb [_,_,_,_,_,_,_] 131]) (by repeat (first|exact zQ _|refine zB 0 Z ?_|refine zB 1 Z ?_|refine zB 2 Z ?_|refine zB 3 Z ?_|refine zB 4 Z ?_|refine zB 5 Z ?_|refine zB 6 Z ?_|refine zB 7 Z ?_|refine zB 8 Z ?_)) ?_
   exact zD Tryz.results194 Z ⟨_,_,_,rfl,rfl,rfl,hx.pure fun k=>by unfold gq;rw [if_neg h25,if_neg h31,if_pos h37,JF (fun e=>by have:=hno e;rwa [show i=v.items.length by omega]at this)]⟩ (List.Sublist.refl _) (fun _ h=>by cases h)
  refine oK 14 [10] Z Z ?_
  refine yD (M':=[HA.blk jb [_,_,_,_,_,_,_] 131]) (by repeat (first|exact zQ _|refine zB 0 Z ?_|refine zB 1 Z ?_|refine zB 2 Z ?_|refine zB 3 Z ?_|refine zB 4 Z ?_|refine zB 5 Z ?_|refine zB 6 Z ?_|refine zB 7 Z ?_|refine zB 8 Z ?_)) ?_
  exact zD Tryz.results194 Z ⟨_,_,_,rfl,rfl,rfl,hx.pure fun k=>by unfold gq;rw [if_neg h25,if_neg h31,if_pos h37,JF (fun e=>absurd e h42)]⟩ (List.Sublist.refl _) (fun _ h=>by cases h)
 refine rR 7 Z (zI Z (fun h65=>?_) (fun h65=>?_))
 ·refine rK 5 [14,11,9,8,0] Z Z (rK 7 [15,14,11,9,8,0] Z Z ?_)
  refine yB 2 (fun(⟨i,g,o3,st3⟩:Nat×Bool×Bool×Int)=>i≤v.items.length∧(own.kind=4→i≤own.items.length)∧JQ (cx (fun p:V×V=>A p.1 p.2) ((wt own v).take i) (x.map fun k=>(true,k))) g o3 st3) (fun(⟨i,g,o3,st3⟩:Nat×Bool×Bool×Int)=>[(15, .int .i64 ((i:Nat):Int)),(14, .bool g)]) (fun(⟨i,g,o3,st3⟩:Nat×Bool×Bool×Int)=>HA.blk b9 [.int .i64 v.kind, .int .i64 v.num, .string v.text, .slice A3 v.keys.length c3, .slice B3 v.items.length d3] 25::HA.blk b8 [.int .i64 own.kind, .int .i64 own.num, .string own.text, .slice A2 own.keys.length c2, .slice B2 own.items.length d2] 25::HA.blk b6 [.int .i64 s.kind, .int .i64 s.num, .string s.text, .slice A1 s.keys.length c1, .slice B1 s.items.length d1] 25::HA.blk jb [.int .i64 w.kind, .int .i64 w.num, .string w.text, .slice Ar w.keys.length cr, .slice Br w.items.length dr, .bool o3, .int .i64 st3] 131::[]) (fun(⟨i,g,o3,st3⟩:Nat×Bool×Bool×Int)=> .strs (.slice A3 v.keys.length c3) v.keys:: .vals (.slice B3 v.items.length d3) v.items:: .strs (.slice A2 own.keys.length c2) own.keys:: .vals (.slice B2 own.items.length d2) own.items:: .strs (.slice A1 s.keys.length c1) s.keys:: .vals (.slice B1 s.items.length d1) s.items:: .val (.agg #[.int .i64 s.kind, .int .i64 s.num, .string s.text, .slice A1 s.keys.length c1, .slice B1 s.items.length d1]) s:: .val (.agg #[.int .i64 own.kind, .int .i64 own.num, .string own.text, .slice A2 own.keys.length c2, .slice B2 own.items.length d2]) own:: .val (.agg #[.int .i64 v.kind, .int .i64 v.num, .string v.text, .slice A3 v.keys.length c3, .slice B3 v.items.length d3]) v:: .val (.agg #[.int .i64 w.kind, .int .i64 w.num, .string w.text, .slice Ar w.keys.length cr, .slice Br w.items.length dr]) w::[]) (fun(⟨i,g,o3,st3⟩:Nat×Bool×Bool×Int)=>v.items.length - i) (0,true,o,st) (⟨Nat.zero_le _,fun _=>Nat.zero_le _,JQ.of hx true⟩) (eC Z (eC Z (eN _))) Z Z ?_ (eC Z (eC Z (eC Z (eC Z (eN _)))))
  intro ⟨i,g,o3,st3⟩ hI K hK2
  change Run _ _ _ _ _ [(15,_),(14,_),(11,_),(9,_),(8,_),(0,_)] [_,_,_,_] [_,_,_,_,_,_,_,_,_,_]
  obtain⟨hi,hik,hq⟩:=hI
  refine rO 8 Z (yL Z Z Z ?_)
  refine yO (zI Z (fun h69=>?_) (fun h69=>?_))
  ·refine rO 6 Z (zK 1 Z cM Z Z ?_)
   refine zA (yA dE Z (fun b16=>?_))
   change cG _ _ _ _ _ _ _ _ (HA.blk _ [_,_,_,_,_] _::_) _
   refine zA (zG 0 (M':=[HA.blk _ [_,_,_,_,_] _,_,_,_,_]) Z Z Z Z co Z Z Z ?_)
   refine oO 5 Z (zC wC Z Z ?_)
   refine zA (zF 2 dx Z Z Z Z ?_)
   refine oR 3 Z (yC Z (fun h75=>?_) (fun h75=>?_))
   ·have h75:=of_decide_eq_true h75
    refine rO 6 Z (zC yX Z Z ?_)
    refine zA (zF 2 c7 Z Z Z Z ?_)
    refine zA (zX cX Z Z ?_)
    refine zA (uA Z Z Z ?_)
    refine oK 1 [80,16,15,14,11,9,8,0] Z Z (yC Z (fun h80=>?_) (fun h80=>?_))
    ·have h80:=of_decide_eq_true h80
     refine rK 8 [10] Z Z ?_
     refine yD (M':=[HA.blk jb [_,_,_,_,_,_,_] 131]) (by repeat (first|exact zQ _|refine zB 0 Z ?_|refine zB 1 Z ?_|refine zB 2 Z ?_|refine zB 3 Z ?_|refine zB 4 Z ?_|refine zB 5 Z ?_|refine zB 6 Z ?_|refine zB 7 Z ?_|refine zB 8 Z ?_)) ?_
     exact zD Tryz.results194 Z ⟨_,_,_,rfl,rfl,rfl,by rw [HX h25 h31 h37 h65];have:=hq;rw [Ac (by first|exact .inl aC|exact .inr ⟨h75,aC⟩)]at this;exact this⟩ (List.Sublist.refl _) (fun _ h=>by cases h)
    have h80:=of_decide_eq_false h80
    refine rO 3 Z (zC yX Z Z ?_)
    refine zA (zF 2 c7 Z Z Z Z ?_)
    refine oO 3 Z (xC 3 cX Z Z Z Z (show i<own.items.length by omega) ?_)
    refine zA ?_
    refine xB 3 cM Z Z Z (List.getElem?_eq_getElem (show i<own.items.length by omega)) (fun A85 c85 B85 d85=>?_)
    refine zA (zG 0 (M':=[HA.blk _ [_,_,_,_,_] _,_,_,_,_]) Z Z Z Z co Z Z Z ?_)
    refine yO (yW yM ?_)
    refine zO (tP 0 Z cF (zP Z) ?_)
    refine tP 2 Z cF (zZ yX Z) (tP 4 Z cF (zP Z) ?_)
    refine yF (tM 1 Z cF (vD 0 Z cM Z) ?_)
    refine tM 3 Z cF (yT 1 c7 Z Z Z) (tM 5 Z cF (wJ 2 cX Z Z Z h69) ?_)
    refine uZ 2 Z (List.getElem?_eq_getElem h69) (fun A92 m92 B92 d92=>?_)
    refine yF (tM 6 Z cF (vN 0 Z cM Z Z) ?_)
    refine zS 7 aD ?_
    refine zT (I2:=[[],[],[],[]]) Z cF aD (fun Kd hKd=>?_)
    refine yG 4 Z Z Z (hA.2 own.items[i] _ _ _ o3 st3 _ (ho.item _ (List.getElem_mem (show i<own.items.length by omega))) (hv.item _ (List.getElem_mem h69)) (JQ.x hq) (pg (fun p:V×V=>hA.1 p.1 p.2) hN)) Z aU (fun u93 M93 D93 hv93=>?_)
    obtain⟨b93,o93,st93,rfl,rfl,rfl,hq93⟩:=hv93
    refine hKd _ _ _ (zE (zE (zE (zE (zU))))) (zO ?_)
    refine tP 8 Z cF (zP Z) (vO (s:=94) Z (fun h94=>?_) (fun h94=>?_))
    ·refine tP 9 Z (ce Z Z) (zP Z) (tP 10 Z cF (wH Z Z) ?_)
     refine tP 11 Z cF (yP Z) (yJ aD ?_)
     refine rK 0 [14,15,11,9,8,0] Z Z (rO 5 Z ?_)
     refine zN Z Z aC (oR 3 Z ?_)
     exact kQ (hK2 (i+1,_,_,_) (⟨by show i+1≤_;omega,(fun _=>by show i+1≤_;omega),(by have:=vB (f:=(fun p:V×V=>A p.1 p.2)) (JG h75 aC h69) hq hq93;rw [show b93=true from h94]at this;exact this)⟩) ar) (eC Z (eC Z (eC Z (eC Z (eC Z (eC Z (eN _)))))))
    refine yF (tS 9 Z Z Z Z ?_)
    refine zO (tP 10 Z cF (wH Z Z) ?_)
    refine tP 11 Z cF (yP Z) (yJ aD ?_)
    refine rK 0 [14,15,11,9,8,0] Z Z (rO 5 Z ?_)
    refine zN Z Z aC (oR 3 Z ?_)
    exact kQ (hK2 (i+1,_,_,_) (⟨by show i+1≤_;omega,(fun _=>by show i+1≤_;omega),(by have:=vB (f:=(fun p:V×V=>A p.1 p.2)) (JG h75 aC h69) hq hq93;rw [show b93=false from h94]at this;exact this)⟩) ar) (eC Z (eC Z (eC Z (eC Z (eC Z (eC Z (eN _)))))))
   have h75:=of_decide_eq_false h75
   refine uF (yW yM ?_)
   refine zO (tP 0 Z cF (zP Z) ?_)
   refine tP 2 Z cF (zZ yX Z) (tP 4 Z cF (zP Z) ?_)
   refine yF (tM 1 Z cF (vD 0 Z cM Z) ?_)
   refine tM 3 Z cF (yT 1 c7 Z Z Z) (tM 5 Z cF (wJ 1 cX Z Z Z h69) ?_)
   refine uZ 1 Z (List.getElem?_eq_getElem h69) (fun A92 m92 B92 d92=>?_)
   refine yF (tM 6 Z cF (vN 0 Z cM Z Z) ?_)
   refine zS 7 aD ?_
   refine zT (I2:=[[],[],[],[]]) Z cF aD (fun Kd hKd=>?_)
   refine yG 4 Z Z Z (hA.2 own _ _ _ o3 st3 _ ho (hv.item _ (List.getElem_mem h69)) (JQ.x hq) (pg (fun p:V×V=>hA.1 p.1 p.2) hN)) Z aU (fun u93 M93 D93 hv93=>?_)
   obtain⟨b93,o93,st93,rfl,rfl,rfl,hq93⟩:=hv93
   refine hKd _ _ _ (zE (zE (zE (zE (zU))))) (zO ?_)
   refine tP 8 Z cF (zP Z) (vO (s:=94) Z (fun h94=>?_) (fun h94=>?_))
   ·refine tP 9 Z (ce Z Z) (zP Z) (tP 10 Z cF (wH Z Z) ?_)
    refine tP 11 Z cF (yP Z) (yJ aD ?_)
    refine rK 0 [14,15,11,9,8,0] Z Z (rO 5 Z ?_)
    refine zN Z Z aC (oR 3 Z ?_)
    exact kQ (hK2 (i+1,_,_,_) (⟨by show i+1≤_;omega,(fun e=>absurd e h75),(by have:=vB (f:=(fun p:V×V=>A p.1 p.2)) (JH h75 h69) hq hq93;rw [show b93=true from h94]at this;exact this)⟩) ar) (eC Z (eC Z (eC Z (eC Z (eC Z (eC Z (eN _)))))))
   refine yF (tS 9 Z Z Z Z ?_)
   refine zO (tP 10 Z cF (wH Z Z) ?_)
   refine tP 11 Z cF (yP Z) (yJ aD ?_)
   refine rK 0 [14,15,11,9,8,0] Z Z (rO 5 Z ?_)
   refine zN Z Z aC (oR 3 Z ?_)
   exact kQ (hK2 (i+1,_,_,_) (⟨by show i+1≤_;omega,(fun e=>absurd e h75),(by have:=vB (f:=(fun p:V×V=>A p.1 p.2)) (JH h75 h69) hq hq93;rw [show b93=false from h94]at this;exact this)⟩) ar) (eC Z (eC Z (eC Z (eC Z (eC Z (eC Z (eN _)))))))
  refine rK 8 [10] Z Z ?_
  refine yD (M':=[HA.blk jb [_,_,_,_,_,_,_] 131]) (by repeat (first|exact zQ _|refine zB 0 Z ?_|refine zB 1 Z ?_|refine zB 2 Z ?_|refine zB 3 Z ?_|refine zB 4 Z ?_|refine zB 5 Z ?_|refine zB 6 Z ?_|refine zB 7 Z ?_|refine zB 8 Z ?_)) ?_
  exact zD Tryz.results194 Z ⟨_,_,_,rfl,rfl,rfl,by rw [HX h25 h31 h37 h65];have:=hq;rw [Ac (by first|exact .inl aC|exact .inr ⟨h75,aC⟩)]at this;exact this⟩ (List.Sublist.refl _) (fun _ h=>by cases h)
 refine rK 7 [98,11,9,8,6,0] Z Z (zI Z (fun h98=>?_) (fun h98=>?_))
 ·refine rO 3 Z (zK 2 Z cM Z Z ?_)
  refine zA ?_
  refine yE Z Z Z (oE _ s k15 hsle) aA (fun u102 D102 hv102=>?_)
  obtain⟨it,hit⟩: ∃it,it=(getV s k15).getD zV:=⟨_,rfl⟩
  rw [←hit]at hv102
  obtain⟨_,rfl,A102,m102,B102,d102,rfl,rfl⟩:=hv102
  refine oO 7 Z (yA dE Z (fun b17=>?_))
  change cG _ _ _ _ _ _ _ _ (HA.blk _ [_,_,_,_,_] _::_) _
  refine zA (zG 0 (M':=[HA.blk _ [_,_,_,_,_] _,_,_,_,_]) Z Z Z Z co Z Z Z ?_)
  refine oO 7 Z (zC wC Z Z ?_)
  refine zA (zF 0 dx Z Z Z Z ?_)
  refine zA (uG Z Z Z ?_)
  refine oK 1 [107,17,11,9,8,0] Z Z (yC Z (fun h107=>?_) (fun h107=>?_))
  ·have h107:=of_decide_eq_true h107
   refine rR 5 Z ?_
   refine yD (M':=[HA.blk jb [_,_,_,_,_,_,_] 131]) (by repeat (first|exact zQ _|refine zB 0 Z ?_|refine zB 1 Z ?_|refine zB 2 Z ?_|refine zB 3 Z ?_|refine zB 4 Z ?_|refine zB 5 Z ?_|refine zB 6 Z ?_|refine zB 7 Z ?_|refine zB 8 Z ?_)) ?_
   exact zD Tryz.results194 Z ⟨_,_,_,rfl,rfl,rfl,hx.pure fun k=>by unfold gq;rw [if_neg h25,if_neg h31,if_neg h37,if_neg h65,if_pos h98,←hit,if_pos h107]⟩ (List.Sublist.refl _) (fun _ h=>by cases h)
  have h107:=of_decide_eq_false h107
  refine rO 10 Z (zC yX Z Z ?_)
  refine zA (zF 0 c7 Z Z Z Z ?_)
  refine zA (zX cX Z Z ?_)
  refine oK 4 [20,19,11,9,8,0] Z Z (tR (D':= .strs (.slice A3 v.keys.length c3) v.keys:: .vals (.slice B3 v.items.length d3) v.items:: .strs (.slice A2 own.keys.length c2) own.keys:: .vals (.slice B2 own.items.length d2) own.items:: .strs (.slice A1 s.keys.length c1) s.keys:: .vals (.slice B1 s.items.length d1) s.items:: .val (.agg #[.int .i64 s.kind, .int .i64 s.num, .string s.text, .slice A1 s.keys.length c1, .slice B1 s.items.length d1]) s:: .val (.agg #[.int .i64 own.kind, .int .i64 own.num, .string own.text, .slice A2 own.keys.length c2, .slice B2 own.items.length d2]) own:: .val (.agg #[.int .i64 v.kind, .int .i64 v.num, .string v.text, .slice A3 v.keys.length c3, .slice B3 v.items.length d3]) v:: .val (.agg #[.int .i64 w.kind, .int .i64 w.num, .string w.text, .slice Ar w.keys.length cr, .slice Br w.items.length dr]) w::[]) sQ ?_)
  refine yB 2 (fun(⟨i,g,o3,st3⟩:Nat×Bool×Bool×Int)=>it.items.length≤i∧(i≤v.items.length∨i=it.items.length)∧JQ (cx (fun y=>dI A own y) ((v.items.drop it.items.length).take (i - it.items.length)) (x.map fun k=>(true,k))) g o3 st3) (fun(⟨i,g,o3,st3⟩:Nat×Bool×Bool×Int)=>[(20, .int .i64 ((i:Nat):Int)),(19, .bool g)]) (fun(⟨i,g,o3,st3⟩:Nat×Bool×Bool×Int)=>HA.blk b17 [.int .i64 it.kind, .int .i64 it.num, .string it.text, .slice A102 it.keys.length m102, .slice B102 it.items.length d102] 25::HA.blk b9 [.int .i64 v.kind, .int .i64 v.num, .string v.text, .slice A3 v.keys.length c3, .slice B3 v.items.length d3] 25::HA.blk b8 [.int .i64 own.kind, .int .i64 own.num, .string own.text, .slice A2 own.keys.length c2, .slice B2 own.items.length d2] 25::HA.blk b6 [.int .i64 s.kind, .int .i64 s.num, .string s.text, .slice A1 s.keys.length c1, .slice B1 s.items.length d1] 25::HA.blk jb [.int .i64 w.kind, .int .i64 w.num, .string w.text, .slice Ar w.keys.length cr, .slice Br w.items.length dr, .bool o3, .int .i64 st3] 131::[]) (fun(⟨i,g,o3,st3⟩:Nat×Bool×Bool×Int)=> .strs (.slice A3 v.keys.length c3) v.keys:: .vals (.slice B3 v.items.length d3) v.items:: .strs (.slice A2 own.keys.length c2) own.keys:: .vals (.slice B2 own.items.length d2) own.items:: .strs (.slice A1 s.keys.length c1) s.keys:: .vals (.slice B1 s.items.length d1) s.items:: .val (.agg #[.int .i64 s.kind, .int .i64 s.num, .string s.text, .slice A1 s.keys.length c1, .slice B1 s.items.length d1]) s:: .val (.agg #[.int .i64 own.kind, .int .i64 own.num, .string own.text, .slice A2 own.keys.length c2, .slice B2 own.items.length d2]) own:: .val (.agg #[.int .i64 v.kind, .int .i64 v.num, .string v.text, .slice A3 v.keys.length c3, .slice B3 v.items.length d3]) v:: .val (.agg #[.int .i64 w.kind, .int .i64 w.num, .string w.text, .slice Ar w.keys.length cr, .slice Br w.items.length dr]) w::[]) (fun(⟨i,g,o3,st3⟩:Nat×Bool×Bool×Int)=>v.items.length - i) (it.items.length,true,o,st) (⟨Nat.le_refl _, .inr Z,by show JQ (cx _ (List.take (it.items.length - it.items.length) _) _) _ _ _;rw [Nat.sub_self];exact JQ.of hx true⟩) (eC Z (eC Z (eN _))) Z Z ?_ (eC Z (eC Z (eC Z (eC Z (eN _)))))
  intro ⟨i,g,o3,st3⟩ hI K hK3
  change Run _ _ _ _ _ [(20,_),(19,_),(11,_),(9,_),(8,_),(0,_)] [_,_,_,_,_] [_,_,_,_,_,_,_,_,_,_]
  obtain⟨hmi,hin,hq⟩:=hI
  refine rO 8 Z (yL Z Z Z ?_)
  refine yO (zI Z (fun h113=>?_) (fun h113=>?_))
  ·refine rR 3 Z (yW yM ?_)
   refine zO (tP 0 Z cF (zP Z) ?_)
   refine tP 2 Z cF (zZ yX Z) (tP 4 Z cF (zP Z) ?_)
   refine yF (tM 1 Z cF (vD 2 Z cM Z) ?_)
   refine tM 3 Z cF (yT 1 c7 Z Z Z) (tM 5 Z cF (wJ 1 cX Z Z Z h113) ?_)
   refine uZ 1 Z (List.getElem?_eq_getElem h113) (fun A122 m122 B122 d122=>?_)
   refine yF (tM 6 Z cF (vN 0 Z cM Z Z) ?_)
   refine zS 7 aD ?_
   refine zT (I2:=[[],[],[],[]]) Z cF aD (fun Kd hKd=>?_)
   refine yG 4 Z Z Z (OB jb w Ar Br cr dr N A hA o3 st3 own _ _ _ ho (hv.item _ (List.getElem_mem h113)) _ (JQ.x hq) (pg (fun y=>nU hA.1 own y) hN)) Z aU (fun u123 M123 D123 hv123=>?_)
   obtain⟨b123,o123,st123,rfl,rfl,rfl,hq123⟩:=hv123
   refine hKd _ _ _ (zE (zE (zE (zE (zU))))) (zO ?_)
   refine tP 8 Z cF (zP Z) (vO (s:=124) Z (fun h124=>?_) (fun h124=>?_))
   ·refine tP 9 Z (ce Z Z) (zP Z) (tP 10 Z cF (wH Z Z) ?_)
    refine tP 11 Z cF (yP Z) (yJ aD ?_)
    refine rK 0 [19,20,11,9,8,0] Z Z (rO 5 Z ?_)
    refine zN Z Z aC (oR 3 Z ?_)
    exact kQ (hK3 (i+1,_,_,_) (⟨by show _≤i+1;omega, .inl bW,(by have hget:(v.items.drop it.items.length)[i - it.items.length]? =some v.items[i]:=(by rw [List.getElem?_drop,show it.items.length+(i - it.items.length)=i by omega];exact List.getElem?_eq_getElem h113);have:=vB (f:=fun y=>dI A own y) hget hq hq123;rw [show b123=true from h124]at this;show JQ (cx _ (List.take (i+1 - it.items.length) _) _) _ _ _;rw [show i+1 - it.items.length=i - it.items.length+1 by omega];exact this)⟩) ar) (eC Z (eC Z (eC Z (eC Z (eC Z (eC Z (eN _)))))))
   refine yF (tS 9 Z Z Z Z ?_)
   refine zO (tP 10 Z cF (wH Z Z) ?_)
   refine tP 11 Z cF (yP Z) (yJ aD ?_)
   refine rK 0 [19,20,11,9,8,0] Z Z (rO 5 Z ?_)
   refine zN Z Z aC (oR 3 Z ?_)
   exact kQ (hK3 (i+1,_,_,_) (⟨by show _≤i+1;omega, .inl bW,(by have hget:(v.items.drop it.items.length)[i - it.items.length]? =some v.items[i]:=(by rw [List.getElem?_drop,show it.items.length+(i - it.items.length)=i by omega];exact List.getElem?_eq_getElem h113);have:=vB (f:=fun y=>dI A own y) hget hq hq123;rw [show b123=false from h124]at this;show JQ (cx _ (List.take (i+1 - it.items.length) _) _) _ _ _;rw [show i+1 - it.items.length=i - it.items.length+1 by omega];exact this)⟩) ar) (eC Z (eC Z (eC Z (eC Z (eC Z (eC Z (eN _)))))))
  refine rK 8 [10] Z Z ?_
  refine yD (M':=[HA.blk jb [_,_,_,_,_,_,_] 131]) (by repeat (first|exact zQ _|refine zB 0 Z ?_|refine zB 1 Z ?_|refine zB 2 Z ?_|refine zB 3 Z ?_|refine zB 4 Z ?_|refine zB 5 Z ?_|refine zB 6 Z ?_|refine zB 7 Z ?_|refine zB 8 Z ?_)) ?_
  exact zD Tryz.results194 Z ⟨_,_,_,rfl,rfl,rfl,by rw [LD hit h25 h31 h37 h65 h98 aC];have:=hq;rw [List.take_of_length_le (by rw [List.length_drop];omega)]at this;exact this⟩ (List.Sublist.refl _) (fun _ h=>by cases h)
 refine rR 7 Z ?_
 refine yD (M':=[HA.blk jb [_,_,_,_,_,_,_] 131]) (by repeat (first|exact zQ _|refine zB 0 Z ?_|refine zB 1 Z ?_|refine zB 2 Z ?_|refine zB 3 Z ?_|refine zB 4 Z ?_|refine zB 5 Z ?_|refine zB 6 Z ?_|refine zB 7 Z ?_|refine zB 8 Z ?_)) ?_
 exact zD Tryz.results194 Z ⟨_,_,_,rfl,rfl,rfl,hx.pure fun k=>by unfold gq;rw [if_neg h25,if_neg h31,if_neg h37,if_neg h65,if_neg h98]⟩ (List.Sublist.refl _) (fun _ h=>by cases h)
section rules
variable {P:Program} {n:Nat} {F:List Nat} {c:Ctx F} {ops:Array Oper} {d:Nat} {T:TypeId} {l:List Oper} {k:List KI} {Q:cu} {e:dF} {M:List HA} {D:List DA}
theorem CM{A:Option Addr}{m cap i:Nat}{ts:List V}{t:V}(j:Nat)(hj:D[j]? =some (.vals (.slice A m cap) ts))(hi:ts[i]? =some t)
  (next: ∀ A1 c1 A2 c2,cG P n c ops l k Q e M (.cells A (i*5) [.int .i64 t.kind, .int .i64 t.num, .string t.text, .slice A1 t.keys.length c1, .slice A2 t.items.length c2]:: .val (.agg #[.int .i64 t.kind, .int .i64 t.num, .string t.text, .slice A1 t.keys.length c1, .slice A2 t.items.length c2]) t::D)):cG P n c ops l k Q e M D:=by
 intro a w hf
 obtain⟨A',c',hv,_,_,hit⟩:ValsP w (c.now M w) (.slice A m cap) ts:=hf.toFitsW.dt hj
 injection hv with hA hm
 subst hA
 obtain⟨a',v,ha,hok,hcells,hval⟩:=hit.get hi
 subst ha
 obtain⟨q,r,s,ks,its⟩:=t
 have hval':=hval
 simp only [ValP]at hval'
 obtain⟨kv,iv,rfl,_,⟨A1,c1,rfl,_⟩,A2,c2,rfl,_⟩:=hval'
 refine next A1 c1 A2 c2 a w (hf.world (hf.toFitsW.data fun x hx=>?_))
 rcases List.mem_cons.1 hx with rfl|hx
 ·refine⟨a',rfl,hok,fun p u hp=>?_⟩
  have hp':([.int .i64 q, .int .i64 r, .string s, .slice A1 ks.length c1, .slice A2 its.length c2]:List Value)[p]? =some u:=hp
  have:=hcells p u (by simpa [Value.cells]using hp')
  rwa [Nat.zero_add]at this
 rcases List.mem_cons.1 hx with rfl|hx
 ·exact hval
 ·exact hf.dat x hx
theorem HY{x:Operand}{A:Option Addr}{o p:Nat}{vs:List Value}{v:Value}(q:Nat)(hT:cT P T)(hd:Nat.blt d n=true)(hx:ev e x=some (.pointer (some (At A p))))(hq:D[q]? =some (.cells A o vs))(hp:p=o+(p - o))(hv:vs[p - o]? =some v)
  (next:cG P n c ops l k Q ((d,v)::e) M D) {T':TypeId}:cL P n c ops (some d) (.load T x) T' l k Q e M D:=
 yR hT hd hx (fun w h=>by
  obtain⟨a,rfl,_,hc⟩:=h.dt hq
  have:=hc _ v hv
  rwa [←hp]at this) next
end rules
theorem LE{A:V→V→JS}{s own v:V}{key:ByteArray}(h:key=CW)(k:Nat):ig A s key own v k=some (tb ((v.keys.length:Int)≤own.num),k):=by unfold ig;rw [if_pos h]
theorem LF{A:V→V→JS}{s own v:V}{key:ByteArray}(h1: ¬ key=CW)(h:key=Df)(k:Nat):ig A s key own v k=some (tb (own.num≤(v.keys.length:Int)),k):=by unfold ig;rw [if_neg h1,if_pos h]
theorem LG{A:V→V→JS}{s own v:V}{key:ByteArray}(h1: ¬ key=CW)(h2: ¬ key=Df)(h:key=Fr)(k:Nat):ig A s key own v k=some (tb (∀ x∈own.items,dw v x.text),k):=by unfold ig;rw [if_neg h1,if_neg h2,if_pos h]
theorem LH{A:V→V→JS}{s own v:V}{key:ByteArray}(h1: ¬ key=CW)(h2: ¬ key=Df)(h3: ¬ key=Fr)(h:key=k23)(x:Option Nat):x.bind (ig A s key own v)=cx (eZ A v) (own.keys.zip own.items) (x.map fun k=>(true,k)):=by
 rw [←jx]
 congr 1
 funext k
 unfold ig
 rw [if_neg h1,if_neg h2,if_neg h3,if_pos h]
def CN(A:V→V→JS)(v:V)(l:List (ByteArray×V))(σ:Option (Bool×Nat)):Option (Bool×Nat):=l.foldl (fun σ p=>cx (yx A p) (v.keys.zip v.items) σ) σ
theorem FB(A:V→V→JS)(v:V)(l:List (ByteArray×V)):CN A v l none=none:=by
  induction l with
  |nil=>rfl
  |cons a l ih=>
    show CN A v l (cx (yx A a) (v.keys.zip v.items) none)=none
    rw [kW]
    exact ih
theorem FC{A:V→V→JS}{v:V}{l:List (ByteArray×V)}{σ:Option (Bool×Nat)}{i:Nat}{a:ByteArray×V}(h:l[i]? =some a):CN A v (l.take (i+1)) σ=cx (yx A a) (v.keys.zip v.items) (CN A v (l.take i) σ):=by
 unfold CN
 rw [List.take_add_one,h,List.foldl_append]
 rfl
theorem LI{A:V→V→JS}{s own v:V}{key:ByteArray}(h1: ¬ key=CW)(h2: ¬ key=Df)(h3: ¬ key=Fr)(h4: ¬ key=k23)(h:key=k24)(x:Option Nat):x.bind (ig A s key own v)=CN A v (own.keys.zip own.items) (x.map fun k=>(true,k)):=by
  have e: ∀ k,ig A s key own v k=CN A v (own.keys.zip own.items) (some (true,k)):=fun k=>by
    unfold ig CN
    rw [if_neg h1,if_neg h2,if_neg h3,if_neg h4,if_pos h]
  cases x with
  |none=>exact(FB _ _ _).symm
  |some k=>exact e k
theorem LJ{A:V→V→JS}{s own v:V}{key:ByteArray}(h1: ¬ key=CW)(h2: ¬ key=Df)(h3: ¬ key=Fr)(h4: ¬ key=k23)(h5: ¬ key=k24)(h:key=k22)(x:Option Nat):x.bind (ig A s key own v)=cx (wq A s own) (v.keys.zip v.items) (x.map fun k=>(true,k)):=by
 rw [←jx]
 congr 1
 funext k
 unfold ig
 rw [if_neg h1,if_neg h2,if_neg h3,if_neg h4,if_neg h5,if_pos h]
theorem LK{A:V→V→JS}{s own v:V}{key:ByteArray}(h1: ¬ key=CW)(h2: ¬ key=Df)(h3: ¬ key=Fr)(h4: ¬ key=k23)(h5: ¬ key=k24)(h6: ¬ key=k22)(h:key=MF)(k:Nat):ig A s key own v k=some (tb (∀ p∈own.keys.zip own.items,dw v p.1→ ∀ x∈p.2.items,dw v x.text),k):=by
 unfold ig;rw [if_neg h1,if_neg h2,if_neg h3,if_neg h4,if_neg h5,if_neg h6,if_pos h]
theorem PF{A:V→V→JS}{s own v:V}{key:ByteArray}(h1: ¬ key=CW)(h2: ¬ key=Df)(h3: ¬ key=Fr)(h4: ¬ key=k23)(h5: ¬ key=k24)(h6: ¬ key=k22)(h7: ¬ key=MF)(k:Nat):ig A s key own v k=some (true,k):=by
 unfold ig;rw [if_neg h1,if_neg h2,if_neg h3,if_neg h4,if_neg h5,if_neg h6,if_neg h7]
theorem Ad(p t:ByteArray):iL (ip p t):=fun k r h=>by
 unfold ip at h
 split at h
 ·injection h with h;subst h;exact Nat.le_refl _
 ·cases h
theorem yz(name:ByteArray): ∀ ps,iL (ej name ps)
  |[],k,r,h=>by injection h with h;subst h;exact Nat.le_refl _
  |p::ps,k,r,h=>by
    have h:(ip p name k).bind (fun r=>if r.1=true then some (true,r.2)else ej name ps r.2)=some r:=h
    cases hm:ip p name k with
    |none=>rw [hm]at h;cases h
    |some q=>
      rw [hm]at h
      have h1:=Ad p name k q hm
      have h:(if q.1=true then some (true,q.2)else ej name ps q.2)=some r:=h
      split at h
      · injection h with h;subst h;exact h1
      · exact Nat.le_trans (yz name ps _ _ h) h1
theorem LL{A:Option Addr}{p q:Nat}:(At A p).add q=At A (p+q):=by
 unfold At Addr.add
 by_cases hq:q=0
 ·subst hq;simp
 ·by_cases hp:p=0
  ·subst hp;simp [hq]
  ·simp [hp,hq,Nat.add_assoc]
theorem Ae{f g:JS}{h:Bool×Nat→Option (Bool×Nat)}(hf:iL f)(hh: ∀ r q,h r=some q→q.2≤r.2):iL (fun k=>(f k).bind h):=fun k r e=>by
  cases hm:f k with
  |none=>have e:(f k).bind h=some r:=e;rw [hm]at e;cases e
  |some q=>have e:(f k).bind h=some r:=e;rw [hm]at e;exact Nat.le_trans (hh q r e) (hf k q hm)
theorem Ag{A:V→V→JS}(hA: ∀ s v,iL (A s v))(v:V)(p:ByteArray×V):iL (eZ A v p):=by
  unfold eZ
  cases getV v p.1 with
  |none=>exact rH true
  |some x=>exact hA _ _
theorem JI{A:V→V→JS}(hA: ∀ s v,iL (A s v))(p q:ByteArray×V):iL (yx A p q):=by
 refine Ae (g:=fun k=>none) (Ad _ _) fun r z h=>?_
 split at h
 ·exact hA _ _ _ _ h
 ·injection h with h;subst h;exact Nat.le_refl _
theorem JJ{A:V→V→JS}(hA: ∀ s v,iL (A s v))(s own:V)(q:ByteArray×V):iL (wq A s own q):=fun k r h=>by
 unfold wq at h
 split at h
 ·injection h with h;subst h;exact Nat.le_refl _
 ·refine Ae (g:=fun k=>none) (yz _ _) (fun r z h=>?_) k r h
  split at h
  ·injection h with h;subst h;exact Nat.le_refl _
  ·exact nU hA _ _ _ _ h
theorem FD{A:V→V→JS}(hA: ∀ s v,iL (A s v)){v:V}(l:List (ByteArray×V)): ∀ {σ:Option (Bool×Nat)} {q:Bool×Nat},CN A v l σ=some q→ ∃q0,σ=some q0∧q.2≤q0.2:=by
  induction l with
  |nil=>intro σ q h;exact⟨q,h,Nat.le_refl _⟩
  |cons a l ih=>
    intro σ q h
    obtain⟨q1,h1,h2⟩:=ih (σ:=cx (yx A a) (v.keys.zip v.items) σ) h
    obtain⟨q0,h3,h4⟩:=l0 (fun q=>JI hA a q) _ h1
    exact⟨q0,h3,Nat.le_trans h2 h4⟩
theorem vy{α:Type}{f:α→JS}{l:List α}{i:Nat}{a:α}{σ:Option (Bool×Nat)}{g o:Bool}{st:Int}(ha:l[i]? =some a)(hf: ∀ k,f a k=some (true,k))(h:JQ (cx f (l.take i) σ) g o st):JQ (cx f (l.take (i+1)) σ) g o st:=by
 have h':JQ (((cx f (l.take i) σ).map (·.2)).bind (f a)) true o st:=JX.pure (JQ.x h) hf
 exact vB ha h h'
theorem FE{A:V→V→JS}{v tz:V}{p:ByteArray×V}(h:getV v p.1=some tz):eZ A v p=A p.2 tz:=by
 unfold eZ;rw [h]
theorem LM{A:V→V→JS}{v:V}{p:ByteArray×V}(h:getV v p.1=none)(k:Nat):eZ A v p k=some (true,k):=by
 unfold eZ;rw [h]
theorem JQ.if_t{y:Option Nat}{f1:JS}{h:Bool×Nat→Option (Bool×Nat)}{f2:JS}{o o' b':Bool}{st st':Int}(hq:JQ (y.bind f1) true o st)(hh: ∀ k,h (true,k)=f2 k)(h2:JQ (((y.bind f1).map (·.2)).bind f2) b' o' st'):JQ (y.bind fun k=>(f1 k).bind h) b' o' st':=by
  cases y with
  |none=>exact h2
  |some k=>
    have hq:JQ (f1 k) true o st:=hq
    have h2:JQ (((f1 k).map (·.2)).bind f2) b' o' st':=h2
    show JQ ((f1 k).bind h) b' o' st'
    cases hm:f1 k with
    |none=>rw [hm]at h2;exact h2
    |some r=>
      rw [hm]at hq h2
      obtain⟨r1,r2⟩:=r
      obtain rfl:true=r1:=hq.1
      show JQ (h (true,r2)) b' o' st'
      rw [hh]
      exact h2
theorem JQ.if_f{y:Option Nat}{f1:JS}{h:Bool×Nat→Option (Bool×Nat)}{f2:JS}{o o' b':Bool}{st st':Int}(hq:JQ (y.bind f1) false o st)(hh: ∀ k,h (false,k)=f2 k)(h2:JQ (((y.bind f1).map (·.2)).bind f2) b' o' st'):JQ (y.bind fun k=>(f1 k).bind h) b' o' st':=by
  cases y with
  |none=>exact h2
  |some k=>
    have hq:JQ (f1 k) false o st:=hq
    have h2:JQ (((f1 k).map (·.2)).bind f2) b' o' st':=h2
    show JQ ((f1 k).bind h) b' o' st'
    cases hm:f1 k with
    |none=>rw [hm]at h2;exact h2
    |some r=>
      rw [hm]at hq h2
      obtain⟨r1,r2⟩:=r
      obtain rfl:false=r1:=hq.1
      show JQ (h (false,r2)) b' o' st'
      rw [hh]
      exact h2
theorem FF{y:Option Nat}{f:JS}(hf:iL f){N:Nat}(hN: ∀ k,y=some k→k<N): ∀ k,(y.bind f).map (·.2)=some k→k<N:=fun k h=>by
  cases y with
  |none=>cases h
  |some k0=>
    have h:(f k0).map (·.2)=some k:=h
    cases hm:f k0 with
    |none=>rw [hm]at h;cases h
    |some r=>
      rw [hm]at h
      injection h with h
      have h:r.2=k:=h
      have:=hf _ _ hm
      have:=hN k0 rfl
      omega
theorem qH{v:V}{i:Nat}(h1:i<v.keys.length)(h2:i<v.items.length):(v.keys.zip v.items)[i]? =some (v.keys[i],v.items[i]):=by
 rw [List.getElem?_zip_eq_some]
 exact⟨List.getElem?_eq_getElem h1,List.getElem?_eq_getElem h2⟩
theorem ph{v:V}{i:Nat}(h1:v.keys.length≤v.items.length)(h2:v.keys.length≤i):(v.keys.zip v.items).take i=v.keys.zip v.items:=List.take_of_length_le (by rw [List.length_zip];omega)
theorem LN{v:V}(hv:Pl v)(key:ByteArray):((getV v key).getD zV).keys.length≤((getV v key).getD zV).items.length:=by
  cases hg:getV v key with
  |none=>exact Nat.le_refl _
  |some a=>exact(hv.item _ (vX hg)).wf.le
theorem QQ{A:V→V→JS}{s own kn:V}{q:ByteArray×V}(hkn:kn=(getV s k23).getD zV)(hl:kn.keys.length≤kn.items.length)(h: ¬ dL kn.keys q.1<0)(k:Nat):wq A s own q k=some (true,k):=by
 unfold wq
 rw [←hkn,if_pos ((vx hl).1 aC)]
theorem LO{A:V→V→JS}{s own kn:V}{q:ByteArray×V}(hkn:kn=(getV s k23).getD zV)(hl:kn.keys.length≤kn.items.length)(h:dL kn.keys q.1<0):wq A s own q=fun k=>(ej q.1 ((getV s k24).getD zV).keys k).bind fun r=>if r.1=true then some (true,r.2)else dI A own q.2 r.2:=by
 funext k
 unfold wq
 rw [←hkn,if_neg (fun e=>by have:=(vx hl).2 e;omega)]
theorem FG{v:V}{l:List (ByteArray×V)}{i:Nat}{a:ByteArray×V}(ha:l[i]? =some a)(h:dL v.keys a.1<0):tb (∀ p∈l.take i,dw v p.1→ ∀ x∈p.2.items,dw v x.text)=tb (∀ p∈l.take (i+1),dw v p.1→ ∀ x∈p.2.items,dw v x.text):=by
 refine sP ?_
 obtain⟨hi,rfl⟩:=List.getElem?_eq_some_iff.1 ha
 rw [vK hi]
 exact⟨fun e=>⟨e,fun hk=>absurd hk aC⟩,fun e=>e.1⟩
theorem FH{v dp:V}{l:List (ByteArray×V)}{i j:Nat}{a:ByteArray×V}(ha:l[i]? =some a)(hd:dp=a.2)(h: ¬ dL v.keys a.1<0)(hj:dp.items.length≤j):tb ((∀ p∈l.take i,dw v p.1→ ∀ x∈p.2.items,dw v x.text)∧ ∀ x∈dp.items.take j,dw v x.text)=tb (∀ p∈l.take (i+1),dw v p.1→ ∀ x∈p.2.items,dw v x.text):=by
 refine sP ?_
 obtain⟨hi,rfl⟩:=List.getElem?_eq_some_iff.1 ha
 rw [vK hi,List.take_of_length_le hj,hd]
 exact⟨fun e=>⟨e.1,fun _=>e.2⟩,fun e=>⟨e.1,e.2 aC⟩⟩
set_option maxHeartbeats 1000000 in
theorem c195(hM:oG)(jb:Nat)(w:V)(Ar Br:Option Addr)(cr dr:Nat)(N:Nat)(A:V→V→JS)(hA:JA jb w Ar Br cr dr N A)(o:Bool)(st:Int)(s own v:V)(xs xo xv:Value)(key:ByteArray)(hs:Pl s)(ho:Pl own)(hv:Pl v)(x:Option Nat)(hx:JX x o st)(hN: ∀ k,x=some k→k<N):Ct Tryz.prog 195 #[ptr jb,xs, .string key,xo,xv] [.blk jb [.int .i64 w.kind, .int .i64 w.num, .string w.text, .slice Ar w.keys.length cr, .slice Br w.items.length dr, .bool o, .int .i64 st] 131] [.val xs s, .val xo own, .val xv v, .val (.agg #[.int .i64 w.kind, .int .i64 w.num, .string w.text, .slice Ar w.keys.length cr, .slice Br w.items.length dr]) w] (JR jb w Ar Br cr dr (x.bind (ig A s key own v))):=by
 refine Ct.of_run (args:=[ptr jb,xs, .string key,xo,xv]) Tryz.func195 aF Z Tryz.ntmps195 Z (fun c=>?_)
 refine yN 0 Z (fun A1 c1 B1 d1 hx1 hsz1 hk1 hl1 hi1 hj1=>?_)
 subst hx1
 refine yN 3 Z (fun A2 c2 B2 d2 hx2 hsz2 hk2 hl2 hi2 hj2=>?_)
 subst hx2
 refine yN 6 Z (fun A3 c3 B3 d3 hx3 hsz3 hk3 hl3 hi3 hj3=>?_)
 subst hx3
 have hln:=hv.len
 have hol:=ho.len
 have hsle:=hs.wf.le
 have hvle:=hv.wf.le
 have hole:=ho.wf.le
 unfold JR
 refine rO 3 Z (yK Z Z Z (fun b6=>?_))
 refine zA (yK Z Z Z (fun b8=>?_))
 refine zA (yK Z Z Z (fun b9=>?_))
 refine oO 6 Z (zC xM Z Z ?_)
 refine zA (zF 0 dV Z Z Z Z ?_)
 refine zA (zX cV Z Z ?_)
 refine oK 11 [34,12,11,9,8,6,0] Z Z (rR 8 Z ?_)
 refine zI Z (fun h35=>?_) (fun h35=>?_)
 ·refine rO 5 Z (zC wZ Z Z ?_)
  refine zA (zF 1 dx Z Z Z Z ?_)
  refine zA (sE Z Z Z ?_)
  refine oK 3 [10] Z Z ?_
  refine yD (M':=[HA.blk jb [_,_,_,_,_,_,_] 131]) (by repeat (first|exact zQ _|refine zB 0 Z ?_|refine zB 1 Z ?_|refine zB 2 Z ?_|refine zB 3 Z ?_|refine zB 4 Z ?_|refine zB 5 Z ?_|refine zB 6 Z ?_|refine zB 7 Z ?_|refine zB 8 Z ?_)) ?_
  exact zD Tryz.results195 Z ⟨_,_,_,rfl,rfl,rfl,hx.pure fun k=>by rw [LE h35,fQ]⟩ (List.Sublist.refl _) (fun _ h=>by cases h)
 refine rR 7 Z (zI Z (fun h41=>?_) (fun h41=>?_))
 ·refine rO 5 Z (zC wZ Z Z ?_)
  refine zA (zF 1 dx Z Z Z Z ?_)
  refine zA (uA Z Z Z ?_)
  refine oK 3 [10] Z Z ?_
  refine yD (M':=[HA.blk jb [_,_,_,_,_,_,_] 131]) (by repeat (first|exact zQ _|refine zB 0 Z ?_|refine zB 1 Z ?_|refine zB 2 Z ?_|refine zB 3 Z ?_|refine zB 4 Z ?_|refine zB 5 Z ?_|refine zB 6 Z ?_|refine zB 7 Z ?_|refine zB 8 Z ?_)) ?_
  exact zD Tryz.results195 Z ⟨_,_,_,rfl,rfl,rfl,hx.pure fun k=>by rw [LF h35 h41,fQ]⟩ (List.Sublist.refl _) (fun _ h=>by cases h)
 refine rR 7 Z (zI Z (fun h47=>?_) (fun h47=>?_))
 ·refine rO 3 Z (zC yX Z Z ?_)
  refine zA (zF 1 c7 Z Z Z Z ?_)
  refine zA (zX cX Z Z ?_)
  refine oK 3 [52,51,50,12,9] Z Z (rK 1 [52,12,51,50,9] Z Z ?_)
  refine yB 2 (fun(⟨i,g⟩:Nat×Bool)=>i≤own.items.length∧g=tb (∀ x∈own.items.take i,dw v x.text)) (fun(⟨i,g⟩:Nat×Bool)=>[(52, .int .i64 ((i:Nat):Int)),(12, .bool g)]) (fun(⟨i,g⟩:Nat×Bool)=>HA.blk b9 [.int .i64 v.kind, .int .i64 v.num, .string v.text, .slice A3 v.keys.length c3, .slice B3 v.items.length d3] 25::HA.blk b8 [.int .i64 own.kind, .int .i64 own.num, .string own.text, .slice A2 own.keys.length c2, .slice B2 own.items.length d2] 25::HA.blk b6 [.int .i64 s.kind, .int .i64 s.num, .string s.text, .slice A1 s.keys.length c1, .slice B1 s.items.length d1] 25::HA.blk jb [.int .i64 w.kind, .int .i64 w.num, .string w.text, .slice Ar w.keys.length cr, .slice Br w.items.length dr, .bool o, .int .i64 st] 131::[]) (fun(⟨i,g⟩:Nat×Bool)=> .strs (.slice A3 v.keys.length c3) v.keys:: .vals (.slice B3 v.items.length d3) v.items:: .strs (.slice A2 own.keys.length c2) own.keys:: .vals (.slice B2 own.items.length d2) own.items:: .strs (.slice A1 s.keys.length c1) s.keys:: .vals (.slice B1 s.items.length d1) s.items:: .val (.agg #[.int .i64 s.kind, .int .i64 s.num, .string s.text, .slice A1 s.keys.length c1, .slice B1 s.items.length d1]) s:: .val (.agg #[.int .i64 own.kind, .int .i64 own.num, .string own.text, .slice A2 own.keys.length c2, .slice B2 own.items.length d2]) own:: .val (.agg #[.int .i64 v.kind, .int .i64 v.num, .string v.text, .slice A3 v.keys.length c3, .slice B3 v.items.length d3]) v:: .val (.agg #[.int .i64 w.kind, .int .i64 w.num, .string w.text, .slice Ar w.keys.length cr, .slice Br w.items.length dr]) w::[]) (fun(⟨i,g⟩:Nat×Bool)=>own.items.length - i) (0,true) (⟨Nat.zero_le _,(df (fun x hx=>by cases hx)).symm⟩) (eC Z (eC Z (eN _))) Z Z ?_ (eC Z (eC Z (eC Z (eN _))))
  intro ⟨i,g⟩ hI K hK
  change Run _ _ _ _ _ [(52,_),(12,_),(51,_),(50,_),(9,_)] [_,_,_,_] [_,_,_,_,_,_,_,_,_,_]
  obtain⟨hi,hg⟩:=hI
  refine rO 3 Z (yL Z Z Z ?_)
  refine oR 2 Z (zI Z (fun h53=>?_) (fun h53=>?_))
  ·refine rO 6 Z (xC 3 cX Z Z Z Z h53 ?_)
   refine zA (xB 3 cM Z Z Z (List.getElem?_eq_getElem h53) (fun A55 c55 B55 d55=>?_))
   refine zA (yA dE Z (fun b14=>?_))
   change cG _ _ _ _ _ _ _ _ (HA.blk _ [_,_,_,_,_] _::_) _
   refine zA (zG 0 (M':=[HA.blk _ [_,_,_,_,_] _,_,_,_,_]) Z Z Z Z co Z Z Z ?_)
   refine oS 6 Z (zY (s:=57) Z (fun h57=>?_) (fun h57=>?_))
   ·refine zH Z Z (zK 1 Z cM Z Z ?_)
    refine zH Z Z (zC tE Z Z ?_)
    refine zH Z Z (zF 0 dO Z Z Z Z ?_)
    refine zH Z Z (zL Z Z Z (Io _ v _) aA ?_)
    refine zH Z Z (uA Z Z Z ?_)
    refine oK 5 [12,52,51,50,9] Z Z (rO 3 Z ?_)
    refine zN Z Z aC (oR 3 Z ?_)
    exact kQ (hK (i+1,_) (⟨by show i+1≤_;omega,(by rw [show tb (∀ x∈own.items.take (i+1),dw v x.text)=tb (dw v own.items[i].text)from sP ((vK h53).trans (and_iff_right (yS.1 (hg▸h57)))),fQ])⟩) an) (eC Z (eC Z (eC Z (eC Z (eC Z (eN _))))))
   refine oK 10 [12,52,51,50,9] Z Z (rO 3 Z ?_)
   refine zN Z Z aC (oR 3 Z ?_)
   exact kQ (hK (i+1,_) (⟨by show i+1≤_;omega,(tb_f (fun e=>(xH.1 (hg▸h57)) ((vK h53).1 e).1)).symm⟩) an) (eC Z (eC Z (eC Z (eC Z (eC Z (eN _))))))
  refine rR 9 Z ?_
  refine yD (M':=[HA.blk jb [_,_,_,_,_,_,_] 131]) (by repeat (first|exact zQ _|refine zB 0 Z ?_|refine zB 1 Z ?_|refine zB 2 Z ?_|refine zB 3 Z ?_|refine zB 4 Z ?_|refine zB 5 Z ?_|refine zB 6 Z ?_|refine zB 7 Z ?_|refine zB 8 Z ?_)) ?_
  exact zD Tryz.results195 Z ⟨_,_,_,rfl,rfl,rfl,hx.pure fun k=>by rw [LG h35 h41 h47,hg,List.take_of_length_le aC]⟩ (List.Sublist.refl _) (fun _ h=>by cases h)
 refine rK 7 [65,34,12,9,8,6,0] Z Z (zI Z (fun h65=>?_) (fun h65=>?_))
 ·refine rO 3 Z (zC xM Z Z ?_)
  refine zA (zF 1 dV Z Z Z Z ?_)
  refine zA (zX cV Z Z ?_)
  refine oK 4 [70,12,69,68,9,8,0] Z Z (yB 2 (fun(⟨i,g,o3,st3⟩:Nat×Bool×Bool×Int)=>i≤own.keys.length∧JQ (cx (eZ A v) ((own.keys.zip own.items).take i) (x.map fun k=>(true,k))) g o3 st3) (fun(⟨i,g,o3,st3⟩:Nat×Bool×Bool×Int)=>[(70, .int .i64 ((i:Nat):Int)),(12, .bool g)]) (fun(⟨i,g,o3,st3⟩:Nat×Bool×Bool×Int)=>HA.blk b9 [.int .i64 v.kind, .int .i64 v.num, .string v.text, .slice A3 v.keys.length c3, .slice B3 v.items.length d3] 25::HA.blk b8 [.int .i64 own.kind, .int .i64 own.num, .string own.text, .slice A2 own.keys.length c2, .slice B2 own.items.length d2] 25::HA.blk b6 [.int .i64 s.kind, .int .i64 s.num, .string s.text, .slice A1 s.keys.length c1, .slice B1 s.items.length d1] 25::HA.blk jb [.int .i64 w.kind, .int .i64 w.num, .string w.text, .slice Ar w.keys.length cr, .slice Br w.items.length dr, .bool o3, .int .i64 st3] 131::[]) (fun(⟨i,g,o3,st3⟩:Nat×Bool×Bool×Int)=> .strs (.slice A3 v.keys.length c3) v.keys:: .vals (.slice B3 v.items.length d3) v.items:: .strs (.slice A2 own.keys.length c2) own.keys:: .vals (.slice B2 own.items.length d2) own.items:: .strs (.slice A1 s.keys.length c1) s.keys:: .vals (.slice B1 s.items.length d1) s.items:: .val (.agg #[.int .i64 s.kind, .int .i64 s.num, .string s.text, .slice A1 s.keys.length c1, .slice B1 s.items.length d1]) s:: .val (.agg #[.int .i64 own.kind, .int .i64 own.num, .string own.text, .slice A2 own.keys.length c2, .slice B2 own.items.length d2]) own:: .val (.agg #[.int .i64 v.kind, .int .i64 v.num, .string v.text, .slice A3 v.keys.length c3, .slice B3 v.items.length d3]) v:: .val (.agg #[.int .i64 w.kind, .int .i64 w.num, .string w.text, .slice Ar w.keys.length cr, .slice Br w.items.length dr]) w::[]) (fun(⟨i,g,o3,st3⟩:Nat×Bool×Bool×Int)=>own.keys.length - i) (0,true,o,st) (⟨Nat.zero_le _,JQ.of hx true⟩) (eC Z (eC Z (eN _))) Z Z ?_ (eC Z (eC Z (eC Z (eC Z (eC Z (eN _)))))))
  intro ⟨i,g,o3,st3⟩ hI K hK1
  change Run _ _ _ _ _ [(70,_),(12,_),(69,_),(68,_),(9,_),(8,_),(0,_)] [_,_,_,_] [_,_,_,_,_,_,_,_,_,_]
  obtain⟨hi,hq⟩:=hI
  refine rO 3 Z (yL Z Z Z ?_)
  refine oR 2 Z (zI Z (fun h71=>?_) (fun h71=>?_))
  ·have hio:i<own.items.length:=by omega
   refine rO 8 Z (xS 2 cV Z Z Z Z h71 ?_)
   refine zA (yR dO Z Z (fun _ h=>xO h (j:=2) Z (List.getElem?_eq_getElem h71)) ?_)
   refine oO 8 Z (zK 0 Z cM Z Z ?_)
   refine oO 3 Z ?_
   refine yE Z Z Z (oE _ v own.keys[i] hvle) aA (fun u78 D78 hv78=>?_)
   obtain⟨tz,htz⟩: ∃tz,tz=(getV v own.keys[i]).getD zV:=⟨_,rfl⟩
   rw [←htz]at hv78
   obtain⟨_,rfl,A78,m78,B78,d78,rfl,rfl⟩:=hv78
   refine oO 7 Z (yA dE Z (fun b17=>?_))
   change cG _ _ _ _ _ _ _ _ (HA.blk _ [_,_,_,_,_] _::_) _
   refine zA (zG 0 (M':=[HA.blk _ [_,_,_,_,_] _,_,_,_,_]) Z Z Z Z co Z Z Z ?_)
   refine oK 3 [18,17,15,70,12,69,68,9,8,0] Z Z (rR 5 Z ?_)
   refine yC Z (fun h81=>?_) (fun h81=>?_)
   ·have hgx:getV v own.keys[i]=some tz:=by
     rw [htz]
     cases hg:getV v own.keys[i]with
     |none=>rw [hg]at h81;cases h81
     |some a=>rfl
    have hpt:Pl tz:=hv.item _ (vX hgx)
    refine yW yM (zO ?_)
    refine tP 0 Z cF (zP Z) (tP 1 Z cF (zZ yX Z) ?_)
    refine tP 3 Z cF (zP Z) (yF ?_)
    refine tM 2 Z cF (yT 2 c7 Z Z Z) (tM 4 Z cF (wJ 4 cX Z Z Z (show i<own.items.length by omega)) ?_)
    refine uZ 4 Z (List.getElem?_eq_getElem (show i<own.items.length by omega)) (fun A87 m87 B87 d87=>?_)
    refine yF (tM 5 Z cF (vN 0 Z cM Z Z) ?_)
    refine tM 6 Z cF (vD 0 Z cM Z) (zS 7 aD ?_)
    refine zT (I2:=[[],[],[],[]]) Z cF aD (fun Kd hKd=>?_)
    refine yG 4 Z Z Z (hA.2 (own.items[i]'hio) tz _ _ o3 st3 _ (ho.item _ (List.getElem_mem _)) hpt (JQ.x hq) (pg (fun p=>Ag hA.1 v p) hN)) Z aU (fun u89 M89 D89 hv89=>?_)
    obtain⟨b89,o89,st89,rfl,rfl,rfl,hq89⟩:=hv89
    refine hKd _ _ _ (zE (zE (zE (zE (zU))))) (zO ?_)
    refine tP 8 Z cF (zP Z) (vO (s:=90) Z (fun h90=>?_) (fun h90=>?_))
    ·refine tP 9 Z (ce Z Z) (zP Z) (tP 10 Z cF (wH Z Z) ?_)
     refine tP 11 Z cF (yP Z) (yJ aD ?_)
     refine rK 0 [12,70,69,68,9,8,0] Z Z (rO 3 Z ?_)
     refine zN Z Z aC (oR 3 Z ?_)
     exact kQ (hK1 (i+1,_,_,_) (⟨by show i+1≤_;omega,(by have:=vB (f:=eZ A v) (qH h71 aC) hq (by rw [FE hgx];exact hq89);rw [show b89=true from h90]at this;exact this)⟩) ao) (eC Z (eC Z (eC Z (eC Z (eC Z (eC Z (eC Z (eN _))))))))
    refine yF (tS 9 Z Z Z Z ?_)
    refine zO (tP 10 Z cF (wH Z Z) ?_)
    refine tP 11 Z cF (yP Z) (yJ aD ?_)
    refine rK 0 [12,70,69,68,9,8,0] Z Z (rO 3 Z ?_)
    refine zN Z Z aC (oR 3 Z ?_)
    exact kQ (hK1 (i+1,_,_,_) (⟨by show i+1≤_;omega,(by have:=vB (f:=eZ A v) (qH h71 aC) hq (by rw [FE hgx];exact hq89);rw [show b89=false from h90]at this;exact this)⟩) ao) (eC Z (eC Z (eC Z (eC Z (eC Z (eC Z (eC Z (eN _))))))))
   have hgx:getV v own.keys[i]=none:=by
    cases hg:getV v own.keys[i]with
    |none=>rfl
    |some a=>rw [hg]at h81;cases h81
   refine rO 4 Z (zN Z Z aC ?_)
   refine oR 3 Z ?_
   exact kQ (hK1 (i+1,_,_,_) (⟨by show i+1≤_;omega,vy (qH h71 aC) (LM hgx) hq⟩) ao) (eC Z (eC Z (eC Z (eC Z (eC Z (eC Z (eC Z (eN _))))))))
  refine rK 9 [10] Z Z ?_
  refine yD (M':=[HA.blk jb [_,_,_,_,_,_,_] 131]) (by repeat (first|exact zQ _|refine zB 0 Z ?_|refine zB 1 Z ?_|refine zB 2 Z ?_|refine zB 3 Z ?_|refine zB 4 Z ?_|refine zB 5 Z ?_|refine zB 6 Z ?_|refine zB 7 Z ?_|refine zB 8 Z ?_)) ?_
  exact zD Tryz.results195 Z ⟨_,_,_,rfl,rfl,rfl,by rw [LH h35 h41 h47 h65];rw [ph hole aC]at hq;exact hq⟩ (List.Sublist.refl _) (fun _ h=>by cases h)
 refine rR 7 Z (zI Z (fun h94=>?_) (fun h94=>?_))
 ·refine rO 3 Z (zC xM Z Z ?_)
  refine zA (zF 1 dV Z Z Z Z ?_)
  refine zA (zX cV Z Z ?_)
  refine oK 4 [99,12,98,97,9,8,0] Z Z (yB 2 (fun(⟨i,g,o3,st3⟩:Nat×Bool×Bool×Int)=>i≤own.keys.length∧JQ (CN A v ((own.keys.zip own.items).take i) (x.map fun k=>(true,k))) g o3 st3) (fun(⟨i,g,o3,st3⟩:Nat×Bool×Bool×Int)=>[(99, .int .i64 ((i:Nat):Int)),(12, .bool g)]) (fun(⟨i,g,o3,st3⟩:Nat×Bool×Bool×Int)=>HA.blk b9 [.int .i64 v.kind, .int .i64 v.num, .string v.text, .slice A3 v.keys.length c3, .slice B3 v.items.length d3] 25::HA.blk b8 [.int .i64 own.kind, .int .i64 own.num, .string own.text, .slice A2 own.keys.length c2, .slice B2 own.items.length d2] 25::HA.blk b6 [.int .i64 s.kind, .int .i64 s.num, .string s.text, .slice A1 s.keys.length c1, .slice B1 s.items.length d1] 25::HA.blk jb [.int .i64 w.kind, .int .i64 w.num, .string w.text, .slice Ar w.keys.length cr, .slice Br w.items.length dr, .bool o3, .int .i64 st3] 131::[]) (fun(⟨i,g,o3,st3⟩:Nat×Bool×Bool×Int)=> .strs (.slice A3 v.keys.length c3) v.keys:: .vals (.slice B3 v.items.length d3) v.items:: .strs (.slice A2 own.keys.length c2) own.keys:: .vals (.slice B2 own.items.length d2) own.items:: .strs (.slice A1 s.keys.length c1) s.keys:: .vals (.slice B1 s.items.length d1) s.items:: .val (.agg #[.int .i64 s.kind, .int .i64 s.num, .string s.text, .slice A1 s.keys.length c1, .slice B1 s.items.length d1]) s:: .val (.agg #[.int .i64 own.kind, .int .i64 own.num, .string own.text, .slice A2 own.keys.length c2, .slice B2 own.items.length d2]) own:: .val (.agg #[.int .i64 v.kind, .int .i64 v.num, .string v.text, .slice A3 v.keys.length c3, .slice B3 v.items.length d3]) v:: .val (.agg #[.int .i64 w.kind, .int .i64 w.num, .string w.text, .slice Ar w.keys.length cr, .slice Br w.items.length dr]) w::[]) (fun(⟨i,g,o3,st3⟩:Nat×Bool×Bool×Int)=>own.keys.length - i) (0,true,o,st) (⟨Nat.zero_le _,JQ.of hx true⟩) (eC Z (eC Z (eN _))) Z Z ?_ (eC Z (eC Z (eC Z (eC Z (eC Z (eN _)))))))
  intro ⟨i,g,o3,st3⟩ hI K hK2
  change Run _ _ _ _ _ [(99,_),(12,_),(98,_),(97,_),(9,_),(8,_),(0,_)] [_,_,_,_] [_,_,_,_,_,_,_,_,_,_]
  obtain⟨hi,hq⟩:=hI
  refine rO 3 Z (yL Z Z Z ?_)
  refine oR 2 Z (zI Z (fun h100=>?_) (fun h100=>?_))
  ·have hio:i<own.items.length:=by omega
   refine rO 8 Z (xS 2 cV Z Z Z Z h100 ?_)
   refine zA (yR dO Z Z (fun _ h=>xO h (j:=2) Z (List.getElem?_eq_getElem h100)) ?_)
   refine oO 8 Z (zC xM Z Z ?_)
   refine zA (zF 0 dV Z Z Z Z ?_)
   refine zA (zX cV Z Z ?_)
   refine oK 3 [107,106,105,20,19,99,12,98,97,9,8,0] Z Z (rK 1 [107,12,106,105,20,19,99,98,97,9,8,0] Z Z ?_)
   refine yB 2 (fun(⟨j,g2,o4,st4⟩:Nat×Bool×Bool×Int)=>j≤v.keys.length∧JQ (cx (yx A (own.keys[i]'h100,own.items[i]'hio)) ((v.keys.zip v.items).take j) (CN A v ((own.keys.zip own.items).take i) (x.map fun k=>(true,k)))) g2 o4 st4) (fun(⟨j,g2,o4,st4⟩:Nat×Bool×Bool×Int)=>[(107, .int .i64 ((j:Nat):Int)),(12, .bool g2)]) (fun(⟨j,g2,o4,st4⟩:Nat×Bool×Bool×Int)=>HA.blk b9 [.int .i64 v.kind, .int .i64 v.num, .string v.text, .slice A3 v.keys.length c3, .slice B3 v.items.length d3] 25::HA.blk b8 [.int .i64 own.kind, .int .i64 own.num, .string own.text, .slice A2 own.keys.length c2, .slice B2 own.items.length d2] 25::HA.blk b6 [.int .i64 s.kind, .int .i64 s.num, .string s.text, .slice A1 s.keys.length c1, .slice B1 s.items.length d1] 25::HA.blk jb [.int .i64 w.kind, .int .i64 w.num, .string w.text, .slice Ar w.keys.length cr, .slice Br w.items.length dr, .bool o4, .int .i64 st4] 131::[]) (fun(⟨j,g2,o4,st4⟩:Nat×Bool×Bool×Int)=> .strs (.slice A3 v.keys.length c3) v.keys:: .vals (.slice B3 v.items.length d3) v.items:: .strs (.slice A2 own.keys.length c2) own.keys:: .vals (.slice B2 own.items.length d2) own.items:: .strs (.slice A1 s.keys.length c1) s.keys:: .vals (.slice B1 s.items.length d1) s.items:: .val (.agg #[.int .i64 s.kind, .int .i64 s.num, .string s.text, .slice A1 s.keys.length c1, .slice B1 s.items.length d1]) s:: .val (.agg #[.int .i64 own.kind, .int .i64 own.num, .string own.text, .slice A2 own.keys.length c2, .slice B2 own.items.length d2]) own:: .val (.agg #[.int .i64 v.kind, .int .i64 v.num, .string v.text, .slice A3 v.keys.length c3, .slice B3 v.items.length d3]) v:: .val (.agg #[.int .i64 w.kind, .int .i64 w.num, .string w.text, .slice Ar w.keys.length cr, .slice Br w.items.length dr]) w::[]) (fun(⟨j,g2,o4,st4⟩:Nat×Bool×Bool×Int)=>v.keys.length - j) (0,g,o3,st3) (⟨Nat.zero_le _,hq⟩) (eC Z (eC Z (eN _))) Z Z ?_ (eC Z (eC Z (eC Z (eC Z (eC Z (eC Z (eC Z (eC Z (eC Z (eC Z (eN _)))))))))))
   intro ⟨j,g2,o4,st4⟩ hI K hK3
   change Run _ _ _ _ _ [(107,_),(12,_),(106,_),(105,_),(20,_),(19,_),(99,_),(98,_),(97,_),(9,_),(8,_),(0,_)] [_,_,_,_] [_,_,_,_,_,_,_,_,_,_]
   obtain⟨hj,hq2⟩:=hI
   refine rO 3 Z (yL Z Z Z ?_)
   refine oR 2 Z (zI Z (fun h108=>?_) (fun h108=>?_))
   ·refine rO 8 Z (xS 0 cV Z Z Z Z h108 ?_)
    refine zA (yR dO Z Z (fun _ h=>xO h (j:=0) Z (List.getElem?_eq_getElem h108)) ?_)
    refine oK 5 [22,21,107,12,106,105,20,19,99,98,97,9,8,0] Z Z (rO 9 Z ?_)
    refine yG 3 Z Z Z (LB hM jb w Ar Br cr dr o4 st4 own.keys[i] v.keys[j] (se ho _ (List.getElem_mem _)) (se hv _ (List.getElem_mem _)) _ (JQ.x hq2)) Z cQ (fun u115 M115 D115 hv115=>?_)
    obtain⟨b115,o115,rfl,rfl,rfl,hq115⟩:=hv115
    refine oK 1 [115,21,107,12,106,105,20,19,99,98,97,9,8,0] Z Z (yC Z (fun h115=>?_) (fun h115=>?_))
    ·obtain rfl:b115=true:=h115
     refine yW yM (zO ?_)
     refine tP 0 Z cF (zP Z) (tP 1 Z cF (zZ yX Z) ?_)
     refine tP 3 Z cF (zP Z) (tP 6 Z cF (zZ yX Z) ?_)
     refine tP 8 Z cF (zP Z) (yF ?_)
     refine tM 2 Z cF (yT 2 c7 Z Z Z) (tM 4 Z cF (wJ 3 cX Z Z Z (show i<own.items.length by omega)) ?_)
     refine uZ 3 Z (List.getElem?_eq_getElem (show i<own.items.length by omega)) (fun A121 m121 B121 d121=>?_)
     refine yF (tM 5 Z cF (vN 0 Z cM Z Z) ?_)
     refine tM 7 Z cF (yT 1 c7 Z Z Z) (tM 9 Z cF (wJ 3 cX Z Z Z (show j<v.items.length by omega)) ?_)
     refine uZ 3 Z (List.getElem?_eq_getElem (show j<v.items.length by omega)) (fun A126 m126 B126 d126=>?_)
     refine yF (tM 10 Z cF (vN 0 Z cM Z Z) ?_)
     refine zS 11 aD ?_
     refine zT (I2:=[[],[],[],[],[]]) Z cF aD (fun Kd hKd=>?_)
     refine yG 0 Z Z Z (hA.2 (own.items[i]'hio) (v.items[j]'aC) _ _ o115 st4 _ (ho.item _ (List.getElem_mem _)) (hv.item _ (List.getElem_mem _)) (JQ.x hq115) (FF (Ad _ _) (LC hN (fun q h=>by obtain⟨q1,h1,h2⟩:=l0 (fun q=>JI hA.1 _ q) _ h;obtain⟨q0,h3,h4⟩:=FD hA.1 _ h1;exact⟨q0,h3,Nat.le_trans h2 h4⟩)))) Z aU (fun u127 M127 D127 hv127=>?_)
     obtain⟨b127,o127,st127,rfl,rfl,rfl,hq127⟩:=hv127
     refine hKd _ _ _ (zE (zE (zE (zE (zE (zU)))))) (zO ?_)
     refine tP 12 Z cF (zP Z) (vO (s:=128) Z (fun h128=>?_) (fun h128=>?_))
     ·refine tP 13 Z (ce Z Z) (zP Z) (tP 14 Z cF (wH Z Z) ?_)
      refine tP 15 Z cF (yP Z) (yJ aD ?_)
      refine rK 0 [12,107,106,105,20,19,99,98,97,9,8,0] Z Z (rO 3 Z ?_)
      refine zN Z Z aC (oR 3 Z ?_)
      exact kQ (hK3 (j+1,_,_,_) (⟨by show j+1≤_;omega,(by have:=vB (f:=yx A (own.keys[i]'h100,own.items[i]'hio)) (qH h108 aC) hq2 (JQ.if_t (f1:=ip (own.keys[i]'h100) v.keys[j]) (f2:=A (own.items[i]'hio) (v.items[j]'aC)) hq115 (fun k=>rfl) hq127);rw [show b127=true from h128]at this;exact this)⟩) aw) (eC Z (eC Z (eC Z (eC Z (eC Z (eC Z (eC Z (eC Z (eC Z (eC Z (eC Z (eC Z (eN _)))))))))))))
     refine yF (tS 13 Z Z Z Z ?_)
     refine zO (tP 14 Z cF (wH Z Z) ?_)
     refine tP 15 Z cF (yP Z) (yJ aD ?_)
     refine rK 0 [12,107,106,105,20,19,99,98,97,9,8,0] Z Z (rO 3 Z ?_)
     refine zN Z Z aC (oR 3 Z ?_)
     exact kQ (hK3 (j+1,_,_,_) (⟨by show j+1≤_;omega,(by have:=vB (f:=yx A (own.keys[i]'h100,own.items[i]'hio)) (qH h108 aC) hq2 (JQ.if_t (f1:=ip (own.keys[i]'h100) v.keys[j]) (f2:=A (own.items[i]'hio) (v.items[j]'aC)) hq115 (fun k=>rfl) hq127);rw [show b127=false from h128]at this;exact this)⟩) aw) (eC Z (eC Z (eC Z (eC Z (eC Z (eC Z (eC Z (eC Z (eC Z (eC Z (eC Z (eC Z (eN _)))))))))))))
    obtain rfl:b115=false:=by simpa using h115
    refine rO 4 Z (zN Z Z aC ?_)
    refine oK 3 [107,12,106,105,20,19,99,98,97,9,8,0] Z Z ?_
    exact kQ (hK3 (j+1,_,_,_) (⟨by show j+1≤_;omega,vB (b:=true) (qH h108 aC) hq2 (JQ.if_f (f1:=ip (own.keys[i]'h100) v.keys[j]) (f2:=fun k=>some (true,k)) hq115 (fun k=>rfl) (JX.pure (JQ.x hq115) (fun k=>rfl)))⟩) aw) (eC Z (eC Z (eC Z (eC Z (eC Z (eC Z (eC Z (eC Z (eC Z (eC Z (eC Z (eC Z (eN _)))))))))))))
   refine rO 4 Z (zN Z Z aC ?_)
   refine oR 3 Z ?_
   exact kQ (hK2 (i+1,_,_,_) (⟨by show i+1≤_;omega,(by rw [FC (qH h100 aC)];rw [ph hvle aC]at hq2;exact hq2)⟩) ao) (eC Z (eC Z (eC Z (eC Z (eC Z (eC Z (eC Z (eN _))))))))
  refine rK 9 [10] Z Z ?_
  refine yD (M':=[HA.blk jb [_,_,_,_,_,_,_] 131]) (by repeat (first|exact zQ _|refine zB 0 Z ?_|refine zB 1 Z ?_|refine zB 2 Z ?_|refine zB 3 Z ?_|refine zB 4 Z ?_|refine zB 5 Z ?_|refine zB 6 Z ?_|refine zB 7 Z ?_|refine zB 8 Z ?_)) ?_
  exact zD Tryz.results195 Z ⟨_,_,_,rfl,rfl,rfl,by rw [LI h35 h41 h47 h65 h94];rw [ph hole aC]at hq;exact hq⟩ (List.Sublist.refl _) (fun _ h=>by cases h)
 refine rR 7 Z (zI Z (fun h133=>?_) (fun h133=>?_))
 ·refine rO 3 Z (zK 2 Z cM Z Z ?_)
  refine zA ?_
  refine yE Z Z Z (oE _ s k23 hsle) aA (fun u137 D137 hv137=>?_)
  obtain⟨kn,hkn⟩: ∃kn,kn=(getV s k23).getD zV:=⟨_,rfl⟩
  have hknl:kn.keys.length≤kn.items.length:=hkn▸LN hs k23
  rw [←hkn]at hv137
  obtain⟨_,rfl,A137,m137,B137,d137,rfl,rfl⟩:=hv137
  refine oO 7 Z (yA dE Z (fun b23=>?_))
  change cG _ _ _ _ _ _ _ _ (HA.blk _ [_,_,_,_,_] _::_) _
  refine zA (zG 0 (M':=[HA.blk _ [_,_,_,_,_] _,_,_,_,_]) Z Z Z Z co Z Z Z ?_)
  refine oK 3 [23,12,9,8,6,0] Z Z (rO 3 Z ?_)
  refine zC xM Z Z (zA ?_)
  refine zF 1 dV Z Z Z Z (zA ?_)
  refine zX cV Z Z (oK 4 [143,12,142,141,23,9,8,6,0] Z Z ?_)
  refine yB 2 (fun(⟨i,g,o3,st3⟩:Nat×Bool×Bool×Int)=>i≤v.keys.length∧JQ (cx (wq A s own) ((v.keys.zip v.items).take i) (x.map fun k=>(true,k))) g o3 st3) (fun(⟨i,g,o3,st3⟩:Nat×Bool×Bool×Int)=>[(143, .int .i64 ((i:Nat):Int)),(12, .bool g)]) (fun(⟨i,g,o3,st3⟩:Nat×Bool×Bool×Int)=>HA.blk b23 [.int .i64 kn.kind, .int .i64 kn.num, .string kn.text, .slice A137 kn.keys.length m137, .slice B137 kn.items.length d137] 25::HA.blk b9 [.int .i64 v.kind, .int .i64 v.num, .string v.text, .slice A3 v.keys.length c3, .slice B3 v.items.length d3] 25::HA.blk b8 [.int .i64 own.kind, .int .i64 own.num, .string own.text, .slice A2 own.keys.length c2, .slice B2 own.items.length d2] 25::HA.blk b6 [.int .i64 s.kind, .int .i64 s.num, .string s.text, .slice A1 s.keys.length c1, .slice B1 s.items.length d1] 25::HA.blk jb [.int .i64 w.kind, .int .i64 w.num, .string w.text, .slice Ar w.keys.length cr, .slice Br w.items.length dr, .bool o3, .int .i64 st3] 131::[]) (fun(⟨i,g,o3,st3⟩:Nat×Bool×Bool×Int)=> .val (.agg #[.int .i64 kn.kind, .int .i64 kn.num, .string kn.text, .slice A137 kn.keys.length m137, .slice B137 kn.items.length d137]) kn:: .strs (.slice A3 v.keys.length c3) v.keys:: .vals (.slice B3 v.items.length d3) v.items:: .strs (.slice A2 own.keys.length c2) own.keys:: .vals (.slice B2 own.items.length d2) own.items:: .strs (.slice A1 s.keys.length c1) s.keys:: .vals (.slice B1 s.items.length d1) s.items:: .val (.agg #[.int .i64 s.kind, .int .i64 s.num, .string s.text, .slice A1 s.keys.length c1, .slice B1 s.items.length d1]) s:: .val (.agg #[.int .i64 own.kind, .int .i64 own.num, .string own.text, .slice A2 own.keys.length c2, .slice B2 own.items.length d2]) own:: .val (.agg #[.int .i64 v.kind, .int .i64 v.num, .string v.text, .slice A3 v.keys.length c3, .slice B3 v.items.length d3]) v:: .val (.agg #[.int .i64 w.kind, .int .i64 w.num, .string w.text, .slice Ar w.keys.length cr, .slice Br w.items.length dr]) w::[]) (fun(⟨i,g,o3,st3⟩:Nat×Bool×Bool×Int)=>v.keys.length - i) (0,true,o,st) (⟨Nat.zero_le _,JQ.of hx true⟩) (eC Z (eC Z (eN _))) Z Z ?_ (eC Z (eC Z (eC Z (eC Z (eC Z (eC Z (eC Z (eN _))))))))
  intro ⟨i,g,o3,st3⟩ hI K hK4
  change Run _ _ _ _ _ [(143,_),(12,_),(142,_),(141,_),(23,_),(9,_),(8,_),(6,_),(0,_)] [_,_,_,_,_] [_,_,_,_,_,_,_,_,_,_,_]
  obtain⟨hi,hq⟩:=hI
  refine rO 3 Z (yL Z Z Z ?_)
  refine oR 2 Z (zI Z (fun h144=>?_) (fun h144=>?_))
  ·refine rO 8 Z (xS 1 cV Z Z Z Z h144 ?_)
   refine zA (yR dO Z Z (fun _ h=>xO h (j:=1) Z (List.getElem?_eq_getElem h144)) ?_)
   refine oK 5 [26,25,143,12,142,141,23,9,8,6,0] Z Z (rO 3 Z ?_)
   refine zK 0 Z cM Z Z (oO 3 Z ?_)
   refine zL Z Z Z (Io _ kn _) (cO 0 Z) (zA ?_)
   refine wI Z Z Z (oS 2 Z ?_)
   refine zW (s:=152) Z (fun h152=>?_) (fun h152=>?_)
   ·refine oO 3 Z (zK 3 Z cM Z Z ?_)
    refine oO 3 Z ?_
    refine yG 4 Z Z Z (QN hM jb w Ar Br cr dr o3 st3 s _ v.keys[i] hs (se hv _ (List.getElem_mem _)) _ (JQ.x hq)) Z aA (fun u156 M156 D156 hv156=>?_)
    obtain⟨b156,o156,st156,rfl,rfl,rfl,hq156⟩:=hv156
    refine oK 5 [158,25,143,12,142,141,23,9,8,6,0] Z Z (yC Z (fun h158=>?_) (fun h158=>?_))
    ·obtain rfl:b156=false:=by simpa using h158
     refine yW yM (zO ?_)
     refine tP 0 Z cF (zP Z) (tP 2 Z cF (zZ yX Z) ?_)
     refine tP 4 Z cF (zP Z) (yF ?_)
     refine tM 1 Z cF (vD 3 Z cM Z) (tM 3 Z cF (yT 2 c7 Z Z Z) ?_)
     refine tM 5 Z cF (wJ 2 cX Z Z Z (show i<v.items.length by omega)) ?_
     refine uZ 2 Z (List.getElem?_eq_getElem (show i<v.items.length by omega)) (fun A165 m165 B165 d165=>?_)
     refine yF (tM 6 Z cF (vN 0 Z cM Z Z) ?_)
     refine zS 7 aD ?_
     refine zT (I2:=[[],[],[],[]]) Z cF aD (fun Kd hKd=>?_)
     refine yG 0 Z Z Z (OB jb w Ar Br cr dr N A hA o156 st156 own (v.items[i]'aC) _ _ ho (hv.item _ (List.getElem_mem _)) _ (JQ.x hq156) (FF (yz _ _) (pg (fun q=>JJ hA.1 s own q) hN))) Z aU (fun u166 M166 D166 hv166=>?_)
     obtain⟨b166,o166,st166,rfl,rfl,rfl,hq166⟩:=hv166
     refine hKd _ _ _ (zE (zE (zE (zE (zU))))) (zO ?_)
     refine tP 8 Z cF (zP Z) (vO (s:=167) Z (fun h167=>?_) (fun h167=>?_))
     ·refine tP 9 Z (ce Z Z) (zP Z) (tP 10 Z cF (wH Z Z) ?_)
      refine tP 11 Z cF (yP Z) (yJ aD ?_)
      refine rK 0 [12,143,142,141,23,9,8,6,0] Z Z (rO 3 Z ?_)
      refine zN Z Z aC (oR 3 Z ?_)
      exact kQ (hK4 (i+1,_,_,_) (⟨by show i+1≤_;omega,(by have:=vB (f:=wq A s own) (qH h144 aC) hq (by rw [LO hkn hknl h152];exact JQ.if_f (f2:=dI A own (v.items[i]'aC)) hq156 (fun k=>rfl) hq166);rw [show b166=true from h167]at this;exact this)⟩) av) (eC Z (eC Z (eC Z (eC Z (eC Z (eC Z (eC Z (eC Z (eC Z (eN _))))))))))
     refine yF (tS 9 Z Z Z Z ?_)
     refine zO (tP 10 Z cF (wH Z Z) ?_)
     refine tP 11 Z cF (yP Z) (yJ aD ?_)
     refine rK 0 [12,143,142,141,23,9,8,6,0] Z Z (rO 3 Z ?_)
     refine zN Z Z aC (oR 3 Z ?_)
     exact kQ (hK4 (i+1,_,_,_) (⟨by show i+1≤_;omega,(by have:=vB (f:=wq A s own) (qH h144 aC) hq (by rw [LO hkn hknl h152];exact JQ.if_f (f2:=dI A own (v.items[i]'aC)) hq156 (fun k=>rfl) hq166);rw [show b166=false from h167]at this;exact this)⟩) av) (eC Z (eC Z (eC Z (eC Z (eC Z (eC Z (eC Z (eC Z (eC Z (eN _))))))))))
    obtain rfl:b156=true:=by simpa using h158
    refine rO 4 Z (zN Z Z aC ?_)
    refine oR 3 Z ?_
    exact kQ (hK4 (i+1,_,_,_) (⟨by show i+1≤_;omega,vB (b:=true) (qH h144 aC) hq (by rw [LO hkn hknl h152];exact JQ.if_t (f2:=fun k=>some (true,k)) hq156 (fun k=>rfl) (JX.pure (JQ.x hq156) (fun k=>rfl)))⟩) av) (eC Z (eC Z (eC Z (eC Z (eC Z (eC Z (eC Z (eC Z (eC Z (eN _))))))))))
   refine oK 8 [158,25,143,12,142,141,23,9,8,6,0] Z Z (rO 5 Z ?_)
   refine zN Z Z aC (oR 3 Z ?_)
   exact kQ (hK4 (i+1,_,_,_) (⟨by show i+1≤_;omega,vy (qH h144 aC) (QQ hkn hknl h152) hq⟩) av) (eC Z (eC Z (eC Z (eC Z (eC Z (eC Z (eC Z (eC Z (eC Z (eN _))))))))))
  refine rK 9 [10] Z Z ?_
  refine yD (M':=[HA.blk jb [_,_,_,_,_,_,_] 131]) (by repeat (first|exact zQ _|refine zB 0 Z ?_|refine zB 1 Z ?_|refine zB 2 Z ?_|refine zB 3 Z ?_|refine zB 4 Z ?_|refine zB 5 Z ?_|refine zB 6 Z ?_|refine zB 7 Z ?_|refine zB 8 Z ?_)) ?_
  exact zD Tryz.results195 Z ⟨_,_,_,rfl,rfl,rfl,by rw [LJ h35 h41 h47 h65 h94 h133];rw [ph hvle aC]at hq;exact hq⟩ (List.Sublist.refl _) (fun _ h=>by cases h)
 refine rK 7 [171,12,9,8] Z Z (zI Z (fun h171=>?_) (fun h171=>?_))
 ·refine rO 3 Z (zC xM Z Z ?_)
  refine zA (zF 1 dV Z Z Z Z ?_)
  refine zA (zX cV Z Z ?_)
  refine oK 4 [176,12,175,174,9,8] Z Z ?_
  refine yB 2 (fun(⟨i,g⟩:Nat×Bool)=>i≤own.keys.length∧g=tb (∀ p∈(own.keys.zip own.items).take i,dw v p.1→ ∀ x∈p.2.items,dw v x.text)) (fun(⟨i,g⟩:Nat×Bool)=>[(176, .int .i64 ((i:Nat):Int)),(12, .bool g)]) (fun(⟨i,g⟩:Nat×Bool)=>HA.blk b9 [.int .i64 v.kind, .int .i64 v.num, .string v.text, .slice A3 v.keys.length c3, .slice B3 v.items.length d3] 25::HA.blk b8 [.int .i64 own.kind, .int .i64 own.num, .string own.text, .slice A2 own.keys.length c2, .slice B2 own.items.length d2] 25::HA.blk b6 [.int .i64 s.kind, .int .i64 s.num, .string s.text, .slice A1 s.keys.length c1, .slice B1 s.items.length d1] 25::HA.blk jb [.int .i64 w.kind, .int .i64 w.num, .string w.text, .slice Ar w.keys.length cr, .slice Br w.items.length dr, .bool o, .int .i64 st] 131::[]) (fun(⟨i,g⟩:Nat×Bool)=> .strs (.slice A3 v.keys.length c3) v.keys:: .vals (.slice B3 v.items.length d3) v.items:: .strs (.slice A2 own.keys.length c2) own.keys:: .vals (.slice B2 own.items.length d2) own.items:: .strs (.slice A1 s.keys.length c1) s.keys:: .vals (.slice B1 s.items.length d1) s.items:: .val (.agg #[.int .i64 s.kind, .int .i64 s.num, .string s.text, .slice A1 s.keys.length c1, .slice B1 s.items.length d1]) s:: .val (.agg #[.int .i64 own.kind, .int .i64 own.num, .string own.text, .slice A2 own.keys.length c2, .slice B2 own.items.length d2]) own:: .val (.agg #[.int .i64 v.kind, .int .i64 v.num, .string v.text, .slice A3 v.keys.length c3, .slice B3 v.items.length d3]) v:: .val (.agg #[.int .i64 w.kind, .int .i64 w.num, .string w.text, .slice Ar w.keys.length cr, .slice Br w.items.length dr]) w::[]) (fun(⟨i,g⟩:Nat×Bool)=>own.keys.length - i) (0,true) (⟨Nat.zero_le _,(df (fun x hx=>by cases hx)).symm⟩) (eC Z (eC Z (eN _))) Z Z ?_ (eC Z (eC Z (eC Z (eC Z (eN _)))))
  intro ⟨i,g⟩ hI K hK5
  change Run _ _ _ _ _ [(176,_),(12,_),(175,_),(174,_),(9,_),(8,_)] [_,_,_,_] [_,_,_,_,_,_,_,_,_,_]
  obtain⟨hi,hg⟩:=hI
  refine rO 3 Z (yL Z Z Z ?_)
  refine oR 2 Z (zI Z (fun h177=>?_) (fun h177=>?_))
  ·have hio:i<own.items.length:=by omega
   refine rO 8 Z (xS 2 cV Z Z Z Z h177 ?_)
   refine zA (yR dO Z Z (fun _ h=>xO h (j:=2) Z (List.getElem?_eq_getElem h177)) ?_)
   refine oO 9 Z (zK 0 Z cM Z Z ?_)
   refine oO 3 Z (zL Z Z Z (Io _ v _) aA ?_)
   refine zA (wI Z Z Z ?_)
   refine oK 1 [184,27,176,12,175,174,9,8] Z Z (zI Z (fun h184=>?_) (fun h184=>?_))
   ·refine rO 3 Z (zN Z Z aC ?_)
    refine oR 3 Z ?_
    exact kQ (hK5 (i+1,_) (⟨by show i+1≤_;omega,hg.trans (FG (qH h177 aC) h184)⟩) ao) (eC Z (eC Z (eC Z (eC Z (eC Z (eC Z (eN _)))))))
   refine rO 4 Z (zC yX Z Z ?_)
   refine zA (zF 1 c7 Z Z Z Z ?_)
   refine oO 3 Z (xC 3 cX Z Z Z Z (show i<own.items.length by omega) ?_)
   refine zA (oL yX Z Z ?_)
   rw [LL]
   refine CM 3 Z (List.getElem?_eq_getElem (show i<own.items.length by omega)) (fun A190 m190 B190 d190=>?_)
   obtain⟨dp,hdp⟩: ∃dp,dp=own.items[i]'hio:=⟨_,rfl⟩
   rw [←hdp]
   have hdl:dp.items.length≤60:=by rw [hdp];exact(ho.item _ (List.getElem_mem _)).len
   refine zA (HY 0 c7 Z Z Z aC (by rw [show i*5+4 - i*5=4 by omega];rfl) ?_)
   refine zA (zX cX Z Z ?_)
   refine oK 3 [192,191,190,176,12,175,174,9,8] Z Z (rK 1 [192,12,191,190,176,175,174,9,8] Z Z ?_)
   refine yN 1 Z (fun A5 c5 B5 d5 hx5 hsz5 hk5 hl5 hi5 hj5=>?_)
   cases hx5
   refine tR (D':= .vals (.slice B190 dp.items.length d190) dp.items:: .strs (.slice A3 v.keys.length c3) v.keys:: .vals (.slice B3 v.items.length d3) v.items:: .strs (.slice A2 own.keys.length c2) own.keys:: .vals (.slice B2 own.items.length d2) own.items:: .strs (.slice A1 s.keys.length c1) s.keys:: .vals (.slice B1 s.items.length d1) s.items:: .val (.agg #[.int .i64 s.kind, .int .i64 s.num, .string s.text, .slice A1 s.keys.length c1, .slice B1 s.items.length d1]) s:: .val (.agg #[.int .i64 own.kind, .int .i64 own.num, .string own.text, .slice A2 own.keys.length c2, .slice B2 own.items.length d2]) own:: .val (.agg #[.int .i64 v.kind, .int .i64 v.num, .string v.text, .slice A3 v.keys.length c3, .slice B3 v.items.length d3]) v:: .val (.agg #[.int .i64 w.kind, .int .i64 w.num, .string w.text, .slice Ar w.keys.length cr, .slice Br w.items.length dr]) w::[]) (by intro d hd;simp only [List.mem_cons,List.not_mem_nil,or_false]at hd⊢;rcases hd with rfl|rfl|rfl|rfl|rfl|rfl|rfl|rfl|rfl|rfl|rfl<;>simp) ?_
   refine yB 2 (fun(⟨j,g2⟩:Nat×Bool)=>j≤dp.items.length∧g2=tb ((∀ p∈(own.keys.zip own.items).take i,dw v p.1→ ∀ x∈p.2.items,dw v x.text)∧ ∀ x∈dp.items.take j,dw v x.text)) (fun(⟨j,g2⟩:Nat×Bool)=>[(192, .int .i64 ((j:Nat):Int)),(12, .bool g2)]) (fun(⟨j,g2⟩:Nat×Bool)=>HA.blk b9 [.int .i64 v.kind, .int .i64 v.num, .string v.text, .slice A3 v.keys.length c3, .slice B3 v.items.length d3] 25::HA.blk b8 [.int .i64 own.kind, .int .i64 own.num, .string own.text, .slice A2 own.keys.length c2, .slice B2 own.items.length d2] 25::HA.blk b6 [.int .i64 s.kind, .int .i64 s.num, .string s.text, .slice A1 s.keys.length c1, .slice B1 s.items.length d1] 25::HA.blk jb [.int .i64 w.kind, .int .i64 w.num, .string w.text, .slice Ar w.keys.length cr, .slice Br w.items.length dr, .bool o, .int .i64 st] 131::[]) (fun(⟨j,g2⟩:Nat×Bool)=> .vals (.slice B190 dp.items.length d190) dp.items:: .strs (.slice A3 v.keys.length c3) v.keys:: .vals (.slice B3 v.items.length d3) v.items:: .strs (.slice A2 own.keys.length c2) own.keys:: .vals (.slice B2 own.items.length d2) own.items:: .strs (.slice A1 s.keys.length c1) s.keys:: .vals (.slice B1 s.items.length d1) s.items:: .val (.agg #[.int .i64 s.kind, .int .i64 s.num, .string s.text, .slice A1 s.keys.length c1, .slice B1 s.items.length d1]) s:: .val (.agg #[.int .i64 own.kind, .int .i64 own.num, .string own.text, .slice A2 own.keys.length c2, .slice B2 own.items.length d2]) own:: .val (.agg #[.int .i64 v.kind, .int .i64 v.num, .string v.text, .slice A3 v.keys.length c3, .slice B3 v.items.length d3]) v:: .val (.agg #[.int .i64 w.kind, .int .i64 w.num, .string w.text, .slice Ar w.keys.length cr, .slice Br w.items.length dr]) w::[]) (fun(⟨j,g2⟩:Nat×Bool)=>dp.items.length - j) (0,g) (⟨Nat.zero_le _,hg.trans (sP ⟨fun e=>⟨e,fun x hx=>by cases hx⟩,fun e=>e.1⟩)⟩) (eC Z (eC Z (eN _))) Z Z ?_ (eC Z (eC Z (eC Z (eC Z (eC Z (eC Z (eC Z (eN _))))))))
   intro ⟨j,g2⟩ hI K hK6
   change Run _ _ _ _ _ [(192,_),(12,_),(191,_),(190,_),(176,_),(175,_),(174,_),(9,_),(8,_)] [_,_,_,_] [_,_,_,_,_,_,_,_,_,_,_]
   obtain⟨hj,hg2⟩:=hI
   refine rO 3 Z (yL Z Z Z ?_)
   refine oR 2 Z (zI Z (fun h193=>?_) (fun h193=>?_))
   ·refine rO 6 Z (xC 0 cX Z Z Z Z h193 ?_)
    refine zA (xB 0 cM Z Z Z (List.getElem?_eq_getElem h193) (fun A195 c195 B195 d195=>?_))
    refine zA (yA dE Z (fun b30=>?_))
    change cG _ _ _ _ _ _ _ _ (HA.blk _ [_,_,_,_,_] _::_) _
    refine zA (zG 0 (M':=[HA.blk _ [_,_,_,_,_] _,_,_,_,_]) Z Z Z Z co Z Z Z ?_)
    refine oS 6 Z (zY (s:=197) Z (fun h197=>?_) (fun h197=>?_))
    ·refine zH Z Z (zK 1 Z cM Z Z ?_)
     refine zH Z Z (zC tE Z Z ?_)
     refine zH Z Z (zF 0 dO Z Z Z Z ?_)
     refine zH Z Z (zL Z Z Z (Io _ v _) aA ?_)
     refine zH Z Z (uA Z Z Z ?_)
     refine oK 5 [12,192,191,190,176,175,174,9,8] Z Z (rO 3 Z ?_)
     refine zN Z Z aC (oR 3 Z ?_)
     exact kQ (hK6 (j+1,_) (⟨by show j+1≤_;omega,(by rw [←fQ];exact sP ⟨fun e=>⟨(yS.1 (hg2▸h197)).1,(vK h193).2 ⟨(yS.1 (hg2▸h197)).2,e⟩⟩,fun e=>((vK h193).1 e.2).2⟩)⟩) (by show dp.items.length - (j+1)<dp.items.length - j;omega)) (eC Z (eC Z (eC Z (eC Z (eC Z (eC Z (eC Z (eC Z (eC Z (eN _))))))))))
    refine oK 10 [12,192,191,190,176,175,174,9,8] Z Z (rO 3 Z ?_)
    refine zN Z Z aC (oR 3 Z ?_)
    exact kQ (hK6 (j+1,_) (⟨by show j+1≤_;omega,(tb_f (fun e=>(xH.1 (hg2▸h197)) ⟨e.1,((vK h193).1 e.2).1⟩)).symm⟩) (by show dp.items.length - (j+1)<dp.items.length - j;omega)) (eC Z (eC Z (eC Z (eC Z (eC Z (eC Z (eC Z (eC Z (eC Z (eN _))))))))))
   refine rO 4 Z (zN Z Z aC ?_)
   refine oR 3 Z ?_
   exact kQ (hK5 (i+1,_) (⟨by show i+1≤_;omega,hg2.trans (FH (qH h177 aC) (by rw [hdp]) h184 aC)⟩) ao) (eC Z (eC Z (eC Z (eC Z (eC Z (eC Z (eN _)))))))
  refine rR 9 Z ?_
  refine yD (M':=[HA.blk jb [_,_,_,_,_,_,_] 131]) (by repeat (first|exact zQ _|refine zB 0 Z ?_|refine zB 1 Z ?_|refine zB 2 Z ?_|refine zB 3 Z ?_|refine zB 4 Z ?_|refine zB 5 Z ?_|refine zB 6 Z ?_|refine zB 7 Z ?_|refine zB 8 Z ?_)) ?_
  exact zD Tryz.results195 Z ⟨_,_,_,rfl,rfl,rfl,hx.pure fun k=>by rw [LK h35 h41 h47 h65 h94 h133 h171,hg,ph hole aC]⟩ (List.Sublist.refl _) (fun _ h=>by cases h)
 refine rR 9 Z ?_
 refine yD (M':=[HA.blk jb [_,_,_,_,_,_,_] 131]) (by repeat (first|exact zQ _|refine zB 0 Z ?_|refine zB 1 Z ?_|refine zB 2 Z ?_|refine zB 3 Z ?_|refine zB 4 Z ?_|refine zB 5 Z ?_|refine zB 6 Z ?_|refine zB 7 Z ?_|refine zB 8 Z ?_)) ?_
 exact zD Tryz.results195 Z ⟨_,_,_,rfl,rfl,rfl,hx.pure fun k=>PF h35 h41 h47 h65 h94 h133 h171 k⟩ (List.Sublist.refl _) (fun _ h=>by cases h)
theorem JQ.map{α β:Type}{r:Option (α×Nat)}{a:α}{o:Bool}{st:Int}(h:JQ r a o st)(f:α→β):JQ (r.map fun q=>(f q.1,q.2)) (f a) o st:=by
  cases r with
  |none=>exact h
  |some q=>exact⟨by rw [h.1],h.2⟩
theorem pi{α:Type}(f:α→JS)(l:List α):dh f l none=none:=by
  induction l with
  |nil=>rfl
  |cons a l ih=>exact ih
theorem nV{α:Type}(f:α→JS)(l:List α)(x:Option Nat)(t:Nat→Bool):x.bind (fun k=>(dh f l (some (0,k))).map fun r=>(t r.1,r.2))=(dh f l (x.map fun k=>(0,k))).map fun r=>(t r.1,r.2):=by
  cases x with
  |none=>rw [Option.map_none,pi];rfl
  |some k=>rfl
theorem HZ{A:V→V→JS}{s own v:V}{key:ByteArray}(h:key=Ba)(hk: ¬ v.kind≠3):ec A s key own v=ip own.text v.text:=by funext k;unfold ec;rw [if_pos h,if_neg hk]
theorem Ah{A:V→V→JS}{s own v:V}{key:ByteArray}(h:key=Ba)(hk:v.kind≠3)(k:Nat):ec A s key own v k=some (true,k):=by unfold ec;rw [if_pos h,if_pos hk]
theorem Hb{A:V→V→JS}{s own v:V}{key:ByteArray}(h1: ¬ key=Ba)(h:key=Dg):ec A s key own v=HS own v:=by funext k;unfold ec;rw [if_neg h1,if_pos h]
theorem kw26{A:V→V→JS}{s own v:V}{key:ByteArray}(h1: ¬ key=Ba)(h2: ¬ key=Dg)(h:key=Fs)(k:Nat):ec A s key own v k=some (tb (v∈own.items),k):=by unfold ec;rw [if_neg h1,if_neg h2,if_pos h]
theorem Hc{A:V→V→JS}{s own v:V}{key:ByteArray}(h1: ¬ key=Ba)(h2: ¬ key=Dg)(h3: ¬ key=Fs)(h:key=GN)(x:Option Nat):x.bind (ec A s key own v)=(dh (fun y=>A y v) own.items (x.map fun k=>(0,k))).map fun r=>(decide (r.1=own.items.length),r.2):=by
 rw [←nV _ _ _ (fun n=>decide (n=own.items.length))];congr 1;funext k;unfold ec;rw [if_neg h1,if_neg h2,if_neg h3,if_pos h]
theorem Hd{A:V→V→JS}{s own v:V}{key:ByteArray}(h1: ¬ key=Ba)(h2: ¬ key=Dg)(h3: ¬ key=Fs)(h4: ¬ key=GN)(h:key=Ip)(x:Option Nat):x.bind (ec A s key own v)=(dh (fun y=>A y v) own.items (x.map fun k=>(0,k))).map fun r=>(decide (0<r.1),r.2):=by
 rw [←nV _ _ _ (fun n=>decide (0<n))];congr 1;funext k;unfold ec;rw [if_neg h1,if_neg h2,if_neg h3,if_neg h4,if_pos h]
theorem He{A:V→V→JS}{s own v:V}{key:ByteArray}(h1: ¬ key=Ba)(h2: ¬ key=Dg)(h3: ¬ key=Fs)(h4: ¬ key=GN)(h5: ¬ key=Ip)(h:key=J3)(x:Option Nat):x.bind (ec A s key own v)=(dh (fun y=>A y v) own.items (x.map fun k=>(0,k))).map fun r=>(decide (r.1=1),r.2):=by
 rw [←nV _ _ _ (fun n=>decide (n=1))];congr 1;funext k;unfold ec;rw [if_neg h1,if_neg h2,if_neg h3,if_neg h4,if_neg h5,if_pos h]
theorem Hf{A:V→V→JS}{s own v:V}{key:ByteArray}(h1: ¬ key=Ba)(h2: ¬ key=Dg)(h3: ¬ key=Fs)(h4: ¬ key=GN)(h5: ¬ key=Ip)(h6: ¬ key=J3)(h:key=MG)(x:Option Nat):x.bind (ec A s key own v)=(x.bind (A own v)).map fun r=>(!r.1,r.2):=by
  cases x with
  |none=>rfl
  |some k=>show ec A s key own v k=_;unfold ec;rw [if_neg h1,if_neg h2,if_neg h3,if_neg h4,if_neg h5,if_neg h6,if_pos h];rfl
def Hg(key:ByteArray):Prop:= ¬ key=Ba∧ ¬ key=Dg∧ ¬ key=Fs∧ ¬ key=GN∧ ¬ key=Ip∧ ¬ key=J3∧ ¬ key=MG
open Classical in
theorem OD{A:V→V→JS}{s own v:V}{key:ByteArray}(h:Hg key):ec A s key own v=fun k=>if eI v then some (lQ s key own v,k)else if v.kind=3 then some (oF key own v,k)else if v.kind=4 then gq A s key own v k else if v.kind=5 then ig A s key own v k else some (true,k):=by
 funext k;unfold ec;rw [if_neg h.1,if_neg h.2.1,if_neg h.2.2.1,if_neg h.2.2.2.1,if_neg h.2.2.2.2.1,if_neg h.2.2.2.2.2.1,if_neg h.2.2.2.2.2.2]
theorem OE{A:V→V→JS}{s own v:V}{key:ByteArray}(h:Hg key)(hn:eI v)(k:Nat):ec A s key own v k=some (lQ s key own v,k):=by rw [OD h];exact if_pos hn
theorem LP{A:V→V→JS}{s own v:V}{key:ByteArray}(h:Hg key)(hn: ¬ eI v)(h3:v.kind=3)(k:Nat):ec A s key own v k=some (oF key own v,k):=by rw [OD h];exact(if_neg hn).trans (if_pos h3)
theorem OF{A:V→V→JS}{s own v:V}{key:ByteArray}(h:Hg key)(hn: ¬ eI v)(h3: ¬ v.kind=3)(h4:v.kind=4):ec A s key own v=gq A s key own v:=by rw [OD h];funext k;exact(if_neg hn).trans ((if_neg h3).trans (if_pos h4))
theorem OG{A:V→V→JS}{s own v:V}{key:ByteArray}(h:Hg key)(hn: ¬ eI v)(h3: ¬ v.kind=3)(h4: ¬ v.kind=4)(h5:v.kind=5):ec A s key own v=ig A s key own v:=by rw [OD h];funext k;exact(if_neg hn).trans ((if_neg h3).trans ((if_neg h4).trans (if_pos h5)))
theorem OH{A:V→V→JS}{s own v:V}{key:ByteArray}(h:Hg key)(hn: ¬ eI v)(h3: ¬ v.kind=3)(h4: ¬ v.kind=4)(h5: ¬ v.kind=5)(k:Nat):ec A s key own v k=some (true,k):=by rw [OD h];exact(if_neg hn).trans ((if_neg h3).trans ((if_neg h4).trans (if_neg h5)))
theorem all_le{α:Type}{f:α→JS}(hf: ∀ a,iL (f a))(l:List α)(b:Bool):iL (fun k=>cx f l (some (b,k))):=fun k r h=>by
 obtain⟨q0,h1,h2⟩:=l0 hf l h
 injection h1 with h1
 subst h1
 exact h2
theorem OI{A:V→V→JS}(hA: ∀ s v,iL (A s v))(s:V)(key:ByteArray)(own v:V):iL (gq A s key own v):=fun k r h=>by
  unfold gq at h
  repeat' split at h
  all_goals first
    |exact rH _ k r h
    |exact all_le (fun p:V×V=>hA p.1 p.2) _ _ k r h
    |exact all_le (fun y=>nU hA own y) _ _ k r h
theorem OJ{A:V→V→JS}(hA: ∀ s v,iL (A s v))(s:V)(key:ByteArray)(own v:V):iL (ig A s key own v):=fun k r h=>by
  unfold ig at h
  repeat' split at h
  all_goals first
    |exact rH _ k r h
    |exact all_le (Ag hA v) _ _ k r h
    |exact all_le (JJ hA s own) _ _ k r h
    |(obtain⟨q0,h1,h2⟩:=FD hA (v:=v) _ h;injection h1 with h1;subst h1;exact h2)
theorem OK(own v:V):iL (HS own v):=fun k r h=>by
 unfold HS at h
 split at h
 ·exact rH _ k r h
 ·cases h
theorem sf{α:Type}{r:Option (α×Nat)}{f:α→Bool}{k:Nat}(hr: ∀ q,r=some q→q.2≤k): ∀ z,(r.map fun q=>(f q.1,q.2))=some z→z.2≤k:=fun z h=>by
  cases r with
  |none=>cases h
  |some q=>injection h with h;subst h;exact hr q rfl
theorem y6{A:V→V→JS}(hA: ∀ s v,iL (A s v))(v:V)(l:List V)(k:Nat): ∀ q,dh (fun y=>A y v) l (some (0,k))=some q→q.2≤k:=fun q h=>by
 obtain⟨q0,h1,h2⟩:=Aa (fun y=>hA y v) l h
 injection h1 with h1
 subst h1
 exact h2
theorem JK{A:V→V→JS}(hA: ∀ s v,iL (A s v))(s:V)(key:ByteArray)(own v:V):iL (ec A s key own v):=fun k r h=>by
 by_cases h1:key=Ba
 ·by_cases hv:v.kind≠3
  ·rw [Ah h1 hv]at h;exact rH _ k r h
  ·rw [HZ h1 hv]at h;exact Ad _ _ k r h
 by_cases h2:key=Dg
 ·rw [Hb h1 h2]at h;exact OK _ _ k r h
 by_cases h3:key=Fs
 ·rw [kw26 h1 h2 h3]at h;exact rH _ k r h
 by_cases h4:key=GN
 ·have h:(some k).bind (ec A s key own v)=some r:=h
  rw [Hc h1 h2 h3 h4]at h;exact sf (f:=fun n=>decide (n=own.items.length)) (y6 hA v own.items k) r h
 by_cases h5:key=Ip
 ·have h:(some k).bind (ec A s key own v)=some r:=h
  rw [Hd h1 h2 h3 h4 h5]at h;exact sf (f:=fun n=>decide (0<n)) (y6 hA v own.items k) r h
 by_cases h6:key=J3
 ·have h:(some k).bind (ec A s key own v)=some r:=h
  rw [He h1 h2 h3 h4 h5 h6]at h;exact sf (f:=fun n=>decide (n=1)) (y6 hA v own.items k) r h
 by_cases h7:key=MG
 ·have h:(some k).bind (ec A s key own v)=some r:=h
  rw [Hf h1 h2 h3 h4 h5 h6 h7]at h;exact sf (f:=fun b=> !b) (hA own v k) r h
 have hO:Hg key:=⟨h1,h2,h3,h4,h5,h6,h7⟩
 by_cases hn:eI v
 ·rw [OE hO hn]at h;exact rH _ k r h
 by_cases e3:v.kind=3
 ·rw [LP hO hn e3]at h;exact rH _ k r h
 by_cases e4:v.kind=4
 ·rw [OF hO hn e3 e4]at h;exact OI hA s key own v k r h
 by_cases e5:v.kind=5
 ·rw [OG hO hn e3 e4 e5]at h;exact OJ hA s key own v k r h
 ·rw [OH hO hn e3 e4 e5]at h;exact rH _ k r h
set_option maxHeartbeats 1000000 in
theorem QR(hM:oG)(jb:Nat)(w:V)(Ar Br:Option Addr)(cr dr:Nat)(N:Nat)(A:V→V→JS)(hA:JA jb w Ar Br cr dr N A)(o:Bool)(st:Int)(s own v:V)(xs xo xv:Value)(key:ByteArray)(hs:Pl s)(ho:Pl own)(hv:Pl v)(x:Option Nat)(hx:JX x o st)(hN: ∀ k,x=some k→k<N):Ct Tryz.prog 170 #[ptr jb,xs, .string key,xo,xv] [.blk jb [.int .i64 w.kind, .int .i64 w.num, .string w.text, .slice Ar w.keys.length cr, .slice Br w.items.length dr, .bool o, .int .i64 st] 131] [.val xs s, .val xo own, .val xv v, .val (.agg #[.int .i64 w.kind, .int .i64 w.num, .string w.text, .slice Ar w.keys.length cr, .slice Br w.items.length dr]) w] (JR jb w Ar Br cr dr (x.bind (ec A s key own v))):=by
 refine Ct.of_run (args:=[ptr jb,xs, .string key,xo,xv]) Tryz.func170 aF Z Tryz.ntmps170 Z (fun c=>?_)
 refine yN 0 Z (fun A1 c1 B1 d1 hx1 hsz1 hk1 hl1 hi1 hj1=>?_)
 subst hx1
 refine yN 3 Z (fun A2 c2 B2 d2 hx2 hsz2 hk2 hl2 hi2 hj2=>?_)
 subst hx2
 refine yN 6 Z (fun A3 c3 B3 d3 hx3 hsz3 hk3 hl3 hi3 hj3=>?_)
 subst hx3
 have hln:=hv.len
 have hol:=ho.len
 have hsle:=hs.wf.le
 have hvle:=hv.wf.le
 have hole:=ho.wf.le
 unfold JR
 refine rO 3 Z (yK Z Z Z (fun b6=>?_))
 refine zA (yK Z Z Z (fun b8=>?_))
 refine zA (yK Z Z Z (fun b9=>?_))
 refine oR 17 Z (zI Z (fun h17=>?_) (fun h17=>?_))
 ·refine rO 3 Z (zC wC Z Z ?_)
  refine zA (zF 0 dx Z Z Z Z ?_)
  refine zA (uG Z Z Z ?_)
  refine oS 2 Z (zW (s:=22) Z (fun h22=>?_) (fun h22=>?_))
  ·refine oK 11 [10] Z Z ?_
   refine yD (M':=[HA.blk jb [_,_,_,_,_,_,_] 131]) (by repeat (first|exact zQ _|refine zB 0 Z ?_|refine zB 1 Z ?_|refine zB 2 Z ?_|refine zB 3 Z ?_|refine zB 4 Z ?_|refine zB 5 Z ?_|refine zB 6 Z ?_|refine zB 7 Z ?_|refine zB 8 Z ?_)) ?_
   exact zD Tryz.results170 Z ⟨_,_,_,rfl,rfl,rfl,hx.pure (Ah h17 h22)⟩ (List.Sublist.refl _) (fun _ h=>by cases h)
  refine oO 3 Z (zC tE Z Z ?_)
  refine zH Z Z (zF 1 dO Z Z Z Z ?_)
  refine zH Z Z (zC tE Z Z ?_)
  refine zH Z Z (zF 0 dO Z Z Z Z ?_)
  refine zH Z Z (yG 3 Z Z Z (LB hM jb w Ar Br cr dr o st own.text v.text (jw ho) (jw hv) x hx) Z cQ (fun u28 M28 D28 hv28=>?_))
  obtain⟨b28,o28,rfl,rfl,rfl,hq28⟩:=hv28
  refine oK 5 [10] Z Z ?_
  refine yD (M':=[HA.blk jb [_,_,_,_,_,_,_] 131]) (by repeat (first|exact zQ _|refine zB 0 Z ?_|refine zB 1 Z ?_|refine zB 2 Z ?_|refine zB 3 Z ?_|refine zB 4 Z ?_|refine zB 5 Z ?_|refine zB 6 Z ?_|refine zB 7 Z ?_|refine zB 8 Z ?_)) ?_
  exact zD Tryz.results170 Z ⟨_,_,_,rfl,rfl,rfl,by rw [HZ h17 h22];exact hq28⟩ (List.Sublist.refl _) (fun _ h=>by cases h)
 refine rR 7 Z (zI Z (fun h30=>?_) (fun h30=>?_))
 ·refine rO 5 Z (zK 1 Z cM Z Z ?_)
  refine zA (zK 0 Z cM Z Z ?_)
  refine zA ?_
  refine yG 3 Z Z Z (QO jb w Ar Br cr dr o st own v _ _ ho x hx) Z aB (fun u35 M35 D35 hv35=>?_)
  obtain⟨b35,o35,st35,rfl,rfl,rfl,hq35⟩:=hv35
  refine oK 3 [10] Z Z ?_
  refine yD (M':=[HA.blk jb [_,_,_,_,_,_,_] 131]) (by repeat (first|exact zQ _|refine zB 0 Z ?_|refine zB 1 Z ?_|refine zB 2 Z ?_|refine zB 3 Z ?_|refine zB 4 Z ?_|refine zB 5 Z ?_|refine zB 6 Z ?_|refine zB 7 Z ?_|refine zB 8 Z ?_)) ?_
  exact zD Tryz.results170 Z ⟨_,_,_,rfl,rfl,rfl,by rw [Hb h17 h30];exact hq35⟩ (List.Sublist.refl _) (fun _ h=>by cases h)
 refine rK 7 [36,16,9,8,6,0,2] Z Z (zI Z (fun h36=>?_) (fun h36=>?_))
 ·refine rO 4 Z (zC yX Z Z ?_)
  refine zA (zF 1 c7 Z Z Z Z ?_)
  refine zA (zX cX Z Z ?_)
  refine oK 4 [41,40,39,9] Z Z (yB 1 (fun(⟨i,u⟩:Nat×Unit)=>i≤own.items.length∧ ∀ j (h:j<own.items.length),j<i→ ¬ own.items[j]'h=v) (fun(⟨i,u⟩:Nat×Unit)=>[(41, .int .i64 ((i:Nat):Int))]) (fun(⟨i,u⟩:Nat×Unit)=>HA.blk b9 [.int .i64 v.kind, .int .i64 v.num, .string v.text, .slice A3 v.keys.length c3, .slice B3 v.items.length d3] 25::HA.blk b8 [.int .i64 own.kind, .int .i64 own.num, .string own.text, .slice A2 own.keys.length c2, .slice B2 own.items.length d2] 25::HA.blk b6 [.int .i64 s.kind, .int .i64 s.num, .string s.text, .slice A1 s.keys.length c1, .slice B1 s.items.length d1] 25::HA.blk jb [.int .i64 w.kind, .int .i64 w.num, .string w.text, .slice Ar w.keys.length cr, .slice Br w.items.length dr, .bool o, .int .i64 st] 131::[]) (fun(⟨i,u⟩:Nat×Unit)=> .strs (.slice A3 v.keys.length c3) v.keys:: .vals (.slice B3 v.items.length d3) v.items:: .strs (.slice A2 own.keys.length c2) own.keys:: .vals (.slice B2 own.items.length d2) own.items:: .strs (.slice A1 s.keys.length c1) s.keys:: .vals (.slice B1 s.items.length d1) s.items:: .val (.agg #[.int .i64 s.kind, .int .i64 s.num, .string s.text, .slice A1 s.keys.length c1, .slice B1 s.items.length d1]) s:: .val (.agg #[.int .i64 own.kind, .int .i64 own.num, .string own.text, .slice A2 own.keys.length c2, .slice B2 own.items.length d2]) own:: .val (.agg #[.int .i64 v.kind, .int .i64 v.num, .string v.text, .slice A3 v.keys.length c3, .slice B3 v.items.length d3]) v:: .val (.agg #[.int .i64 w.kind, .int .i64 w.num, .string w.text, .slice Ar w.keys.length cr, .slice Br w.items.length dr]) w::[]) (fun(⟨i,u⟩:Nat×Unit)=>own.items.length - i) (0,()) (⟨Nat.zero_le _,fun j _ h=>absurd h (Nat.not_lt_zero _)⟩) (eC Z (eN _)) Z Z ?_ (eC Z (eC Z (eC Z (eN _)))))
  intro ⟨i,u⟩ hI K hK
  change Run _ _ _ _ _ [(41,_),(40,_),(39,_),(9,_)] [_,_,_,_] [_,_,_,_,_,_,_,_,_,_]
  obtain⟨hi,hno⟩:=hI
  refine rO 3 Z (yL Z Z Z ?_)
  refine oR 2 Z (zI Z (fun h42=>?_) (fun h42=>?_))
  ·refine rO 6 Z (xC 3 cX Z Z Z Z h42 ?_)
   refine zA (xB 3 cM Z Z Z (List.getElem?_eq_getElem h42) (fun A44 c44 B44 d44=>?_))
   refine zA (yA dE Z (fun b12=>?_))
   change cG _ _ _ _ _ _ _ _ (HA.blk _ [_,_,_,_,_] _::_) _
   refine zA (zG 0 (M':=[HA.blk _ [_,_,_,_,_] _,_,_,_,_]) Z Z Z Z co Z Z Z ?_)
   refine oO 4 Z (zK 0 Z cM Z Z ?_)
   refine zA (zK 1 Z cM Z Z ?_)
   refine zA (zL Z Z Z (c25 _ v _ _) (dP 0 9 Z Z) ?_)
   refine yO (yC Z (fun h47=>?_) (fun h47=>?_))
   ·refine rK 5 [10] Z Z ?_
    refine yD (M':=[HA.blk jb [_,_,_,_,_,_,_] 131]) (by repeat (first|exact zQ _|refine zB 0 Z ?_|refine zB 1 Z ?_|refine zB 2 Z ?_|refine zB 3 Z ?_|refine zB 4 Z ?_|refine zB 5 Z ?_|refine zB 6 Z ?_|refine zB 7 Z ?_|refine zB 8 Z ?_)) ?_
    exact zD Tryz.results170 Z ⟨_,_,_,rfl,rfl,rfl,hx.pure fun k=>by rw [kw26 h17 h30 h36,df (by have:=yS.1 h47;rw [←this];exact List.getElem_mem h42)]⟩ (List.Sublist.refl _) (fun _ h=>by cases h)
   refine rO 4 Z (zN Z Z aC ?_)
   refine oR 3 Z ?_
   exact kQ (hK (i+1,()) (⟨by show i+1≤_;omega,N9 (p:=fun z=> ¬ z=v) hno h42 (xH.1 (by simpa using h47))⟩) an) (eC Z (eC Z (eC Z (eC Z (eN _)))))
  refine rR 6 Z ?_
  refine yD (M':=[HA.blk jb [_,_,_,_,_,_,_] 131]) (by repeat (first|exact zQ _|refine zB 0 Z ?_|refine zB 1 Z ?_|refine zB 2 Z ?_|refine zB 3 Z ?_|refine zB 4 Z ?_|refine zB 5 Z ?_|refine zB 6 Z ?_|refine zB 7 Z ?_|refine zB 8 Z ?_)) ?_
  exact zD Tryz.results170 Z ⟨_,_,_,rfl,rfl,rfl,hx.pure fun k=>by rw [kw26 h17 h30 h36,tb_f (fun hm=>by obtain⟨j,hj,e⟩:=List.getElem_of_mem hm;exact hno j hj aC e)]⟩ (List.Sublist.refl _) (fun _ h=>by cases h)
 refine rR 8 Z (xZ Z (fun h49=>?_) (fun h49=>?_))
 ·refine rO 11 Z (zC yX Z Z ?_)
  refine zA (zF 1 c7 Z Z Z Z ?_)
  refine zA (zX cX Z Z ?_)
  refine oK 4 [56,13,55,54,9,8,0,2] Z Z (yB 2 (fun(⟨i,m,o3,st3⟩:Nat×Nat×Bool×Int)=>i≤own.items.length∧m≤i∧JQ (dh (fun y=>A y v) (own.items.take i) (x.map fun k=>(0,k))) m o3 st3) (fun(⟨i,m,o3,st3⟩:Nat×Nat×Bool×Int)=>[(56, .int .i64 ((i:Nat):Int)),(13, .int .i64 ((m:Nat):Int))]) (fun(⟨i,m,o3,st3⟩:Nat×Nat×Bool×Int)=>HA.blk b9 [.int .i64 v.kind, .int .i64 v.num, .string v.text, .slice A3 v.keys.length c3, .slice B3 v.items.length d3] 25::HA.blk b8 [.int .i64 own.kind, .int .i64 own.num, .string own.text, .slice A2 own.keys.length c2, .slice B2 own.items.length d2] 25::HA.blk b6 [.int .i64 s.kind, .int .i64 s.num, .string s.text, .slice A1 s.keys.length c1, .slice B1 s.items.length d1] 25::HA.blk jb [.int .i64 w.kind, .int .i64 w.num, .string w.text, .slice Ar w.keys.length cr, .slice Br w.items.length dr, .bool o3, .int .i64 st3] 131::[]) (fun(⟨i,m,o3,st3⟩:Nat×Nat×Bool×Int)=> .strs (.slice A3 v.keys.length c3) v.keys:: .vals (.slice B3 v.items.length d3) v.items:: .strs (.slice A2 own.keys.length c2) own.keys:: .vals (.slice B2 own.items.length d2) own.items:: .strs (.slice A1 s.keys.length c1) s.keys:: .vals (.slice B1 s.items.length d1) s.items:: .val (.agg #[.int .i64 s.kind, .int .i64 s.num, .string s.text, .slice A1 s.keys.length c1, .slice B1 s.items.length d1]) s:: .val (.agg #[.int .i64 own.kind, .int .i64 own.num, .string own.text, .slice A2 own.keys.length c2, .slice B2 own.items.length d2]) own:: .val (.agg #[.int .i64 v.kind, .int .i64 v.num, .string v.text, .slice A3 v.keys.length c3, .slice B3 v.items.length d3]) v:: .val (.agg #[.int .i64 w.kind, .int .i64 w.num, .string w.text, .slice Ar w.keys.length cr, .slice Br w.items.length dr]) w::[]) (fun(⟨i,m,o3,st3⟩:Nat×Nat×Bool×Int)=>own.items.length - i) (0,0,o,st) (⟨Nat.zero_le _,Nat.le_refl _,JQ.of hx 0⟩) (eC Z (eC Z (eN _))) Z Z ?_ (eC Z (eC Z (eC Z (eC Z (eC Z (eC Z (eN _))))))))
  intro ⟨i,m,o3,st3⟩ hI K hK1
  change Run _ _ _ _ _ [(56,_),(13,_),(55,_),(54,_),(9,_),(8,_),(0,_),(2,_)] [_,_,_,_] [_,_,_,_,_,_,_,_,_,_]
  obtain⟨hi,hm,hq⟩:=hI
  refine rO 3 Z (yL Z Z Z ?_)
  refine oR 2 Z (zI Z (fun h57=>?_) (fun h57=>?_))
  ·refine rO 6 Z (xC 3 cX Z Z Z Z h57 ?_)
   refine zA (xB 3 cM Z Z Z (List.getElem?_eq_getElem h57) (fun A59 c59 B59 d59=>?_))
   refine zA (yA dE Z (fun b15=>?_))
   change cG _ _ _ _ _ _ _ _ (HA.blk _ [_,_,_,_,_] _::_) _
   refine zA (zG 0 (M':=[HA.blk _ [_,_,_,_,_] _,_,_,_,_]) Z Z Z Z co Z Z Z ?_)
   refine oO 6 Z (zK 0 Z cM Z Z ?_)
   refine zA (zK 1 Z cM Z Z ?_)
   refine zA ?_
   refine yG 4 Z Z Z (hA.2 own.items[i] v _ _ o3 st3 _ (ho.item _ (List.getElem_mem h57)) hv (JQ.x hq) (FA (fun y=>hA.1 y v) hN)) Z aU (fun u63 M63 D63 hv63=>?_)
   obtain⟨b63,o63,st63,rfl,rfl,rfl,hq63⟩:=hv63
   refine oK 1 [63,56,13,55,54,9,8,0,2] Z Z (yC Z (fun h63=>?_) (fun h63=>?_))
   ·refine rO 4 Z (zN Z Z aC ?_)
    refine oO 6 Z (zN Z Z aC ?_)
    refine oR 3 Z ?_
    exact kQ (hK1 (i+1,_,_,_) (⟨by show i+1≤_;omega,by show _≤i+1;omega,(by have:=pT (f:=fun y=>A y v) (List.getElem?_eq_getElem h57) hq hq63;rw [show b63=true from h63]at this;exact this)⟩) an) (eC Z (eC Z (eC Z (eC Z (eC Z (eC Z (eC Z (eC Z (eN _)))))))))
   refine rO 4 Z (zN Z Z aC ?_)
   refine oR 3 Z ?_
   exact kQ (hK1 (i+1,_,_,_) (⟨by show i+1≤_;omega,by show _≤i+1;omega,(by have:=pT (f:=fun y=>A y v) (List.getElem?_eq_getElem h57) hq hq63;rw [show b63=false from(by simpa using h63)]at this;exact this)⟩) an) (eC Z (eC Z (eC Z (eC Z (eC Z (eC Z (eC Z (eC Z (eN _)))))))))
  refine rR 15 Z (wP Z (decide_eq_true h49) ?_)
  refine rO 5 Z (zC yX Z Z ?_)
  refine zA (zF 1 c7 Z Z Z Z ?_)
  refine zA (zX cX Z Z ?_)
  refine zA (vE Z Z Z ?_)
  refine oK 3 [10] Z Z ?_
  refine yD (M':=[HA.blk jb [_,_,_,_,_,_,_] 131]) (by repeat (first|exact zQ _|refine zB 0 Z ?_|refine zB 1 Z ?_|refine zB 2 Z ?_|refine zB 3 Z ?_|refine zB 4 Z ?_|refine zB 5 Z ?_|refine zB 6 Z ?_|refine zB 7 Z ?_|refine zB 8 Z ?_)) ?_
  exact zD Tryz.results170 Z ⟨_,_,_,rfl,rfl,rfl,by rw [Hc h17 h30 h36 h49];exact by have:=JQ.map hq (fun n=>decide (n=own.items.length));rw [List.take_of_length_le aC]at this;exact this⟩ (List.Sublist.refl _) (fun _ h=>by cases h)
 refine rR 7 Z (xZ Z (fun h49_1=>?_) (fun h49_1=>?_))
 ·refine rO 11 Z (zC yX Z Z ?_)
  refine zA (zF 1 c7 Z Z Z Z ?_)
  refine zA (zX cX Z Z ?_)
  refine oK 3 [56,55,54,13,9,8,0,2] Z Z (rK 1 [56,13,55,54,9,8,0,2] Z Z ?_)
  refine yB 2 (fun(⟨i,m,o3,st3⟩:Nat×Nat×Bool×Int)=>i≤own.items.length∧m≤i∧JQ (dh (fun y=>A y v) (own.items.take i) (x.map fun k=>(0,k))) m o3 st3) (fun(⟨i,m,o3,st3⟩:Nat×Nat×Bool×Int)=>[(56, .int .i64 ((i:Nat):Int)),(13, .int .i64 ((m:Nat):Int))]) (fun(⟨i,m,o3,st3⟩:Nat×Nat×Bool×Int)=>HA.blk b9 [.int .i64 v.kind, .int .i64 v.num, .string v.text, .slice A3 v.keys.length c3, .slice B3 v.items.length d3] 25::HA.blk b8 [.int .i64 own.kind, .int .i64 own.num, .string own.text, .slice A2 own.keys.length c2, .slice B2 own.items.length d2] 25::HA.blk b6 [.int .i64 s.kind, .int .i64 s.num, .string s.text, .slice A1 s.keys.length c1, .slice B1 s.items.length d1] 25::HA.blk jb [.int .i64 w.kind, .int .i64 w.num, .string w.text, .slice Ar w.keys.length cr, .slice Br w.items.length dr, .bool o3, .int .i64 st3] 131::[]) (fun(⟨i,m,o3,st3⟩:Nat×Nat×Bool×Int)=> .strs (.slice A3 v.keys.length c3) v.keys:: .vals (.slice B3 v.items.length d3) v.items:: .strs (.slice A2 own.keys.length c2) own.keys:: .vals (.slice B2 own.items.length d2) own.items:: .strs (.slice A1 s.keys.length c1) s.keys:: .vals (.slice B1 s.items.length d1) s.items:: .val (.agg #[.int .i64 s.kind, .int .i64 s.num, .string s.text, .slice A1 s.keys.length c1, .slice B1 s.items.length d1]) s:: .val (.agg #[.int .i64 own.kind, .int .i64 own.num, .string own.text, .slice A2 own.keys.length c2, .slice B2 own.items.length d2]) own:: .val (.agg #[.int .i64 v.kind, .int .i64 v.num, .string v.text, .slice A3 v.keys.length c3, .slice B3 v.items.length d3]) v:: .val (.agg #[.int .i64 w.kind, .int .i64 w.num, .string w.text, .slice Ar w.keys.length cr, .slice Br w.items.length dr]) w::[]) (fun(⟨i,m,o3,st3⟩:Nat×Nat×Bool×Int)=>own.items.length - i) (0,0,o,st) (⟨Nat.zero_le _,Nat.le_refl _,JQ.of hx 0⟩) (eC Z (eC Z (eN _))) Z Z ?_ (eC Z (eC Z (eC Z (eC Z (eC Z (eC Z (eN _)))))))
  intro ⟨i,m,o3,st3⟩ hI K hK2
  change Run _ _ _ _ _ [(56,_),(13,_),(55,_),(54,_),(9,_),(8,_),(0,_),(2,_)] [_,_,_,_] [_,_,_,_,_,_,_,_,_,_]
  obtain⟨hi,hm,hq⟩:=hI
  refine rO 3 Z (yL Z Z Z ?_)
  refine oR 2 Z (zI Z (fun h57=>?_) (fun h57=>?_))
  ·refine rO 6 Z (xC 3 cX Z Z Z Z h57 ?_)
   refine zA (xB 3 cM Z Z Z (List.getElem?_eq_getElem h57) (fun A59 c59 B59 d59=>?_))
   refine zA (yA dE Z (fun b15=>?_))
   change cG _ _ _ _ _ _ _ _ (HA.blk _ [_,_,_,_,_] _::_) _
   refine zA (zG 0 (M':=[HA.blk _ [_,_,_,_,_] _,_,_,_,_]) Z Z Z Z co Z Z Z ?_)
   refine oO 6 Z (zK 0 Z cM Z Z ?_)
   refine zA (zK 1 Z cM Z Z ?_)
   refine zA ?_
   refine yG 4 Z Z Z (hA.2 own.items[i] v _ _ o3 st3 _ (ho.item _ (List.getElem_mem h57)) hv (JQ.x hq) (FA (fun y=>hA.1 y v) hN)) Z aU (fun u63 M63 D63 hv63=>?_)
   obtain⟨b63,o63,st63,rfl,rfl,rfl,hq63⟩:=hv63
   refine oK 1 [63,56,13,55,54,9,8,0,2] Z Z (yC Z (fun h63=>?_) (fun h63=>?_))
   ·refine rO 4 Z (zN Z Z aC ?_)
    refine oO 6 Z (zN Z Z aC ?_)
    refine oR 3 Z ?_
    exact kQ (hK2 (i+1,_,_,_) (⟨by show i+1≤_;omega,by show _≤i+1;omega,(by have:=pT (f:=fun y=>A y v) (List.getElem?_eq_getElem h57) hq hq63;rw [show b63=true from h63]at this;exact this)⟩) an) (eC Z (eC Z (eC Z (eC Z (eC Z (eC Z (eC Z (eC Z (eN _)))))))))
   refine rO 4 Z (zN Z Z aC ?_)
   refine oR 3 Z ?_
   exact kQ (hK2 (i+1,_,_,_) (⟨by show i+1≤_;omega,by show _≤i+1;omega,(by have:=pT (f:=fun y=>A y v) (List.getElem?_eq_getElem h57) hq hq63;rw [show b63=false from(by simpa using h63)]at this;exact this)⟩) an) (eC Z (eC Z (eC Z (eC Z (eC Z (eC Z (eC Z (eC Z (eN _)))))))))
  refine rR 15 Z (xA Z (decide_eq_false h49) ?_)
  refine rK 7 [75,13] Z Z (wP Z (decide_eq_true h49_1) ?_)
  refine rO 5 Z (sM Z Z Z ?_)
  refine oR 3 Z ?_
  refine yD (M':=[HA.blk jb [_,_,_,_,_,_,_] 131]) (by repeat (first|exact zQ _|refine zB 0 Z ?_|refine zB 1 Z ?_|refine zB 2 Z ?_|refine zB 3 Z ?_|refine zB 4 Z ?_|refine zB 5 Z ?_|refine zB 6 Z ?_|refine zB 7 Z ?_|refine zB 8 Z ?_)) ?_
  exact zD Tryz.results170 Z ⟨_,_,_,rfl,rfl,rfl,by rw [Hd h17 h30 h36 h49 h49_1];exact by have:=JQ.map hq (fun n=>decide (0<n));rw [List.take_of_length_le aC]at this;exact this⟩ (List.Sublist.refl _) (fun _ h=>by cases h)
 refine rR 6 Z (zI Z (fun h49_2=>?_) (fun h49_2=>?_))
 ·refine rO 9 Z (zC yX Z Z ?_)
  refine zA (zF 1 c7 Z Z Z Z ?_)
  refine zA (zX cX Z Z ?_)
  refine oK 3 [56,55,54,13,9,8,0,2] Z Z (rK 1 [56,13,55,54,9,8,0,2] Z Z ?_)
  refine yB 2 (fun(⟨i,m,o3,st3⟩:Nat×Nat×Bool×Int)=>i≤own.items.length∧m≤i∧JQ (dh (fun y=>A y v) (own.items.take i) (x.map fun k=>(0,k))) m o3 st3) (fun(⟨i,m,o3,st3⟩:Nat×Nat×Bool×Int)=>[(56, .int .i64 ((i:Nat):Int)),(13, .int .i64 ((m:Nat):Int))]) (fun(⟨i,m,o3,st3⟩:Nat×Nat×Bool×Int)=>HA.blk b9 [.int .i64 v.kind, .int .i64 v.num, .string v.text, .slice A3 v.keys.length c3, .slice B3 v.items.length d3] 25::HA.blk b8 [.int .i64 own.kind, .int .i64 own.num, .string own.text, .slice A2 own.keys.length c2, .slice B2 own.items.length d2] 25::HA.blk b6 [.int .i64 s.kind, .int .i64 s.num, .string s.text, .slice A1 s.keys.length c1, .slice B1 s.items.length d1] 25::HA.blk jb [.int .i64 w.kind, .int .i64 w.num, .string w.text, .slice Ar w.keys.length cr, .slice Br w.items.length dr, .bool o3, .int .i64 st3] 131::[]) (fun(⟨i,m,o3,st3⟩:Nat×Nat×Bool×Int)=> .strs (.slice A3 v.keys.length c3) v.keys:: .vals (.slice B3 v.items.length d3) v.items:: .strs (.slice A2 own.keys.length c2) own.keys:: .vals (.slice B2 own.items.length d2) own.items:: .strs (.slice A1 s.keys.length c1) s.keys:: .vals (.slice B1 s.items.length d1) s.items:: .val (.agg #[.int .i64 s.kind, .int .i64 s.num, .string s.text, .slice A1 s.keys.length c1, .slice B1 s.items.length d1]) s:: .val (.agg #[.int .i64 own.kind, .int .i64 own.num, .string own.text, .slice A2 own.keys.length c2, .slice B2 own.items.length d2]) own:: .val (.agg #[.int .i64 v.kind, .int .i64 v.num, .string v.text, .slice A3 v.keys.length c3, .slice B3 v.items.length d3]) v:: .val (.agg #[.int .i64 w.kind, .int .i64 w.num, .string w.text, .slice Ar w.keys.length cr, .slice Br w.items.length dr]) w::[]) (fun(⟨i,m,o3,st3⟩:Nat×Nat×Bool×Int)=>own.items.length - i) (0,0,o,st) (⟨Nat.zero_le _,Nat.le_refl _,JQ.of hx 0⟩) (eC Z (eC Z (eN _))) Z Z ?_ (eC Z (eC Z (eC Z (eC Z (eC Z (eC Z (eN _)))))))
  intro ⟨i,m,o3,st3⟩ hI K hK3
  change Run _ _ _ _ _ [(56,_),(13,_),(55,_),(54,_),(9,_),(8,_),(0,_),(2,_)] [_,_,_,_] [_,_,_,_,_,_,_,_,_,_]
  obtain⟨hi,hm,hq⟩:=hI
  refine rO 3 Z (yL Z Z Z ?_)
  refine oR 2 Z (zI Z (fun h57=>?_) (fun h57=>?_))
  ·refine rO 6 Z (xC 3 cX Z Z Z Z h57 ?_)
   refine zA (xB 3 cM Z Z Z (List.getElem?_eq_getElem h57) (fun A59 c59 B59 d59=>?_))
   refine zA (yA dE Z (fun b15=>?_))
   change cG _ _ _ _ _ _ _ _ (HA.blk _ [_,_,_,_,_] _::_) _
   refine zA (zG 0 (M':=[HA.blk _ [_,_,_,_,_] _,_,_,_,_]) Z Z Z Z co Z Z Z ?_)
   refine oO 6 Z (zK 0 Z cM Z Z ?_)
   refine zA (zK 1 Z cM Z Z ?_)
   refine zA ?_
   refine yG 4 Z Z Z (hA.2 own.items[i] v _ _ o3 st3 _ (ho.item _ (List.getElem_mem h57)) hv (JQ.x hq) (FA (fun y=>hA.1 y v) hN)) Z aU (fun u63 M63 D63 hv63=>?_)
   obtain⟨b63,o63,st63,rfl,rfl,rfl,hq63⟩:=hv63
   refine oK 1 [63,56,13,55,54,9,8,0,2] Z Z (yC Z (fun h63=>?_) (fun h63=>?_))
   ·refine rO 4 Z (zN Z Z aC ?_)
    refine oO 6 Z (zN Z Z aC ?_)
    refine oR 3 Z ?_
    exact kQ (hK3 (i+1,_,_,_) (⟨by show i+1≤_;omega,by show _≤i+1;omega,(by have:=pT (f:=fun y=>A y v) (List.getElem?_eq_getElem h57) hq hq63;rw [show b63=true from h63]at this;exact this)⟩) an) (eC Z (eC Z (eC Z (eC Z (eC Z (eC Z (eC Z (eC Z (eN _)))))))))
   refine rO 4 Z (zN Z Z aC ?_)
   refine oR 3 Z ?_
   exact kQ (hK3 (i+1,_,_,_) (⟨by show i+1≤_;omega,by show _≤i+1;omega,(by have:=pT (f:=fun y=>A y v) (List.getElem?_eq_getElem h57) hq hq63;rw [show b63=false from(by simpa using h63)]at this;exact this)⟩) an) (eC Z (eC Z (eC Z (eC Z (eC Z (eC Z (eC Z (eC Z (eN _)))))))))
  refine rR 15 Z (xA Z (decide_eq_false h49) ?_)
  refine rK 7 [75,13] Z Z (xA Z (decide_eq_false h49_1) ?_)
  refine rO 7 Z (vE (j:=1) Z Z Z ?_)
  refine oR 3 Z ?_
  refine yD (M':=[HA.blk jb [_,_,_,_,_,_,_] 131]) (by repeat (first|exact zQ _|refine zB 0 Z ?_|refine zB 1 Z ?_|refine zB 2 Z ?_|refine zB 3 Z ?_|refine zB 4 Z ?_|refine zB 5 Z ?_|refine zB 6 Z ?_|refine zB 7 Z ?_|refine zB 8 Z ?_)) ?_
  exact zD Tryz.results170 Z ⟨_,_,_,rfl,rfl,rfl,by rw [He h17 h30 h36 h49 h49_1 h49_2];exact by have:=JQ.map hq (fun n=>decide (n=1));rw [List.take_of_length_le aC]at this;exact this⟩ (List.Sublist.refl _) (fun _ h=>by cases h)
 refine rR 7 Z (zI Z (fun h81=>?_) (fun h81=>?_))
 ·refine rO 5 Z (zK 1 Z cM Z Z ?_)
  refine zA (zK 0 Z cM Z Z ?_)
  refine zA ?_
  refine yG 3 Z Z Z (hA.2 own v _ _ o st x ho hv hx hN) Z aU (fun u86 M86 D86 hv86=>?_)
  obtain⟨b86,o86,st86,rfl,rfl,rfl,hq86⟩:=hv86
  refine oK 5 [10] Z Z ?_
  refine yD (M':=[HA.blk jb [_,_,_,_,_,_,_] 131]) (by repeat (first|exact zQ _|refine zB 0 Z ?_|refine zB 1 Z ?_|refine zB 2 Z ?_|refine zB 3 Z ?_|refine zB 4 Z ?_|refine zB 5 Z ?_|refine zB 6 Z ?_|refine zB 7 Z ?_|refine zB 8 Z ?_)) ?_
  exact zD Tryz.results170 Z ⟨_,_,_,rfl,rfl,rfl,by rw [Hf h17 h30 h36 h49 h49_1 h49_2 h81];exact JQ.map hq86 (fun b=> !b)⟩ (List.Sublist.refl _) (fun _ h=>by cases h)
 refine rO 7 Z (zK 0 Z cM Z Z ?_)
 refine zA (zL Z Z Z (N6 v _) aA ?_)
 refine oK 3 [88,9,8,6,0,2] Z Z (yC Z (fun h88=>?_) (fun h88=>?_))
 ·refine rO 3 Z (zK 2 Z cM Z Z ?_)
  refine oO 3 Z (zK 1 Z cM Z Z ?_)
  refine zA (zK 0 Z cM Z Z ?_)
  refine zA (zL Z Z Z (QM s own v _ _ _ key hs ho hv) aU ?_)
  refine oK 3 [10] Z Z ?_
  refine yD (M':=[HA.blk jb [_,_,_,_,_,_,_] 131]) (by repeat (first|exact zQ _|refine zB 0 Z ?_|refine zB 1 Z ?_|refine zB 2 Z ?_|refine zB 3 Z ?_|refine zB 4 Z ?_|refine zB 5 Z ?_|refine zB 6 Z ?_|refine zB 7 Z ?_|refine zB 8 Z ?_)) ?_
  exact zD Tryz.results170 Z ⟨_,_,_,rfl,rfl,rfl,hx.pure fun k=>OE ⟨h17,h30,h36,h49,h49_1,h49_2,h81⟩ (yS.1 h88) k⟩ (List.Sublist.refl _) (fun _ h=>by cases h)
 refine rO 3 Z (zC wC Z Z ?_)
 refine zA (zF 0 dx Z Z Z Z ?_)
 refine oR 5 Z (zI Z (fun h96=>?_) (fun h96=>?_))
 ·refine rK 13 [101,100,9,8] Z Z (zI Z (fun h101=>?_) (fun h101=>?_))
  ·refine rO 3 Z (zC tE Z Z ?_)
   refine zA (zF 0 dO Z Z Z Z ?_)
   refine zA (xF eL Z Z ?_)
   refine zA (zC wZ Z Z ?_)
   refine zA (zF 1 dx Z Z Z Z ?_)
   refine zA (sE Z Z Z ?_)
   refine oK 3 [10] Z Z ?_
   refine yD (M':=[HA.blk jb [_,_,_,_,_,_,_] 131]) (by repeat (first|exact zQ _|refine zB 0 Z ?_|refine zB 1 Z ?_|refine zB 2 Z ?_|refine zB 3 Z ?_|refine zB 4 Z ?_|refine zB 5 Z ?_|refine zB 6 Z ?_|refine zB 7 Z ?_|refine zB 8 Z ?_)) ?_
   exact zD Tryz.results170 Z ⟨_,_,_,rfl,rfl,rfl,hx.pure fun k=>by rw [LP ⟨h17,h30,h36,h49,h49_1,h49_2,h81⟩ (xH.1 bn) h96];unfold oF;rw [if_pos h101,fQ]⟩ (List.Sublist.refl _) (fun _ h=>by cases h)
  refine rR 7 Z (zI Z (fun h109=>?_) (fun h109=>?_))
  ·refine rO 3 Z (zC tE Z Z ?_)
   refine zA (zF 0 dO Z Z Z Z ?_)
   refine zA (xF eL Z Z ?_)
   refine zA (zC wZ Z Z ?_)
   refine zA (zF 1 dx Z Z Z Z ?_)
   refine zA (uA Z Z Z ?_)
   refine oK 3 [10] Z Z ?_
   refine yD (M':=[HA.blk jb [_,_,_,_,_,_,_] 131]) (by repeat (first|exact zQ _|refine zB 0 Z ?_|refine zB 1 Z ?_|refine zB 2 Z ?_|refine zB 3 Z ?_|refine zB 4 Z ?_|refine zB 5 Z ?_|refine zB 6 Z ?_|refine zB 7 Z ?_|refine zB 8 Z ?_)) ?_
   exact zD Tryz.results170 Z ⟨_,_,_,rfl,rfl,rfl,hx.pure fun k=>by rw [LP ⟨h17,h30,h36,h49,h49_1,h49_2,h81⟩ (xH.1 bn) h96];unfold oF;rw [if_neg h101,if_pos h109,fQ]⟩ (List.Sublist.refl _) (fun _ h=>by cases h)
  refine rR 8 Z ?_
  refine yD (M':=[HA.blk jb [_,_,_,_,_,_,_] 131]) (by repeat (first|exact zQ _|refine zB 0 Z ?_|refine zB 1 Z ?_|refine zB 2 Z ?_|refine zB 3 Z ?_|refine zB 4 Z ?_|refine zB 5 Z ?_|refine zB 6 Z ?_|refine zB 7 Z ?_|refine zB 8 Z ?_)) ?_
  exact zD Tryz.results170 Z ⟨_,_,_,rfl,rfl,rfl,hx.pure fun k=>by rw [LP ⟨h17,h30,h36,h49,h49_1,h49_2,h81⟩ (xH.1 bn) h96];unfold oF;rw [if_neg h101,if_neg h109]⟩ (List.Sublist.refl _) (fun _ h=>by cases h)
 refine rO 3 Z (zC wC Z Z ?_)
 refine zA (zF 0 dx Z Z Z Z ?_)
 refine oR 5 Z (zI Z (fun h117=>?_) (fun h117=>?_))
 ·refine rO 5 Z (zK 2 Z cM Z Z ?_)
  refine oO 3 Z (zK 1 Z cM Z Z ?_)
  refine zA (zK 0 Z cM Z Z ?_)
  refine zA ?_
  refine yG 3 Z Z Z (QP jb w Ar Br cr dr N A hA o st s own v _ _ _ key hs ho hv x hx hN) Z aT (fun u126 M126 D126 hv126=>?_)
  obtain⟨b126,o126,st126,rfl,rfl,rfl,hq126⟩:=hv126
  refine oK 3 [10] Z Z ?_
  refine yD (M':=[HA.blk jb [_,_,_,_,_,_,_] 131]) (by repeat (first|exact zQ _|refine zB 0 Z ?_|refine zB 1 Z ?_|refine zB 2 Z ?_|refine zB 3 Z ?_|refine zB 4 Z ?_|refine zB 5 Z ?_|refine zB 6 Z ?_|refine zB 7 Z ?_|refine zB 8 Z ?_)) ?_
  exact zD Tryz.results170 Z ⟨_,_,_,rfl,rfl,rfl,by rw [OF ⟨h17,h30,h36,h49,h49_1,h49_2,h81⟩ (xH.1 bn) h96 h117];exact hq126⟩ (List.Sublist.refl _) (fun _ h=>by cases h)
 refine rO 3 Z (zC wC Z Z ?_)
 refine zA (zF 0 dx Z Z Z Z ?_)
 refine oK 5 [127,9,8,6,0,2] Z Z (zI Z (fun h127=>?_) (fun h127=>?_))
 ·refine rO 5 Z (zK 2 Z cM Z Z ?_)
  refine oO 3 Z (zK 1 Z cM Z Z ?_)
  refine zA (zK 0 Z cM Z Z ?_)
  refine zA ?_
  refine yG 3 Z Z Z (c195 hM jb w Ar Br cr dr N A hA o st s own v _ _ _ key hs ho hv x hx hN) Z aT (fun u136 M136 D136 hv136=>?_)
  obtain⟨b136,o136,st136,rfl,rfl,rfl,hq136⟩:=hv136
  refine oK 3 [10] Z Z ?_
  refine yD (M':=[HA.blk jb [_,_,_,_,_,_,_] 131]) (by repeat (first|exact zQ _|refine zB 0 Z ?_|refine zB 1 Z ?_|refine zB 2 Z ?_|refine zB 3 Z ?_|refine zB 4 Z ?_|refine zB 5 Z ?_|refine zB 6 Z ?_|refine zB 7 Z ?_|refine zB 8 Z ?_)) ?_
  exact zD Tryz.results170 Z ⟨_,_,_,rfl,rfl,rfl,by rw [OG ⟨h17,h30,h36,h49,h49_1,h49_2,h81⟩ (xH.1 bn) h96 h117 h127];exact hq136⟩ (List.Sublist.refl _) (fun _ h=>by cases h)
 refine rR 7 Z ?_
 refine yD (M':=[HA.blk jb [_,_,_,_,_,_,_] 131]) (by repeat (first|exact zQ _|refine zB 0 Z ?_|refine zB 1 Z ?_|refine zB 2 Z ?_|refine zB 3 Z ?_|refine zB 4 Z ?_|refine zB 5 Z ?_|refine zB 6 Z ?_|refine zB 7 Z ?_|refine zB 8 Z ?_)) ?_
 exact zD Tryz.results170 Z ⟨_,_,_,rfl,rfl,rfl,hx.pure fun k=>OH ⟨h17,h30,h36,h49,h49_1,h49_2,h81⟩ (xH.1 bn) h96 h117 h127 k⟩ (List.Sublist.refl _) (fun _ h=>by cases h)
theorem Ai(w:V): ∀ (n:Nat) (s v:V),iL (dW w n s v):=by
  intro n
  induction n with
  |zero=>intro s v k r h;cases h
  |succ n ih=>
    intro s v k r h
    rw [dW]at h
    dsimp only at h
    split at h
    · cases h
    · split at h
      · split at h
        · cases h
        · have:=ih _ _ _ _ h;omega
      · have:=all_le (fun p:ByteArray×V=>JK ih s p.1 p.2 v) (s.keys.zip s.items) true (k - 1) r h
        omega
theorem OL{w s v:V}{N:Nat}{x:Option Nat}(h: ∀ k,x=some k→k=0):x.bind (dW w N s v)=none:=by
  cases x with
  |none=>rfl
  |some k=>
    obtain rfl:=h k rfl
    show dW w N s v 0=none
    cases N with
    |zero=>rfl
    |succ n=>rw [dW];exact if_pos rfl
theorem Hi{x:Option Nat}{o:Bool}{st:Int}(hx:JX x o st)(h:o=true):x=none:=by
  cases x with
  |none=>rfl
  |some k=>have:=hx.1;rw [h]at this;cases this
theorem Hj{x:Option Nat}{st:Int}(hx:JX x false st): ∃k:Nat,x=some k∧st=(k:Int):=by
  cases x with
  |none=>have:false=true:=hx;cases this
  |some k=>exact⟨k,rfl,hx.2⟩
theorem nW{w s v rf:V}{n k:Nat}(hk:k≠0)(hg:getV s k3=some rf)(hp:PtV w rf.text=none):dW w (n+1) s v k=none:=by
 rw [dW];dsimp only;rw [if_neg hk,hg];dsimp only;rw [hp]
theorem jy{w s v rf tz:V}{n k:Nat}(hk:k≠0)(hg:getV s k3=some rf)(hp:PtV w rf.text=some tz):dW w (n+1) s v k=dW w n tz v (k - 1):=by
 rw [dW];dsimp only;rw [if_neg hk,hg];dsimp only;rw [hp]
theorem gM{w s v:V}{n k:Nat}(hk:k≠0)(hg:getV s k3=none):dW w (n+1) s v k=cx (fun p:ByteArray×V=>ec (dW w n) s p.1 p.2 v) (s.keys.zip s.items) ((some (k - 1)).map fun k=>(true,k)):=by
 rw [dW];dsimp only;rw [if_neg hk,hg];rfl
theorem sU{v z:V}{key:ByteArray}(hz:z=(getV v key).getD zV)(h:(getV v key).isSome=true):getV v key=some z:=by
  rw [hz]
  cases hg:getV v key with
  |none=>rw [hg]at h;cases h
  |some a=>rfl
theorem kX{α:Type}{o:Option α}(h: ¬ o.isSome=true):o=none:=by
  cases o with
  |none=>rfl
  |some a=>exact absurd rfl h
theorem vz{v z:V}{ref:ByteArray}(hz:z=(PtV v ref).getD zV)(h:(PtV v ref).isSome=true):PtV v ref=some z:=by
  rw [hz]
  cases hg:PtV v ref with
  |none=>rw [hg]at h;cases h
  |some a=>rfl
theorem JL{v z:V}{ref:ByteArray}(hv:Pl v)(h:PtV v ref=some z):Pl z:=by
  unfold PtV at h
  cases hh:eU (s7 v) ref with
  |none=>rw [hh]at h;cases h
  |some p=>
    rw [hh,Option.bind_some]at h
    cases hg:getV v p.2 with
    |none=>rw [hg]at h;cases h
    |some a=>
      rw [hg,Option.bind_some]at h
      exact(hv.item _ (vX hg)).item _ (vX h)
open Classical in
noncomputable def lR(K:Nat)(w v:V):Option Bool:=if dC w∧ea v then(dW w (K+1) w v K).map (·.1)else none
def TB(r:Option Bool)(b t:Bool):Prop:=match r with
  |none=>t=false
  |some b'=>t=true∧b=b'
theorem sj{K:Nat}{w v:V}(h: ¬ (dC w∧ea v)):lR K w v=none:=if_neg h
theorem FI{K:Nat}{w v:V}{b o:Bool}{st:Int}(h:dC w∧ea v)(hq:JQ ((some K).bind (dW w (K+1) w v)) b o st):TB (lR K w v) b (!o):=by
  unfold lR
  rw [if_pos h]
  have hq:JQ (dW w (K+1) w v K) b o st:=hq
  cases hm:dW w (K+1) w v K with
  |none=>rw [hm]at hq;have hq:o=true:=hq;subst hq;exact rfl
  |some q=>rw [hm]at hq;obtain⟨h1,h2,_⟩:=hq;subst h2;exact⟨rfl,h1⟩
set_option maxHeartbeats 1000000 in
theorem JM(hM:oG)(jb:Nat)(w:V)(Ar Br:Option Addr)(cr dr:Nat)(hw:Pl w)(N:Nat)(hNb:N≤10000)(hIH: ∀ n,N=n+1→JA jb w Ar Br cr dr n (dW w n))(o:Bool)(st:Int)(s v:V)(xs xv:Value)(hs:Pl s)(hv:Pl v)(x:Option Nat)(hx:JX x o st)(hN: ∀ k,x=some k→k<N):Ct Tryz.prog 115 #[ptr jb,xs,xv] [.blk jb [.int .i64 w.kind, .int .i64 w.num, .string w.text, .slice Ar w.keys.length cr, .slice Br w.items.length dr, .bool o, .int .i64 st] 131] [.val xs s, .val xv v, .val (.agg #[.int .i64 w.kind, .int .i64 w.num, .string w.text, .slice Ar w.keys.length cr, .slice Br w.items.length dr]) w] (JR jb w Ar Br cr dr (x.bind (dW w N s v))):=by
 refine Ct.of_run (args:=[ptr jb,xs,xv]) Tryz.func115 aF Z Tryz.ntmps115 Z (fun c=>?_)
 refine yN 0 Z (fun A1 c1 B1 d1 hx1 hsz1 hk1 hl1 hi1 hj1=>?_)
 subst hx1
 refine yN 3 Z (fun A3 c3 B3 d3 hx3 hsz3 hk3 hl3 hi3 hj3=>?_)
 subst hx3
 have hsle:=hs.wf.le
 have hkl:=hs.wf.kl
 unfold JR
 refine rO 3 Z (yK Z Z Z (fun b4=>?_))
 refine zA (yK Z Z Z (fun b5=>?_))
 refine oO 11 Z (zC qg Z Z ?_)
 refine zA (zF 2 lL Z Z Z Z ?_)
 refine zA (qb Z Z Z ?_)
 obtain⟨s1,hs1⟩: ∃s1,s1=IntKind.i64.wrap (st - 1):=⟨_,rfl⟩
 rw [←hs1]
 have hs1k: ∀ k,x=some k→s1=(k:Int) - 1:=fun k hk=>by
  have hlt:=hN k hk
  rw [hk]at hx
  rw [hs1,hx.2]
  exact vU aC aC
 refine oO 3 Z (zC qg Z Z ?_)
 refine zA (zG 2 (M':=[_,_,HA.blk _ [_,_,_,_,_,_,_] _]) Z Z Z Z s6 Z Z Z ?_)
 refine oK 1 [5,4,0] Z Z (rO 7 Z ?_)
 refine zC qg Z Z (zA ?_)
 refine zF 2 lL Z Z Z Z (zA ?_)
 refine wI Z Z Z (yO ?_)
 refine zI Z (fun h25=>?_) (fun h25=>?_)
 ·refine rO 6 Z (zC rE Z Z ?_)
  refine zA (zG 2 (M':=[_,_,HA.blk _ [_,_,_,_,_,_,_] _]) Z Z Z Z mH Z Z Z ?_)
  refine oO 9 Z (zC rE Z Z ?_)
  refine zA (zF 2 lX Z Z Z Z ?_)
  refine oK 1 [32,5,4,0] Z Z (yC Z (fun h32=>?_) (fun h32=>?_))
  ·refine rR 5 Z ?_
   refine yD (M':=[HA.blk jb [_,_,_,_,_,_,_] 131]) (by repeat (first|exact zQ _|refine zB 0 Z ?_|refine zB 1 Z ?_|refine zB 2 Z ?_|refine zB 3 Z ?_|refine zB 4 Z ?_|refine zB 5 Z ?_|refine zB 6 Z ?_|refine zB 7 Z ?_|refine zB 8 Z ?_)) ?_
   exact zD Tryz.results115 Z ⟨_,_,_,rfl,rfl,rfl,by rw [OL (fun k hk=>by have:=hs1k k hk;omega)];exact rfl⟩ (List.Sublist.refl _) (fun _ h=>by cases h)
  cases h32
 refine rO 9 Z (zC rE Z Z ?_)
 refine zA (zF 2 lX Z Z Z Z ?_)
 refine yO (yC Z (fun h32=>?_) (fun h32=>?_))
 ·refine rK 5 [6] Z Z ?_
  refine yD (M':=[HA.blk jb [_,_,_,_,_,_,_] 131]) (by repeat (first|exact zQ _|refine zB 0 Z ?_|refine zB 1 Z ?_|refine zB 2 Z ?_|refine zB 3 Z ?_|refine zB 4 Z ?_|refine zB 5 Z ?_|refine zB 6 Z ?_|refine zB 7 Z ?_|refine zB 8 Z ?_)) ?_
  exact zD Tryz.results115 Z ⟨_,_,_,rfl,rfl,rfl,by rw [Hi hx h32];exact h32⟩ (List.Sublist.refl _) (fun _ h=>by cases h)
 obtain rfl:o=false:=by simpa using h32
 obtain⟨k,rfl,hstk⟩:=Hj hx
 have hk1:=hs1k k rfl
 have hkN:=hN k rfl
 obtain⟨n,rfl⟩: ∃n,N=n+1:=⟨N - 1,aC⟩
 have hA:=hIH n rfl
 have hk0:k≠0:=by omega
 have hN2: ∀ q,some (k - 1)=some q→q<n:=fun q hq=>by injection hq with hq;omega
 have hjx:JX (some (k - 1)) false s1:=⟨rfl,aC⟩
 refine rO 5 Z (zK 1 Z cM Z Z ?_)
 refine zA ?_
 refine yE Z Z Z (oE _ s k3 hsle) aA (fun u35 D35 hv35=>?_)
 obtain⟨rf,hrf⟩: ∃rf,rf=(getV s k3).getD zV:=⟨_,rfl⟩
 rw [←hrf]at hv35
 obtain⟨_,rfl,A35,m35,B35,d35,rfl,rfl⟩:=hv35
 refine oO 7 Z (yA dE Z (fun b7=>?_))
 change cG _ _ _ _ _ _ _ _ (HA.blk _ [_,_,_,_,_] _::_) _
 refine zA (zG 0 (M':=[HA.blk _ [_,_,_,_,_] _,_,_,_]) Z Z Z Z co Z Z Z ?_)
 refine oK 3 [8,7,5,4,0] Z Z (rR 5 Z ?_)
 refine yC Z (fun h38=>?_) (fun h38=>?_)
 ·have hg3:getV s k3=some rf:=sU hrf h38
  refine xD (yW yM ?_)
  refine zO (tP 0 Z cF (zP Z) ?_)
  refine tP 1 Z cF (yQ Z) (tP 2 Z cF (zZ F6 Z) ?_)
  refine tP 4 Z cF (zZ tE Z) (yF ?_)
  refine tM 3 Z cF (Cm 3 Z cM Z Z Z) (tM 5 Z cF (yT 0 dO Z Z Z) ?_)
  refine tN (rs:=[6,10]) aD aJ ?_
  intro j hj
  simp only [List.mem_cons,List.not_mem_nil,or_false]at hj
  rcases hj with rfl|rfl
  ·refine zT (I2:=[[],[],[]]) Z cF aD (fun Kd hKd=>?_)
   refine yE Z Z Z (RJ w _ rf.text hw (by have:=jw (hs.item _ (vX hg3));unfold maxLen;omega)) aA (fun u46 D46 hv46=>?_)
   obtain⟨tz,htz⟩: ∃tz,tz=(PtV w rf.text).getD zV:=⟨_,rfl⟩
   rw [←htz]at hv46
   obtain⟨_,rfl,A46,m46,B46,d46,rfl,rfl⟩:=hv46
   refine hKd _ _ _ (zE (zE (zE (zU)))) (zO ?_)
   refine tP 7 Z cF (zP Z) (tP 8 Z cF (sT Z Z) ?_)
   refine tP 9 Z cF (sT Z Z) (zS 10 aD ?_)
   refine zT (I2:=[[9,8,7],[],[],[]]) Z cF aD (fun Kd hKd=>?_)
   refine yA dE Z (fun b9=>?_)
   change cG _ _ _ _ _ _ _ _ (HA.blk _ [_,_,_,_,_] _::_) _
   refine hKd _ _ _ (hC (zE (zE (zE (zU))))) (zS 11 aD ?_)
   refine zT (I2:=[[9],[],[],[]]) Z cF aD (fun Kd hKd=>?_)
   refine zG 0 (M':=[HA.blk _ [_,_,_,_,_] _,_,_,_,_]) Z Z Z Z co Z Z Z (hKd _ _ _ (hC (zE (zE (zE (zU))))) ?_)
   refine tP 12 Z cF (yP Z) (yJ aD ?_)
   refine rK 0 [10,9,5,0] Z Z (rR 8 Z ?_)
   refine yC Z (fun h50=>?_) (fun h50=>?_)
   ·refine rO 7 Z (zC rE Z Z ?_)
    refine zA (zG 4 (M':=[_,_,_,_,HA.blk _ [_,_,_,_,_,_,_] _]) Z Z Z Z mH Z Z Z ?_)
    refine oK 1 [] Z Z (rR 5 Z ?_)
    refine yD (M':=[HA.blk jb [_,_,_,_,_,_,_] 131]) (by repeat (first|exact zQ _|refine zB 0 Z ?_|refine zB 1 Z ?_|refine zB 2 Z ?_|refine zB 3 Z ?_|refine zB 4 Z ?_|refine zB 5 Z ?_|refine zB 6 Z ?_|refine zB 7 Z ?_|refine zB 8 Z ?_)) ?_
    exact zD Tryz.results115 Z ⟨_,_,_,rfl,rfl,rfl,by show JQ (dW w (n+1) s v k) _ _ _;rw [nW hk0 hg3 (kX bp)];exact rfl⟩ (List.Sublist.refl _) (fun _ h=>by cases h)
   have hpt:PtV w rf.text=some tz:=vz htz bp
   have hplt:=JL hw hpt
   refine rO 6 Z (zK 0 Z cM Z Z ?_)
   refine zA (zK 2 Z cM Z Z ?_)
   refine zA ?_
   refine yG 4 Z Z Z (hA.2 tz v _ _ false s1 _ hplt hv hjx hN2) Z aU (fun u57 M57 D57 hv57=>?_)
   obtain⟨b57,o57,st57,rfl,rfl,rfl,hq57⟩:=hv57
   refine oK 3 [6] Z Z ?_
   refine yD (M':=[HA.blk jb [_,_,_,_,_,_,_] 131]) (by repeat (first|exact zQ _|refine zB 0 Z ?_|refine zB 1 Z ?_|refine zB 2 Z ?_|refine zB 3 Z ?_|refine zB 4 Z ?_|refine zB 5 Z ?_|refine zB 6 Z ?_|refine zB 7 Z ?_|refine zB 8 Z ?_)) ?_
   exact zD Tryz.results115 Z ⟨_,_,_,rfl,rfl,rfl,by show JQ (dW w (n+1) s v k) _ _ _;rw [jy hk0 hg3 hpt];exact hq57⟩ (List.Sublist.refl _) (fun _ h=>by cases h)
  refine zT (I2:=[[5,3],[4,2,1,0],[]]) Z cF aD (fun Kd hKd=>?_)
  refine yA dE Z (fun b9=>?_)
  change cG _ _ _ _ _ _ _ _ (HA.blk _ [_,_,_,_,_] _::_) _
  refine hKd _ _ _ (hC (hC (zE (zU)))) (zS 6 aD ?_)
  refine zT (I2:=[[],[],[]]) Z cF aD (fun Kd hKd=>?_)
  refine yE Z Z Z (RJ w _ rf.text hw (by have:=jw (hs.item _ (vX hg3));unfold maxLen;omega)) aA (fun u46 D46 hv46=>?_)
  obtain⟨tz,htz⟩: ∃tz,tz=(PtV w rf.text).getD zV:=⟨_,rfl⟩
  rw [←htz]at hv46
  obtain⟨_,rfl,A46,m46,B46,d46,rfl,rfl⟩:=hv46
  refine hKd _ _ _ (zE (zE (zE (zU)))) (zO ?_)
  refine tP 7 Z cF (zP Z) (tP 8 Z cF (sT Z Z) ?_)
  refine tP 9 Z cF (sT Z Z) (zS 11 aD ?_)
  refine zT (I2:=[[9],[],[],[]]) Z cF aD (fun Kd hKd=>?_)
  refine zG 0 (M':=[HA.blk _ [_,_,_,_,_] _,_,_,_,_]) Z Z Z Z co Z Z Z (hKd _ _ _ (hC (zE (zE (zE (zU))))) ?_)
  refine tP 12 Z cF (yP Z) (yJ aD ?_)
  refine rK 0 [10,9,5,0] Z Z (rR 8 Z ?_)
  refine yC Z (fun h50=>?_) (fun h50=>?_)
  ·refine rO 7 Z (zC rE Z Z ?_)
   refine zA (zG 4 (M':=[_,_,_,_,HA.blk _ [_,_,_,_,_,_,_] _]) Z Z Z Z mH Z Z Z ?_)
   refine oK 1 [] Z Z (rR 5 Z ?_)
   refine yD (M':=[HA.blk jb [_,_,_,_,_,_,_] 131]) (by repeat (first|exact zQ _|refine zB 0 Z ?_|refine zB 1 Z ?_|refine zB 2 Z ?_|refine zB 3 Z ?_|refine zB 4 Z ?_|refine zB 5 Z ?_|refine zB 6 Z ?_|refine zB 7 Z ?_|refine zB 8 Z ?_)) ?_
   exact zD Tryz.results115 Z ⟨_,_,_,rfl,rfl,rfl,by show JQ (dW w (n+1) s v k) _ _ _;rw [nW hk0 hg3 (kX bp)];exact rfl⟩ (List.Sublist.refl _) (fun _ h=>by cases h)
  have hpt:PtV w rf.text=some tz:=vz htz bp
  have hplt:=JL hw hpt
  refine rO 6 Z (zK 0 Z cM Z Z ?_)
  refine zA (zK 2 Z cM Z Z ?_)
  refine zA ?_
  refine yG 4 Z Z Z (hA.2 tz v _ _ false s1 _ hplt hv hjx hN2) Z aU (fun u57 M57 D57 hv57=>?_)
  obtain⟨b57,o57,st57,rfl,rfl,rfl,hq57⟩:=hv57
  refine oK 3 [6] Z Z ?_
  refine yD (M':=[HA.blk jb [_,_,_,_,_,_,_] 131]) (by repeat (first|exact zQ _|refine zB 0 Z ?_|refine zB 1 Z ?_|refine zB 2 Z ?_|refine zB 3 Z ?_|refine zB 4 Z ?_|refine zB 5 Z ?_|refine zB 6 Z ?_|refine zB 7 Z ?_|refine zB 8 Z ?_)) ?_
  exact zD Tryz.results115 Z ⟨_,_,_,rfl,rfl,rfl,by show JQ (dW w (n+1) s v k) _ _ _;rw [jy hk0 hg3 hpt];exact hq57⟩ (List.Sublist.refl _) (fun _ h=>by cases h)
 have hg3:getV s k3=none:=kX (by simpa using h38)
 refine rO 10 Z (zC xM Z Z ?_)
 refine zA (zF 2 dV Z Z Z Z ?_)
 refine zA (zX cV Z Z ?_)
 refine oK 4 [61,11,60,59,5,4,0] Z Z (tR (D':= .strs (.slice A1 s.keys.length c1) s.keys:: .vals (.slice B1 s.items.length d1) s.items:: .val (.agg #[.int .i64 s.kind, .int .i64 s.num, .string s.text, .slice A1 s.keys.length c1, .slice B1 s.items.length d1]) s:: .val (.agg #[.int .i64 v.kind, .int .i64 v.num, .string v.text, .slice A3 v.keys.length c3, .slice B3 v.items.length d3]) v:: .val (.agg #[.int .i64 w.kind, .int .i64 w.num, .string w.text, .slice Ar w.keys.length cr, .slice Br w.items.length dr]) w::[]) sQ ?_)
 refine yB 2 (fun(⟨i,g,o3,st3⟩:Nat×Bool×Bool×Int)=>i≤s.keys.length∧JQ (cx (fun p:ByteArray×V=>ec (dW w n) s p.1 p.2 v) ((s.keys.zip s.items).take i) ((some (k - 1)).map fun k=>(true,k))) g o3 st3) (fun(⟨i,g,o3,st3⟩:Nat×Bool×Bool×Int)=>[(61, .int .i64 ((i:Nat):Int)),(11, .bool g)]) (fun(⟨i,g,o3,st3⟩:Nat×Bool×Bool×Int)=>HA.blk b7 [.int .i64 rf.kind, .int .i64 rf.num, .string rf.text, .slice A35 rf.keys.length m35, .slice B35 rf.items.length d35] 25::HA.blk b5 [.int .i64 v.kind, .int .i64 v.num, .string v.text, .slice A3 v.keys.length c3, .slice B3 v.items.length d3] 25::HA.blk b4 [.int .i64 s.kind, .int .i64 s.num, .string s.text, .slice A1 s.keys.length c1, .slice B1 s.items.length d1] 25::HA.blk jb [.int .i64 w.kind, .int .i64 w.num, .string w.text, .slice Ar w.keys.length cr, .slice Br w.items.length dr, .bool o3, .int .i64 st3] 131::[]) (fun(⟨i,g,o3,st3⟩:Nat×Bool×Bool×Int)=> .strs (.slice A1 s.keys.length c1) s.keys:: .vals (.slice B1 s.items.length d1) s.items:: .val (.agg #[.int .i64 s.kind, .int .i64 s.num, .string s.text, .slice A1 s.keys.length c1, .slice B1 s.items.length d1]) s:: .val (.agg #[.int .i64 v.kind, .int .i64 v.num, .string v.text, .slice A3 v.keys.length c3, .slice B3 v.items.length d3]) v:: .val (.agg #[.int .i64 w.kind, .int .i64 w.num, .string w.text, .slice Ar w.keys.length cr, .slice Br w.items.length dr]) w::[]) (fun(⟨i,g,o3,st3⟩:Nat×Bool×Bool×Int)=>s.keys.length - i) (0,true,false,s1) (⟨Nat.zero_le _,JQ.of hjx true⟩) (eC Z (eC Z (eN _))) Z Z ?_ (eC Z (eC Z (eC Z (eC Z (eC Z (eN _))))))
 intro ⟨i,g,o3,st3⟩ hI K hK
 change Run _ _ _ _ _ [(61,_),(11,_),(60,_),(59,_),(5,_),(4,_),(0,_)] [_,_,_,_] [_,_,_,_,_]
 obtain⟨hi,hq⟩:=hI
 refine rO 3 Z (yL Z Z Z ?_)
 refine oR 2 Z (zI Z (fun h62=>?_) (fun h62=>?_))
 ·refine rO 8 Z (xS 0 cV Z Z Z Z h62 ?_)
  refine zA (yR dO Z Z (fun _ h=>xO h (j:=0) Z (List.getElem?_eq_getElem h62)) ?_)
  refine oR 6 Z (yW yM ?_)
  refine zO (tP 0 Z cF (zP Z) ?_)
  refine tP 2 Z cF (zP Z) (tP 3 Z cF (zZ yX Z) ?_)
  refine tP 5 Z cF (zP Z) (yF ?_)
  refine tM 1 Z cF (vD 2 Z cM Z) (tM 4 Z cF (yT 2 c7 Z Z Z) ?_)
  refine tM 6 Z cF (wJ 1 cX Z Z Z (show i<s.items.length by omega)) ?_
  refine uZ 1 Z (List.getElem?_eq_getElem (show i<s.items.length by omega)) (fun A73 m73 B73 d73=>?_)
  refine yF (tM 7 Z cF (vN 0 Z cM Z Z) ?_)
  refine tM 8 Z cF (vD 1 Z cM Z) (zS 9 aD ?_)
  refine zT (I2:=[[],[],[],[]]) Z cF aD (fun Kd hKd=>?_)
  refine yG 3 Z Z Z (QR hM jb w Ar Br cr dr n (dW w n) hA o3 st3 s (s.items[i]'aC) v _ _ _ s.keys[i] hs (hs.item _ (List.getElem_mem _)) hv _ (JQ.x hq) (pg (fun p:ByteArray×V=>JK hA.1 s p.1 p.2 v) hN2)) Z aT (fun u75 M75 D75 hv75=>?_)
  obtain⟨b75,o75,st75,rfl,rfl,rfl,hq75⟩:=hv75
  refine hKd _ _ _ (zE (zE (zE (zE (zU))))) (zO ?_)
  refine tP 10 Z cF (qf Z) (yJ aD ?_)
  refine rK 0 [76,61,11,60,59,5,4,0] Z Z (yC Z (fun h76=>?_) (fun h76=>?_))
  ·refine rO 7 Z (zN Z Z aC ?_)
   refine oR 3 Z ?_
   exact kQ (hK (i+1,_,_,_) (⟨by show i+1≤_;omega,(by have:=vB (f:=(fun p:ByteArray×V=>ec (dW w n) s p.1 p.2 v)) (qH h62 aC) hq hq75;rw [show b75=false from(by simpa using h76)]at this;exact this)⟩) (by show s.keys.length - (i+1)<s.keys.length - i;omega)) (eC Z (eC Z (eC Z (eC Z (eC Z (eC Z (eC Z (eN _))))))))
  refine rO 4 Z (zN Z Z aC ?_)
  refine oR 3 Z ?_
  exact kQ (hK (i+1,_,_,_) (⟨by show i+1≤_;omega,(by have:=vB (f:=(fun p:ByteArray×V=>ec (dW w n) s p.1 p.2 v)) (qH h62 aC) hq hq75;rw [show b75=true from(by simpa using h76)]at this;exact this)⟩) (by show s.keys.length - (i+1)<s.keys.length - i;omega)) (eC Z (eC Z (eC Z (eC Z (eC Z (eC Z (eC Z (eN _))))))))
 refine rK 8 [6] Z Z ?_
 refine yD (M':=[HA.blk jb [_,_,_,_,_,_,_] 131]) (by repeat (first|exact zQ _|refine zB 0 Z ?_|refine zB 1 Z ?_|refine zB 2 Z ?_|refine zB 3 Z ?_|refine zB 4 Z ?_|refine zB 5 Z ?_|refine zB 6 Z ?_|refine zB 7 Z ?_|refine zB 8 Z ?_)) ?_
 exact zD Tryz.results115 Z ⟨_,_,_,rfl,rfl,rfl,by show JQ (dW w (n+1) s v k) _ _ _;rw [gM hk0 hg3];rw [ph hsle aC]at hq;exact hq⟩ (List.Sublist.refl _) (fun _ h=>by cases h)
theorem QS(hM:oG)(jb:Nat)(w:V)(Ar Br:Option Addr)(cr dr:Nat)(hw:Pl w): ∀ N,N≤10000→JA jb w Ar Br cr dr N (dW w N):=by
  intro N
  induction N with
  |zero=>exact fun hb=>⟨Ai w 0,fun s v xs xv o st x hs hv hx hN=>JM hM jb w Ar Br cr dr hw 0 hb (fun n h=>by cases h) o st s v xs xv hs hv x hx hN⟩
  |succ n ih=>exact fun hb=>⟨Ai w (n+1),fun s v xs xv o st x hs hv hx hN=>JM hM jb w Ar Br cr dr hw (n+1) hb (fun m h=>by obtain rfl:n=m:=aC;exact ih aC) o st s v xs xv hs hv x hx hN⟩
theorem RK(hM:oG)(K:Nat)(hK:K≤9000)(w v:V)(xw xv:Value):CtR Tryz.prog 77 #[xw,xv, .int .i64 ((K:Nat):Int)] [.val xw w, .val xv v] (fun u D'=> ∃b t,u= .tuple #[.bool b, .bool t]∧D'=[]∧TB (lR K w v) b t):=by
 refine Ct.of_run (args:=[xw,xv, .int .i64 ((K:Nat):Int)]) Tryz.func77 aF Z Tryz.ntmps77 Z (fun c=>?_)
 refine yN 0 Z (fun A1 c1 B1 d1 hx1 hsz1 hk1 hl1 hi1 hj1=>?_)
 subst hx1
 refine yN 3 Z (fun A3 c3 B3 d3 hx3 hsz3 hk3 hl3 hi3 hj3=>?_)
 subst hx3
 refine rO 3 Z (yK Z Z Z (fun b3=>?_))
 refine zA (yK Z Z Z (fun b4=>?_))
 refine oO 9 Z (zK 1 Z cM Z Z ?_)
 refine zA (zL Z Z Z (PC w _) aA ?_)
 refine oS 4 Z (zY (s:=13) Z (fun h13=>?_) (fun h13=>?_))
 ·refine oK 6 [17,4,3,2] Z Z (rR 8 Z ?_)
  exact wY Tryz.results77 Z Z ⟨rfl,_,_,rfl,rfl,by rw [sj (fun e=>(xH.1 (by simpa using h13)) e.1)];exact rfl⟩ nS (fun _ h=>by cases h)
 have hsw:dC w:=yS.1 (by simpa using h13)
 have hpw:Pl w:=⟨12,hsw.1.1⟩
 refine zH Z Z (zK 0 Z cM Z Z ?_)
 refine zH Z Z (zL Z Z Z (RG v _) aA ?_)
 refine oK 5 [17,4,3,2] Z Z (yC Z (fun h17=>?_) (fun h17=>?_))
 ·refine rR 7 Z ?_
  exact wY Tryz.results77 Z Z ⟨rfl,_,_,rfl,rfl,by rw [sj (fun e=>(xH.1 (by simpa using h17)) e.2)];exact rfl⟩ nS (fun _ h=>by cases h)
 have hpv:Pl v:=⟨12,(yS.1 (by simpa using h17):ea v).1⟩
 refine rO 4 Z (zK 1 Z cM Z Z ?_)
 refine oO 3 Z (yV Z Z (BL ..) ?_)
 refine zA (yK Z Z Z (fun b21=>?_))
 refine oO 8 Z (zK 2 Z cM Z Z ?_)
 refine zA (zK 1 Z cM Z Z ?_)
 refine zA ?_
 refine yG 0 Z Z Z ((QS hM b21 w A1 B1 c1 d1 hpw (K+1) aC).2 w v _ _ false K (some K) hpw hpv ⟨rfl,rfl⟩ (fun k hk=>by injection hk with hk;omega)) Z aU (fun u25 M25 D25 hv25=>?_)
 obtain⟨b25,o25,st25,rfl,rfl,rfl,hq25⟩:=hv25
 refine oK 3 [9,8] Z Z (xD ?_)
 refine yW yM (zO ?_)
 refine tP 0 Z cF (zP Z) (tP 1 Z cF (zP Z) ?_)
 refine tP 2 Z cF (yQ Z) (tP 3 Z cF (zZ rE Z) ?_)
 refine tP 6 Z cF (yP Z) (yF ?_)
 refine tM 4 Z cF (yT 0 lX Z Z Z) (zO ?_)
 refine tP 5 Z cF (qf Z) (tP 7 Z cF (yP Z) ?_)
 refine yJ aD ?_
 exact wY Tryz.results77 Z Z ⟨rfl,_,_,rfl,rfl,FI ⟨hsw,yS.1 (by simpa using h17)⟩ hq25⟩ nS (fun _ h=>by cases h)
theorem RL(hM:oG)(w v:V)(xw xv:Value):CtR Tryz.prog 40 #[xw,xv] [.val xw w, .val xv v] (fun u D'=> ∃b t,u= .tuple #[.bool b, .bool t]∧D'=[]∧TB (lR 4000 w v) b t):=by
 refine Ct.of_run (args:=[xw,xv]) Tryz.func40 aF Z Tryz.ntmps40 Z (fun c=>?_)
 refine yN 0 Z (fun A1 c1 B1 d1 hx1 hsz1 hk1 hl1 hi1 hj1=>?_)
 subst hx1
 refine yN 3 Z (fun A3 c3 B3 d3 hx3 hsz3 hk3 hl3 hi3 hj3=>?_)
 subst hx3
 refine rO 3 Z (yK Z Z Z (fun b2=>?_))
 refine zA (yK Z Z Z (fun b3=>?_))
 refine oO 8 Z (zK 1 Z cM Z Z ?_)
 refine zA (zK 0 Z cM Z Z ?_)
 refine zA ?_
 refine yE Z Z Z (RK hM 4000 aC w v _ _) aB (fun u8 D8 hv8=>?_)
 obtain⟨b8,t8,rfl,rfl,hq8⟩:=hv8
 refine oK 9 [5,4] Z Z ?_
 exact wY Tryz.results40 Z Z ⟨rfl,_,_,rfl,rfl,hq8⟩ nS (fun _ h=>by cases h)
theorem c41(hM:oG)(w v:V)(xw xv:Value):CtR Tryz.prog 41 #[xw,xv] [.val xw w, .val xv v] (fun u D'=> ∃b t,u= .tuple #[.bool b, .bool t]∧D'=[]∧TB (lR 8000 w v) b t):=by
 refine Ct.of_run (args:=[xw,xv]) Tryz.func41 aF Z Tryz.ntmps41 Z (fun c=>?_)
 refine yN 0 Z (fun A1 c1 B1 d1 hx1 hsz1 hk1 hl1 hi1 hj1=>?_)
 subst hx1
 refine yN 3 Z (fun A3 c3 B3 d3 hx3 hsz3 hk3 hl3 hi3 hj3=>?_)
 subst hx3
 refine rO 3 Z (yK Z Z Z (fun b2=>?_))
 refine zA (yK Z Z Z (fun b3=>?_))
 refine oO 8 Z (zK 1 Z cM Z Z ?_)
 refine zA (zK 0 Z cM Z Z ?_)
 refine zA ?_
 refine yE Z Z Z (RK hM 8000 aC w v _ _) aB (fun u8 D8 hv8=>?_)
 obtain⟨b8,t8,rfl,rfl,hq8⟩:=hv8
 refine oK 9 [5,4] Z Z ?_
 exact wY Tryz.results41 Z Z ⟨rfl,_,_,rfl,rfl,hq8⟩ nS (fun _ h=>by cases h)
end Go.Jw

namespace Go.Jw
open Go Go.RowKit
def Tk(f:JS)(b:Bool)(c m:Nat):Prop:= ∀ k,c≤k→k<m→f k=some (b,k - c)
theorem Hk{f:JS}{b:Bool}{m:Nat}(h: ∀ k,f k=some (b,k)):Tk f b 0 m:=fun k _ _=>h k
def Sm(f f':JS)(m:Nat):Prop:= ∀ k b k',f k=some (b,k')→k<m→k'≤k∧Tk f' b (k - k') m
theorem nX{f f':JS}{m:Nat}(o:Option Bool)(h: ∀ k,f k=o.map fun b=>(b,k))(h': ∀ k,f' k=o.map fun b=>(b,k)):Sm f f' m:=fun k b k' e hk=>by
  rw [h]at e
  cases o with
  |none=>cases e
  |some b0=>
    injection e with e
    injection e with e1 e2
    subst e1 e2
    rw [Nat.sub_self]
    exact⟨Nat.le_refl _,Hk fun k=>h' k⟩
theorem vC{f f':JS}{m:Nat}(b:Bool)(h: ∀ k,f k=some (b,k))(h': ∀ k,f' k=some (b,k)):Sm f f' m:=nX (some b) h h'
def AT{α:Type}(f:α→JS)(m:Nat):List α→Bool→Nat→Prop
  |[],t,c=>t=true∧c=0
  |a::l,t,c=> ∃b c1 t' c',Tk (f a) b c1 m∧AT f m l t' c'∧t=(b && t')∧c=c1+c'
theorem pj{f:JS}{b0 b1:Bool}{k k1:Nat}(h:f k=some (b1,k1)):sd f (some (b0,k))=some (b1 && b0,k1):=by
 unfold sd eo
 show(f k).map _=_
 rw [h]
 rfl
theorem Hm{f:JS}{b0:Bool}{k:Nat}(h:f k=none):sd f (some (b0,k))=none:=by
 unfold sd eo
 show(f k).map _=_
 rw [h]
 rfl
theorem sk{α:Type}{f:α→JS}{m:Nat}: ∀ {l:List α} {t:Bool} {c:Nat},AT f m l t c→ ∀ (b0:Bool) (k:Nat),c≤k→k<m→cx f l (some (b0,k))=some (t && b0,k - c)
  |[],t,c,h,b0,k,h1,h2=>by
    obtain⟨rfl,rfl⟩:=h
    rw [Bool.true_and]
    rfl
  |a::l,t,c,h,b0,k,h1,h2=>by
    obtain⟨b,c1,t',c',ht,hl,rfl,rfl⟩:=h
    show cx f l (sd (f a) (some (b0,k)))=_
    rw [pj (ht k aC h2),sk hl (b && b0) (k - c1) aC aC,show k - c1 - c'=k - (c1+c')by omega]
    cases b<;>cases t'<;>rfl
theorem v8{α β:Type}{f:α→JS}{f':β→JS}{m:Nat}{q:α→Bool}{g:α→β}: ∀ {l:List α},(∀ a∈l,(q a=true→Sm (f a) (f' (g a)) m)∧(q a=false→ ∀ k,f a k=some (true,k)))→
    ∀ {b0:Bool} {k:Nat} {b:Bool} {k':Nat},cx f l (some (b0,k))=some (b,k')→k<m→k'≤k∧ ∃t,b=(t && b0)∧AT f' m ((l.filter q).map g) t (k - k')
  |[],_,b0,k,b,k',h,_=>by
    have h:some (b0,k)=some (b,k'):=h
    injection h with h
    injection h with h1 h2
    subst h1 h2
    exact⟨Nat.le_refl _,true,by simp,rfl,Nat.sub_self _⟩
  |a::l,H,b0,k,b,k',h0,hk=>by
    have h:cx f l (sd (f a) (some (b0,k)))=some (b,k'):=h0
    clear h0
    cases hf:f a k with
    |none=>rw [Hm hf,kW]at h;cases h
    |some r=>
      obtain⟨b1,k1⟩:=r
      rw [pj hf]at h
      have Ha:=H a List.mem_cons_self
      have Hl: ∀ a∈l,(q a=true→Sm (f a) (f' (g a)) m)∧(q a=false→ ∀ k,f a k=some (true,k)):=fun a ha=>H a (List.mem_cons_of_mem _ ha)
      cases hq:q a with
      |true=>
        obtain⟨h1,h2⟩:=Ha.1 hq k b1 k1 hf hk
        obtain⟨h3,t,ht,hA⟩:=v8 Hl h aC
        refine⟨aC,b1 && t,?_,?_⟩
        · rw [ht];cases b1<;>cases t<;>rfl
        · rw [List.filter_cons_of_pos hq]
          exact⟨b1,k - k1,t,k1 - k',h2,hA,rfl,aC⟩
      |false=>
        have e:=Ha.2 hq k
        rw [hf]at e
        injection e with e
        injection e with e1 e2
        subst e1 e2
        obtain⟨h3,t,ht,hA⟩:=v8 Hl h hk
        refine⟨h3,t,?_,?_⟩
        · rw [ht,Bool.true_and]
        · rw [List.filter_cons_of_neg (by rw [hq];decide)]
          exact hA
theorem sn{α β:Type}{f:α→JS}{f':β→JS}{m:Nat}{g:α→β}{l:List α}(H: ∀ a∈l,Sm (f a) (f' (g a)) m):Sm (fun k=>cx f l (some (true,k))) (fun k=>cx f' (l.map g) (some (true,k))) m:=fun k b k' h hk=>by
 obtain⟨h1,t,ht,hA⟩:=v8 (q:=fun _=>true) (fun a ha=>⟨fun _=>H a ha,fun e=>by cases e⟩) h hk
 refine⟨h1,fun k2 h2 h3=>?_⟩
 rw [List.filter_eq_self.2 fun _ _=>rfl]at hA
 show cx f' (l.map g) (some (true,k2))=_
 rw [sk hA true k2 h2 h3,ht]
theorem y7{f f':V→JS}{m:Nat}{g:V→V}(r:Nat→Bool){l:List V}(H: ∀ a∈l,Sm (f a) (f' (g a)) m):Sm (fun k=>(dh f l (some (0,k))).map fun q=>(r q.1,q.2)) (fun k=>(dh f' (l.map g) (some (0,k))).map fun q=>(r q.1,q.2)) m:=by
  have key: ∀ (l:List V),(∀ a∈l,Sm (f a) (f' (g a)) m)→ ∀ (n0 k n k':Nat),dh f l (some (n0,k))=some (n,k')→k<m→k'≤k∧ ∀ k2,k - k'≤k2→k2<m→dh f' (l.map g) (some (n0,k2))=some (n,k2 - (k - k')):=by
    intro l
    induction l with
    |nil=>
      intro _ n0 k n k' h _
      have h:some (n0,k)=some (n,k'):=h
      injection h with h
      injection h with h1 h2
      subst h1 h2
      exact⟨Nat.le_refl _,fun k2 _ _=>by rw [Nat.sub_self];rfl⟩
    |cons a l ih=>
      intro H n0 k n k' h hk
      have h:dh f l (eo (f a) (fun b n=>if b=true then n+1 else n) (some (n0,k)))=some (n,k'):=h
      cases hf:f a k with
      |none=>
        have e:eo (f a) (fun b n=>if b=true then n+1 else n) (some (n0,k))=none:=by
          unfold eo
          show(f a k).map _=_
          rw [hf]
          rfl
        rw [e,pi]at h
        cases h
      |some q=>
        obtain⟨b1,k1⟩:=q
        have e: ∀ (f:JS) (k k1:Nat),f k=some (b1,k1)→eo f (fun b n=>if b=true then n+1 else n) (some (n0,k))=some (if b1=true then n0+1 else n0,k1):=fun f k k1 hf=>by
          unfold eo
          show(f k).map _=_
          rw [hf]
          rfl
        rw [e _ _ _ hf]at h
        obtain⟨h1,h2⟩:=H a List.mem_cons_self k b1 k1 hf hk
        obtain⟨h3,h4⟩:=ih (fun a ha=>H a (List.mem_cons_of_mem _ ha)) _ _ _ _ h aC
        refine⟨aC,fun k2 h5 h6=>?_⟩
        show dh f' (l.map g) (eo (f' (g a)) _ (some (n0,k2)))=_
        rw [e _ _ _ (h2 k2 aC h6),h4 _ aC aC,show k2 - (k - k1) - (k1 - k')=k2 - (k - k')by omega]
  intro k b k' h hk
  have h:(dh f l (some (0,k))).map (fun q=>(r q.1,q.2))=some (b,k'):=h
  cases hc:dh f l (some (0,k))with
  |none=>rw [hc]at h;cases h
  |some q=>
    obtain⟨n,k1⟩:=q
    rw [hc]at h
    injection h with h
    injection h with e1 e2
    have e2:k1=k':=e2
    subst e2
    obtain⟨h1,h2⟩:=key l H _ _ _ _ hc hk
    refine⟨h1,fun k2 h3 h4=>?_⟩
    show(dh f' (l.map g) (some (0,k2))).map _=_
    rw [h2 k2 h3 h4]
    exact congrArg (fun b=>some (b,k2 - (k - k1))) e1
theorem Aj{f f':JS}{m:Nat}{h h':Bool→JS}(H:Sm f f' m)(Hh: ∀ b,Sm (h b) (h' b) m):Sm (fun k=>(f k).bind fun r=>h r.1 r.2) (fun k=>(f' k).bind fun r=>h' r.1 r.2) m:=fun k b k' e hk=>by
  have e:(f k).bind (fun r=>h r.1 r.2)=some (b,k'):=e
  cases hf:f k with
  |none=>rw [hf]at e;cases e
  |some r=>
    obtain⟨b1,k1⟩:=r
    rw [hf]at e
    have e:h b1 k1=some (b,k'):=e
    obtain⟨h1,h2⟩:=H k b1 k1 hf hk
    obtain⟨h3,h4⟩:=Hh b1 k1 b k' e aC
    refine⟨aC,fun k2 h5 h6=>?_⟩
    show(f' k2).bind (fun r=>h' r.1 r.2)=_
    rw [h2 k2 aC h6]
    show h' b1 (k2 - (k - k1))=_
    rw [h4 _ aC aC,show k2 - (k - k1) - (k1 - k')=k2 - (k - k')by omega]
theorem LQ{f f':JS}{m:Nat}{r:Bool→Bool}(H:Sm f f' m):Sm (fun k=>(f k).map fun q=>(r q.1,q.2)) (fun k=>(f' k).map fun q=>(r q.1,q.2)) m:=fun k b k' e hk=>by
  have e:(f k).map (fun q=>(r q.1,q.2))=some (b,k'):=e
  cases hf:f k with
  |none=>rw [hf]at e;cases e
  |some q=>
    obtain⟨b1,k1⟩:=q
    rw [hf]at e
    injection e with e
    injection e with e1 e2
    have e2:k1=k':=e2
    subst e2
    obtain⟨h1,h2⟩:=H k b1 k1 hf hk
    refine⟨h1,fun k2 h3 h4=>?_⟩
    show(f' k2).map _=_
    rw [h2 k2 h3 h4]
    exact congrArg (fun b=>some (b,k2 - (k - k1))) e1
theorem y8{sh:Int}{g:V→V}{v:V}(h:sh=9∨sh=13):cJ sh g v=cY g v:=by
 unfold cJ
 rw [if_neg aC,if_neg aC,if_neg aC,if_pos h]
theorem R6{sh:Int}{g:V→V}{v:V}(h:sh=5):cJ sh g v=g v:=by
 unfold cJ
 rw [if_pos h]
theorem RM{sh:Int}{g:V→V}{v:V}(h:sh=6):cJ sh g v=if v.kind=5 then g v else v:=by
 unfold cJ
 rw [if_neg aC,if_pos h]
theorem RO{sh:Int}{g:V→V}{v:V}(h:sh=7):cJ sh g v=if v.kind=5 then g v else cY g v:=by
 unfold cJ
 rw [if_neg aC,if_neg aC,if_pos h]
theorem kY{g:V→V}{v:V}(h: ∀ x∈v.items,x.kind=5):(cY g v).items=v.items.map g:=
 List.map_congr_left fun x hx=>vF (h x hx)
theorem sm_all'{α:Type}{f f':α→JS}{m:Nat}{l:List α}(H: ∀ a∈l,Sm (f a) (f' a) m):Sm (fun k=>cx f l (some (true,k))) (fun k=>cx f' l (some (true,k))) m:=by
 have:=sn (f:=f) (f':=f') (g:=id) (m:=m) H
 rwa [List.map_id]at this
theorem fR(p t:ByteArray)(k:Nat):ip p t k=(if(Mt p t).2=true then some (Mt p t).1 else none).map fun b=>(b,k):=by
 unfold ip
 split<;>rfl
theorem v9(name:ByteArray): ∀ (ps:List ByteArray),∃o:Option Bool,∀ k,ej name ps k=o.map fun b=>(b,k)
  |[]=>⟨some false,fun k=>rfl⟩
  |p::ps=>by
    obtain⟨o,ho⟩:=v9 name ps
    by_cases h:(Mt p name).2=true
    · by_cases h2:(Mt p name).1=true
      · refine⟨some true,fun k=>?_⟩
        rw [ej,fR,if_pos h]
        show(if(Mt p name).1=true then some (true,k)else _)=_
        rw [if_pos h2]
        rfl
      · refine⟨o,fun k=>?_⟩
        rw [ej,fR,if_pos h]
        show(if(Mt p name).1=true then some (true,k)else _)=_
        rw [if_neg h2]
        exact ho k
    · refine⟨none,fun k=>?_⟩
      rw [ej,fR,if_neg h]
      rfl
theorem wa{A A':V→V→JS}{m:Nat}(HA: ∀ z x,eM z→Sm (A z x) (A' (wr z) x) m){own:V}(hf:own.kind=1∨own.kind=5)(hk:own.kind=5→eM own)(x:V):Sm (dI A own x) (dI A' (if own.kind=5 then wr own else own) x) m:=by
  unfold dI
  by_cases h:own.kind=5
  · rw [if_pos h,if_neg aC,if_neg (by rw [jo];decide)]
    exact HA own x (hk h)
  · have h1:own.kind=1:=by omega
    rw [if_neg h,if_pos h1,if_pos h1]
    exact vC _ (fun k=>rfl) (fun k=>rfl)
def kZ:List (ByteArray×ByteArray):=[(k7,k8),(k9,k10),(k14,k15),(k22,k23),(k22,k24)]
section kw
variable {A A':V→V→JS} {m:Nat} {s s' own x:V} {key:ByteArray}
theorem LR(hG: ∀ g,(key,g)∈kZ→getV s' g=(getV s g).map (cJ (cH g) wr)):lQ s' key (cJ (cH key) wr own) x=lQ s key own x:=by
 have sm: ∀ g:ByteArray,cH g=2→(getV s g).map (cJ (cH g) wr)=getV s g:=fun g h=>map_id fun x=>wF bw
 unfold lQ
 by_cases h1:key=k7
 ·rw [if_pos h1,if_pos h1,wF bR,hG k8 (by rw [h1];exact .head _),sm k8 aD]
 rw [if_neg h1,if_neg h1]
 by_cases h2:key=k9
 ·rw [if_pos h2,if_pos h2,wF bS,hG k10 (by rw [h2];exact .tail _ (.head _)),sm k10 aD]
 rw [if_neg h2,if_neg h2]
 by_cases h3:key=k6
 ·rw [if_pos h3,if_pos h3,wF bT]
 ·rw [if_neg h3,if_neg h3]
theorem LS:oF key (cJ (cH key) wr own) x=oF key own x:=by
 unfold oF
 by_cases h1:key=k11
 ·rw [if_pos h1,if_pos h1,wF bR]
 rw [if_neg h1,if_neg h1]
 by_cases h2:key=PD
 ·rw [if_pos h2,if_pos h2,wF bS]
 ·rw [if_neg h2,if_neg h2]
theorem OM(hf:own.kind=5∨(own.kind=4∧ ∀ x∈own.items,x.kind=5)):wt (cJ 7 wr own) x=(wt own x).map fun p=>(wr p.1,p.2):=by
  unfold wt
  rw [RO rfl]
  rcases hf with h|⟨h,hi⟩
  · rw [if_pos h,if_neg (by rw [jo];decide),if_neg (show ¬ own.kind=4 by omega),List.map_map]
    rfl
  · rw [if_neg (show ¬ own.kind=5 by omega),if_pos (show(cY wr own).kind=4 from h),if_pos h,kY hi,List.zip_map_left]
    rfl
theorem ON(HA: ∀ z x,eM z→Sm (A z x) (A' (wr z) x) m)(hfit:cN (cH key) own)(hkid: ∀ z∈cK (cH key) own,eM z)(hG: ∀ g,(key,g)∈kZ→getV s' g=(getV s g).map (cJ (cH g) wr))(hit: ∀ it,getV s k15=some it→it.kind=5∨(it.kind=4∧ ∀ x∈it.items,x.kind=5)):Sm (gq A s key own x) (gq A' s' key (cJ (cH key) wr own) x) m:=by
  by_cases h1:key=MC
  · rw [wF bR]
    exact vC _ (fun k=>by unfold gq;rw [if_pos h1]) (fun k=>by unfold gq;rw [if_pos h1])
  by_cases h2:key=MD
  · rw [wF bS]
    exact vC _ (fun k=>by unfold gq;rw [if_neg h1,if_pos h2]) (fun k=>by unfold gq;rw [if_neg h1,if_pos h2])
  by_cases h3:key=ME
  · rw [wF bT]
    exact vC _ (fun k=>by unfold gq;rw [if_neg h1,if_neg h2,if_pos h3]) (fun k=>by unfold gq;rw [if_neg h1,if_neg h2,if_pos h3])
  by_cases h4:key=k15
  · have hs7:cH key=7:=by rw [h4];decide+kernel
    rw [hs7]at hfit hkid⊢
    have hf:own.kind=5∨(own.kind=4∧ ∀ x∈own.items,x.kind=5):=by simpa [cN]using hfit
    rw [show gq A s key own x=fun k=>cx (fun p:V×V=>A p.1 p.2) (wt own x) (some (true,k))from funext fun k=>HX h1 h2 h3 h4 (some k),
      show gq A' s' key (cJ 7 wr own) x=fun k=>cx (fun p:V×V=>A' p.1 p.2) (wt (cJ 7 wr own) x) (some (true,k))from funext fun k=>HX h1 h2 h3 h4 (some k),OM hf]
    refine sn fun p hp=>HA p.1 p.2 ?_
    unfold wt at hp
    rcases hf with h|⟨h,hi⟩
    · rw [if_neg aC]at hp
      obtain⟨y,_,rfl⟩:=List.mem_map.1 hp
      exact hkid own (by simp [cK,h])
    · rw [if_pos h]at hp
      have hm:=(List.of_mem_zip (a:=p.1) (b:=p.2) hp).1
      exact hkid p.1 (by simp [cK,h,hm,hi p.1 hm])
  by_cases h5:key=k14
  · have hs6:cH key=6:=by rw [h5];decide+kernel
    rw [hs6]at hfit hkid⊢
    have hf:own.kind=1∨own.kind=5:=by simpa [cN]using hfit
    have hg:=hG k15 (by rw [h5];exact .tail _ (.tail _ (.head _)))
    have hs:((getV s' k15).getD zV).kind=((getV s k15).getD zV).kind∧(((getV s k15).getD zV).kind=4→((getV s' k15).getD zV).items.length=((getV s k15).getD zV).items.length):=by
      rw [hg,show cH k15=7 by decide+kernel]
      cases hi:getV s k15 with
      |none=>exact⟨rfl,fun _=>rfl⟩
      |some it=>
        show(cJ 7 wr it).kind=it.kind∧(it.kind=4→(cJ 7 wr it).items.length=it.items.length)
        rw [RO rfl]
        by_cases hk:it.kind=5
        · rw [if_pos hk,jo,hk]
          exact⟨rfl,fun e=>by cases e⟩
        · rw [if_neg hk]
          exact⟨rfl,fun _=>List.length_map _⟩
    by_cases h4':((getV s k15).getD zV).kind=4
    · rw [show gq A s key own x=fun k=>cx (fun y=>dI A own y) (x.items.drop ((getV s k15).getD zV).items.length) (some (true,k))from funext fun k=>LD rfl h1 h2 h3 h4 h5 h4' (some k),
        show gq A' s' key (cJ 6 wr own) x=fun k=>cx (fun y=>dI A' (cJ 6 wr own) y) (x.items.drop ((getV s' k15).getD zV).items.length) (some (true,k))from funext fun k=>LD rfl h1 h2 h3 h4 h5 (hs.1.trans h4') (some k),hs.2 h4',RM rfl]
      exact sm_all' fun y _=>wa HA hf (fun e=>hkid own (by simp [cK,e])) y
    · exact vC true (fun k=>by unfold gq;rw [if_neg h1,if_neg h2,if_neg h3,if_neg h4,if_pos h5,if_pos h4']) (fun k=>by unfold gq;rw [if_neg h1,if_neg h2,if_neg h3,if_neg h4,if_pos h5,if_pos (by rw [hs.1];exact h4')])
  · exact vC true (fun k=>by unfold gq;rw [if_neg h1,if_neg h2,if_neg h3,if_neg h4,if_neg h5]) (fun k=>by unfold gq;rw [if_neg h1,if_neg h2,if_neg h3,if_neg h4,if_neg h5])
end kw
theorem wb(A:V→V→JS)(v:V)(l:List (ByteArray×V))(σ:Option (Bool×Nat)):CN A v l σ=cx (fun p:(ByteArray×V)×(ByteArray×V)=>yx A p.1 p.2) (l.flatMap fun p=>(v.keys.zip v.items).map fun q=>(p,q)) σ:=by
 unfold CN cx
 rw [List.foldl_flatMap]
 congr 1
 funext σ p
 rw [List.foldl_map]
section kw
variable {A A':V→V→JS} {m:Nat} {s s' own x:V} {key:ByteArray}
theorem Hn(HA: ∀ z x,eM z→Sm (A z x) (A' (wr z) x) m){p:ByteArray×V}(hp:eM p.2):Sm (eZ A x p) (eZ A' x (p.1,wr p.2)) m:=by
  unfold eZ
  cases hg:getV x p.1 with
  |none=>exact vC true (fun k=>rfl) (fun k=>rfl)
  |some y=>exact HA p.2 y hp
theorem OO(HA: ∀ z x,eM z→Sm (A z x) (A' (wr z) x) m){p q:ByteArray×V}(hp:eM p.2):Sm (yx A p q) (yx A' (p.1,wr p.2) q) m:=by
  unfold yx
  refine Aj (f:=ip p.1 q.1) (f':=ip p.1 q.1) (h:=fun b k=>if b=true then A p.2 q.2 k else some (true,k)) (h':=fun b k=>if b=true then A' (wr p.2) q.2 k else some (true,k)) (nX _ (fR _ _) (fR _ _)) fun b=>?_
  cases b with
  |false=>exact vC true (fun k=>rfl) (fun k=>rfl)
  |true=>exact HA p.2 q.2 hp
theorem OP(HA: ∀ z x,eM z→Sm (A z x) (A' (wr z) x) m)(hf:own.kind=1∨own.kind=5)(hk:own.kind=5→eM own)(h23: ∀ n,(getV ((getV s' k23).getD zV) n).isSome=(getV ((getV s k23).getD zV) n).isSome)(h24:((getV s' k24).getD zV).keys=((getV s k24).getD zV).keys)(q:ByteArray×V):Sm (wq A s own q) (wq A' s' (if own.kind=5 then wr own else own) q) m:=by
  unfold wq
  by_cases h:(getV ((getV s k23).getD zV) q.1).isSome=true
  · exact vC true (fun k=>by rw [if_pos h]) (fun k=>by rw [if_pos (by rw [h23];exact h)])
  · have e1: ∀ k,(if(getV ((getV s k23).getD zV) q.1).isSome=true then some (true,k)else(ej q.1 ((getV s k24).getD zV).keys k).bind fun r=>if r.1=true then some (true,r.2)else dI A own q.2 r.2)=(ej q.1 ((getV s k24).getD zV).keys k).bind fun r=>(fun b:Bool=>if b=true then(fun k=>some (true,k))else dI A own q.2) r.1 r.2:=fun k=>by
      rw [if_neg h]
      congr 1
      funext r
      obtain⟨b,k⟩:=r
      cases b<;>rfl
    have e2: ∀ k,(if(getV ((getV s' k23).getD zV) q.1).isSome=true then some (true,k)else(ej q.1 ((getV s' k24).getD zV).keys k).bind fun r=>if r.1=true then some (true,r.2)else dI A' (if own.kind=5 then wr own else own) q.2 r.2)=(ej q.1 ((getV s k24).getD zV).keys k).bind fun r=>(fun b:Bool=>if b=true then(fun k=>some (true,k))else dI A' (if own.kind=5 then wr own else own) q.2) r.1 r.2:=fun k=>by
      rw [if_neg (by rw [h23];exact h),h24]
      congr 1
      funext r
      obtain⟨b,k⟩:=r
      cases b<;>rfl
    rw [funext e1,funext e2]
    obtain⟨o,ho⟩:=v9 q.1 ((getV s k24).getD zV).keys
    refine Aj (f:=ej q.1 ((getV s k24).getD zV).keys) (f':=ej q.1 ((getV s k24).getD zV).keys) (h:=fun b:Bool=>if b=true then(fun k=>some (true,k))else dI A own q.2) (h':=fun b:Bool=>if b=true then(fun k=>some (true,k))else dI A' (if own.kind=5 then wr own else own) q.2) (nX o ho ho) fun b=>?_
    cases b with
    |true=>exact vC true (fun k=>rfl) (fun k=>rfl)
    |false=>exact wa HA hf hk q.2
theorem OQ(HA: ∀ z x,eM z→Sm (A z x) (A' (wr z) x) m)(hfit:cN (cH key) own)(hkid: ∀ z∈cK (cH key) own,eM z)(hG: ∀ g,(key,g)∈kZ→getV s' g=(getV s g).map (cJ (cH g) wr))(h9: ∀ g z,cH g=9→getV s g=some z→ ∀ y∈z.items,y.kind=5):Sm (ig A s key own x) (ig A' s' key (cJ (cH key) wr own) x) m:=by
  by_cases h1:key=CW
  · rw [wF bR]
    exact vC _ (LE h1) (LE h1)
  by_cases h2:key=Df
  · rw [wF bS]
    exact vC _ (LF h1 h2) (LF h1 h2)
  by_cases h3:key=Fr
  · rw [wF bT]
    exact vC _ (LG h1 h2 h3) (LG h1 h2 h3)
  have hmaps:cH key=9→(∀ y∈own.items,y.kind=5∧eM y)∧(cJ (cH key) wr own).keys.zip (cJ (cH key) wr own).items=(own.keys.zip own.items).map fun p=>(p.1,wr p.2):=fun h=>by
    rw [h]at hfit hkid⊢
    have hi: ∀ y∈own.items,y.kind=5:=by
      have:own.kind=5∧ ∀ y∈own.items,y.kind=5:=by simpa [cN]using hfit
      exact this.2
    refine⟨fun y hy=>⟨hi y hy,hkid y (by simp [cK,hy,hi y hy])⟩,?_⟩
    rw [y8 (.inl rfl),kY hi,show(cY wr own).keys=own.keys from rfl,List.zip_map_right]
    rfl
  by_cases h4:key=k23
  · obtain⟨hi,hz⟩:=hmaps (by rw [h4];decide+kernel)
    rw [show ig A s key own x=fun k=>cx (eZ A x) (own.keys.zip own.items) (some (true,k))from funext fun k=>LH h1 h2 h3 h4 (some k),
      show ig A' s' key (cJ (cH key) wr own) x=fun k=>cx (eZ A' x) ((cJ (cH key) wr own).keys.zip (cJ (cH key) wr own).items) (some (true,k))from funext fun k=>LH h1 h2 h3 h4 (some k),hz]
    exact sn fun p hp=>Hn HA (hi p.2 (List.of_mem_zip (a:=p.1) (b:=p.2) hp).2).2
  by_cases h5:key=k24
  · obtain⟨hi,hz⟩:=hmaps (by rw [h5];decide+kernel)
    rw [show ig A s key own x=fun k=>cx (fun p:(ByteArray×V)×(ByteArray×V)=>yx A p.1 p.2) ((own.keys.zip own.items).flatMap fun p=>(x.keys.zip x.items).map fun q=>(p,q)) (some (true,k))from funext fun k=>(LI h1 h2 h3 h4 h5 (some k)).trans (wb _ _ _ _),
      show ig A' s' key (cJ (cH key) wr own) x=fun k=>cx (fun p:(ByteArray×V)×(ByteArray×V)=>yx A' p.1 p.2) (((own.keys.zip own.items).flatMap fun p=>(x.keys.zip x.items).map fun q=>(p,q)).map fun p=>((p.1.1,wr p.1.2),p.2)) (some (true,k))from funext fun k=>(LI h1 h2 h3 h4 h5 (some k)).trans ((wb _ _ _ _).trans (by
        congr 1
        rw [hz,List.flatMap_map,List.map_flatMap]
        congr 1
        funext p
        rw [List.map_map]
        rfl))]
    refine sn fun p hp=>OO HA ?_
    obtain⟨a,ha,hp⟩:=List.mem_flatMap.1 hp
    obtain⟨b,_,rfl⟩:=List.mem_map.1 hp
    exact(hi a.2 (List.of_mem_zip (a:=a.1) (b:=a.2) ha).2).2
  by_cases h6:key=k22
  · have hs6:cH key=6:=by rw [h6];decide+kernel
    rw [hs6]at hfit hkid⊢
    have hf:own.kind=1∨own.kind=5:=by simpa [cN]using hfit
    have g3:=hG k23 (by rw [h6];exact .tail _ (.tail _ (.tail _ (.head _))))
    have g4:=hG k24 (by rw [h6];exact .tail _ (.tail _ (.tail _ (.tail _ (.head _)))))
    rw [show cH k23=9 by decide+kernel]at g3
    rw [show cH k24=9 by decide+kernel]at g4
    rw [show ig A s key own x=fun k=>cx (wq A s own) (x.keys.zip x.items) (some (true,k))from funext fun k=>LJ h1 h2 h3 h4 h5 h6 (some k),
      show ig A' s' key (cJ 6 wr own) x=fun k=>cx (wq A' s' (cJ 6 wr own)) (x.keys.zip x.items) (some (true,k))from funext fun k=>LJ h1 h2 h3 h4 h5 h6 (some k),RM rfl]
    refine sm_all' fun q _=>OP HA hf (fun e=>hkid own (by simp [cK,e])) (fun n=>?_) ?_ q
    · rw [g3]
      cases hz:getV s k23 with
      |none=>rfl
      |some z=>
        show(getV (cJ 9 wr z) n).isSome=(getV z n).isSome
        rw [pe (h9 k23 z aD hz)]
        cases getV z n<;>rfl
    · rw [g4]
      cases hz:getV s k24 with
      |none=>rfl
      |some z=>
        show(cJ 9 wr z).keys=z.keys
        rw [y8 (.inl rfl)]
        rfl
  by_cases h7:key=MF
  · rw [wF (by rw [h7];decide+kernel)]
    exact vC _ (LK h1 h2 h3 h4 h5 h6 h7) (LK h1 h2 h3 h4 h5 h6 h7)
  · exact vC true (PF h1 h2 h3 h4 h5 h6 h7) (PF h1 h2 h3 h4 h5 h6 h7)
theorem JN(HA: ∀ z x,eM z→Sm (A z x) (A' (wr z) x) m)(hs:eM s)(hx:getV s key=some own)(hG: ∀ g,(key,g)∈kZ→getV s' g=(getV s g).map (cJ (cH g) wr)):Sm (ec A s key own x) (ec A' s' key (cJ (cH key) wr own) x) m:=by
  have hfit:=(rB hs.2 hx).1
  have hkid: ∀ z∈cK (cH key) own,eM z:=fun z hz=>by
    have h:=rZ hs.1 hs.2.kind hx hz
    exact⟨nH hs.1 h,gp hs.1 hs.2 h⟩
  by_cases h1:key=Ba
  · rw [wF bR]
    by_cases hv:x.kind≠3
    · exact vC true (Ah h1 hv) (Ah h1 hv)
    · rw [HZ h1 hv,HZ h1 hv]
      exact nX _ (fR _ _) (fR _ _)
  by_cases h2:key=Dg
  · rw [wF bS,Hb h1 h2,Hb h1 h2]
    open Classical in
    refine nX (if ∀ s∈cb own,nQ s then some (decide (∃s∈cb own,IsOf x s))else none) (fun k=>?_) (fun k=>?_)<;>(unfold HS;split<;>rfl)
  by_cases h3:key=Fs
  · rw [wF bT]
    exact vC _ (kw26 h1 h2 h3) (kw26 h1 h2 h3)
  have hlist:cH key=13→(∀ y∈own.items,eM y)∧(cJ (cH key) wr own).items=own.items.map wr:=fun h=>by
    rw [h]at hfit hkid⊢
    have hi: ∀ y∈own.items,y.kind=5:=by
      have:own.kind=4∧ ∀ y∈own.items,y.kind=5:=by simpa [cN]using hfit
      exact this.2
    exact⟨fun y hy=>hkid y (by simp [cK,hy,hi y hy]),by rw [y8 (.inr Z),kY hi]⟩
  by_cases h4:key=GN
  · obtain⟨hi,he⟩:=hlist (by rw [h4];decide+kernel)
    rw [show ec A s key own x=fun k=>(dh (fun y=>A y x) own.items (some (0,k))).map fun r=>(decide (r.1=own.items.length),r.2)from funext fun k=>Hc h1 h2 h3 h4 (some k),
      show ec A' s' key (cJ (cH key) wr own) x=fun k=>(dh (fun y=>A' y x) (cJ (cH key) wr own).items (some (0,k))).map fun r=>(decide (r.1=(cJ (cH key) wr own).items.length),r.2)from funext fun k=>Hc h1 h2 h3 h4 (some k),he,List.length_map]
    exact y7 (f:=fun y=>A y x) (f':=fun y=>A' y x) (fun n=>decide (n=own.items.length)) fun y hy=>HA y x (hi y hy)
  by_cases h5:key=Ip
  · obtain⟨hi,he⟩:=hlist (by rw [h5];decide+kernel)
    rw [show ec A s key own x=fun k=>(dh (fun y=>A y x) own.items (some (0,k))).map fun r=>(decide (0<r.1),r.2)from funext fun k=>Hd h1 h2 h3 h4 h5 (some k),
      show ec A' s' key (cJ (cH key) wr own) x=fun k=>(dh (fun y=>A' y x) (cJ (cH key) wr own).items (some (0,k))).map fun r=>(decide (0<r.1),r.2)from funext fun k=>Hd h1 h2 h3 h4 h5 (some k),he]
    exact y7 (f:=fun y=>A y x) (f':=fun y=>A' y x) (fun n=>decide (0<n)) fun y hy=>HA y x (hi y hy)
  by_cases h6:key=J3
  · obtain⟨hi,he⟩:=hlist (by rw [h6];decide+kernel)
    rw [show ec A s key own x=fun k=>(dh (fun y=>A y x) own.items (some (0,k))).map fun r=>(decide (r.1=1),r.2)from funext fun k=>He h1 h2 h3 h4 h5 h6 (some k),
      show ec A' s' key (cJ (cH key) wr own) x=fun k=>(dh (fun y=>A' y x) (cJ (cH key) wr own).items (some (0,k))).map fun r=>(decide (r.1=1),r.2)from funext fun k=>He h1 h2 h3 h4 h5 h6 (some k),he]
    exact y7 (f:=fun y=>A y x) (f':=fun y=>A' y x) (fun n=>decide (n=1)) fun y hy=>HA y x (hi y hy)
  by_cases h7:key=MG
  · have hs5:cH key=5:=by rw [h7];decide+kernel
    have ho:eM own:=hkid own (by rw [hs5];exact List.mem_singleton.2 rfl)
    rw [show ec A s key own x=fun k=>(A own x k).map fun r=>(!r.1,r.2)from funext fun k=>Hf h1 h2 h3 h4 h5 h6 h7 (some k),R6 hs5,
      show ec A' s' key (wr own) x=fun k=>(A' (wr own) x k).map fun r=>(!r.1,r.2)from funext fun k=>Hf h1 h2 h3 h4 h5 h6 h7 (some k)]
    exact LQ (r:=fun b=> !b) (HA own x ho)
  have hO:Hg key:=⟨h1,h2,h3,h4,h5,h6,h7⟩
  by_cases hn:eI x
  · exact vC _ (OE hO hn) (fun k=>by rw [OE hO hn,LR hG])
  by_cases e3:x.kind=3
  · exact vC _ (LP hO hn e3) (fun k=>by rw [LP hO hn e3,LS])
  by_cases e4:x.kind=4
  · rw [OF hO hn e3 e4,OF hO hn e3 e4]
    refine ON HA hfit hkid hG fun it hi=>?_
    have:=(rB hs.2 hi).1
    rw [show cH k15=7 by decide+kernel]at this
    simpa [cN]using this
  by_cases e5:x.kind=5
  · rw [OG hO hn e3 e4 e5,OG hO hn e3 e4 e5]
    refine OQ HA hfit hkid hG fun g z hg hz y hy=>?_
    have:=(rB hs.2 hz).1
    rw [hg]at this
    have:z.kind=5∧ ∀ y∈z.items,y.kind=5:=by simpa [cN]using this
    exact this.2 y hy
  · exact vC true (OH hO hn e3 e4 e5) (OH hO hn e3 e4 e5)
theorem FJ(hk:da key=false)(k:Nat):ec A s key own x k=some (true,k):=by
 have ne: ∀ q,da q=true→ ¬ key=q:=fun q hq e=>by rw [e,hq]at hk;cases hk
 have hO:Hg key:=⟨ne _ aD,ne _ aD,ne _ aD,ne _ aD,ne _ aD,ne _ aD,ne _ aD⟩
 by_cases hn:eI x
 ·rw [OE hO hn]
  unfold lQ
  rw [if_neg (ne k7 aD),if_neg (ne k9 aD),if_neg (ne k6 aD)]
 by_cases e3:x.kind=3
 ·rw [LP hO hn e3]
  unfold oF
  rw [if_neg (ne k11 aD),if_neg (ne PD aD)]
 by_cases e4:x.kind=4
 ·rw [OF hO hn e3 e4]
  unfold gq
  rw [if_neg (ne MC aD),if_neg (ne MD aD),if_neg (ne ME aD),if_neg (ne k15 aD),if_neg (ne k14 aD)]
 by_cases e5:x.kind=5
 ·rw [OG hO hn e3 e4 e5]
  exact PF (ne CW aD) (ne Df aD) (ne Fr aD) (ne k23 aD) (ne k24 aD) (ne k22 aD) (ne MF aD) k
 ·exact OH hO hn e3 e4 e5 k
end kw
theorem y9{key g:ByteArray}(h:(key,g)∈kZ):da g=true:=by
 have: ∀ p∈kZ,da p.2=true:=by decide+kernel
 exact this _ h
theorem LT{w w':V}(hw:eM w)(hP: ∀ ref t,PtV w ref=some t→PtV w' ref=some (wr t)): ∀ (n m:Nat) (s x:V),eM s→Sm (dW w n s x) (dW w' m (wr s) x) m:=by
  intro n
  induction n with
  |zero=>intro m s x _ k b k' h;rw [dW]at h;cases h
  |succ n ih=>
    intro m s x hs k b k' h hk
    by_cases hk0:k=0
    · have e:dW w (n+1) s x k=none:=by rw [dW];exact if_pos hk0
      rw [e]at h
      cases h
    obtain⟨m,rfl⟩: ∃m0,m=m0+1:=⟨m - 1,aC⟩
    cases hg:getV s k3 with
    |some rf=>
      have hg':getV (wr s) k3=some rf:=by
        rw [nR hs.2 hs.1,if_pos aD,hg,Option.map_some,wF aD]
      cases hp:PtV w rf.text with
      |none=>rw [nW hk0 hg hp]at h;cases h
      |some t=>
        rw [jy hk0 hg hp]at h
        have hkid:=HT hw hp
        obtain⟨h1,h2⟩:=ih m t x ⟨nH hw.1 hkid,gp hw.1 hw.2 hkid⟩ (k - 1) b k' h aC
        refine⟨aC,fun k2 h3 h4=>?_⟩
        rw [jy aC hg' (hP _ _ hp),h2 (k2 - 1) aC aC,show k2 - 1 - (k - 1 - k')=k2 - (k - k')by omega]
    |none=>
      have hg':getV (wr s) k3=none:=by
        rw [nR hs.2 hs.1,if_pos aD,hg]
        rfl
      rw [gM hk0 hg]at h
      obtain⟨h1,t,ht,hA⟩:=v8 (f':=fun p:ByteArray×V=>ec (dW w' m) (wr s) p.1 p.2 x) (m:=m) (q:=fun p:ByteArray×V=>da p.1) (g:=fun p:ByteArray×V=>(p.1,cJ (cH p.1) wr p.2))
        (fun p hp=>⟨fun hq=>JN (fun z x hz=>ih m z x hz) hs ((xI hs.1 hs.2.kind).1 hp) (fun g hg=>by rw [nR hs.2 hs.1,if_pos (y9 hg)]),fun hq=>FJ hq⟩) h aC
      rw [←yf]at hA
      refine⟨aC,fun k2 h3 h4=>?_⟩
      rw [gM aC hg']
      show cx _ _ (some (true,k2 - 1))=_
      rw [sk hA true (k2 - 1) aC aC,ht,show k2 - 1 - (k - 1 - k')=k2 - (k - k')by omega]
theorem Ho{α:Type}{f:α→JS}{m:Nat}{l l':List α}(h:l.Perm l'): ∀ {t:Bool} {c:Nat},AT f m l t c→AT f m l' t c:=by
  induction h with
  |nil=>exact fun h=>h
  |cons a _ ih=>
    rintro t c ⟨b,c1,t',c',h1,h2,h3,h4⟩
    exact⟨b,c1,t',c',h1,ih h2,h3,h4⟩
  |swap a a' l=>
    rintro t c ⟨b,c1,t',c',h1,⟨b2,c2,t2,c3,h5,h6,rfl,rfl⟩,rfl,rfl⟩
    exact⟨b2,c2,b && t2,c1+c3,h5,⟨b,c1,t2,c3,h1,h6,rfl,rfl⟩,by cases b<;>cases b2<;>rfl,aC⟩
  |trans _ _ ih1 ih2=>exact fun h=>ih2 (ih1 h)
theorem FK{α:Type}{f:α→JS}{m:Nat}: ∀ {l l':List α} {t t2:Bool} {c c2:Nat},AT f m l t c→AT f m l' t2 c2→AT f m (l++l') (t && t2) (c+c2)
  |[],l',t,t2,c,c2,h,h2=>by
    obtain⟨rfl,rfl⟩:=h
    rw [Bool.true_and,Nat.zero_add]
    exact h2
  |a::l,l',t,t2,c,c2,h,h2=>by
    obtain⟨b,c1,t',c',x1,x2,rfl,rfl⟩:=h
    exact⟨b,c1,t' && t2,c'+c2,x1,FK x2 h2,by cases b<;>rfl,aC⟩
theorem Hp(v:V):wr (normalV v)=wr v:=by
 refine V.indS (p:=fun v=>wr (normalV v)=wr v) (fun v IH=>?_) v
 rw [mn,sZ,mn,mo]
 have h2:(fun x=>eb x && da x)=da:=by
  funext x
  unfold da
  cases eb x<;>cases qt x<;>rfl
 rw [h2]
 refine qZ fun k x hx=>?_
 rw [ox sL]
 refine qR fun y hy=>?_
 have hlt:=Nat.lt_of_le_of_lt hy (yU hx)
 rw [IH y hlt]
 split
 ·rfl
 split<;>rfl
theorem Al(sh:Int)(x:V):cJ sh wr (cJ sh normalV x)=cJ sh wr x:=by
 rw [ox sL]
 refine qR fun y hy=>?_
 rw [Hp]
 split
 ·rfl
 split<;>rfl
structure LU(v o:V):Prop where
 one: ∀ key,eb key=true→(getV v key).isSome=true→(getV o key).isSome=true→False
 ref:getV v k3=none∧getV o k3=none
 id:getV v kId=none∧getV o kId=none
 grp: ∀ key g,(key,g)∈kZ∨(g,key)∈kZ∨(key=k23∧g=k24)∨(key=k24∧g=k23)→(getV v key).isSome=true→(getV o g).isSome=true→False
theorem Am{key:ByteArray}(h:da key=true):eb key=true:=by
 unfold da at h
 rw [Bool.and_eq_true]at h
 exact h.1
theorem fS{v o:V}(hv:eM v)(ho:eM o)(hc:eM (copiedV v o)){key:ByteArray}(hk:da key=true):getV (wr (copiedV v o)) key=((getV o key).or (getV v key)).map (cJ (cH key) wr):=by
  rw [nR hc.2 hc.1,if_pos hk,nM hv ho,pR ho.2 ho.1,pR hv.2 hv.1,if_pos (Am hk),if_pos (Am hk)]
  cases getV o key with
  |some y=>show some _=some _;rw [Al]
  |none=>
    cases getV v key with
    |some y=>show some _=some _;rw [Al]
    |none=>rfl
theorem QT{α:Type}{a b:Option α}(h:b=none):a.or b=a:=by
 subst h
 cases a<;>rfl
theorem jz{α:Type}{a:Option α}(h:a.isSome=true→False):a=none:=by
  cases a with
  |none=>rfl
  |some x=>exact(h rfl).elim
theorem An{w s c x:V}{n m:Nat}(hw:eM s)(hww:w=s)(hP: ∀ ref t,PtV w ref=some t→PtV c ref=some (wr t))(hG: ∀ key own,getV s key=some own→ ∀ g,(key,g)∈kZ→getV c g=(getV s g).map (cJ (cH g) wr))(hr:getV s k3=none){k:Nat}{b:Bool}{k':Nat}
  (h:dW w (n+1) s x k=some (b,k')) (hk:k≤m) (hk0:k≠0):k'≤k - 1∧AT (fun p:ByteArray×V=>ec (dW c m) c p.1 p.2 x) m (((s.keys.zip s.items).filter fun p=>da p.1).map fun p=>(p.1,cJ (cH p.1) wr p.2)) b (k - 1 - k'):=by
 subst hww
 rw [gM hk0 hr]at h
 obtain⟨h1,t,ht,hA⟩:=v8 (f':=fun p:ByteArray×V=>ec (dW c m) c p.1 p.2 x) (m:=m) (q:=fun p:ByteArray×V=>da p.1) (g:=fun p:ByteArray×V=>(p.1,cJ (cH p.1) wr p.2))
  (fun p hp=>⟨fun hq=>JN (fun z x hz=>LT hw hP n m z x hz) hw ((xI hw.1 hw.2.kind).1 hp) (hG p.1 p.2 ((xI hw.1 hw.2.kind).1 hp)),fun hq=>FJ hq⟩) h aC
 refine⟨h1,?_⟩
 rw [Bool.and_true]at ht
 subst ht
 exact hA
theorem nY(t:V):nodes t≤1000000000→kp t=(nodes t:Int):=by
  refine V.indS (p:=fun t=>nodes t≤1000000000→kp t=(nodes t:Int)) (fun t IH hn=>?_) t
  obtain⟨q,nm,s,ks,ts⟩:=t
  rw [tK]at hn⊢
  simp only [V.items]at hn⊢
  have key: ∀ (l:List V) (acc:Nat),(∀ x∈l,x∈ts)→acc+(l.map nodes).sum≤1000000000→iF (acc:Int) l=((acc+(l.map nodes).sum:Nat):Int):=by
    intro l
    induction l with
    |nil=>intro acc _ _;rw [iF];rfl
    |cons a l ih=>
      intro acc hm hb
      rw [List.map_cons,List.sum_cons]at hb⊢
      rw [iF,IH a (yU (t:= .mk q nm s ks ts) (hm a List.mem_cons_self)) aC,vU aC aC,show(acc:Int)+(nodes a:Int)=((acc+nodes a:Nat):Int)by omega,ih (acc+nodes a) (fun x hx=>hm x (List.mem_cons_of_mem _ hx)) aC]
      omega
  rw [kp]
  exact key ts 1 (fun x hx=>hx) hn
theorem nZ{α:Type}(f:α→Nat)(q:α→Bool): ∀ (l:List α),((l.filter q).map f).sum≤(l.map f).sum
  |[]=>Nat.le_refl _
  |a::l=>by
    have:=nZ f q l
    rw [List.filter_cons]
    split
    · simp only [List.map_cons,List.sum_cons];omega
    · simp only [List.map_cons,List.sum_cons];omega
theorem na{key:ByteArray}{own:V}: ∀ (l:iA),((cy key own l).map fun p=>nodes p.2).sum≤(l.map fun p=>nodes p.2).sum+nodes own
  |[]=>by simp [cy]
  |p::l=>by
    have ih:=na (key:=key) (own:=own) l
    rw [cy]
    split
    · have:=nZ (fun p:ByteArray×V=>nodes p.2) (fun q=> !decide (q.1=key)) (p::l)
      simp only [List.map_cons,List.sum_cons]at this⊢
      omega
    · simp only [List.map_cons,List.sum_cons];omega
theorem CO(l:iA):nodes (I8 l)=1+(l.map fun p=>nodes p.2).sum:=by
 rw [tK]
 unfold I8
 simp only [V.items,List.map_map]
 rfl
theorem pk(v:V):1+((v.keys.zip v.items).map fun p=>nodes p.2).sum≤nodes v:=by
 rw [tK]
 have:=qV nodes v.keys v.items
 omega
theorem pm: ∀ (l:iA) (out:V),nodes (eR l out)≤nodes out+(l.map fun p=>nodes p.2).sum
  |[],out=>Nat.le_refl _
  |p::l,out=>by
    have h1:=pm l (eQ out p.1 p.2)
    have h2:nodes (eQ out p.1 p.2)≤nodes out+nodes p.2:=by
      unfold eQ
      rw [CO]
      have:=na (key:=p.1) (own:=p.2) (out.keys.zip out.items)
      have:=pk out
      omega
    show nodes (eR l (eQ out p.1 p.2))≤_
    rw [List.map_cons,List.sum_cons]
    omega
theorem nc(v:V):nodes (normalV v)≤nodes v:=by
 refine V.indS (p:=fun v=>nodes (normalV v)≤nodes v) (fun v IH=>?_) v
 rw [tK,tK v,sZ]
 unfold dG
 simp only [MH]
 rw [List.map_map]
 have h1:=iZ (f:=nodes∘fun p:ByteArray×V=>cJ (cH p.1) normalV p.2) (g:=fun p=>nodes p.2) (l:=(v.keys.zip v.items).filter (fun p=>eb p.1)) fun p hp=>by
  have hm:=(List.of_mem_zip (List.mem_filter.1 hp).1).2
  exact mw fun y hy=>IH y (Nat.lt_of_le_of_lt hy (yU hm))
 have h2:=iK (fun p:ByteArray×V=>eb p.1) (fun p=>nodes p.2) (v.keys.zip v.items)
 have h3:=qV nodes v.keys v.items
 omega
theorem sq(v o:V):nodes (copiedV v o)≤nodes v+nodes o:=by
 unfold copiedV gK
 have h1:=pm ((normalV o).keys.zip (normalV o).items) (normalV v)
 have h2:=nc v
 have h3:=nc o
 have h4:=pk (normalV o)
 omega
theorem CP{c:V}(hn:nodes c≤1000000000)(hc:dC c):dC (wr c):=by
 have h1:=EF c
 have h2:=hc.1.2
 rw [nY c hn]at h2
 refine⟨⟨ut c hc.2 12 hc.1.1,?_⟩,vm c hc.2 ⟨12,hc.1.1⟩⟩
 rw [nY _ aC]
 omega
theorem Ao{s c:V}(hs:eM s)(hid:s7 c=s7 s)(hget: ∀ key own,getV s key=some own→da key=true→getV c key=some (cJ (cH key) wr own)): ∀ ref t,PtV s ref=some t→PtV c ref=some (wr t):=by
  intro ref t h
  unfold PtV at h⊢
  rw [hid]
  cases hh:eU (s7 s) ref with
  |none=>rw [hh]at h;cases h
  |some p=>
    rw [hh,Option.bind_some]at h
    rw [Option.bind_some]
    have hpt:=(pd hh).2.2
    have h9:=JD hpt
    cases ha:getV s p.2 with
    |none=>rw [ha]at h;cases h
    |some all=>
      rw [ha,Option.bind_some]at h
      rw [hget _ _ ha (by rcases hpt with e|e<;>rw [e]<;>decide+kernel),Option.bind_some,h9]
      obtain⟨_,hk5,hit⟩:=Eb hs.2 hs.1 h9 ha
      rw [pe fun z hz=>(hit z hz).1,h]
      rfl
noncomputable abbrev ML(v:V):List (ByteArray×V):=((v.keys.zip v.items).filter fun p=>da p.1).map fun p=>(p.1,cJ (cH p.1) wr p.2)
theorem l4{v y:V}{key:ByteArray}(hv:eM v):(key,y)∈ML v↔ ∃own,getV v key=some own∧da key=true∧y=cJ (cH key) wr own:=by
 constructor
 ·intro h
  obtain⟨p,hp,e⟩:=List.mem_map.1 h
  obtain⟨h1,h2⟩:=List.mem_filter.1 hp
  injection e with e1 e2
  subst e1 e2
  exact⟨p.2,(xI hv.1 hv.2.kind).1 h1,h2,rfl⟩
 ·rintro ⟨own,h1,h2,rfl⟩
  exact List.mem_map.2 ⟨(key,own),List.mem_filter.2 ⟨(xI hv.1 hv.2.kind).2 h1,h2⟩,rfl⟩
theorem po{v:V}(hv:eM v):(ML v).Nodup:=by
 refine sR (f:=Prod.fst) ?_
 rw [List.map_map]
 have h1:(((v.keys.zip v.items).filter fun p=>da p.1).map Prod.fst).Nodup:=((List.filter_sublist).map Prod.fst).nodup (map_fst_zip' (nL hv.1 hv.2.kind))
 exact h1
theorem za{v o x:V}{a b:Bool}(hv:dC v)(ho:dC o)(hc:dC (copiedV v o))(hn:nodes v+nodes o≤1000000000)(hT:LU v o)(ha:lR 4000 v x=some a)(hb:lR 4000 o x=some b):lR 8000 (wr (copiedV v o)) x=some (a && b):=by
  have sv:eM v:=⟨⟨12,hv.1.1⟩,hv.2⟩
  have so:eM o:=⟨⟨12,ho.1.1⟩,ho.2⟩
  have sc:eM (copiedV v o):=⟨⟨12,hc.1.1⟩,hc.2⟩
  have hnc:=sq v o
  have hwc:=CP aC hc
  have swc:eM (wr (copiedV v o)):=K7 sc
  have hd:ea x:=Classical.byContradiction fun h=>by rw [sj (fun e=>h e.2)]at ha;cases ha
  have gv: ∀ key own,getV v key=some own→da key=true→getV (wr (copiedV v o)) key=some (cJ (cH key) wr own):=fun key own h hk=>by
    rw [fS sv so sc hk,h,jz (a:=getV o key) (fun e=>hT.one key (Am hk) (by rw [h];rfl) e)]
    rfl
  have go: ∀ key own,getV o key=some own→da key=true→getV (wr (copiedV v o)) key=some (cJ (cH key) wr own):=fun key own h hk=>by
    rw [fS sv so sc hk,h]
    rfl
  have hid:getV (wr (copiedV v o)) kId=none:=by
    rw [fS sv so sc aD,hT.id.1,hT.id.2]
    rfl
  have href:getV (wr (copiedV v o)) k3=none:=by
    rw [fS sv so sc aD,hT.ref.1,hT.ref.2]
    rfl
  have iv:s7 (wr (copiedV v o))=s7 v:=by unfold s7;rw [hid,hT.id.1]
  have io:s7 (wr (copiedV v o))=s7 o:=by unfold s7;rw [hid,hT.id.2]
  have Gv: ∀ key own,getV v key=some own→ ∀ g,(key,g)∈kZ→getV (wr (copiedV v o)) g=(getV v g).map (cJ (cH g) wr):=fun key own h g hg=>by
    rw [fS sv so sc (y9 hg),jz (a:=getV o g) (fun e=>hT.grp key g (.inl hg) (by rw [h];rfl) e)]
    rfl
  have Go: ∀ key own,getV o key=some own→ ∀ g,(key,g)∈kZ→getV (wr (copiedV v o)) g=(getV o g).map (cJ (cH g) wr):=fun key own h g hg=>by
    rw [fS sv so sc (y9 hg),jz (a:=getV v g) (fun e=>hT.grp g key (.inr (.inl hg)) e (by rw [h];rfl)),QT rfl]
  have told: ∀ (K:Nat) (w:V) (r:Bool),dC w→lR K w x=some r→ ∃k',dW w (K+1) w x K=some (r,k'):=fun K w r hw h=>by
    unfold lR at h
    rw [if_pos ⟨hw,hd⟩]at h
    cases hm:dW w (K+1) w x K with
    |none=>rw [hm]at h;cases h
    |some q=>
      obtain⟨r',k'⟩:=q
      rw [hm]at h
      injection h with h
      have h:r'=r:=h
      exact⟨k',by rw [h]⟩
  obtain⟨k1,h1⟩:=told _ _ _ hv ha
  obtain⟨k2,h2⟩:=told _ _ _ ho hb
  obtain⟨l1,A1⟩:=An (c:=wr (copiedV v o)) (m:=8000) sv rfl (Ao sv iv gv) Gv hT.ref.1 h1 aC aC
  obtain⟨l2,A2⟩:=An (c:=wr (copiedV v o)) (m:=8000) so rfl (Ao so io go) Go hT.ref.2 h2 aC aC
  have hdis: ∀ a,a∈ML v→ ∀ b,b∈ML o→a≠b:=fun p hp q hq e=>by
    subst e
    obtain⟨key,y⟩:=p
    obtain⟨own,e1,e2,_⟩:=(l4 sv).1 hp
    obtain⟨own',e3,_,_⟩:=(l4 so).1 hq
    exact hT.one key (Am e2) (by rw [e1];rfl) (by rw [e3];rfl)
  have hperm:(ML v++ML o).Perm ((wr (copiedV v o)).keys.zip (wr (copiedV v o)).items):=by
    refine(List.perm_ext_iff_of_nodup (List.nodup_append.2 ⟨po sv,po so,hdis⟩) (sR (map_fst_zip' (nL swc.1 swc.2.kind)))).2 fun p=>?_
    obtain⟨key,y⟩:=p
    rw [List.mem_append,l4 sv,l4 so,xI swc.1 swc.2.kind]
    constructor
    · rintro (⟨own,e1,e2,rfl⟩|⟨own,e1,e2,rfl⟩)
      · exact gv key own e1 e2
      · exact go key own e1 e2
    · intro h
      have hk:da key=true:=Classical.byContradiction fun e=>by
        rw [nR sc.2 sc.1,if_neg e]at h
        cases h
      rw [fS sv so sc hk]at h
      cases ho':getV o key with
      |some own=>
        rw [ho']at h
        injection h with h
        exact .inr ⟨own,rfl,hk,h.symm⟩
      |none=>
        rw [ho']at h
        cases hv':getV v key with
        |some own=>
          rw [hv']at h
          injection h with h
          exact .inl ⟨own,rfl,hk,h.symm⟩
        |none=>rw [hv']at h;cases h
  have hA:=Ho hperm (FK A1 A2)
  unfold lR
  rw [if_pos ⟨hwc,hd⟩,gM aC href]
  have hall:=sk hA true 7999 aC aC
  rw [Bool.and_true]at hall
  show(cx _ _ (some (true,7999))).map _=_
  rw [hall]
  rfl
def BysV(w:World)(ok:Nat→Prop)(v:Value)(l:List UInt8):Prop:= ∃A c,v= .slice A l.length c∧l.length≤c∧c≤maxLen∧ ∀ (i:Nat) (b:UInt8),l[i]? =some b→ ∃a,A=some a∧ok a.block∧w.cell? (a.add i)=some (.int .u8 b.toNat)
 mutual
def PcP(w:World)(ok:Nat→Prop):Pc→Nat→Prop
  | .mk k l ng fr to ks,b=>ok b∧ ∃vf vt A c,w.heap[b]? =some (.cells #[.int .i64 (k:Int), .int .i64 (l:Int), .bool false, .bool ng,vf,vt, .slice A ks.length c] 279 (0,0))∧BysV w ok vf fr∧BysV w ok vt to∧ks.length≤c∧c≤maxLen∧PksP w ok A 0 ks
def PksP(w:World)(ok:Nat→Prop)(A:Option Addr):Nat→List Pc→Prop
  |_,[]=>True
  |i,y::ys=>(∃a b,A=some a∧ok a.block∧w.cell? (a.add i)=some (.pointer (some ⟨b,0,none⟩))∧PcP w ok y b)∧PksP w ok A (i+1) ys
end
def PksV(w:World)(ok:Nat→Prop)(v:Value)(ys:List Pc):Prop:= ∃A c,v= .slice A ys.length c∧ys.length≤c∧c≤maxLen∧PksP w ok A 0 ys
def PpsP(w:World)(ok:Nat→Prop):List Value→List Pc→Prop
  |xs,[]=>xs=[]
  |xs,y::ys=> ∃b rest,xs= .pointer (some ⟨b,0,none⟩)::rest∧PcP w ok y b∧PpsP w ok rest ys
section
variable {w w':World} {ok ok':Nat→Prop}
theorem BysV.mono(h1: ∀ k,ok k→ok' k)(h2: ∀ k,ok k→w'.heap[k]? =w.heap[k]?){v:Value}{l:List UInt8}(h:BysV w ok v l):BysV w' ok' v l:=by
 obtain⟨A,c,a1,a2,a3,h⟩:=h
 refine⟨A,c,a1,a2,a3,fun i b hb=>?_⟩
 obtain⟨a,ha,hok,hc⟩:=h i b hb
 exact⟨a,ha,h1 _ hok,by rw [uV (w:=w) (w':=w') (a:=a.add i) bQ];exact hc⟩
 mutual
theorem PcP.mono(h1: ∀ k,ok k→ok' k)(h2: ∀ k,ok k→w'.heap[k]? =w.heap[k]?): ∀ (y:Pc) {b:Nat},PcP w ok y b→PcP w' ok' y b
  | .mk k l ng fr to ks,b,h=>by
    simp only [PcP]at h⊢
    obtain⟨hb,vf,vt,A,c,hh,hf,ht,hl,hc,hk⟩:=h
    exact⟨h1 _ hb,vf,vt,A,c,(h2 _ hb).trans hh,hf.mono h1 h2,ht.mono h1 h2,hl,hc,PksP.mono h1 h2 A ks 0 hk⟩
theorem PksP.mono(h1: ∀ k,ok k→ok' k)(h2: ∀ k,ok k→w'.heap[k]? =w.heap[k]?)(A:Option Addr): ∀ (ys:List Pc) (i:Nat),PksP w ok A i ys→PksP w' ok' A i ys
  |[],_,_=>by simp [PksP]
  |y::ys,i,h=>by
    simp only [PksP]at h⊢
    obtain⟨⟨a,b,ha,hok,hc,hx⟩,hr⟩:=h
    exact⟨⟨a,b,ha,h1 _ hok,by rw [uV (w:=w) (w':=w') (a:=a.add i) bQ];exact hc,PcP.mono h1 h2 y hx⟩,PksP.mono h1 h2 A ys (i+1) hr⟩
end
theorem PpsP.mono(h1: ∀ k,ok k→ok' k)(h2: ∀ k,ok k→w'.heap[k]? =w.heap[k]?): ∀ {ys:List Pc} {xs:List Value},PpsP w ok xs ys→PpsP w' ok' xs ys
  |[],_,h=>h
  |y::ys,_,⟨b,rest,hx,hn,hr⟩=>⟨b,rest,hx,PcP.mono h1 h2 y hn,PpsP.mono h1 h2 hr⟩
theorem PksP.get{A:Option Addr}: ∀ {ys:List Pc} {i:Nat},PksP w ok A i ys→ ∀ {j:Nat} {y:Pc},ys[j]? =some y→ ∃a b,A=some a∧ok a.block∧w.cell? (a.add (i+j))=some (.pointer (some ⟨b,0,none⟩))∧PcP w ok y b
  |[],i,_,j,y,hj=>by simp at hj
  |y'::ys,i,h,0,y,hj=>by
    simp only [PksP]at h
    simp at hj
    subst hj
    exact h.1
  |y'::ys,i,h,j+1,y,hj=>by
    simp only [PksP]at h
    have:=PksP.get h.2 (j:=j) (y:=y) bu
    rwa [show i+1+j=i+(j+1)from by omega]at this
theorem PksP.of_get{A:Option Addr}: ∀ {ys:List Pc} {i:Nat},(∀ j y,ys[j]? =some y→ ∃a b,A=some a∧ok a.block∧w.cell? (a.add (i+j))=some (.pointer (some ⟨b,0,none⟩))∧PcP w ok y b)→PksP w ok A i ys
  |[],i,_=>by simp [PksP]
  |y::ys,i,h=>by
    simp only [PksP]
    refine⟨h 0 y Z,PksP.of_get fun j y' hj=>?_⟩
    have:=h (j+1) y' bu
    rwa [show i+(j+1)=i+1+j from by omega]at this
theorem PpsP.get: ∀ {ys:List Pc} {xs:List Value},PpsP w ok xs ys→ ∀ {j:Nat} {y:Pc},ys[j]? =some y→ ∃b,xs[j]? =some (.pointer (some ⟨b,0,none⟩))∧PcP w ok y b
  |[],_,_,j,y,hj=>by simp at hj
  |y'::ys,_,⟨b,rest,hx,hn,hr⟩,0,y,hj=>by
    simp at hj
    subst hj;subst hx
    exact⟨b,rfl,hn⟩
  |y'::ys,_,⟨b,rest,hx,hn,hr⟩,j+1,y,hj=>by
    subst hx
    obtain⟨b',h1,h2⟩:=PpsP.get hr (j:=j) (y:=y) bu
    exact⟨b',by simpa using h1,h2⟩
theorem PpsP.len: ∀ {ys:List Pc} {xs:List Value},PpsP w ok xs ys→xs.length=ys.length
  |[],_,h=>by have h':_=[]:=h;subst h';rfl
  |y::ys,_,⟨b,rest,hx,hn,hr⟩=>by subst hx;simp [PpsP.len hr]
theorem PpsP.snoc{y:Pc}{b:Nat}(hn:PcP w ok y b): ∀ {ys:List Pc} {xs:List Value},PpsP w ok xs ys→PpsP w ok (xs++[.pointer (some ⟨b,0,none⟩)]) (ys++[y])
  |[],_,h=>by have h':_=[]:=h;subst h';exact⟨b,[],rfl,hn,rfl⟩
  |y'::ys,_,⟨b',rest,hx,hn',hr⟩=>by subst hx;exact⟨b',_,rfl,hn',PpsP.snoc hn hr⟩
theorem zb{A:Option Addr}{n c T:Nat}{xs:List Value}{ys:List Pc}(h:(HA.row A n c T 1 xs).holds w)(hok: ∀ b∈(HA.row A n c T 1 xs).foot,ok b)(hx:PpsP w ok xs ys):PksV w ok (.slice A n c) ys:=by
 obtain⟨h1,h2,h3⟩:=uK h
 have hn:n=ys.length:=by have:=h.1;rw [hx.len]at this;omega
 subst hn
 refine⟨A,c,rfl,h1,h2,PksP.of_get fun j y hj=>?_⟩
 obtain⟨b,hb,hnode⟩:=hx.get hj
 obtain⟨a,ha,hf,hc⟩:=h3 j _ hb
 exact⟨a,b,ha,hok _ bz,by rw [Nat.zero_add];exact hc,hnode⟩
theorem zc{A:Option Addr}{n c T:Nat}{l:List UInt8}(h:(HA.row A n c T 1 (fP l)).holds w)(hok: ∀ b∈(HA.row A n c T 1 (fP l)).foot,ok b):BysV w ok (.slice A n c) l:=by
 obtain⟨h1,h2,h3⟩:=uK h
 have hn:n=l.length:=by have:=h.1;unfold fP at this;rw [List.length_map]at this;omega
 subst hn
 refine⟨A,c,rfl,h1,h2,fun j b hj=>?_⟩
 obtain⟨a,ha,hf,hc⟩:=h3 j (.int .u8 b.toNat) (by unfold fP;rw [List.getElem?_map,hj];rfl)
 exact⟨a,ha,hok _ bz,hc⟩
end
def DA.pc(b:Nat)(y:Pc):DA:=⟨fun w ok=>PcP w ok y b,fun h1 h2 h=>PcP.mono h1 h2 y h⟩
def DA.bys(v:Value)(l:List UInt8):DA:=⟨fun w ok=>BysV w ok v l,fun h1 h2 h=>h.mono h1 h2⟩
def DA.pks(v:Value)(ys:List Pc):DA:=⟨fun w ok=>PksV w ok v ys,fun h1 h2 h=>by
 obtain⟨A,c,a1,a2,a3,h⟩:=h
 exact⟨A,c,a1,a2,a3,PksP.mono h1 h2 A ys 0 h⟩⟩
def DA.pps(xs:List Value)(ys:List Pc):DA:=⟨fun w ok=>PpsP w ok xs ys,fun h1 h2 h=>PpsP.mono h1 h2 h⟩
section rules
variable {P:Program} {n:Nat} {F:List Nat} {c:Ctx F} {ops:Array Oper} {d:Nat} {T:TypeId} {l:List Oper} {k:List KI} {Q:cu} {e:dF} {M:List HA} {D:List DA}
theorem qX(i:Nat){h:HA}(D':List DA)(hF: ∀ b∈F,b∈cP (M.eraseIdx i))(hi:M[i]? =some h)(hd: ∀ (w:World) (ok:Nat→Prop),h.holds w→(∀ b∈h.foot,ok b)→(∀ d∈D,d.p w ok)→ ∀ d∈D',d.p w ok)
  (next:cG P n c ops l k Q e (M.eraseIdx i) (D'++D)):cG P n c ops l k Q e M D:=by
 intro a w hf
 have h1:=hf.toFitsW.perm (wQ hi)
 have hnd:=h1.nodup
 refine next a w (hf.world (h1.freeze (fun b hb hbF=>?_) (hd w)))
 exact(List.nodup_append.1 hnd).2.2 b hb b (hF b hbF) Z
theorem pU(i j:Nat){A:Option Addr}{m cap E:Nat}{xs:List Value}(ys:List Pc)(hi:M[i]? =some (.row A m cap E 1 xs))(hj:D[j]? =some (.pps xs ys))(hF: ∀ b∈F,b∈cP (M.eraseIdx i))(next:cG P n c ops l k Q e (M.eraseIdx i) (.pks (.slice A m cap) ys::D)):cG P n c ops l k Q e M D:=
 qX i [.pks (.slice A m cap) ys] hF hi (fun w ok h hok hD d hd=>by
  rcases List.mem_singleton.1 hd with rfl
  exact zb h hok (hD _ (List.mem_of_getElem? hj))) next
theorem tA(i:Nat){A:Option Addr}{m cap E:Nat}(bs:List UInt8)(hi:M[i]? =some (.row A m cap E 1 (fP bs)))(hF: ∀ b∈F,b∈cP (M.eraseIdx i))(next:cG P n c ops l k Q e (M.eraseIdx i) (.bys (.slice A m cap) bs::D)):cG P n c ops l k Q e M D:=
 qX i [.bys (.slice A m cap) bs] hF hi (fun w ok h hok hD d hd=>by
  rcases List.mem_singleton.1 hd with rfl
  exact zc h hok) next
theorem FL{b E:Nat}{vs:List Value}(hl:vs.length≤maxLen)(w:World)(h:(HA.blk b vs E).holds w):(HA.row (some ⟨b,0,none⟩) vs.length vs.length E 1 vs).holds w:=
 ⟨(Nat.mul_one _).symm, .inr ⟨b,vs.length,vs.toArray,rfl,Nat.zero_le _,h,Nat.le_refl _,hl,by simp,by simp⟩⟩
theorem tL(i:Nat){b E:Nat}{vs:List Value}(hi:M[i]? =some (.blk b vs E))(hl:vs.length≤maxLen)(next:cG P n c ops l k Q e (.row (some ⟨b,0,none⟩) vs.length vs.length E 1 vs::M.eraseIdx i) D):cG P n c ops l k Q e M D:=
 fun a w hfit=>next a w (hfit.world (nT i hi (FL hl w) rfl hfit.toFitsW))
theorem uM(i j1 j2 j3:Nat){b q r:Nat}{ng:Bool}{vf vt vk:Value}{fr to:List UInt8}{ks:List Pc}(hi:M[i]? =some (.blk b [.int .i64 (q:Int), .int .i64 (r:Int), .bool false, .bool ng,vf,vt,vk] 279))(h1:D[j1]? =some (.bys vf fr))(h2:D[j2]? =some (.bys vt to))(h3:D[j3]? =some (.pks vk ks))
  (hF: ∀ b∈F,b∈cP (M.eraseIdx i)) (next:cG P n c ops l k Q e (M.eraseIdx i) (.pc b (.mk q r ng fr to ks)::D)):cG P n c ops l k Q e M D:=
 qX i [.pc b (.mk q r ng fr to ks)] hF hi (fun w ok h hok hD d hd=>by
  rcases List.mem_singleton.1 hd with rfl
  obtain⟨A,cc,rfl,a2,a3,a4⟩:PksV w ok vk ks:=hD _ (List.mem_of_getElem? h3)
  show PcP w ok _ _
  simp only [PcP]
  exact⟨hok _ br,vf,vt,A,cc,h,hD _ (List.mem_of_getElem? h1),hD _ (List.mem_of_getElem? h2),a2,a3,a4⟩) next
theorem qI(next:cG P n c ops l k Q e M (.bys (.slice none 0 0) []::D)):cG P n c ops l k Q e M D:=
 fm (D':= .bys (.slice none 0 0) []::D) (fun w ok h x hx=>by
  rcases List.mem_cons.1 hx with rfl|hx
  ·exact⟨none,0,rfl,Nat.le_refl _,Nat.zero_le _,fun i b hb=>by cases hb⟩
  ·exact h _ hx) next
theorem rN(next:cG P n c ops l k Q e M (.pks (.slice none 0 0) []::D)):cG P n c ops l k Q e M D:=
 fm (D':= .pks (.slice none 0 0) []::D) (fun w ok h x hx=>by
  rcases List.mem_cons.1 hx with rfl|hx
  ·exact⟨none,0,rfl,Nat.le_refl _,Nat.zero_le _,by simp [PksP]⟩
  ·exact h _ hx) next
theorem j0(next:cG P n c ops l k Q e M (.pps [] []::D)):cG P n c ops l k Q e M D:=
 fm (D':= .pps [] []::D) (fun w ok h x hx=>by
  rcases List.mem_cons.1 hx with rfl|hx
  ·exact rfl
  ·exact h _ hx) next
theorem FM(next:Run P n c k Q e M (.pps [] []::D)):Run P n c k Q e M D:=
 uJ (D':= .pps [] []::D) (fun w ok h x hx=>by
  rcases List.mem_cons.1 hx with rfl|hx
  ·exact rfl
  ·exact h _ hx) next
theorem gN(i j:Nat){xs:List Value}{ys:List Pc}{b:Nat}{y:Pc}(hi:D[i]? =some (.pps xs ys))(hj:D[j]? =some (.pc b y))(next:cG P n c ops l k Q e M (.pps (xs++[.pointer (some ⟨b,0,none⟩)]) (ys++[y])::D)):cG P n c ops l k Q e M D:=
 fm (D':= .pps (xs++[.pointer (some ⟨b,0,none⟩)]) (ys++[y])::D) (fun w ok h x hx=>by
  rcases List.mem_cons.1 hx with rfl|hx
  ·exact PpsP.snoc (h _ (List.mem_of_getElem? hj)) (h _ (List.mem_of_getElem? hi))
  ·exact h _ hx) next
theorem FN(j:Nat){b q r:Nat}{ng:Bool}{fr to:List UInt8}{ks:List Pc}(hj:D[j]? =some (.pc b (.mk q r ng fr to ks)))
  (next: ∀ A1 c1 A2 c2 A3 c3,ks.length≤maxLen→fr.length≤maxLen→to.length≤maxLen→Run P n c k Q e M (.dblk b [.int .i64 (q:Int), .int .i64 (r:Int), .bool false, .bool ng, .slice A1 fr.length c1, .slice A2 to.length c2, .slice A3 ks.length c3] 279:: .bys (.slice A1 fr.length c1) fr:: .bys (.slice A2 to.length c2) to:: .pks (.slice A3 ks.length c3) ks::D)):Run P n c k Q e M D:=by
 intro a w hf
 have h:PcP w (c.now M w) (.mk q r ng fr to ks) b:=hf.toFitsW.dt hj
 simp only [PcP]at h
 obtain⟨hb,vf,vt,A3,c3,hh,hf1,ht1,hl,hc,hk⟩:=h
 obtain⟨A1,c1,rfl,b1,b2,b3⟩:=id hf1
 obtain⟨A2,c2,rfl,d1,d2,d3⟩:=id ht1
 refine next A1 c1 A2 c2 A3 c3 (Nat.le_trans hl hc) (Nat.le_trans b1 b2) (Nat.le_trans d1 d2) a w (hf.world (hf.toFitsW.data fun d hd=>?_))
 rcases List.mem_cons.1 hd with rfl|hd
 ·exact⟨hb,hh⟩
 rcases List.mem_cons.1 hd with rfl|hd
 ·exact hf1
 rcases List.mem_cons.1 hd with rfl|hd
 ·exact ht1
 rcases List.mem_cons.1 hd with rfl|hd
 ·exact⟨A3,c3,rfl,hl,hc,hk⟩
 ·exact hf.dat d hd
theorem wc{w:World}(h:FitsW c M D w){j i:Nat}{A:Option Addr}{m cap:Nat}{bs:List UInt8}{b:UInt8}(hj:D[j]? =some (.bys (.slice A m cap) bs))(hb:bs[i]? =some b):w.cell? (At A (i*1))=some (.int .u8 b.toNat):=by
 obtain⟨A',c',hv,_,_,hk⟩:BysV w (c.now M w) (.slice A m cap) bs:=h.dt hj
 obtain⟨a,ha,_,hc⟩:=hk i b hb
 injection hv with hA
 subst hA
 subst ha
 rw [Nat.mul_one]
 exact hc
theorem pq(j:Nat){x y:Operand}{A:Option Addr}{m cap i:Nat}{kd:IntKind}{S E by_:Nat}{bs:List UInt8}(hS:cS P S E 1 by_)(hd:Nat.blt d n=true)(hx:ev e x=some (.slice A m cap))(hy:ev e y=some (.int kd (i:Nat)))(hj:D[j]? =some (.bys (.slice A m cap) bs))(hi:i<m)
  (next:cG P n c ops l k Q ((d, .pointer (some (At A (i*1))))::e) M D):cL P n c ops (some d) (.indexAddr S x y) T l k Q e M D:=by
 intro a w hf
 obtain⟨A',c',hv,_,_,hk⟩:BysV w (c.now M w) (.slice A m cap) bs:=hf.toFitsW.dt hj
 injection hv with hA hm
 subst hA
 subst hm
 obtain⟨a',ha,_⟩:=hk i bs[i] (List.getElem?_eq_getElem hi)
 subst ha
 exact xY (T:=T) hS hd hx hy hi next a w hf
theorem qA(j:Nat){x y:Operand}{A:Option Addr}{m cap i:Nat}{kd:IntKind}{S E sz by_:Nat}{ys:List Pc}(hS:cS P S E sz by_)(hd:Nat.blt d n=true)(hx:ev e x=some (.slice A m cap))(hy:ev e y=some (.int kd (i:Nat)))(hj:D[j]? =some (.pks (.slice A m cap) ys))(hi:i<m)
  (next:cG P n c ops l k Q ((d, .pointer (some (At A (i*sz))))::e) M D):cL P n c ops (some d) (.indexAddr S x y) T l k Q e M D:=by
 intro a w hf
 obtain⟨A',c',hv,_,_,hit⟩:PksV w (c.now M w) (.slice A m cap) ys:=hf.toFitsW.dt hj
 injection hv with hA hm
 subst hA
 subst hm
 obtain⟨a',_,ha,_⟩:=hit.get (List.getElem?_eq_getElem hi)
 subst ha
 exact xY (T:=T) hS hd hx hy hi next a w hf
theorem pV(j i:Nat){A:Option Addr}{m cap:Nat}{ys:List Pc}{y:Pc}(hj:D[j]? =some (.pks (.slice A m cap) ys))(hi:ys[i]? =some y)(next: ∀ b,cG P n c ops l k Q e M (.cell A i (.pointer (some ⟨b,0,none⟩)):: .pc b y::D)):cG P n c ops l k Q e M D:=by
 intro a w hf
 obtain⟨A',c',hv,_,_,hit⟩:PksV w (c.now M w) (.slice A m cap) ys:=hf.toFitsW.dt hj
 injection hv with hA hm
 subst hA
 obtain⟨a',b,ha,hok,hc,hn⟩:=hit.get hi
 rw [Nat.zero_add]at hc
 refine next b a w (hf.world (hf.toFitsW.data fun d hd=>?_))
 rcases List.mem_cons.1 hd with rfl|hd
 ·exact⟨a',ha,hok,hc⟩
 rcases List.mem_cons.1 hd with rfl|hd
 ·exact hn
 ·exact hf.dat d hd
theorem FO(m:Nat){x y:Operand}{S E by_:Nat}(hS:cS P S E 1 by_)(hZ:gz P E [.bool false])(hd:Nat.blt d n=true)(hx:ev e x=some (.int .i64 (m:Nat)))(hy:ev e y=some (.int .i64 (m:Nat)))(hm:m≤1000000)(hby:m*by_≤1000000)
  (next: ∀ b,cG P n c ops l k Q ((d, .slice (some ⟨b,0,none⟩) m m)::e) (.blk b (List.replicate m (.bool false)) E::M) D):cL P n c ops (some d) (.makeSlice S x y) T l k Q e M D:=by
 obtain⟨ti,z,hu,hinf,hs1,hb1,hz,hzs,hsz0⟩:=hS
 obtain⟨ti2,z2,hinf2,hz2,hzc⟩:=hZ
 rw [hinf]at hinf2
 obtain rfl:=Option.some.inj hinf2
 rw [hz]at hz2
 obtain rfl:=Option.some.inj hz2
 intro a w hf
 subst hb1
 have hbb:(ti.bytes:Int)*(m:Int)≤281474976710656:=by
  have h1:((ti.bytes*m:Nat):Int)≤281474976710656:=by rw [Nat.mul_comm];omega
  rwa [Int.natCast_mul]at h1
 have hr:=run_make (P:=P) w S E ti z hu hinf hz .i64 .i64 (m:Int) (m:Int) aC (Int.le_refl _) hbb aC
 simp only [Int.toNat_natCast]at hr
 have hcells:madeCells z.cells (m*ti.size)=(List.replicate m (Value.bool false)).toArray:=by
  rw [hs1,Nat.mul_one]
  have hzc':z.cells= #[.bool false]:=by
   apply Array.toList_inj.1
   rw [hzc]
  unfold madeCells
  rw [hzc']
  apply Array.ext
  ·simp
  ·intro i h1 h2
   simp [Nat.mod_one]
 have hrun:(execOp a.eval (dH (some d) (.makeSlice S x y) T)).run P w= .ok (.value (.slice (some ⟨w.heap.size,0,none⟩) m m)) (w.alloc (.cells (madeCells z.cells (m*ti.size)) E)):=by
  simp only [execOp,dH,hf.ev hx,hf.ev hy,Sem.run_bind,hr,Result.andThen_ok,Sem.run_pure]
 unfold Oper.wp
 rw [hrun,hcells]
 have hx2:(HA.blk w.heap.size (List.replicate m (Value.bool false)) E).holds (w.alloc (.cells (List.replicate m (Value.bool false)).toArray E)):=by
  show(w.heap.push _)[w.heap.size]? =_
  simp
 exact next w.heap.size _ _ ((hf.world (hf.toFitsW.new _ hx2 Z)).put hd _)
end rules
end Go.Jw

namespace Go.Jw
open Go Go.RowKit Go.Proofs
set_option maxRecDepth 8000
theorem Ap{s:ByteArray}{q:Nat}(h:q<s.size):nx s q=s[q]:=by unfold nx;exact dif_pos h
theorem FP{s:ByteArray}{q:Nat}(h: ¬ q<s.size):nx s q=0:=by unfold nx;exact dif_neg h
theorem ff{s:ByteArray}{q:Nat}(h:nx s q≠0):q<s.size:=Classical.byContradiction fun e=>h (FP e)
theorem wG{a b:UInt8}:a=b↔a.toNat=b.toNat:=UInt8.toNat_inj.symm
theorem LV(b:UInt8):di Tryz.prog 321 #[.int .u8 ((b.toNat:Nat):Int)] [] (.bool (du b)):=by
 refine Ct.of_run (args:=[.int .u8 ((b.toNat:Nat):Int)]) Tryz.func321 aF Z Tryz.ntmps321 Z (fun c=>?_)
 refine rO 10 Z (uA Z Z Z ?_)
 refine oS 2 Z (zW (s:=5) Z (fun h5=>?_) (fun h5=>?_))
 ·refine oO 3 Z (sE Z Z Z ?_)
  refine oS 4 Z (zW (s:=9) Z (fun h9=>?_) (fun h9=>?_))
  ·refine oS 3 Z (yH Z Z Z ?_)
   refine yH Z Z Z (oK 6 [2] Z Z ?_)
   exact zD Tryz.results321 Z ⟨congrArg Value.bool aP,rfl,rfl⟩ nS (fun _ h=>by cases h)
  refine oO 3 Z (uA Z Z Z ?_)
  refine oS 2 Z (zW (s:=12) Z (fun h12=>?_) (fun h12=>?_))
  ·refine oO 3 Z (sE Z Z Z ?_)
   refine oK 7 [2] Z Z ?_
   exact zD Tryz.results321 Z ⟨congrArg Value.bool aP,rfl,rfl⟩ nS (fun _ h=>by cases h)
  refine oK 9 [2] Z Z ?_
  exact zD Tryz.results321 Z ⟨congrArg Value.bool aP,rfl,rfl⟩ nS (fun _ h=>by cases h)
 refine oO 9 Z (uA Z Z Z ?_)
 refine oS 2 Z (zW (s:=12) Z (fun h12=>?_) (fun h12=>?_))
 ·refine oO 3 Z (sE Z Z Z ?_)
  refine oK 7 [2] Z Z ?_
  exact zD Tryz.results321 Z ⟨congrArg Value.bool aP,rfl,rfl⟩ nS (fun _ h=>by cases h)
 refine oK 9 [2] Z Z ?_
 exact zD Tryz.results321 Z ⟨congrArg Value.bool aP,rfl,rfl⟩ nS (fun _ h=>by cases h)
theorem LW(b:UInt8):di Tryz.prog 322 #[.int .u8 ((b.toNat:Nat):Int)] [] (.bool (dl b)):=by
 refine Ct.of_run (args:=[.int .u8 ((b.toNat:Nat):Int)]) Tryz.func322 aF Z Tryz.ntmps322 Z (fun c=>?_)
 refine rO 10 Z (uA Z Z Z ?_)
 refine oS 2 Z (zW (s:=5) Z (fun h5=>?_) (fun h5=>?_))
 ·refine oO 3 Z (sE Z Z Z ?_)
  refine oR 5 Z ?_
  exact zD Tryz.results322 Z ⟨congrArg Value.bool (by rw [Bool.eq_iff_iff];unfold dl;simp only [Bool.or_eq_true,decide_eq_true_eq,Bool.false_eq_true,true_iff,false_iff,not_or,Bool.false_or];omega),rfl,rfl⟩ nS (fun _ h=>by cases h)
 refine oR 7 Z ?_
 exact zD Tryz.results322 Z ⟨congrArg Value.bool (by rw [Bool.eq_iff_iff];unfold dl;simp only [Bool.or_eq_true,decide_eq_true_eq,Bool.false_eq_true,true_iff,false_iff,not_or,Bool.false_or];omega),rfl,rfl⟩ nS (fun _ h=>by cases h)
theorem QU(b:UInt8):di Tryz.prog 317 #[.int .u8 ((b.toNat:Nat):Int)] [] (.bool (fu b)):=by
 refine Ct.of_run (args:=[.int .u8 ((b.toNat:Nat):Int)]) Tryz.func317 aF Z Tryz.ntmps317 Z (fun c=>?_)
 refine rO 10 Z (zL Z Z Z (LV b) cQ ?_)
 refine oS 2 Z (zY (s:=5) Z (fun h5=>?_) (fun h5=>?_))
 ·refine oK 25 [2] Z Z ?_
  exact zD Tryz.results317 Z ⟨congrArg Value.bool (by unfold fu;rw [h5];rfl),rfl,rfl⟩ nS (fun _ h=>by cases h)
 refine oO 3 Z (zL Z Z Z (LW b) cQ ?_)
 refine oS 4 Z (zW (s:=9) Z (fun h9=>?_) (fun h9=>?_))
 ·refine oK 19 [2] Z Z ?_
  exact zD Tryz.results317 Z ⟨congrArg Value.bool (by unfold fu dl;rw [h5];simp [h9]),rfl,rfl⟩ nS (fun _ h=>by cases h)
 refine oS 8 Z (zW (s:=13) Z (fun h13=>?_) (fun h13=>?_))
 ·refine oK 13 [2] Z Z ?_
  exact zD Tryz.results317 Z ⟨congrArg Value.bool aO,rfl,rfl⟩ nS (fun _ h=>by cases h)
 refine oS 8 Z (zW (s:=17) Z (fun h17=>?_) (fun h17=>?_))
 ·refine oK 7 [2] Z Z ?_
  exact zD Tryz.results317 Z ⟨congrArg Value.bool aO,rfl,rfl⟩ nS (fun _ h=>by cases h)
 refine oK 9 [2] Z Z ?_
 exact zD Tryz.results317 Z ⟨congrArg Value.bool aO,rfl,rfl⟩ nS (fun _ h=>by cases h)
theorem nf(rb:Nat)(s:ByteArray)(q:Nat)(bad:Bool)(hs:s.size≤1000):Ct Tryz.prog 263 #[ptr rb] [.blk rb [.string s, .int .i64 ((q:Nat):Int), .bool bad] 274] [] (fun u M' D'=>u= .int .u8 (((nx s q).toNat:Nat):Int)∧M'=[.blk rb [.string s, .int .i64 ((q:Nat):Int), .bool bad] 274]∧D'=[]):=by
 refine Ct.of_run (args:=[ptr rb]) Tryz.func263 aF Z Tryz.ntmps263 Z (fun c=>?_)
 refine rR 7 Z (yW yM ?_)
 refine zO (tP 0 Z cF (zP Z) ?_)
 refine tP 1 Z cF (yQ Z) (tP 2 Z cF (zZ xP Z) ?_)
 refine tP 4 Z cF (zP Z) (tP 5 Z cF (yQ Z) ?_)
 refine tP 6 Z cF (zZ rj Z) (yF ?_)
 refine tM 3 Z cF (yT 0 lL Z Z Z) (tM 7 Z cF (yT 0 dO Z Z Z) ?_)
 refine tM 8 Z cF (gW eL Z) (tM 9 Z cF (zo Z Z) ?_)
 refine yJ aD (rK 0 [12,0] Z Z ?_)
 refine zI Z (fun h12=>?_) (fun h12=>?_)
 ·refine xD (yW yM ?_)
  refine zO (tP 0 Z cF (zP Z) ?_)
  refine tP 1 Z cF (yQ Z) (tP 2 Z cF (zZ rj Z) ?_)
  refine tP 4 Z cF (zP Z) (tP 5 Z cF (yQ Z) ?_)
  refine tP 6 Z cF (zZ xP Z) (yF ?_)
  refine tM 3 Z cF (yT 0 dO Z Z Z) (tM 7 Z cF (yT 0 lL Z Z Z) ?_)
  refine tM 8 Z cF (Cn eL Z Z aC) (zO ?_)
  refine tP 9 Z cF (yP Z) (yJ aD ?_)
  refine rK 0 [2] Z Z ?_
  refine yD (M':=[HA.blk rb [_,_,_] 274]) (by repeat (first|exact zQ _|refine zB 0 Z ?_|refine zB 1 Z ?_|refine zB 2 Z ?_|refine zB 3 Z ?_|refine zB 4 Z ?_|refine zB 5 Z ?_|refine zB 6 Z ?_|refine zB 7 Z ?_|refine zB 8 Z ?_)) ?_
  exact zD Tryz.results263 Z ⟨by rw [Ap aC],rfl,rfl⟩ (List.Sublist.refl _) (fun _ h=>by cases h)
 refine rR 6 Z ?_
 refine yD (M':=[HA.blk rb [_,_,_] 274]) (by repeat (first|exact zQ _|refine zB 0 Z ?_|refine zB 1 Z ?_|refine zB 2 Z ?_|refine zB 3 Z ?_|refine zB 4 Z ?_|refine zB 5 Z ?_|refine zB 6 Z ?_|refine zB 7 Z ?_|refine zB 8 Z ?_)) ?_
 exact zD Tryz.results263 Z ⟨by rw [FP aC];rfl,rfl,rfl⟩ (List.Sublist.refl _) (fun _ h=>by cases h)
def PRet(rb:Nat)(s:ByteArray)(r:PR)(u:Value)(M':List HA)(D':List DA):Prop:=
 ∃b,u=ptr b∧M'=[.blk rb [.string s, .int .i64 ((r.2.1:Nat):Int), .bool r.2.2] 274]∧D'=[.pc b r.1]
theorem PRet.of{rb:Nat}{s:ByteArray}{r r':PR}{u:Value}{M':List HA}{D':List DA}(e:r=r')(h:PRet rb s r' u M' D'):PRet rb s r u M' D':=e▸h
theorem Hq{s:ByteArray}{ng:Bool}{n q:Nat}{fr to:List UInt8}(hn:1≤n)(h:nx s q=93):eO s ng n q fr to=(.mk 1 0 ng fr to [],q+1,decide (fr.length=0)):=by
 obtain⟨n,rfl⟩: ∃k,n=k+1:=⟨n - 1,aC⟩
 rw [eO,if_pos h]
 cases fr<;>simp
theorem Hr{s:ByteArray}{ng:Bool}{n q:Nat}{fr to:List UInt8}(hn:1≤n)(h: ¬ nx s q=93)(h1:du (nx s q)=false)(h2:dl (nx s q)=false):eO s ng n q fr to=(.mk 1 0 ng fr to [],q,true):=by
 obtain⟨n,rfl⟩: ∃k,n=k+1:=⟨n - 1,aC⟩
 rw [eO,if_neg h,if_pos (by rw [h1,h2];rfl)]
theorem FQ{s:ByteArray}{ng:Bool}{n q:Nat}{fr to:List UInt8}(hn:1≤n)(h: ¬ nx s q=93)(h1: ¬ (du (nx s q)||dl (nx s q))=false)(h2:nx s (q+1)=45)(h3:(du (nx s (q+2))||dl (nx s (q+2)))=false∨(nx s (q+2)).toNat<(nx s q).toNat):eO s ng n q fr to=(.mk 1 0 ng fr to [],q+2,true):=by
 obtain⟨n,rfl⟩: ∃k,n=k+1:=⟨n - 1,aC⟩
 rw [eO,if_neg h,if_neg h1,if_pos h2,if_pos h3]
theorem Hs{s:ByteArray}{ng:Bool}{n q:Nat}{fr to:List UInt8}(hn:1≤n)(h: ¬ nx s q=93)(h1: ¬ (du (nx s q)||dl (nx s q))=false)(h2:nx s (q+1)=45)(h3: ¬ ((du (nx s (q+2))||dl (nx s (q+2)))=false∨(nx s (q+2)).toNat<(nx s q).toNat)):eO s ng n q fr to=eO s ng (n - 1) (q+3) (fr++[nx s q]) (to++[nx s (q+2)]):=by
 obtain⟨n,rfl⟩: ∃k,n=k+1:=⟨n - 1,aC⟩
 rw [eO,if_neg h,if_neg h1,if_pos h2,if_neg h3]
 rfl
theorem Ht{s:ByteArray}{ng:Bool}{n q:Nat}{fr to:List UInt8}(hn:1≤n)(h: ¬ nx s q=93)(h1: ¬ (du (nx s q)||dl (nx s q))=false)(h2: ¬ nx s (q+1)=45):eO s ng n q fr to=eO s ng (n - 1) (q+1) (fr++[nx s q]) (to++[nx s q]):=by
 obtain⟨n,rfl⟩: ∃k,n=k+1:=⟨n - 1,aC⟩
 rw [eO,if_neg h,if_neg h1,if_neg h2]
 rfl
theorem sr{s:ByteArray}{q:Nat}(h: ¬ (du (nx s q)||dl (nx s q))=false):q<s.size:=Classical.byContradiction fun e=>h (by rw [FP e];decide)
theorem OR{a b:Bool}(h:(!(a||b))=true):a=false∧b=false:=by cases a<;>cases b<;>simp at*
theorem OS{a b:Bool}{p:Prop}[Decidable p](h:(!(a||b)||decide p)=true):(a||b)=false∨p:=by cases a<;>cases b<;>simp_all
theorem OT{a b:Bool}{p:Prop}[Decidable p](h:(!(a||b)||decide p)=false): ¬ ((a||b)=false∨p):=by cases a<;>cases b<;>simp_all
set_option maxHeartbeats 1000000 in
theorem QV(rb:Nat)(s:ByteArray)(q:Nat)(hs:s.size≤1000)(hq:q<s.size):Ct Tryz.prog 316 #[ptr rb] [.blk rb [.string s, .int .i64 ((q:Nat):Int), .bool false] 274] [] (PRet rb s (g9 s q)):=by
 refine Ct.of_run (args:=[ptr rb]) Tryz.func316 aF Z Tryz.ntmps316 Z (fun c=>?_)
 refine rO 8 Z (yV Z Z (jl ..) ?_)
 refine zA (yK Z Z Z (fun b7=>?_))
 refine oO 10 Z (zC xP Z Z ?_)
 refine zA (zF 1 lL Z Z Z Z ?_)
 refine zA (zN Z Z aC ?_)
 refine oO 3 Z (zC xP Z Z ?_)
 refine zA (zG 1 (M':=[_,HA.blk _ [_,_,_] _]) Z Z Z Z s6 Z Z Z ?_)
 refine oK 1 [3,0] Z Z (rO 6 Z ?_)
 refine yG 1 Z Z Z (nf rb s (q+1) _ hs) Z cQ (fun u16 M16 D16 hv16=>?_)
 obtain⟨rfl,rfl,rfl⟩:=hv16
 refine zA (vE (j:=94) Z Z Z ?_)
 refine oK 1 [17,3,0] Z Z (uY [3,0] (fun(⟨a0,ng⟩:Nat×Bool)=>g9 s q=eO s ng (s.size+1) a0 [] []∧a0≤s.size) (fun(⟨a0,ng⟩:Nat×Bool)=>[]) (fun(⟨a0,ng⟩:Nat×Bool)=>HA.blk rb [.string s, .int .i64 ((a0:Nat):Int), .bool false] 274::HA.blk b7 [.int .i64 ((1:Nat):Int), .int .i64 ((0:Nat):Int), .bool false, .bool ng, .slice none 0 0, .slice none 0 0, .slice none 0 0] 279::[]) (fun(⟨a0,ng⟩:Nat×Bool)=>[]) ?_ ?_)
 ·intro K hK
  refine zI Z (fun h17=>?_) (fun h17=>?_)
  ·refine rO 7 Z (zC rk Z Z ?_)
   refine zA (zG 1 (M':=[_,HA.blk _ [_,_,_,_,_,_,_] _]) Z Z Z Z mH Z Z Z ?_)
   refine oO 7 Z (zC xP Z Z ?_)
   refine zA (zF 0 lL Z Z Z Z ?_)
   refine zA (zN Z Z aC ?_)
   refine oO 3 Z (zC xP Z Z ?_)
   refine zA (zG 0 (M':=[HA.blk _ [_,_,_] _,_]) Z Z Z Z s6 Z Z Z ?_)
   refine oK 1 [3,0] Z Z ?_
   exact kQ (hK (_,_) ⟨by unfold g9;rw [if_pos (wG.2 h17)],by have:=ff (s:=s) (q:=q+1) (fun e=>by rw [e]at h17;exact absurd h17 aE);show q+1+1≤_;omega⟩) (eC Z (eC Z (eN _))) (hD:=(fun d hd=>hd))
  refine uF ?_
  exact kQ (hK (_,_) ⟨by unfold g9;rw [if_neg (fun e=>h17 (wG.1 e))],by show q+1≤_;omega⟩) (eC Z (eC Z (eN _))) (hD:=(fun d hd=>hd))
 intro ⟨a0,ng⟩ hI
 change Run _ _ _ _ _ [(3,_),(0,_)] [_,_] ([])
 obtain⟨he0,ha0⟩:=hI
 refine rK 2 [3,0] Z Z (wT 5 1 ?_)
 refine wT 5 1 ?_
 refine yB 0 (fun(⟨a,n,fr,to,Af,cf,At,ct⟩:Nat×Nat×List UInt8×List UInt8×Option Addr×Nat×Option Addr×Nat)=>g9 s q=eO s ng n a fr to∧fr.length=to.length∧a≤s.size∧fr.length≤a∧s.size<a+n) (fun(⟨a,n,fr,to,Af,cf,At,ct⟩:Nat×Nat×List UInt8×List UInt8×Option Addr×Nat×Option Addr×Nat)=>[]) (fun(⟨a,n,fr,to,Af,cf,At,ct⟩:Nat×Nat×List UInt8×List UInt8×Option Addr×Nat×Option Addr×Nat)=>HA.row Af fr.length cf 5 1 (fP fr)::HA.row At to.length ct 5 1 (fP to)::HA.blk rb [.string s, .int .i64 ((a:Nat):Int), .bool false] 274::HA.blk b7 [.int .i64 ((1:Nat):Int), .int .i64 ((0:Nat):Int), .bool false, .bool ng, .slice Af fr.length cf, .slice At to.length ct, .slice none 0 0] 279::[]) (fun(⟨a,n,fr,to,Af,cf,At,ct⟩:Nat×Nat×List UInt8×List UInt8×Option Addr×Nat×Option Addr×Nat)=>[]) (fun(⟨a,n,fr,to,Af,cf,At,ct⟩:Nat×Nat×List UInt8×List UInt8×Option Addr×Nat×Option Addr×Nat)=>s.size - a) (a0,s.size+1,[],[],none,0,none,0) (⟨he0,rfl,ha0,Nat.zero_le _,by show s.size<a0+(s.size+1);omega⟩) (eN _) Z Z ?_ (eC Z (eC Z (eN _)))
 intro ⟨a,n,fr,to,Af,cf,At,ct⟩ hI K hK
 change Run _ _ _ _ _ [(3,_),(0,_)] [_,_,_,_] ([])
 obtain⟨he,hfl,ha,hfa,hn⟩:=hI
 refine rO 6 Z (yG 2 Z Z Z (nf rb s (a) _ hs) Z cQ (fun u29 M29 D29 hv29=>?_))
 obtain⟨rfl,rfl,rfl⟩:=hv29
 refine zA (gT (j:=93) Z Z Z ?_)
 refine yO (yC Z (fun h30=>?_) (fun h30=>?_))
 ·have hn93: ¬ nx s a=93:=fun e=>absurd (wG.1 e) (by simpa using h30)
  refine rO 7 Z (yG 0 Z Z Z (nf rb s (a) _ hs) Z cQ (fun u32 M32 D32 hv32=>?_))
  obtain⟨rfl,rfl,rfl⟩:=hv32
  refine oK 5 [4,3,0] Z Z (uT (fun(bb:Bool)=>bb= !(du (nx s a)||dl (nx s a))) (fun(bb:Bool)=>[(40, .bool bb)]) ?_ ?_)
  ·intro K hK
   refine rO 4 Z (zL Z Z Z (LV _) cQ ?_)
   refine oS 4 Z (zY (s:=36) Z (fun h36=>?_) (fun h36=>?_))
   ·refine oO 3 Z (zL Z Z Z (LW _) cQ ?_)
    refine oR 5 Z ?_
    exact kQ (hK _ (by show _=_;cases hL:du (nx s a)<;>simp_all)) (eC Z (eC Z (eC Z (eC Z (eN _)))))
   refine oR 6 Z ?_
   exact kQ (hK _ (by show _=_;cases hL:du (nx s a)<;>simp_all)) (eC Z (eC Z (eC Z (eC Z (eN _)))))
  intro bb hI
  replace hI:bb= !(du (nx s a)||dl (nx s a)):=hI
  change Run _ _ _ _ _ [(40,_),(4,_),(3,_),(0,_)] (_) (_)
  refine yC Z (fun h40=>?_) (fun h40=>?_)
  ·have hL:=OR (hI.symm.trans h40)
   refine rO 7 Z (zC rG Z Z ?_)
   refine zA (zG 0 (M':=[HA.blk _ [_,_,_] _,_,_,_]) Z Z Z Z mH Z Z Z ?_)
   refine oS 5 Z (tA 1 fr Z aM ?_)
   refine tA 1 to Z aM (rN ?_)
   refine uM 1 2 1 0 Z Z Z Z aM (oR 3 Z ?_)
   refine yD (M':=[HA.blk rb [_,_,_] 274]) (by repeat (first|exact zQ _|refine zB 0 Z ?_|refine zB 1 Z ?_|refine zB 2 Z ?_|refine zB 3 Z ?_|refine zB 4 Z ?_|refine zB 5 Z ?_|refine zB 6 Z ?_|refine zB 7 Z ?_|refine zB 8 Z ?_)) ?_
   exact zD Tryz.results316 Z (PRet.of (he.trans (Hr aC hn93 hL.1 hL.2)) ⟨_,rfl,rfl,rfl⟩) (List.Sublist.refl _) am
  have hlt: ¬ (du (nx s a)||dl (nx s a))=false:=fun e=>by rw [hI,e]at h40;cases h40
  have hla:=sr hlt
  refine rO 8 Z (zC xP Z Z ?_)
  refine zA (zF 0 lL Z Z Z Z ?_)
  refine zA (zN Z Z aC ?_)
  refine oO 3 Z (zC xP Z Z ?_)
  refine zA (zG 0 (M':=[HA.blk _ [_,_,_] _,_,_,_]) Z Z Z Z s6 Z Z Z ?_)
  refine oK 8 [5,4,3,0] Z Z (rO 6 Z ?_)
  refine yG 0 Z Z Z (nf rb s (a+1) _ hs) Z cQ (fun u54 M54 D54 hv54=>?_)
  obtain⟨rfl,rfl,rfl⟩:=hv54
  refine zA (vE (j:=45) Z Z Z ?_)
  refine oK 1 [55,5,4,3,0] Z Z (uY [4,3,0] (fun(⟨a1,c2⟩:Nat×UInt8)=>g9 s q=eO s ng (n - 1) a1 (fr++[nx s a]) (to++[c2])∧a<a1∧a1≤s.size) (fun(⟨a1,c2⟩:Nat×UInt8)=>[(5, .int .u8 ((c2.toNat:Nat):Int))]) (fun(⟨a1,c2⟩:Nat×UInt8)=>HA.row Af fr.length cf 5 1 (fP fr)::HA.row At to.length ct 5 1 (fP to)::HA.blk rb [.string s, .int .i64 ((a1:Nat):Int), .bool false] 274::HA.blk b7 [.int .i64 ((1:Nat):Int), .int .i64 ((0:Nat):Int), .bool false, .bool ng, .slice Af fr.length cf, .slice At to.length ct, .slice none 0 0] 279::[]) (fun(⟨a1,c2⟩:Nat×UInt8)=>[]) ?_ ?_)
  ·intro Kj2 hKj2
   refine zI Z (fun h55=>?_) (fun h55=>?_)
   ·have hm:nx s (a+1)=45:=wG.2 h55
    have hlm:=ff (s:=s) (q:=a+1) (by rw [hm];decide)
    refine rO 7 Z (zC xP Z Z ?_)
    refine zA (zF 0 lL Z Z Z Z ?_)
    refine zA (zN Z Z aC ?_)
    refine oO 3 Z (zC xP Z Z ?_)
    refine zA (zG 0 (M':=[HA.blk _ [_,_,_] _,_,_,_]) Z Z Z Z s6 Z Z Z ?_)
    refine oK 1 [4,3,0] Z Z (rO 5 Z ?_)
    refine yG 0 Z Z Z (nf rb s (a+1+1) _ hs) Z cQ (fun u64 M64 D64 hv64=>?_)
    obtain⟨rfl,rfl,rfl⟩:=hv64
    refine oK 5 [5,4,3,0] Z Z (uT (fun(bb:Bool)=>bb=(!(du (nx s (a+1+1))||dl (nx s (a+1+1)))||decide ((nx s (a+1+1)).toNat<(nx s a).toNat))) (fun(bb:Bool)=>[(77, .bool bb)]) ?_ ?_)
    ·intro K hK
     refine rO 4 Z (zL Z Z Z (LV _) cQ ?_)
     refine oS 4 Z (zY (s:=68) Z (fun h68=>?_) (fun h68=>?_))
     ·refine oO 3 Z (zL Z Z Z (LW _) cQ ?_)
      refine oS 6 Z (zY (s:=73) Z (fun h73=>?_) (fun h73=>?_))
      ·refine oK 6 [77,5,4,3,0] Z Z ?_
       exact kQ (hK _ aa) (eC Z (eC Z (eC Z (eC Z (eC Z (eN _))))))
      refine oO 5 Z (yL Z Z Z ?_)
      refine oK 3 [77,5,4,3,0] Z Z ?_
      exact kQ (hK _ aa) (eC Z (eC Z (eC Z (eC Z (eC Z (eN _))))))
     refine oO 12 Z (yL Z Z Z ?_)
     refine oK 3 [77,5,4,3,0] Z Z ?_
     exact kQ (hK _ aa) (eC Z (eC Z (eC Z (eC Z (eC Z (eN _))))))
    intro bb hI
    replace hI:bb=(!(du (nx s (a+1+1))||dl (nx s (a+1+1)))||decide ((nx s (a+1+1)).toNat<(nx s a).toNat)):=hI
    change Run _ _ _ _ _ [(77,_),(5,_),(4,_),(3,_),(0,_)] (_) (_)
    refine yC Z (fun h77=>?_) (fun h77=>?_)
    ·have hbad2:(du (nx s (a+2))||dl (nx s (a+2)))=false∨(nx s (a+2)).toNat<(nx s a).toNat:=OS (hI.symm.trans h77)
     refine rO 7 Z (zC rG Z Z ?_)
     refine zA (zG 0 (M':=[HA.blk _ [_,_,_] _,_,_,_]) Z Z Z Z mH Z Z Z ?_)
     refine oS 5 Z (tA 1 fr Z aM ?_)
     refine tA 1 to Z aM (rN ?_)
     refine uM 1 2 1 0 Z Z Z Z aM (oK 3 [2] Z Z ?_)
     refine yD (M':=[HA.blk rb [_,_,_] 274]) (by repeat (first|exact zQ _|refine zB 0 Z ?_|refine zB 1 Z ?_|refine zB 2 Z ?_|refine zB 3 Z ?_|refine zB 4 Z ?_|refine zB 5 Z ?_|refine zB 6 Z ?_|refine zB 7 Z ?_|refine zB 8 Z ?_)) ?_
     exact zD Tryz.results316 Z (PRet.of (he.trans (FQ aC hn93 hlt hm hbad2)) ⟨_,rfl,rfl,rfl⟩) (List.Sublist.refl _) am
    have hok2: ¬ ((du (nx s (a+2))||dl (nx s (a+2)))=false∨(nx s (a+2)).toNat<(nx s a).toNat):=OT (hI.symm.trans (by simpa using h77))
    have hl2:a+2<s.size:=sr (fun e=>hok2 (.inl e))
    refine rO 7 Z (zC xP Z Z ?_)
    refine zA (zF 0 lL Z Z Z Z ?_)
    refine zA (zN Z Z aC ?_)
    refine oO 3 Z (zC xP Z Z ?_)
    refine zA (zG 0 (M':=[HA.blk _ [_,_,_] _,_,_,_]) Z Z Z Z s6 Z Z Z ?_)
    refine yO ?_
    exact kQ (hKj2 (_,_) ⟨he.trans (Hs aC hn93 hlt hm hok2),by show a<a+1+1+1;omega,by show a+1+1+1≤_;omega⟩) (eC Z (eC Z (eC Z (eC Z (eN _))))) (hD:=(fun d hd=>hd))
   have hnm: ¬ nx s (a+1)=45:=fun e=>h55 (wG.1 e)
   refine uF ?_
   exact kQ (hKj2 (_,_) ⟨he.trans (Ht aC hn93 hlt hnm),by show a<a+1;omega,by show a+1≤_;omega⟩) (eC Z (eC Z (eC Z (eC Z (eN _))))) (hD:=(fun d hd=>hd))
  intro ⟨a1,c2⟩ hI
  change Run _ _ _ _ _ [(5,_),(4,_),(3,_),(0,_)] [_,_,_,_] ([])
  obtain⟨he1,ha1,ha2⟩:=hI
  refine yW yM (zO ?_)
  refine tP 0 Z cF (zP Z) (tP 1 Z cF (zP Z) ?_)
  refine tP 2 Z cF (zP Z) (tP 3 Z cF (yQ Z) ?_)
  refine tP 4 Z cF (zZ fM Z) (tP 6 Z cF (zP Z) ?_)
  refine tP 9 Z cF (zP Z) (tP 10 Z cF (yQ Z) ?_)
  refine tP 11 Z cF (zZ jk Z) (tP 13 Z cF (zP Z) ?_)
  refine fp (zB 3 Z (zQ _)) (uU (zB 3 Z (zQ _)) 5 (xL _ _ _ _) Z cF aD aD aD Z (yT 0 ot Z Z Z) ?_)
  refine uU (zB 3 Z (zQ _)) 12 (xL _ _ _ _) Z cF aD aD aD Z (yT 0 ot Z Z Z) (tN (rs:=[7,14]) aD aJ ?_)
  intro j hj
  simp only [List.mem_cons,List.not_mem_nil,or_false]at hj
  rcases hj with rfl|rfl
  ·refine zT (I2:=[[12,5],[13,11,10,9,4,3,2,1,0],[]]) Z cF aD (fun Kd hKd=>?_)
   refine zM dB Z Z Z Z Z (fun b96=>?_)
   refine hKd _ _ _ (wU sK sQ (hC (zE (zU)))) ?_
   refine tN (rs:=[8,14]) aD aJ ?_
   intro j hj
   simp only [List.mem_cons,List.not_mem_nil,or_false]at hj
   rcases hj with rfl|rfl
   ·refine zT (I2:=[[12],[13,11,10,9,1,0],[]]) Z cF aD (fun Kd hKd=>?_)
    refine cW 1 0 dB (fun A97 c97=>?_)
    refine hKd _ _ _ (wU sK sQ (hC (zE (zU)))) ?_
    refine zS 14 aD ?_
    refine zT (I2:=[[12],[11,10,9,1,0],[]]) Z cF aD (fun Kd hKd=>?_)
    refine zM dB Z Z Z Z Z (fun b103=>?_)
    refine hKd _ _ _ (wU sK sQ (hC (zE (zU)))) ?_
    refine zS 15 aD ?_
    refine zT (I2:=[[],[1,0],[]]) Z cF aD (fun Kd hKd=>?_)
    refine cW 3 0 dB (fun A104 c104=>?_)
    refine hKd _ _ _ (zE (hC (zE (zU)))) (zO ?_)
    refine tP 16 Z cF (yQ Z) (tP 17 Z cF (zZ fM Z) ?_)
    refine zS 18 aD ?_
    refine zT (I2:=[[],[],[1],[]]) Z cF aD (fun Kd hKd=>?_)
    refine zG 5 (M':=[_,_,_,_,_,HA.blk _ [_,_,_,_,_,_,_] _]) Z Z Z Z ou Z Z Z (hKd _ _ _ (zE (zE (hC (zE (zU))))) ?_)
    refine tP 19 Z cF (yQ Z) (tP 20 Z cF (zZ jk Z) ?_)
    refine zS 21 aD ?_
    refine zT (I2:=[[],[],[],[]]) Z cF aD (fun Kd hKd=>?_)
    refine zG 5 (M':=[_,_,_,_,_,HA.blk _ [_,_,_,_,_,_,_] _]) Z Z Z Z ou Z Z Z (hKd _ _ _ (zE (zE (zE (zE (zU))))) ?_)
    refine yJ aD (rK 0 [3,0] Z Z ?_)
    refine qK (wS (ys:=fP (fr++[nx s a])) 2 Z (sS _ _) ?_)
    refine wS (ys:=fP (to++[c2])) 3 Z (sS _ _) ?_
    rw [show fr.length+1=(fr++[nx s a]).length by simp,show to.length+1=(to++[c2]).length by simp]
    exact kQ (hK (a1,n - 1,fr++[nx s a],to++[c2],A97,c97,A104,c104) (⟨he1,by simp [hfl],ha2,by show _≤a1;simp;omega,by show _<a1+(n - 1);omega⟩) bE) (eC Z (eC Z (eN _))) (hD:=(fun d hd=>hd))
   refine zT (I2:=[[12,5],[11,10,9,4,3,2,1,0],[]]) Z cF aD (fun Kd hKd=>?_)
   refine zM dB Z Z Z Z Z (fun b103=>?_)
   refine hKd _ _ _ (wU sK sQ (hC (zE (zU)))) ?_
   refine zS 8 aD ?_
   refine zT (I2:=[[12],[11,10,9,1,0],[]]) Z cF aD (fun Kd hKd=>?_)
   refine cW 2 1 dB (fun A97 c97=>?_)
   refine hKd _ _ _ (wU sK sQ (hC (zE (zU)))) ?_
   refine zS 15 aD ?_
   refine zT (I2:=[[],[1,0],[]]) Z cF aD (fun Kd hKd=>?_)
   refine cW 3 0 dB (fun A104 c104=>?_)
   refine hKd _ _ _ (zE (hC (zE (zU)))) (zO ?_)
   refine tP 16 Z cF (yQ Z) (tP 17 Z cF (zZ fM Z) ?_)
   refine zS 18 aD ?_
   refine zT (I2:=[[],[],[1],[]]) Z cF aD (fun Kd hKd=>?_)
   refine zG 5 (M':=[_,_,_,_,_,HA.blk _ [_,_,_,_,_,_,_] _]) Z Z Z Z ou Z Z Z (hKd _ _ _ (zE (zE (hC (zE (zU))))) ?_)
   refine tP 19 Z cF (yQ Z) (tP 20 Z cF (zZ jk Z) ?_)
   refine zS 21 aD ?_
   refine zT (I2:=[[],[],[],[]]) Z cF aD (fun Kd hKd=>?_)
   refine zG 5 (M':=[_,_,_,_,_,HA.blk _ [_,_,_,_,_,_,_] _]) Z Z Z Z ou Z Z Z (hKd _ _ _ (zE (zE (zE (zE (zU))))) ?_)
   refine yJ aD (rK 0 [3,0] Z Z ?_)
   refine qK (wS (ys:=fP (fr++[nx s a])) 2 Z (sS _ _) ?_)
   refine wS (ys:=fP (to++[c2])) 3 Z (sS _ _) ?_
   rw [show fr.length+1=(fr++[nx s a]).length by simp,show to.length+1=(to++[c2]).length by simp]
   exact kQ (hK (a1,n - 1,fr++[nx s a],to++[c2],A97,c97,A104,c104) (⟨he1,by simp [hfl],ha2,by show _≤a1;simp;omega,by show _<a1+(n - 1);omega⟩) bE) (eC Z (eC Z (eN _))) (hD:=(fun d hd=>hd))
  refine zT (I2:=[[12,5],[11,10,9,6,4,3,2,1,0],[]]) Z cF aD (fun Kd hKd=>?_)
  refine zM dB Z Z Z Z Z (fun b103=>?_)
  refine hKd _ _ _ (wU sK sQ (hC (zE (zU)))) ?_
  refine zS 7 aD ?_
  refine zT (I2:=[[12,5],[11,10,9,4,3,2,1,0],[]]) Z cF aD (fun Kd hKd=>?_)
  refine zM dB Z Z Z Z Z (fun b96=>?_)
  refine hKd _ _ _ (wU sK sQ (hC (zE (zU)))) ?_
  refine zS 8 aD ?_
  refine zT (I2:=[[12],[11,10,9,1,0],[]]) Z cF aD (fun Kd hKd=>?_)
  refine cW 2 0 dB (fun A97 c97=>?_)
  refine hKd _ _ _ (wU sK sQ (hC (zE (zU)))) ?_
  refine zS 15 aD ?_
  refine zT (I2:=[[],[1,0],[]]) Z cF aD (fun Kd hKd=>?_)
  refine cW 3 1 dB (fun A104 c104=>?_)
  refine hKd _ _ _ (zE (hC (zE (zU)))) (zO ?_)
  refine tP 16 Z cF (yQ Z) (tP 17 Z cF (zZ fM Z) ?_)
  refine zS 18 aD ?_
  refine zT (I2:=[[],[],[1],[]]) Z cF aD (fun Kd hKd=>?_)
  refine zG 5 (M':=[_,_,_,_,_,HA.blk _ [_,_,_,_,_,_,_] _]) Z Z Z Z ou Z Z Z (hKd _ _ _ (zE (zE (hC (zE (zU))))) ?_)
  refine tP 19 Z cF (yQ Z) (tP 20 Z cF (zZ jk Z) ?_)
  refine zS 21 aD ?_
  refine zT (I2:=[[],[],[],[]]) Z cF aD (fun Kd hKd=>?_)
  refine zG 5 (M':=[_,_,_,_,_,HA.blk _ [_,_,_,_,_,_,_] _]) Z Z Z Z ou Z Z Z (hKd _ _ _ (zE (zE (zE (zE (zU))))) ?_)
  refine yJ aD (rK 0 [3,0] Z Z ?_)
  refine qK (wS (ys:=fP (fr++[nx s a])) 2 Z (sS _ _) ?_)
  refine wS (ys:=fP (to++[c2])) 3 Z (sS _ _) ?_
  rw [show fr.length+1=(fr++[nx s a]).length by simp,show to.length+1=(to++[c2]).length by simp]
  exact kQ (hK (a1,n - 1,fr++[nx s a],to++[c2],A97,c97,A104,c104) (⟨he1,by simp [hfl],ha2,by show _≤a1;simp;omega,by show _<a1+(n - 1);omega⟩) bE) (eC Z (eC Z (eN _))) (hD:=(fun d hd=>hd))
 have h93:nx s a=93:=wG.2 (by simpa using h30)
 have hlt9:=ff (s:=s) (q:=a) (by rw [h93];decide)
 refine rO 8 Z (zC xP Z Z ?_)
 refine zA (zF 0 lL Z Z Z Z ?_)
 refine zA (zN Z Z aC ?_)
 refine oO 3 Z (zC xP Z Z ?_)
 refine zA (zG 0 (M':=[HA.blk _ [_,_,_] _,_,_,_]) Z Z Z Z s6 Z Z Z ?_)
 refine oK 1 [3,0] Z Z (rO 9 Z ?_)
 refine zC rG Z Z (zA ?_)
 refine zF 0 lX Z Z Z Z (oS 2 Z ?_)
 refine wL (s:=121) Z (rfl) (oO 5 Z ?_)
 refine zC fM Z Z (zH Z Z ?_)
 refine zF 3 ot Z Z Z Z (zH Z Z ?_)
 refine zX dB Z Z (zH Z Z ?_)
 refine vE (j:=0) Z Z Z (oO 5 Z ?_)
 refine zC rG Z Z (zA ?_)
 refine zG 0 (M':=[HA.blk _ [_,_,_] _,_,_,_]) Z Z Z Z mH Z Z Z (oK 1 [3] Z Z ?_)
 refine rS 4 Z (tA 1 fr Z aM ?_)
 refine tA 1 to Z aM (rN ?_)
 refine uM 1 2 1 0 Z Z Z Z aM (oR 3 Z ?_)
 refine yD (M':=[HA.blk rb [_,_,_] 274]) (by repeat (first|exact zQ _|refine zB 0 Z ?_|refine zB 1 Z ?_|refine zB 2 Z ?_|refine zB 3 Z ?_|refine zB 4 Z ?_|refine zB 5 Z ?_|refine zB 6 Z ?_|refine zB 7 Z ?_|refine zB 8 Z ?_)) ?_
 exact zD Tryz.results316 Z (PRet.of (he.trans (Hq aC h93)) ⟨_,rfl,rfl,rfl⟩) (List.Sublist.refl _) am
end Go.Jw

