/- A schema into which another one was copied accepts what both accept, where they do not have to do with one another; for inputs of bounded bulk.: part 7, the proof's texts, made small by a program. -/
import Derived.Test.YtlcfillobkdnmaaGreatDoorTv6
import Derived.Test.YtlcfillobkdnmaaGreatDoorRows
import Derived.ProofKit
import Derived.Deep.Slices
import Derived.SliceStrings
import Derived.Lib.LaidTab
import Derived.LaidByTextLater
import Derived.SevenTiedAt
import Derived.LaidSub
import Derived.LaidOnce
import Derived.Test.YtlcfillobkdnmaaGreatDoorCards
import Derived.OpenShut
import Derived.Deep.DeepHandedRow
import Derived.Deep.DeepWitnessRowRef
import Derived.ChangeMaps5
import Derived.RowKit
import Derived.DataWitness
import Derived.LaidLaws
set_option linter.unusedVariables false
set_option linter.unusedSimpArgs false
set_option maxHeartbeats 4000000
namespace Go.Jw
open Go Go.RowKit Go.Proofs
set_option maxRecDepth 8000
theorem gw{s:ByteArray}{dep:Nat}(h:dep≤6)(q:Nat):sgD s (7 - dep) q=mN s (pchF s (sgD s (7 - (dep+1)))) q:=by
 have e:7 - dep=(7 - (dep+1))+1:=by omega
 rw [e]
 rfl
theorem Hu{s:ByteArray}{dep:Nat}(h:7≤dep)(q:Nat):sgD s (7 - dep) q=(d4 [],q,true):=by
 have e:7 - dep=0:=by omega
 rw [e]
 rfl
theorem QW{s:ByteArray}{C:Nat→PR}{q:Nat}(h:nx s q=91):mN s C q=g9 s q:=if_pos h
theorem OU{s:ByteArray}{C:Nat→PR}{q:Nat}(h1: ¬ nx s q=91)(h:nx s q=40):mN s C q=((C (q+1)).1,(C (q+1)).2.1+1,(C (q+1)).2.2|| !decide (nx s (C (q+1)).2.1=41)):=(if_neg h1).trans (if_pos h)
theorem QX{s:ByteArray}{C:Nat→PR}{q:Nat}(h1: ¬ nx s q=91)(h2: ¬ nx s q=40)(h:nx s q=46):mN s C q=(.mk 1 0 true [10] [10] [],q+1,false):=(if_neg h1).trans ((if_neg h2).trans (if_pos h))
theorem R7{s:ByteArray}{C:Nat→PR}{q:Nat}(h1: ¬ nx s q=91)(h2: ¬ nx s q=40)(h3: ¬ nx s q=46)(h:fu (nx s q)=true):mN s C q=(.mk 1 0 false [nx s q] [nx s q] [],q+1,false):=(if_neg h1).trans ((if_neg h2).trans ((if_neg h3).trans (if_pos h)))
theorem R9{s:ByteArray}{C:Nat→PR}{q:Nat}(h1: ¬ nx s q=91)(h2: ¬ nx s q=40)(h3: ¬ nx s q=46)(h: ¬ fu (nx s q)=true):mN s C q=(d4 [],q,true):=(if_neg h1).trans ((if_neg h2).trans ((if_neg h3).trans (if_neg h)))
def PG(s:ByteArray)(D:Nat)(S:Nat→PR):Prop:= ∀ q,q≤s.size→(S q).2.1≤s.size+D∧q≤(S q).2.1∧((S q).2.2=false→(S q).2.1≤s.size)
def OV(s:ByteArray)(D:Nat)(S:Nat→PR):Prop:= ∀ q,q<s.size→(S q).2.1≤s.size+D∧q≤(S q).2.1∧((S q).2.2=false→q<(S q).2.1∧(S q).2.1≤s.size)
theorem Aq{s:ByteArray}{ng:Bool}: ∀ (n q:Nat) (fr to:List UInt8),q≤s.size→(eO s ng n q fr to).2.1≤s.size+1∧q≤(eO s ng n q fr to).2.1∧((eO s ng n q fr to).2.2=false→(eO s ng n q fr to).2.1≤s.size):=by
  intro n
  induction n with
  |zero=>intro q fr to h;exact⟨Nat.le_succ_of_le h,Nat.le_refl _,fun e=>by cases e⟩
  |succ n ih=>
    intro q fr to h
    rw [eO]
    split
    · rename_i h1
      have:=ff (s:=s) (q:=q) (by rw [h1];decide)
      exact⟨by show q+1≤_;omega,by show q≤q+1;omega,fun _=>by show q+1≤_;omega⟩
    · split
      · exact⟨by show q≤_;omega,Nat.le_refl _,fun e=>by cases e⟩
      · rename_i h1 h2
        have hq:=sr h2
        split
        · rename_i h3
          have:=ff (s:=s) (q:=q+1) (by rw [h3];decide)
          split
          · exact⟨by show q+2≤_;omega,by show q≤q+2;omega,fun e=>by cases e⟩
          · rename_i h4
            have hq2:q+2<s.size:=sr (fun e=>h4 (.inl e))
            obtain⟨a,b,c⟩:=ih (q+3) (fr++[nx s q]) (to++[nx s (q+2)]) aC
            exact⟨a,aC,c⟩
        · obtain⟨a,b,c⟩:=ih (q+1) (fr++[nx s q]) (to++[nx s q]) aC
          exact⟨a,aC,c⟩
theorem fT(v:Value):[v].length≤maxLen:=(by decide:1≤maxLen)
theorem Hv{s:ByteArray}{q:Nat}(hq:q<s.size):(g9 s q).2.1≤s.size+1∧q<(g9 s q).2.1∧((g9 s q).2.2=false→(g9 s q).2.1≤s.size):=by
  unfold g9
  split
  · rename_i h
    have:=ff (s:=s) (q:=q+1) bw
    obtain⟨a,b,c⟩:=Aq (s:=s) (ng:=true) (s.size+1) (q+2) [] [] aC
    exact⟨a,aC,c⟩
  · obtain⟨a,b,c⟩:=Aq (s:=s) (ng:=false) (s.size+1) (q+1) [] [] aC
    exact⟨a,aC,c⟩
theorem LX{s:ByteArray}{D:Nat}{C:Nat→PR}(hC:PG s D C):OV s (D+1) (mN s C):=fun q hq=>by
  unfold mN
  split
  · obtain⟨a,b,c⟩:=Hv hq
    exact⟨aC,aC,fun e=>⟨b,c e⟩⟩
  split
  · obtain⟨a,b,c⟩:=hC (q+1) aC
    refine⟨by show(C (q+1)).2.1+1≤_;omega,by show q≤(C (q+1)).2.1+1;omega,fun e=>⟨by show q<(C (q+1)).2.1+1;omega,?_⟩⟩
    have e:((C (q+1)).2.2|| !decide (nx s (C (q+1)).2.1=41))=false:=e
    rw [Bool.or_eq_false_iff]at e
    have e2:nx s (C (q+1)).2.1=41:=by simpa using e.2
    have:=ff (s:=s) (q:=(C (q+1)).2.1) (by rw [e2];decide)
    show(C (q+1)).2.1+1≤_
    omega
  split
  · exact⟨by show q+1≤_;omega,by show q≤q+1;omega,fun _=>⟨by show q<q+1;omega,by show q+1≤_;omega⟩⟩
  split
  · exact⟨by show q+1≤_;omega,by show q≤q+1;omega,fun _=>⟨by show q<q+1;omega,by show q+1≤_;omega⟩⟩
  · exact⟨by show q≤_;omega,Nat.le_refl _,fun e=>by cases e⟩
theorem FR{s:ByteArray}{r:PR}:(eD s r).2.1≤max r.2.1 s.size∧r.2.1≤(eD s r).2.1∧(eD s r).2.2=r.2.2:=by
 unfold eD
 split
 ·rename_i h
  have:=ff (s:=s) (q:=r.2.1) bw
  exact⟨by show r.2.1+1≤_;omega,by show _≤r.2.1+1;omega,rfl⟩
 split
 ·rename_i h
  have:=ff (s:=s) (q:=r.2.1) bw
  exact⟨by show r.2.1+1≤_;omega,by show _≤r.2.1+1;omega,rfl⟩
 split
 ·rename_i h
  have:=ff (s:=s) (q:=r.2.1) bw
  exact⟨by show r.2.1+1≤_;omega,by show _≤r.2.1+1;omega,rfl⟩
 ·exact⟨aC,Nat.le_refl _,rfl⟩
theorem Hw{s:ByteArray}{D:Nat}{S:Nat→PR}(hS:OV s D S): ∀ (n q:Nat) (ks:List Pc),q≤s.size→(fx s S n q ks).2.1≤s.size+D∧q≤(fx s S n q ks).2.1∧((fx s S n q ks).2.2=false→(fx s S n q ks).2.1≤s.size):=by
  intro n
  induction n with
  |zero=>intro q ks h;exact⟨by show q≤_;omega,Nat.le_refl _,fun _=>h⟩
  |succ n ih=>
    intro q ks h
    rw [fx]
    split
    · rename_i h1
      obtain⟨a,b,c⟩:=hS q h1.1
      obtain⟨a2,b2,c2⟩:=FR (s:=s) (r:=S q)
      split
      · exact⟨by show(eD s (S q)).2.1≤_;omega,by show _≤(eD s (S q)).2.1;omega,fun e=>by cases e⟩
      · rename_i h2
        have hb:(S q).2.2=false:=by rw [←c2];simpa using h2
        have:=(c hb).2
        obtain⟨a3,b3,c3⟩:=ih (eD s (S q)).2.1 (ks++[(eD s (S q)).1]) aC
        exact⟨a3,aC,c3⟩
    · exact⟨by show q≤_;omega,Nat.le_refl _,fun _=>h⟩
theorem su{s:ByteArray}{D:Nat}{S:Nat→PR}(hS:OV s D S):PG s D (rowF s S):=fun q hq=>Hw hS _ q [] hq
theorem Hx{s:ByteArray}{D:Nat}{R:Nat→PR}(hR:PG s D R): ∀ (n:Nat) (ks:List Pc) (q:Nat) (bad:Bool),q≤s.size+D→(bad=false→q≤s.size)→(iR s R n ks q bad).2.1≤s.size+D∧q≤(iR s R n ks q bad).2.1∧((iR s R n ks q bad).2.2=false→(iR s R n ks q bad).2.1≤s.size):=by
  intro n
  induction n with
  |zero=>intro ks q bad h h2;exact⟨h,Nat.le_refl _,h2⟩
  |succ n ih=>
    intro ks q bad h h2
    rw [iR]
    split
    · rename_i h1
      have:=ff (s:=s) (q:=q) (by rw [h1.2];decide)
      obtain⟨a,b,c⟩:=hR (q+1) aC
      obtain⟨a3,b3,c3⟩:=ih (ks++[(R (q+1)).1]) (R (q+1)).2.1 (R (q+1)).2.2 a c
      exact⟨a3,aC,c3⟩
    · exact⟨h,Nat.le_refl _,h2⟩
theorem FS{s:ByteArray}{D:Nat}{S:Nat→PR}(hS:OV s D S):PG s D (pchF s S):=fun q hq=>by
 obtain⟨a,b,c⟩:=su hS q hq
 obtain⟨a2,b2,c2⟩:=Hx (su hS) (s.size+1) [(rowF s S q).1] (rowF s S q).2.1 (rowF s S q).2.2 a c
 exact⟨a2,Nat.le_trans b b2,c2⟩
theorem nh(s:ByteArray): ∀ D,OV s D (sgD s D)
  |0=>fun q hq=>⟨by show q≤_;omega,Nat.le_refl _,fun e=>by cases e⟩
  |D+1=>LX (FS (nh s D))
set_option maxHeartbeats 1000000 in
theorem OW(rb:Nat)(s:ByteArray)(q dep:Nat)(hs:s.size≤1000)(hq:q<s.size)(hd:dep≤7)(hC:dep≤6→ ∀ q,q≤s.size→Ct Tryz.prog 247 #[ptr rb, .int .i64 ((dep+1:Nat):Int)] [.blk rb [.string s, .int .i64 ((q:Nat):Int), .bool false] 274] [] (PRet rb s (pchF s (sgD s (7 - (dep+1))) q))):Ct Tryz.prog 291 #[ptr rb, .int .i64 ((dep:Nat):Int)] [.blk rb [.string s, .int .i64 ((q:Nat):Int), .bool false] 274] [] (PRet rb s (sgD s (7 - dep) q)):=by
 refine Ct.of_run (args:=[ptr rb, .int .i64 ((dep:Nat):Int)]) Tryz.func291 aF Z Tryz.ntmps291 Z (fun c=>?_)
 refine rO 10 Z (yG 0 Z Z Z (nf rb s (q) _ hs) Z cQ (fun u8 M8 D8 hv8=>?_))
 obtain⟨rfl,rfl,rfl⟩:=hv8
 refine oO 10 Z (sM (j:=6) Z Z Z ?_)
 refine oR 3 Z (zI Z (fun h12=>?_) (fun h12=>?_))
 ·refine rO 6 Z (zC rG Z Z ?_)
  refine zA (zG 0 (M':=[HA.blk _ [_,_,_] _]) Z Z Z Z mH Z Z Z ?_)
  refine oK 1 [] Z Z (rO 4 Z ?_)
  refine yV Z Z (jl ..) (zA ?_)
  refine yK Z Z Z (fun b82=>?_)
  refine qI (rN ?_)
  refine uM (q:=3) (r:=0) 0 1 1 0 Z Z Z Z aM (oR 3 Z ?_)
  refine yD (M':=[HA.blk rb [_,_,_] 274]) (by repeat (first|exact zQ _|refine zB 0 Z ?_|refine zB 1 Z ?_|refine zB 2 Z ?_|refine zB 3 Z ?_|refine zB 4 Z ?_|refine zB 5 Z ?_|refine zB 6 Z ?_|refine zB 7 Z ?_|refine zB 8 Z ?_)) ?_
  exact zD Tryz.results291 Z (PRet.of (r':=(d4 [],q,true)) (Hu aC q) ⟨_,rfl,rfl,rfl⟩) (List.Sublist.refl _) am
 have hd6:dep≤6:=by omega
 refine rO 5 Z (vE (j:=91) Z Z Z ?_)
 refine oR 3 Z (zI Z (fun h18=>?_) (fun h18=>?_))
 ·have n91:nx s q=91:=wG.2 h18
  refine rO 5 Z (yG 0 Z Z Z (QV rb s q hs hq) Z cQ (fun u22 M22 D22 hv22=>?_))
  obtain⟨b22,rfl,rfl,rfl⟩:=hv22
  refine oK 3 [4] Z Z ?_
  refine yD (M':=[HA.blk rb [_,_,_] 274]) (by repeat (first|exact zQ _|refine zB 0 Z ?_|refine zB 1 Z ?_|refine zB 2 Z ?_|refine zB 3 Z ?_|refine zB 4 Z ?_|refine zB 5 Z ?_|refine zB 6 Z ?_|refine zB 7 Z ?_|refine zB 8 Z ?_)) ?_
  exact zD Tryz.results291 Z (PRet.of (r':=(g9 s q)) ((gw hd6 q).trans (QW n91)) ⟨_,rfl,rfl,rfl⟩) (List.Sublist.refl _) am
 have n91: ¬ nx s q=91:=fun e=>h18 (wG.1 e)
 refine rO 5 Z (vE (j:=40) Z Z Z ?_)
 refine oK 3 [23,5,0,1] Z Z (zI Z (fun h23=>?_) (fun h23=>?_))
 ·have n40:nx s q=40:=wG.2 h23
  refine rO 7 Z (zC xP Z Z ?_)
  refine zA (zF 0 lL Z Z Z Z ?_)
  refine zA (zN Z Z aC ?_)
  refine oO 3 Z (zC xP Z Z ?_)
  refine zA (zG 0 (M':=[HA.blk _ [_,_,_] _]) Z Z Z Z s6 Z Z Z ?_)
  refine oK 1 [0,1] Z Z (rO 7 Z ?_)
  refine zN Z Z aC (zA ?_)
  obtain⟨r,hr⟩: ∃r,r=pchF s (sgD s (7 - (dep+1))) (q+1):=⟨_,rfl⟩
  have hbd:r.2.1≤s.size+7:=by have:=(FS (nh s (7 - (dep+1))) (q+1) aC).1;rw [←hr]at this;omega
  refine yG 0 Z Z Z (hr▸hC hd6 (q+1) aC) Z cQ (fun u36 M36 D36 hv36=>?_)
  obtain⟨b36,rfl,rfl,rfl⟩:=hv36
  refine oO 9 Z (yG 0 Z Z Z (nf rb s (r.2.1) _ hs) Z cQ (fun u38 M38 D38 hv38=>?_))
  obtain⟨rfl,rfl,rfl⟩:=hv38
  refine zA (gT (j:=41) Z Z Z ?_)
  refine yO (zI Z (fun h39=>?_) (fun h39=>?_))
  ·have n41: ¬ nx s r.2.1=41:=fun e=>h39 (wG.1 e)
   refine rO 6 Z (zC rG Z Z ?_)
   refine zA (zG 0 (M':=[HA.blk _ [_,_,_] _]) Z Z Z Z mH Z Z Z ?_)
   refine oK 1 [6,0] Z Z (rO 7 Z ?_)
   refine zC xP Z Z (zA ?_)
   refine zF 0 lL Z Z Z Z (zA ?_)
   refine zN Z Z aC (oO 3 Z ?_)
   refine zC xP Z Z (zA ?_)
   refine zG 0 (M':=[HA.blk _ [_,_,_] _]) Z Z Z Z s6 Z Z Z (oK 8 [4] Z Z ?_)
   refine yD (M':=[HA.blk rb [_,_,_] 274]) (by repeat (first|exact zQ _|refine zB 0 Z ?_|refine zB 1 Z ?_|refine zB 2 Z ?_|refine zB 3 Z ?_|refine zB 4 Z ?_|refine zB 5 Z ?_|refine zB 6 Z ?_|refine zB 7 Z ?_|refine zB 8 Z ?_)) ?_
   exact zD Tryz.results291 Z (PRet.of (r':=(r.1,r.2.1+1,true)) ((gw hd6 q).trans ((OU n91 n40).trans (by rw [←hr];rw [show decide (nx s r.2.1=41)=false from decide_eq_false n41];cases r.2.2<;>rfl))) ⟨_,rfl,rfl,rfl⟩) (List.Sublist.refl _) am
  have n41:nx s r.2.1=41:=wG.2 (Classical.byContradiction fun e=>h39 e)
  refine rO 8 Z (zC xP Z Z ?_)
  refine zA (zF 0 lL Z Z Z Z ?_)
  refine zA (zN Z Z aC ?_)
  refine oO 3 Z (zC xP Z Z ?_)
  refine zA (zG 0 (M':=[HA.blk _ [_,_,_] _]) Z Z Z Z s6 Z Z Z ?_)
  refine oK 1 [6] Z Z (rR 7 Z ?_)
  refine yD (M':=[HA.blk rb [_,_,_] 274]) (by repeat (first|exact zQ _|refine zB 0 Z ?_|refine zB 1 Z ?_|refine zB 2 Z ?_|refine zB 3 Z ?_|refine zB 4 Z ?_|refine zB 5 Z ?_|refine zB 6 Z ?_|refine zB 7 Z ?_|refine zB 8 Z ?_)) ?_
  exact zD Tryz.results291 Z (PRet.of (r':=(r.1,r.2.1+1,r.2.2)) ((gw hd6 q).trans ((OU n91 n40).trans (by rw [←hr];rw [show decide (nx s r.2.1=41)=true from decide_eq_true n41];cases r.2.2<;>rfl))) ⟨_,rfl,rfl,rfl⟩) (List.Sublist.refl _) am
 have n40: ¬ nx s q=40:=fun e=>h23 (wG.1 e)
 refine rO 5 Z (vE (j:=46) Z Z Z ?_)
 refine oR 3 Z (zI Z (fun h51=>?_) (fun h51=>?_))
 ·have n46:nx s q=46:=wG.2 h51
  refine rO 7 Z (zC xP Z Z ?_)
  refine zA (zF 0 lL Z Z Z Z ?_)
  refine zA (zN Z Z aC ?_)
  refine oO 3 Z (zC xP Z Z ?_)
  refine zA (zG 0 (M':=[HA.blk _ [_,_,_] _]) Z Z Z Z s6 Z Z Z ?_)
  refine oK 1 [] Z Z (rO 3 Z ?_)
  refine zM dB Z Z Z Z Z (fun b61=>?_)
  refine zA (zM dB Z Z Z Z Z (fun b62=>?_))
  refine zA (yV Z Z (oB ..) ?_)
  refine zA (yK Z Z Z (fun b64=>?_))
  refine tL 2 Z (fT _) (tA 0 [10] Z aM ?_)
  refine tL 1 Z (fT _) (tA 0 [10] Z aM ?_)
  refine rN (uM (q:=1) (r:=0) 0 2 1 0 Z Z Z Z aM ?_)
  refine oR 3 Z ?_
  refine yD (M':=[HA.blk rb [_,_,_] 274]) (by repeat (first|exact zQ _|refine zB 0 Z ?_|refine zB 1 Z ?_|refine zB 2 Z ?_|refine zB 3 Z ?_|refine zB 4 Z ?_|refine zB 5 Z ?_|refine zB 6 Z ?_|refine zB 7 Z ?_|refine zB 8 Z ?_)) ?_
  exact zD Tryz.results291 Z (PRet.of (r':=(.mk 1 0 true [10] [10] [],q+1,false)) ((gw hd6 q).trans (QX n91 n40 n46)) ⟨_,rfl,rfl,rfl⟩) (List.Sublist.refl _) am
 have n46: ¬ nx s q=46:=fun e=>h51 (wG.1 e)
 refine rO 5 Z (zL Z Z Z (QU _) cQ ?_)
 refine oR 3 Z (yC Z (fun h65=>?_) (fun h65=>?_))
 ·refine rO 7 Z (zC xP Z Z ?_)
  refine zA (zF 0 lL Z Z Z Z ?_)
  refine zA (zN Z Z aC ?_)
  refine oO 3 Z (zC xP Z Z ?_)
  refine zA (zG 0 (M':=[HA.blk _ [_,_,_] _]) Z Z Z Z s6 Z Z Z ?_)
  refine oK 1 [5] Z Z (rO 5 Z ?_)
  refine zM dB Z Z Z Z Z (fun b76=>?_)
  refine oO 3 Z (zM dB Z Z Z Z Z (fun b78=>?_))
  refine zA (yV Z Z (um ..) ?_)
  refine zA (yK Z Z Z (fun b80=>?_))
  refine tL 2 Z (fT _) (tA 0 [nx s q] Z aM ?_)
  refine tL 1 Z (fT _) (tA 0 [nx s q] Z aM ?_)
  refine rN (uM (q:=1) (r:=0) 0 2 1 0 Z Z Z Z aM ?_)
  refine oR 3 Z ?_
  refine yD (M':=[HA.blk rb [_,_,_] 274]) (by repeat (first|exact zQ _|refine zB 0 Z ?_|refine zB 1 Z ?_|refine zB 2 Z ?_|refine zB 3 Z ?_|refine zB 4 Z ?_|refine zB 5 Z ?_|refine zB 6 Z ?_|refine zB 7 Z ?_|refine zB 8 Z ?_)) ?_
  exact zD Tryz.results291 Z (PRet.of (r':=(.mk 1 0 false [nx s q] [nx s q] [],q+1,false)) ((gw hd6 q).trans (R7 n91 n40 n46 h65)) ⟨_,rfl,rfl,rfl⟩) (List.Sublist.refl _) am
 have h65: ¬ fu (nx s q)=true:=by simpa using h65
 refine rO 6 Z (zC rG Z Z ?_)
 refine zA (zG 0 (M':=[HA.blk _ [_,_,_] _]) Z Z Z Z mH Z Z Z ?_)
 refine oK 1 [] Z Z (rO 4 Z ?_)
 refine yV Z Z (jl ..) (zA ?_)
 refine yK Z Z Z (fun b82=>?_)
 refine qI (rN ?_)
 refine uM (q:=3) (r:=0) 0 1 1 0 Z Z Z Z aM (oR 3 Z ?_)
 refine yD (M':=[HA.blk rb [_,_,_] 274]) (by repeat (first|exact zQ _|refine zB 0 Z ?_|refine zB 1 Z ?_|refine zB 2 Z ?_|refine zB 3 Z ?_|refine zB 4 Z ?_|refine zB 5 Z ?_|refine zB 6 Z ?_|refine zB 7 Z ?_|refine zB 8 Z ?_)) ?_
 exact zD Tryz.results291 Z (PRet.of (r':=(d4 [],q,true)) ((gw hd6 q).trans (R9 n91 n40 n46 h65)) ⟨_,rfl,rfl,rfl⟩) (List.Sublist.refl _) am
section rules
variable {P:Program} {n:Nat} {F:List Nat} {c:Ctx F} {k:List KI} {Q:cu} {e:dF} {M:List HA} {D:List DA}
theorem wd(i j:Nat){xs:List Value}{ys:List Pc}{b:Nat}{y:Pc}(hi:D[i]? =some (.pps xs ys))(hj:D[j]? =some (.pc b y))(next:Run P n c k Q e M (.pps (xs++[.pointer (some ⟨b,0,none⟩)]) (ys++[y])::D)):Run P n c k Q e M D:=
 uJ (D':= .pps (xs++[.pointer (some ⟨b,0,none⟩)]) (ys++[y])::D) (fun w ok h x hx=>by
  rcases List.mem_cons.1 hx with rfl|hx
  ·exact PpsP.snoc (h _ (List.mem_of_getElem? hj)) (h _ (List.mem_of_getElem? hi))
  ·exact h _ hx) next
end rules
theorem Hy(u v:Value):[u,v].length≤maxLen:=(by decide:2≤maxLen)
theorem OX{s:ByteArray}{r:PR}(h:nx s r.2.1=63):eD s r=(.mk 4 0 false [] [] [r.1,d4 []],r.2.1+1,r.2.2):=if_pos h
theorem OY{s:ByteArray}{r:PR}(h1: ¬ nx s r.2.1=63)(h:nx s r.2.1=42):eD s r=(.mk 2 0 false [] [] [r.1],r.2.1+1,r.2.2):=(if_neg h1).trans (if_pos h)
theorem OZ{s:ByteArray}{r:PR}(h1: ¬ nx s r.2.1=63)(h2: ¬ nx s r.2.1=42)(h:nx s r.2.1=43):eD s r=(.mk 2 1 false [] [] [r.1],r.2.1+1,r.2.2):=(if_neg h1).trans ((if_neg h2).trans (if_pos h))
theorem QY{s:ByteArray}{r:PR}(h1: ¬ nx s r.2.1=63)(h2: ¬ nx s r.2.1=42)(h3: ¬ nx s r.2.1=43):eD s r=r:=(if_neg h1).trans ((if_neg h2).trans (if_neg h3))
theorem FU{s:ByteArray}{S:Nat→PR}{n q:Nat}{ks:List Pc}(h: ¬ (q<s.size∧nx s q≠41∧nx s q≠124)):fx s S n q ks=(d4 ks,q,false):=by
  cases n with
  |zero=>rfl
  |succ n=>rw [fx,if_neg h]
theorem FV{s:ByteArray}{S:Nat→PR}{n q:Nat}{ks:List Pc}(hn:1≤n)(h:q<s.size∧nx s q≠41∧nx s q≠124)(hb:(eD s (S q)).2.2=true):fx s S n q ks=(d4 (ks++[(eD s (S q)).1]),(eD s (S q)).2.1,true):=by
 obtain⟨n,rfl⟩: ∃k,n=k+1:=⟨n - 1,aC⟩
 rw [fx,if_pos h,if_pos hb]
theorem Hz{s:ByteArray}{S:Nat→PR}{n q:Nat}{ks:List Pc}(hn:1≤n)(h:q<s.size∧nx s q≠41∧nx s q≠124)(hb:(eD s (S q)).2.2=false):fx s S n q ks=fx s S (n - 1) (eD s (S q)).2.1 (ks++[(eD s (S q)).1]):=by
 obtain⟨n,rfl⟩: ∃k,n=k+1:=⟨n - 1,aC⟩
 rw [fx,if_pos h,if_neg (by rw [hb];decide)]
 rfl
theorem FW{s:ByteArray}{R:Nat→PR}{n q:Nat}{ks:List Pc}{bad:Bool}(h: ¬ (bad=false∧nx s q=124)):iR s R n ks q bad=(.mk 4 0 false [] [] ks,q,bad):=by
  cases n with
  |zero=>rfl
  |succ n=>rw [iR,if_neg h]
theorem H0{s:ByteArray}{R:Nat→PR}{n q:Nat}{ks:List Pc}{bad:Bool}(hn:1≤n)(h:bad=false∧nx s q=124):iR s R n ks q bad=iR s R (n - 1) (ks++[(R (q+1)).1]) (R (q+1)).2.1 (R (q+1)).2.2:=by
 obtain⟨n,rfl⟩: ∃k,n=k+1:=⟨n - 1,aC⟩
 rw [iR,if_pos h]
 rfl
set_option maxHeartbeats 1000000 in
theorem Oa(rb:Nat)(s:ByteArray)(q dep:Nat)(hs:s.size≤1000)(hq:q≤s.size)(hS: ∀ q,q<s.size→Ct Tryz.prog 291 #[ptr rb, .int .i64 ((dep:Nat):Int)] [.blk rb [.string s, .int .i64 ((q:Nat):Int), .bool false] 274] [] (PRet rb s (sgD s (7 - dep) q))):Ct Tryz.prog 262 #[ptr rb, .int .i64 ((dep:Nat):Int)] [.blk rb [.string s, .int .i64 ((q:Nat):Int), .bool false] 274] [] (PRet rb s (rowF s (sgD s (7 - dep)) q)):=by
 refine Ct.of_run (args:=[ptr rb, .int .i64 ((dep:Nat):Int)]) Tryz.func262 aF Z Tryz.ntmps262 Z (fun c=>?_)
 refine rO 8 Z (yV Z Z (jl ..) ?_)
 refine zA (yK Z Z Z (fun b8=>?_))
 refine oK 5 [5,0,1] Z Z (wT 275 1 ?_)
 refine FM ?_
 refine yB 0 (fun(⟨a,bd,n,ks,xs,A,c⟩:Nat×Bool×Nat×List Pc×List Value×Option Addr×Nat)=>(bd=false→rowF s (sgD s (7 - dep)) q=fx s (sgD s (7 - dep)) n a ks∧s.size<a+n)∧(bd=true→rowF s (sgD s (7 - dep)) q=(d4 ks,a,true))∧a≤s.size+7∧(bd=false→a≤s.size)∧(bd=false→ks.length≤a+1)∧ks.length≤a+2) (fun(⟨a,bd,n,ks,xs,A,c⟩:Nat×Bool×Nat×List Pc×List Value×Option Addr×Nat)=>[]) (fun(⟨a,bd,n,ks,xs,A,c⟩:Nat×Bool×Nat×List Pc×List Value×Option Addr×Nat)=>HA.row A ks.length c 275 1 xs::HA.blk b8 [.int .i64 ((3:Nat):Int), .int .i64 ((0:Nat):Int), .bool false, .bool false, .slice none 0 0, .slice none 0 0, .slice A ks.length c] 279::HA.blk rb [.string s, .int .i64 ((a:Nat):Int), .bool bd] 274::[]) (fun(⟨a,bd,n,ks,xs,A,c⟩:Nat×Bool×Nat×List Pc×List Value×Option Addr×Nat)=> .pps xs ks::[]) (fun(⟨a,bd,n,ks,xs,A,c⟩:Nat×Bool×Nat×List Pc×List Value×Option Addr×Nat)=>if bd=true then 0 else s.size+1 - a) (q,false,s.size+1,[],[],none,0) (⟨fun _=>⟨rfl,by show s.size<q+(s.size+1);omega⟩,(fun e=>by cases e),by show q≤_;omega,fun _=>hq,fun _=>Nat.zero_le _,Nat.zero_le _⟩) (eN _) Z Z ?_ (eC Z (eC Z (eC Z (eN _))))
 intro ⟨a,bd,n,ks,xs,A,c⟩ hI K hK
 change Run _ _ _ _ _ [(5,_),(0,_),(1,_)] [_,_,_] [_]
 obtain⟨hg1,hg2,hal,hal2,hkl1,hkl⟩:=hI
 have hg:=And.intro hg1 hg2
 refine rK 2 [5,0,1] Z Z (j7 (fun(go:Bool)=>go=decide (bd=false∧a<s.size∧nx s a≠41∧nx s a≠124)) (fun(go:Bool)=>[(35, .bool go)]) (fun(go:Bool)=>HA.blk rb [.string s, .int .i64 ((a:Nat):Int), .bool bd] 274::HA.row A ks.length c 275 1 xs::HA.blk b8 [.int .i64 ((3:Nat):Int), .int .i64 ((0:Nat):Int), .bool false, .bool false, .slice none 0 0, .slice none 0 0, .slice A ks.length c] 279::[]) (fun(go:Bool)=> .pps xs ks::[]) ?_ ?_)
 ·intro K hK
  refine yW yM (zO ?_)
  refine tP 0 Z cF (zP Z) (tP 1 Z cF (yQ Z) ?_)
  refine tP 2 Z cF (zZ rG Z) (yF ?_)
  refine tM 3 Z cF (yT 2 lX Z Z Z) (zO ?_)
  refine tP 4 Z cF (qf Z) (tP 5 Z cF (zP Z) ?_)
  refine vO (s:=14) Z (fun h14=>?_) (fun h14=>?_)
  ·refine tP 6 Z (ce Z Z) (zP Z) (tP 7 Z (ce Z Z) (yQ Z) ?_)
   refine tP 8 Z (ce Z Z) (zZ xP Z) (tP 10 Z (ce Z Z) (zP Z) ?_)
   refine tP 11 Z (ce Z Z) (yQ Z) (tP 12 Z (ce Z Z) (zZ rj Z) ?_)
   refine yF (tM 9 Z (ce Z Z) (yT 2 lL Z Z Z) ?_)
   refine tM 13 Z (ce Z Z) (yT 2 dO Z Z Z) (tM 14 Z (ce Z Z) (gW eL Z) ?_)
   refine tM 15 Z (ce Z Z) (zo Z Z) (zO ?_)
   refine tP 16 Z cF (wH Z Z) (tP 17 Z cF (zP Z) ?_)
   refine vO (s:=26) Z (fun h26=>?_) (fun h26=>?_)
   ·refine tP 18 Z (ce Z Z) (zP Z) (zS 19 aD ?_)
    refine zT (I2:=[[],[],[],[],[],[]]) Z (ce Z Z) aD (fun Kd hKd=>?_)
    refine yG 2 Z Z Z (nf rb s (a) _ hs) Z cQ (fun u28 M28 D28 hv28=>?_)
    obtain⟨rfl,rfl,rfl⟩:=hv28
    refine hKd _ _ _ (zE (zE (zE (zE (zE (zE (zU))))))) (yF ?_)
    refine tM 20 Z (ce Z Z) (zp (j:=41) Z Z) (zO ?_)
    refine tP 21 Z cF (wH Z Z) (tP 22 Z cF (zP Z) ?_)
    refine vO (s:=31) Z (fun h31=>?_) (fun h31=>?_)
    ·refine tP 23 Z (ce Z Z) (zP Z) (zS 24 aD ?_)
     refine zT (I2:=[[],[],[],[],[],[],[],[]]) Z (ce Z Z) aD (fun Kd hKd=>?_)
     refine yG 0 Z Z Z (nf rb s (a) _ hs) Z cQ (fun u33 M33 D33 hv33=>?_)
     obtain⟨rfl,rfl,rfl⟩:=hv33
     refine hKd _ _ _ (zE (zE (zE (zE (zE (zE (zE (zE (zU))))))))) (yF ?_)
     refine tM 25 Z (ce Z Z) (zp (j:=124) Z Z) (zO ?_)
     refine tP 26 Z cF (wH Z Z) (yJ aD ?_)
     refine rK 0 [35,5,0,1] Z Z ?_
     exact kQ (hK _ aS) (eC Z (eC Z (eC Z (eC Z (eN _)))))
    refine yF (tS 23 Z Z Z Z ?_)
    refine tS 24 Z Z Z Z (tS 25 Z Z Z Z ?_)
    refine zO (tP 26 Z cF (wH Z Z) ?_)
    refine yJ aD (rK 0 [35,5,0,1] Z Z ?_)
    exact kQ (hK _ aS) (eC Z (eC Z (eC Z (eC Z (eN _)))))
   refine yF (tS 18 Z Z Z Z ?_)
   refine tS 19 Z Z Z Z (tS 20 Z Z Z Z ?_)
   refine zO (tP 21 Z cF (wH Z Z) ?_)
   refine tP 22 Z cF (zP Z) (yF ?_)
   refine tS 23 Z Z Z Z (tS 24 Z Z Z Z ?_)
   refine tS 25 Z Z Z Z (zO ?_)
   refine tP 26 Z cF (wH Z Z) (yJ aD ?_)
   refine rK 0 [35,5,0,1] Z Z ?_
   exact kQ (hK _ aS) (eC Z (eC Z (eC Z (eC Z (eN _)))))
  refine yF (tS 6 Z Z Z Z ?_)
  refine tS 7 Z Z Z Z (tS 8 Z Z Z Z ?_)
  refine tS 10 Z Z Z Z (tS 11 Z Z Z Z ?_)
  refine tS 12 Z Z Z Z (tS 9 Z Z Z Z ?_)
  refine tS 13 Z Z Z Z (tS 14 Z Z Z Z ?_)
  refine tS 15 Z Z Z Z (zO ?_)
  refine tP 16 Z cF (wH Z Z) (tP 17 Z cF (zP Z) ?_)
  refine yF (tS 18 Z Z Z Z ?_)
  refine tS 19 Z Z Z Z (tS 20 Z Z Z Z ?_)
  refine zO (tP 21 Z cF (wH Z Z) ?_)
  refine tP 22 Z cF (zP Z) (yF ?_)
  refine tS 23 Z Z Z Z (tS 24 Z Z Z Z ?_)
  refine tS 25 Z Z Z Z (zO ?_)
  refine tP 26 Z cF (wH Z Z) (yJ aD ?_)
  refine rK 0 [35,5,0,1] Z Z ?_
  exact kQ (hK _ aS) (eC Z (eC Z (eC Z (eC Z (eN _)))))
 intro go hI
 replace hI:go=decide (bd=false∧a<s.size∧nx s a≠41∧nx s a≠124):=hI
 change Run _ _ _ _ _ [(35,_),(5,_),(0,_),(1,_)] [_,_,_] [_]
 refine yC Z (fun h35=>?_) (fun h35=>?_)
 ·have ho:bd=false∧a<s.size∧nx s a≠41∧nx s a≠124:=of_decide_eq_true (hI.symm.trans h35)
  refine rO 9 Z ?_
  obtain⟨rfl,ho2⟩:=ho
  have ho:(false:Bool)=false∧a<s.size∧nx s a≠41∧nx s a≠124:=⟨rfl,ho2⟩
  obtain⟨r,hr⟩: ∃r,r=sgD s (7 - dep) a:=⟨_,rfl⟩
  have hbd:=nh s (7 - dep) a ho2.1
  rw [←hr]at hbd
  refine yG 0 Z Z Z (hr▸hS a ho2.1) Z cQ (fun u38 M38 D38 hv38=>?_)
  obtain⟨b38,rfl,rfl,rfl⟩:=hv38
  refine oO 9 Z (yG 0 Z Z Z (nf rb s (r.2.1) _ hs) Z cQ (fun u40 M40 D40 hv40=>?_))
  obtain⟨rfl,rfl,rfl⟩:=hv40
  refine oK 1 [40,6,5,0,1] Z Z (uY [5,0,1] (fun(⟨b6,r6⟩:Nat×PR)=>r6=eD s (sgD s (7 - dep) a)) (fun(⟨b6,r6⟩:Nat×PR)=>[(6,ptr b6)]) (fun(⟨b6,r6⟩:Nat×PR)=>HA.blk rb [.string s, .int .i64 ((r6.2.1:Nat):Int), .bool r6.2.2] 274::HA.row A ks.length c 275 1 xs::HA.blk b8 [.int .i64 ((3:Nat):Int), .int .i64 ((0:Nat):Int), .bool false, .bool false, .slice none 0 0, .slice none 0 0, .slice A ks.length c] 279::[]) (fun(⟨b6,r6⟩:Nat×PR)=> .pc b6 r6.1:: .pps xs ks::[]) ?_ ?_)
  ·intro Kj1 hKj1
   refine rO 4 Z (vE (j:=63) Z Z Z ?_)
   refine oR 3 Z (zI Z (fun h41=>?_) (fun h41=>?_))
   ·have n63:nx s r.2.1=63:=wG.2 h41
    refine rO 5 Z (yV Z Z (jl ..) ?_)
    refine zA (yK Z Z Z (fun b45=>?_))
    refine zA (vA eF Z Z Z Z Z (fun b46=>?_))
    refine zA (yV Z Z (kM ..) ?_)
    refine zA (yK Z Z Z (fun b48=>?_))
    refine qI (rN ?_)
    refine uM (q:=3) (r:=0) 2 1 1 0 Z Z Z Z aM (tL 1 Z (Hy _ _) ?_)
    refine j0 (gN 0 4 Z Z ?_)
    refine gN 0 2 Z Z (pU 0 0 [r.1,d4 []] Z Z aM ?_)
    refine uM (q:=4) (r:=0) 0 6 6 0 Z Z Z Z aM (oK 3 [6,5,0,1] Z Z ?_)
    refine rO 6 Z (zC xP Z Z ?_)
    refine zA (zF 0 lL Z Z Z Z ?_)
    refine zA (zN Z Z aC ?_)
    refine oO 3 Z (zC xP Z Z ?_)
    refine zA (zG 0 (M':=[HA.blk _ [_,_,_] _,_,_]) Z Z Z Z s6 Z Z Z ?_)
    refine oR 2 Z ?_
    exact kQ (hKj1 (_,(.mk 4 0 false [] [] [r.1,d4 []],r.2.1+1,r.2.2)) (by show _=_;rw [←hr];exact(OX n63).symm)) (eC Z (eC Z (eC Z (eC Z (eN _))))) (hD:=aY)
   have n63: ¬ nx s r.2.1=63:=fun e=>h41 (wG.1 e)
   refine rO 3 Z (vE (j:=42) Z Z Z ?_)
   refine oR 3 Z (zI Z (fun h56=>?_) (fun h56=>?_))
   ·have n42:nx s r.2.1=42:=wG.2 h56
    refine rO 5 Z (zM eF Z Z Z Z Z (fun b59=>?_))
    refine zA (yV Z Z (kM ..) ?_)
    refine zA (yK Z Z Z (fun b61=>?_))
    refine qI (j0 ?_)
    refine gN 0 2 Z Z (tL 1 Z (fT _) ?_)
    refine pU 0 0 [r.1] Z Z aM (uM (q:=2) (r:=0) 0 3 3 0 Z Z Z Z aM ?_)
    refine oK 3 [6,5,0,1] Z Z (rO 6 Z ?_)
    refine zC xP Z Z (zA ?_)
    refine zF 0 lL Z Z Z Z (zA ?_)
    refine zN Z Z aC (oO 3 Z ?_)
    refine zC xP Z Z (zA ?_)
    refine zG 0 (M':=[HA.blk _ [_,_,_] _,_,_]) Z Z Z Z s6 Z Z Z (oR 2 Z ?_)
    exact kQ (hKj1 (_,(.mk 2 0 false [] [] [r.1],r.2.1+1,r.2.2)) (by show _=_;rw [←hr];exact(OY n63 n42).symm)) (eC Z (eC Z (eC Z (eC Z (eN _))))) (hD:=aY)
   have n42: ¬ nx s r.2.1=42:=fun e=>h56 (wG.1 e)
   refine rO 3 Z (vE (j:=43) Z Z Z ?_)
   refine oR 3 Z (zI Z (fun h69=>?_) (fun h69=>?_))
   ·have n43:nx s r.2.1=43:=wG.2 h69
    refine rO 5 Z (zM eF Z Z Z Z Z (fun b72=>?_))
    refine zA (yV Z Z (ul ..) ?_)
    refine zA (yK Z Z Z (fun b74=>?_))
    refine qI (j0 ?_)
    refine gN 0 2 Z Z (tL 1 Z (fT _) ?_)
    refine pU 0 0 [r.1] Z Z aM (uM (q:=2) (r:=1) 0 3 3 0 Z Z Z Z aM ?_)
    refine oK 3 [6,5,0,1] Z Z (rO 6 Z ?_)
    refine zC xP Z Z (zA ?_)
    refine zF 0 lL Z Z Z Z (zA ?_)
    refine zN Z Z aC (oO 3 Z ?_)
    refine zC xP Z Z (zA ?_)
    refine zG 0 (M':=[HA.blk _ [_,_,_] _,_,_]) Z Z Z Z s6 Z Z Z (oR 2 Z ?_)
    exact kQ (hKj1 (_,(.mk 2 1 false [] [] [r.1],r.2.1+1,r.2.2)) (by show _=_;rw [←hr];exact(OZ n63 n42 n43).symm)) (eC Z (eC Z (eC Z (eC Z (eN _))))) (hD:=aY)
   have n43: ¬ nx s r.2.1=43:=fun e=>h69 (wG.1 e)
   refine rR 2 Z ?_
   exact kQ (hKj1 (_,r) (by show _=_;rw [←hr];exact(QY n63 n42 n43).symm)) (eC Z (eC Z (eC Z (eC Z (eN _))))) (hD:=aY)
  intro ⟨b6,r6⟩ hI
  replace hI:r6=eD s (sgD s (7 - dep) a):=hI
  change Run _ _ _ _ _ [(6,_),(5,_),(0,_),(1,_)] [_,_,_] [_,_]
  have hI2:=hI
  have hsb:=FR (s:=s) (r:=sgD s (7 - dep) a)
  rw [←hI2,←hr]at hsb
  have hb2:a≤r6.2.1∧r6.2.1≤s.size+7∧(r6.2.2=false→a<r6.2.1∧r6.2.1≤s.size):=⟨aC,aC,fun e=>by have:=hbd.2.2 (by rw [←hsb.2.2];exact e);omega⟩
  refine rO 8 Z (zC tX Z Z ?_)
  refine zA (zF 2 iJ Z Z Z Z ?_)
  refine oO 3 Z (zM eF Z Z Z Z Z (fun b88=>?_))
  refine zA ?_
  refine cW 2 0 eF (fun A89 c89=>?_)
  refine oO 3 Z (zC tX Z Z ?_)
  refine zA (zG 3 (M':=[_,_,_,HA.blk _ [_,_,_,_,_,_,_] _]) Z Z Z Z Ix Z Z Z ?_)
  refine oK 1 [5,0,1] Z Z (qK ?_)
  refine wd 1 0 Z Z ?_
  rw [show ks.length+1=(ks++[r6.1]).length by simp]
  exact kQ (hK (r6.2.1,r6.2.2,n - 1,ks++[r6.1],xs++[ptr b6],A89,c89) (⟨fun e=>⟨(hg.1 ho.1).1.trans (Hz (by have:=(hg.1 ho.1).2;omega) ho.2 (by rw [←hI2];exact e))|>.trans (by rw [←hI2]),by have:=(hb2.2.2 e);have:=(hg.1 ho.1).2;omega⟩,fun e=>(hg.1 ho.1).1.trans (FV (by have:=(hg.1 ho.1).2;omega) ho.2 (by rw [←hI2];exact e))|>.trans (by rw [←hI2]),aC,fun e=>(hb2.2.2 e).2,fun e=>by have:=(hb2.2.2 e).1;have:=hkl1 rfl;simp;omega,by have:=hkl1 rfl;simp;omega⟩) (by show(if r6.2.2=true then 0 else s.size+1 - r6.2.1)<(if false=true then 0 else s.size+1 - a);rw [if_neg (show ¬ false=true by decide)];exact(Decidable.em (r6.2.2=true)).elim (fun e=>by rw [if_pos e];omega) (fun e=>by rw [if_neg e];have:=hb2.2.2 (by simpa using e);omega))) (hD:=am)
 have ho: ¬ (bd=false∧a<s.size∧nx s a≠41∧nx s a≠124):=of_decide_eq_false (hI.symm.trans bm)
 refine rS 5 Z (pU 1 0 ks Z Z aM ?_)
 refine qI (uM (q:=3) (r:=0) 1 0 0 1 Z Z Z Z aM ?_)
 refine oR 3 Z ?_
 have hfin:rowF s (sgD s (7 - dep)) q=(d4 ks,a,bd):=by
  cases bd with
  |true=>exact hg2 rfl
  |false=>exact(hg1 rfl).1.trans (FU (fun e=>ho ⟨rfl,e⟩))
 refine yD (M':=[HA.blk rb [_,_,_] 274]) (by repeat (first|exact zQ _|refine zB 0 Z ?_|refine zB 1 Z ?_|refine zB 2 Z ?_|refine zB 3 Z ?_|refine zB 4 Z ?_|refine zB 5 Z ?_|refine zB 6 Z ?_|refine zB 7 Z ?_|refine zB 8 Z ?_)) ?_
 exact zD Tryz.results262 Z (PRet.of (r':=(d4 ks,a,bd)) (hfin) ⟨_,rfl,rfl,rfl⟩) (List.Sublist.refl _) am
set_option maxHeartbeats 1000000 in
theorem JO(rb:Nat)(s:ByteArray)(q dep:Nat)(hs:s.size≤1000)(hq:q≤s.size)(hS: ∀ q,q<s.size→Ct Tryz.prog 291 #[ptr rb, .int .i64 ((dep:Nat):Int)] [.blk rb [.string s, .int .i64 ((q:Nat):Int), .bool false] 274] [] (PRet rb s (sgD s (7 - dep) q))):Ct Tryz.prog 247 #[ptr rb, .int .i64 ((dep:Nat):Int)] [.blk rb [.string s, .int .i64 ((q:Nat):Int), .bool false] 274] [] (PRet rb s (pchF s (sgD s (7 - dep)) q)):=by
 refine Ct.of_run (args:=[ptr rb, .int .i64 ((dep:Nat):Int)]) Tryz.func247 aF Z Tryz.ntmps247 Z (fun c=>?_)
 refine rO 12 Z ?_
 obtain⟨r0,hr0⟩: ∃r,r=rowF s (sgD s (7 - dep)) q:=⟨_,rfl⟩
 have hb0:=su (nh s (7 - dep)) q hq
 rw [←hr0]at hb0
 refine yG 0 Z Z Z (hr0▸Oa rb s q dep hs hq hS) Z cQ (fun u8 M8 D8 hv8=>?_)
 obtain⟨b8,rfl,rfl,rfl⟩:=hv8
 refine zA (zM eF Z Z Z Z Z (fun b9=>?_))
 refine zA (yV Z Z (kM ..) ?_)
 refine zA (yK Z Z Z (fun b11=>?_))
 refine tL 1 Z (fT _) (j0 ?_)
 refine gN 0 1 Z Z (oK 5 [5,0,1] Z Z ?_)
 refine tR (D':= .pps _ _::[]) am ?_
 refine yB 0 (fun(⟨a,bd,n,ks,xs,A,c⟩:Nat×Bool×Nat×List Pc×List Value×Option Addr×Nat)=>pchF s (sgD s (7 - dep)) q=iR s (rowF s (sgD s (7 - dep))) n ks a bd∧a≤s.size+7∧(bd=false→a≤s.size)∧ks.length≤a+1∧s.size<a+n) (fun(⟨a,bd,n,ks,xs,A,c⟩:Nat×Bool×Nat×List Pc×List Value×Option Addr×Nat)=>[]) (fun(⟨a,bd,n,ks,xs,A,c⟩:Nat×Bool×Nat×List Pc×List Value×Option Addr×Nat)=>HA.row A ks.length c 275 1 xs::HA.blk b11 [.int .i64 ((4:Nat):Int), .int .i64 ((0:Nat):Int), .bool false, .bool false, .slice none 0 0, .slice none 0 0, .slice A ks.length c] 279::HA.blk rb [.string s, .int .i64 ((a:Nat):Int), .bool bd] 274::[]) (fun(⟨a,bd,n,ks,xs,A,c⟩:Nat×Bool×Nat×List Pc×List Value×Option Addr×Nat)=> .pps xs ks::[]) (fun(⟨a,bd,n,ks,xs,A,c⟩:Nat×Bool×Nat×List Pc×List Value×Option Addr×Nat)=>if bd=true then 0 else s.size+1 - a) (r0.2.1,r0.2.2,s.size+1,[r0.1],[ptr b8],some ⟨_,0,none⟩,1) (⟨by rw [hr0];rfl,by show r0.2.1≤_;omega,fun e=>hb0.2.2 e,by show 1≤_;omega,by show s.size<r0.2.1+(s.size+1);omega⟩) (eN _) Z Z ?_ (eC Z (eC Z (eC Z (eN _))))
 intro ⟨a,bd,n,ks,xs,A,c⟩ hI K hK
 change Run _ _ _ _ _ [(5,_),(0,_),(1,_)] [_,_,_] [_]
 obtain⟨he,hal,hal2,hkl,hfn⟩:=hI
 refine rK 2 [5,0,1] Z Z (j7 (fun(go:Bool)=>go=decide (bd=false∧nx s a=124)) (fun(go:Bool)=>[(21, .bool go)]) (fun(go:Bool)=>HA.blk rb [.string s, .int .i64 ((a:Nat):Int), .bool bd] 274::HA.row A ks.length c 275 1 xs::HA.blk b11 [.int .i64 ((4:Nat):Int), .int .i64 ((0:Nat):Int), .bool false, .bool false, .slice none 0 0, .slice none 0 0, .slice A ks.length c] 279::[]) (fun(go:Bool)=> .pps xs ks::[]) ?_ ?_)
 ·intro K hK
  refine rO 6 Z (zC rG Z Z ?_)
  refine zA (zF 2 lX Z Z Z Z ?_)
  refine oS 4 Z (zY (s:=17) Z (fun h17=>?_) (fun h17=>?_))
  ·refine oO 3 Z (yG 2 Z Z Z (nf rb s (a) _ hs) Z cQ (fun u19 M19 D19 hv19=>?_))
   obtain⟨rfl,rfl,rfl⟩:=hv19
   refine zH Z Z (vE (j:=124) Z Z Z ?_)
   refine oK 3 [21,5,0,1] Z Z ?_
   exact kQ (hK _ (by show _=_;rw [Bool.eq_iff_iff];simp only [decide_eq_true_eq];cases bd<;>simp_all [wG])) (eC Z (eC Z (eC Z (eC Z (eN _)))))
  refine oK 6 [21,5,0,1] Z Z ?_
  exact kQ (hK _ (by show _=_;rw [Bool.eq_iff_iff];simp only [decide_eq_true_eq];cases bd<;>simp_all [wG])) (eC Z (eC Z (eC Z (eC Z (eN _)))))
 intro go hI
 replace hI:go=decide (bd=false∧nx s a=124):=hI
 change Run _ _ _ _ _ [(21,_),(5,_),(0,_),(1,_)] [_,_,_] [_]
 refine yC Z (fun h21=>?_) (fun h21=>?_)
 ·have ho:bd=false∧nx s a=124:=of_decide_eq_true (hI.symm.trans h21)
  obtain⟨rfl,ho2⟩:=ho
  have hlta:=ff (s:=s) (q:=a) (by rw [ho2];decide)
  refine rO 9 Z (zC xP Z Z ?_)
  refine zA (zF 0 lL Z Z Z Z ?_)
  refine zA (zN Z Z aC ?_)
  refine oO 3 Z (zC xP Z Z ?_)
  refine zA (zG 0 (M':=[HA.blk _ [_,_,_] _,_,_]) Z Z Z Z s6 Z Z Z ?_)
  refine yO (yW yM ?_)
  refine zO (tP 0 Z cF (zP Z) ?_)
  refine tP 1 Z cF (zP Z) (tP 2 Z cF (yQ Z) ?_)
  refine tP 3 Z cF (zZ tX Z) (tP 5 Z cF (zP Z) ?_)
  refine tP 6 Z cF (zP Z) (fp (zB 2 Z (zQ _)) ?_)
  refine uU (zB 2 Z (zQ _)) 4 (xL _ _ _ _) Z cF aD aD aD Z (yT 0 iJ Z Z Z) (zS 7 aD ?_)
  refine zT (I2:=[[4],[3,2,1,0],[]]) Z cF aD (fun Kd hKd=>?_)
  obtain⟨r2,hr2⟩: ∃r,r=rowF s (sgD s (7 - dep)) (a+1):=⟨_,rfl⟩
  have hb2:=su (nh s (7 - dep)) (a+1) aC
  rw [←hr2]at hb2
  refine yG 0 Z Z Z (hr2▸Oa rb s (a+1) dep hs aC hS) Z cQ (fun u36 M36 D36 hv36=>?_)
  obtain⟨b36,rfl,rfl,rfl⟩:=hv36
  refine hKd _ _ _ (wU sK sQ (hC (zE (zU)))) ?_
  refine zS 8 aD ?_
  refine zT (I2:=[[4],[3,2,1,0],[]]) Z cF aD (fun Kd hKd=>?_)
  refine zM eF Z Z Z Z Z (fun b37=>?_)
  refine hKd _ _ _ (wU sK sQ (hC (zE (zU)))) ?_
  refine zS 9 aD ?_
  refine zT (I2:=[[],[0],[]]) Z cF aD (fun Kd hKd=>?_)
  refine cW 2 0 eF (fun A38 c38=>?_)
  refine hKd _ _ _ (zE (hC (zE (zU)))) (zO ?_)
  refine tP 10 Z cF (yQ Z) (tP 11 Z cF (zZ tX Z) ?_)
  refine zS 12 aD ?_
  refine zT (I2:=[[],[],[],[]]) Z cF aD (fun Kd hKd=>?_)
  refine zG 3 (M':=[_,_,_,HA.blk _ [_,_,_,_,_,_,_] _]) Z Z Z Z Ix Z Z Z (hKd _ _ _ (zE (zE (zE (zE (zU))))) ?_)
  refine yJ aD (rK 0 [5,0,1] Z Z ?_)
  refine qK (wd 1 0 Z Z ?_)
  rw [show ks.length+1=(ks++[r2.1]).length by simp]
  exact kQ (hK (r2.2.1,r2.2.2,n - 1,ks++[r2.1],xs++[ptr b36],A38,c38) (⟨he.trans (H0 aC ⟨rfl,ho2⟩|>.trans (by rw [←hr2])),by show r2.2.1≤_;omega,fun e=>hb2.2.2 e,by simp;omega,by show s.size<r2.2.1+(n - 1);omega⟩) (by show(if r2.2.2=true then 0 else s.size+1 - r2.2.1)<(if false=true then 0 else s.size+1 - a);split<;>simp<;>omega)) (eC Z (eC Z (eC Z (eN _)))) (hD:=am)
 have ho: ¬ (bd=false∧nx s a=124):=of_decide_eq_false (hI.symm.trans (by simpa using h21))
 refine rS 5 Z (pU 1 0 ks Z Z aM ?_)
 refine qI (uM (q:=4) (r:=0) 1 0 0 1 Z Z Z Z aM ?_)
 refine oR 3 Z ?_
 refine yD (M':=[HA.blk rb [_,_,_] 274]) (by repeat (first|exact zQ _|refine zB 0 Z ?_|refine zB 1 Z ?_|refine zB 2 Z ?_|refine zB 3 Z ?_|refine zB 4 Z ?_|refine zB 5 Z ?_|refine zB 6 Z ?_|refine zB 7 Z ?_|refine zB 8 Z ?_)) ?_
 exact zD Tryz.results247 Z (PRet.of (r':=(.mk 4 0 false [] [] ks,a,bd)) (he.trans (FW ho)) ⟨_,rfl,rfl,rfl⟩) (List.Sublist.refl _) am
theorem QZ(rb:Nat)(s:ByteArray)(hs:s.size≤1000): ∀ (D dep:Nat),7 - dep=D→dep≤7→ ∀ q,q≤s.size→Ct Tryz.prog 247 #[ptr rb, .int .i64 ((dep:Nat):Int)] [.blk rb [.string s, .int .i64 ((q:Nat):Int), .bool false] 274] [] (PRet rb s (pchF s (sgD s (7 - dep)) q)):=by
  intro D
  induction D with
  |zero=>exact fun dep hD hd q hq=>JO rb s q dep hs hq (fun q hq=>OW rb s q dep hs hq hd (fun h6=>absurd hD aC))
  |succ D ih=>exact fun dep hD hd q hq=>JO rb s q dep hs hq (fun q hq=>OW rb s q dep hs hq hd (fun h6=>ih (dep+1) aC aC))
section rules
variable {P:Program} {n:Nat} {F:List Nat} {c:Ctx F} {ops:Array Oper} {d:Nat} {T:TypeId} {l:List Oper} {k:List KI} {Q:cu} {e:dF} {M:List HA} {D:List DA}
theorem lH: ∀ (pre cs vs:List Value),cs.length=vs.length→de (pre++cs) pre.length vs=pre++vs
  |pre,[],[],_=>rfl
  |pre,x::cs,v::vs,h=>by
    rw [de]
    have e1:(pre++x::cs).set pre.length v=(pre++[v])++cs:=by simp
    rw [e1,show pre.length+1=(pre++[v]).length by simp,lH (pre++[v]) cs vs cA]
    simp
theorem ni(i j:Nat){x y:Operand}{b b2 m cap cap2:Nat}{S E by_:Nat}{cs ss:List Value}{U U2:TypeId}(hS:cS P S E 1 by_)(hd:Nat.blt d n=true)(hx:ev e x=some (.slice (some ⟨b,0,none⟩) m cap))(hy:ev e y=some (.slice (some ⟨b2,0,none⟩) m cap2))(hi:M[i]? =some (.blk b cs U))(hj:M[j]? =some (.blk b2 ss U2))(hc:cs.length=m)(hs:ss.length=m)(h1:ss.all (·.oneCell')=true)
  (next:cG P n c ops l k Q ((d, .int .i64 ((m:Nat):Int))::e) (M.set i (.blk b ss U)) D):cL P n c ops (some d) (.call {callee:= .builtin .copy,args:= #[x,y],argTypes:= #[S,S]}) T l k Q e M D:=by
 obtain⟨ti,z,hu,hinf,hs1,hb1,hz,hzs,hsz0⟩:=hS
 intro a w hf
 have hbi:w.heap[b]? =some (.cells cs.toArray U (0,0)):=hf.toFitsW.mem hi
 have hbj:w.heap[b2]? =some (.cells ss.toArray U2 (0,0)):=hf.toFitsW.mem hj
 obtain⟨w',hr,hh,hg⟩:=sC (P:=P) ss w cs 0 0 hbi aC (fun v hv=>List.all_eq_true.1 h1 v hv)
 have hl:=run_loadCells_list (P:=P) (w:=w) ⟨b2,0,none⟩ ss (fun q v hv=>by rw [wB,Nat.zero_add,vL hbj];exact hv)
 rw [hs]at hl
 have hset:=lH [] cs ss aC
 simp only [List.nil_append,List.length_nil,Nat.zero_add]at hset hh
 rw [hset]at hh
 unfold Oper.wp
 have hr2:(execOp a.eval (dH (some d) (.call {callee:= .builtin .copy,args:= #[x,y],argTypes:= #[S,S]}) T)).run P w= .ok (.value (.int .i64 ((m:Nat):Int))) w':=by
  have hmin:Nat.min m m=ss.length:=by rw [hs];exact Nat.min_self m
  simp [execOp,dH,resolve,invoke,builtin,hf.ev hx,hf.ev hy,Builtin.copy_,run_underlying hu,Builtin.lenOf,Builtin.firstCells,xK hinf,hs1,hmin,hl,hr,goInt,hs]
 rw [hr2]
 exact next _ w' ((hf.world (hf.toFitsW.blkM hi hh hg)).put hd _)
theorem vZ{x y:Operand}{b m cap i:Nat}{kd:IntKind}{S E by_:Nat}(hS:cS P S E 1 by_)(hd:Nat.blt d n=true)(hx:ev e x=some (.slice (some ⟨b,0,none⟩) m cap))(hy:ev e y=some (.int kd (i:Nat)))(hi:i<m)(next:cG P n c ops l k Q ((d, .pointer (some ⟨b,i,none⟩))::e) M D):cL P n c ops (some d) (.indexAddr S x y) T l k Q e M D:=
 xY hS hd hx hy hi (by rw [wB,Nat.zero_add,Nat.mul_one];exact next)
end rules
abbrev fV(l:List Bool):List Value:=l.map Value.bool
theorem fU{l:List Bool}{i:Nat}(h:i<l.length):(fV l)[i]? =some (.bool l[i]):=by simp [fV,h]
theorem H1(t:ByteArray):fV (dR t)=List.replicate (t.size+1) (.bool false):=by simp [fV,dR]
theorem zd(l:List Bool):(fV l).all (·.oneCell')=true:=by
 rw [List.all_eq_true]
 intro v hv
 obtain⟨b,_,rfl⟩:=List.mem_map.1 hv
 rfl
theorem ii(l:List Bool)(i:Nat)(b:Bool):(fV l).set i (.bool b)=fV (l.set i b):=by simp [fV,List.map_set]
 mutual
def dq:Pc→Prop
  | .mk k l ng fr to ks=>fr.length=to.length∧(k=2→ks≠[])∧fg ks∧l≤1
def fg:List Pc→Prop
  |[]=>True
  |p::ps=>dq p∧fg ps
end
theorem fW{k l:Nat}{ng:Bool}{fr to:List UInt8}{ks:List Pc}(h1:fr.length=to.length)(h2:k=2→ks≠[])(h3:fg ks)(h4:l≤1:=by decide):dq (.mk k l ng fr to ks):=by
  unfold dq
  exact⟨h1,h2,h3,h4⟩
theorem qB:fg []:=by unfold fg;exact trivial
theorem qJ{p:Pc}{ps:List Pc}(h1:dq p)(h2:fg ps):fg (p::ps):=by
 unfold fg
 exact⟨h1,h2⟩
theorem pt: ∀ {ks:List Pc} {p:Pc},fg ks→p∈ks→dq p
  |[],_,_,h=>by cases h
  |q::ks,p,h,hm=>by
    simp only [fg]at h
    rcases List.mem_cons.1 hm with rfl|hm
    · exact h.1
    · exact pt h.2 hm
theorem nj: ∀ {ks:List Pc},(∀ p∈ks,dq p)→fg ks
  |[],_=>qB
  |q::ks,h=>qJ (h q List.mem_cons_self) (nj fun p hp=>h p (List.mem_cons_of_mem _ hp))
theorem pW{ks:List Pc}(h: ∀ p∈ks,dq p):dq (d4 ks):=fW rfl (fun e=>by cases e) (nj h)
theorem H2{s:ByteArray}{ng:Bool}: ∀ (n q:Nat) (fr to:List UInt8),fr.length=to.length→dq (eO s ng n q fr to).1:=by
  have base: ∀ (fr to:List UInt8),fr.length=to.length→dq (.mk 1 0 ng fr to []):=fun fr to h=>fW h (fun e=>by cases e) qB
  intro n
  induction n with
  |zero=>intro q fr to h;exact base fr to h
  |succ n ih=>
    intro q fr to h
    rw [eO]
    split
    · exact base fr to h
    split
    · exact base fr to h
    split
    · split
      · exact base fr to h
      · exact ih _ _ _ (by simp [h])
    · exact ih _ _ _ (by simp [h])
theorem H3(s:ByteArray)(q:Nat):dq (g9 s q).1:=by
 unfold g9
 split<;>exact H2 _ _ _ _ rfl
theorem LY{s:ByteArray}{r:PR}(h:dq r.1):dq (eD s r).1:=by
 have h0:dq (d4 []):=pW fun p hp=>by cases hp
 unfold eD
 split
 ·exact fW Z (fun e=>by cases e) (qJ h (qJ h0 qB))
 split
 ·exact fW Z (fun _=>by simp) (qJ h qB)
 split
 ·exact fW Z (fun _=>by simp) (qJ h qB)
 ·exact h
theorem FX{s:ByteArray}{S:Nat→PR}(hS: ∀ q,dq (S q).1): ∀ (n q:Nat) (ks:List Pc),(∀ p∈ks,dq p)→dq (fx s S n q ks).1:=by
  intro n
  induction n with
  |zero=>intro q ks h;exact pW h
  |succ n ih=>
    intro q ks h
    have h2: ∀ p∈ks++[(eD s (S q)).1],dq p:=fun p hp=>by
      rcases List.mem_append.1 hp with hp|hp
      · exact h p hp
      · rw [List.mem_singleton.1 hp];exact LY (hS q)
    rw [fx]
    split
    · split
      · exact pW h2
      · exact ih _ _ h2
    · exact pW h
theorem FY{s:ByteArray}{R:Nat→PR}(hR: ∀ q,dq (R q).1): ∀ (n:Nat) (ks:List Pc) (q:Nat) (bad:Bool),(∀ p∈ks,dq p)→dq (iR s R n ks q bad).1:=by
  have base: ∀ ks,(∀ p∈ks,dq p)→dq (.mk 4 0 false [] [] ks):=fun ks h=>fW rfl (fun e=>by cases e) (nj h)
  intro n
  induction n with
  |zero=>intro ks q bad h;exact base ks h
  |succ n ih=>
    intro ks q bad h
    rw [iR]
    split
    · exact ih _ _ _ (fun p hp=>by
        rcases List.mem_append.1 hp with hp|hp
        · exact h p hp
        · rw [List.mem_singleton.1 hp];exact hR _)
    · exact base ks h
theorem As{s:ByteArray}{S:Nat→PR}(hS: ∀ q,dq (S q).1)(q:Nat):dq (rowF s S q).1:=FX hS _ _ _ (fun p hp=>by cases hp)
theorem Au{s:ByteArray}{S:Nat→PR}(hS: ∀ q,dq (S q).1)(q:Nat):dq (pchF s S q).1:=FY (As hS) _ _ _ _ (fun p hp=>by rw [List.mem_singleton.1 hp];exact As hS q)
theorem H4{s:ByteArray}{C:Nat→PR}(hC: ∀ q,dq (C q).1)(q:Nat):dq (mN s C q).1:=by
 have h1: ∀ (ng:Bool) (fr to:List UInt8),fr.length=to.length→dq (.mk 1 0 ng fr to []):=fun ng fr to h=>fW h (fun e=>by cases e) qB
 unfold mN
 split
 ·exact H3 s q
 split
 ·exact hC _
 split
 ·exact h1 _ _ _ Z
 split
 ·exact h1 _ _ _ Z
 ·exact pW fun p hp=>by cases hp
theorem Av(s:ByteArray): ∀ D q,dq (sgD s D q).1
  |0,q=>pW fun p hp=>by cases hp
  |D+1,q=>H4 (Au (Av s D)) q
theorem FZ{ng:Bool}{fr to:List UInt8}{b:UInt8}(hl:fr.length=to.length)(h: ∀ j (h1:j<fr.length) (h2:j<to.length),¬ (fr[j].toNat≤b.toNat∧b.toNat≤to[j].toNat)):fD ng fr to b=ng:=by
 unfold fD
 rw [if_neg]
 rw [List.any_eq_true]
 rintro ⟨p,hp,h2⟩
 obtain⟨j,hj,rfl⟩:=List.getElem_of_mem hp
 rw [List.length_zip]at hj
 rw [List.getElem_zip]at h2
 exact h j aC aC (by simpa using h2)
theorem CQ{ng:Bool}{fr to:List UInt8}{b:UInt8}{j:Nat}(h1:j<fr.length)(h2:j<to.length)(h:fr[j].toNat≤b.toNat∧b.toNat≤to[j].toNat):fD ng fr to b= !ng:=by
 unfold fD
 rw [if_pos]
 rw [List.any_eq_true]
 refine⟨(fr[j],to[j]),?_,by simpa using h⟩
 refine List.mem_of_getElem? (i:=j) ?_
 rw [List.getElem?_zip_eq_some]
 exact⟨List.getElem?_eq_getElem h1,List.getElem?_eq_getElem h2⟩
theorem Fa{p:Nat→Prop}{i:Nat}(h: ∀ j,j<i→p j)(h0:p i): ∀ j,j<i+1→p j:=fun j hj=>by
  rcases Nat.lt_or_ge j i with h1|h1
  · exact h j h1
  · obtain rfl:j=i:=by omega
    exact h0
theorem Ob(s:ByteArray)(hs:s.size≤1000):Ct Tryz.prog 248 #[.string s] [] [] (fun u M' D'=> ∃b,u= .slice (some ⟨b,0,none⟩) (s.size+1) (s.size+1)∧M'=[.blk b (fV (dR s)) 4]∧D'=[]):=by
 refine Ct.of_run (args:=[.string s]) Tryz.func248 aF Z Tryz.ntmps248 Z (fun c=>?_)
 refine rO 10 Z (xF eL Z Z ?_)
 refine zA (zN Z Z aC ?_)
 refine zA ?_
 refine FO (s.size+1) dc PA Z Z Z aC aC (fun b6=>?_)
 rw [←H1]
 refine oR 3 Z ?_
 exact zD Tryz.results248 Z ⟨_,rfl,rfl,rfl⟩ (List.Sublist.refl _) (fun _ h=>by cases h)
theorem Qa(b:Nat)(l:List Bool)(hll:l.length≤2000):Ct Tryz.prog 250 #[.slice (some ⟨b,0,none⟩) l.length l.length] [.blk b (fV l) 4] [] (fun u M' D'=>u= .bool (l.any id)∧M'=[.blk b (fV l) 4]∧D'=[]):=by
 refine Ct.of_run (args:=[.slice (some ⟨b,0,none⟩) l.length l.length]) Tryz.func250 aF Z Tryz.ntmps250 Z (fun c=>?_)
 refine rO 11 Z (zX dc Z Z ?_)
 refine oK 4 [7,6,5] Z Z (yB 1 (fun(⟨i,u⟩:Nat×Unit)=>i≤l.length∧ ∀ j,j<i→l.getD j false=false) (fun(⟨i,u⟩:Nat×Unit)=>[(7, .int .i64 ((i:Nat):Int))]) (fun(⟨i,u⟩:Nat×Unit)=>HA.blk b (fV l) 4::[]) (fun(⟨i,u⟩:Nat×Unit)=>[]) (fun(⟨i,u⟩:Nat×Unit)=>l.length - i) (0,()) (⟨Nat.zero_le _,fun j h=>absurd h (Nat.not_lt_zero _)⟩) (eC Z (eN _)) Z Z ?_ (eC Z (eC Z (eN _))))
 intro ⟨i,u⟩ hI K hK
 change Run _ _ _ _ _ [(7,_),(6,_),(5,_)] [_] ([])
 obtain⟨hi,hno⟩:=hI
 refine rO 3 Z (yL Z Z Z ?_)
 refine oR 2 Z (zI Z (fun h8=>?_) (fun h8=>?_))
 ·refine rO 6 Z (vZ dc Z Z Z h8 ?_)
  refine zA (wR 0 lX Z Z Z (v:= .bool (l[i]'h8)) (fU h8) ?_)
  refine oR 8 Z (yC Z (fun h11=>?_) (fun h11=>?_))
  ·refine rR 5 Z ?_
   exact zD Tryz.results250 Z ⟨congrArg Value.bool ((by rw [eq_comm,List.any_eq_true];exact⟨_,List.getElem_mem h8,h11⟩)),rfl,rfl⟩ (List.Sublist.refl _) (fun _ h=>by cases h)
  refine rO 4 Z (zN Z Z aC ?_)
  refine oR 3 Z ?_
  exact kQ (hK (i+1,()) (⟨by show i+1≤_;omega,Fa hno (by rw [List.getD_eq_getElem?_getD,List.getElem?_eq_getElem h8];simpa using h11)⟩) a6) (eC Z (eC Z (eC Z (eN _)))) (hD:=(fun d hd=>hd))
 refine rR 6 Z ?_
 exact zD Tryz.results250 Z ⟨congrArg Value.bool ((by rw [eq_comm,List.any_eq_false];intro x hx;obtain⟨j,hj,rfl⟩:=List.getElem_of_mem hx;have:=hno j aC;rw [List.getD_eq_getElem?_getD,List.getElem?_eq_getElem hj]at this;simpa using this)),rfl,rfl⟩ (List.Sublist.refl _) (fun _ h=>by cases h)
theorem Qb(b q r:Nat)(ng:Bool)(fr to:List UInt8)(ks:List Pc)(ch:UInt8)(hl:fr.length=to.length):di Tryz.prog 264 #[ptr b, .int .u8 ((ch.toNat:Nat):Int)] [.pc b (.mk q r ng fr to ks)] (.bool (fD ng fr to ch)):=by
 refine Ct.of_run (args:=[ptr b, .int .u8 ((ch.toNat:Nat):Int)]) Tryz.func264 aF Z Tryz.ntmps264 Z (fun c=>?_)
 refine FN 0 Z (fun A1 c1 A2 c2 A3 c3 hk1 hk2 hk3=>?_)
 have hmx:maxLen≤9223372036854775807:=by decide
 refine rO 13 Z (zC fM Z Z ?_)
 refine zA (zJ 0 ot Z Z Z Z ?_)
 refine zA (zX dB Z Z ?_)
 refine oK 4 [11,10,0,1] Z Z (yB 1 (fun(⟨i,u⟩:Nat×Unit)=>i≤fr.length∧ ∀ j,j<i→ ∀ (h1:j<fr.length) (h2:j<to.length),¬ ((fr[j]'h1).toNat≤ch.toNat∧ch.toNat≤(to[j]'h2).toNat)) (fun(⟨i,u⟩:Nat×Unit)=>[(11, .int .i64 ((i:Nat):Int))]) (fun(⟨i,u⟩:Nat×Unit)=>[]) (fun(⟨i,u⟩:Nat×Unit)=> .dblk b [.int .i64 (q:Int), .int .i64 (r:Int), .bool false, .bool ng, .slice A1 fr.length c1, .slice A2 to.length c2, .slice A3 ks.length c3] 279:: .bys (.slice A1 fr.length c1) fr:: .bys (.slice A2 to.length c2) to:: .pks (.slice A3 ks.length c3) ks:: .pc b (.mk q r ng fr to ks)::[]) (fun(⟨i,u⟩:Nat×Unit)=>fr.length - i) (0,()) (⟨Nat.zero_le _,fun j h=>absurd h (Nat.not_lt_zero _)⟩) (eC Z (eN _)) Z Z ?_ (eC Z (eC Z (eC Z (eN _)))))
 intro ⟨i,u⟩ hI K hK
 change Run _ _ _ _ _ [(11,_),(10,_),(0,_),(1,_)] ([]) [_,_,_,_,_]
 obtain⟨hi,hno⟩:=hI
 refine rO 3 Z (yL Z Z Z ?_)
 refine oR 2 Z (zI Z (fun h12=>?_) (fun h12=>?_))
 ·refine rO 19 Z (zC fM Z Z ?_)
  refine zA (zJ 0 ot Z Z Z Z ?_)
  refine oO 3 Z (pq 1 dB Z Z Z Z h12 ?_)
  refine zA ?_
  refine yR (v:= .int .u8 ((fr[i].toNat:Nat):Int)) MR Z Z (fun _ h=>wc h (j:=1) Z (List.getElem?_eq_getElem h12)) ?_
  refine zA (uA Z Z Z ?_)
  refine oS 2 Z (zW (s:=23) Z (fun h23=>?_) (fun h23=>?_))
  ·refine oO 7 Z (zC jk Z Z ?_)
   refine zH Z Z (zJ 0 ot Z Z Z Z ?_)
   refine oO 3 Z (pq 2 dB Z Z Z Z (show i<to.length by omega) ?_)
   refine zH Z Z ?_
   refine yR (v:= .int .u8 (((to[i]'aC).toNat:Nat):Int)) MR Z Z (fun _ h=>wc h (j:=2) Z (List.getElem?_eq_getElem (show i<to.length by omega))) ?_
   refine zH Z Z (sE Z Z Z ?_)
   refine oK 3 [33,11,10,0,1] Z Z (zI Z (fun h33=>?_) (fun h33=>?_))
   ·refine rO 7 Z (zC rk Z Z ?_)
    refine zA (zJ 0 lX Z Z Z Z ?_)
    refine oK 5 [4] Z Z ?_
    exact zD Tryz.results264 Z ⟨congrArg Value.bool ((CQ h12 aC ⟨aC,aC⟩).symm),rfl,rfl⟩ nS (fun _ h=>by cases h)
   refine rO 4 Z (zN Z Z aC ?_)
   refine oR 3 Z ?_
   exact kQ (hK (i+1,()) (⟨by show i+1≤_;omega,Fa (p:=fun j=> ∀ (h1:j<fr.length) (h2:j<to.length),¬ ((fr[j]'h1).toNat≤ch.toNat∧ch.toNat≤(to[j]'h2).toNat)) hno (fun h1 h2 e=>by have:=e.1;have:=e.2;omega)⟩) (by show fr.length - (i+1)<fr.length - i;omega)) (eC Z (eC Z (eC Z (eC Z (eN _))))) (hD:=(fun d hd=>hd))
  refine oK 12 [33,11,10,0,1] Z Z (rO 5 Z ?_)
  refine zN Z Z aC (oR 3 Z ?_)
  exact kQ (hK (i+1,()) (⟨by show i+1≤_;omega,Fa (p:=fun j=> ∀ (h1:j<fr.length) (h2:j<to.length),¬ ((fr[j]'h1).toNat≤ch.toNat∧ch.toNat≤(to[j]'h2).toNat)) hno (fun h1 h2 e=>by have:=e.1;have:=e.2;omega)⟩) (by show fr.length - (i+1)<fr.length - i;omega)) (eC Z (eC Z (eC Z (eC Z (eN _))))) (hD:=(fun d hd=>hd))
 refine rO 8 Z (zC rk Z Z ?_)
 refine zA (zJ 0 lX Z Z Z Z ?_)
 refine oK 3 [4] Z Z ?_
 exact zD Tryz.results264 Z ⟨congrArg Value.bool ((FZ hl (fun j h1 h2=>hno j aC h1 h2)).symm),rfl,rfl⟩ nS (fun _ h=>by cases h)
theorem we{t:ByteArray}{g:List Bool→List Bool}(hg: ∀ L,L.length=t.size+1→(g L).length=t.size+1): ∀ (n:Nat) (f:List Bool),f.length=t.size+1→(km g n f).length=t.size+1
  |0,f,h=>h
  |n+1,f,h=>we hg n _ (hg f h)
theorem wg{t:ByteArray}{g:List Bool→List Bool}(hg: ∀ L,L.length=t.size+1→(g L).length=t.size+1): ∀ (n:Nat) (f:List Bool),f.length=t.size+1→(eX g n f).length=t.size+1
  |0,f,h=>h
  |n+1,f,h=>by
    rw [eX]
    split
    · exact h
    · exact wg hg n _ (by unfold oa;rw [List.length_zipWith,h,hg f h];exact Nat.min_self _)
 mutual
theorem tZ(t:ByteArray): ∀ (p:Pc) (f:List Bool),f.length=t.size+1→(eB t p f).length=t.size+1
  | .mk k l ng fr to ks,f,h=>by
    rw [eB]
    split
    · unfold qq;simp
    split
    · exact wh t ks f h
    split
    · exact wi t ks f (dR t) h (by unfold dR;simp)
    split
    · exact wg (fun L hL=>wj t ks L hL) _ _ (we (fun L hL=>wj t ks L hL) _ _ h)
    · unfold dR;simp
theorem wh(t:ByteArray): ∀ (ks:List Pc) (f:List Bool),f.length=t.size+1→(lO t ks f).length=t.size+1
  |[],f,h=>by rw [lO];exact h
  |p::ps,f,h=>by rw [lO];exact wh t ps _ (tZ t p f h)
theorem wi(t:ByteArray): ∀ (ks:List Pc) (f o:List Bool),f.length=t.size+1→o.length=t.size+1→(lP t ks f o).length=t.size+1
  |[],f,o,h,h2=>by rw [lP];exact h2
  |p::ps,f,o,h,h2=>by
    rw [lP]
    exact wi t ps f _ h (by unfold oa;rw [List.length_zipWith,h2,tZ t p f h];exact Nat.min_self _)
theorem wj(t:ByteArray): ∀ (ks:List Pc) (f:List Bool),f.length=t.size+1→(fy t ks f).length=t.size+1
  |[],f,h=>by rw [fy];exact h
  |p::_,f,h=>by rw [fy];exact tZ t p f h
end
def ze(C:List Bool)(m:Nat)(L:List Bool)(i:Nat):Prop:=L.length=m∧ ∀ j,j<m→L.getD j false=if j≤i then C.getD j false else false
theorem Oc{C L:List Bool}{m i:Nat}(h:ze C m L i)(hi:i+1<m)(hc:C.getD (i+1) false=true):ze C m (L.set (i+1) true) (i+1):=by
 refine⟨by rw [List.length_set];exact h.1,fun j hj=>?_⟩
 rw [List.getD_eq_getElem?_getD,List.getElem?_set]
 by_cases e:i+1=j
 ·subst e
  rw [if_pos rfl,if_pos bf,if_pos (Nat.le_refl _),hc]
  rfl
 ·rw [if_neg e,←List.getD_eq_getElem?_getD,h.2 j hj]
  by_cases e2:j≤i
  ·rw [if_pos e2,if_pos aC]
  ·rw [if_neg e2,if_neg aC]
theorem JP{C L:List Bool}{m i:Nat}(h:ze C m L i)(hc:C.getD (i+1) false=false):ze C m L (i+1):=by
 refine⟨h.1,fun j hj=>?_⟩
 rw [h.2 j hj]
 by_cases e2:j≤i
 ·rw [if_pos e2,if_pos aC]
 ·rw [if_neg e2]
  by_cases e:j=i+1
  ·subst e;rw [if_pos (Nat.le_refl _),hc]
  ·rw [if_neg aC]
theorem wk{a b:List Bool}(hl:a.length=b.length)(h: ∀ j,j<a.length→a.getD j false=b.getD j false):a=b:=by
 apply List.ext_getElem hl
 intro j h1 h2
 have:=h j h1
 rw [List.getD_eq_getElem?_getD,List.getD_eq_getElem?_getD,List.getElem?_eq_getElem h1,List.getElem?_eq_getElem h2]at this
 exact this
theorem H5{C L:List Bool}{m i:Nat}(h:ze C m L i)(hC:C.length=m)(hi:m≤i+1):L=C:=
 wk (h.1.trans hC.symm) fun j hj=>by rw [h.2 j (by rw [h.1]at hj;exact hj),if_pos (by rw [h.1]at hj;omega)]
theorem Fb(t:ByteArray)(ng:Bool)(fr to:List UInt8)(f:List Bool):(qq t ng fr to f).length=t.size+1:=by unfold qq;simp
theorem nl{t:ByteArray}{ng:Bool}{fr to:List UInt8}{f:List Bool}{i:Nat}(hi:i<t.size)(hf:i<f.length):(qq t ng fr to f).getD (i+1) false=(f[i] && fD ng fr to t[i]):=by
 unfold qq
 rw [List.getD_cons_succ,List.getD_eq_getElem?_getD,List.getElem?_map,List.getElem?_range hi]
 show(f.getD i false && fD ng fr to (nx t i))=_
 rw [List.getD_eq_getElem?_getD,List.getElem?_eq_getElem hf,Ap hi]
 rfl
theorem Od(t:ByteArray)(ng:Bool)(fr to:List UInt8)(f:List Bool):ze (qq t ng fr to f) (t.size+1) (dR t) 0:=by
  refine⟨by unfold dR;simp,fun j hj=>?_⟩
  have e:(dR t).getD j false=false:=by unfold dR;rw [List.getD_eq_getElem?_getD,List.getElem?_replicate];split<;>rfl
  rw [e]
  split
  · obtain rfl:j=0:=by omega
    rfl
  · rfl
def Fv(L r:List Bool)(m:Nat)(L2:List Bool)(j:Nat):Prop:=L2.length=m∧ ∀ q,q<m→L2.getD q false=if q<j then(L.getD q false||r.getD q false)else L.getD q false
theorem LZ{L r:List Bool}{m:Nat}(h:L.length=m):Fv L r m L 0:=⟨h,fun q _=>by rw [if_neg (Nat.not_lt_zero _)]⟩
theorem sw{L r L2:List Bool}{m j:Nat}(h:Fv L r m L2 j)(hj:j<m){b:Bool}(hb:b=(L.getD j false||r.getD j false)):Fv L r m (L2.set j b) (j+1):=by
 refine⟨by rw [List.length_set];exact h.1,fun q hq=>?_⟩
 rw [List.getD_eq_getElem?_getD,List.getElem?_set]
 by_cases e:j=q
 ·subst e
  rw [if_pos rfl,if_pos (by rw [h.1];exact hj),if_pos (Nat.lt_succ_self _),hb]
  rfl
 ·rw [if_neg e,←List.getD_eq_getElem?_getD,h.2 q hq]
  by_cases e2:q<j
  ·rw [if_pos e2,if_pos aC]
  ·rw [if_neg e2,if_neg aC]
theorem l5{L r L2:List Bool}{m j:Nat}(h:Fv L r m L2 j)(hb:L2.getD j false=(L.getD j false||r.getD j false)):Fv L r m L2 (j+1):=by
 refine⟨h.1,fun q hq=>?_⟩
 by_cases e:q=j
 ·subst e;rw [if_pos (Nat.lt_succ_self _),hb]
 ·rw [h.2 q hq]
  by_cases e2:q<j
  ·rw [if_pos e2,if_pos aC]
  ·rw [if_neg e2,if_neg aC]
theorem iM{L r L2:List Bool}{m j:Nat}(h:Fv L r m L2 j)(hj:j<m):L2.getD j false=L.getD j false:=by rw [h.2 j hj,if_neg (Nat.lt_irrefl _)]
theorem Aw{L r:List Bool}{m:Nat}(h:L.length=m)(hr:r.length=m):(oa L r).length=m:=by unfold oa;rw [List.length_zipWith,h,hr];exact Nat.min_self _
theorem H6{L r:List Bool}{m q:Nat}(h:L.length=m)(hr:r.length=m)(hq:q<m):(oa L r).getD q false=(L.getD q false||r.getD q false):=by
 unfold oa
 simp only [List.getD_eq_getElem?_getD]
 rw [List.getElem?_zipWith,List.getElem?_eq_getElem aC,List.getElem?_eq_getElem aC]
 rfl
theorem zf{L r L2:List Bool}{m j:Nat}(h:Fv L r m L2 j)(hL:L.length=m)(hr:r.length=m)(hj:m≤j):L2=oa L r:=
 wk (h.1.trans (Aw hL hr).symm) fun q hq=>by rw [h.1]at hq;rw [h.2 q hq,if_pos aC,H6 hL hr hq]
theorem sA{l:List Bool}{i:Nat}(h:i<l.length):l.getD i false=l[i]:=by rw [List.getD_eq_getElem?_getD,List.getElem?_eq_getElem h];rfl
def s8(l:List Bool):Nat:=l.countP (fun b=> !b)
theorem np: ∀ {a b:List Bool},a.length=b.length→s8 (oa a b)≤s8 a∧(oa a b≠a→s8 (oa a b)<s8 a)
  |[],[],_=>⟨Nat.le_refl _,fun h=>absurd rfl h⟩
  |x::a,y::b,h=>by
    obtain⟨h1,h2⟩:=np (a:=a) (b:=b) cA
    have e:oa (x::a) (y::b)=(x||y)::oa a b:=rfl
    rw [e]
    unfold s8 at h1 h2⊢
    rw [List.countP_cons,List.countP_cons]
    cases x<;>cases y<;>simp at h2⊢ <;>(first|exact⟨h1,h2⟩|omega)
theorem Fc(l:List Bool):s8 l≤l.length:=List.countP_le_length
def mW:Nat→Nat→List Bool→List HA
  |0,_,_=>[]
  |_+1,b,L=>[.blk b (fV L) 4]
def MRet(fb:Nat)(s:ByteArray)(f:List Bool)(r:List Bool)(u:Value)(M':List HA)(D':List DA):Prop:=
 ∃ob,u= .slice (some ⟨ob,0,none⟩) (s.size+1) (s.size+1)∧M'=[.blk ob (fV r) 4, .blk fb (fV f) 4]∧D'=[]
theorem MRet.of{fb:Nat}{s:ByteArray}{f r r':List Bool}{u:Value}{M':List HA}{D':List DA}(e:r=r')(h:MRet fb s f r' u M' D'):MRet fb s f r u M' D':=e▸h
theorem Qc{t:ByteArray}{k l:Nat}{ng:Bool}{fr to:List UInt8}{ks:List Pc}{f:List Bool}(h:k=1):eB t (.mk k l ng fr to ks) f=qq t ng fr to f:=by rw [eB,if_pos h]
theorem Qd{t:ByteArray}{k l:Nat}{ng:Bool}{fr to:List UInt8}{ks:List Pc}{f:List Bool}(h1: ¬ k=1)(h:k=3):eB t (.mk k l ng fr to ks) f=lO t ks f:=by rw [eB,if_neg h1,if_pos h]
theorem Qe{t:ByteArray}{k l:Nat}{ng:Bool}{fr to:List UInt8}{ks:List Pc}{f:List Bool}(h1: ¬ k=1)(h3: ¬ k=3)(h:k=4):eB t (.mk k l ng fr to ks) f=lP t ks f (dR t):=by rw [eB,if_neg h1,if_neg h3,if_pos h]
theorem Oe{t:ByteArray}{k l:Nat}{ng:Bool}{fr to:List UInt8}{ks:List Pc}{f:List Bool}(h1: ¬ k=1)(h3: ¬ k=3)(h4: ¬ k=4)(h:k=2):eB t (.mk k l ng fr to ks) f=eX (fy t ks) (t.size+2) (km (fy t ks) l f):=by rw [eB,if_neg h1,if_neg h3,if_neg h4,if_pos h]
theorem Qf{t:ByteArray}{k l:Nat}{ng:Bool}{fr to:List UInt8}{ks:List Pc}{f:List Bool}(h1: ¬ k=1)(h3: ¬ k=3)(h4: ¬ k=4)(h2: ¬ k=2):eB t (.mk k l ng fr to ks) f=dR t:=by rw [eB,if_neg h1,if_neg h3,if_neg h4,if_neg h2]
theorem CR{t:ByteArray}{ks:List Pc}{i:Nat}{L:List Bool}(h:i<ks.length):lO t (ks.drop i) L=lO t (ks.drop (i+1)) (eB t ks[i] L):=by rw [List.drop_eq_getElem_cons h,lO]
theorem CS{t:ByteArray}{ks:List Pc}{i:Nat}{f L:List Bool}(h:i<ks.length):lP t (ks.drop i) f L=lP t (ks.drop (i+1)) f (oa L (eB t ks[i] f)):=by rw [List.drop_eq_getElem_cons h,lP]
theorem gO{t:ByteArray}{ks:List Pc}{L:List Bool}(h:0<ks.length):fy t ks L=eB t ks[0] L:=by
  cases ks with
  |nil=>cases h
  |cons p ps=>rw [fy];rfl
theorem Ax{g:List Bool→List Bool}{n:Nat}{L:List Bool}(hn:1≤n)(h:oa L (g L)≠L):eX g n L=eX g (n - 1) (oa L (g L)):=by
 obtain⟨n,rfl⟩: ∃k,n=k+1:=⟨n - 1,aC⟩
 rw [eX,if_neg h]
 rfl
theorem pu{g:List Bool→List Bool}{n:Nat}{L:List Bool}(hn:1≤n)(h:oa L (g L)=L):eX g n L=L:=by
 obtain⟨n,rfl⟩: ∃k,n=k+1:=⟨n - 1,aC⟩
 rw [eX,if_pos h]
theorem Ay{g:List Bool→List Bool}{n:Nat}{L:List Bool}(hn:1≤n):km g n L=km g (n - 1) (g L):=by
 obtain⟨n,rfl⟩: ∃k,n=k+1:=⟨n - 1,aC⟩
 rfl
set_option maxHeartbeats 2000000 in
theorem Of(b q r:Nat)(ng:Bool)(fr to:List UInt8)(ks:List Pc)(hok:fr.length=to.length∧(q=2→ks≠[])∧fg ks∧r≤1)(s:ByteArray)(hs:s.size≤1000)(fb:Nat)(f:List Bool)(hf:f.length=s.size+1)(IH: ∀ y,y∈ks→ ∀ (kb ob:Nat) (L:List Bool),L.length=s.size+1→Ct Tryz.prog 249 #[ptr kb, .string s, .slice (some ⟨ob,0,none⟩) (s.size+1) (s.size+1)] [.blk ob (fV L) 4] [.pc kb y] (MRet ob s L (eB s y L))):Ct Tryz.prog 249 #[ptr b, .string s, .slice (some ⟨fb,0,none⟩) (s.size+1) (s.size+1)] [.blk fb (fV f) 4] [.pc b (.mk q r ng fr to ks)] (MRet fb s f (eB s (.mk q r ng fr to ks) f)):=by
 refine Ct.of_run (args:=[ptr b, .string s, .slice (some ⟨fb,0,none⟩) (s.size+1) (s.size+1)]) Tryz.func249 aF Z Tryz.ntmps249 Z (fun c=>?_)
 refine FN 0 Z (fun A1 c1 A2 c2 A3 c3 hk1 hk2 hk3=>?_)
 have hmx:maxLen≤9223372036854775807:=by decide
 have hr1:=hok.2.2.2
 refine rO 10 Z (tB (M1:=[]) Z Z Z (Ob s hs) Z cQ (fun u21 M21 D21 hv21=>?_))
 obtain⟨b21,rfl,rfl,rfl⟩:=hv21
 refine oO 11 Z (zC Gd Z Z ?_)
 refine zA (zJ 0 lL Z Z Z Z ?_)
 refine oO 5 Z (vE (j:=1) Z Z Z ?_)
 refine oR 3 Z (zI Z (fun h26=>?_) (fun h26=>?_))
 ·refine rK 5 [8,7,0,1,2] Z Z (rK 1 [8,7,0,1,2] Z Z ?_)
  refine yB 1 (fun(⟨i,L⟩:Nat×List Bool)=>i≤s.size∧ze (qq s ng fr to f) (s.size+1) L i) (fun(⟨i,L⟩:Nat×List Bool)=>[(8, .int .i64 ((i:Nat):Int))]) (fun(⟨i,L⟩:Nat×List Bool)=>HA.blk b21 (fV L) 4::HA.blk fb (fV f) 4::[]) (fun(⟨i,L⟩:Nat×List Bool)=> .dblk b [.int .i64 (q:Int), .int .i64 (r:Int), .bool false, .bool ng, .slice A1 fr.length c1, .slice A2 to.length c2, .slice A3 ks.length c3] 279:: .bys (.slice A1 fr.length c1) fr:: .bys (.slice A2 to.length c2) to:: .pks (.slice A3 ks.length c3) ks:: .pc b (.mk q r ng fr to ks)::[]) (fun(⟨i,L⟩:Nat×List Bool)=>s.size - i) (0,dR s) (⟨Nat.zero_le _,Od s ng fr to f⟩) (eC Z (eN _)) Z Z ?_ (eC Z (eC Z (eC Z (eC Z (eN _)))))
  intro ⟨i,L⟩ hI K hK
  change Run _ _ _ _ _ [(8,_),(7,_),(0,_),(1,_),(2,_)] [_,_] [_,_,_,_,_]
  obtain⟨hi,hch⟩:=hI
  refine rO 8 Z (xF eL Z Z ?_)
  refine zA (yL Z Z Z ?_)
  refine yO (zI Z (fun h31=>?_) (fun h31=>?_))
  ·refine rO 10 Z (vZ dc Z Z Z aC ?_)
   refine zA (wR 1 lX Z Z Z (v:= .bool (f[i]'(show i<f.length by omega))) (fU (show i<f.length by omega)) ?_)
   refine oS 2 Z (zY (s:=38) Z (fun h38=>?_) (fun h38=>?_))
   ·refine oO 7 Z (vT eL Z Z Z h31 ?_)
    refine zH Z Z (zL Z Z Z (Qb b q r ng fr to ks s[i] hok.1) (cO 4 Z) ?_)
    refine oK 3 [44,8,7,0,1,2] Z Z (yC Z (fun h44=>?_) (fun h44=>?_))
    ·refine rO 6 Z (zN Z Z aC ?_)
     refine zA (vZ dc Z Z Z aC ?_)
     refine zA (uL 0 Z Z Z Z Z mH (by have:=hch.1;simp;omega) ?_)
     rw [ii]
     refine oO 6 Z (zN Z Z aC ?_)
     refine oR 3 Z ?_
     exact kQ (hK (i+1,L.set (i+1) true) (⟨by show i+1≤_;omega,Oc hch aC ((nl h31 aC).trans (by rw [h38,h44];rfl))⟩) bC) (eC Z (eC Z (eC Z (eC Z (eC Z (eN _)))))) (hD:=(fun d hd=>by first|exact hd|(repeat (first|exact hd|apply List.mem_cons_of_mem))))
    refine rO 6 Z (zN Z Z aC ?_)
    refine oR 3 Z ?_
    exact kQ (hK (i+1,L) (⟨by show i+1≤_;omega,JP hch ((nl h31 aC).trans (by rw [show fD ng fr to s[i]=false by simpa using h44];simp))⟩) bC) (eC Z (eC Z (eC Z (eC Z (eC Z (eN _)))))) (hD:=(fun d hd=>by first|exact hd|(repeat (first|exact hd|apply List.mem_cons_of_mem))))
   refine oK 8 [44,8,7,0,1,2] Z Z (rO 7 Z ?_)
   refine zN Z Z aC (oR 3 Z ?_)
   exact kQ (hK (i+1,L) (⟨by show i+1≤_;omega,JP hch ((nl h31 aC).trans (by rw [h38];rfl))⟩) bC) (eC Z (eC Z (eC Z (eC Z (eC Z (eN _)))))) (hD:=(fun d hd=>by first|exact hd|(repeat (first|exact hd|apply List.mem_cons_of_mem))))
  refine rK 9 [6] Z Z ?_
  refine yD (M':=[HA.blk _ _ 4,HA.blk fb (fV f) 4]) (by repeat (first|exact zQ _|refine zB 0 Z ?_|refine zB 1 Z ?_|refine zB 2 Z ?_|refine zB 3 Z ?_|refine zB 4 Z ?_|refine zB 5 Z ?_|refine zB 6 Z ?_|refine zB 7 Z ?_|refine zB 8 Z ?_)) ?_
  exact zD Tryz.results249 Z (MRet.of ((Qc h26).trans (H5 hch (Fb _ _ _ _ _) aC).symm) ⟨_,rfl,rfl,rfl⟩) (List.Sublist.refl _) (fun _ h=>by cases h)
 refine rO 3 Z (vE (j:=3) Z Z Z ?_)
 refine oK 3 [49,25,7,0,1,2] Z Z (zI Z (fun h49=>?_) (fun h49=>?_))
 ·refine rO 7 Z (ni 0 1 dc Z Z Z Z Z bD (by rw [List.length_map];exact hf) (zd _) ?_)
  refine oO 8 Z (zC tX Z Z ?_)
  refine zA (zJ 0 iJ Z Z Z Z ?_)
  refine zA (zX eF Z Z ?_)
  refine oK 3 [59,58,57,7,1] Z Z (rK 1 [59,7,58,57,1] Z Z ?_)
  refine yB 2 (fun(⟨i,L,ob⟩:Nat×List Bool×Nat)=>i≤ks.length∧L.length=(s.size+1)∧lO s ks f=lO s (ks.drop i) L) (fun(⟨i,L,ob⟩:Nat×List Bool×Nat)=>[(59, .int .i64 ((i:Nat):Int)),(7, .slice (some ⟨ob,0,none⟩) (s.size+1) (s.size+1))]) (fun(⟨i,L,ob⟩:Nat×List Bool×Nat)=>HA.blk ob (fV L) 4::HA.blk fb (fV f) 4::[]) (fun(⟨i,L,ob⟩:Nat×List Bool×Nat)=> .dblk b [.int .i64 (q:Int), .int .i64 (r:Int), .bool false, .bool ng, .slice A1 fr.length c1, .slice A2 to.length c2, .slice A3 ks.length c3] 279:: .bys (.slice A1 fr.length c1) fr:: .bys (.slice A2 to.length c2) to:: .pks (.slice A3 ks.length c3) ks:: .pc b (.mk q r ng fr to ks)::[]) (fun(⟨i,L,ob⟩:Nat×List Bool×Nat)=>ks.length - i) (0,f,b21) (⟨Nat.zero_le _,hf,rfl⟩) (eC Z (eC Z (eN _))) Z Z ?_ (eC Z (eC Z (eC Z (eN _))))
  intro ⟨i,L,ob⟩ hI K hK1
  change Run _ _ _ _ _ [(59,_),(7,_),(58,_),(57,_),(1,_)] [_,_] [_,_,_,_,_]
  obtain⟨hi,hl,he⟩:=hI
  refine rO 3 Z (yL Z Z Z ?_)
  refine oR 2 Z (zI Z (fun h60=>?_) (fun h60=>?_))
  ·refine rO 6 Z (qA 3 eF Z Z Z Z (h60) ?_)
   refine pV 3 i Z (List.getElem?_eq_getElem (h60)) (fun kb=>?_)
   refine zA (yR ow Z Z (fun _ h=>wX h (j:=0) Z) ?_)
   refine oO 11 Z (yG 0 Z Z Z (IH (ks[i]) (List.getElem_mem h60) kb ob L (hl)) Z (cO 1 Z) (fun u66 M66 D66 hv66=>?_))
   obtain⟨b66,rfl,rfl,rfl⟩:=hv66
   refine oO 6 Z (zN Z Z aC ?_)
   refine oK 3 [59,7,58,57,1] Z Z ?_
   exact kQ (hK1 (i+1,eB s ks[i] L,b66) (⟨by show i+1≤_;omega,tZ s _ L hl,he.trans (CR h60)⟩) (by show ks.length - (i+1)<ks.length - i;omega)) (eC Z (eC Z (eC Z (eC Z (eC Z (eN _))))))
  refine rR 9 Z ?_
  refine yD (M':=[HA.blk _ _ 4,HA.blk fb (fV f) 4]) (by repeat (first|exact zQ _|refine zB 0 Z ?_|refine zB 1 Z ?_|refine zB 2 Z ?_|refine zB 3 Z ?_|refine zB 4 Z ?_|refine zB 5 Z ?_|refine zB 6 Z ?_|refine zB 7 Z ?_|refine zB 8 Z ?_)) ?_
  exact zD Tryz.results249 Z (MRet.of ((Qd h26 h49).trans (by rw [he,List.drop_of_length_le aC,lO])) ⟨_,rfl,rfl,rfl⟩) (List.Sublist.refl _) (fun _ h=>by cases h)
 refine rO 3 Z (vE (j:=4) Z Z Z ?_)
 refine oR 3 Z (zI Z (fun h68=>?_) (fun h68=>?_))
 ·refine rO 7 Z (zC tX Z Z ?_)
  refine zA (zJ 0 iJ Z Z Z Z ?_)
  refine zA (zX eF Z Z ?_)
  refine oK 4 [75,74,73,7,1,2] Z Z ?_
  refine yB 1 (fun(⟨i,L⟩:Nat×List Bool)=>i≤ks.length∧L.length=(s.size+1)∧lP s ks f (dR s)=lP s (ks.drop i) f L) (fun(⟨i,L⟩:Nat×List Bool)=>[(75, .int .i64 ((i:Nat):Int))]) (fun(⟨i,L⟩:Nat×List Bool)=>HA.blk b21 (fV L) 4::HA.blk fb (fV f) 4::[]) (fun(⟨i,L⟩:Nat×List Bool)=> .dblk b [.int .i64 (q:Int), .int .i64 (r:Int), .bool false, .bool ng, .slice A1 fr.length c1, .slice A2 to.length c2, .slice A3 ks.length c3] 279:: .bys (.slice A1 fr.length c1) fr:: .bys (.slice A2 to.length c2) to:: .pks (.slice A3 ks.length c3) ks:: .pc b (.mk q r ng fr to ks)::[]) (fun(⟨i,L⟩:Nat×List Bool)=>ks.length - i) (0,dR s) (⟨Nat.zero_le _,(by show(dR s).length=_;unfold dR;simp),rfl⟩) (eC Z (eN _)) Z Z ?_ (eC Z (eC Z (eC Z (eC Z (eC Z (eN _))))))
  intro ⟨i,L⟩ hI K hK2
  change Run _ _ _ _ _ [(75,_),(74,_),(73,_),(7,_),(1,_),(2,_)] [_,_] [_,_,_,_,_]
  obtain⟨hi,hl,he⟩:=hI
  refine rO 3 Z (yL Z Z Z ?_)
  refine oR 2 Z (zI Z (fun h76=>?_) (fun h76=>?_))
  ·refine rO 6 Z (qA 3 eF Z Z Z Z (h76) ?_)
   refine pV 3 i Z (List.getElem?_eq_getElem (h76)) (fun kb=>?_)
   refine zA (yR ow Z Z (fun _ h=>wX h (j:=0) Z) ?_)
   refine oO 12 Z (yG 1 Z Z Z (IH (ks[i]) (List.getElem_mem h76) kb fb f (hf)) Z (cO 1 Z) (fun u82 M82 D82 hv82=>?_))
   obtain⟨b82,rfl,rfl,rfl⟩:=hv82
   refine zA (zX dc Z Z ?_)
   refine oK 3 [84,83,82,75,74,73,7,1,2] Z Z (rK 1 [84,83,82,75,74,73,7,1,2] Z Z ?_)
   have hrl:(eB s (ks[i]'h76) f).length=(s.size+1):=tZ s _ f hf
   refine yB 1 (fun(⟨j,L2⟩:Nat×List Bool)=>j≤(s.size+1)∧Fv L (eB s (ks[i]'h76) f) (s.size+1) L2 j) (fun(⟨j,L2⟩:Nat×List Bool)=>[(84, .int .i64 ((j:Nat):Int))]) (fun(⟨j,L2⟩:Nat×List Bool)=>HA.blk b82 (fV (eB s (ks[i]'h76) f)) 4::HA.blk fb (fV f) 4::HA.blk b21 (fV L2) 4::[]) (fun(⟨j,L2⟩:Nat×List Bool)=> .cell A3 i (.pointer (some ⟨kb,0,none⟩)):: .pc kb (ks[i]'h76):: .dblk b [.int .i64 (q:Int), .int .i64 (r:Int), .bool false, .bool ng, .slice A1 fr.length c1, .slice A2 to.length c2, .slice A3 ks.length c3] 279:: .bys (.slice A1 fr.length c1) fr:: .bys (.slice A2 to.length c2) to:: .pks (.slice A3 ks.length c3) ks:: .pc b (.mk q r ng fr to ks)::[]) (fun(⟨j,L2⟩:Nat×List Bool)=>(s.size+1) - j) (0,L) (⟨Nat.zero_le _,LZ hl⟩) (eC Z (eN _)) Z Z ?_ (eC Z (eC Z (eC Z (eC Z (eC Z (eC Z (eC Z (eC Z (eN _)))))))))
   intro ⟨j,L2⟩ hI K hK3
   change Run _ _ _ _ _ [(84,_),(83,_),(82,_),(75,_),(74,_),(73,_),(7,_),(1,_),(2,_)] [_,_,_] [_,_,_,_,_,_,_]
   obtain⟨hj,hor⟩:=hI
   have hl2:=hor.1
   refine rO 3 Z (yL Z Z Z ?_)
   refine oR 2 Z (zI Z (fun h85=>?_) (fun h85=>?_))
   ·refine rO 8 Z (vZ dc Z Z Z aC ?_)
    refine zA (wR 0 lX Z Z Z (v:= .bool ((eB s ks[i] f)[j]'(show j<(eB s ks[i] f).length by omega))) (fU (show j<(eB s ks[i] f).length by omega)) ?_)
    refine oK 5 [14,13,84,83,82,75,74,73,7,1,2] Z Z (rO 10 Z ?_)
    refine vZ dc Z Z Z aC (zA ?_)
    refine wR 2 lX Z Z Z (v:= .bool (L2[j]'(show j<L2.length by have:=hor.1;omega))) (fU (show j<L2.length by have:=hor.1;omega)) (oS 2 Z ?_)
    refine zY (s:=95) Z (fun h95=>?_) (fun h95=>?_)
    ·refine oO 4 Z (vZ dc Z Z Z aC ?_)
     refine zA (uL 2 Z Z Z Z Z mH bN ?_)
     rw [ii]
     refine oK 1 [84,83,82,75,74,73,7,1,2] Z Z (rO 3 Z ?_)
     refine zN Z Z aC (oR 3 Z ?_)
     exact kQ (hK3 (j+1,L2.set j true) (⟨by show j+1≤_;omega,sw hor aC (by rw [←iM hor aC,sA aC,h95];rfl)⟩) ax) (eC Z (eC Z (eC Z (eC Z (eC Z (eC Z (eC Z (eC Z (eC Z (eN _))))))))))
    refine oO 5 Z (vZ dc Z Z Z aC ?_)
    refine zA (uL 2 Z Z Z Z Z mH bN ?_)
    rw [ii]
    refine oK 1 [84,83,82,75,74,73,7,1,2] Z Z (rO 3 Z ?_)
    refine zN Z Z aC (oR 3 Z ?_)
    exact kQ (hK3 (j+1,L2.set j ((eB s (ks[i]'h76) f)[j]'aC)) (⟨by show j+1≤_;omega,sw hor aC (by rw [←iM hor aC,sA (show j<L2.length by omega),h95,sA aC];rfl)⟩) ax) (eC Z (eC Z (eC Z (eC Z (eC Z (eC Z (eC Z (eC Z (eC Z (eN _))))))))))
   refine rO 4 Z (zN Z Z aC ?_)
   refine oR 3 Z ?_
   obtain rfl:=zf hor hl hrl aC
   exact kQ (hK2 (i+1,oa L (eB s ks[i] f)) (⟨by show i+1≤_;omega,Aw hl hrl,he.trans (CS h76)⟩) (by show ks.length - (i+1)<ks.length - i;omega)) (eC Z (eC Z (eC Z (eC Z (eC Z (eC Z (eN _)))))))
  refine rR 9 Z ?_
  refine yD (M':=[HA.blk _ _ 4,HA.blk fb (fV f) 4]) (by repeat (first|exact zQ _|refine zB 0 Z ?_|refine zB 1 Z ?_|refine zB 2 Z ?_|refine zB 3 Z ?_|refine zB 4 Z ?_|refine zB 5 Z ?_|refine zB 6 Z ?_|refine zB 7 Z ?_|refine zB 8 Z ?_)) ?_
  exact zD Tryz.results249 Z (MRet.of ((Qe h26 h49 h68).trans (by rw [he,List.drop_of_length_le aC,lP])) ⟨_,rfl,rfl,rfl⟩) (List.Sublist.refl _) (fun _ h=>by cases h)
 refine rO 3 Z (vE (j:=2) Z Z Z ?_)
 refine oR 3 Z (zI Z (fun h101=>?_) (fun h101=>?_))
 ·refine rK 14 [16,15,7,0,1] Z Z ?_
  have hk0:0<ks.length:=List.length_pos_iff.2 (hok.2.1 h101)
  refine yB 2 (fun(⟨i,nb,L⟩:Nat×Nat×List Bool)=>i≤r∧L.length=(s.size+1)∧(i=0→nb=fb∧L=f)∧km (fy s ks) r f=km (fy s ks) (r - i) L) (fun(⟨i,nb,L⟩:Nat×Nat×List Bool)=>[(16, .int .i64 ((i:Nat):Int)),(15, .slice (some ⟨nb,0,none⟩) (s.size+1) (s.size+1))]) (fun(⟨i,nb,L⟩:Nat×Nat×List Bool)=>mW i nb L++(HA.blk b21 (fV (dR s)) 4::HA.blk fb (fV f) 4::[])) (fun(⟨i,nb,L⟩:Nat×Nat×List Bool)=> .dblk b [.int .i64 (q:Int), .int .i64 (r:Int), .bool false, .bool ng, .slice A1 fr.length c1, .slice A2 to.length c2, .slice A3 ks.length c3] 279:: .bys (.slice A1 fr.length c1) fr:: .bys (.slice A2 to.length c2) to:: .pks (.slice A3 ks.length c3) ks:: .pc b (.mk q r ng fr to ks)::[]) (fun(⟨i,nb,L⟩:Nat×Nat×List Bool)=>r - i) (0,fb,f) (⟨Nat.zero_le _,hf,fun _=>⟨rfl,rfl⟩,rfl⟩) (eC Z (eC Z (eN _))) Z Z ?_ (eC Z (eC Z (eC Z (eN _))))
  intro ⟨i,nb,L⟩ hI K hK4
  change Run _ _ _ _ _ [(16,_),(15,_),(7,_),(0,_),(1,_)] (mW i nb L++(HA.blk b21 (fV (dR s)) 4::HA.blk fb (fV f) 4::[])) [_,_,_,_,_]
  obtain⟨hi,hl,hi0,he⟩:=hI
  refine rO 10 Z (zC Ge Z Z ?_)
  refine zA (zJ 0 lL Z Z Z Z ?_)
  refine zA (yL Z Z Z ?_)
  refine yO (zI Z (fun h109=>?_) (fun h109=>?_))
  ·rcases i with _|i
   ·obtain⟨rfl,rfl⟩:=hi0 rfl
    change Run _ _ _ _ _ _ (HA.blk b21 (fV (dR s)) 4::HA.blk nb (fV L) 4::[]) _
    refine rO 9 Z (zC tX Z Z ?_)
    refine zA (zJ 0 iJ Z Z Z Z ?_)
    refine zA (qA 3 eF Z Z Z Z (hk0) ?_)
    refine pV 3 0 Z (List.getElem?_eq_getElem (hk0)) (fun kb=>?_)
    refine zA (yR ow Z Z (fun _ h=>wX h (j:=0) Z) ?_)
    refine oO 5 Z (yG 1 Z Z Z (IH (ks[0]'hk0) (List.getElem_mem hk0) kb nb L hl) Z (cO 1 Z) (fun u120 M120 D120 hv120=>?_))
    obtain⟨b120,rfl,rfl,rfl⟩:=hv120
    refine oK 3 [15,16,7,0,1] Z Z (rO 5 Z ?_)
    refine zN Z Z aC (oR 3 Z ?_)
    exact kQ (hK4 (0+1,b120,eB s (ks[0]'hk0) L) (⟨by show _+1≤r;omega,tZ s _ _ hl,(fun e=>by cases e),he.trans ((Ay aC).trans (by rw [gO hk0];rfl))⟩) (by show r - (_+1)<r - _;omega)) (eC Z (eC Z (eC Z (eC Z (eC Z (eN _))))))
   change Run _ _ _ _ _ _ (HA.blk nb (fV L) 4::HA.blk b21 (fV (dR s)) 4::HA.blk fb (fV f) 4::[]) _
   refine rO 9 Z (zC tX Z Z ?_)
   refine zA (zJ 0 iJ Z Z Z Z ?_)
   refine zA (qA 3 eF Z Z Z Z (hk0) ?_)
   refine pV 3 0 Z (List.getElem?_eq_getElem (hk0)) (fun kb=>?_)
   refine zA (yR ow Z Z (fun _ h=>wX h (j:=0) Z) ?_)
   refine oO 5 Z (yG 0 Z Z Z (IH (ks[0]'hk0) (List.getElem_mem hk0) kb nb L hl) Z (cO 1 Z) (fun u120 M120 D120 hv120=>?_))
   obtain⟨b120,rfl,rfl,rfl⟩:=hv120
   refine oK 3 [15,16,7,0,1] Z Z (rO 5 Z ?_)
   refine zN Z Z aC (oR 3 Z ?_)
   exact kQ (hK4 (i+1+1,b120,eB s (ks[0]'hk0) L) (⟨by show _+1≤r;omega,tZ s _ _ hl,(fun e=>by cases e),he.trans ((Ay aC).trans (by rw [gO hk0];rfl))⟩) (by show r - (_+1)<r - _;omega)) (eC Z (eC Z (eC Z (eC Z (eC Z (eN _))))))
  rcases i with _|i
  ·obtain⟨rfl,rfl⟩:=hi0 rfl
   change Run _ _ _ _ _ _ (HA.blk b21 (fV (dR s)) 4::HA.blk nb (fV L) 4::[]) _
   refine rO 8 Z (ni 0 1 dc Z Z Z Z Z bD bH (zd _) ?_)
   refine oK 1 [7,0,1] Z Z (rK 6 [17,7,0,1] Z Z ?_)
   refine yB 1 (fun(⟨chg,L3,n⟩:Bool×List Bool×Nat)=>L3.length=(s.size+1)∧(chg=true→eX (fy s ks) (s.size+2) L=eX (fy s ks) n L3∧s8 L3<n)∧(chg=false→eX (fy s ks) (s.size+2) L=L3)) (fun(⟨chg,L3,n⟩:Bool×List Bool×Nat)=>[(17, .bool chg)]) (fun(⟨chg,L3,n⟩:Bool×List Bool×Nat)=>HA.blk b21 (fV L3) 4::HA.blk nb (fV L) 4::[]) (fun(⟨chg,L3,n⟩:Bool×List Bool×Nat)=> .dblk b [.int .i64 (q:Int), .int .i64 (r:Int), .bool false, .bool ng, .slice A1 fr.length c1, .slice A2 to.length c2, .slice A3 ks.length c3] 279:: .bys (.slice A1 fr.length c1) fr:: .bys (.slice A2 to.length c2) to:: .pks (.slice A3 ks.length c3) ks:: .pc b (.mk q r ng fr to ks)::[]) (fun(⟨chg,L3,n⟩:Bool×List Bool×Nat)=>if chg=true then s8 L3+1 else 0) (true,L,s.size+2) (⟨hl,fun _=>⟨rfl,by have:=Fc L;show s8 L<s.size+2;omega⟩,fun e=>by cases e⟩) (eC Z (eN _)) Z Z ?_ (eC Z (eC Z (eC Z (eN _))))
   intro ⟨chg,L3,n⟩ hI K hK5
   change Run _ _ _ _ _ [(17,_),(7,_),(0,_),(1,_)] [_,_] [_,_,_,_,_]
   obtain⟨hl3,hst1,hst2⟩:=hI
   refine rR 6 Z (yC Z (fun h124=>?_) (fun h124=>?_))
   ·obtain rfl:chg=true:=h124
    refine rO 14 Z (zC tX Z Z ?_)
    refine zA (zJ 0 iJ Z Z Z Z ?_)
    refine zA (qA 3 eF Z Z Z Z (hk0) ?_)
    refine pV 3 0 Z (List.getElem?_eq_getElem (hk0)) (fun kb=>?_)
    refine zA (yR ow Z Z (fun _ h=>wX h (j:=0) Z) ?_)
    refine oO 5 Z (yG 0 Z Z Z (IH (ks[0]'hk0) (List.getElem_mem hk0) kb b21 L3 (hl3)) Z (cO 1 Z) (fun u133 M133 D133 hv133=>?_))
    obtain⟨b133,rfl,rfl,rfl⟩:=hv133
    refine zA (zX dc Z Z ?_)
    refine oK 3 [135,134,133,17,7,0,1] Z Z (rK 1 [135,17,134,133,7,0,1] Z Z ?_)
    have hrl3:(eB s (ks[0]'hk0) L3).length=(s.size+1):=tZ s _ L3 hl3
    refine yB 2 (fun(⟨j,cg,L2⟩:Nat×Bool×List Bool)=>j≤(s.size+1)∧Fv L3 (eB s (ks[0]'hk0) L3) (s.size+1) L2 j∧((cg=true→L2≠L3)∧(L2≠L3→cg=true))) (fun(⟨j,cg,L2⟩:Nat×Bool×List Bool)=>[(135, .int .i64 ((j:Nat):Int)),(17, .bool cg)]) (fun(⟨j,cg,L2⟩:Nat×Bool×List Bool)=>HA.blk b133 (fV (eB s (ks[0]'hk0) L3)) 4::HA.blk b21 (fV L2) 4::HA.blk nb (fV L) 4::[]) (fun(⟨j,cg,L2⟩:Nat×Bool×List Bool)=> .cell A3 0 (.pointer (some ⟨kb,0,none⟩)):: .pc kb (ks[0]'hk0):: .dblk b [.int .i64 (q:Int), .int .i64 (r:Int), .bool false, .bool ng, .slice A1 fr.length c1, .slice A2 to.length c2, .slice A3 ks.length c3] 279:: .bys (.slice A1 fr.length c1) fr:: .bys (.slice A2 to.length c2) to:: .pks (.slice A3 ks.length c3) ks:: .pc b (.mk q r ng fr to ks)::[]) (fun(⟨j,cg,L2⟩:Nat×Bool×List Bool)=>(s.size+1) - j) (0,false,L3) (⟨Nat.zero_le _,LZ hl3,(fun e=>by cases e),fun e=>absurd Z e⟩) (eC Z (eC Z (eN _))) Z Z ?_ (eC Z (eC Z (eC Z (eC Z (eC Z (eN _))))))
    intro ⟨j,cg,L2⟩ hI K hK6
    change Run _ _ _ _ _ [(135,_),(17,_),(134,_),(133,_),(7,_),(0,_),(1,_)] [_,_,_] [_,_,_,_,_,_,_]
    obtain⟨hj,hor,hcc⟩:=hI
    have hl2:=hor.1
    refine rO 3 Z (yL Z Z Z ?_)
    refine oR 2 Z (zI Z (fun h136=>?_) (fun h136=>?_))
    ·refine rO 8 Z (vZ dc Z Z Z aC ?_)
     refine zA (wR 0 lX Z Z Z (v:= .bool ((eB s (ks[0]'hk0) L3)[j]'(show j<(eB s (ks[0]'hk0) L3).length by omega))) (fU (show j<(eB s (ks[0]'hk0) L3).length by omega)) ?_)
     refine oS 11 Z (zY (s:=141) Z (fun h141=>?_) (fun h141=>?_))
     ·refine oO 5 Z (vZ dc Z Z Z aC ?_)
      refine zH Z Z (wR 1 lX Z Z Z (v:= .bool (L2[j]'(show j<L2.length by have:=hor.1;omega))) (fU (show j<L2.length by have:=hor.1;omega)) ?_)
      refine oK 5 [147,18,135,17,134,133,7,0,1] Z Z (yC Z (fun h147=>?_) (fun h147=>?_))
      ·refine rO 6 Z (vZ dc Z Z Z aC ?_)
       refine zA (uL 1 Z Z Z Z Z mH bN ?_)
       rw [ii]
       refine oO 6 Z (zN Z Z aC ?_)
       refine oR 3 Z ?_
       exact kQ (hK6 (j+1,true,L2.set j true) (⟨by show j+1≤_;omega,sw hor aC (by rw [sA (l:=eB s (ks[0]'hk0) L3) aC,h141,Bool.or_true]),fun _ e=>(by have h9:=iM hor (show j<s.size+1 by omega);have h8:(L2.set j true).getD j false=true:=(by rw [List.getD_eq_getElem?_getD,List.getElem?_set_self aC];rfl);rw [e,←h9,sA (show j<L2.length by omega)]at h8;rw [h8]at h147;cases h147),fun _=>rfl⟩) ax) (eC Z (eC Z (eC Z (eC Z (eC Z (eC Z (eC Z (eN _))))))))
      refine rO 4 Z (zN Z Z aC ?_)
      refine oR 3 Z ?_
      exact kQ (hK6 (j+1,cg,L2) (⟨by show j+1≤_;omega,l5 hor (by rw [iM hor aC];rw [←iM hor (show j<s.size+1 by omega),sA (show j<L2.length by omega),show L2[j]=true by simpa using h147];rfl),hcc⟩) ax) (eC Z (eC Z (eC Z (eC Z (eC Z (eC Z (eC Z (eN _))))))))
     refine oK 8 [147,18,135,17,134,133,7,0,1] Z Z (rO 5 Z ?_)
     refine zN Z Z aC (oR 3 Z ?_)
     exact kQ (hK6 (j+1,cg,L2) (⟨by show j+1≤_;omega,l5 hor (by rw [iM hor aC];rw [sA (l:=eB s (ks[0]'hk0) L3) aC,h141,Bool.or_false]),hcc⟩) ax) (eC Z (eC Z (eC Z (eC Z (eC Z (eC Z (eC Z (eN _))))))))
    refine rR 2 Z ?_
    have hor2:=zf hor hl3 hrl3 aC
    have hc2:(cg=true→L2≠L3)∧(L2≠L3→cg=true):=hcc
    exact kQ (hK5 (cg,L2,n - 1) (⟨hor.1,fun e=>⟨by have h1:=hst1 rfl;rw [h1.1,hor2,Ax aC (by rw [gO hk0,←hor2];exact hc2.1 e),gO hk0],by have h1:=hst1 rfl;have:=(np (a:=L3) (b:=eB s (ks[0]'hk0) L3) aC).2 (by rw [←hor2];exact hc2.1 e);rw [←hor2]at this;show s8 L2<n - 1;omega⟩,fun e=>by have h1:=hst1 rfl;have e2:L2=L3:=Classical.byContradiction fun hn=>(by rw [hc2.2 hn]at e;cases e);show _=L2;rw [h1.1,pu aC (by rw [gO hk0,←hor2];exact e2),e2]⟩) (by show(if cg=true then s8 L2+1 else 0)<(if true=true then s8 L3+1 else 0);split<;>simp;have:=(np (a:=L3) (b:=eB s (ks[0]'hk0) L3) aC).2 (by rw [←hor2];exact hc2.1 ‹_›);rw [←hor2]at this;omega)) (eC Z (eC Z (eC Z (eC Z (eN _)))))
   refine rR 9 Z ?_
   refine yD (M':=[HA.blk _ _ 4,HA.blk nb (fV L) 4]) (by repeat (first|exact zQ _|refine zB 0 Z ?_|refine zB 1 Z ?_|refine zB 2 Z ?_|refine zB 3 Z ?_|refine zB 4 Z ?_|refine zB 5 Z ?_|refine zB 6 Z ?_|refine zB 7 Z ?_|refine zB 8 Z ?_)) ?_
   exact zD Tryz.results249 Z (MRet.of ((Oe h26 h49 h68 h101).trans (by obtain rfl:chg=false:=(by simpa using h124);rw [he,show r - 0=0 by omega];exact hst2 Z)) ⟨_,rfl,rfl,rfl⟩) (List.Sublist.refl _) (fun _ h=>by cases h)
  change Run _ _ _ _ _ _ (HA.blk nb (fV L) 4::HA.blk b21 (fV (dR s)) 4::HA.blk fb (fV f) 4::[]) _
  refine rO 8 Z (ni 1 0 dc Z Z Z Z Z bD bH (zd _) ?_)
  refine oK 1 [7,0,1] Z Z (rK 6 [17,7,0,1] Z Z ?_)
  refine yB 1 (fun(⟨chg,L3,n⟩:Bool×List Bool×Nat)=>L3.length=(s.size+1)∧(chg=true→eX (fy s ks) (s.size+2) L=eX (fy s ks) n L3∧s8 L3<n)∧(chg=false→eX (fy s ks) (s.size+2) L=L3)) (fun(⟨chg,L3,n⟩:Bool×List Bool×Nat)=>[(17, .bool chg)]) (fun(⟨chg,L3,n⟩:Bool×List Bool×Nat)=>HA.blk nb (fV L) 4::HA.blk b21 (fV L3) 4::HA.blk fb (fV f) 4::[]) (fun(⟨chg,L3,n⟩:Bool×List Bool×Nat)=> .dblk b [.int .i64 (q:Int), .int .i64 (r:Int), .bool false, .bool ng, .slice A1 fr.length c1, .slice A2 to.length c2, .slice A3 ks.length c3] 279:: .bys (.slice A1 fr.length c1) fr:: .bys (.slice A2 to.length c2) to:: .pks (.slice A3 ks.length c3) ks:: .pc b (.mk q r ng fr to ks)::[]) (fun(⟨chg,L3,n⟩:Bool×List Bool×Nat)=>if chg=true then s8 L3+1 else 0) (true,L,s.size+2) (⟨hl,fun _=>⟨rfl,by have:=Fc L;show s8 L<s.size+2;omega⟩,fun e=>by cases e⟩) (eC Z (eN _)) Z Z ?_ (eC Z (eC Z (eC Z (eN _))))
  intro ⟨chg,L3,n⟩ hI K hK7
  change Run _ _ _ _ _ [(17,_),(7,_),(0,_),(1,_)] [_,_,_] [_,_,_,_,_]
  obtain⟨hl3,hst1,hst2⟩:=hI
  refine rR 6 Z (yC Z (fun h124=>?_) (fun h124=>?_))
  ·obtain rfl:chg=true:=h124
   refine rO 14 Z (zC tX Z Z ?_)
   refine zA (zJ 0 iJ Z Z Z Z ?_)
   refine zA (qA 3 eF Z Z Z Z (hk0) ?_)
   refine pV 3 0 Z (List.getElem?_eq_getElem (hk0)) (fun kb=>?_)
   refine zA (yR ow Z Z (fun _ h=>wX h (j:=0) Z) ?_)
   refine oO 5 Z (yG 1 Z Z Z (IH (ks[0]'hk0) (List.getElem_mem hk0) kb b21 L3 (hl3)) Z (cO 1 Z) (fun u133 M133 D133 hv133=>?_))
   obtain⟨b133,rfl,rfl,rfl⟩:=hv133
   refine zA (zX dc Z Z ?_)
   refine oK 3 [135,134,133,17,7,0,1] Z Z (rK 1 [135,17,134,133,7,0,1] Z Z ?_)
   have hrl3:(eB s (ks[0]'hk0) L3).length=(s.size+1):=tZ s _ L3 hl3
   refine yB 2 (fun(⟨j,cg,L2⟩:Nat×Bool×List Bool)=>j≤(s.size+1)∧Fv L3 (eB s (ks[0]'hk0) L3) (s.size+1) L2 j∧((cg=true→L2≠L3)∧(L2≠L3→cg=true))) (fun(⟨j,cg,L2⟩:Nat×Bool×List Bool)=>[(135, .int .i64 ((j:Nat):Int)),(17, .bool cg)]) (fun(⟨j,cg,L2⟩:Nat×Bool×List Bool)=>HA.blk b133 (fV (eB s (ks[0]'hk0) L3)) 4::HA.blk b21 (fV L2) 4::HA.blk nb (fV L) 4::HA.blk fb (fV f) 4::[]) (fun(⟨j,cg,L2⟩:Nat×Bool×List Bool)=> .cell A3 0 (.pointer (some ⟨kb,0,none⟩)):: .pc kb (ks[0]'hk0):: .dblk b [.int .i64 (q:Int), .int .i64 (r:Int), .bool false, .bool ng, .slice A1 fr.length c1, .slice A2 to.length c2, .slice A3 ks.length c3] 279:: .bys (.slice A1 fr.length c1) fr:: .bys (.slice A2 to.length c2) to:: .pks (.slice A3 ks.length c3) ks:: .pc b (.mk q r ng fr to ks)::[]) (fun(⟨j,cg,L2⟩:Nat×Bool×List Bool)=>(s.size+1) - j) (0,false,L3) (⟨Nat.zero_le _,LZ hl3,(fun e=>by cases e),fun e=>absurd Z e⟩) (eC Z (eC Z (eN _))) Z Z ?_ (eC Z (eC Z (eC Z (eC Z (eC Z (eN _))))))
   intro ⟨j,cg,L2⟩ hI K hK8
   change Run _ _ _ _ _ [(135,_),(17,_),(134,_),(133,_),(7,_),(0,_),(1,_)] [_,_,_,_] [_,_,_,_,_,_,_]
   obtain⟨hj,hor,hcc⟩:=hI
   have hl2:=hor.1
   refine rO 3 Z (yL Z Z Z ?_)
   refine oR 2 Z (zI Z (fun h136=>?_) (fun h136=>?_))
   ·refine rO 8 Z (vZ dc Z Z Z aC ?_)
    refine zA (wR 0 lX Z Z Z (v:= .bool ((eB s (ks[0]'hk0) L3)[j]'(show j<(eB s (ks[0]'hk0) L3).length by omega))) (fU (show j<(eB s (ks[0]'hk0) L3).length by omega)) ?_)
    refine oS 11 Z (zY (s:=141) Z (fun h141=>?_) (fun h141=>?_))
    ·refine oO 5 Z (vZ dc Z Z Z aC ?_)
     refine zH Z Z (wR 1 lX Z Z Z (v:= .bool (L2[j]'(show j<L2.length by have:=hor.1;omega))) (fU (show j<L2.length by have:=hor.1;omega)) ?_)
     refine oK 5 [147,18,135,17,134,133,7,0,1] Z Z (yC Z (fun h147=>?_) (fun h147=>?_))
     ·refine rO 6 Z (vZ dc Z Z Z aC ?_)
      refine zA (uL 1 Z Z Z Z Z mH bN ?_)
      rw [ii]
      refine oO 6 Z (zN Z Z aC ?_)
      refine oR 3 Z ?_
      exact kQ (hK8 (j+1,true,L2.set j true) (⟨by show j+1≤_;omega,sw hor aC (by rw [sA (l:=eB s (ks[0]'hk0) L3) aC,h141,Bool.or_true]),fun _ e=>(by have h9:=iM hor (show j<s.size+1 by omega);have h8:(L2.set j true).getD j false=true:=(by rw [List.getD_eq_getElem?_getD,List.getElem?_set_self aC];rfl);rw [e,←h9,sA (show j<L2.length by omega)]at h8;rw [h8]at h147;cases h147),fun _=>rfl⟩) ax) (eC Z (eC Z (eC Z (eC Z (eC Z (eC Z (eC Z (eN _))))))))
     refine rO 4 Z (zN Z Z aC ?_)
     refine oR 3 Z ?_
     exact kQ (hK8 (j+1,cg,L2) (⟨by show j+1≤_;omega,l5 hor (by rw [iM hor aC];rw [←iM hor (show j<s.size+1 by omega),sA (show j<L2.length by omega),show L2[j]=true by simpa using h147];rfl),hcc⟩) ax) (eC Z (eC Z (eC Z (eC Z (eC Z (eC Z (eC Z (eN _))))))))
    refine oK 8 [147,18,135,17,134,133,7,0,1] Z Z (rO 5 Z ?_)
    refine zN Z Z aC (oR 3 Z ?_)
    exact kQ (hK8 (j+1,cg,L2) (⟨by show j+1≤_;omega,l5 hor (by rw [iM hor aC];rw [sA (l:=eB s (ks[0]'hk0) L3) aC,h141,Bool.or_false]),hcc⟩) ax) (eC Z (eC Z (eC Z (eC Z (eC Z (eC Z (eC Z (eN _))))))))
   refine rR 2 Z ?_
   have hor2:=zf hor hl3 hrl3 aC
   have hc2:(cg=true→L2≠L3)∧(L2≠L3→cg=true):=hcc
   exact kQ (hK7 (cg,L2,n - 1) (⟨hor.1,fun e=>⟨by have h1:=hst1 rfl;rw [h1.1,hor2,Ax aC (by rw [gO hk0,←hor2];exact hc2.1 e),gO hk0],by have h1:=hst1 rfl;have:=(np (a:=L3) (b:=eB s (ks[0]'hk0) L3) aC).2 (by rw [←hor2];exact hc2.1 e);rw [←hor2]at this;show s8 L2<n - 1;omega⟩,fun e=>by have h1:=hst1 rfl;have e2:L2=L3:=Classical.byContradiction fun hn=>(by rw [hc2.2 hn]at e;cases e);show _=L2;rw [h1.1,pu aC (by rw [gO hk0,←hor2];exact e2),e2]⟩) (by show(if cg=true then s8 L2+1 else 0)<(if true=true then s8 L3+1 else 0);split<;>simp;have:=(np (a:=L3) (b:=eB s (ks[0]'hk0) L3) aC).2 (by rw [←hor2];exact hc2.1 ‹_›);rw [←hor2]at this;omega)) (eC Z (eC Z (eC Z (eC Z (eN _)))))
  refine rR 9 Z ?_
  refine yD (M':=[HA.blk b21 _ 4,HA.blk fb (fV f) 4]) (by repeat (first|exact zQ _|refine zB 0 Z ?_|refine zB 1 Z ?_|refine zB 2 Z ?_|refine zB 3 Z ?_|refine zB 4 Z ?_|refine zB 5 Z ?_|refine zB 6 Z ?_|refine zB 7 Z ?_|refine zB 8 Z ?_)) ?_
  exact zD Tryz.results249 Z (MRet.of ((Oe h26 h49 h68 h101).trans (by obtain rfl:chg=false:=(by simpa using h124);rw [he,show r - (i+1)=0 by omega];exact hst2 Z)) ⟨_,rfl,rfl,rfl⟩) (List.Sublist.refl _) (fun _ h=>by cases h)
 refine rK 9 [6] Z Z ?_
 refine yD (M':=[HA.blk _ _ 4,HA.blk fb (fV f) 4]) (by repeat (first|exact zQ _|refine zB 0 Z ?_|refine zB 1 Z ?_|refine zB 2 Z ?_|refine zB 3 Z ?_|refine zB 4 Z ?_|refine zB 5 Z ?_|refine zB 6 Z ?_|refine zB 7 Z ?_|refine zB 8 Z ?_)) ?_
 exact zD Tryz.results249 Z (MRet.of (Qf h26 h49 h68 h101) ⟨_,rfl,rfl,rfl⟩) (List.Sublist.refl _) (fun _ h=>by cases h)
theorem Qg(s:ByteArray)(hs:s.size≤1000): ∀ (n:Nat) (p:Pc),SizeOf.sizeOf p<n→dq p→ ∀ (b fb:Nat) (f:List Bool),f.length=s.size+1→Ct Tryz.prog 249 #[ptr b, .string s, .slice (some ⟨fb,0,none⟩) (s.size+1) (s.size+1)] [.blk fb (fV f) 4] [.pc b p] (MRet fb s f (eB s p f)):=by
  intro n
  induction n with
  |zero=>intro p h;exact absurd h (Nat.not_lt_zero _)
  |succ n ih=>
    rintro ⟨q,r,ng,fr,to,ks⟩ hn hok b fb f hf
    simp only [dq]at hok
    refine Of b q r ng fr to ks hok s hs fb f hf (fun y hy kb ob L hL=>ih y ?_ (pt hok.2.2.1 hy) kb ob L hL)
    have:=List.sizeOf_lt_of_mem hy
    simp only [Pc.mk.sizeOf_spec]at hn
    omega
section rules
variable {P:Program} {n:Nat} {F:List Nat} {c:Ctx F} {ops:Array Oper} {d:Nat} {T:TypeId} {l:List Oper} {k:List KI} {Q:cu} {e:dF} {M:List HA} {D:List DA}
theorem La(j:Nat){b q r:Nat}{ng:Bool}{fr to:List UInt8}{ks:List Pc}(hj:D[j]? =some (.pc b (.mk q r ng fr to ks)))
  (next: ∀ A1 c1 A2 c2 A3 c3,ks.length≤maxLen→fr.length≤maxLen→to.length≤maxLen→cG P n c ops l k Q e M (.dblk b [.int .i64 (q:Int), .int .i64 (r:Int), .bool false, .bool ng, .slice A1 fr.length c1, .slice A2 to.length c2, .slice A3 ks.length c3] 279:: .bys (.slice A1 fr.length c1) fr:: .bys (.slice A2 to.length c2) to:: .pks (.slice A3 ks.length c3) ks::D)):cG P n c ops l k Q e M D:=by
 intro a w hf
 have h:PcP w (c.now M w) (.mk q r ng fr to ks) b:=hf.toFitsW.dt hj
 simp only [PcP]at h
 obtain⟨hb,vf,vt,A3,c3,hh,hf1,ht1,hl,hc,hk⟩:=h
 obtain⟨A1,c1,rfl,b1,b2,b3⟩:=id hf1
 obtain⟨A2,c2,rfl,d1,d2,d3⟩:=id ht1
 refine next A1 c1 A2 c2 A3 c3 (Nat.le_trans hl hc) (Nat.le_trans b1 b2) (Nat.le_trans d1 d2) a w (hf.world (hf.toFitsW.data fun d hd=>?_))
 rcases List.mem_cons.1 hd with rfl|hd
 ·exact⟨hb,hh⟩
 rcases List.mem_cons.1 hd with rfl|hd
 ·exact hf1
 rcases List.mem_cons.1 hd with rfl|hd
 ·exact ht1
 rcases List.mem_cons.1 hd with rfl|hd
 ·exact⟨A3,c3,rfl,hl,hc,hk⟩
 ·exact hf.dat d hd
end rules
theorem Og(b m:Nat)(l:List Bool)(h:l.length=m)(hm:m≤2000):Ct Tryz.prog 250 #[.slice (some ⟨b,0,none⟩) m m] [.blk b (fV l) 4] [] (fun u M' D'=>u= .bool (l.any id)∧M'=[.blk b (fV l) 4]∧D'=[]):=by
 subst h
 exact Qa b l hm
theorem JT{p:ByteArray}(h:0<p.size):decide ((p[0]'h).toNat=94)=eY p:=by
 unfold eY
 rw [decide_eq_true h,Bool.true_and]
 exact decide_eq_decide.2 (by rw [Ap h,wG];exact Iff.rfl)
theorem JU{p:ByteArray}(h: ¬ 0<p.size):false=eY p:=by
 unfold eY
 rw [decide_eq_false h,Bool.false_and]
theorem JV{p:ByteArray}(h:0<p.size)(h2:p.size - 1<p.size):decide ((p[p.size - 1]'h2).toNat=36)=eP p:=by
 unfold eP
 rw [decide_eq_true h,Bool.true_and]
 exact decide_eq_decide.2 (by rw [Ap h2,wG];exact Iff.rfl)
theorem JW{p:ByteArray}(h: ¬ 0<p.size):false=eP p:=by
 unfold eP
 rw [decide_eq_false h,Bool.false_and]
theorem H7{p:ByteArray}(h:eY p=true):1≤p.size:=by
 unfold eY at h
 rw [Bool.and_eq_true]at h
 exact of_decide_eq_true h.1
theorem H8{p:ByteArray}(h:eP p=true):1≤p.size:=by
 unfold eP at h
 rw [Bool.and_eq_true]at h
 exact of_decide_eq_true h.1
theorem Lb{p:ByteArray}(h:eY p=true):p.extract 1 p.size=eS p:=by unfold eS;rw [if_pos h]
theorem Lc{p:ByteArray}(h:eY p=false):p=eS p:=by unfold eS;rw [if_neg bw]
theorem Ld{p:ByteArray}(h:eP p=true):p.extract 0 (p.size - 1)=eh p:=by unfold eh;rw [if_pos h]
theorem Le{p:ByteArray}(h:eP p=false):p=eh p:=by unfold eh;rw [if_neg bw]
theorem H9{p:ByteArray}{n:Nat}(h:p.size≤n):(eS p).size≤n:=by
 unfold eS
 split
 ·rw [ByteArray.size_extract];omega
 ·exact h
theorem IA{p:ByteArray}{n:Nat}(h:p.size≤n):(eh p).size≤n:=by
 unfold eh
 split
 ·rw [ByteArray.size_extract];omega
 ·exact h
abbrev Qh(f:Bool)(m:Nat):List Bool:=(List.range m).map fun i=> !f||decide (i=0)
theorem Az{L:List Bool}{g:Nat→Bool}{i:Nat}{v:Bool}(h: ∀ j,j<i→L.getD j false=g j)(hi:i<L.length)(hv:v=g i): ∀ j,j<i+1→(L.set i v).getD j false=g j:=fun j hj=>by
 rw [List.getD_eq_getElem?_getD,List.getElem?_set]
 by_cases e:i=j
 ·subst e
  rw [if_pos rfl,if_pos hi]
  exact hv
 ·rw [if_neg e,←List.getD_eq_getElem?_getD]
  exact h j aC
theorem Lf{L:List Bool}{g:Nat→Bool}{m:Nat}(hl:L.length=m)(h: ∀ j,j<m→L.getD j false=g j):L=(List.range m).map g:=by
 apply List.ext_getElem?
 intro j
 rcases Nat.lt_or_ge j m with hj|hj
 ·have:=h j hj
  rw [List.getD_eq_getElem?_getD]at this
  have hjl:j<L.length:=by omega
  rw [List.getElem?_eq_getElem hjl]at this⊢
  rw [List.getElem?_map,List.getElem?_range hj]
  exact congrArg some this
 ·rw [List.getElem?_eq_none aC,List.getElem?_eq_none cD]
section mt
variable {p t p1 p2:ByteArray} {f1 l1:Bool} {R:PR}
theorem Qi(h1:p1=eS p)(h2:p2=eh p1)(h:60<p2.size):Mt p t=(false,false):=by
 subst h1 h2
 unfold Mt
 rw [if_pos h]
theorem Qj(h1:p1=eS p)(h2:p2=eh p1)(hf:f1=eY p)(hl:l1=eP p1)(h: ¬ 60<p2.size)(hR:R=pchF p2 (sgD p2 7) 0)(hb:(R.2.2||decide (R.2.1<p2.size)||((f1||l1) && decide (1<R.1.kids.length)))=true):Mt p t=(false,false):=by
 subst h1 h2 hf hl hR
 unfold Mt
 rw [if_neg h,if_pos hb]
theorem Qk(h1:p1=eS p)(h2:p2=eh p1)(hf:f1=eY p)(hl:l1=eP p1)(h: ¬ 60<p2.size)(hR:R=pchF p2 (sgD p2 7) 0)(hb:(R.2.2||decide (R.2.1<p2.size)||((f1||l1) && decide (1<R.1.kids.length)))=false)(hl1:l1=true):Mt p t=((eB t R.1 (Qh f1 (t.size+1))).getD t.size false,true):=by
 subst h1 h2 hf hl hR
 unfold Mt
 rw [if_neg h,if_neg (by rw [hb];decide),if_pos hl1]
theorem Ql(h1:p1=eS p)(h2:p2=eh p1)(hf:f1=eY p)(hl:l1=eP p1)(h: ¬ 60<p2.size)(hR:R=pchF p2 (sgD p2 7) 0)(hb:(R.2.2||decide (R.2.1<p2.size)||((f1||l1) && decide (1<R.1.kids.length)))=false)(hl1:l1=false):Mt p t=((eB t R.1 (Qh f1 (t.size+1))).any id,true):=by
 subst h1 h2 hf hl hR
 unfold Mt
 rw [if_neg h,if_neg (by rw [hb];decide),if_neg (by rw [hl1];decide)]
end mt
set_option maxHeartbeats 1000000 in
theorem Lg:oG:=by
 intro p t hp ht
 refine Ct.of_run (args:=[.string p, .string t]) Tryz.func225 aF Z Tryz.ntmps225 Z (fun c=>?_)
 refine rK 16 [7,6,0,1] Z Z (uT (fun(bb:Bool)=>bb=eY p) (fun(bb:Bool)=>[(20, .bool bb)]) ?_ ?_)
 ·intro K hK
  refine rO 4 Z (xF eL Z Z ?_)
  refine zA (sM (j:=0) Z Z Z ?_)
  refine oS 2 Z (zW (s:=16) Z (fun h16=>?_) (fun h16=>?_))
  ·refine oO 3 Z (vT (i:=0) eL Z Z Z h16 ?_)
   refine zH Z Z (vE (j:=94) Z Z Z ?_)
   refine oR 3 Z ?_
   exact kQ (hK _ (by show _=_;first|exact JT h16|exact JU h16)) (eC Z (eC Z (eC Z (eC Z (eC Z (eN _))))))
  refine oR 6 Z ?_
  exact kQ (hK _ (by show _=_;first|exact JT h16|exact JU h16)) (eC Z (eC Z (eC Z (eC Z (eC Z (eN _))))))
 intro bb hI
 replace hI:bb=eY p:=hI
 change Run _ _ _ _ _ [(20,_),(7,_),(6,_),(0,_),(1,_)] (_) (_)
 refine rK 0 [20,7,6,0,1] Z Z (uY [7,1] (fun(⟨f1,p1⟩:Bool×ByteArray)=>f1=eY p∧p1=eS p) (fun(⟨f1,p1⟩:Bool×ByteArray)=>[(6, .bool f1),(0, .string p1)]) (fun(⟨f1,p1⟩:Bool×ByteArray)=>[]) (fun(⟨f1,p1⟩:Bool×ByteArray)=>[]) ?_ ?_)
 ·intro K hK
  refine yC Z (fun h20=>?_) (fun h20=>?_)
  ·refine yW yM (zO ?_)
   refine tP 0 Z cF (zP Z) (tP 2 Z cF (yP Z) ?_)
   refine yF (tM 1 Z cF (iE (i:=1) eL Z Z (H7 (hI.symm.trans h20))) ?_)
   refine zO (tP 3 Z cF (yP Z) ?_)
   refine yJ aD ?_
   exact kQ (hK (_,_) ⟨(hI.symm.trans h20).symm,Lb (hI.symm.trans h20)⟩) (eC Z (eC Z (eC Z (eC Z (eN _))))) (hD:=(fun d hd=>hd))
  refine uF ?_
  exact kQ (hK (_,_) ⟨(hI.symm.trans (by simpa using h20)).symm,Lc (hI.symm.trans (by simpa using h20))⟩) (eC Z (eC Z (eC Z (eC Z (eN _))))) (hD:=(fun d hd=>hd))
 intro ⟨f1,p1⟩ hI
 change Run _ _ _ _ _ [(6,_),(0,_),(7,_),(1,_)] ([]) ([])
 obtain⟨hf1,hp1⟩:=hI
 have hs1:p1.size≤200:=by rw [hp1];exact H9 hp
 refine rK 2 [6,0,7,1] Z Z (uT (fun(bb:Bool)=>bb=eP p1) (fun(bb:Bool)=>[(33, .bool bb)]) ?_ ?_)
 ·intro K hK
  refine rO 4 Z (xF eL Z Z ?_)
  refine zA (sM (j:=0) Z Z Z ?_)
  refine oS 2 Z (zW (s:=26) Z (fun h26=>?_) (fun h26=>?_))
  ·refine oO 5 Z (xF eL Z Z ?_)
   refine zH Z Z (xQ (s:=((p1.size - 1:Nat):Int)) Z Z Z aC aC aC ?_)
   refine zH Z Z (vT (i:=p1.size - 1) eL Z Z Z aC ?_)
   refine zH Z Z (vE (j:=36) Z Z Z ?_)
   refine oK 3 [33,6,0,7,1] Z Z ?_
   exact kQ (hK _ (by show _=_;first|exact JV h26 _|exact JW h26)) (eC Z (eC Z (eC Z (eC Z (eC Z (eN _))))))
  refine oK 9 [33,6,0,7,1] Z Z ?_
  exact kQ (hK _ (by show _=_;first|exact JV h26 _|exact JW h26)) (eC Z (eC Z (eC Z (eC Z (eC Z (eN _))))))
 intro bb hI
 replace hI:bb=eP p1:=hI
 change Run _ _ _ _ _ [(33,_),(6,_),(0,_),(7,_),(1,_)] (_) (_)
 refine rK 0 [33,6,0,7,1] Z Z (uY [6,1] (fun(⟨l1,p2⟩:Bool×ByteArray)=>l1=eP p1∧p2=eh p1) (fun(⟨l1,p2⟩:Bool×ByteArray)=>[(7, .bool l1),(0, .string p2)]) (fun(⟨l1,p2⟩:Bool×ByteArray)=>[]) (fun(⟨l1,p2⟩:Bool×ByteArray)=>[]) ?_ ?_)
 ·intro Kj2 hKj2
  refine yC Z (fun h33=>?_) (fun h33=>?_)
  ·refine yW yM (zO ?_)
   refine tP 0 Z cF (zP Z) (tP 1 Z cF (zP Z) ?_)
   refine tP 5 Z cF (yP Z) (yF ?_)
   refine tM 2 Z cF (gW eL Z) (tM 3 Z cF (zq (s:=((p1.size - 1:Nat):Int)) Z Z (by have:=H8 (hI.symm.trans h33);omega) aC aC) ?_)
   refine tM 4 Z cF (nz (j:=p1.size - 1) eL Z Z (Nat.sub_le _ _)) (zO ?_)
   refine tP 6 Z cF (yP Z) (yJ aD ?_)
   exact kQ (hKj2 (_,_) ⟨(hI.symm.trans h33).symm,Ld (hI.symm.trans h33)⟩) (eC Z (eC Z (eC Z (eC Z (eN _))))) (hD:=(fun d hd=>hd))
  refine uF ?_
  exact kQ (hKj2 (_,_) ⟨(hI.symm.trans (by simpa using h33)).symm,Le (hI.symm.trans (by simpa using h33))⟩) (eC Z (eC Z (eC Z (eC Z (eN _))))) (hD:=(fun d hd=>hd))
 intro ⟨l1,p2⟩ hI
 change Run _ _ _ _ _ [(7,_),(0,_),(6,_),(1,_)] ([]) ([])
 obtain⟨hf2,hp2⟩:=hI
 have hs2:p2.size≤200:=by rw [hp2];exact IA hs1
 refine rO 6 Z (xF eL Z Z ?_)
 refine zA (sM (j:=60) Z Z Z ?_)
 refine yO (zI Z (fun h41=>?_) (fun h41=>?_))
 ·refine rR 7 Z ?_
  exact wY Tryz.results225 Z Z ⟨by rw [Qi hp1 hp2 h41],rfl,rfl⟩ nS (fun _ h=>by cases h)
 refine rO 6 Z (yV Z Z (Gg ..) ?_)
 refine zA (yK Z Z Z (fun b44=>?_))
 refine oO 8 Z ?_
 obtain⟨⟨⟨q,r,ng,fr,to,ks⟩,ra,bad⟩,hR⟩: ∃R:PR,R=pchF p2 (sgD p2 7) 0:=⟨_,rfl⟩
 have hok:dq (.mk q r ng fr to ks):=by
  have:=Au (s:=p2) (Av p2 7) 0
  rw [←hR]at this
  exact this
 refine yG 0 Z Z Z (QZ b44 p2 aC 7 0 Z aC 0 (Nat.zero_le _)) Z cQ (fun u46 M46 D46 hv46=>?_)
 obtain⟨b46,rfl,rfl,rfl⟩: ∃b,u46=ptr b∧M46=[.blk b44 [.string p2, .int .i64 ((ra:Nat):Int), .bool bad] 274]∧D46=[.pc b (.mk q r ng fr to ks)]:=by
  rw [show pchF p2 (sgD p2 (7 - 0)) 0=_ from hR.symm]at hv46
  exact hv46
 refine La 0 Z (fun A1 c1 A2 c2 A3 c3 hk1 hk2 hk3=>?_)
 refine oK 5 [9,8,7,0,6,1] Z Z (uT (fun(bb:Bool)=>bb=(bad||decide (ra<p2.size)||((f1||l1) && decide (1<ks.length)))) (fun(bb:Bool)=>[(73, .bool bb)]) ?_ ?_)
 ·intro K hK
  refine rO 6 Z (zC rG Z Z ?_)
  refine zA (zF 0 lX Z Z Z Z ?_)
  refine oS 2 Z (zY (s:=51) Z (fun h51=>?_) (fun h51=>?_))
  ·refine oS 13 Z (yH Z Z Z ?_)
   refine oS 2 Z (yH Z Z Z ?_)
   refine yH Z Z Z (yH Z Z Z ?_)
   refine yH Z Z Z (yH Z Z Z ?_)
   refine yH Z Z Z (oK 4 [73,9,8,7,0,6,1] Z Z ?_)
   exact kQ (hK _ ab) (eC Z (eC Z (eC Z (eC Z (eC Z (eC Z (eC Z (eN _))))))))
  refine oO 5 Z (zC xP Z Z ?_)
  refine zH Z Z (zF 0 lL Z Z Z Z ?_)
  refine oO 3 Z (xF eL Z Z ?_)
  refine zH Z Z (yL Z Z Z ?_)
  refine oS 4 Z (zW (s:=60) Z (fun h60=>?_) (fun h60=>?_))
  ·refine oS 2 Z (yH Z Z Z ?_)
   refine oS 2 Z (yH Z Z Z ?_)
   refine yH Z Z Z (yH Z Z Z ?_)
   refine yH Z Z Z (yH Z Z Z ?_)
   refine yH Z Z Z (oK 4 [73,9,8,7,0,6,1] Z Z ?_)
   exact kQ (hK _ ab) (eC Z (eC Z (eC Z (eC Z (eC Z (eC Z (eC Z (eN _))))))))
  refine oS 4 Z (zY (s:=62) Z (fun h62=>?_) (fun h62=>?_))
  ·refine oO 10 Z (zC tX Z Z ?_)
   refine zH Z Z (zJ 0 iJ Z Z Z Z ?_)
   refine zH Z Z (zX eF Z Z ?_)
   refine zH Z Z (sM (j:=1) Z Z Z ?_)
   refine oK 5 [73,9,8,7,0,6,1] Z Z ?_
   exact kQ (hK _ ab) (eC Z (eC Z (eC Z (eC Z (eC Z (eC Z (eC Z (eN _))))))))
  refine oS 6 Z (zY (s:=65) Z (fun h65=>?_) (fun h65=>?_))
  ·refine oO 5 Z (zC tX Z Z ?_)
   refine zH Z Z (zJ 0 iJ Z Z Z Z ?_)
   refine zH Z Z (zX eF Z Z ?_)
   refine zH Z Z (sM (j:=1) Z Z Z ?_)
   refine oK 5 [73,9,8,7,0,6,1] Z Z ?_
   exact kQ (hK _ ab) (eC Z (eC Z (eC Z (eC Z (eC Z (eC Z (eC Z (eN _))))))))
  refine oK 11 [73,9,8,7,0,6,1] Z Z ?_
  exact kQ (hK _ ab) (eC Z (eC Z (eC Z (eC Z (eC Z (eC Z (eC Z (eN _))))))))
 intro bb hI
 replace hI:bb=(bad||decide (ra<p2.size)||((f1||l1) && decide (1<ks.length))):=hI
 change Run _ _ _ _ _ [(73,_),(9,_),(8,_),(7,_),(0,_),(6,_),(1,_)] (_) (_)
 refine yC Z (fun h73=>?_) (fun h73=>?_)
 ·refine rR 7 Z ?_
  exact wY Tryz.results225 Z Z ⟨by rw [Qj hp1 hp2 hf1 hf2 h41 hR (hI.symm.trans h73)],rfl,rfl⟩ nS (fun _ h=>by cases h)
 have hbad:(bad||decide (ra<p2.size)||((f1||l1) && decide (1<ks.length)))=false:=hI.symm.trans (by simpa using h73)
 refine rO 6 Z ?_
 refine tB (M1:=[]) Z Z Z (Ob t aC) Z cQ (fun u75 M75 D75 hv75=>?_)
 obtain⟨b75,rfl,rfl,rfl⟩:=hv75
 refine oO 9 Z (zX dc Z Z ?_)
 refine oK 4 [78,77,10,9,7,6,1] Z Z ?_
 refine yB 1 (fun(⟨i,L⟩:Nat×List Bool)=>i≤t.size+1∧L.length=t.size+1∧ ∀ j,j<i→L.getD j false=(!f1||decide (j=0))) (fun(⟨i,L⟩:Nat×List Bool)=>[(78, .int .i64 ((i:Nat):Int))]) (fun(⟨i,L⟩:Nat×List Bool)=>HA.blk b75 (fV L) 4::HA.blk b44 [.string p2, .int .i64 ((ra:Nat):Int), .bool bad] 274::[]) (fun(⟨i,L⟩:Nat×List Bool)=> .dblk b46 [.int .i64 (q:Int), .int .i64 (r:Int), .bool false, .bool ng, .slice A1 fr.length c1, .slice A2 to.length c2, .slice A3 ks.length c3] 279:: .bys (.slice A1 fr.length c1) fr:: .bys (.slice A2 to.length c2) to:: .pks (.slice A3 ks.length c3) ks:: .pc b46 (.mk q r ng fr to ks)::[]) (fun(⟨i,L⟩:Nat×List Bool)=>t.size+1 - i) (0,dR t) (⟨Nat.zero_le _,by show(dR t).length=_;unfold dR;simp,fun j h=>absurd h (Nat.not_lt_zero _)⟩) (eC Z (eN _)) Z Z ?_ (eC Z (eC Z (eC Z (eC Z (eC Z (eC Z (eN _)))))))
 intro ⟨i,L⟩ hI K hK
 change Run _ _ _ _ _ [(78,_),(77,_),(10,_),(9,_),(7,_),(6,_),(1,_)] [_,_] [_,_,_,_,_]
 obtain⟨hi,hl,hno⟩:=hI
 refine rO 3 Z (yL Z Z Z ?_)
 refine oR 2 Z (zI Z (fun h79=>?_) (fun h79=>?_))
 ·refine rS 21 Z (zY (s:=85) Z (fun h85=>?_) (fun h85=>?_))
  ·refine oO 5 Z (vZ dc Z Z Z h79 ?_)
   refine zA (uL 0 Z Z Z Z Z mH cD ?_)
   rw [ii]
   refine oK 1 [78,77,10,9,7,6,1] Z Z (rO 3 Z ?_)
   refine zN Z Z aC (oR 3 Z ?_)
   exact kQ (hK (i+1,L.set i true) (⟨by show i+1≤_;omega,by simp [hl],Az hno aC (by rw [h85,Bool.true_or])⟩) (by show t.size+1 - (i+1)<t.size+1 - i;omega)) (eC Z (eC Z (eC Z (eC Z (eC Z (eC Z (eC Z (eN _)))))))) (hD:=(fun d hd=>hd))
  refine oO 3 Z (vE (j:=0) Z Z Z ?_)
  refine oO 3 Z (vZ dc Z Z Z h79 ?_)
  refine zA (uL 0 Z Z Z Z Z mH cD ?_)
  rw [ii]
  refine oK 1 [78,77,10,9,7,6,1] Z Z (rO 3 Z ?_)
  refine zN Z Z aC (oR 3 Z ?_)
  exact kQ (hK (i+1,L.set i (decide (i=0))) (⟨by show i+1≤_;omega,by simp [hl],Az hno aC (by rw [show(!f1)=false by simpa using h85,Bool.false_or])⟩) (by show t.size+1 - (i+1)<t.size+1 - i;omega)) (eC Z (eC Z (eC Z (eC Z (eC Z (eC Z (eC Z (eN _)))))))) (hD:=(fun d hd=>hd))
 refine rO 10 Z ?_
 have hLe:L=Qh f1 (t.size+1):=Lf hl (fun j hj=>hno j aC)
 refine yG 0 Z Z Z (Qg t aC _ (.mk q r ng fr to ks) (Nat.lt_succ_self _) hok b46 b75 L hl) Z (cO 4 Z) (fun u94 M94 D94 hv94=>?_)
 obtain⟨b94,rfl,rfl,rfl⟩:=hv94
 refine oK 3 [12,7,1] Z Z (rR 6 Z ?_)
 refine yC Z (fun h95=>?_) (fun h95=>?_)
 ·refine rO 7 Z (xF eL Z Z ?_)
  refine zA (vZ dc Z Z Z aC ?_)
  refine zA (wR 0 lX Z Z Z (fU (show t.size<(eB t (.mk q r ng fr to ks) L).length by have:=tZ t (.mk q r ng fr to ks) L hl;omega)) ?_)
  refine oK 5 [5,4] Z Z ?_
  exact wY Tryz.results225 Z Z ⟨by rw [Qk hp1 hp2 hf1 hf2 h41 hR hbad h95,←hLe,sA (show t.size<(eB t (.mk q r ng fr to ks) L).length by have:=tZ t (.mk q r ng fr to ks) L hl;omega)],rfl,rfl⟩ nS (fun _ h=>by cases h)
 refine rO 6 Z ?_
 refine yG 0 Z Z Z (Og b94 (t.size+1) _ (tZ t _ L hl) aC) Z cQ (fun u102 M102 D102 hv102=>?_)
 obtain⟨rfl,rfl,rfl⟩:=hv102
 refine oR 5 Z ?_
 exact wY Tryz.results225 Z Z ⟨by rw [Ql hp1 hp2 hf1 hf2 h41 hR hbad (by simpa using h95),←hLe],rfl,rfl⟩ nS (fun _ h=>by cases h)
section rules
variable {P:Program} {n:Nat} {F:List Nat} {c:Ctx F} {ops:Array Oper} {d:Nat} {T:TypeId} {l:List Oper} {k:List KI} {Q:cu} {e:dF} {M:List HA} {D:List DA}
theorem zg{x y p:Operand}{v u r:Value}{S E by_:Nat}(hS:cS P S E 1 by_)(hd:Nat.blt d n=true)(hx:ev e x=some v)(hy:ev e y=some u)(hp:ev e p=some r)(hv:v.cells= #[v])(hu:u.cells= #[u])(hr:r.cells= #[r])
    (next: ∀ b,cG P n c ops l k Q ((d, .slice (some ⟨b,0,none⟩) 3 3)::e) (.blk b [v,u,r] E::M) D):cL P n c ops (some d) (.buildSlice S 3 #[(0,x),(1,y),(2,p)]) T l k Q e M D:=by
  obtain⟨ti,z,hu',hinf,hs1,hb1,hz,hzs,hsz0⟩:=hS
  intro a w hf
  have hfill: ∀ zs:Array Value,zs.size=3→Instr.fill (fun i=>some (i*1,1)) zs [(0,v),(1,u),(2,r)]=some #[v,u,r]:=by
    intro zs hz
    obtain⟨zl⟩:=zs
    match zl,hz with
    |[p,q,p'],_=>simp [Instr.fill,hv,hu,hr]
  have hrun:(execOp a.eval (dH (some d) (.buildSlice S 3 #[(0,x),(1,y),(2,p)]) T)).run P w= .ok (.value (.slice (some ⟨w.heap.size,0,none⟩) 3 3)) (w.alloc (.cells #[v,u,r] E (0,0))):=by
    have hb:(Instr.buildSlice S 3 #[(0,a.eval x),(1,a.eval y),(2,a.eval p)]).run P w= .ok (.slice (some ⟨w.heap.size,0,none⟩) 3 3) (w.alloc (.cells #[v,u,r] E (0,0))):=by
      unfold Instr.buildSlice
      simp only [Sem.run_bind,run_underlying hu',Result.andThen_ok,xK hinf,hs1]
      rw [if_neg aE,if_neg aE]
      have hfl:=hfill ((Array.range (3*1)).map (z.cells[· %z.cells.size]!)) aJ
      simp only [Sem.run_bind,run_zeroValue' hinf hz,Result.andThen_ok,hf.ev hx,hf.ev hy,hf.ev hp,Sem.run_pure]
      rw [hfl]
      simp [newRow,newObj,Sem.run]
    simp only [execOp,dH,List.map_toArray,List.map_cons,List.map_nil,Sem.run_bind,hb,Result.andThen_ok,Sem.run_pure]
  unfold Oper.wp
  rw [hrun]
  have hx2:(HA.blk w.heap.size [v,u,r] E).holds (w.alloc (.cells #[v,u,r] E (0,0))):=by
    show(w.heap.push _)[w.heap.size]? =_
    simp
  exact next w.heap.size _ _ ((hf.world (hf.toFitsW.new _ hx2 Z)).put hd _)
theorem gx(i:Nat)(ks:List ByteArray){b m:Nat}{E:TypeId}(hm:m=ks.length)(hi:M[i]? =some (.blk b (ks.map Value.string) E))(hF:F=[])(hl:ks.length≤maxLen)(hs: ∀ s∈ks,s.size≤maxLen)(next:cG P n c ops l k Q e (M.eraseIdx i) (.strs (.slice (some ⟨b,0,none⟩) m m) ks::D)):cG P n c ops l k Q e M D:=by
 subst hm
 refine fC (h:= .blk b (ks.map Value.string) E) [.strs (.slice (some ⟨b,0,none⟩) ks.length ks.length) ks] (fun x _ h=>by rw [hF]at h;cases h) (wQ hi) (fun w ok h hok hD d hd=>?_) next
 rcases List.mem_singleton.1 hd with rfl
 refine⟨some ⟨b,0,none⟩,ks.length,rfl,Nat.le_refl _,hl,hs,fun q x hx=>⟨⟨b,0,none⟩,rfl,hok _ br,?_⟩⟩
 rw [wB,vL h,Nat.zero_add,Nat.mul_one,List.getElem?_map,hx]
 rfl
end rules
noncomputable def ed(p:V→Prop)(vs:List V):Nat:=(vs.filter fun v=>tb (p v)).length
theorem IB(p:V→Prop)(vs:List V):ed p vs≤vs.length:=List.length_filter_le _ _
theorem Fd{p:V→Prop}{vs:List V}{i:Nat}{v:V}(hv:vs[i]? =some v)(h:p v):ed p (vs.take (i+1))=ed p (vs.take i)+1:=by
 unfold ed
 rw [List.take_add_one,hv,List.filter_append,List.length_append]
 simp [df h]
theorem Fe{p:V→Prop}{vs:List V}{i:Nat}{v:V}(hv:vs[i]? =some v)(h: ¬ p v):ed p (vs.take (i+1))=ed p (vs.take i):=by
 unfold ed
 rw [List.take_add_one,hv,List.filter_append,List.length_append]
 simp [tb_f h]
theorem A7(p:V→Prop)(vs:List V)(i:Nat):ed p (vs.take i)≤i:=Nat.le_trans (IB p _) (by rw [List.length_take];omega)
theorem nr{p:V→Prop}{vs:List V}{i:Nat}(h:vs.length≤i):ed p (vs.take i)=ed p vs:=by rw [List.take_of_length_le h]
def lS(vs:List V)(key:ByteArray):Prop:=(cH key≠0∧1<ed (fun v=>dw v key) vs)∨key=k3∨key=kId
def keyGs:List (List ByteArray):=[[k23,k24,k22],[k15,k14],[k7,k8],[k9,k10]]
def CT(v:V)(G:List ByteArray):Prop:= ∃key∈G,dw v key
def Qm(vs:List V):Prop:=(∀ (q:Nat) (v:V),vs[q]? =some v→ ∀ key∈v.keys,¬ lS vs key)∧ ∀ (q:Nat) (G:List ByteArray),keyGs[q]? =some G→ ¬ 1<ed (fun v=>CT v G) vs
theorem wl{p:ByteArray→Prop}{G:List ByteArray}{i:Nat}(hi:i<G.length):(∃s∈G.take (i+1),p s)↔(∃s∈G.take i,p s)∨p G[i]:=by
 rw [List.take_add_one,List.getElem?_eq_getElem hi]
 simp only [List.mem_append,Option.toList_some,List.mem_singleton]
 exact⟨fun⟨s,h,hp⟩=>h.elim (fun h=> .inl ⟨s,h,hp⟩) (fun h=> .inr (h▸hp)),fun h=>h.elim (fun⟨s,h,hp⟩=>⟨s, .inl h,hp⟩) (fun hp=>⟨_, .inr Z,hp⟩)⟩
theorem px{α:Type}{l:List α}{p:α→Prop}{i:Nat}{v:α}(h: ∀ (q:Nat) (v:α),l[q]? =some v→q<i→p v)(hv:l[i]? =some v)(hp:p v): ∀ (q:Nat) (v:α),l[q]? =some v→q<i+1→p v:=fun q u hu hq=>by
  rcases Nat.lt_or_ge q i with h1|h1
  · exact h q u hu h1
  · obtain rfl:q=i:=by omega
    rw [hv]at hu
    injection hu with hu
    exact hu▸hp
theorem Oh{vs:List V}{key:ByteArray}(h:cH key≠0)(h2:1<ed (fun v=>dw v key) vs):true=tb (lS vs key):=(df (.inl ⟨h,h2⟩)).symm
theorem Oi{vs:List V}{key:ByteArray}(h:key=k3):true=tb (lS vs key):=(df (.inr (.inl h))).symm
theorem JY{vs:List V}{key:ByteArray}(h: ¬ (cH key≠0∧1<ed (fun v=>dw v key) vs))(h2: ¬ key=k3):decide (key=kId)=tb (lS vs key):=by
 by_cases h3:key=kId
 ·rw [decide_eq_true h3];exact(df (.inr (.inr h3))).symm
 ·rw [decide_eq_false h3];exact(tb_f (fun e=>e.elim h fun e=>e.elim h2 h3)).symm
theorem SA(bx:Nat)(A:Option Addr)(cc:Nat)(vs:List V)(hvl:vs.length≤1000000000)(key:ByteArray):Ct Tryz.prog 75 #[.string key,ptr bx] [HA.blk bx [.slice A vs.length cc] 23] [.vals (.slice A vs.length cc) vs] (fun u M' D'=>u= .int .i64 ((ed (fun v=>dw v key) vs:Nat):Int)∧M'=[HA.blk bx [.slice A vs.length cc] 23]∧D'=[]):=by
 refine Ct.of_run (args:=[.string key,ptr bx]) Tryz.func75 aF Z Tryz.ntmps75 Z (fun c=>?_)
 refine rO 14 Z (zF 0 c7 Z Z Z Z ?_)
 refine zA (zX cX Z Z ?_)
 refine oK 4 [9,4,8,7,0] Z Z (yB 2 (fun(⟨i,m⟩:Nat×Nat)=>i≤vs.length∧m=ed (fun v=>dw v key) (vs.take i)) (fun(⟨i,m⟩:Nat×Nat)=>[(9, .int .i64 ((i:Nat):Int)),(4, .int .i64 ((m:Nat):Int))]) (fun(⟨i,m⟩:Nat×Nat)=>HA.blk bx [.slice A vs.length cc] 23::[]) (fun(⟨i,m⟩:Nat×Nat)=> .vals (.slice A vs.length cc) vs::[]) (fun(⟨i,m⟩:Nat×Nat)=>vs.length - i) (0,0) (⟨Nat.zero_le _,rfl⟩) (eC Z (eC Z (eN _))) Z Z ?_ (eC Z (eC Z (eC Z (eN _)))))
 intro ⟨i,m⟩ hI K hK
 change Run _ _ _ _ _ [(9,_),(4,_),(8,_),(7,_),(0,_)] [_] [_]
 obtain⟨hi,hm⟩:=hI
 have hmi:=A7 (fun v=>dw v key) vs i
 refine rO 3 Z (yL Z Z Z ?_)
 refine oR 2 Z (zI Z (fun h10=>?_) (fun h10=>?_))
 ·obtain⟨v,hvi⟩: ∃v,vs[i]? =some v:=⟨_,List.getElem?_eq_getElem h10⟩
  refine rO 6 Z (xC 0 cX Z Z Z Z h10 ?_)
  refine zA (xB 0 cM Z Z Z hvi (fun A12 c12 B12 d12=>?_))
  refine zA (yA dE Z (fun b6=>?_))
  change cG _ _ _ _ _ _ _ _ (HA.blk _ [_,_,_,_,_] _::_) _
  refine zA (zG 0 (M':=[HA.blk _ [_,_,_,_,_] _,_]) Z Z Z Z co Z Z Z ?_)
  refine oO 4 Z (zK 0 Z cM Z Z ?_)
  refine oO 3 Z (zL Z Z Z (Io _ v key) (cO 0 Z) ?_)
  refine zA (uA Z Z Z ?_)
  refine yO (zI Z (fun h16=>?_) (fun h16=>?_))
  ·refine rO 4 Z (zN Z Z aC ?_)
   refine oK 3 [4,9,8,7,0] Z Z (rO 3 Z ?_)
   refine zN Z Z aC (oR 3 Z ?_)
   exact kQ (hK (i+1,m+1) (⟨by show i+1≤_;omega,(by show _=ed _ _;rw [hm];exact(Fd hvi h16).symm)⟩) az) (eC Z (eC Z (eC Z (eC Z (eC Z (eN _))))))
  refine rO 4 Z (zN Z Z aC ?_)
  refine oK 3 [9,4,8,7,0] Z Z ?_
  exact kQ (hK (i+1,m) (⟨by show i+1≤_;omega,(by show _=ed _ _;rw [hm];exact(Fe hvi h16).symm)⟩) az) (eC Z (eC Z (eC Z (eC Z (eC Z (eN _))))))
 refine rR 8 Z ?_
 exact zD Tryz.results75 Z ⟨by rw [hm,nr aC],rfl,rfl⟩ al (fun _ h=>by cases h)
theorem c76:CtR Tryz.prog 76 #[] [] (fun u D'=> ∃b0 b1 b2 b3 b4,u= .slice (some ⟨b0,0,none⟩) 4 4∧D'=[.dblk b0 [.slice (some ⟨b1,0,none⟩) 3 3, .slice (some ⟨b2,0,none⟩) 2 2, .slice (some ⟨b3,0,none⟩) 2 2, .slice (some ⟨b4,0,none⟩) 2 2] 22, .strs (.slice (some ⟨b4,0,none⟩) 2 2) [k9,k10], .strs (.slice (some ⟨b3,0,none⟩) 2 2) [k7,k8], .strs (.slice (some ⟨b2,0,none⟩) 2 2) [k15,k14], .strs (.slice (some ⟨b1,0,none⟩) 3 3) [k23,k24,k22]]):=by
 refine Ct.of_run (args:=[]) Tryz.func76 aF Z Tryz.ntmps76 Z (fun c=>?_)
 refine rO 8 Z (zg cV Z Z Z Z Z Z Z (fun b1=>?_))
 refine gx 0 [k23,k24,k22] Z Z Z aE aD (zA ?_)
 refine vA cV Z Z Z Z Z (fun b2=>?_)
 refine gx 0 [k15,k14] Z Z Z aE aD (zA ?_)
 refine vA cV Z Z Z Z Z (fun b3=>?_)
 refine gx 0 [k7,k8] Z Z Z aE aD (zA ?_)
 refine vA cV Z Z Z Z Z (fun b4=>?_)
 refine gx 0 [k9,k10] Z Z Z aE aD (zA ?_)
 refine tI KG Z Z Z Z Z Z Z Z Z (fun b5=>?_)
 refine gn 0 Z Z (oR 3 Z ?_)
 exact zD Tryz.results76 Z ⟨rfl,_,_,_,_,_,rfl,rfl⟩ nS (fun d hd=>hd)
set_option maxHeartbeats 1000000 in
theorem SB(A:Option Addr)(cc:Nat)(vs:List V)(hvl:vs.length≤1000000000):di Tryz.prog 39 #[.slice A vs.length cc] [.vals (.slice A vs.length cc) vs] (.bool (tb (Qm vs))):=by
 refine Ct.of_run (args:=[.slice A vs.length cc]) Tryz.func39 aF Z Tryz.ntmps39 Z (fun c=>?_)
 refine rO 3 Z (yK Z Z Z (fun b1=>?_))
 refine oO 6 Z (qM Z Z Z ?_)
 refine oO 7 Z (zF 0 c7 Z Z Z Z ?_)
 refine zA (zX cX Z Z ?_)
 refine oK 4 [19,18,17,3,1] Z Z (yB 1 (fun(⟨i,u⟩:Nat×Unit)=>i≤vs.length∧ ∀ (q:Nat) (v:V),vs[q]? =some v→q<i→ ∀ key∈v.keys,¬ lS vs key) (fun(⟨i,u⟩:Nat×Unit)=>[(19, .int .i64 ((i:Nat):Int))]) (fun(⟨i,u⟩:Nat×Unit)=>HA.blk b1 [.slice A vs.length cc] 23::[]) (fun(⟨i,u⟩:Nat×Unit)=> .vals (.slice A vs.length cc) vs::[]) (fun(⟨i,u⟩:Nat×Unit)=>vs.length - i) (0,()) (⟨Nat.zero_le _,fun q v _ h=>absurd h (Nat.not_lt_zero _)⟩) (eC Z (eN _)) Z Z ?_ (eC Z (eC Z (eC Z (eC Z (eN _))))))
 intro ⟨i,u⟩ hI K hK
 change Run _ _ _ _ _ [(19,_),(18,_),(17,_),(3,_),(1,_)] [_] [_]
 obtain⟨hi,hno⟩:=hI
 refine rO 3 Z (yL Z Z Z ?_)
 refine oR 2 Z (zI Z (fun h20=>?_) (fun h20=>?_))
 ·obtain⟨v,hvi⟩: ∃v,vs[i]? =some v:=⟨_,List.getElem?_eq_getElem h20⟩
  refine rO 6 Z (xC 0 cX Z Z Z Z h20 ?_)
  refine zA (xB 0 cM Z Z Z hvi (fun A22 c22 B22 d22=>?_))
  refine zA (yA dE Z (fun b5=>?_))
  change cG _ _ _ _ _ _ _ _ (HA.blk _ [_,_,_,_,_] _::_) _
  refine zA (zG 0 (M':=[HA.blk _ [_,_,_,_,_] _,_]) Z Z Z Z co Z Z Z ?_)
  refine oO 4 Z (zC xM Z Z ?_)
  refine zA (zF 0 dV Z Z Z Z ?_)
  refine zA (zX cV Z Z ?_)
  refine oK 4 [26,25,24,19,18,17,3,1] Z Z (yN 0 Z (fun A9 c9 B9 d9 hx9 hsz9 hk9 hl9 hi9 hj9=>?_))
  cases hx9
  refine tR (D':= .strs (.slice A22 v.keys.length c22) v.keys:: .vals (.slice A vs.length cc) vs::[]) aY (yB 1 (fun(⟨j,u⟩:Nat×Unit)=>j≤v.keys.length∧ ∀ (q:Nat) (hq:q<v.keys.length),q<j→ ¬ lS vs (v.keys[q]'hq)) (fun(⟨j,u⟩:Nat×Unit)=>[(26, .int .i64 ((j:Nat):Int))]) (fun(⟨j,u⟩:Nat×Unit)=>HA.blk b5 [.int .i64 v.kind, .int .i64 v.num, .string v.text, .slice A22 v.keys.length c22, .slice B22 v.items.length d22] 25::HA.blk b1 [.slice A vs.length cc] 23::[]) (fun(⟨j,u⟩:Nat×Unit)=> .strs (.slice A22 v.keys.length c22) v.keys:: .vals (.slice A vs.length cc) vs::[]) (fun(⟨j,u⟩:Nat×Unit)=>v.keys.length - j) (0,()) (⟨Nat.zero_le _,fun q _ h=>absurd h (Nat.not_lt_zero _)⟩) (eC Z (eN _)) Z Z ?_ (eC Z (eC Z (eC Z (eC Z (eC Z (eC Z (eC Z (eN _)))))))))
  intro ⟨j,u⟩ hI K hK1
  change Run _ _ _ _ _ [(26,_),(25,_),(24,_),(19,_),(18,_),(17,_),(3,_),(1,_)] [_,_] [_,_]
  obtain⟨hj,hnk⟩:=hI
  have hmx:maxLen≤9223372036854775807:=by decide
  refine rO 3 Z (yL Z Z Z ?_)
  refine oR 2 Z (zI Z (fun h27=>?_) (fun h27=>?_))
  ·refine rO 6 Z (xS 0 cV Z Z Z Z h27 ?_)
   refine zA (yR dO Z Z (fun _ h=>xO h (j:=0) Z (List.getElem?_eq_getElem h27)) ?_)
   refine oK 4 [7,26,25,24,19,18,17,3,1] Z Z (uT (fun(bb:Bool)=>bb=tb (lS vs v.keys[j])) (fun(bb:Bool)=>[(46, .bool bb)]) ?_ ?_)
   ·intro K hK
    refine rO 4 Z (zL Z Z Z (PB _) cQ ?_)
    refine zA (uG Z Z Z ?_)
    refine oS 2 Z (zW (s:=33) Z (fun h33=>?_) (fun h33=>?_))
    ·refine oO 5 Z (yG 1 Z Z Z (SA b1 A cc vs hvl v.keys[j]) Z (cO 1 Z) (fun u36 M36 D36 hv36=>?_))
     obtain⟨rfl,rfl,rfl⟩:=hv36
     refine zH Z Z (sM (j:=1) Z Z Z ?_)
     refine oS 4 Z (zW (s:=39) Z (fun h39=>?_) (fun h39=>?_))
     ·refine oK 11 [46,7,26,25,24,19,18,17,3,1] Z Z ?_
      exact kQ (hK _ aR) (eC Z (eC Z (eC Z (eC Z (eC Z (eC Z (eC Z (eC Z (eC Z (eC Z (eN _)))))))))))
     refine oS 8 Z (zW (s:=43) Z (fun h43=>?_) (fun h43=>?_))
     ·refine oK 5 [46,7,26,25,24,19,18,17,3,1] Z Z ?_
      exact kQ (hK _ aR) (eC Z (eC Z (eC Z (eC Z (eC Z (eC Z (eC Z (eC Z (eC Z (eC Z (eN _)))))))))))
     refine oK 7 [46,7,26,25,24,19,18,17,3,1] Z Z ?_
     exact kQ (hK _ aR) (eC Z (eC Z (eC Z (eC Z (eC Z (eC Z (eC Z (eC Z (eC Z (eC Z (eN _)))))))))))
    refine oS 16 Z (zW (s:=43) Z (fun h43=>?_) (fun h43=>?_))
    ·refine oK 5 [46,7,26,25,24,19,18,17,3,1] Z Z ?_
     exact kQ (hK _ aR) (eC Z (eC Z (eC Z (eC Z (eC Z (eC Z (eC Z (eC Z (eC Z (eC Z (eN _)))))))))))
    refine oK 7 [46,7,26,25,24,19,18,17,3,1] Z Z ?_
    exact kQ (hK _ aR) (eC Z (eC Z (eC Z (eC Z (eC Z (eC Z (eC Z (eC Z (eC Z (eC Z (eN _)))))))))))
   intro bb hI
   replace hI:bb=tb (lS vs v.keys[j]):=hI
   change Run _ _ _ _ _ [(46,_),(7,_),(26,_),(25,_),(24,_),(19,_),(18,_),(17,_),(3,_),(1,_)] (_) (_)
   refine yC Z (fun h46=>?_) (fun h46=>?_)
   ·refine rK 5 [2] Z Z ?_
    exact zD Tryz.results39 Z ⟨congrArg Value.bool (tb_f (fun e=>e.1 i v hvi _ (List.getElem_mem h27) (yS.1 (hI.symm.trans h46)))).symm,rfl,rfl⟩ nS (fun _ h=>by cases h)
   have hbk: ¬ lS vs v.keys[j]:=xH.1 (hI▸(by simpa using h46))
   refine rO 4 Z (zN Z Z aC ?_)
   refine oR 3 Z ?_
   exact kQ (hK1 (j+1,()) (⟨by show j+1≤_;omega,fun q hq hlt=>(Nat.lt_or_ge q j).elim (fun h1=>hnk q hq h1) (fun h1=>by obtain rfl:q=j:=Nat.le_antisymm (Nat.le_of_lt_succ hlt) h1;exact hbk)⟩) aw) (eC Z (eC Z (eC Z (eC Z (eC Z (eC Z (eC Z (eC Z (eN _)))))))))
  refine rO 4 Z (zN Z Z aC ?_)
  refine oR 3 Z ?_
  exact kQ (hK (i+1,()) (⟨by show i+1≤_;omega,px hno hvi (fun key hk=>by obtain⟨q,hq,rfl⟩:=List.getElem_of_mem hk;exact hnk q hq aC)⟩) az) (eC Z (eC Z (eC Z (eC Z (eC Z (eN _)))))) (hD:=aV)
 refine rO 5 Z ?_
 have hT1: ∀ (q:Nat) (v:V),vs[q]? =some v→ ∀ key∈v.keys,¬ lS vs key:=fun q v hq=>hno q v hq (by have:=(List.getElem?_eq_some_iff.1 hq).1;omega)
 refine yE Z Z Z c76 cQ (fun u49 D49 hv49=>?_)
 obtain⟨g0,g1,g2,g3,g4,rfl,rfl⟩:=hv49
 refine zA (zX KG Z Z ?_)
 refine oK 4 [51,50,49,1] Z Z (yB 1 (fun(⟨i,u⟩:Nat×Unit)=>i≤4∧ ∀ (q:Nat) (G:List ByteArray),keyGs[q]? =some G→q<i→ ¬ 1<ed (fun v=>CT v G) vs) (fun(⟨i,u⟩:Nat×Unit)=>[(51, .int .i64 ((i:Nat):Int))]) (fun(⟨i,u⟩:Nat×Unit)=>HA.blk b1 [.slice A vs.length cc] 23::[]) (fun(⟨i,u⟩:Nat×Unit)=> .dblk g0 [.slice (some ⟨g1,0,none⟩) 3 3, .slice (some ⟨g2,0,none⟩) 2 2, .slice (some ⟨g3,0,none⟩) 2 2, .slice (some ⟨g4,0,none⟩) 2 2] 22:: .strs (.slice (some ⟨g4,0,none⟩) 2 2) [k9,k10]:: .strs (.slice (some ⟨g3,0,none⟩) 2 2) [k7,k8]:: .strs (.slice (some ⟨g2,0,none⟩) 2 2) [k15,k14]:: .strs (.slice (some ⟨g1,0,none⟩) 3 3) [k23,k24,k22]:: .vals (.slice A vs.length cc) vs::[]) (fun(⟨i,u⟩:Nat×Unit)=>4 - i) (0,()) (⟨Nat.zero_le _,fun q v _ h=>absurd h (Nat.not_lt_zero _)⟩) (eC Z (eN _)) Z Z ?_ (eC Z (eC Z (eC Z (eN _)))))
 intro ⟨i,u⟩ hI K hK2
 change Run _ _ _ _ _ [(51,_),(50,_),(49,_),(1,_)] [_] [_,_,_,_,_,_]
 obtain⟨hi,hno⟩:=hI
 refine rO 3 Z (yL Z Z Z ?_)
 refine oR 2 Z (zI Z (fun h52=>?_) (fun h52=>?_))
 ·have h52:i<4:=h52
  obtain⟨gb,gm,G,hcs,hG,hgm,hg3,hmem⟩: ∃gb gm G,[Value.slice (some ⟨g1,0,none⟩) 3 3, .slice (some ⟨g2,0,none⟩) 2 2, .slice (some ⟨g3,0,none⟩) 2 2, .slice (some ⟨g4,0,none⟩) 2 2][i]? =some (Value.slice (some ⟨gb,0,none⟩) gm gm)∧keyGs[i]? =some G∧gm=G.length∧gm≤3∧ ∀ (x y:DA),DA.strs (.slice (some ⟨gb,0,none⟩) gm gm) G∈x:: .strs (.slice (some ⟨g4,0,none⟩) 2 2) [k9,k10]:: .strs (.slice (some ⟨g3,0,none⟩) 2 2) [k7,k8]:: .strs (.slice (some ⟨g2,0,none⟩) 2 2) [k15,k14]:: .strs (.slice (some ⟨g1,0,none⟩) 3 3) [k23,k24,k22]::y::[]:=by
   match i,h52 with
   |0,_=>exact⟨g1,3,_,rfl,rfl,rfl,by decide,fun x y=>by simp⟩
   |1,_=>exact⟨g2,2,_,rfl,rfl,rfl,by decide,fun x y=>by simp⟩
   |2,_=>exact⟨g3,2,_,rfl,rfl,rfl,by decide,fun x y=>by simp⟩
   |3,_=>exact⟨g4,2,_,rfl,rfl,rfl,by decide,fun x y=>by simp⟩
  refine tR (D':= .strs (.slice (some ⟨gb,0,none⟩) gm gm) G:: .dblk g0 [.slice (some ⟨g1,0,none⟩) 3 3, .slice (some ⟨g2,0,none⟩) 2 2, .slice (some ⟨g3,0,none⟩) 2 2, .slice (some ⟨g4,0,none⟩) 2 2] 22:: .strs (.slice (some ⟨g4,0,none⟩) 2 2) [k9,k10]:: .strs (.slice (some ⟨g3,0,none⟩) 2 2) [k7,k8]:: .strs (.slice (some ⟨g2,0,none⟩) 2 2) [k15,k14]:: .strs (.slice (some ⟨g1,0,none⟩) 3 3) [k23,k24,k22]:: .vals (.slice A vs.length cc) vs::[]) (fun d hd=>(List.mem_cons.1 hd).elim (fun e=>e▸hmem _ _) (fun h=>h)) (rO 6 Z ?_)
  refine vZ KG Z Z Z h52 (zA ?_)
  refine zJ 1 dV Z Z Z hcs (oO 12 Z ?_)
  refine zF 0 c7 Z Z Z Z (zA ?_)
  refine zX cX Z Z (oK 4 [57,10,56,55,9,51,50,49,1] Z Z ?_)
  refine yB 2 (fun(⟨k,m⟩:Nat×Nat)=>k≤vs.length∧m=ed (fun v=>CT v G) (vs.take k)) (fun(⟨k,m⟩:Nat×Nat)=>[(57, .int .i64 ((k:Nat):Int)),(10, .int .i64 ((m:Nat):Int))]) (fun(⟨k,m⟩:Nat×Nat)=>HA.blk b1 [.slice A vs.length cc] 23::[]) (fun(⟨k,m⟩:Nat×Nat)=> .strs (.slice (some ⟨gb,0,none⟩) gm gm) G:: .dblk g0 [.slice (some ⟨g1,0,none⟩) 3 3, .slice (some ⟨g2,0,none⟩) 2 2, .slice (some ⟨g3,0,none⟩) 2 2, .slice (some ⟨g4,0,none⟩) 2 2] 22:: .strs (.slice (some ⟨g4,0,none⟩) 2 2) [k9,k10]:: .strs (.slice (some ⟨g3,0,none⟩) 2 2) [k7,k8]:: .strs (.slice (some ⟨g2,0,none⟩) 2 2) [k15,k14]:: .strs (.slice (some ⟨g1,0,none⟩) 3 3) [k23,k24,k22]:: .vals (.slice A vs.length cc) vs::[]) (fun(⟨k,m⟩:Nat×Nat)=>vs.length - k) (0,0) (⟨Nat.zero_le _,rfl⟩) (eC Z (eC Z (eN _))) Z Z ?_ (eC Z (eC Z (eC Z (eC Z (eC Z (eC Z (eC Z (eN _))))))))
  intro ⟨k,m⟩ hI K hK3
  change Run _ _ _ _ _ [(57,_),(10,_),(56,_),(55,_),(9,_),(51,_),(50,_),(49,_),(1,_)] [_] [_,_,_,_,_,_,_]
  obtain⟨hk,hm⟩:=hI
  have hmi:=A7 (fun v=>CT v G) vs k
  refine rO 3 Z (yL Z Z Z ?_)
  refine oR 2 Z (zI Z (fun h58=>?_) (fun h58=>?_))
  ·obtain⟨v,hvk⟩: ∃v,vs[k]? =some v:=⟨_,List.getElem?_eq_getElem h58⟩
   refine rO 6 Z (xC 6 cX Z Z Z Z h58 ?_)
   refine zA (xB 6 cM Z Z Z hvk (fun A60 c60 B60 d60=>?_))
   refine zA (yA dE Z (fun b12=>?_))
   change cG _ _ _ _ _ _ _ _ (HA.blk _ [_,_,_,_,_] _::_) _
   refine zA (zG 0 (M':=[HA.blk _ [_,_,_,_,_] _,_]) Z Z Z Z co Z Z Z ?_)
   refine oO 12 Z (zX cV Z Z ?_)
   refine oK 3 [63,62,61,13,12,57,10,56,55,9,51,50,49,1] Z Z (rK 1 [63,13,62,61,12,57,10,56,55,9,51,50,49,1] Z Z ?_)
   refine yB 2 (fun(⟨q,has⟩:Nat×Bool)=>q≤gm∧has=tb (∃key∈G.take q,dw v key)) (fun(⟨q,has⟩:Nat×Bool)=>[(63, .int .i64 ((q:Nat):Int)),(13, .bool has)]) (fun(⟨q,has⟩:Nat×Bool)=>HA.blk b12 [.int .i64 v.kind, .int .i64 v.num, .string v.text, .slice A60 v.keys.length c60, .slice B60 v.items.length d60] 25::HA.blk b1 [.slice A vs.length cc] 23::[]) (fun(⟨q,has⟩:Nat×Bool)=> .val (.agg #[.int .i64 v.kind, .int .i64 v.num, .string v.text, .slice A60 v.keys.length c60, .slice B60 v.items.length d60]) v:: .strs (.slice (some ⟨gb,0,none⟩) gm gm) G:: .dblk g0 [.slice (some ⟨g1,0,none⟩) 3 3, .slice (some ⟨g2,0,none⟩) 2 2, .slice (some ⟨g3,0,none⟩) 2 2, .slice (some ⟨g4,0,none⟩) 2 2] 22:: .strs (.slice (some ⟨g4,0,none⟩) 2 2) [k9,k10]:: .strs (.slice (some ⟨g3,0,none⟩) 2 2) [k7,k8]:: .strs (.slice (some ⟨g2,0,none⟩) 2 2) [k15,k14]:: .strs (.slice (some ⟨g1,0,none⟩) 3 3) [k23,k24,k22]:: .vals (.slice A vs.length cc) vs::[]) (fun(⟨q,has⟩:Nat×Bool)=>gm - q) (0,false) (⟨Nat.zero_le _,(tb_f (fun e=>by obtain⟨s,hs,_⟩:=e;cases hs)).symm⟩) (eC Z (eC Z (eN _))) Z Z ?_ (eC Z (eC Z (eC Z (eC Z (eC Z (eC Z (eC Z (eC Z (eC Z (eC Z (eC Z (eC Z (eN _)))))))))))))
   intro ⟨q,has⟩ hI K hK4
   change Run _ _ _ _ _ [(63,_),(13,_),(62,_),(61,_),(12,_),(57,_),(10,_),(56,_),(55,_),(9,_),(51,_),(50,_),(49,_),(1,_)] [_,_] [_,_,_,_,_,_,_,_]
   obtain⟨hq,hh⟩:=hI
   refine rO 3 Z (yL Z Z Z ?_)
   refine oK 1 [64,63,13,62,61,12,57,10,56,55,9,51,50,49,1] Z Z (xD ?_)
   refine zI Z (fun h64=>?_) (fun h64=>?_)
   ·refine rO 6 Z (xS 1 cV Z Z Z Z h64 ?_)
    refine zA ?_
    refine yR dO Z Z (fun _ h=>xO h (j:=1) Z (List.getElem?_eq_getElem (show q<G.length by omega))) ?_
    refine oK 3 [15,63,13,62,61,12,57,10,56,55,9,51,50,49,1] Z Z (rS 5 Z ?_)
    refine zY (s:=68) Z (fun h68=>?_) (fun h68=>?_)
    ·refine oK 9 [13,63,62,61,12,57,10,56,55,9,51,50,49,1] Z Z (rO 3 Z ?_)
     refine zN Z Z aC (oK 3 [63,13,62,61,12,57,10,56,55,9,51,50,49,1] Z Z ?_)
     exact kQ (hK4 (q+1,true) (⟨by show q+1≤_;omega,(df ((wl aC).2 (.inl (yS.1 (hh▸h68))))).symm⟩) (by show gm - (q+1)<gm - q;omega)) (eC Z (eC Z (eC Z (eC Z (eC Z (eC Z (eC Z (eC Z (eC Z (eC Z (eC Z (eC Z (eC Z (eC Z (eN _)))))))))))))))
    refine zH Z Z (zK 0 Z cM Z Z ?_)
    refine oO 3 Z (zL Z Z Z (Io _ v _) (cO 0 Z) ?_)
    refine zH Z Z (uA Z Z Z ?_)
    refine oK 5 [13,63,62,61,12,57,10,56,55,9,51,50,49,1] Z Z (rO 3 Z ?_)
    refine zN Z Z aC (oK 3 [63,13,62,61,12,57,10,56,55,9,51,50,49,1] Z Z ?_)
    exact kQ (hK4 (q+1,decide (0≤dL v.keys (G[q]'aC))) (⟨by show q+1≤_;omega,(by show decide (dw v (G[q]'aC))=_;rw [←fQ];exact(sP ((wl (show q<G.length by omega)).trans (or_iff_right (xH.1 (hh▸(by simpa using h68)))))).symm)⟩) (by show gm - (q+1)<gm - q;omega)) (eC Z (eC Z (eC Z (eC Z (eC Z (eC Z (eC Z (eC Z (eC Z (eC Z (eC Z (eC Z (eC Z (eC Z (eN _)))))))))))))))
   refine rK 6 [75,57,10,56,55,9,51,50,49,1] Z Z (yC Z (fun h75=>?_) (fun h75=>?_))
   ·have hhas:has=tb (CT v G):=by rw [hh,List.take_of_length_le aC];rfl
    refine rO 4 Z (zN Z Z aC ?_)
    refine oO 6 Z (zN Z Z aC ?_)
    refine oR 3 Z ?_
    exact kQ (hK3 (k+1,m+1) (⟨by show k+1≤_;omega,(by show _=ed _ _;rw [hm];exact(Fd hvk (yS.1 (hhas.symm.trans h75))).symm)⟩) (by show vs.length - (k+1)<vs.length - k;omega)) (eC Z (eC Z (eC Z (eC Z (eC Z (eC Z (eC Z (eC Z (eC Z (eN _)))))))))) (hD:=(fun d hd=>List.mem_cons_of_mem _ hd))
   have hhas:has=tb (CT v G):=by rw [hh,List.take_of_length_le aC];rfl
   refine rO 4 Z (zN Z Z aC ?_)
   refine oR 3 Z ?_
   exact kQ (hK3 (k+1,m) (⟨by show k+1≤_;omega,(by show _=ed _ _;rw [hm];exact(Fe hvk (xH.1 (hhas▸(by simpa using h75)))).symm)⟩) (by show vs.length - (k+1)<vs.length - k;omega)) (eC Z (eC Z (eC Z (eC Z (eC Z (eC Z (eC Z (eC Z (eC Z (eN _)))))))))) (hD:=(fun d hd=>List.mem_cons_of_mem _ hd))
  refine rO 6 Z (sM (j:=1) Z Z Z ?_)
  refine yO (zI Z (fun h80=>?_) (fun h80=>?_))
  ·refine rK 5 [2] Z Z ?_
   exact zD Tryz.results39 Z ⟨congrArg Value.bool (tb_f (fun e=>e.2 i G hG (by rw [hm,nr aC]at h80;exact h80))).symm,rfl,rfl⟩ nS (fun _ h=>by cases h)
  refine rO 4 Z (zN Z Z aC ?_)
  refine oK 3 [51,50,49,1] Z Z ?_
  exact kQ (hK2 (i+1,()) (⟨by show i+1≤_;omega,px hno hG (by rw [hm,nr aC]at h80;exact h80)⟩) (by show 4 - (i+1)<4 - i;omega)) (eC Z (eC Z (eC Z (eC Z (eN _))))) (hD:=(fun d hd=>List.mem_cons_of_mem _ hd))
 refine rR 6 Z ?_
 exact zD Tryz.results39 Z ⟨congrArg Value.bool (df (p:=Qm vs) ⟨hT1,fun q G hq=>hno q G hq (by have:=(List.getElem?_eq_some_iff.1 hq).1;have h4:keyGs.length=4:=rfl;omega)⟩).symm,rfl,rfl⟩ nS (fun _ h=>by cases h)
section rules
variable {P:Program} {n:Nat} {F:List Nat} {c:Ctx F} {ops:Array Oper} {d:Nat} {T:TypeId} {l:List Oper} {k:List KI} {Q:cu} {e:dF} {M:List HA} {D:List DA}
theorem A8{x y:Operand}{a b:Bool}{S S':TypeId}(hS:P.underlying S=some .bool)(hd:Nat.blt d n=true)(hx:ev e x=some (.bool a))(hy:ev e y=some (.bool b))(next:cG P n c ops l k Q ((d, .bool (!(a==b)))::e) M D):cL P n c ops (some d) (.binOp .neq S x y S') T l k Q e M D:=
 xR hd (fun q w hf=>by simp [execOp,dH,hf.ev hx,hf.ev hy,p8,run_neq_bool w S a b hS]) next
theorem zh{x y:Operand}{a1 a2 a3 a4 a5 b1 b2 b3 b4 b5:Value}{S E by_:Nat}(hS:cS P S E 5 by_)(hd:Nat.blt d n=true)(hx:ev e x=some (.agg #[a1,a2,a3,a4,a5]))(hy:ev e y=some (.agg #[b1,b2,b3,b4,b5]))
    (next: ∀ b,cG P n c ops l k Q ((d, .slice (some ⟨b,0,none⟩) 2 2)::e) (.blk b ([a1,a2,a3,a4,a5]++[b1,b2,b3,b4,b5]) E::M) D):cL P n c ops (some d) (.buildSlice S 2 #[(0,x),(1,y)]) T l k Q e M D:=by
  obtain⟨ti,z,hu',hinf,hs1,hb1,hz,hzs,hsz0⟩:=hS
  intro a w hf
  have hfill: ∀ zs:Array Value,zs.size=10→Instr.fill (fun i=>some (i*5,5)) zs [(0, .agg #[a1,a2,a3,a4,a5]),(1, .agg #[b1,b2,b3,b4,b5])]=some #[a1,a2,a3,a4,a5,b1,b2,b3,b4,b5]:=by
    intro zs hz
    obtain⟨zl⟩:=zs
    match zl,hz with
    |[_,_,_,_,_,_,_,_,_,_],_=>simp [Instr.fill,Value.cells]
  have hrun:(execOp a.eval (dH (some d) (.buildSlice S 2 #[(0,x),(1,y)]) T)).run P w= .ok (.value (.slice (some ⟨w.heap.size,0,none⟩) 2 2)) (w.alloc (.cells #[a1,a2,a3,a4,a5,b1,b2,b3,b4,b5] E (0,0))):=by
    have hb:(Instr.buildSlice S 2 #[(0,a.eval x),(1,a.eval y)]).run P w= .ok (.slice (some ⟨w.heap.size,0,none⟩) 2 2) (w.alloc (.cells #[a1,a2,a3,a4,a5,b1,b2,b3,b4,b5] E (0,0))):=by
      unfold Instr.buildSlice
      simp only [Sem.run_bind,run_underlying hu',Result.andThen_ok,xK hinf,hs1]
      rw [if_neg aE,if_neg aE]
      have hfl:=hfill ((Array.range (2*5)).map (z.cells[· %z.cells.size]!)) aJ
      simp only [Sem.run_bind,run_zeroValue' hinf hz,Result.andThen_ok,hf.ev hx,hf.ev hy,Sem.run_pure]
      rw [hfl]
      simp [newRow,newObj,Sem.run]
    simp only [execOp,dH,List.map_toArray,List.map_cons,List.map_nil,Sem.run_bind,hb,Result.andThen_ok,Sem.run_pure]
  unfold Oper.wp
  rw [hrun]
  have hx2:(HA.blk w.heap.size ([a1,a2,a3,a4,a5]++[b1,b2,b3,b4,b5]) E).holds (w.alloc (.cells #[a1,a2,a3,a4,a5,b1,b2,b3,b4,b5] E (0,0))):=by
    show(w.heap.push _)[w.heap.size]? =_
    simp
  exact next w.heap.size _ _ ((hf.world (hf.toFitsW.new _ hx2 Z)).put hd _)
theorem CU(i j1 j2:Nat){b:Nat}{E:TypeId}{xs ys:List Value}{v o:V}(hi:M[i]? =some (.blk b (xs++ys) E))(hj1:D[j1]? =some (.val (.agg xs.toArray) v))(hj2:D[j2]? =some (.val (.agg ys.toArray) o))(hx:xs.length=5)(hF: ∀ b∈F,b∈cP (M.eraseIdx i))(next:cG P n c ops l k Q e (M.eraseIdx i) (.vals (.slice (some ⟨b,0,none⟩) 2 2) [v,o]::D)):cG P n c ops l k Q e M D:=
  qX i [.vals (.slice (some ⟨b,0,none⟩) 2 2) [v,o]] hF hi (fun w ok h hok hD d hd=>by
    rcases List.mem_singleton.1 hd with rfl
    refine⟨some ⟨b,0,none⟩,2,rfl,Nat.le_refl _,by decide,⟨⟨b,0,none⟩, .agg xs.toArray,rfl,hok _ br,fun j u hu=>?_,hD _ (List.mem_of_getElem? hj1)⟩,⟨⟨b,0,none⟩, .agg ys.toArray,rfl,hok _ br,fun j u hu=>?_,hD _ (List.mem_of_getElem? hj2)⟩,trivial⟩
    · have hu:xs[j]? =some u:=by simpa [Value.cells]using hu
      have hj:=(List.getElem?_eq_some_iff.1 hu).1
      rw [wB,vL h,show 0+(0*5+j)=j by omega,List.getElem?_append_left hj]
      exact hu
    · have hu:ys[j]? =some u:=by simpa [Value.cells]using hu
      rw [wB,vL h,show 0+((0+1)*5+j)=5+j by omega,List.getElem?_append_right aC,hx,show 5+j - 5=j by omega]
      exact hu) next
end rules
theorem BA{p:V→Prop}{v o:V}(h1:p v)(h2:p o):ed p [v,o]=2:=by
 unfold ed
 simp [df h1,df h2]
theorem l6{v:V}{key:ByteArray}(hv:eM v):dw v key↔(getV v key).isSome=true:=by
 unfold getV
 constructor
 ·intro h
  rcases sO v.keys key with e|⟨i,e,hi⟩
  ·exact absurd h (by show ¬ 0≤_;rw [e];decide)
  ·have hl:=hv.1.wf.le
   rw [e,if_neg aC,show((i:Int)).toNat=i by omega,List.getElem?_eq_getElem aC]
   rfl
 ·intro h
  show 0≤_
  rcases sO v.keys key with e|⟨i,e,hi⟩
  ·rw [e]at h
   exact absurd h (by rw [if_pos Z];decide)
  ·rw [e];omega
theorem BB{v x:V}{key:ByteArray}(hv:eM v)(h:getV v key=some x):key∈v.keys:=(List.of_mem_zip ((xI hv.1 hv.2.kind).2 h)).1
theorem IC{v o:V}(hv:eM v)(ho:eM o)(h:Qm [v,o]):LU v o:=by
 obtain⟨h1,h2⟩:=h
 have kv: ∀ key x,getV v key=some x→ ¬ lS [v,o] key:=fun key x hx=>h1 0 v rfl key (BB hv hx)
 have ko: ∀ key x,getV o key=some x→ ¬ lS [v,o] key:=fun key x hx=>h1 1 o rfl key (BB ho hx)
 have none_of: ∀ key,(key=k3∨key=kId)→getV v key=none∧getV o key=none:=fun key hk=>⟨jz fun e=>by
  obtain⟨x,hx⟩:=Option.isSome_iff_exists.1 e
  exact kv key x hx (.inr hk),jz fun e=>by
  obtain⟨x,hx⟩:=Option.isSome_iff_exists.1 e
  exact ko key x hx (.inr hk)⟩
 refine⟨fun key hk e1 e2=>?_,none_of k3 (.inl Z),none_of kId (.inr Z),fun key g hg e1 e2=>?_⟩
 ·obtain⟨x,hx⟩:=Option.isSome_iff_exists.1 e1
  refine kv key x hx (.inl ⟨by unfold eb at hk;simpa using hk,?_⟩)
  rw [BA ((l6 hv).2 e1) ((l6 ho).2 e2)]
  decide
 ·have mates: ∃(q:Nat) (G:List ByteArray),keyGs[q]? =some G∧key∈G∧g∈G:=by
   have hd: ∀ p∈kZ,∃(q:Nat) (G:List ByteArray),keyGs[q]? =some G∧p.1∈G∧p.2∈G:=by
    intro p hp
    simp only [kZ,List.mem_cons,List.not_mem_nil,or_false]at hp
    rcases hp with rfl|rfl|rfl|rfl|rfl
    ·exact⟨2,_,rfl,by simp,by simp⟩
    ·exact⟨3,_,rfl,by simp,by simp⟩
    ·exact⟨1,_,rfl,by simp,by simp⟩
    ·exact⟨0,_,rfl,by simp,by simp⟩
    ·exact⟨0,_,rfl,by simp,by simp⟩
   rcases hg with hg|hg|⟨rfl,rfl⟩|⟨rfl,rfl⟩
   ·exact hd _ hg
   ·obtain⟨q,G,a,b,c⟩:=hd _ hg
    exact⟨q,G,a,c,b⟩
   ·exact⟨0,_,rfl,by simp,by simp⟩
   ·exact⟨0,_,rfl,by simp,by simp⟩
  obtain⟨q,G,hq,hk,hg'⟩:=mates
  refine h2 q G hq ?_
  rw [BA ⟨key,hk,(l6 hv).2 e1⟩ ⟨g,hg',(l6 ho).2 e2⟩]
  decide
theorem BD{r:Option Bool}{b:Bool}(h:TB r b true):r=some b:=by
  cases r with
  |none=>have h:true=false:=h;cases h
  |some b'=>have h:true=true∧b=b':=h;rw [h.2]
theorem ID{r:Option Bool}{b t b0:Bool}(h:TB r b t)(hr:r=some b0):t=true∧b=b0:=by
 subst hr
 exact h
set_option maxHeartbeats 1000000 in
theorem SC(fb:Addr)(v:V)(x:Value)(o:V)(y:Value)(A:Option Addr)(cc:Nat)(vs:List V)(hn:nodes v+nodes o≤1000000000):di Tryz.prog 10 #[x,y, .slice A vs.length cc] [.val x v, .val y o, .vals (.slice A vs.length cc) vs, .tab,yd fb] (.bool true):=by
 refine Ct.of_run (args:=[x,y, .slice A vs.length cc]) Tryz.func10 aF Z Tryz.ntmps10 Z (fun c=>?_)
 refine yN 0 Z (fun A1 c1 A2 c2 hx hsz1 hk1 hk2 hi1 hi2=>?_)
 subst hx
 refine yN 3 Z (fun A3 c3 A4 c4 hx hsz3 hk3 hk4 hi3 hi4=>?_)
 subst hx
 refine rO 3 Z (yK Z Z Z (fun b3=>?_))
 refine zA (yK Z Z Z (fun b4=>?_))
 refine oO 7 Z (zK 1 Z cM Z Z ?_)
 refine zA (zL Z Z Z (RD _ v) aA ?_)
 refine oS 4 Z (zY (s:=19) Z (fun h19=>?_) (fun h19=>?_))
 ·refine oK 13 [28,4,3,2] Z Z (rR 6 Z ?_)
  exact zD Tryz.results10 Z ⟨rfl,rfl,rfl⟩ nS (fun _ h=>by cases h)
 refine zH Z Z (zK 0 Z cM Z Z ?_)
 refine zH Z Z (zL Z Z Z (RD _ o) aA ?_)
 refine oS 6 Z (zY (s:=24) Z (fun h24=>?_) (fun h24=>?_))
 ·refine oK 6 [28,4,3,2] Z Z (rR 6 Z ?_)
  exact zD Tryz.results10 Z ⟨rfl,rfl,rfl⟩ nS (fun _ h=>by cases h)
 refine oO 3 Z (zX cX Z Z ?_)
 refine zH Z Z (sM (j:=2147483647) Z Z Z ?_)
 refine oK 3 [28,4,3,2] Z Z (zI Z (fun h28=>?_) (fun h28=>?_))
 ·refine rR 5 Z ?_
  exact zD Tryz.results10 Z ⟨rfl,rfl,rfl⟩ nS (fun _ h=>by cases h)
 refine rO 5 Z (zK 1 Z cM Z Z ?_)
 refine zA (zL Z Z Z (PC v _) aA ?_)
 refine oS 4 Z (zY (s:=32) Z (fun h32=>?_) (fun h32=>?_))
 ·refine oK 24 [50,4,3,2] Z Z (rR 6 Z ?_)
  exact zD Tryz.results10 Z ⟨rfl,rfl,rfl⟩ nS (fun _ h=>by cases h)
 have hsv0:dC v:=yS.1 (by simpa using h32)
 have hv:eM v:=⟨⟨12,hsv0.1.1⟩,hsv0.2⟩
 refine zH Z Z (zK 0 Z cM Z Z ?_)
 refine zH Z Z (zL Z Z Z (PC o _) aA ?_)
 refine oS 6 Z (zY (s:=37) Z (fun h37=>?_) (fun h37=>?_))
 ·refine oK 17 [50,4,3,2] Z Z (rR 6 Z ?_)
  exact zD Tryz.results10 Z ⟨rfl,rfl,rfl⟩ nS (fun _ h=>by cases h)
 have hso0:dC o:=yS.1 (by simpa using h37)
 have ho:eM o:=⟨⟨12,hso0.1.1⟩,hso0.2⟩
 refine zH Z Z (zK 1 Z cM Z Z ?_)
 refine zH Z Z (zK 0 Z cM Z Z ?_)
 refine zH Z Z ?_
 refine yE Z Z Z (R4 v o _ _ hv ho) aB (fun u40 D40 hv40=>?_)
 obtain⟨A40,m40,B40,d40,rfl,rfl⟩:=hv40
 refine zH Z Z (zL Z Z Z (PC (copiedV v o) _) aA ?_)
 refine oS 6 Z (zY (s:=44) Z (fun h44=>?_) (fun h44=>?_))
 ·refine oK 8 [50,4,3,2] Z Z (rR 6 Z ?_)
  exact zD Tryz.results10 Z ⟨rfl,rfl,rfl⟩ nS (fun _ h=>by cases h)
 have hsc0:dC (copiedV v o):=yS.1 (by simpa using h44)
 have hc:eM (copiedV v o):=⟨⟨12,hsc0.1.1⟩,hsc0.2⟩
 refine zH Z Z (zK 1 Z cM Z Z ?_)
 refine zH Z Z (zK 0 Z cM Z Z ?_)
 refine zH Z Z (zh cX Z Z Z (fun b47=>?_))
 refine CU 0 5 6 Z Z Z Z aG (zH Z Z ?_)
 refine zL Z Z Z (SB (some ⟨b47,0,none⟩) 2 [v,o] (show 2≤1000000000 by decide)) (cO 0 Z) (oK 5 [50,4,3,2] Z Z ?_)
 refine yC Z (fun h50=>?_) (fun h50=>?_)
 ·refine rR 5 Z ?_
  exact zD Tryz.results10 Z ⟨rfl,rfl,rfl⟩ nS (fun _ h=>by cases h)
 have hT:LU v o:=IC hv ho (yS.1 bp)
 refine rO 4 Z (zK 1 Z cM Z Z ?_)
 refine zA (zK 0 Z cM Z Z ?_)
 refine zA ?_
 refine yE Z Z Z (c38 fb v o _ _ hv ho hc) aT (fun u53 D53 hv53=>?_)
 obtain⟨g,hg⟩: ∃g,g=wr (copiedV v o):=⟨_,rfl⟩
 rw [←hg]at hv53
 obtain⟨A53,m53,B53,d53,rfl,rfl⟩:=hv53
 refine zA (yA Jl Z (fun b7=>?_))
 change cG _ _ _ _ _ _ _ _ (HA.blk _ [_,_,_,_,_,_] _::_) _
 refine zA (zG 0 (M':=[HA.blk _ [_,_,_,_,_,_] _,_,_]) Z Z Z Z Jk Z Z Z ?_)
 refine oO 5 Z (zC Jm Z Z ?_)
 refine zA (zF 0 dx Z Z Z Z ?_)
 refine zA (uG Z Z Z ?_)
 refine oO 9 Z (zX cX Z Z ?_)
 refine oK 4 [59,58,57,7,4,3] Z Z (tR (D':= .val (.agg #[.int .i64 g.kind, .int .i64 g.num, .string g.text, .slice A53 g.keys.length m53, .slice B53 g.items.length d53]) g:: .val (.agg #[.int .i64 v.kind, .int .i64 v.num, .string v.text, .slice A1 v.keys.length c1, .slice A2 v.items.length c2]) v:: .val (.agg #[.int .i64 o.kind, .int .i64 o.num, .string o.text, .slice A3 o.keys.length c3, .slice A4 o.items.length c4]) o:: .vals (.slice A vs.length cc) vs::[]) aT ?_)
 refine yB 1 (fun(⟨i,u⟩:Nat×Unit)=>i≤vs.length) (fun(⟨i,u⟩:Nat×Unit)=>[(59, .int .i64 ((i:Nat):Int))]) (fun(⟨i,u⟩:Nat×Unit)=>HA.blk b7 [.int .i64 0, .int .i64 g.kind, .int .i64 g.num, .string g.text, .slice A53 g.keys.length m53, .slice B53 g.items.length d53] 34::HA.blk b4 [.int .i64 o.kind, .int .i64 o.num, .string o.text, .slice A3 o.keys.length c3, .slice A4 o.items.length c4] 25::HA.blk b3 [.int .i64 v.kind, .int .i64 v.num, .string v.text, .slice A1 v.keys.length c1, .slice A2 v.items.length c2] 25::[]) (fun(⟨i,u⟩:Nat×Unit)=> .val (.agg #[.int .i64 g.kind, .int .i64 g.num, .string g.text, .slice A53 g.keys.length m53, .slice B53 g.items.length d53]) g:: .val (.agg #[.int .i64 v.kind, .int .i64 v.num, .string v.text, .slice A1 v.keys.length c1, .slice A2 v.items.length c2]) v:: .val (.agg #[.int .i64 o.kind, .int .i64 o.num, .string o.text, .slice A3 o.keys.length c3, .slice A4 o.items.length c4]) o:: .vals (.slice A vs.length cc) vs::[]) (fun(⟨i,u⟩:Nat×Unit)=>vs.length - i) (0,()) (Nat.zero_le _) (eC Z (eN _)) Z Z ?_ (eC Z (eC Z (eC Z (eC Z (eC Z (eN _))))))
 intro ⟨i,u⟩ hI K hK
 replace hI:i≤vs.length:=hI
 change Run _ _ _ _ _ [(59,_),(58,_),(57,_),(7,_),(4,_),(3,_)] [_,_,_] [_,_,_,_]
 replace hI:i≤vs.length:=hI
 refine rO 3 Z (yL Z Z Z ?_)
 refine oR 2 Z (zI Z (fun h60=>?_) (fun h60=>?_))
 ·obtain⟨x,hvi⟩: ∃x,vs[i]? =some x:=⟨_,List.getElem?_eq_getElem h60⟩
  refine rO 6 Z (xC 3 cX Z Z Z Z h60 ?_)
  refine zA (xB 3 cM Z Z Z hvi (fun A62 c62 B62 d62=>?_))
  refine zA (yA dE Z (fun b9=>?_))
  change cG _ _ _ _ _ _ _ _ (HA.blk _ [_,_,_,_,_] _::_) _
  refine zA (zG 0 (M':=[HA.blk _ [_,_,_,_,_] _,_,_,_]) Z Z Z Z co Z Z Z ?_)
  refine oO 4 Z (zK 3 Z cM Z Z ?_)
  refine zA (zK 0 Z cM Z Z ?_)
  refine zA (yE Z Z Z (RL Lg v x _ _) (dP 2 0 Z Z) (fun u66 D66 hv66=>?_))
  obtain⟨a1,t1,rfl,rfl,hq1⟩:=hv66
  refine oK 11 [11,10,9,59,58,57,7,4,3] Z Z (rO 3 Z ?_)
  refine zK 2 Z cM Z Z (zA ?_)
  refine zK 0 Z cM Z Z (zA ?_)
  refine yE Z Z Z (RL Lg o x _ _) (dP 3 0 Z Z) (fun u72 D72 hv72=>?_)
  obtain⟨a2,t2,rfl,rfl,hq2⟩:=hv72
  refine oK 11 [13,12,11,10,9,59,58,57,7,4,3] Z Z (rS 9 Z ?_)
  refine zY (s:=77) Z (fun h77=>?_) (fun h77=>?_)
  ·refine oK 5 [80,12,10,9,59,58,57,7,4,3] Z Z (rO 4 Z ?_)
   refine zN Z Z aC (oR 3 Z ?_)
   exact kQ (hK (i+1,()) (bW) az) (eC Z (eC Z (eC Z (eC Z (eC Z (eC Z (eN _)))))))
  obtain rfl:t1=true:=by simpa using h77
  refine oK 7 [80,12,10,9,59,58,57,7,4,3] Z Z (yC Z (fun h80=>?_) (fun h80=>?_))
  ·refine rO 3 Z (zN Z Z aC ?_)
   refine oR 3 Z ?_
   exact kQ (hK (i+1,()) (bW) az) (eC Z (eC Z (eC Z (eC Z (eC Z (eC Z (eN _)))))))
  obtain rfl:t2=true:=by simpa using h80
  refine rO 4 Z (zC Jn Z Z ?_)
  refine zA (Cg 1 Z cM Z Z Z Z ?_)
  refine zA (zK 0 Z cM Z Z ?_)
  refine zA (yE Z Z Z (c41 Lg g x _ _) (dP 1 0 Z Z) (fun u85 D85 hv85=>?_))
  obtain⟨a3,t3,rfl,rfl,hq3⟩:=hv85
  obtain⟨rfl,rfl⟩:=ID hq3 (by rw [hg];exact za hsv0 hso0 hsc0 hn hT (BD hq1) (BD hq2))
  refine oK 11 [15,14,12,10,59,58,57,7,4,3] Z Z (rS 8 Z ?_)
  refine wL (s:=90) Z (rfl) (oS 6 Z ?_)
  refine zY (s:=93) Z (fun h93=>?_) (fun h93=>?_)
  ·refine oO 5 Z (A8 Tryz.underlying4 Z Z Z ?_)
   refine oK 3 [97,59,58,57,7,4,3] Z Z (yC Z (fun h97=>?_) (fun h97=>?_))
   ·refine rR 5 Z ?_
    exact absurd h97 (by cases a1<;>cases a2<;>simp_all)
   refine rO 4 Z (zN Z Z aC ?_)
   refine oR 3 Z ?_
   exact kQ (hK (i+1,()) (bW) az) (eC Z (eC Z (eC Z (eC Z (eC Z (eC Z (eN _)))))))
  refine oO 4 Z (A8 Tryz.underlying4 Z Z Z ?_)
  refine oK 3 [97,59,58,57,7,4,3] Z Z (yC Z (fun h97=>?_) (fun h97=>?_))
  ·refine rR 5 Z ?_
   exact absurd h97 (by cases a1<;>cases a2<;>simp_all)
  refine rO 4 Z (zN Z Z aC ?_)
  refine oR 3 Z ?_
  exact kQ (hK (i+1,()) (bW) az) (eC Z (eC Z (eC Z (eC Z (eC Z (eC Z (eN _)))))))
 refine rR 6 Z ?_
 exact zD Tryz.results10 Z ⟨rfl,rfl,rfl⟩ nS (fun _ h=>by cases h)
end Go.Jw

namespace Go.Jw
open Go Go.RowKit Go.Proofs Go.ChangeShapes Go.WideShapes Go.Proofs.YtlcfillobkdnmaaGreatDoor
set_option maxRecDepth 8000
theorem fX{w:World}{a:Addr}{v:Value}(h:w.cell? a=some v):a.block<w.heap.size:=by
 rcases Nat.lt_or_ge a.block w.heap.size with hlt|hge
 ·exact hlt
 ·unfold World.cell? at h
  rw [Array.getElem?_eq_none hge]at h
  simp at h
theorem RP:Tryz.prog.cellsOf 9=1:=by kernel_rfl
theorem Lh:Tryz.prog.cellsOf 25=5:=by kernel_rfl
theorem RQ:Tryz.prog.cellsOf 2=1:=by kernel_rfl
theorem Qn:Tryz.prog.cellsOf 22=1:=by kernel_rfl
theorem Qo:Tryz.prog.cellsOf 23=1:=by kernel_rfl
section
variable {H:Type} {enc:TypeId×Value→H} {W:World} {held:Bool}
theorem sx{n:Nat}{kv:Value}{x:DataW H×List MemPlace}(h:DataW.trod enc Tryz.prog W 0 (fun _=>true) held n 22 [kv]=some x): ∃ks,StrsP W (· <W.heap.size) kv ks:=by
 rcases open_strings Tryz.underlying22 Tryz.underlying9 RP h with ⟨h1,_⟩|⟨a,len,cap,ss,h1,_,hl,hc,hs,_,hg,hsz⟩
 ·injection h1 with h1
  exact⟨[],none,0,h1,Nat.le_refl _,Nat.zero_le _,(fun s hs=>by cases hs),fun i s hi=>by simp at hi⟩
 ·injection h1 with h1
  simp only [if_true]at hs
  have hlen:(ss.take len).length=len:=by rw [List.length_take];omega
  refine⟨ss.take len,some a,cap,by rw [hlen];exact h1,aC,hc,fun s hm=>hsz s (List.mem_of_mem_take hm),fun i s hi=>?_⟩
  have hil:i<len:=by
   have:=(List.getElem?_eq_some_iff.1 hi).1
   omega
  have hi':ss[i]? =some s:=by rw [←hi,List.getElem?_take];simp [hil]
  have hcell:=hg i aC
  have hd:ss.getD i ByteArray.empty=s:=by rw [List.getD_eq_getElem?_getD,hi'];rfl
  rw [hd]at hcell
  exact⟨a,rfl,by have:=fX hcell;rwa [vH]at this,by rw [Nat.mul_one];exact hcell⟩
theorem wm: ∀ (l:List V) (l':List (DataW H)),l.length=l'.length→(∀ (i:Nat) t d,l[i]? =some t→l'[i]? =some d→2*nodes t≤Rows.uptoBulk d)→2*(l.map nodes).sum≤Rows.uptoBulkAll l'
  |[],_,_,_=>Nat.zero_le _
  |t::l,[],h,_=>by simp at h
  |t::l,d::l',h,hi=>by
    have h1:=hi 0 t d rfl rfl
    have h2:=wm l l' cA (fun i t d a b=>hi (i+1) t d (by simpa using a) (by simpa using b))
    simp only [List.map_cons,List.sum_cons,Rows.uptoBulkAll]
    omega
theorem gP(n:Nat): ∀ (cs:List Value) (x:DataW H×List MemPlace),DataW.trod enc Tryz.prog W 0 (fun _=>true) held n 25 cs=some x→ ∃t,ValP W (· <W.heap.size) t (.agg cs.toArray)∧2*nodes t≤Rows.uptoBulk x.1:=by
  induction n using Nat.strongRecOn with
  |_ n IH=>
    intro cs x h
    obtain⟨xs,m,hm,rfl,hl,hlen,hf⟩:=DataW.trod_struct Tryz.underlying25 h
    rw [Lh]at hl
    match cs,hl with
    |[c0,c1,c2,c3,c4],_=>
    match xs,hlen with
    |[y0,y1,y2,y3,y4],_=>
    have h0:DataW.trod enc Tryz.prog W 0 (fun _=>true) held m 2 [c0]=some y0:=by simpa [RQ]using hf 0 _ rfl
    have h1:DataW.trod enc Tryz.prog W 0 (fun _=>true) held m 2 [c1]=some y1:=by simpa [RQ]using hf 1 _ rfl
    have h2:DataW.trod enc Tryz.prog W 0 (fun _=>true) held m 9 [c2]=some y2:=by simpa [RP]using hf 2 _ rfl
    have h3:DataW.trod enc Tryz.prog W 0 (fun _=>true) held m 22 [c3]=some y3:=by simpa [Qn]using hf 3 _ rfl
    have h4:DataW.trod enc Tryz.prog W 0 (fun _=>true) held m 23 [c4]=some y4:=by simpa [Qo]using hf 4 _ rfl
    obtain⟨k,e0,g0⟩:=DataW.trod_int Tryz.underlying2 h0
    obtain⟨q,e1,_⟩:=DataW.trod_int Tryz.underlying2 h1
    obtain⟨s,e2,_,hs⟩:=DataW.trod_string Tryz.underlying9 h2
    obtain⟨ks,hks⟩:=sx h3
    injection e0 with e0;injection e1 with e1;injection e2 with e2
    subst e0;subst e1;subst e2
    have hy0:Rows.uptoBulk y0.1=1:=by rw [g0.1];simp [Rows.uptoBulk]
    have hbulk:Rows.uptoBulk y4.1+2≤Rows.uptoBulk (DataW.agg [y0.1,y1.1,y2.1,y3.1,y4.1]):=by
      simp only [Rows.uptoBulk,Rows.uptoBulkAll]
      omega
    show∃t,_∧2*nodes t≤Rows.uptoBulk (DataW.agg [y0.1,y1.1,y2.1,y3.1,y4.1])
    rcases DataW.trod_slice Tryz.underlying23 h4 with ⟨h5,_⟩|⟨a,len,cap,elems,rest,m',hm',h5,h6,hb,hle,hc,hln,hel,hsp,_⟩
    · injection h5 with h5
      refine⟨.mk k q s ks [],?_,?_⟩
      · simp only [ValP]
        exact⟨_,_,rfl,hs,hks,none,0,h5,Nat.le_refl _,Nat.zero_le _,by simp [ItemsP]⟩
      · rw [tK];simp only [MH,List.map_nil,List.sum_nil];omega
    · injection h5 with h5
      have hall: ∀ i,∃t,i<len→ ∃csi,∃y,elems[i]? =some y∧W.cells? 0 (a.add (i*5)) 5=some csi∧ValP W (· <W.heap.size) t (.agg csi.toArray)∧2*nodes t≤Rows.uptoBulk y.1:=by
        intro i
        by_cases hi:i<len
        · have he:=hel i hi
          rw [Lh,List.getElem?_eq_getElem aC]at he
          obtain⟨csi,hcs,htr⟩:=Option.bind_eq_some_iff.1 he
          obtain⟨t,ht,hnt⟩:=IH m' aC csi _ htr
          exact⟨t,fun _=>⟨csi,_,List.getElem?_eq_getElem aC,hcs,ht,hnt⟩⟩
        · exact⟨CX,fun h=>absurd h hi⟩
      obtain⟨f,hfa⟩:=Classical.axiomOfChoice hall
      have hget: ∀ j t,((List.range len).map f)[j]? =some t→j<len∧t=f j:=by
        intro j t hj
        rw [List.getElem?_map]at hj
        obtain⟨z,hz,rfl⟩:=Option.map_eq_some_iff.1 hj
        obtain⟨h1,h2⟩:=List.getElem?_eq_some_iff.1 hz
        rw [List.getElem_range]at h2
        rw [List.length_range]at h1
        exact⟨h1,by rw [h2]⟩
      refine⟨.mk k q s ks ((List.range len).map f),?_,?_⟩
      · simp only [ValP]
        refine⟨_,_,rfl,hs,hks,some a,cap,by rw [List.length_map,List.length_range];exact h5,by rw [List.length_map,List.length_range];exact hle,hc,ItemsP.of_get fun j t hj=>?_⟩
        obtain⟨hjl,rfl⟩:=hget j t hj
        obtain⟨csi,y,_,hcs,hv,_⟩:=hfa j hjl
        obtain⟨_,hcl,hcc⟩:=World.cells?_some hcs
        have hadd: ∀ q,(a.add (j*5)).add q=a.add ((0+j)*5+q):=fun q=>by rw [Nat.zero_add];exact add_add' a _ _
        refine⟨a, .agg csi.toArray,rfl,?_,fun q u hq=>?_,hv⟩
        · have:=hcc 0 aC
          rw [List.getElem?_eq_getElem aC]at this
          have:=fX this
          rwa [vH,vH]at this
        · have hq':csi[q]? =some u:=by simpa [Value.cells]using hq
          have hql:=(List.getElem?_eq_some_iff.1 hq').1
          rw [←hadd,hcc q aC]
          exact hq'
      · have hsum:=wm ((List.range len).map f) (elems.map (·.1)) cD (fun i t d ht hd=>by
          obtain⟨hil,rfl⟩:=hget i t ht
          obtain⟨csi,y,hy,_,_,hn⟩:=hfa i hil
          rw [List.getElem?_map,hy]at hd
          injection hd with hd
          rw [←hd];exact hn)
        rw [tK]
        simp only [MH]
        have:Rows.uptoBulkAll (elems.map (·.1))≤Rows.uptoBulk y4.1:=by
          rw [h6]
          simp only [Rows.uptoBulk]
          omega
        omega
end
theorem fY{P:Program}{w:World}{n:String}{d:DataW Unit}: ∀ {l:List (String×DataW Unit)} {ps:List MemPlace},DataW.LaidVars P w l ps→(n,d)∈l→
    ∃g t cs fuel p,P.globalNamed n=some g∧(P.globals[g]?).map (·.type)=some t∧w.var? P n=some cs∧DataW.trod (fun _=>()) P w 0 (fun _=>true) false fuel t cs.toList=some (d,p)
  |[],_,_,h=>by cases h
  |(n',d')::l,ps,⟨g,t,cs,fuel,p,q,h1,h2,h3,h4,h5,_⟩,h=>by
    rcases List.mem_cons.1 h with h|h
    · injection h with h h'
      subst h;subst h'
      exact⟨g,t,cs,fuel,p,h1,h2,h3,h4⟩
    · exact fY h5 h
theorem gU:Tryz.prog.globalNamed "internal/strconv.uint64pow10" =some 0:=by kernel_rfl
theorem gUt:(Tryz.prog.globals[0]?).map (·.type)=some 270:=by kernel_rfl
theorem JZ:Tryz.prog.cellsOf 235=1:=by kernel_rfl
theorem Ja:Tryz.prog.cellsOf 270=20:=by kernel_rfl
theorem Ff{W:World}{l:List (String×DataW Unit)}(h:laidMet Tryz.prog l W)(hm:("internal/strconv.uint64pow10",Rows.laid_internal_strconv_uint64pow10)∈l):DA.tab.p W (· <W.heap.size):=by
  obtain⟨ps,hv,_⟩:=h
  obtain⟨g,t,cs,fuel,p,h1,h2,h3,h4⟩:=fY hv hm
  obtain rfl:=Option.some.inj (gU.symm.trans h1)
  obtain rfl:=Option.some.inj (gUt.symm.trans h2)
  have hc:=Lib.cells_of_tab (zs:=Lib.pow10Tab) Tryz.underlying270 Tryz.underlying235 JZ Ja h4
  unfold World.var? at h3
  rw [h1]at h3
  simp only [Option.bind_some]at h3
  cases hh:W.heap[0]? with
  |none=>rw [hh]at h3;cases h3
  |some o=>
    rw [hh]at h3
    cases o with
    |cells c T fz=>
      simp at h3
      subst h3
      refine⟨0,T,fz,gU,(Array.getElem?_eq_some_iff.1 hh).1,?_⟩
      rw [hh,←hc]
    |_=>simp at h3
def DA.any:DA:=⟨fun _ _=>True,fun _ _ _=>trivial⟩
theorem Fg{f:FuncId}{args:Array Value}{D:List DA}{v:Value}{W:World}(h:di Tryz.prog f args D v)(hD: ∀ d∈D,d.p W (· <W.heap.size)):Calls Tryz.prog f args W fun e W'=>e= .returned v∧Below W.heap.size W W':=
 (h.2 W (· <W.heap.size) (fun k hk=>⟨hk,by simp [cP]⟩) aJ (by simp [cP]) hD).mono fun e W' ⟨u,M',D',he,⟨hu,hM,hd⟩,hc,_⟩=>⟨by rw [he,hu],hc.below⟩
theorem sy:laidOutB Tryz.prog=true:=by kernel_rfl
end Go.Jw

namespace Go.Jw
open Go Go.RowKit Go.Proofs Go.ChangeShapes Go.WideShapes Go.Proofs.YtlcfillobkdnmaaGreatDoor
set_option maxRecDepth 20000
section
variable {W:World}
noncomputable abbrev lI(W:World)(fuel:Nat)(t:TypeId)(cs:List Value):=DataW.trod (fun _=>()) Tryz.prog W 0 (fun _=>true) false fuel t cs
theorem ns{l:List (String×DataW Unit)}(h:laidMet Tryz.prog l W){n:String}{d:DataW Unit}(hm:(n,d)∈l){g t:Nat}(hg:Tryz.prog.globalNamed n=some g)(ht:(Tryz.prog.globals[g]?).map (·.type)=some t):
    ∃(c:Array Value) (fuel:Nat) (p:List MemPlace),(∀ (i:Nat) v,c.toList[i]? =some v→W.cell? ⟨g,i,none⟩=some v)∧lI W fuel t c.toList=some (d,p):=by
  obtain⟨ps,hv,_⟩:=h
  obtain⟨g',t',cs,fuel,p,h1,h2,h3,h4⟩:=fY hv hm
  obtain rfl:=Option.some.inj (hg.symm.trans h1)
  obtain rfl:=Option.some.inj (ht.symm.trans h2)
  refine⟨cs,fuel,p,fun i v hi=>?_,h4⟩
  unfold World.var? at h3
  rw [h1]at h3
  simp only [Option.bind_some]at h3
  unfold World.cell?
  cases hh:W.heap[g]? with
  |none=>rw [hh]at h3;cases h3
  |some o=>
    rw [hh]at h3
    cases o with
    |cells c T fz=>
      simp at h3
      subst h3
      simpa using hi
    |_=>simp at h3
theorem IE{fuel:Nat}{t:TypeId}{cs:List Value}{x:DataW Unit×List MemPlace}(ht:Tryz.prog.underlying t=some (.float .f64))(h:lI W fuel t cs=some x): ∃b,cs=[.float .f64 b]∧x=(.lit (.float .f64 b),[]):=by
  cases fuel with
  |zero=>simp [lI,DataW.trod]at h
  |succ n=>
    unfold lI DataW.trod at h
    rw [ht]at h
    split at h<;>simp_all
theorem Oj:Tryz.prog.cellsOf 359=2:=by kernel_rfl
theorem Ok:Tryz.prog.cellsOf 360=1392:=by kernel_rfl
theorem Ol:Tryz.prog.cellsOf 214=1:=by kernel_rfl
theorem Li{cs:List Value}{o:Nat}{v:Value}(h:(cs.drop o).take 1=[v]):cs[o]? =some v:=by
 have:=congrArg (·[0]?) h
 simpa [List.getElem?_take,List.getElem?_drop]using this
theorem IF{fuel:Nat}{cs:List Value}{x:DataW Unit×List MemPlace}{a b:Int}(h:lI W fuel 359 cs=some x)(hx:x.1= .agg [.lit (.int .u64 a), .lit (.int .u64 b)]):cs[0]? =some (.int .u64 a)∧cs[1]? =some (.int .u64 b):=by
  obtain⟨xs,n,_,rfl,_,hl,hf⟩:=DataW.trod_struct Tryz.underlying359 h
  have h0:=hf 0 _ rfl
  have h1:=hf 1 _ rfl
  have hxs:xs.map (·.1)=[.lit (.int .u64 a), .lit (.int .u64 b)]:=by
    have:=hx
    simpa using this
  match xs,hxs with
  |[y0,y1],hxs=>
    simp only [List.map_cons,List.map_nil,List.cons.injEq,and_true]at hxs
    obtain⟨m0,e0,f0,_⟩:=DataW.trod_int Tryz.underlying235 h0
    obtain⟨m1,e1,f1,_⟩:=DataW.trod_int Tryz.underlying235 h1
    subst f0;subst f1
    simp only [DataW.lit.injEq,Lit.int.injEq,true_and]at hxs
    obtain⟨rfl,rfl⟩:=hxs
    exact⟨Li (o:=0) e0,Li (o:=1) e1⟩
theorem Fh{fuel:Nat}{cs:List Value}{p:List MemPlace}(h:lI W fuel 360 cs=some (Go.Pinned.pow10Tab,p))(i:Nat)(hi:i<696){a b:Nat}(hr:Go.Pinned.pow10Rows[i]? =some (a,b)):cs[2*i]? =some (.int .u64 a)∧cs[2*i+1]? =some (.int .u64 b):=by
  cases fuel with
  |zero=>simp [lI,DataW.trod]at h
  |succ fuel=>
    simp only [lI,DataW.trod,Tryz.underlying360,Oj,Ok]at h
    split at h
    · obtain⟨xs,hm,hx⟩:=Option.map_eq_some_iff.1 h
      obtain⟨y,hy,hf⟩:=Lib.mapM_at hm i i (by simp [hi])
      have hxs:xs.map (·.1)=Go.Pinned.pow10Rows.map fun x=> .agg [.lit (.int .u64 x.1), .lit (.int .u64 x.2)]:=by
        have:=congrArg Prod.fst hx
        simpa [Go.Pinned.pow10Tab]using this
      have hy1:y.1= .agg [.lit (.int .u64 (a:Int)), .lit (.int .u64 (b:Int))]:=by
        have:=congrArg (·[i]?) hxs
        simp only [List.getElem?_map,hy,hr,Option.map_some,Option.some.injEq]at this
        exact this
      obtain⟨h0,h1⟩:=IF hf hy1
      rw [List.getElem?_take,if_pos aC,List.getElem?_drop]at h0 h1
      rw [Nat.mul_comm 2 i]
      exact⟨h0,h1⟩
    · cases h
theorem Lj(i:Nat)(h:i<20):Lib.pow10Tab[i]? =some ((10^i:Nat):Int):=(show ∀ i,i<20→Lib.pow10Tab[i]? =some ((10^i:Nat):Int)by decide) i h
theorem g4:Tryz.prog.globalNamed "internal/strconv.optimize" =some 4:=by kernel_rfl
theorem SD:(Tryz.prog.globals[4]?).map (·.type)=some 4:=by kernel_rfl
theorem g5:Tryz.prog.globalNamed "internal/strconv.float64info" =some 5:=by kernel_rfl
theorem SE:(Tryz.prog.globals[5]?).map (·.type)=some 305:=by kernel_rfl
theorem SF:Tryz.prog.globalNamed "internal/strconv.float64pow10" =some 10:=by kernel_rfl
theorem Qp:(Tryz.prog.globals[10]?).map (·.type)=some 349:=by kernel_rfl
theorem SG:Tryz.prog.globalNamed "internal/strconv.pow10Tab" =some 11:=by kernel_rfl
theorem Qq:(Tryz.prog.globals[11]?).map (·.type)=some 360:=by kernel_rfl
theorem Qr:Go.Pinned.pow10Rows[354]? =some (17592186044416000000,0):=by kernel_rfl
theorem Qs:Go.Pinned.pow10Rows[355]? =some (10995116277760000000,0):=by kernel_rfl
theorem Om{l:List (String×DataW Unit)}(h:laidMet Tryz.prog l W)(m0:("internal/strconv.uint64pow10",Rows.laid_internal_strconv_uint64pow10)∈l)(m4:("internal/strconv.optimize",Rows.laid_internal_strconv_optimize)∈l)
  (m5:("internal/strconv.float64info",Rows.laid_internal_strconv_float64info)∈l) (m10:("internal/strconv.float64pow10",Rows.laid_internal_strconv_float64pow10)∈l) (m11:("internal/strconv.pow10Tab",Rows.laid_internal_strconv_pow10Tab)∈l):
  ∃fb,(yd fb).p W (· <W.heap.size):=by
 obtain⟨c0,fu0,p0,k0,t0⟩:=ns h m0 gU gUt
 obtain⟨c4,fu4,p4,k4,t4⟩:=ns h m4 g4 SD
 obtain⟨c5,fu5,p5,k5,t5⟩:=ns h m5 g5 SE
 obtain⟨c10,fu10,p10,k10,t10⟩:=ns h m10 SF Qp
 obtain⟨c11,fu11,p11,k11,t11⟩:=ns h m11 SG Qq
 have e0:=Lib.cells_of_tab (zs:=Lib.pow10Tab) Tryz.underlying270 Tryz.underlying235 JZ Ja t0
 obtain⟨b4,e4,f4⟩:=DataW.trod_bool Tryz.underlying4 t4
 have hb4:b4=true:=by
  have:=congrArg Prod.fst f4
  simp only [Rows.laid_internal_strconv_optimize,DataW.lit.injEq,Lit.bool.injEq]at this
  exact this.symm
 obtain⟨xs5,n5,_,f5,_,_,hf5⟩:=DataW.trod_struct Tryz.underlying305 t5
 have h50:=hf5 0 _ rfl
 have hx5:(xs5.map (·.1))[0]? =some (.lit (.int .u64 52)):=by
  have:=congrArg Prod.fst f5
  simp only [Rows.laid_internal_strconv_float64info,DataW.agg.injEq]at this
  rw [←this];rfl
 rw [List.getElem?_map]at hx5
 obtain⟨y5,hy5,hy51⟩:=Option.map_eq_some_iff.1 hx5
 rw [hy5]at h50
 obtain⟨m5v,e5,fy5,_⟩:=DataW.trod_int Tryz.underlying206 h50
 have hm5:m5v=52:=by
  rw [fy5]at hy51
  simp only [DataW.lit.injEq,Lit.int.injEq,true_and]at hy51
  exact hy51
 obtain⟨h708,h709⟩:=Fh t11 354 aE Qr
 obtain⟨h710,h711⟩:=Fh t11 355 aE Qs
 rcases DataW.trod_slice Tryz.underlying349 t10 with ⟨_,hx⟩|⟨a,len,cap,elems,rest,n10,_,e10,f10,_,hlc,_,hel,hell,hrest,_⟩
 ·have:=congrArg Prod.fst hx
  simp [Rows.laid_internal_strconv_float64pow10]at this
 have hd:=congrArg Prod.fst f10
 simp only [Rows.laid_internal_strconv_float64pow10,DataW.slice.injEq]at hd
 obtain⟨hd1,hd2⟩:=hd
 have hlen:len=23:=by
  rw [←hel]
  have:=congrArg List.length hd1
  simpa using this.symm
 have hcap:cap=23:=by
  have h1:=(hrest rfl).1
  have h2:rest=[]:=List.map_eq_nil_iff.1 hd2.symm
  rw [h2]at h1
  simp only [List.length_nil]at h1
  omega
 have hfl: ∀ i m,i<23→(elems.map (·.1))[i]? =some (.lit (.float .f64 m))→W.cell? (a.add i)=some (.float .f64 m):=fun i m hi hm=>by
  rw [List.getElem?_map]at hm
  obtain⟨y,hy,hy1⟩:=Option.map_eq_some_iff.1 hm
  have h1:=hell i aC
  rw [hy,Ol,Nat.mul_one]at h1
  obtain⟨cs,hcs,ht⟩:=Option.bind_eq_some_iff.1 h1
  obtain⟨q,rfl,fq⟩:=IE Tryz.underlying214 ht
  rw [fq]at hy1
  simp only [DataW.lit.injEq,Lit.float.injEq,true_and]at hy1
  subst hy1
  unfold World.cells? at hcs
  split at hcs
  ·obtain⟨v,hv,hv2⟩:=Lib.mapM_at hcs 0 0 rfl
   simp only [List.getElem?_cons_zero,Option.some.injEq]at hv
   rw [hv]
   simpa [Addr.add]using hv2
  ·cases hcs
 rw [←hd1]at hfl
 refine⟨a,Ff h m0,fun q hq=>?_⟩
 suffices hc:W.cell? q.1=some q.2 from⟨fX hc,hc⟩
 simp only [G0,List.cons_append,List.nil_append,List.mem_cons,List.mem_map,List.mem_range]at hq
 rcases hq with rfl|rfl|rfl|rfl|rfl|rfl|rfl|rfl|rfl|rfl|⟨i,hi,rfl⟩
 ·exact k4 0 _ (by rw [e4,hb4];rfl)
 ·exact k5 0 _ (by rw [←hm5];exact Li (o:=0) e5)
 ·exact k10 0 _ (by rw [e10,hlen,hcap];rfl)
 ·exact hfl 1 _ aE Z
 ·exact hfl 2 _ aE Z
 ·exact hfl 6 _ aE Z
 ·exact k11 708 _ h708
 ·exact k11 709 _ h709
 ·exact k11 710 _ h710
 ·exact k11 711 _ h711
 ·exact k0 i _ (by rw [e0,List.getElem?_map,Lj i hi];rfl)
end
end Go.Jw

namespace Go.Jw
open Go Go.Proofs Go.Proofs.YtlcfillobkdnmaaGreatDoor
set_option maxRecDepth 100000
theorem Fi:Tryz.prog.laidByTextLater (Rows.fnTextedRow.laid.take 11) [.data, .data, .widerDeep, .widerDeep, .data, .data, .data, .data, .data, .sentinel, .sentinel] true:=
 Program.laidByTextLater_by_one 91 8 65 aF aF aF aF aF aF (fun _ _=>by kernel_rfl)
theorem IG:Tryz.pinned.checked.prog.pinnedFits "internal/strconv.leftcheats" =true:=by kernel_rfl
theorem II:Tryz.pinned.checked.prog.pinnedFits "internal/strconv.pow10Tab" =true:=by kernel_rfl
theorem Lk:Tryz.pinned.checked.prog.headLifts.contains "ownunsafe" =false:=by kernel_rfl
theorem IJ:Tryz.pinned.checked.prog.listedFits Rows.fnTextedRow.laid=true:=by
 unfold Program.listedFits
 rw [Lk]
 kernel_rfl
theorem Ll(c:OpenClaim)(hl:c.laid=Rows.fnTextedRow.laid)(hs:c.start= .entering):
    c.laidByTextAt .later Tryz.pinned [.data, .data, .widerDeep, .widerDeep, .data, .data, .data, .data, .data, .sentinel, .sentinel, .pinned, .pinned] true:=
  OpenClaim.laidByTextAt_pinned (by rw [hl];rfl) hs Fi rfl (by rw [hl];rfl) (by rw [hl];rfl) rfl (fun y hy _e=>by
    rw [hl]at hy
    simp only [Rows.fnTextedRow,List.zip_cons_cons,List.zip_nil_right,List.mem_cons,List.mem_nil_iff,or_false]at hy
    rcases hy with rfl|rfl|rfl|rfl|rfl|rfl|rfl|rfl|rfl|rfl|rfl|rfl|rfl
    iterate 11 exact nomatch _e
    exact⟨IG,by kernel_rfl⟩
    exact⟨II,by kernel_rfl⟩) (by rw [hl];exact IJ)
end Go.Jw

namespace Go.Jw
open Go Go.RowKit Go.Proofs Go.ChangeShapes Go.WideShapes Go.ChangeAt Go.Proofs.YtlcfillobkdnmaaGreatDoor
set_option maxRecDepth 8000
theorem oH{H:Type}{enc:TypeId×Value→H}{P:Program}{f:Func}{s:ChangeSpec}{apart fresh handsOn again:Bool}{W W':World}{args:Array Value}{v:Value}{ds gs:List (DataW H)}{before pa pv:List MemPlace}
  (hW:DataW.Whole enc P f.params.toList s.vars apart W args.toList ds gs before)
  (hres: ∀ (b:Nat) (sp:Nat→Bool) (hd:Bool),DataW.TrodAll enc P W' b sp hd f.resultTypes.toList (v.resultList f.resultTypes.size) (s.fn H (ds++gs)).results [])
  (hargs: ∀ sp:Nat→Bool,(∀ p∈before,sp p.block=true)→DataW.TrodAll enc P W' 0 sp true f.params.toList args.toList (s.fn H (ds++gs)).args pa)
  (hvars: ∀ sp:Nat→Bool,(∀ p∈before,sp p.block=true)→DataW.TrodVars enc P W' sp s.vars (s.fn H (ds++gs)).vars pv)
  (hps:before=pa++pv) (hb:Below W.heap.size W W')
  (hok: ∀ (j:Nat) (t:TypeId) (r:Value),f.resultTypes[j]? =some t→(v.resultList f.resultTypes.size)[j]? =some r→Value.okWide P W' .any 0 t r):
  s.post enc P f apart fresh handsOn again W args v W':=by
 have hlt:=hW.lt
 have hold: ∀ p∈before,(fun b=>decide (b<W.heap.size)) p.block=true:=fun p hp=>by simpa using hlt p hp
 refine⟨ds,gs,before,[],pa,pv,hW,hres _ _ _,hargs _ hold,hvars _ hold,hb.frame _,fun _=>?_⟩
 obtain⟨_,_,_,_,_,hz,hn⟩:=hW
 refine⟨hok,_,_,([]++pa)++pv,⟨[]++pa,pv,trodAll_append (hargs _ (fun _ _=>rfl)) (hres _ _ _),hvars _ (fun _ _=>rfl),rfl,?_,?_⟩,?_⟩
 ·intro b off hp
  have hp':MemPlace.cell b off∈before:=by rw [hps];simpa using hp
  rw [hb.frozen (p:=⟨b,off,none⟩) (hlt _ hp')]
  exact hz b off hp'
 ·intro ha
  have:=hn ha
  rw [hps]at this
  simpa using this
 ·intro p hp _
  rw [hps]
  simpa using hp
theorem own:ownKnob Tryz.prog.godebug=none:=by kernel_rfl
theorem On:Tryz.prog.readableRec 25=true:=by kernel_rfl
theorem Oo:25<Tryz.prog.types.size:=of_decide_eq_true aF
theorem Lm(W:World):laidMetH Tryz.prog Rows.fnTextedUptoRow.laid W=laidMet Tryz.prog Rows.fnTextedUptoRow.laid W:=by kernel_rfl
end Go.Jw

namespace Go.Jw
open Go Go.RowKit Go.Proofs Go.ChangeShapes Go.WideShapes Go.ChangeAt Go.Proofs.YtlcfillobkdnmaaGreatDoor
set_option maxRecDepth 100000
theorem Qt:Tryz.prog.readableRec 23=true:=by kernel_rfl
theorem Qu:23<Tryz.prog.types.size:=of_decide_eq_true aF
theorem s0{H:Type}{enc:TypeId×Value→H}{W:World}{held:Bool}{n:Nat}{cs:List Value}{x:DataW H×List MemPlace}(h:DataW.trod enc Tryz.prog W 0 (fun _=>true) held n 23 cs=some x): ∃u ts,cs=[u]∧ValsP W (· <W.heap.size) u ts:=by
  rcases DataW.trod_slice Tryz.underlying23 h with ⟨h5,_⟩|⟨a,len,cap,elems,rest,m',hm',h5,h6,hb,hle,hc,hln,hel,hsp,_⟩
  · exact⟨_,[],h5,none,0,rfl,Nat.le_refl _,Nat.zero_le _,by simp [ItemsP]⟩
  · have hall: ∀ i,∃t,i<len→ ∃csi,W.cells? 0 (a.add (i*5)) 5=some csi∧ValP W (· <W.heap.size) t (.agg csi.toArray):=by
      intro i
      by_cases hi:i<len
      · have he:=hel i hi
        rw [Lh,List.getElem?_eq_getElem aC]at he
        obtain⟨csi,hcs,htr⟩:=Option.bind_eq_some_iff.1 he
        obtain⟨t,ht,hnt⟩:=gP m' csi _ htr
        exact⟨t,fun _=>⟨csi,hcs,ht⟩⟩
      · exact⟨CX,fun h=>absurd h hi⟩
    obtain⟨f,hfa⟩:=Classical.axiomOfChoice hall
    refine⟨_,(List.range len).map f,h5,some a,cap,by rw [List.length_map,List.length_range],by rw [List.length_map,List.length_range];exact hle,hc,ItemsP.of_get fun j t hj=>?_⟩
    obtain⟨hjl,rfl⟩:j<len∧t=f j:=by
      rw [List.getElem?_map]at hj
      obtain⟨z,hz,rfl⟩:=Option.map_eq_some_iff.1 hj
      obtain⟨h1,h2⟩:=List.getElem?_eq_some_iff.1 hz
      rw [List.getElem_range]at h2
      rw [List.length_range]at h1
      exact⟨h1,by rw [h2]⟩
    obtain⟨csi,hcs,hv⟩:=hfa j hjl
    obtain⟨_,hcl,hcc⟩:=World.cells?_some hcs
    have hadd: ∀ q,(a.add (j*5)).add q=a.add ((0+j)*5+q):=fun q=>by rw [Nat.zero_add];exact add_add' a _ _
    refine⟨a, .agg csi.toArray,rfl,?_,fun q u hq=>?_,hv⟩
    · have:=hcc 0 aC
      rw [List.getElem?_eq_getElem aC]at this
      have:=fX this
      rwa [vH,vH]at this
    · have hq':csi[q]? =some u:=by simpa [Value.cells]using hq
      have hql:=(List.getElem?_eq_some_iff.1 hq').1
      rw [←hadd,hcc q aC]
      exact hq'
theorem Oq{v c:Value}(h: ∀ cs,v≠ .agg cs)(hc:v.cells.toList=[c]):v=c:=by
 cases v<;>simp_all [Value.cells]
theorem zi(H:Type)(enc:TypeId×Value→H)(W:World)(base:Nat)(args:Array Value)(ds gs:List (DataW H))(before:List MemPlace)
    (hval: ∀ (j:Nat) t v,Tryz.f10.params[j]? =some t→args[j]? =some v→Value.okWide Tryz.prog W .any base t v)
    (hW:DataW.Whole enc Tryz.prog Tryz.f10.params.toList Rows.fnCopiedAcceptsSpec.vars false W args.toList ds gs before) (hk:Rows.uptoSmall H (ds++gs)=true) (hL:laidMetH Tryz.prog Rows.fnCopiedAcceptsUptoRow.laid W):
    Calls Tryz.prog 10 args W fun e W'=> ∃v,e= .returned v∧Rows.fnCopiedAcceptsSpec.post enc Tryz.prog Tryz.f10 false true false false W args v W':=by
  have hW':=hW
  obtain⟨p,q,hA0,hV,rfl,hfz,hnd⟩:=hW
  have hA:DataW.TrodAll enc Tryz.prog W 0 (fun _=>true) true Tryz.f10.params.toList args.toList ds p:=hA0
  rw [Tryz.params10]at hA hval
  obtain⟨v0,v1,v2,d0,d1,d2,p0,p1,p2,rfl,rfl,rfl,h0,h1,h2⟩:=trodAll_three hA
  have hvo0:=hval 0 25 v0 rfl rfl
  unfold Value.okWide at hvo0
  rw [Tryz.underlying25]at hvo0
  obtain⟨cs0,rfl,_⟩:=hvo0
  obtain⟨fuel0,hf0⟩:=id h0
  obtain⟨t0,hv0,hn0⟩:=gP fuel0 _ _ hf0
  have hv0':ValP W (· <W.heap.size) t0 (.agg cs0):=by simpa [Value.cells]using hv0
  have hvo1:=hval 1 25 v1 rfl rfl
  unfold Value.okWide at hvo1
  rw [Tryz.underlying25]at hvo1
  obtain⟨cs1,rfl,_⟩:=hvo1
  obtain⟨fuel1,hf1⟩:=id h1
  obtain⟨t1,hv1,hn1⟩:=gP fuel1 _ _ hf1
  have hv1':ValP W (· <W.heap.size) t1 (.agg cs1):=by simpa [Value.cells]using hv1
  obtain⟨fuel2,hf2⟩:=id h2
  obtain⟨u2,vs2,hb2,hx2⟩:=s0 hf2
  have hv2:v2=u2:=Oq (fun cs e=>by
    have ho:=hval 2 23 v2 rfl rfl
    subst e
    unfold Value.okWide at ho
    rw [Tryz.underlying23]at ho
    exact absurd ho (by unfold Cell.okWide;rw [Tryz.underlying23];simp [Cell.ok,Tryz.underlying23])) hb2
  subst hv2
  obtain⟨A2,cc2,rfl,hy2⟩:=id hx2
  obtain⟨rfl,rfl⟩:=trodVars_none hV
  clear hA0
  simp only [List.append_nil]at hW'
  have hL':laidMet Tryz.prog Rows.fnTextedUptoRow.laid W:=by rw [←Lm];exact hL
  have htab:=Ff hL' (.tail _ (.tail _ (.tail _ (.tail _ (.tail _ (.tail _ (.tail _ (.tail _ (.head _)))))))))
  obtain⟨fb,hft⟩:=Om hL' (.tail _ (.tail _ (.tail _ (.tail _ (.tail _ (.tail _ (.tail _ (.tail _ (.head _))))))))) (.tail _ (.tail _ (.tail _ (.tail _ (.head _))))) (.tail _ (.tail _ (.tail _ (.head _)))) (.tail _ (.tail _ (.tail _ (.tail _ (.tail _ (.tail _ (.head _)))))))
    (.tail _ (.tail _ (.tail _ (.tail _ (.tail _ (.tail _ (.tail _ (.tail _ (.tail _ (.tail _ (.tail _ (.tail _ (.head _)))))))))))))
  have hc:=Fg (W:=W) (SC fb t0 (.agg cs0) t1 (.agg cs1) A2 cc2 vs2 (by have h1:=of_decide_eq_true hk;simp only [List.append_nil,Rows.uptoBulkAll]at h1;have h2:2*nodes t0≤Rows.uptoBulk d0:=hn0;have h3:2*nodes t1≤Rows.uptoBulk d1:=hn1;omega)) (by
    intro d hd
    rcases List.mem_cons.1 hd with rfl|hd
    · exact hv0'
    rcases List.mem_cons.1 hd with rfl|hd
    · exact hv1'
    rcases List.mem_cons.1 hd with rfl|hd
    · exact hx2
    rcases List.mem_cons.1 hd with rfl|hd
    · exact htab
    rcases List.mem_cons.1 hd with rfl|hd
    · exact hft
    · cases hd)
  refine hc.mono fun e W' ⟨he,hb⟩=>?_
  subst he
  have hlt:=hW'.lt
  exact⟨_,rfl,oH (pa:=p0++(p1++p2)) (pv:=[]) hW' (fun _ _ _=>trodAll_cons_mk (shut_bool Tryz.underlying4 _) trodAll_mk0)
    (fun sp hs=>trodAll_mk3 (Go.WideElems.Trod_stays sy On Oo h0 (fun x hx=>hb.same (hlt x cE)) (fun x hx=>hs x cE)) (Go.WideElems.Trod_stays sy On Oo h1 (fun x hx=>hb.same (hlt x cE)) (fun x hx=>hs x cE)) (Go.WideElems.Trod_stays sy Qt Qu h2 (fun x hx=>hb.same (hlt x cE)) (fun x hx=>hs x cE))) (fun _ _=>rfl) aJ hb (ok_one aF rfl (okWide_bool_mk Tryz.underlying4 _))⟩
end Go.Jw

namespace Go.Jw
open Go Go.RowKit Go.Proofs Go.ChangeShapes Go.WideShapes Go.Proofs.YtlcfillobkdnmaaGreatDoor
set_option maxRecDepth 100000
def ke(h:Array Obj)(g:Nat)(cs:List Value):Array Obj:=h.modify g fun
  | .cells _ t fr=> .cells cs.toArray t fr
  |o=>o
def BE:Array Obj:= #[.cells #[.string ⟨#[105,110,118,97,108,105,100,32,115,121,110,116,97,120]⟩] 228 (0,0), .cells #[.string ⟨#[118,97,108,117,101,32,111,117,116,32,111,102,32,114,97,110,103,101]⟩] 228 (0,0),
 .cells ([.float .f32 1065353216, .float .f32 1092616192, .float .f32 1120403456, .float .f32 1148846080, .float .f32 1176256512, .float .f32 1203982336, .float .f32 1232348160, .float .f32 1259902592, .float .f32 1287568416, .float .f32 1315859240, .float .f32 1343554297]:List Value).toArray 288 (0,0), .cells ([.int .i64 1, .int .i64 3, .int .i64 6, .int .i64 9, .int .i64 13, .int .i64 16, .int .i64 19, .int .i64 23, .int .i64 26]:List Value).toArray 3 (0,0), .cells ([.float .f64 4607182418800017408, .float .f64 4621819117588971520, .float .f64 4636737291354636288, .float .f64 4652007308841189376, .float .f64 4666723172467343360, .float .f64 4681608360884174848, .float .f64 4696837146684686336, .float .f64 4711630319722168320, .float .f64 4726483295884279808, .float .f64 4741671816366391296, .float .f64 4756540486875873280, .float .f64 4771362005757984768, .float .f64 4786511204640096256, .float .f64 4801453603149578240, .float .f64 4816244402031689728, .float .f64 4831355200913801216, .float .f64 4846369599423283200, .float .f64 4861130398305394688, .float .f64 4876203697187506176, .float .f64 4891288408196988160, .float .f64 4906019910204099648, .float .f64 4921056587992461136, .float .f64 4936209963552724370]:List Value).toArray 214 (0,0),
 .cells (Pinned.cheatRows.flatMap fun x=>[Value.int .i64 x.1,Value.string ⟨x.2.toArray⟩]).toArray 365 (0,0)]
noncomputable def cw(os:Os):World:={World.holding Tryz.prog os ⟨BE, #[],[]⟩with heap:=(ke (ke (ke (ke (ke (ke (ke (ke (ke (ke (ke (ke (ke (World.holding Tryz.prog os ⟨BE, #[],[]⟩).heap 0 [.int .u64 1, .int .u64 10, .int .u64 100, .int .u64 1000, .int .u64 10000, .int .u64 100000, .int .u64 1000000, .int .u64 10000000, .int .u64 100000000, .int .u64 1000000000, .int .u64 10000000000, .int .u64 100000000000, .int .u64 1000000000000, .int .u64 10000000000000, .int .u64 100000000000000, .int .u64 1000000000000000, .int .u64 10000000000000000, .int .u64 100000000000000000, .int .u64 1000000000000000000, .int .u64 10000000000000000000]) 1 [.iface 226 (.pointer (some ⟨18,0,none⟩))]) 2 [.iface 226 (.pointer (some ⟨19,0,none⟩))]) 3 [.int .u64 23, .int .u64 8, .int .i64 (-127)]) 4 [.bool true]) 5 [.int .u64 52, .int .u64 11, .int .i64 (-1023)]) 6 [.int .u8 0, .int .u8 1, .int .u8 28, .int .u8 2, .int .u8 29, .int .u8 14, .int .u8 24, .int .u8 3, .int .u8 30, .int .u8 22, .int .u8 20, .int .u8 15, .int .u8 25, .int .u8 17, .int .u8 4, .int .u8 8, .int .u8 31, .int .u8 27, .int .u8 13, .int .u8 23, .int .u8 21, .int .u8 19, .int .u8 16, .int .u8 7, .int .u8 26, .int .u8 12, .int .u8 18, .int .u8 6, .int .u8 11, .int .u8 5, .int .u8 10, .int .u8 9]) 7 [.int .u8 0, .int .u8 1, .int .u8 56, .int .u8 2, .int .u8 57, .int .u8 49, .int .u8 28, .int .u8 3, .int .u8 61, .int .u8 58, .int .u8 42, .int .u8 50, .int .u8 38, .int .u8 29, .int .u8 17, .int .u8 4, .int .u8 62, .int .u8 47, .int .u8 59, .int .u8 36, .int .u8 45, .int .u8 43, .int .u8 51, .int .u8 22, .int .u8 53, .int .u8 39, .int .u8 33, .int .u8 30, .int .u8 24, .int .u8 18, .int .u8 12, .int .u8 5, .int .u8 63, .int .u8 55, .int .u8 48, .int .u8 27, .int .u8 60, .int .u8 41, .int .u8 37, .int .u8 16, .int .u8 46, .int .u8 35, .int .u8 44, .int .u8 21, .int .u8 52, .int .u8 32, .int .u8 23, .int .u8 11, .int .u8 54, .int .u8 26, .int .u8 40, .int .u8 15, .int .u8 34, .int .u8 20, .int .u8 31, .int .u8 10, .int .u8 25, .int .u8 14, .int .u8 19, .int .u8 9, .int .u8 13, .int .u8 8, .int .u8 7, .int .u8 6]) 8 [.slice (some ⟨20,0,none⟩) 11 11]) 9 [.slice (some ⟨21,0,none⟩) 9 9]) 10 [.slice (some ⟨22,0,none⟩) 23 23]) 11 (Pinned.pow10Rows.flatMap fun x=>[Value.int .u64 x.1,Value.int .u64 x.2])) 12 [.slice (some ⟨23,0,none⟩) Pinned.cheatRows.length Pinned.cheatRows.length])}
def SH(bs:List Nat)(ps:List MemPlace):Bool:=ps.all fun
  | .cell b _=>bs.contains b
  | .map _=>true
end Go.Jw

namespace Go.Jw
open Go Go.RowKit Go.Proofs Go.Proofs.YtlcfillobkdnmaaGreatDoor
set_option maxRecDepth 100000
theorem Fj{P:Program}{w:World}{t u:TypeId}{cs:List Value}{n:Nat}(ht:P.cellTypes P.depth t=some (List.replicate n u))(hn:cs.length=n)(h0:0<n)(h:cs.all (Cell.okRefB P w u)=true):Row.okRefB P w t cs.toArray=true:=by
 unfold Row.okRefB
 rw [ht]
 simp only [List.length_replicate,List.size_toArray,Bool.and_eq_true,List.all_eq_true,List.mem_range]
 refine⟨by rw [hn];simp,fun i hi=>?_⟩
 have hm:i%n<n:=Nat.mod_lt _ h0
 rw [List.getElem?_toArray,List.getElem?_eq_getElem hi,List.getElem?_replicate,if_pos hm]
 exact List.all_eq_true.1 h _ (List.getElem_mem hi)
def iC(P:Program)(w₀ w:World)(g:Nat):Bool:=match (w₀.heap[g]?).bind Obj.row? with
  |none=>true
  |some (zero,t)=>match w.heap[g]? with
    |some (.cells cs t' frozen)=>decide (t'=t) && decide (frozen=(0,0)) && cs.size==zero.size && (!P.buildable t||Row.okRefB P w t cs)
    |_=>false
theorem IK{P:Program}{w:World}(h: ∀ g,g<P.globals.size→iC P (begin P (fun _ _=>0) default).world w g=true):w.variablesRefB P=true:=by
 unfold World.variablesRefB
 exact List.all_eq_true.2 fun g hg=>h g (List.mem_range.1 hg)
theorem IL{P:Program}{w₀ w:World}{g:Nat}{zero:Array Value}{t:TypeId}{cs:List Value}(h0:(w₀.heap[g]?).bind Obj.row? =some (zero,t))(h1:w.heap[g]? =some (.cells cs.toArray t (0,0)))(hz:cs.length=zero.size)(h2:Row.okRefB P w t cs.toArray=true):iC P w₀ w g=true:=by
 unfold iC
 rw [h0,h1]
 simp [hz,h2]
theorem SI(os:Os)(args:Array Value):iC Tryz.prog (begin Tryz.prog (fun _ _=>0) default).world ((cw os).forCall (fun _ _=>0) ⟨#[],args,[]⟩) 0=true:=by kernel_rfl
theorem SJ(os:Os)(args:Array Value):iC Tryz.prog (begin Tryz.prog (fun _ _=>0) default).world ((cw os).forCall (fun _ _=>0) ⟨#[],args,[]⟩) 1=true:=by kernel_rfl
theorem SK(os:Os)(args:Array Value):iC Tryz.prog (begin Tryz.prog (fun _ _=>0) default).world ((cw os).forCall (fun _ _=>0) ⟨#[],args,[]⟩) 2=true:=by kernel_rfl
theorem SL(os:Os)(args:Array Value):iC Tryz.prog (begin Tryz.prog (fun _ _=>0) default).world ((cw os).forCall (fun _ _=>0) ⟨#[],args,[]⟩) 3=true:=by kernel_rfl
theorem SM(os:Os)(args:Array Value):iC Tryz.prog (begin Tryz.prog (fun _ _=>0) default).world ((cw os).forCall (fun _ _=>0) ⟨#[],args,[]⟩) 4=true:=by kernel_rfl
theorem SN(os:Os)(args:Array Value):iC Tryz.prog (begin Tryz.prog (fun _ _=>0) default).world ((cw os).forCall (fun _ _=>0) ⟨#[],args,[]⟩) 5=true:=by kernel_rfl
theorem SO(os:Os)(args:Array Value):iC Tryz.prog (begin Tryz.prog (fun _ _=>0) default).world ((cw os).forCall (fun _ _=>0) ⟨#[],args,[]⟩) 6=true:=by kernel_rfl
theorem SP(os:Os)(args:Array Value):iC Tryz.prog (begin Tryz.prog (fun _ _=>0) default).world ((cw os).forCall (fun _ _=>0) ⟨#[],args,[]⟩) 7=true:=by kernel_rfl
theorem SQ(os:Os)(args:Array Value):iC Tryz.prog (begin Tryz.prog (fun _ _=>0) default).world ((cw os).forCall (fun _ _=>0) ⟨#[],args,[]⟩) 8=true:=by kernel_rfl
theorem SR(os:Os)(args:Array Value):iC Tryz.prog (begin Tryz.prog (fun _ _=>0) default).world ((cw os).forCall (fun _ _=>0) ⟨#[],args,[]⟩) 9=true:=by kernel_rfl
theorem Qv(os:Os)(args:Array Value):iC Tryz.prog (begin Tryz.prog (fun _ _=>0) default).world ((cw os).forCall (fun _ _=>0) ⟨#[],args,[]⟩) 10=true:=by kernel_rfl
theorem Qw(os:Os)(args:Array Value):iC Tryz.prog (begin Tryz.prog (fun _ _=>0) default).world ((cw os).forCall (fun _ _=>0) ⟨#[],args,[]⟩) 12=true:=by kernel_rfl
def pw:List Value:=Pinned.pow10Rows.flatMap fun x=>[Value.int .u64 x.1,Value.int .u64 x.2]
theorem Qx: ∃zero,((begin Tryz.prog (fun _ _=>0) default).world.heap[11]?).bind Obj.row? =some (zero,360)∧zero.size=1392:=⟨(Array.replicate 1392 (.int .u64 0)),by kernel_rfl,by kernel_rfl⟩
theorem Qy(os:Os)(args:Array Value):((cw os).forCall (fun _ _=>0) ⟨#[],args,[]⟩).heap[11]? =some (.cells pw.toArray 360 (0,0)):=by kernel_rfl
theorem Qz:Tryz.prog.cellTypes Tryz.prog.depth 360=some (List.replicate 1392 235):=by kernel_rfl
theorem Ot:pw.length=1392:=by kernel_rfl
theorem Q0(w:World):pw.all (Cell.okRefB Tryz.prog w 235)=true:=by kernel_rfl
theorem Q1(os:Os)(args:Array Value):iC Tryz.prog (begin Tryz.prog (fun _ _=>0) default).world ((cw os).forCall (fun _ _=>0) ⟨#[],args,[]⟩) 11=true:=by
 obtain⟨z,h0,hz⟩:=Qx
 exact IL h0 (Qy os args) (by rw [hz];exact Ot) (Fj Qz Ot aE (Q0 _))
theorem Fk(os:Os)(args:Array Value):World.variablesRefB Tryz.prog ((cw os).forCall (fun _ _=>0) ⟨#[],args,[]⟩)=true:=IK fun g hg=>by
  have h13:Tryz.prog.globals.size=13:=by kernel_rfl
  rw [h13]at hg
  match g,hg with
  |0,_=>exact SI os args
  |1,_=>exact SJ os args
  |2,_=>exact SK os args
  |3,_=>exact SL os args
  |4,_=>exact SM os args
  |5,_=>exact SN os args
  |6,_=>exact SO os args
  |7,_=>exact SP os args
  |8,_=>exact SQ os args
  |9,_=>exact SR os args
  |10,_=>exact Qv os args
  |11,_=>exact Q1 os args
  |12,_=>exact Qw os args
end Go.Jw

namespace Go.Jw
open Go Go.RowKit Go.Proofs Go.ChangeShapes Go.WideShapes Go.Proofs.YtlcfillobkdnmaaGreatDoor
set_option maxRecDepth 100000
section
variable {P:Program} {w:World}
theorem fZ{α β:Type}{f:α→Option β}{h:α→β}: ∀ (l:List α),(∀ x∈l,f x=some (h x))→l.mapM f=some (l.map h)
  |[],_=>rfl
  |a::l,H=>by
    rw [List.mapM_cons,H a List.mem_cons_self,fZ l (fun x hx=>H x (List.mem_cons_of_mem _ hx))]
    rfl
theorem kf{b off:Nat}{T:TypeId}{cs:List Value}(h:w.heap[b]? =some (.cells cs.toArray T (0,0))):w.cell? ⟨b,off,none⟩=cs[off]? :=by
 unfold World.cell?
 simp [h]
theorem zj{b off n:Nat}{T:TypeId}{cs:List Value}(h:w.heap[b]? =some (.cells cs.toArray T (0,0)))(hn:off+n≤cs.length):w.cells? 0 ⟨b,off,none⟩ n=some ((cs.drop off).take n):=by
  unfold World.cells?
  rw [if_pos (Nat.zero_le _),fZ (h:=fun i=>cs.getD (off+i) (.bool false)) (List.range n) (fun i hi=>?_)]
  · congr 1
    apply List.ext_getElem?
    intro j
    rw [List.getElem?_map,List.getElem?_take,List.getElem?_drop]
    by_cases hj:j<n
    · rw [if_pos hj,List.getElem?_range hj]
      simp [List.getD_eq_getElem?_getD,List.getElem?_eq_getElem (show off+j<cs.length by omega)]
    · rw [if_neg hj,List.getElem?_eq_none bu]
      rfl
  · have hi':=List.mem_range.1 hi
    have:(⟨b,off,none⟩:Addr).add i=⟨b,off+i,none⟩:=by
      unfold Addr.add
      by_cases h0:i=0
      · subst h0;rfl
      · rw [if_neg h0]
    rw [this,kf h,List.getD_eq_getElem?_getD,List.getElem?_eq_getElem (show off+i<cs.length by omega)]
    rfl
variable {H:Type} {enc:TypeId×Value→H} {sp:Nat→Bool} {held:Bool}
theorem lJ{fuel:Nat}{t e:TypeId}{b n k:Nat}{T:TypeId}{cs:List Value}{g:Nat→DataW H}(ht:P.underlying t=some (.slice e))(hk:P.cellsOf e=k)(hb:w.heap[b]? =some (.cells cs.toArray T (0,0)))(hl:cs.length=n*k)(hn:n≤maxLen)
  (he: ∀ i,i<n→DataW.trod enc P w 0 sp held fuel e ((cs.drop (i*k)).take k)=some (g i,[])):DataW.trod enc P w 0 sp held (fuel+1) t [.slice (some ⟨b,0,none⟩) n n]=some (.slice ((List.range n).map g) [],MemPlace.row ⟨b,0,none⟩ (n*k)):=by
 subst hk
 have hel: ∀ i∈List.range n,(w.cells? 0 ((⟨b,0,none⟩:Addr).add (i*P.cellsOf e)) (P.cellsOf e)).bind (DataW.trod enc P w 0 sp held fuel e)=some ((g i,[]):DataW H×List MemPlace):=by
  intro i hi
  have hi':=List.mem_range.1 hi
  have:(⟨b,0,none⟩:Addr).add (i*P.cellsOf e)=⟨b,i*P.cellsOf e,none⟩:=by
   unfold Addr.add
   by_cases h0:i*P.cellsOf e=0
   ·rw [if_pos h0,h0]
   ·rw [if_neg h0,Nat.zero_add]
  have hle:i*P.cellsOf e+P.cellsOf e≤cs.length:=by
   rw [hl]
   have:=Nat.mul_le_mul_right (P.cellsOf e) (show i+1≤n by omega)
   rw [Nat.succ_mul]at this
   exact this
  rw [this,zj hb hle,Option.bind_some,he i hi']
 unfold DataW.trod
 simp only [ht]
 rw [if_pos ⟨Nat.zero_le _,Nat.le_refl _,hn⟩,fZ _ hel]
 simp [Nat.sub_self]
theorem wn{fuel:Nat}{t e:TypeId}{n k:Nat}{cs:List Value}{g:Nat→DataW H}(ht:P.underlying t=some (.array n e))(hk:P.cellsOf e=k)(hl:cs.length=P.cellsOf t)
  (he: ∀ i,i<n→DataW.trod enc P w 0 sp held fuel e ((cs.drop (i*k)).take k)=some (g i,[])):DataW.trod enc P w 0 sp held (fuel+1) t cs=some (.agg ((List.range n).map g),[]):=by
 subst hk
 have hel: ∀ i∈List.range n,DataW.trod enc P w 0 sp held fuel e ((cs.drop (i*P.cellsOf e)).take (P.cellsOf e))=some ((g i,[]):DataW H×List MemPlace):=fun i hi=>he i (List.mem_range.1 hi)
 unfold DataW.trod
 simp only [ht]
 rw [if_pos hl,fZ _ hel]
 simp
theorem uN{n:String}{d:DataW Unit}{r:List (String×DataW Unit)}{p q:List MemPlace}{g t T:Nat}{cs:List Value}(fuel:Nat)(hg:P.globalNamed n=some g)(ht:(P.globals[g]?).map (·.type)=some t)(hh:w.heap[g]? =some (.cells cs.toArray T (0,0)))
  (hd:DataW.trod (fun _=>()) P w 0 (fun _=>true) false fuel t cs=some (d,p)) (hr:DataW.LaidVars P w r q):DataW.LaidVars P w ((n,d)::r) (MemPlace.row ⟨g,0,none⟩ cs.length++p++q):=
 ⟨g,t,cs.toArray,fuel,p,q,hg,ht,by unfold World.var?;rw [hg];simp [hh],by simpa using hd,hr,by simp⟩
def IM:Value→Bool
  | .iface .. =>false
  |_=>true
theorem wM{b off:Nat}{T:TypeId}{cs:List Value}(h:w.heap[b]? =some (.cells cs.toArray T (0,0)))(hn:cs.all IM=true):
  (∃c t,w.heap[b]? =some (.cells c t (0,0)))∧ ∀ u v,w.cell? ⟨b,off,none⟩=some (.iface u v)→Value.okWide P w .any 0 u v:=by
 refine⟨⟨_,_,h⟩,fun u v hc=>?_⟩
 rw [kf h]at hc
 have:=List.all_eq_true.1 hn _ (List.mem_of_getElem? hc)
 cases this
theorem py{b off:Nat}{T u:TypeId}{v:Value}(h:w.heap[b]? =some (.cells [.iface u v].toArray T (0,0)))(hn:Value.okWideB P w u v=true):
  (∃c t,w.heap[b]? =some (.cells c t (0,0)))∧ ∀ u' v',w.cell? ⟨b,off,none⟩=some (.iface u' v')→Value.okWide P w .any 0 u' v':=by
 refine⟨⟨_,_,h⟩,fun u' v' hc=>?_⟩
 rw [kf h]at hc
 have:=List.mem_of_getElem? hc
 simp only [List.mem_singleton,Value.iface.injEq]at this
 obtain⟨rfl,rfl⟩:=this
 exact Value.okWide_of_okWideB hn
end
theorem nt{α:Type}(f:α→List Value)(k:Nat)(hf: ∀ x,(f x).length=k): ∀ (l:List α) (i:Nat) (h:i<l.length),((l.flatMap f).drop (i*k)).take k=f l[i]
  |[],i,h=>by simp at h
  |x::l,0,_=>by simp [List.flatMap_cons,←hf x]
  |x::l,i+1,h=>by
    rw [List.flatMap_cons,Nat.succ_mul,Nat.add_comm,←List.drop_drop,List.drop_append_of_le_length (by rw [hf x];exact Nat.le_refl _),←hf x,List.drop_length,List.nil_append,hf x]
    exact nt f k hf l i cA
theorem pz{α:Type}(f:α→List Value)(k:Nat)(hf: ∀ x,(f x).length=k)(l:List α):(l.flatMap f).length=l.length*k:=by
  induction l with
  |nil=>simp
  |cons x l ih=>rw [List.flatMap_cons,List.length_append,hf,ih,List.length_cons,Nat.succ_mul,Nat.add_comm]
theorem ij{α β:Type}[Inhabited α](f:α→β)(l:List α):(List.range l.length).map (fun i=>f (l.getD i default))=l.map f:=by
  apply List.ext_getElem?
  intro j
  rw [List.getElem?_map,List.getElem?_map]
  by_cases h:j<l.length
  · rw [List.getElem?_range h,List.getElem?_eq_getElem h]
    simp [List.getD_eq_getElem?_getD,h]
  · rw [List.getElem?_eq_none cA,List.getElem?_eq_none cA]
    rfl
def ik:Value→DataW Unit
  | .int k n=> .lit (.int k n)
  | .float k b=> .lit (.float k b)
  |_=> .nil
def p6(d:TypeDesc):Value→Bool
  | .int k n=>(match d with| .int k'=>decide (k=k')|_=>false) && (Lit.int k n).wf
  | .float k n=>(match d with| .float k'=>decide (k=k')|_=>false) && (Lit.float k n).wf
  |_=>false
theorem gy{P:Program}{w:World}{sp:Nat→Bool}{held:Bool}{fuel:Nat}{e:TypeId}{d:TypeDesc}{v:Value}(he:P.underlying e=some d)(h:p6 d v=true):DataW.trod (fun _=>()) P w 0 sp held (fuel+1) e [v]=some (ik v,[]):=by
 unfold DataW.trod
 cases v<;>simp [p6]at h<;>cases d<;>simp at h<;>(obtain⟨rfl,h2⟩:=h;simp [he,ik,h2])
theorem gQ{P:Program}{w:World}{fuel:Nat}{t e:TypeId}{d:TypeDesc}{b n:Nat}{T:TypeId}{cs:List Value}(ht:P.underlying t=some (.slice e))(he:P.underlying e=some d)(hk:P.cellsOf e=1)(hb:w.heap[b]? =some (.cells cs.toArray T (0,0)))(hl:cs.length=n)(hn:n≤maxLen)(hs:cs.all (p6 d)=true):
    DataW.trod (fun _=>()) P w 0 (fun _=>true) false (fuel+2) t [.slice (some ⟨b,0,none⟩) n n]=some (.slice (cs.map ik) [],MemPlace.row ⟨b,0,none⟩ n):=by
  subst hl
  have:=lJ (P:=P) (w:=w) (enc:=fun _=>()) (sp:=fun _=>true) (held:=false) (fuel:=fuel+1) (k:=1) (n:=cs.length) (g:=fun i=>ik (cs.getD i (.bool false))) ht hk hb aC hn (fun i hi=>by
    have h1:(cs.drop (i*1)).take 1=[cs[i]]:=by rw [Nat.mul_one,List.drop_eq_getElem_cons hi];rfl
    rw [h1,gy he (List.all_eq_true.1 hs _ (List.getElem_mem hi)),List.getD_eq_getElem?_getD,List.getElem?_eq_getElem hi]
    rfl)
  rw [this,Nat.mul_one]
  congr 2
  have h2:(List.range cs.length).map (fun i=>ik (cs.getD i (.bool false)))=cs.map ik:= @ij _ _ ⟨.bool false⟩ ik cs
  rw [h2]
def MN(x:Nat×Nat):List Value:=[Value.int .u64 x.1,Value.int .u64 x.2]
def MO(x:Nat×List UInt8):List Value:=[Value.int .i64 x.1,Value.string ⟨x.2.toArray⟩]
def wc0:List Value:=[.int .u64 1, .int .u64 10, .int .u64 100, .int .u64 1000, .int .u64 10000, .int .u64 100000, .int .u64 1000000, .int .u64 10000000, .int .u64 100000000, .int .u64 1000000000, .int .u64 10000000000, .int .u64 100000000000, .int .u64 1000000000000, .int .u64 10000000000000, .int .u64 100000000000000, .int .u64 1000000000000000, .int .u64 10000000000000000, .int .u64 100000000000000000, .int .u64 1000000000000000000, .int .u64 10000000000000000000]
def wc1:List Value:=[.iface 226 (.pointer (some ⟨18,0,none⟩))]
def wc2:List Value:=[.iface 226 (.pointer (some ⟨19,0,none⟩))]
def wc3:List Value:=[.int .u64 23, .int .u64 8, .int .i64 (-127)]
def wc4:List Value:=[.bool true]
def wc5:List Value:=[.int .u64 52, .int .u64 11, .int .i64 (-1023)]
def wc6:List Value:=[.int .u8 0, .int .u8 1, .int .u8 28, .int .u8 2, .int .u8 29, .int .u8 14, .int .u8 24, .int .u8 3, .int .u8 30, .int .u8 22, .int .u8 20, .int .u8 15, .int .u8 25, .int .u8 17, .int .u8 4, .int .u8 8, .int .u8 31, .int .u8 27, .int .u8 13, .int .u8 23, .int .u8 21, .int .u8 19, .int .u8 16, .int .u8 7, .int .u8 26, .int .u8 12, .int .u8 18, .int .u8 6, .int .u8 11, .int .u8 5, .int .u8 10, .int .u8 9]
def wc7:List Value:=[.int .u8 0, .int .u8 1, .int .u8 56, .int .u8 2, .int .u8 57, .int .u8 49, .int .u8 28, .int .u8 3, .int .u8 61, .int .u8 58, .int .u8 42, .int .u8 50, .int .u8 38, .int .u8 29, .int .u8 17, .int .u8 4, .int .u8 62, .int .u8 47, .int .u8 59, .int .u8 36, .int .u8 45, .int .u8 43, .int .u8 51, .int .u8 22, .int .u8 53, .int .u8 39, .int .u8 33, .int .u8 30, .int .u8 24, .int .u8 18, .int .u8 12, .int .u8 5, .int .u8 63, .int .u8 55, .int .u8 48, .int .u8 27, .int .u8 60, .int .u8 41, .int .u8 37, .int .u8 16, .int .u8 46, .int .u8 35, .int .u8 44, .int .u8 21, .int .u8 52, .int .u8 32, .int .u8 23, .int .u8 11, .int .u8 54, .int .u8 26, .int .u8 40, .int .u8 15, .int .u8 34, .int .u8 20, .int .u8 31, .int .u8 10, .int .u8 25, .int .u8 14, .int .u8 19, .int .u8 9, .int .u8 13, .int .u8 8, .int .u8 7, .int .u8 6]
def wc8:List Value:=[.slice (some ⟨20,0,none⟩) 11 11]
def wc9:List Value:=[.slice (some ⟨21,0,none⟩) 9 9]
def wc10:List Value:=[.slice (some ⟨22,0,none⟩) 23 23]
def wc11:List Value:=Pinned.pow10Rows.flatMap MN
def wc12:List Value:=[.slice (some ⟨23,0,none⟩) Pinned.cheatRows.length Pinned.cheatRows.length]
def wc18:List Value:=[.string ⟨#[105,110,118,97,108,105,100,32,115,121,110,116,97,120]⟩]
def wc19:List Value:=[.string ⟨#[118,97,108,117,101,32,111,117,116,32,111,102,32,114,97,110,103,101]⟩]
def wc20:List Value:=[.float .f32 1065353216, .float .f32 1092616192, .float .f32 1120403456, .float .f32 1148846080, .float .f32 1176256512, .float .f32 1203982336, .float .f32 1232348160, .float .f32 1259902592, .float .f32 1287568416, .float .f32 1315859240, .float .f32 1343554297]
def wc21:List Value:=[.int .i64 1, .int .i64 3, .int .i64 6, .int .i64 9, .int .i64 13, .int .i64 16, .int .i64 19, .int .i64 23, .int .i64 26]
def wc22:List Value:=[.float .f64 4607182418800017408, .float .f64 4621819117588971520, .float .f64 4636737291354636288, .float .f64 4652007308841189376, .float .f64 4666723172467343360, .float .f64 4681608360884174848, .float .f64 4696837146684686336, .float .f64 4711630319722168320, .float .f64 4726483295884279808, .float .f64 4741671816366391296, .float .f64 4756540486875873280, .float .f64 4771362005757984768, .float .f64 4786511204640096256, .float .f64 4801453603149578240, .float .f64 4816244402031689728, .float .f64 4831355200913801216, .float .f64 4846369599423283200, .float .f64 4861130398305394688, .float .f64 4876203697187506176, .float .f64 4891288408196988160, .float .f64 4906019910204099648, .float .f64 4921056587992461136, .float .f64 4936209963552724370]
def wc23:List Value:=Pinned.cheatRows.flatMap MO
noncomputable def wW(os:Os)(args:Array Value):World:=((cw os).forCall (fun _ _=>0) ⟨#[],args,[]⟩).memory
theorem RR(os:Os)(args:Array Value):(wW os args).heap[0]? =some (.cells wc0.toArray 270 (0,0)):=by kernel_rfl
theorem RS(os:Os)(args:Array Value):(wW os args).heap[1]? =some (.cells wc1.toArray 77 (0,0)):=by kernel_rfl
theorem RT(os:Os)(args:Array Value):(wW os args).heap[2]? =some (.cells wc2.toArray 77 (0,0)):=by kernel_rfl
theorem RU(os:Os)(args:Array Value):(wW os args).heap[3]? =some (.cells wc3.toArray 305 (0,0)):=by kernel_rfl
theorem RW(os:Os)(args:Array Value):(wW os args).heap[4]? =some (.cells wc4.toArray 4 (0,0)):=by kernel_rfl
theorem RX(os:Os)(args:Array Value):(wW os args).heap[5]? =some (.cells wc5.toArray 305 (0,0)):=by kernel_rfl
theorem RY(os:Os)(args:Array Value):(wW os args).heap[6]? =some (.cells wc6.toArray 323 (0,0)):=by kernel_rfl
theorem RZ(os:Os)(args:Array Value):(wW os args).heap[7]? =some (.cells wc7.toArray 324 (0,0)):=by kernel_rfl
theorem Ra(os:Os)(args:Array Value):(wW os args).heap[8]? =some (.cells wc8.toArray 340 (0,0)):=by kernel_rfl
theorem Rb(os:Os)(args:Array Value):(wW os args).heap[9]? =some (.cells wc9.toArray 139 (0,0)):=by kernel_rfl
theorem Ou(os:Os)(args:Array Value):(wW os args).heap[10]? =some (.cells wc10.toArray 349 (0,0)):=by kernel_rfl
theorem Ov(os:Os)(args:Array Value):(wW os args).heap[11]? =some (.cells wc11.toArray 360 (0,0)):=by kernel_rfl
theorem Ow(os:Os)(args:Array Value):(wW os args).heap[12]? =some (.cells wc12.toArray 366 (0,0)):=by kernel_rfl
theorem Q2(os:Os)(args:Array Value):(wW os args).heap[18]? =some (.cells wc18.toArray 228 (0,0)):=by kernel_rfl
theorem Q3(os:Os)(args:Array Value):(wW os args).heap[19]? =some (.cells wc19.toArray 228 (0,0)):=by kernel_rfl
theorem Ox(os:Os)(args:Array Value):(wW os args).heap[20]? =some (.cells wc20.toArray 288 (0,0)):=by kernel_rfl
theorem Oy(os:Os)(args:Array Value):(wW os args).heap[21]? =some (.cells wc21.toArray 3 (0,0)):=by kernel_rfl
theorem Oz(os:Os)(args:Array Value):(wW os args).heap[22]? =some (.cells wc22.toArray 214 (0,0)):=by kernel_rfl
theorem O0(os:Os)(args:Array Value):(wW os args).heap[23]? =some (.cells wc23.toArray 365 (0,0)):=by kernel_rfl
theorem SS(w:World):DataW.trod (fun _=>()) Tryz.prog w 0 (fun _=>true) false 8 270 wc0=some (Rows.laid_internal_strconv_uint64pow10,[]):=by kernel_rfl
theorem ST(w:World):DataW.trod (fun _=>()) Tryz.prog w 0 (fun _=>true) false 8 305 wc3=some (Rows.laid_internal_strconv_float32info,[]):=by kernel_rfl
theorem SU(w:World):DataW.trod (fun _=>()) Tryz.prog w 0 (fun _=>true) false 8 4 wc4=some (Rows.laid_internal_strconv_optimize,[]):=by kernel_rfl
theorem SV(w:World):DataW.trod (fun _=>()) Tryz.prog w 0 (fun _=>true) false 8 305 wc5=some (Rows.laid_internal_strconv_float64info,[]):=by kernel_rfl
theorem SW(w:World):DataW.trod (fun _=>()) Tryz.prog w 0 (fun _=>true) false 8 323 wc6=some (Rows.laid_math_bits_deBruijn32tab,[]):=by kernel_rfl
theorem SX(w:World):DataW.trod (fun _=>()) Tryz.prog w 0 (fun _=>true) false 8 324 wc7=some (Rows.laid_math_bits_deBruijn64tab,[]):=by kernel_rfl
theorem SY(os:Os)(args:Array Value):DataW.trod (fun _=>()) Tryz.prog (wW os args) 0 (fun _=>true) false 8 340 wc8=some (Rows.laid_internal_strconv_float32pow10,MemPlace.row ⟨20,0,none⟩ 11):=
 (gQ (fuel:=6) (e:=288) (d:= .float .f32) (cs:=wc20) (n:=11) aF aF aF (Ox os args) rfl bZ aF).trans aF
theorem SZ(os:Os)(args:Array Value):DataW.trod (fun _=>()) Tryz.prog (wW os args) 0 (fun _=>true) false 8 139 wc9=some (Rows.laid_internal_strconv_powtab,MemPlace.row ⟨21,0,none⟩ 9):=
 (gQ (fuel:=6) (e:=3) (d:= .int .i64) (cs:=wc21) (n:=9) aF aF aF (Oy os args) rfl bZ aF).trans aF
theorem Q4(os:Os)(args:Array Value):DataW.trod (fun _=>()) Tryz.prog (wW os args) 0 (fun _=>true) false 8 349 wc10=some (Rows.laid_internal_strconv_float64pow10,MemPlace.row ⟨22,0,none⟩ 23):=
 (gQ (fuel:=6) (e:=214) (d:= .float .f64) (cs:=wc22) (n:=23) aF aF aF (Oz os args) rfl bZ aF).trans aF
theorem Sa(os:Os)(args:Array Value):DataW.trod (fun _=>()) Tryz.prog (wW os args) 0 (fun _=>true) false 8 77 wc1=some (Rows.laid_strconv_ErrSyntax,MemPlace.row ⟨18,0,none⟩ 1):=by kernel_rfl
theorem Sb(os:Os)(args:Array Value):Value.okWideB Tryz.prog (wW os args) 226 (.pointer (some ⟨18,0,none⟩))=true:=by kernel_rfl
theorem Sc(os:Os)(args:Array Value):DataW.trod (fun _=>()) Tryz.prog (wW os args) 0 (fun _=>true) false 8 77 wc2=some (Rows.laid_strconv_ErrRange,MemPlace.row ⟨19,0,none⟩ 1):=by kernel_rfl
theorem Sd(os:Os)(args:Array Value):Value.okWideB Tryz.prog (wW os args) 226 (.pointer (some ⟨19,0,none⟩))=true:=by kernel_rfl
theorem IN(w:World)(x:Nat×Nat)(h1:(Lit.int .u64 (x.1:Int)).wf=true)(h2:(Lit.int .u64 (x.2:Int)).wf=true):DataW.trod (fun _=>()) Tryz.prog w 0 (fun _=>true) false 7 359 (MN x)=some (.agg [.lit (.int .u64 x.1), .lit (.int .u64 x.2)],[]):=by
 have e1:Tryz.prog.underlying 359=some (.struct #[⟨ "hi",235,0,false, "", "internal/strconv",0⟩,⟨ "lo",235,1,false, "", "internal/strconv",8⟩]):=by kernel_rfl
 have e2:Tryz.prog.cellsOf 359=2:=by kernel_rfl
 have e3:Tryz.prog.cellsOf 235=1:=by kernel_rfl
 have e4:Tryz.prog.underlying 235=some (.int .u64):=by kernel_rfl
 unfold DataW.trod
 simp only [e1,MN,e2]
 rw [if_pos (show([Value.int .u64 (x.1:Int),Value.int .u64 (x.2:Int)]:List Value).length=2 from rfl)]
 simp only [List.mapM_cons,List.mapM_nil,e3]
 have t1:DataW.trod (fun _=>()) Tryz.prog w 0 (fun _=>true) false 6 235 [Value.int .u64 x.1]=some (.lit (.int .u64 x.1),[]):=gy (fuel:=5) e4 (by simp [p6,h1])
 have t2:DataW.trod (fun _=>()) Tryz.prog w 0 (fun _=>true) false 6 235 [Value.int .u64 x.2]=some (.lit (.int .u64 x.2),[]):=gy (fuel:=5) e4 (by simp [p6,h2])
 simp [t1,t2]
theorem Q5(w:World):DataW.trod (fun _=>()) Tryz.prog w 0 (fun _=>true) false 8 360 wc11=some (Rows.laid_internal_strconv_pow10Tab,[]):=by
  have hl:wc11.length=Pinned.pow10Rows.length*2:=pz MN 2 (fun _=>rfl) _
  have hr:Pinned.pow10Rows.length=696:=by kernel_rfl
  have hwf:Pinned.pow10Rows.all (fun x=>(Lit.int .u64 x.1).wf && (Lit.int .u64 x.2).wf)=true:=by kernel_rfl
  have:=wn (P:=Tryz.prog) (w:=w) (enc:=fun _=>()) (sp:=fun _=>true) (held:=false) (fuel:=7) (t:=360) (e:=359) (n:=696) (k:=2) (cs:=wc11) (g:=fun i=>(fun x:Nat×Nat=>(.agg [.lit (.int .u64 x.1), .lit (.int .u64 x.2)]:DataW Unit)) (Pinned.pow10Rows.getD i default)) aF aF (by rw [hl,hr];kernel_rfl) (fun i hi=>by
    have hi':i<Pinned.pow10Rows.length:=by rw [hr];exact hi
    have h1:(wc11.drop (i*2)).take 2=MN Pinned.pow10Rows[i]:=nt MN 2 (fun _=>rfl) _ i hi'
    have h2:=List.all_eq_true.1 hwf _ (List.getElem_mem hi')
    simp only [Bool.and_eq_true]at h2
    rw [h1,List.getD_eq_getElem?_getD,List.getElem?_eq_getElem hi',Option.getD_some]
    exact IN w _ h2.1 h2.2)
  rw [this]
  have h3:=ij (fun x:Nat×Nat=>(.agg [.lit (.int .u64 x.1), .lit (.int .u64 x.2)]:DataW Unit)) Pinned.pow10Rows
  rw [hr]at h3
  rw [h3]
  rfl
theorem IP(w:World)(x:Nat×List UInt8)(h1:(Lit.int .i64 (x.1:Int)).wf=true)(h2:x.2.length≤maxLen):DataW.trod (fun _=>()) Tryz.prog w 0 (fun _=>true) false 7 365 (MO x)=some (.agg [.lit (.int .i64 x.1), .lit (.string x.2)],[]):=by
 have e1:Tryz.prog.underlying 365=some (.struct #[⟨ "delta",3,0,false, "", "internal/strconv",0⟩,⟨ "cutoff",9,1,false, "", "internal/strconv",8⟩]):=by kernel_rfl
 have e2:Tryz.prog.cellsOf 365=2:=by kernel_rfl
 have e3:Tryz.prog.cellsOf 3=1:=by kernel_rfl
 have e4:Tryz.prog.cellsOf 9=1:=by kernel_rfl
 have e5:Tryz.prog.underlying 3=some (.int .i64):=by kernel_rfl
 have e6:Tryz.prog.underlying 9=some .string:=by kernel_rfl
 have t1:DataW.trod (fun _=>()) Tryz.prog w 0 (fun _=>true) false 6 3 [Value.int .i64 x.1]=some (.lit (.int .i64 x.1),[]):=gy (fuel:=5) e5 (by simp [p6,h1])
 have t2:DataW.trod (fun _=>()) Tryz.prog w 0 (fun _=>true) false 6 9 [Value.string ⟨x.2.toArray⟩]=some (.lit (.string x.2),[]):=by
  unfold DataW.trod
  have:(ByteArray.mk x.2.toArray).size≤maxLen:=by simpa [ByteArray.size]using h2
  simp [e6,this]
 unfold DataW.trod
 simp only [e1,MO,e2]
 rw [if_pos (show([Value.int .i64 (x.1:Int),Value.string ⟨x.2.toArray⟩]:List Value).length=2 from rfl)]
 simp only [List.mapM_cons,List.mapM_nil,e3,e4]
 simp [t1,t2]
theorem Q6(os:Os)(args:Array Value):DataW.trod (fun _=>()) Tryz.prog (wW os args) 0 (fun _=>true) false 8 366 wc12=some (Rows.laid_internal_strconv_leftcheats,MemPlace.row ⟨23,0,none⟩ 122):=by
  have hl:wc23.length=Pinned.cheatRows.length*2:=pz MO 2 (fun _=>rfl) _
  have hr:Pinned.cheatRows.length=61:=by kernel_rfl
  have hwf:Pinned.cheatRows.all (fun x=>(Lit.int .i64 x.1).wf && decide (x.2.length≤maxLen))=true:=by kernel_rfl
  have:=lJ (P:=Tryz.prog) (w:=wW os args) (enc:=fun _=>()) (sp:=fun _=>true) (held:=false) (fuel:=7) (t:=366) (e:=365) (b:=23) (n:=61) (k:=2) (T:=365) (cs:=wc23) (g:=fun i=>(fun x:Nat×List UInt8=>(.agg [.lit (.int .i64 x.1), .lit (.string x.2)]:DataW Unit)) (Pinned.cheatRows.getD i default)) aF aF (O0 os args) (by rw [hl,hr]) bZ (fun i hi=>by
    have hi':i<Pinned.cheatRows.length:=by rw [hr];exact hi
    have h1:(wc23.drop (i*2)).take 2=MO Pinned.cheatRows[i]:=nt MO 2 (fun _=>rfl) _ i hi'
    have h2:=List.all_eq_true.1 hwf _ (List.getElem_mem hi')
    simp only [Bool.and_eq_true,decide_eq_true_eq]at h2
    rw [h1,List.getD_eq_getElem?_getD,List.getElem?_eq_getElem hi',Option.getD_some]
    exact IP _ _ h2.1 h2.2)
  have h3:=ij (fun x:Nat×List UInt8=>(.agg [.lit (.int .i64 x.1), .lit (.string x.2)]:DataW Unit)) Pinned.cheatRows
  rw [hr]at h3
  rw [h3]at this
  exact this
def PH:List MemPlace:=MemPlace.row ⟨6,0,none⟩ wc6.length++[]++(MemPlace.row ⟨7,0,none⟩ wc7.length++[]++(MemPlace.row ⟨3,0,none⟩ wc3.length++[]++(MemPlace.row ⟨5,0,none⟩ wc5.length++[]++(MemPlace.row ⟨4,0,none⟩ wc4.length++[]++(MemPlace.row ⟨9,0,none⟩ wc9.length++MemPlace.row ⟨21,0,none⟩ 9++(MemPlace.row ⟨10,0,none⟩ wc10.length++MemPlace.row ⟨22,0,none⟩ 23++(MemPlace.row ⟨8,0,none⟩ wc8.length++MemPlace.row ⟨20,0,none⟩ 11++(MemPlace.row ⟨0,0,none⟩ wc0.length++[]++(MemPlace.row ⟨2,0,none⟩ wc2.length++MemPlace.row ⟨19,0,none⟩ 1++(MemPlace.row ⟨1,0,none⟩ wc1.length++MemPlace.row ⟨18,0,none⟩ 1++(MemPlace.row ⟨12,0,none⟩ wc12.length++MemPlace.row ⟨23,0,none⟩ 122++(MemPlace.row ⟨11,0,none⟩ wc11.length++[]++([])))))))))))))
theorem Se(os:Os)(args:Array Value):DataW.LaidVars Tryz.prog (wW os args) Rows.fnTextedRow.laid PH:=
 uN 8 aF aF (RY os args) (SW _) (uN 8 aF aF (RZ os args) (SX _) (uN 8 aF aF (RU os args) (ST _) (uN 8 aF aF (RX os args) (SV _) (uN 8 aF aF (RW os args) (SU _) (uN 8 aF aF (Rb os args) (SZ os args) (uN 8 aF aF (Ou os args) (Q4 os args) (uN 8 aF aF (Ra os args) (SY os args) (uN 8 aF aF (RR os args) (SS _) (uN 8 aF aF (RT os args) (Sc os args) (uN 8 aF aF (RS os args) (Sa os args) (uN 8 aF aF (Ow os args) (Q6 os args) (uN 8 aF aF (Ov os args) (Q5 _) (rfl)))))))))))))
def Q7:List Nat:=[0,1,2,3,4,5,6,7,8,9,10,11,12,18,19,20,21,22,23]
theorem Sg:nodupBits 1400 PH 0=true:=by kernel_rfl
theorem Sh:SH Q7 PH=true:=by kernel_rfl
theorem Fl(os:Os)(args:Array Value):laidMet Tryz.prog Rows.fnTextedRow.laid (wW os args):=by
 refine⟨PH,Se os args,(nodupBits_sound Sg).1,fun b off hp=>?_⟩
 have h1:=List.all_eq_true.1 Sh _ hp
 have hb:b∈Q7:=by simpa using h1
 simp only [Q7,List.mem_cons,List.not_mem_nil,or_false]at hb
 rcases hb with rfl|rfl|rfl|rfl|rfl|rfl|rfl|rfl|rfl|rfl|rfl|rfl|rfl|rfl|rfl|rfl|rfl|rfl|rfl
 ·exact wM (RR os args) aF
 ·exact py (RS os args) (Sb os args)
 ·exact py (RT os args) (Sd os args)
 ·exact wM (RU os args) aF
 ·exact wM (RW os args) aF
 ·exact wM (RX os args) aF
 ·exact wM (RY os args) aF
 ·exact wM (RZ os args) aF
 ·exact wM (Ra os args) aF
 ·exact wM (Rb os args) aF
 ·exact wM (Ou os args) aF
 ·exact wM (Ov os args) aF
 ·exact wM (Ow os args) aF
 ·exact wM (Q2 os args) aF
 ·exact wM (Q3 os args) aF
 ·exact wM (Ox os args) aF
 ·exact wM (Oy os args) aF
 ·exact wM (Oz os args) aF
 ·exact wM (O0 os args) aF
end Go.Jw

namespace Go.Jw
open Go Go.RowKit Go.Proofs Go.ChangeShapes Go.WideShapes Go.ChangeAt Go.Proofs.YtlcfillobkdnmaaGreatDoor
set_option maxRecDepth 100000
noncomputable abbrev jP:Program:=Tryz.pinned.checked.prog
def jL:List Char:=([104,97,114,110,101,115,115,32,51,52,54,53,50,48,98,97,101,52,98,52,51,99,98,99,55,56,100,101,53,53,51,57,50,50,101,54,99,51,55,50,100,97,98,97,102,48,98,100,48,48,53,100,102,57,97,97,102,99,54,50,57,100,55,55,100,51,48,101,52,48,56,53,32,99,117,116,32,97,116,32,108,111,111,112,46,101,120,97,109,112,108,101,47,112,117,98,45,103,48,49,53,50,50,47,108,97,119,115,46,70,110,84,101,120,116,101,100,32,108,111,111,112,46,101,120,97,109,112,108,101,47,112,117,98,45,103,48,49,53,50,50,47,108,97,119,115,46,70,110,87,114,105,116,116,101,110,32,108,111,111,112,46,101,120,97,109,112,108,101,47,112,117,98,45,103,48,49,53,50,50,47,108,97,119,115,46,70,110,87,114,105,116,116,101,110,84,119,105,99,101,32,108,111,111,112,46,101,120,97,109,112,108,101,47,112,117,98,45,103,48,49,53,50,50,47,108,97,119,115,46,70,110,65,100,100,101,100,32,108,111,111,112,46,101,120,97,109,112,108,101,47,112,117,98,45,103,48,49,53,50,50,47,108,97,119,115,46,70,110,70,111,117,110,100,32,108,111,111,112,46,101,120,97,109,112,108,101,47,112,117,98,45,103,48,49,53,50,50,47,108,97,119,115,46,70,110,80,111,105,110,116,101,100,32,108,111,111,112,46,101,120,97,109,112,108,101,47,112,117,98,45,103,48,49,53,50,50,47,108,97,119,115,46,70,110,67,111,112,105,101,100,32,108,111,111,112,46,101,120,97,109,112,108,101,47,112,117,98,45,103,48,49,53,50,50,47,108,97,119,115,46,70,110,67,111,112,105,101,100,65,99,99,101,112,116,115,32,108,111,111,112,46,101,120,97,109,112,108,101,47,112,117,98,45,103,48,49,53,50,50,47,108,97,119,115,46,70,110,65,108,108,83,116,101,112,115,32,108,111,111,112,46,101,120,97,109,112,108,101,47,112,117,98,45,103,48,49,53,50,50,47,108,97,119,115,46,70,110,67,104,111,115,101,110,32,108,111,111,112,46,101,120,97,109,112,108,101,47,112,117,98,45,103,48,49,53,50,50,47,108,97,119,115,46,70,110,67,104,111,115,101,110,78,97,114,114,111,119,115,32,108,111,111,112,46,101,120,97,109,112,108,101,47,112,117,98,45,103,48,49,53,50,50,47,108,97,119,115,46,70,110,77,101,114,103,101,100,32,108,111,111,112,46,101,120,97,109,112,108,101,47,112,117,98,45,103,48,49,53,50,50,47,108,97,119,115,46,70,110,77,101,114,103,101,100,65,99,99,101,112,116,115,32,108,111,111,112,46,101,120,97,109,112,108,101,47,112,117,98,45,103,48,49,53,50,50,47,108,97,119,115,46,70,110,82,101,115,111,108,118,101,100,32,108,111,111,112,46,101,120,97,109,112,108,101,47,112,117,98,45,103,48,49,53,50,50,47,108,97,119,115,46,70,110,82,101,115,111,108,118,101,100,65,99,99,101,112,116,115,32,108,111,111,112,46,101,120,97,109,112,108,101,47,112,117,98,45,103,48,49,53,50,50,47,108,97,119,115,46,70,110,82,101,115,111,108,118,101,100,84,119,105,99,101]:List Nat).map Char.ofNat
def jW:List (List Char):=([[104,97,114,110,101,115,115],[51,52,54,53,50,48,98,97,101,52,98,52,51,99,98,99,55,56,100,101,53,53,51,57,50,50,101,54,99,51,55,50,100,97,98,97,102,48,98,100,48,48,53,100,102,57,97,97,102,99,54,50,57,100,55,55,100,51,48,101,52,48,56,53],[99,117,116],[97,116],[108,111,111,112,46,101,120,97,109,112,108,101,47,112,117,98,45,103,48,49,53,50,50,47,108,97,119,115,46,70,110,84,101,120,116,101,100],[108,111,111,112,46,101,120,97,109,112,108,101,47,112,117,98,45,103,48,49,53,50,50,47,108,97,119,115,46,70,110,87,114,105,116,116,101,110],[108,111,111,112,46,101,120,97,109,112,108,101,47,112,117,98,45,103,48,49,53,50,50,47,108,97,119,115,46,70,110,87,114,105,116,116,101,110,84,119,105,99,101],[108,111,111,112,46,101,120,97,109,112,108,101,47,112,117,98,45,103,48,49,53,50,50,47,108,97,119,115,46,70,110,65,100,100,101,100],[108,111,111,112,46,101,120,97,109,112,108,101,47,112,117,98,45,103,48,49,53,50,50,47,108,97,119,115,46,70,110,70,111,117,110,100],[108,111,111,112,46,101,120,97,109,112,108,101,47,112,117,98,45,103,48,49,53,50,50,47,108,97,119,115,46,70,110,80,111,105,110,116,101,100],[108,111,111,112,46,101,120,97,109,112,108,101,47,112,117,98,45,103,48,49,53,50,50,47,108,97,119,115,46,70,110,67,111,112,105,101,100],[108,111,111,112,46,101,120,97,109,112,108,101,47,112,117,98,45,103,48,49,53,50,50,47,108,97,119,115,46,70,110,67,111,112,105,101,100,65,99,99,101,112,116,115],[108,111,111,112,46,101,120,97,109,112,108,101,47,112,117,98,45,103,48,49,53,50,50,47,108,97,119,115,46,70,110,65,108,108,83,116,101,112,115],[108,111,111,112,46,101,120,97,109,112,108,101,47,112,117,98,45,103,48,49,53,50,50,47,108,97,119,115,46,70,110,67,104,111,115,101,110],[108,111,111,112,46,101,120,97,109,112,108,101,47,112,117,98,45,103,48,49,53,50,50,47,108,97,119,115,46,70,110,67,104,111,115,101,110,78,97,114,114,111,119,115],[108,111,111,112,46,101,120,97,109,112,108,101,47,112,117,98,45,103,48,49,53,50,50,47,108,97,119,115,46,70,110,77,101,114,103,101,100],[108,111,111,112,46,101,120,97,109,112,108,101,47,112,117,98,45,103,48,49,53,50,50,47,108,97,119,115,46,70,110,77,101,114,103,101,100,65,99,99,101,112,116,115],[108,111,111,112,46,101,120,97,109,112,108,101,47,112,117,98,45,103,48,49,53,50,50,47,108,97,119,115,46,70,110,82,101,115,111,108,118,101,100],[108,111,111,112,46,101,120,97,109,112,108,101,47,112,117,98,45,103,48,49,53,50,50,47,108,97,119,115,46,70,110,82,101,115,111,108,118,101,100,65,99,99,101,112,116,115],[108,111,111,112,46,101,120,97,109,112,108,101,47,112,117,98,45,103,48,49,53,50,50,47,108,97,119,115,46,70,110,82,101,115,111,108,118,101,100,84,119,105,99,101]]:List (List Nat)).map fun l=>l.map Char.ofNat
theorem hI:jP.initOrder=String.ofList jL:=by kernel_rfl
theorem Si:wordsSigns jL=jW:=by kernel_rfl
theorem hW:wordsSigns jP.initOrder.toList=jW:=by rw [hI,String.toList_ofList,Si]
theorem jh:behindMainWord (wordsSigns jP.initOrder.toList)= "cut".toList::jW.drop 3:=by rw [hW];kernel_rfl
theorem IQ{P:Program}{rest:List (List Char)}(h:behindMainWord (wordsSigns P.initOrder.toList)= "cut".toList::rest):P.make=some .cut:=by unfold Program.make;rw [h];rfl
theorem Fm{P:Program}{rest:List (List Char)}(h:behindMainWord (wordsSigns P.initOrder.toList)= "cut".toList::rest):P.liftsFinal=false:=by unfold Program.liftsFinal Program.headLifts;rw [h];rfl
theorem Fo{P:Program}{rest:List (List Char)}(h:behindMainWord (wordsSigns P.initOrder.toList)= "cut".toList::rest)(l1:P.laysLater=false)(l2:P.bearsReflect=false)(l3:P.doorFits []=true):P.mayEnter=true:=by
 have h1:(stripLifts liftWords ("cut".toList::rest)).1=[]:=rfl
 have h2:(stripLifts liftWords ("cut".toList::rest)).2= "cut".toList::rest:=rfl
 unfold Program.mayEnter
 rw [h]
 simp only [h1,h2,l1,l2,l3,List.head?_cons]
 simp
theorem Sj:jP.laysLater=false:=by kernel_rfl
theorem Sk:jP.bearsReflect=false:=by kernel_rfl
theorem Sl:jP.doorFits []=true:=by kernel_rfl
theorem j1:(laidOutB jP)=true:=by kernel_rfl
theorem j2:(mapsRowed jP)=true:=by kernel_rfl
theorem j6:((jP.stops==[]))=true:=by kernel_rfl
theorem j8:((jP.stopKnobs==[]))=true:=by kernel_rfl
theorem Sn:(jP.stopsHeard)=true:=by kernel_rfl
theorem So:(jP.mayEnter)=true:=Fo jh Sj Sk Sl
noncomputable abbrev jC10:OpenClaim:=Rows.fnCopiedAcceptsUptoRow
noncomputable abbrev jS10:ChangeSpec:=(Rows.OpenSpec.upto Rows.fnCopiedAcceptsSpec).bare
noncomputable abbrev jF10:Func:=Tryz.f10
theorem O3:(jC10.wf (OpenSpec.ofChange jS10))=true:=by kernel_rfl
theorem O4:(jF10.params.all (jP.readableRec ·))=true:=by kernel_rfl
theorem O5:(namedTie jP jC10.named jS10.vars)=true:=by kernel_rfl
theorem O6:((jC10.stops==[]))=true:=by kernel_rfl
theorem O7:((jC10.knobs==[]))=true:=by kernel_rfl
theorem O8:((jC10.inPlace==jP.inPlace 10))=true:=by kernel_rfl
theorem Ln:((jC10.unfollowed==jP.unfollowed 10))=true:=by kernel_rfl
theorem Lo:((jC10.recurses==jP.recurses 10))=true:=by kernel_rfl
theorem Lp:((jC10.named==jP.varsNamed 10))=true:=by kernel_rfl
theorem Lq:((jC10.maps==(jF10.params.toList++jS10.plain.varTypes jP).any (jP.mapsRec ·)))=true:=by kernel_rfl
theorem Lr:((jC10.ifaces==(jF10.params.toList++jS10.plain.varTypes jP).any (jP.ifacesRec ·)))=true:=by kernel_rfl
theorem Ls:((jC10.mapsOut==jP.mapsAmong jF10.resultTypes.toList))=true:=by kernel_rfl
theorem Lt:((jC10.loops==(jF10.params.toList++jS10.plain.varTypes jP).any (jP.loopsFrom ·)))=true:=by kernel_rfl
theorem Lu:((jC10.wideKeys==(jF10.params.toList++jS10.plain.varTypes jP++jF10.resultTypes.toList).any (jP.wideKeysFrom ·)))=true:=by kernel_rfl
theorem Lv:(jS10.vars.all (jP.varReadable ·))=true:=by kernel_rfl
theorem Lw:(jF10.resultTypes.all (fun t=>jP.readableRec t && decide (t<jP.types.size)))=true:=by kernel_rfl
theorem Lx:((jC10.ifacesOut==jF10.resultTypes.toList.any (jP.ifacesRec ·)))=true:=by kernel_rfl
theorem Ly:((jC10.loopsOut==jF10.resultTypes.toList.any (jP.loopsFrom ·)))=true:=by kernel_rfl
theorem Lz:((jC10.plainKeys==jP.plainKeys))=true:=by kernel_rfl
theorem L1:(jC10.shortTexts.isNone)=true:=by kernel_rfl
theorem L4:((jC10.lifted==jP.liftsFinal))=true:=by rw [Fm jh];kernel_rfl
theorem L5:((jP.make==some jC10.make))=true:=by rw [IQ jh];kernel_rfl
theorem L6:((jC10.kinds==(if jC10.domain.isEmpty then []else jF10.params.toList.map fun t=>match jP.underlying t with|some (.int k)=>some k|_=>none)))=true:=by kernel_rfl
theorem L7:((jC10.pinned==jC10.pinnedBy))=true:=by kernel_rfl
theorem L8:((jC10.veiled==(jF10.params.toList++jS10.plain.varTypes jP++jF10.resultTypes.toList).any (jP.veiledRec ·)))=true:=by kernel_rfl
theorem L9:(jC10.veiledFits jP jF10.params.toList (jF10.params.toList++jS10.plain.varTypes jP++jF10.resultTypes.toList))=true:=by kernel_rfl
theorem MA:joinedFacts jP 10 jF10 jS10 jC10=true:=by
 unfold joinedFacts
 simp only [Bool.and_eq_true]
 exact⟨⟨⟨⟨⟨⟨⟨⟨⟨⟨⟨⟨⟨⟨⟨⟨⟨⟨⟨⟨⟨⟨⟨⟨⟨⟨⟨⟨⟨⟨⟨O3,j1⟩,j2⟩,O4⟩,O5⟩,O6⟩,j6⟩,O7⟩,j8⟩,O8⟩,Ln⟩,Lo⟩,Lp⟩,Lq⟩,Lr⟩,Ls⟩,Lt⟩,Lu⟩,Lv⟩,Lw⟩,Lx⟩,Ly⟩,Lz⟩,L1⟩,Sn⟩,So⟩,L4⟩,L5⟩,L6⟩,L7⟩,L8⟩,L9⟩
theorem IR:false=jC10.goesBy jP:=by kernel_rfl
theorem IS:jC10.wfByText (Rows.OpenSpec.upto Rows.fnCopiedAcceptsSpec)=true:=by kernel_rfl
def CV:Value:= .agg #[.int .i64 0, .int .i64 0, .string ⟨#[]⟩, .slice none 0 0, .slice none 0 0]
theorem IT{P:Program}{h s:List Char}{r:List (List Char)}(hw:wordsSigns P.initOrder.toList=h::s::r)(h1:h= "harness".toList)(h2:isSumSigns s=true):P.mainIs=some (true,s):=by
 unfold Program.mainIs
 rw [hw,h1]
 simp only [h2]
 rfl
theorem Sp:wordsSigns jP.initOrder.toList= "harness".toList:: "346520bae4b43cbc78de553922e6c372dabaf0bd005df9aafc629d77d30e4085".toList::jW.drop 2:=by rw [hW];kernel_rfl
theorem Q8:isSumSigns "346520bae4b43cbc78de553922e6c372dabaf0bd005df9aafc629d77d30e4085".toList=true:=by kernel_rfl
theorem O9:jP.mainIs=some (true, "346520bae4b43cbc78de553922e6c372dabaf0bd005df9aafc629d77d30e4085".toList):=IT Sp rfl Q8
theorem IU(os:Os){H:Type}(enc:TypeId×Value→H): ∃places,DataW.whole enc Tryz.prog ((cw os).forCall (fun _ _=>0) ⟨#[], #[CV,CV, .slice none 0 0],[]⟩).memory Tryz.f10.params.toList Rows.fnCopiedAcceptsSpec.vars false #[CV,CV, .slice none 0 0].toList 8=some ([.agg [.lit (.int .i64 0), .lit (.int .i64 0), .lit (.string []), .nil, .nil], .agg [.lit (.int .i64 0), .lit (.int .i64 0), .lit (.string []), .nil, .nil], .nil],[],places):=
 ⟨[],by kernel_rfl⟩
theorem Fp(os:Os)(started:os.Started)(H:Type)(enc:TypeId×Value→H)(F:Stop.Interp):
    ReturnsInHanded {} Tryz.checked os 10 .any ((Rows.OpenSpec.upto Rows.fnCopiedAcceptsSpec).preRow enc Tryz.prog Tryz.f10 Rows.fnCopiedAcceptsUptoRow.domain false Rows.fnCopiedAcceptsUptoRow.laid) (((Rows.OpenSpec.upto Rows.fnCopiedAcceptsSpec).at F).post enc Tryz.prog Tryz.f10 false true false false):=by
  obtain⟨places,hx⟩:=IU os enc
  refine returnsInHanded_of_row (C:=Tryz.checked) (s:=(Rows.OpenSpec.upto Rows.fnCopiedAcceptsSpec)) own started aF Tryz.func10
    (witness_row_atRef (enc:=enc) (C:=Tryz.checked) false (cw os) #[CV,CV, .slice none 0 0] rfl (Fk os _) aF aF
      (OpenSpec.preRow_of_cond 8 hx aF (fun k hk=>by cases hk;kernel_rfl) aF (Fl os _))) ?_
  intro W base args ds gs before hval hW _ hcond _ hL _ _
  exact zi H enc W base args ds gs before hval hW (hcond _ Z) hL
theorem MB:Rows.FnCopiedAcceptsUptoSaid:=
  OpenClaim.holds_of_cond 10 Tryz.f10 rfl rfl rfl rfl rfl rfl rfl ⟨rfl,rfl,rfl,rfl,rfl⟩ rfl rfl rfl rfl rfl aF Tryz.func10 MA
    (of_decide_eq_true aF) (by unfold Func.isWrapper;first|(rw [if_pos aD];kernel_rfl)|(rw [if_neg aD];exact⟨rfl,rfl⟩))
    (fun os started H enc _ F=>by rw [OpenClaim.pre_eq_preRow];exact Fp os started H enc F)
theorem IV(f:FuncId)(fn:Func)(hf:Tryz.pinned.checked.prog.funcNamed "loop.example/pub-g01522/laws.FnCopiedAccepts" =some f)(hfn:Tryz.pinned.checked.prog.funcs[f]? =some fn):
  true=Tryz.pinned.checked.prog.looks []∧ ∀ (j:Nat) t,fn.params[j]? =some t→Tryz.pinned.checked.prog.wantsStandIn t=false:=by
 obtain rfl:f=10:=Option.some.inj ((show Tryz.prog.funcNamed "loop.example/pub-g01522/laws.FnCopiedAccepts" =some 10 by kernel_rfl).symm.trans hf)|>.symm
 obtain rfl:fn=Tryz.f10:=(Option.some.inj (Tryz.func10.symm.trans hfn)).symm
 refine⟨by kernel_rfl,fun j t ht=>?_⟩
 rw [Tryz.params10]at ht
 have hm:t∈ #[25,25,23]:=Array.mem_of_getElem? ht
 simp only [List.mem_toArray,List.mem_cons,List.not_mem_nil,or_false]at hm
 rcases hm with rfl|rfl|rfl
 ·exact(show Tryz.prog.wantsStandIn 25=false by kernel_rfl)
 ·exact(show Tryz.prog.wantsStandIn 25=false by kernel_rfl)
 ·exact(show Tryz.prog.wantsStandIn 23=false by kernel_rfl)
theorem card10:Rows.FnCopiedAcceptsUptoCardSaid:=
 Claim7.holds_tied_plain_at .later [] _ _ _ _ MB (fun _ h=>by cases h) IS (fun _ h=>by cases h) (Ll _ rfl rfl) rfl ⟨rfl,rfl⟩ O9 rfl IV IR
end Go.Jw
namespace Go.Proofs.YtlcfillobkdnmaaGreatDoor
/-- Whatever the input: the law FnCopiedAccepts returns true, and what it reads, reads ags it did. -/
theorem fnCopiedAccepts_holds:Rows.FnCopiedAcceptsUptoCardSaid:=Go.Jw.card10
end Go.Proofs.YtlcfillobkdnmaaGreatDoor

