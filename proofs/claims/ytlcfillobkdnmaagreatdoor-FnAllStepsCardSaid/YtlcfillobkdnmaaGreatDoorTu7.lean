/- References, allOf and anyOf are resolved one behind the other.: part 7, the proof's texts, made small by a program. -/
import Derived.Test.YtlcfillobkdnmaaGreatDoorTu6
import Derived.Test.YtlcfillobkdnmaaGreatDoorRows
import Derived.ProofKit
import Derived.Deep.Slices
import Derived.SliceStrings
import Derived.Lib.LaidTab
import Derived.LaidByTextLater
import Derived.SevenTiedAt
import Derived.LaidSub
import Derived.LaidOnce
import Derived.Test.YtlcfillobkdnmaaGreatDoorCards
import Derived.OpenShut
import Derived.Deep.DeepHandedRow
import Derived.Deep.DeepWitnessRowRef
import Derived.ChangeMaps5
import Derived.RowKit
import Derived.DataWitness
import Derived.LaidLaws
set_option linter.unusedVariables false
set_option linter.unusedSimpArgs false
set_option maxHeartbeats 4000000
namespace Go.Jw
open Go Go.RowKit Go.Proofs
set_option maxRecDepth 8000
section rules
variable {P:Program} {n:Nat} {F:List Nat} {c:Ctx F} {ops:Array Oper} {d:Nat} {T:TypeId} {l:List Oper} {k:List KI} {Q:Post} {e:dI} {M:List HA} {D:List DA}
theorem sv{fn:Fn}{x:Operand}{cs:Array Operand}{v:Value}(hd:Nat.blt d n=true)(hx:ev e x=some v)(hc:cs= #[])(next:cL P n c ops l k Q ((d, .func fn #[v] #[])::e) M D):
  cR P n c ops (some d) (.makeFunc fn #[x] cs) T l k Q e M D:=by
 subst hc
 exact xW hd (fun a w hfit=>by simp [execOp,dM,Instr.makeFunc,hfit.ev hx]) next
end rules
def XM(bm:Nat)(a:Bool):List HA:=[.blk bm [.bool a] 90]
def DM(_:Bool):DA:= .val (.agg #[.int .i64 0, .int .i64 0, .string ⟨#[]⟩, .slice none 0 0, .slice none 0 0]) zV
theorem ME{w:V}{j:Nat}(h1:j<w.keys.length)(h2:j<w.items.length):(w.keys.zip w.items)[j]? =some (w.keys[j],w.items[j]):=by
 rw [List.getElem?_zip_eq_some];exact⟨List.getElem?_eq_getElem h1,List.getElem?_eq_getElem h2⟩

theorem Py(bm:Nat)(own:V):d5 own→cn ii own→FZ (XM bm) DM (fun _ _=>True) Gx 79 #[cW bm] #[] own:=by
 refine V.indS (p:=fun own=>d5 own→cn ii own→FZ (XM bm) DM (fun _ _=>True) Gx 79 #[cW bm] #[] own) ?_ own
 intro v IH hv hk k a x _
 change Ct Tryz.prog 79 #[cW bm,x] [.blk bm [.bool a] 90] [.val x v,DM a] _
 refine Ct.of_run (args:=[cW bm,x]) Tryz.func79 aF Z Tryz.ntmps79 Z (fun c=>?_)
 refine yP 0 Z (fun A1 c1 A2 c2 hx hsz hk1 hk2 hi1 hi2=>?_)
 subst hx
 refine rO 3 Z (yK Z Z Z (fun b3=>?_))
 refine zA (zS cx Z (fun b4=>?_))
 change cL _ _ _ _ _ _ _ _ (HA.blk _ [_,_,_,_,_] _::_) _
 refine oO 4 Z (zJ 1 Z cP Z Z ?_)
 refine oO 3 Z (sv Z Z Z ?_)
 refine zA (pE (pre:=[_,_]) Z Z Z (MC (X:=XM bm) (DX:=DM) (Rl:=Gx) 79 #[cW bm] #[] v _ hv.1.wf.kl hv.1.wf.il hv.1.wf.le (fun u hu=>⟨(hv.1.item u hu).wf.kl,(hv.1.item u hu).wf.il⟩) (fun o ho=>IH o (wL ho) (sch_good.kid v hv o ho) (((wG _ _).1 hk).2 o ho)) a) Z (dC 2 3 Z Z) (fun u15 M15 D15 hv15=>?_))
 obtain⟨a15,v15,D15,hR15,rfl,⟨A15,m15,B15,d15,rfl,rfl⟩,rfl⟩:=hv15
 obtain⟨e15,hfl15⟩:=MD hR15
 subst e15
 refine zA (zF 1 (M':=[_,HA.blk _ [_,_,_,_,_] _,_]) Z Z Z Z cY Z Z Z ?_)
 refine oO 4 Z (zJ 1 Z cP Z Z ?_)
 refine zA ?_
 refine zT Z Z Z (vc _ (belowV mergedV v) k28 (rU _ _)) aA (fun u18 D18 hv18=>?_)
 obtain⟨all,hall⟩: ∃all,all=(getV (belowV mergedV v) k28).getD zV:=⟨_,rfl⟩
 rw [←hall]at hv18
 obtain⟨_,rfl,A18,m18,B18,d18,rfl,rfl⟩:=hv18
 refine oO 7 Z (zS cx Z (fun b5=>?_))
 change cL _ _ _ _ _ _ _ _ (HA.blk _ [_,_,_,_,_] _::_) _
 refine zA (zF 0 (M':=[HA.blk _ [_,_,_,_,_] _,_,_,_]) Z Z Z Z cY Z Z Z ?_)
 refine oK 3 [6,5,4,3,0] Z Z (rR 8 Z ?_)
 refine zW Z (fun h22=>?_) (fun h22=>?_)
 ·refine rO 3 Z (zJ 2 Z cP Z Z ?_)
  refine zA (zF 1 (M':=[_,HA.blk _ [_,_,_,_,_] _,_,_]) Z Z Z Z cY Z Z Z ?_)
  refine zX ?_
  have hno:getV (belowV mergedV v) k28=none:=by
   cases hg:getV (belowV mergedV v) k28 with
   |none=>rfl
   |some y=>rw [hg]at h22;cases h22
  have e:belowV mergedV v=mergedV v:=by rw [sL v,oM,hno]
  refine yQ (M':=[HA.blk b4 [_,_,_,_,_] 25,HA.blk bm [_] 90]) (by repeat (first|exact zQ _|refine zB 0 Z ?_|refine zB 1 Z ?_|refine zB 2 Z ?_|refine zB 3 Z ?_|refine zB 4 Z ?_|refine zB 5 Z ?_|refine zB 6 Z ?_)) ?_
  refine yM (DM true) (fun w ok _=>sE w ok) ?_
  exact yZ 0 Tryz.results79 Z Z cP ⟨a15,belowV mergedV v,_,⟨e,fun hf=>⟨(hfl15 hf).1,(wG _ _).2 ⟨fun y hy=>(by rw [hno]at hy;cases hy),(hfl15 hf).2⟩⟩⟩,trivial,rfl,⟨_,_,_,_,rfl,rfl⟩,rfl⟩ ak (by intro d hd;simp only [List.mem_append,List.mem_cons,List.not_mem_nil,or_false,List.mem_singleton]at hd;rcases hd with rfl|rfl<;>simp [DM])
 obtain⟨all0,hg⟩:=Option.isSome_iff_exists.1 (by simpa using h22:(getV (belowV mergedV v) k28).isSome=true)
 obtain rfl:all=all0:=by rw [hall,hg];rfl
 obtain⟨hal,hks⟩:=Ji hv hk hg
 refine rO 4 Z (zJ 2 Z cP Z Z ?_)
 refine zA ?_
 refine zT Z Z Z (Oq (belowV mergedV v) k28 _ (oL hv.1.wf) (vu hv.1.wf) (rU _ _)) aA (fun u25 D25 hv25=>?_)
 obtain⟨rest,hrest⟩: ∃rest,rest=withoutV (belowV mergedV v) k28:=⟨_,rfl⟩
 rw [←hrest]at hv25
 obtain⟨A25,m25,B25,d25,rfl,rfl⟩:=hv25
 refine zA (zS cx Z (fun b7=>?_))
 change cL _ _ _ _ _ _ _ _ (HA.blk _ [_,_,_,_,_] _::_) _
 refine zA (zF 0 (M':=[HA.blk _ [_,_,_,_,_] _,_,_,_,_]) Z Z Z Z cY Z Z Z ?_)
 refine oO 5 Z (zC yV Z Z ?_)
 refine zA (zG 1 dJ Z Z Z Z ?_)
 refine zA (yA cg Z Z ?_)
 refine oK 4 [29,28,27,7,4,0] Z Z (yP 1 Z (fun A5 c5 A6 c6 hx hsz5 hk5 hk6 hi5 hi6=>?_))
 cases hx
 refine tH (D':= .val (.agg #[.int .i64 rest.kind, .int .i64 rest.num, .string rest.text, .slice A25 rest.keys.length m25, .slice B25 rest.items.length d25]) rest:: .strs (.slice A18 all.keys.length m18) all.keys:: .vals (.slice B18 all.items.length d18) all.items:: .val (.agg #[.int .i64 all.kind, .int .i64 all.num, .string all.text, .slice A18 all.keys.length m18, .slice B18 all.items.length d18]) all::[]) (by intro d hd;simp only [List.mem_cons,List.not_mem_nil,or_false]at hd⊢;rcases hd with rfl|rfl|rfl|rfl<;>simp) (yL 1 (fun(⟨i,a1,out,Ew,ew,Fw,fw⟩:Nat×Bool×V×Option Addr×Nat×Option Addr×Nat)=>i≤all.items.length∧out=merL (all.items.take i) rest∧(a1=false→a15=false∧ClearM (all.items.take i) rest)) (fun(⟨i,a1,out,Ew,ew,Fw,fw⟩:Nat×Bool×V×Option Addr×Nat×Option Addr×Nat)=>[(29, .int .i64 ((i:Nat):Int))]) (fun(⟨i,a1,out,Ew,ew,Fw,fw⟩:Nat×Bool×V×Option Addr×Nat×Option Addr×Nat)=>HA.blk b7 [.int .i64 out.kind, .int .i64 out.num, .string out.text, .slice Ew out.keys.length ew, .slice Fw out.items.length fw] 25::HA.blk b5 [.int .i64 all.kind, .int .i64 all.num, .string all.text, .slice A18 all.keys.length m18, .slice B18 all.items.length d18] 25::HA.blk b4 [.int .i64 0, .int .i64 0, .string ⟨#[]⟩, .slice none 0 0, .slice none 0 0] 25::HA.blk b3 [.int .i64 (belowV mergedV v).kind, .int .i64 (belowV mergedV v).num, .string (belowV mergedV v).text, .slice A15 (belowV mergedV v).keys.length m15, .slice B15 (belowV mergedV v).items.length d15] 25::HA.blk bm [.bool a1] 90::[]) (fun(⟨i,a1,out,Ew,ew,Fw,fw⟩:Nat×Bool×V×Option Addr×Nat×Option Addr×Nat)=> .val (.agg #[.int .i64 out.kind, .int .i64 out.num, .string out.text, .slice Ew out.keys.length ew, .slice Fw out.items.length fw]) out:: .strs (.slice A18 all.keys.length m18) all.keys:: .vals (.slice B18 all.items.length d18) all.items:: .val (.agg #[.int .i64 all.kind, .int .i64 all.num, .string all.text, .slice A18 all.keys.length m18, .slice B18 all.items.length d18]) all::[]) (fun(⟨i,a1,out,Ew,ew,Fw,fw⟩:Nat×Bool×V×Option Addr×Nat×Option Addr×Nat)=>all.items.length - i) (0,a15,rest,A25,m25,B25,d25) (⟨Nat.zero_le _,rfl,fun h=>⟨h,trivial⟩⟩) (eC Z (eN _)) Z Z ?_ (eC Z (eC Z (eC Z (eC Z (eC Z (eN _)))))))
 intro ⟨i,a1,out,Ew,ew,Fw,fw⟩ hI K hK
 change Run _ _ _ _ _ [(29,_),(28,_),(27,_),(7,_),(4,_),(0,_)] [_,_,_,_,_] [_,_,_,_]
 obtain⟨hi,hout,hfl⟩:=hI
 have hko:wo out:=hout▸G4 (hrest▸y8 (FD hv hk)) (fun o ho=>hks o (List.mem_of_mem_take ho))
 refine rO 3 Z (yJ Z Z Z ?_)
 refine oR 2 Z (zN Z (fun h30=>?_) (fun h30=>?_))
 ·refine rO 6 Z (wK 2 cg Z Z Z Z aC ?_)
  refine zA (wA 2 cP Z Z Z (List.getElem?_eq_getElem h30) (fun A3 c3 A4 c4=>?_))
  have hkw0:wo all.items[i]:=hks _ (List.getElem_mem h30)
  generalize hw:all.items[i]=w at hkw0⊢
  have hwl:=hkw0.1.2
  have hwf:=FC hkw0
  refine zA (zS cx Z (fun b9=>?_))
  change cL _ _ _ _ _ _ _ _ (HA.blk _ [_,_,_,_,_] _::_) _
  refine zA (zF 0 (M':=[HA.blk _ [_,_,_,_,_] _,_,_,_,_,_]) Z Z Z Z cY Z Z Z ?_)
  refine oO 4 Z (zC xI Z Z ?_)
  refine zA (zG 0 dN Z Z Z Z ?_)
  refine zA (yA cX Z Z ?_)
  refine oK 4 [36,35,34,9,29,28,27,7,4,0] Z Z (yP 0 Z (fun A7 c7 A8 c8 hx hsz7 hk7 hk8 hi7 hi8=>?_))
  cases hx
  refine tH (D':= .val (.agg #[.int .i64 out.kind, .int .i64 out.num, .string out.text, .slice Ew out.keys.length ew, .slice Fw out.items.length fw]) out:: .strs (.slice A3 w.keys.length c3) w.keys:: .vals (.slice A4 w.items.length c4) w.items:: .val (.agg #[.int .i64 w.kind, .int .i64 w.num, .string w.text, .slice A3 w.keys.length c3, .slice A4 w.items.length c4]) w:: .strs (.slice A18 all.keys.length m18) all.keys:: .vals (.slice B18 all.items.length d18) all.items:: .val (.agg #[.int .i64 all.kind, .int .i64 all.num, .string all.text, .slice A18 all.keys.length m18, .slice B18 all.items.length d18]) all::[]) (by intro d hd;simp only [List.mem_cons,List.not_mem_nil,or_false]at hd⊢;rcases hd with rfl|rfl|rfl|rfl|rfl|rfl|rfl<;>simp) (yL 1 (fun(⟨j,a2,out2,Gw,gw,Hw,hw2⟩:Nat×Bool×V×Option Addr×Nat×Option Addr×Nat)=>j≤w.keys.length∧out2=setL ((w.keys.zip w.items).take j) out∧(a2=false→a1=false∧Clear1 ((w.keys.zip w.items).take j) out)) (fun(⟨j,a2,out2,Gw,gw,Hw,hw2⟩:Nat×Bool×V×Option Addr×Nat×Option Addr×Nat)=>[(36, .int .i64 ((j:Nat):Int))]) (fun(⟨j,a2,out2,Gw,gw,Hw,hw2⟩:Nat×Bool×V×Option Addr×Nat×Option Addr×Nat)=>HA.blk b9 [.int .i64 w.kind, .int .i64 w.num, .string w.text, .slice A3 w.keys.length c3, .slice A4 w.items.length c4] 25::HA.blk b7 [.int .i64 out2.kind, .int .i64 out2.num, .string out2.text, .slice Gw out2.keys.length gw, .slice Hw out2.items.length hw2] 25::HA.blk b5 [.int .i64 all.kind, .int .i64 all.num, .string all.text, .slice A18 all.keys.length m18, .slice B18 all.items.length d18] 25::HA.blk b4 [.int .i64 0, .int .i64 0, .string ⟨#[]⟩, .slice none 0 0, .slice none 0 0] 25::HA.blk b3 [.int .i64 (belowV mergedV v).kind, .int .i64 (belowV mergedV v).num, .string (belowV mergedV v).text, .slice A15 (belowV mergedV v).keys.length m15, .slice B15 (belowV mergedV v).items.length d15] 25::HA.blk bm [.bool a2] 90::[]) (fun(⟨j,a2,out2,Gw,gw,Hw,hw2⟩:Nat×Bool×V×Option Addr×Nat×Option Addr×Nat)=> .val (.agg #[.int .i64 out2.kind, .int .i64 out2.num, .string out2.text, .slice Gw out2.keys.length gw, .slice Hw out2.items.length hw2]) out2:: .strs (.slice A3 w.keys.length c3) w.keys:: .vals (.slice A4 w.items.length c4) w.items:: .val (.agg #[.int .i64 w.kind, .int .i64 w.num, .string w.text, .slice A3 w.keys.length c3, .slice A4 w.items.length c4]) w:: .strs (.slice A18 all.keys.length m18) all.keys:: .vals (.slice B18 all.items.length d18) all.items:: .val (.agg #[.int .i64 all.kind, .int .i64 all.num, .string all.text, .slice A18 all.keys.length m18, .slice B18 all.items.length d18]) all::[]) (fun(⟨j,a2,out2,Gw,gw,Hw,hw2⟩:Nat×Bool×V×Option Addr×Nat×Option Addr×Nat)=>w.keys.length - j) (0,a1,out,Ew,ew,Fw,fw) (⟨Nat.zero_le _,rfl,fun h=>⟨h,trivial⟩⟩) (eC Z (eN _)) Z Z ?_ (eC Z (eC Z (eC Z (eC Z (eC Z (eC Z (eC Z (eC Z (eC Z (eN _)))))))))))
  intro ⟨j,a2,out2,Gw,gw,Hw,hw2⟩ hI K hK1
  change Run _ _ _ _ _ [(36,_),(35,_),(34,_),(9,_),(29,_),(28,_),(27,_),(7,_),(4,_),(0,_)] [_,_,_,_,_,_] [_,_,_,_,_,_,_]
  obtain⟨hj,hout2,hfl2⟩:=hI
  have hko2:wo out2:=hout2▸Ah hko (fun p hp=>lA hkw0.2 p (List.mem_of_mem_take hp))
  refine rO 3 Z (yJ Z Z Z ?_)
  refine oR 2 Z (zN Z (fun h37=>?_) (fun h37=>?_))
  ·refine rO 8 Z (xP 1 cX Z Z Z Z h37 ?_)
   refine zA (yH dK Z Z (fun _ h=>xF h (j:=1) Z (List.getElem?_eq_getElem h37)) ?_)
   refine oK 5 [11,10,36,35,34,9,29,28,27,7,4,0] Z Z (rO 4 Z ?_)
   refine zJ 1 Z cP Z Z (oO 3 Z ?_)
   refine zK Z Z Z (Aw _ out2 _) aA (zA ?_)
   refine tB Z Z Z (oS 2 Z ?_)
   refine yC (s:=45) Z (fun h45=>?_) (fun h45=>?_)
   ·refine oK 17 [56,11,10,36,35,34,9,29,28,27,7,4,0] Z Z (rO 7 Z ?_)
    refine zC mv Z Z (zA ?_)
    refine zF 5 (M':=[_,_,_,_,_,HA.blk _ [_] _]) Z Z Z Z zi Z Z Z (oK 1 [11,10,36,35,34,9,29,28,27,7,4,0] Z Z ?_)
    refine yO yE (zR ?_)
    refine tP 1 Z cK (zZ Z) (tP 2 Z cK (zY yV Z) ?_)
    refine tP 4 Z cK (zZ Z) (yF ?_)
    refine tM 0 Z cK (vG 1 Z cP Z) (tM 3 Z cK (yR 0 dJ Z Z Z) ?_)
    refine tM 5 Z cK (vH 2 cg Z Z Z aC) ?_
    have hlt:j<w.items.length:=by omega
    refine uF 2 Z (List.getElem?_eq_getElem hlt) (fun vs66 hl66=>?_)
    refine yF (tM 6 Z cK (uG 0 hl66 cP Z Z) ?_)
    refine zL 7 aD ?_
    refine zO (I2:=[[],[],[],[]]) Z cK aD (fun Kd hKd=>?_)
    refine zT Z Z Z (KJ out2 (w.items[j]'hlt) (w.keys[j]'h37) _ _ bV (qV hko2.1) (io (hkw0.2 _ (List.getElem_mem h37)))) aB (fun u67 D67 hv67=>?_)
    obtain⟨A67,m67,B67,d67,rfl,rfl⟩:=hv67
    refine hKd _ _ _ (zD (zD (zD (zD (zP))))) (zL 8 aD ?_)
    refine zO (I2:=[[],[],[],[]]) Z cK aD (fun Kd hKd=>?_)
    refine zF 1 (M':=[_,HA.blk _ [_,_,_,_,_] _,_,_,_,_]) Z Z Z Z cY Z Z Z (hKd _ _ _ (zD (zD (zD (zD (zP))))) ?_)
    refine yG aD (rK 0 [36,35,34,9,29,28,27,7,4,0] Z Z ?_)
    refine rO 3 Z (yB Z Z aC ?_)
    refine oR 3 Z ?_
    exact kQ (hK1 (j+1,true,dq out2 w.keys[j] w.items[j],_,_,_,_) (⟨h37,a9,fun hf=>by cases hf⟩) ar) (eC Z (eC Z (eC Z (eC Z (eC Z (eC Z (eC Z (eC Z (eC Z (eC Z (eN _))))))))))) (hD:=(cl 0 Z sQ))
   refine oS 8 Z (yC (s:=49) Z (fun h49=>?_) (fun h49=>?_))
   ·refine oK 11 [56,11,10,36,35,34,9,29,28,27,7,4,0] Z Z (rO 7 Z ?_)
    refine zC mv Z Z (zA ?_)
    refine zF 5 (M':=[_,_,_,_,_,HA.blk _ [_] _]) Z Z Z Z zi Z Z Z (oK 1 [11,10,36,35,34,9,29,28,27,7,4,0] Z Z ?_)
    refine yO yE (zR ?_)
    refine tP 1 Z cK (zZ Z) (tP 2 Z cK (zY yV Z) ?_)
    refine tP 4 Z cK (zZ Z) (yF ?_)
    refine tM 0 Z cK (vG 1 Z cP Z) (tM 3 Z cK (yR 0 dJ Z Z Z) ?_)
    refine tM 5 Z cK (vH 2 cg Z Z Z aC) ?_
    have hlt:j<w.items.length:=by omega
    refine uF 2 Z (List.getElem?_eq_getElem hlt) (fun vs66 hl66=>?_)
    refine yF (tM 6 Z cK (uG 0 hl66 cP Z Z) ?_)
    refine zL 7 aD ?_
    refine zO (I2:=[[],[],[],[]]) Z cK aD (fun Kd hKd=>?_)
    refine zT Z Z Z (KJ out2 (w.items[j]'hlt) (w.keys[j]'h37) _ _ bV (qV hko2.1) (io (hkw0.2 _ (List.getElem_mem h37)))) aB (fun u67 D67 hv67=>?_)
    obtain⟨A67,m67,B67,d67,rfl,rfl⟩:=hv67
    refine hKd _ _ _ (zD (zD (zD (zD (zP))))) (zL 8 aD ?_)
    refine zO (I2:=[[],[],[],[]]) Z cK aD (fun Kd hKd=>?_)
    refine zF 1 (M':=[_,HA.blk _ [_,_,_,_,_] _,_,_,_,_]) Z Z Z Z cY Z Z Z (hKd _ _ _ (zD (zD (zD (zD (zP))))) ?_)
    refine yG aD (rK 0 [36,35,34,9,29,28,27,7,4,0] Z Z ?_)
    refine rO 3 Z (yB Z Z aC ?_)
    refine oR 3 Z ?_
    exact kQ (hK1 (j+1,true,dq out2 w.keys[j] w.items[j],_,_,_,_) (⟨h37,a9,fun hf=>by cases hf⟩) ar) (eC Z (eC Z (eC Z (eC Z (eC Z (eC Z (eC Z (eC Z (eC Z (eC Z (eN _))))))))))) (hD:=(cl 0 Z sQ))
   refine oS 8 Z (yC (s:=53) Z (fun h53=>?_) (fun h53=>?_))
   ·refine oK 5 [56,11,10,36,35,34,9,29,28,27,7,4,0] Z Z (rO 7 Z ?_)
    refine zC mv Z Z (zA ?_)
    refine zF 5 (M':=[_,_,_,_,_,HA.blk _ [_] _]) Z Z Z Z zi Z Z Z (oK 1 [11,10,36,35,34,9,29,28,27,7,4,0] Z Z ?_)
    refine yO yE (zR ?_)
    refine tP 1 Z cK (zZ Z) (tP 2 Z cK (zY yV Z) ?_)
    refine tP 4 Z cK (zZ Z) (yF ?_)
    refine tM 0 Z cK (vG 1 Z cP Z) (tM 3 Z cK (yR 0 dJ Z Z Z) ?_)
    refine tM 5 Z cK (vH 2 cg Z Z Z aC) ?_
    have hlt:j<w.items.length:=by omega
    refine uF 2 Z (List.getElem?_eq_getElem hlt) (fun vs66 hl66=>?_)
    refine yF (tM 6 Z cK (uG 0 hl66 cP Z Z) ?_)
    refine zL 7 aD ?_
    refine zO (I2:=[[],[],[],[]]) Z cK aD (fun Kd hKd=>?_)
    refine zT Z Z Z (KJ out2 (w.items[j]'hlt) (w.keys[j]'h37) _ _ bV (qV hko2.1) (io (hkw0.2 _ (List.getElem_mem h37)))) aB (fun u67 D67 hv67=>?_)
    obtain⟨A67,m67,B67,d67,rfl,rfl⟩:=hv67
    refine hKd _ _ _ (zD (zD (zD (zD (zP))))) (zL 8 aD ?_)
    refine zO (I2:=[[],[],[],[]]) Z cK aD (fun Kd hKd=>?_)
    refine zF 1 (M':=[_,HA.blk _ [_,_,_,_,_] _,_,_,_,_]) Z Z Z Z cY Z Z Z (hKd _ _ _ (zD (zD (zD (zD (zP))))) ?_)
    refine yG aD (rK 0 [36,35,34,9,29,28,27,7,4,0] Z Z ?_)
    refine rO 3 Z (yB Z Z aC ?_)
    refine oR 3 Z ?_
    exact kQ (hK1 (j+1,true,dq out2 w.keys[j] w.items[j],_,_,_,_) (⟨h37,a9,fun hf=>by cases hf⟩) ar) (eC Z (eC Z (eC Z (eC Z (eC Z (eC Z (eC Z (eC Z (eC Z (eC Z (eN _))))))))))) (hD:=(cl 0 Z sQ))
   refine oK 7 [56,11,10,36,35,34,9,29,28,27,7,4,0] Z Z (zN Z (fun h56=>?_) (fun h56=>?_))
   ·refine rO 6 Z (zC mv Z Z ?_)
    refine zA (zF 5 (M':=[_,_,_,_,_,HA.blk _ [_] _]) Z Z Z Z zi Z Z Z ?_)
    refine oK 1 [11,10,36,35,34,9,29,28,27,7,4,0] Z Z (yO yE ?_)
    refine zR (tP 1 Z cK (zZ Z) ?_)
    refine tP 2 Z cK (zY yV Z) (tP 4 Z cK (zZ Z) ?_)
    refine yF (tM 0 Z cK (vG 1 Z cP Z) ?_)
    refine tM 3 Z cK (yR 0 dJ Z Z Z) (tM 5 Z cK (vH 2 cg Z Z Z aC) ?_)
    have hlt:j<w.items.length:=by omega
    refine uF 2 Z (List.getElem?_eq_getElem hlt) (fun vs66 hl66=>?_)
    refine yF (tM 6 Z cK (uG 0 hl66 cP Z Z) ?_)
    refine zL 7 aD ?_
    refine zO (I2:=[[],[],[],[]]) Z cK aD (fun Kd hKd=>?_)
    refine zT Z Z Z (KJ out2 (w.items[j]'hlt) (w.keys[j]'h37) _ _ bV (qV hko2.1) (io (hkw0.2 _ (List.getElem_mem h37)))) aB (fun u67 D67 hv67=>?_)
    obtain⟨A67,m67,B67,d67,rfl,rfl⟩:=hv67
    refine hKd _ _ _ (zD (zD (zD (zD (zP))))) (zL 8 aD ?_)
    refine zO (I2:=[[],[],[],[]]) Z cK aD (fun Kd hKd=>?_)
    refine zF 1 (M':=[_,HA.blk _ [_,_,_,_,_] _,_,_,_,_]) Z Z Z Z cY Z Z Z (hKd _ _ _ (zD (zD (zD (zD (zP))))) ?_)
    refine yG aD (rK 0 [36,35,34,9,29,28,27,7,4,0] Z Z ?_)
    refine rO 3 Z (yB Z Z aC ?_)
    refine oR 3 Z ?_
    exact kQ (hK1 (j+1,true,dq out2 w.keys[j] w.items[j],_,_,_,_) (⟨h37,a9,fun hf=>by cases hf⟩) ar) (eC Z (eC Z (eC Z (eC Z (eC Z (eC Z (eC Z (eC Z (eC Z (eC Z (eN _))))))))))) (hD:=(cl 0 Z sQ))
   refine xZ (yO yE ?_)
   refine zR (tP 1 Z cK (zZ Z) ?_)
   refine tP 2 Z cK (zY yV Z) (tP 4 Z cK (zZ Z) ?_)
   refine yF (tM 0 Z cK (vG 1 Z cP Z) ?_)
   refine tM 3 Z cK (yR 0 dJ Z Z Z) (tM 5 Z cK (vH 2 cg Z Z Z aC) ?_)
   have hlt:j<w.items.length:=by omega
   refine uF 2 Z (List.getElem?_eq_getElem hlt) (fun vs66 hl66=>?_)
   refine yF (tM 6 Z cK (uG 0 hl66 cP Z Z) ?_)
   refine zL 7 aD ?_
   refine zO (I2:=[[],[],[],[]]) Z cK aD (fun Kd hKd=>?_)
   refine zT Z Z Z (KJ out2 (w.items[j]'hlt) (w.keys[j]'h37) _ _ bV (qV hko2.1) (io (hkw0.2 _ (List.getElem_mem h37)))) aB (fun u67 D67 hv67=>?_)
   obtain⟨A67,m67,B67,d67,rfl,rfl⟩:=hv67
   refine hKd _ _ _ (zD (zD (zD (zD (zP))))) (zL 8 aD ?_)
   refine zO (I2:=[[],[],[],[]]) Z cK aD (fun Kd hKd=>?_)
   refine zF 1 (M':=[_,HA.blk _ [_,_,_,_,_] _,_,_,_,_]) Z Z Z Z cY Z Z Z (hKd _ _ _ (zD (zD (zD (zD (zP))))) ?_)
   refine yG aD (rK 0 [36,35,34,9,29,28,27,7,4,0] Z Z ?_)
   refine rO 3 Z (yB Z Z aC ?_)
   refine oR 3 Z ?_
   exact kQ (hK1 (j+1,a2,dq out2 w.keys[j] w.items[j],_,_,_,_) (⟨h37,a9,fun hf=>⟨(hfl2 hf).1,(by rw [List.take_add_one,ME h37 hlt];exact clear1_snoc.2 ⟨(hfl2 hf).2,(by rw [←hout2];simp_all)⟩)⟩⟩) ar) (eC Z (eC Z (eC Z (eC Z (eC Z (eC Z (eC Z (eC Z (eC Z (eC Z (eN _))))))))))) (hD:=(cl 0 Z sQ))
  obtain rfl:j=w.keys.length:=by omega
  rw [List.take_of_length_le bT]at hout2 hfl2
  have htk:all.items.take (i+1)=all.items.take i++[w]:=by rw [List.take_add_one,List.getElem?_eq_getElem h30,hw];rfl
  refine rO 4 Z (yB Z Z aC ?_)
  refine oR 3 Z ?_
  exact kQ (hK (i+1,a2,out2,_,_,_,_) (⟨h30,(by rw [htk,hout2,hout];simp [merL,eS]),fun hf=>⟨(hfl (hfl2 hf).1).1,(by rw [htk];exact clearM_snoc.2 ⟨(hfl (hfl2 hf).1).2,(by rw [←hout];exact(hfl2 hf).2)⟩)⟩⟩) (by show all.items.length - (i+1)<all.items.length - i;omega)) (eC Z (eC Z (eC Z (eC Z (eC Z (eC Z (eN _))))))) (hD:=(cl 0 Z sQ))
 refine rO 4 Z (zJ 0 Z cP Z Z ?_)
 refine zA (zF 2 (M':=[_,_,HA.blk _ [_,_,_,_,_] _,_,_]) Z Z Z Z cY Z Z Z ?_)
 refine zX ?_
 obtain rfl:i=all.items.length:=by omega
 rw [List.take_length]at hout hfl
 have e:out=mergedV v:=by rw [hout,hrest,sL v,oM,hg]
 refine yQ (M':=[HA.blk b4 [_,_,_,_,_] 25,HA.blk bm [_] 90]) (by repeat (first|exact zQ _|refine zB 0 Z ?_|refine zB 1 Z ?_|refine zB 2 Z ?_|refine zB 3 Z ?_|refine zB 4 Z ?_|refine zB 5 Z ?_|refine zB 6 Z ?_)) ?_
 refine yM (DM true) (fun w ok _=>sE w ok) ?_
 exact yZ 0 Tryz.results79 Z Z cP ⟨a1,out,_,⟨e,fun hf=>⟨(hfl15 (hfl hf).1).1,(wG _ _).2 ⟨fun y hy=>(by rw [hg]at hy;injection hy with hy;rw [←hy,←hrest];exact(hfl hf).2),(hfl15 (hfl hf).1).2⟩⟩⟩,trivial,rfl,⟨_,_,_,_,rfl,rfl⟩,rfl⟩ ak (by intro d hd;simp only [List.mem_append,List.mem_cons,List.not_mem_nil,or_false,List.mem_singleton]at hd;rcases hd with rfl|rfl<;>simp [DM])
theorem MF{l:List V}{p:V→Prop}{i:Nat}(h: ∀ j (h:j<l.length),j<i→p l[j])(hi:i<l.length)(h0:p l[i]): ∀ j (h:j<l.length),j<i+1→p l[j]:=fun j hj hlt=>by
  rcases Nat.lt_or_ge j i with h1|h1
  · exact h j hj h1
  · obtain rfl:j=i:=by omega
    exact h0
theorem ip{t own:V}{name:ByteArray}(h:own=(getV t k27).getD zV):im t name↔(own.kind=3∧own.text=name)∨(own.kind≠3∧ ∃y∈own.items,y.text=name):=by
 subst h
 exact Iff.rfl
theorem wg{own:V}{name:ByteArray}{i:Nat}(h3: ¬ own.kind=3)(hi:own.items.length≤i)(h: ∀ j (h:j<own.items.length),j<i→ ¬ own.items[j].text=name): ¬ ((own.kind=3∧own.text=name)∨(own.kind≠3∧ ∃y∈own.items,y.text=name)):=by
 rintro (e|⟨_,y,hy,e⟩)
 ·exact h3 e.1
 ·obtain⟨j,hj,rfl⟩:=List.getElem_of_mem hy
  exact h j hj aC e

theorem OB(t:V)(name:ByteArray)(hp:Pl t)(x:Value):dd Tryz.prog 171 #[x, .string name] [.val x t] (.bool (tb (im t name))):=by
 refine Ct.of_run (args:=[x, .string name]) Tryz.func171 aF Z Tryz.ntmps171 Z (fun c=>?_)
 refine yP 0 Z (fun A1 c1 A2 c2 hx hsz1 hk1 hk2 hi1 hi2=>?_)
 subst hx
 have hle:=hp.wf.le
 have hmx:maxLen≤9223372036854775807:=by decide
 refine rO 3 Z (yK Z Z Z (fun b2=>?_))
 refine oO 6 Z (zJ 0 Z cP Z Z ?_)
 refine zA ?_
 refine zT Z Z Z (vc _ t k27 hle) aA (fun u11 D11 hv11=>?_)
 obtain⟨own,hown⟩: ∃own,own=(getV t k27).getD zV:=⟨_,rfl⟩
 rw [←hown]at hv11
 obtain⟨_,rfl,A11,m11,B11,d11,rfl,rfl⟩:=hv11
 refine oO 7 Z (zS cx Z (fun b5=>?_))
 change cL _ _ _ _ _ _ _ _ (HA.blk _ [_,_,_,_,_] _::_) _
 refine zA (zF 0 (M':=[HA.blk _ [_,_,_,_,_] _,_]) Z Z Z Z cY Z Z Z ?_)
 refine oK 3 [5,1] Z Z (rO 4 Z ?_)
 refine zC vZ Z Z (zA ?_)
 refine zG 0 fM Z Z Z Z (oR 3 Z ?_)
 refine zW Z (fun h16=>?_) (fun h16=>?_)
 ·refine rO 3 Z (zC rC Z Z ?_)
  refine zA (zG 0 dK Z Z Z Z ?_)
  refine oK 7 [4] Z Z ?_
  exact zE Tryz.results171 Z ⟨congrArg Value.bool (lj (by rw [decide_eq_true_iff,ip hown];exact⟨fun e=> .inl ⟨of_decide_eq_true h16,e⟩,fun e=>e.elim (fun e=>e.2) (fun e=>absurd (of_decide_eq_true h16) e.1)⟩)),rfl,rfl⟩ nS (fun _ h=>by cases h)
 refine rO 5 Z (zC yV Z Z ?_)
 refine zA (zG 0 dJ Z Z Z Z ?_)
 refine zA (yA cg Z Z ?_)
 refine oK 4 [24,23,22,1] Z Z (yP 0 Z (fun A3 c3 A4 c4 hx hsz3 hk3 hk4 hi3 hi4=>?_))
 cases hx
 refine tH (D':= .strs (.slice A11 own.keys.length m11) own.keys:: .vals (.slice B11 own.items.length d11) own.items:: .val (.agg #[.int .i64 own.kind, .int .i64 own.num, .string own.text, .slice A11 own.keys.length m11, .slice B11 own.items.length d11]) own::[]) aR (yL 1 (fun(i:Nat)=>i≤own.items.length∧ ∀ j (h:j<own.items.length),j<i→ ¬ own.items[j].text=name) (fun(i:Nat)=>[(24, .int .i64 ((i:Nat):Int))]) (fun(i:Nat)=>HA.blk b5 [.int .i64 own.kind, .int .i64 own.num, .string own.text, .slice A11 own.keys.length m11, .slice B11 own.items.length d11] 25::HA.blk b2 [.int .i64 t.kind, .int .i64 t.num, .string t.text, .slice A1 t.keys.length c1, .slice A2 t.items.length c2] 25::[]) (fun(i:Nat)=> .strs (.slice A11 own.keys.length m11) own.keys:: .vals (.slice B11 own.items.length d11) own.items:: .val (.agg #[.int .i64 own.kind, .int .i64 own.num, .string own.text, .slice A11 own.keys.length m11, .slice B11 own.items.length d11]) own::[]) (fun(i:Nat)=>own.items.length - i) 0 (⟨Nat.zero_le _,fun j _ h=>absurd h (Nat.not_lt_zero _)⟩) (eC Z (eN _)) Z Z ?_ (eC Z (eC Z (eC Z (eN _)))))
 intro i hI K hK
 change Run _ _ _ _ _ [(24,_),(23,_),(22,_),(1,_)] _ _
 obtain⟨hi,hno⟩:=hI
 refine rO 3 Z (yJ Z Z Z ?_)
 refine oR 2 Z (zN Z (fun h25=>?_) (fun h25=>?_))
 ·refine rO 6 Z (wK 1 cg Z Z Z Z h25 ?_)
  refine zA (wA 1 cP Z Z Z (List.getElem?_eq_getElem h25) (fun A27 c27 B27 d27=>?_))
  refine zA (zS cx Z (fun b8=>?_))
  change cL _ _ _ _ _ _ _ _ (HA.blk _ [_,_,_,_,_] _::_) _
  refine zA (zF 0 (M':=[HA.blk _ [_,_,_,_,_] _,_,_]) Z Z Z Z cY Z Z Z ?_)
  refine oO 4 Z (zC rC Z Z ?_)
  refine zA (zG 0 dK Z Z Z Z ?_)
  refine oR 5 Z (zW Z (fun h31=>?_) (fun h31=>?_))
  ·refine rK 5 [4] Z Z ?_
   exact zE Tryz.results171 Z ⟨congrArg Value.bool ((tb_t ((ip hown).2 (.inr ⟨of_decide_eq_false h16,_,List.getElem_mem h25,of_decide_eq_true h31⟩))).symm),rfl,rfl⟩ nS (fun _ h=>by cases h)
  refine rO 4 Z (yB Z Z aC ?_)
  refine oK 3 [24,23,22,1] Z Z ?_
  exact kQ (hK (i+1) (⟨aC,MF (p:=fun z=> ¬ z.text=name) hno h25 (of_decide_eq_false h31)⟩) aC) (hD:=(cl 1 Z sQ))
 refine rR 6 Z ?_
 exact zE Tryz.results171 Z ⟨congrArg Value.bool ((tb_f (fun e=>wg (of_decide_eq_false h16) aC hno ((ip hown).1 e))).symm),rfl,rfl⟩ nS (fun _ h=>by cases h)
theorem OC(z:V)(hp:Pl z)(y:Value):dd Tryz.prog 172 #[y] [.val y z] (.bool (tb ((getV z eY).isSome=true))):=by
 refine Ct.of_run (args:=[y]) Tryz.func172 aF Z Tryz.ntmps172 Z (fun c=>?_)
 refine yP 0 Z (fun A1 c1 A2 c2 hx hsz1 hk1 hk2 hi1 hi2=>?_)
 subst hx
 have hle:=hp.wf.le
 have hmx:maxLen≤9223372036854775807:=by decide
 refine rO 3 Z (yK Z Z Z (fun b1=>?_))
 refine oO 6 Z (zJ 0 Z cP Z Z ?_)
 refine zA (zK Z Z Z (Aw _ z _) (cS 2 Z) ?_)
 refine zA (tB Z Z Z ?_)
 refine oR 3 Z ?_
 exact zE Tryz.results172 Z ⟨congrArg Value.bool (lj (by rw [decide_eq_true_iff];exact uK hle)),rfl,rfl⟩ nS (fun _ h=>by cases h)
theorem OD(z:V)(hp:Pl z)(y:Value):dd Tryz.prog 119 #[y] [.val y z] (.bool (tb (cu z))):=by
 refine Ct.of_run (args:=[y]) Tryz.func119 aF Z Tryz.ntmps119 Z (fun c=>?_)
 refine yP 0 Z (fun A1 c1 A2 c2 hx hsz1 hk1 hk2 hi1 hi2=>?_)
 subst hx
 have hle:=hp.wf.le
 have hmx:maxLen≤9223372036854775807:=by decide
 refine rO 3 Z (yK Z Z Z (fun b1=>?_))
 refine oO 6 Z (zJ 0 Z cP Z Z ?_)
 refine zA (zK Z Z Z (Aw _ z _) (cS 2 Z) ?_)
 refine zA (tB Z Z Z ?_)
 refine oR 3 Z ?_
 exact zE Tryz.results119 Z ⟨congrArg Value.bool (lj (by rw [decide_eq_true_iff];exact uK hle)),rfl,rfl⟩ nS (fun _ h=>by cases h)
theorem MG(v:V)(hp:Pl v)(x:Value):dd Tryz.prog 116 #[x] [.val x v] (.tuple #[.string (refT v), .bool (tb (cu v∧v.keys.length=1))]):=by
 refine Ct.of_run (args:=[x]) Tryz.func116 aF Z Tryz.ntmps116 Z (fun c=>?_)
 refine yP 0 Z (fun A1 c1 A2 c2 hx hsz1 hk1 hk2 hi1 hi2=>?_)
 subst hx
 have hle:=hp.wf.le
 have hmx:maxLen≤9223372036854775807:=by decide
 refine rO 3 Z (yK Z Z Z (fun b1=>?_))
 refine oO 8 Z (zJ 0 Z cP Z Z ?_)
 refine zA ?_
 refine zT Z Z Z (vc _ v k3 hle) aA (fun u8 D8 hv8=>?_)
 obtain⟨xe,hxe0⟩: ∃z,z=(getV v k3).getD zV:=⟨_,rfl⟩
 have hxe:refT v=xe.text:=by unfold refT;rw [hxe0]
 rw [←hxe0]at hv8
 obtain⟨_,rfl,A8,m8,B8,d8,rfl,rfl⟩:=hv8
 refine oO 7 Z (zS cx Z (fun b4=>?_))
 change cL _ _ _ _ _ _ _ _ (HA.blk _ [_,_,_,_,_] _::_) _
 refine zA (zF 0 (M':=[HA.blk _ [_,_,_,_,_] _,_]) Z Z Z Z cY Z Z Z ?_)
 refine oR 4 Z (yO yE ?_)
 refine zR (tP 0 Z cK (zY rC Z) ?_)
 refine tP 2 Z cK (zZ Z) (tP 3 Z cK (zZ Z) ?_)
 refine pT (s:=14) Z (fun h14=>?_) (fun h14=>?_)
 ·refine tP 4 Z (dF Z Z) (zY xI Z) (yF ?_)
  refine tM 1 Z cK (yR 0 dK Z Z Z) (zR ?_)
  refine tP 9 Z cK (xC Z) (yF ?_)
  refine tM 5 Z (dF Z Z) (yR 1 dN Z Z Z) (tM 6 Z (dF Z Z) (fj cX Z) ?_)
  refine tM 7 Z (dF Z Z) (mr Z Z) (zR ?_)
  refine tP 8 Z cK (rW Z Z) (tP 10 Z cK (xC Z) ?_)
  refine yG aD (rK 0 [3,2] Z Z ?_)
  exact vL Tryz.results116 Z Z ⟨(by rw [hxe];exact congrArg (fun b=>Value.tuple #[.string xe.text, .bool b]) (lj (by rw [decide_eq_true_iff];exact⟨fun e=>⟨(h14:(getV v k3).isSome=true),by exact_mod_cast e⟩,fun e=>by exact_mod_cast e.2⟩))),rfl,rfl⟩ nS (fun _ h=>by cases h)
 refine yF (tS 4 Z Z Z Z ?_)
 refine tM 1 Z cK (yR 0 dK Z Z Z) (zR ?_)
 refine tP 9 Z cK (xC Z) (yF ?_)
 refine tS 5 Z Z Z Z (tS 6 Z Z Z Z ?_)
 refine tS 7 Z Z Z Z (zR ?_)
 refine tP 8 Z cK (rW Z Z) (tP 10 Z cK (xC Z) ?_)
 refine yG aD (rK 0 [3,2] Z Z ?_)
 exact vL Tryz.results116 Z Z ⟨(by rw [hxe];exact congrArg (fun b=>Value.tuple #[.string xe.text, .bool b]) (tb_f (fun e=>by have:=e.1;unfold cu at this;simp_all)).symm),rfl,rfl⟩ nS (fun _ h=>by cases h)
theorem OE(rb:Nat)(w t:V)(Ar Br A:Option Addr)(cr dr n c9:Nat)(o:Bool)(s:Int)(x:Value)(hp:Pl t):Ct Tryz.prog 117 #[cW rb,x] [.blk rb [.int .i64 w.kind, .int .i64 w.num, .string w.text, .slice Ar w.keys.length cr, .slice Br w.items.length dr, .bool o, .int .i64 s, .slice A n c9] 86] [.val x t] (fun u M' D'=>u= .bool (tb (eG t))∧ ∃o',M'=[.blk rb [.int .i64 w.kind, .int .i64 w.num, .string w.text, .slice Ar w.keys.length cr, .slice Br w.items.length dr, .bool o', .int .i64 s, .slice A n c9] 86]∧D'=[]∧(o'=false→o=false∧(eG t∨ ¬ wb t))):=by
 refine Ct.of_run (args:=[cW rb,x]) Tryz.func117 aF Z Tryz.ntmps117 Z (fun c=>?_)
 refine yP 0 Z (fun A1 c1 A2 c2 hx hsz1 hk1 hk2 hi1 hi2=>?_)
 subst hx
 have hle:=hp.wf.le
 have hmx:maxLen≤9223372036854775807:=by decide
 refine rO 3 Z (yK Z Z Z (fun b3=>?_))
 refine oO 7 Z (zJ 0 Z cP Z Z ?_)
 refine zA (zK Z Z Z (OB t oN hp _) aA ?_)
 refine oS 2 Z (yU (s:=7) Z (fun h7=>?_) (fun h7=>?_))
 ·refine oK 12 [4] Z Z ?_
  refine yQ (M':=[HA.blk rb [_,_,_,_,_,_,_,_] 86]) (by repeat (first|exact zQ _|refine zB 0 Z ?_|refine zB 1 Z ?_|refine zB 2 Z ?_|refine zB 3 Z ?_|refine zB 4 Z ?_|refine zB 5 Z ?_|refine zB 6 Z ?_)) ?_
  exact zE Tryz.results117 Z ⟨congrArg Value.bool (tb_t (.inl (yT.1 (by simpa using h7)))).symm,o,rfl,rfl,fun e=>⟨e, .inl (.inl (yT.1 (by simpa using h7)))⟩⟩ (List.Sublist.refl _) (fun _ h=>by cases h)
 refine zI Z Z (zJ 0 Z cP Z Z ?_)
 refine zI Z Z (zK Z Z Z (Aw _ t eY) aA ?_)
 refine zI Z Z (tB Z Z Z ?_)
 refine oR 3 Z (zW Z (fun h11=>?_) (fun h11=>?_))
 ·have hk11:(getV t eY).isSome=true:=(uK hle).1 (by simpa using h11)
  refine rK 5 [4] Z Z ?_
  refine yQ (M':=[HA.blk rb [_,_,_,_,_,_,_,_] 86]) (by repeat (first|exact zQ _|refine zB 0 Z ?_|refine zB 1 Z ?_|refine zB 2 Z ?_|refine zB 3 Z ?_|refine zB 4 Z ?_|refine zB 5 Z ?_|refine zB 6 Z ?_)) ?_
  exact zE Tryz.results117 Z ⟨congrArg Value.bool (tb_t (.inr hk11)).symm,o,rfl,rfl,fun e=>⟨e, .inl (.inr hk11)⟩⟩ (List.Sublist.refl _) (fun _ h=>by cases h)
 have hnk: ¬ eG t:=by
  rintro (e|e)
  ·exact wM.1 (by simpa using h7) e
  ·exact absurd ((uK hle).2 e) (by simpa using h11)
 refine rO 5 Z (zJ 0 Z cP Z Z ?_)
 refine zA (zK Z Z Z (Mi 172 (fun z=>(getV z eY).isSome=true) (fun z hz y=>OC z hz y) t hp _) aA ?_)
 refine oS 2 Z (yU (s:=14) Z (fun h14=>?_) (fun h14=>?_))
 ·refine oK 6 [18,0] Z Z (rO 7 Z ?_)
  refine zC el Z Z (zA ?_)
  refine zF 1 (M':=[_,HA.blk _ [_,_,_,_,_,_,_,_] _]) Z Z Z Z zi Z Z Z (oR 6 Z ?_)
  refine yQ (M':=[HA.blk rb [_,_,_,_,_,_,_,_] 86]) (by repeat (first|exact zQ _|refine zB 0 Z ?_|refine zB 1 Z ?_|refine zB 2 Z ?_|refine zB 3 Z ?_|refine zB 4 Z ?_|refine zB 5 Z ?_|refine zB 6 Z ?_)) ?_
  exact zE Tryz.results117 Z ⟨congrArg Value.bool (tb_f hnk).symm,true,rfl,rfl,fun e=>by cases e⟩ (List.Sublist.refl _) (fun _ h=>by cases h)
 refine zI Z Z (zJ 0 Z cP Z Z ?_)
 refine zI Z Z (zK Z Z Z (Aw _ t Kl) aA ?_)
 refine zI Z Z (tB Z Z Z ?_)
 refine oK 3 [18,0] Z Z (zW Z (fun h18=>?_) (fun h18=>?_))
 ·refine rO 6 Z (zC el Z Z ?_)
  refine zA (zF 1 (M':=[_,HA.blk _ [_,_,_,_,_,_,_,_] _]) Z Z Z Z zi Z Z Z ?_)
  refine oR 6 Z ?_
  refine yQ (M':=[HA.blk rb [_,_,_,_,_,_,_,_] 86]) (by repeat (first|exact zQ _|refine zB 0 Z ?_|refine zB 1 Z ?_|refine zB 2 Z ?_|refine zB 3 Z ?_|refine zB 4 Z ?_|refine zB 5 Z ?_|refine zB 6 Z ?_)) ?_
  exact zE Tryz.results117 Z ⟨congrArg Value.bool (tb_f hnk).symm,true,rfl,rfl,fun e=>by cases e⟩ (List.Sublist.refl _) (fun _ h=>by cases h)
 refine rR 6 Z ?_
 refine yQ (M':=[HA.blk rb [_,_,_,_,_,_,_,_] 86]) (by repeat (first|exact zQ _|refine zB 0 Z ?_|refine zB 1 Z ?_|refine zB 2 Z ?_|refine zB 3 Z ?_|refine zB 4 Z ?_|refine zB 5 Z ?_|refine zB 6 Z ?_)) ?_
 exact zE Tryz.results117 Z ⟨congrArg Value.bool (tb_f hnk).symm,o,rfl,rfl,fun e=>⟨e, .inr (fun e=>Or.elim e (fun e=>wM.1 (by simpa using h14) e) (fun e=>absurd ((uK hle).2 e) (by simpa using h18)))⟩⟩ (List.Sublist.refl _) (fun _ h=>by cases h)

abbrev SA:=Bool×Int×List ByteArray×Option Addr×Nat
abbrev FE(w:V)(Ar Br:Option Addr)(cr dr:Nat)(a:SA):List Value:=[.int .i64 w.kind, .int .i64 w.num, .string w.text, .slice Ar w.keys.length cr, .slice Br w.items.length dr, .bool a.1, .int .i64 a.2.1, .slice a.2.2.2.1 a.2.2.1.length a.2.2.2.2]
abbrev XS(rb:Nat)(w:V)(Ar Br:Option Addr)(cr dr:Nat)(a:SA):List HA:=[.blk rb (FE w Ar Br cr dr a) 86, .row a.2.2.2.1 a.2.2.1.length a.2.2.2.2 9 1 (a.2.2.1.map Value.string)]
abbrev DS(w:V)(Ar Br:Option Addr)(cr dr:Nat)(_:SA):DA:= .val (.agg #[.int .i64 w.kind, .int .i64 w.num, .string w.text, .slice Ar w.keys.length cr, .slice Br w.items.length dr]) w
def FF(m:Nat)(_:Nat)(a:SA):Prop:=a.2.2.1.length≤2000∧(a.1=false→0≤a.2.1∧a.2.1<m∧(a.2.2.1.length:Int)+a.2.1≤2000)
def om(w:V)(one:Bool)(own:V)(a a':SA)(v:V):Prop:=a'.2.2.1=a.2.2.1∧(a'.1=false→a.1=false∧0≤a'.2.1∧a'.2.1+dQ own≤a.2.1∧ ∃n:Nat,(n:Int)+a'.2.1≤a.2.1∧dY w n one own∧v=dy w n one own)
theorem gx{m k k':Nat}{w own v:V}{one:Bool}{a a':SA}(h:FF m k a)(hr:om w one own a a' v):FF m k' a':=by
 refine⟨by rw [hr.1];exact h.1,fun h0=>?_⟩
 obtain⟨h1,h2,h3,_⟩:=hr.2 h0
 obtain⟨h5,h6,h7⟩:=h.2 h1
 rw [hr.1]
 exact⟨h2,aC,aC⟩
def Mk(w:V)(one:Bool)(kids:List V)(g:(V→V)→V)(a a':SA)(v:V):Prop:=a'.2.2.1=a.2.2.1∧(a'.1=false→a.1=false∧(0≤a.2.1→0≤a'.2.1)∧a'.2.1+(kids.map dQ).sum≤a.2.1∧ ∃n:Nat,(n:Int)+a'.2.1≤a.2.1∧(∀ z∈kids,dY w n one z)∧v=g (dy w n one))
theorem y9{g g':V→V}{l:List V}(h: ∀ z∈l.filter (fun x=>decide (x.kind=5)),g z=g' z):l.map (cp g)=l.map (cp g'):=
 List.map_congr_left fun y hy=>by
  by_cases hk:y.kind=5
  ·rw [xV hk,xV hk]
   exact h y (List.mem_filter.2 ⟨hy,decide_eq_true hk⟩)
  ·rw [uH hk,uH hk]
theorem Jj{w:V}{one:Bool}{a0 a:SA}{l l':List V}(h:FoldR (om w one) a0 l a l'):a.2.2.1=a0.2.2.1∧(a.1=false→a0.1=false∧(0≤a0.2.1→0≤a.2.1)∧a.2.1+((l.filter (fun x=>decide (x.kind=5))).map dQ).sum≤a0.2.1∧ ∃n:Nat,(n:Int)+a.2.1≤a0.2.1∧(∀ z∈l.filter (fun x=>decide (x.kind=5)),dY w n one z)∧l'=l.map (cp (dy w n one))):=by
  induction h with
  |nil=>exact⟨rfl,fun h=>⟨h,id,by simp,0,by simp,(fun z hz=>by cases hz),rfl⟩⟩
  | @pos l a a1 l' own v h hk hr ih=>
    refine⟨hr.1.trans ih.1,fun h0=>?_⟩
    obtain⟨b1,b2,b3,n1,b4,b5,b6⟩:=hr.2 h0
    obtain⟨c1,c2,c3,n2,c4,c5,c6⟩:=ih.2 b1
    have hf:(l++[own]).filter (fun x=>decide (x.kind=5))=l.filter (fun x=>decide (x.kind=5))++[own]:=by simp [hk]
    have m1:=gR b5 (Nat.le_max_left n1 n2)
    have m2: ∀ z∈l.filter (fun x=>decide (x.kind=5)),dY w (max n1 n2) one z∧dy w (max n1 n2) one z=dy w n2 one z:=fun z hz=>gR (c5 z hz) (Nat.le_max_right n1 n2)
    refine⟨c1,fun _=>b2,?_,max n1 n2,?_,fun z hz=>?_,?_⟩
    · rw [hf,List.map_append,List.sum_append]
      simp only [List.map_cons,List.map_nil,List.sum_cons,List.sum_nil]
      omega
    · have hn:=gS own
      rcases Nat.le_total n1 n2 with e|e
      · rw [Nat.max_eq_right e];omega
      · rw [Nat.max_eq_left e];omega
    · rw [hf]at hz
      rcases List.mem_append.1 hz with hz|hz
      · exact(m2 z hz).1
      · rw [List.mem_singleton.1 hz];exact m1.1
    · rw [List.map_append,c6,b6,←m1.2,y9 fun z hz=>(m2 z hz).2.symm]
      simp [xV hk]
  | @neg l a l' own h hk ih=>
    refine⟨ih.1,fun h0=>?_⟩
    obtain⟨c1,c2,c3,n2,c4,c5,c6⟩:=ih.2 h0
    have hf:(l++[own]).filter (fun x=>decide (x.kind=5))=l.filter (fun x=>decide (x.kind=5)):=by simp [hk]
    refine⟨c1,c2,by rw [hf];exact c3,n2,c4,by rw [hf];exact c5,?_⟩
    rw [List.map_append,c6]
    simp [uH hk]
theorem FG{w:V}{one:Bool}{sh:Int}{t v:V}{a a':SA}(h:dX (om w one) sh t a a' v):Mk w one (kidsOf sh t) (fun g=>cQ sh g t) a a' v:=by
 have al:Bq (om w one) t a a' v→Mk w one (t.items.filter (fun x=>decide (x.kind=5))) (fun g=>ce g t) a a' v:=fun⟨ts,h,e⟩=>by
  obtain⟨h1,h2⟩:=Jj h
  refine⟨h1,fun h0=>?_⟩
  obtain⟨c1,c2,c3,n2,c4,c5,c6⟩:=h2 h0
  exact⟨c1,c2,c3,n2,c4,c5,by rw [e,c6];rfl⟩
 have on1:om w one t a a' v→Mk w one [t] (fun g=>g t) a a' v:=fun h=>⟨h.1,fun h0=>by
  obtain⟨b1,b2,b3,n1,b4,b5,b6⟩:=h.2 h0
  exact⟨b1,fun _=>b2,by simpa using b3,n1,b4,fun z hz=>by rw [List.mem_singleton.1 hz];exact b5,b6⟩⟩
 have no:(a'=a∧v=t)→Mk w one [] (fun _=>t) a a' v:=fun h=>by
  rw [h.1]
  exact⟨rfl,fun h0=>⟨h0,id,by simp,0,by simp,(fun z hz=>by cases hz),h.2⟩⟩
 unfold dX at h
 unfold cQ kidsOf
 split at h
 ·rename_i h5;simp only [if_pos h5];exact on1 h
 rename_i h5;simp only [if_neg h5]
 split at h
 ·rename_i h6
  simp only [if_pos h6]
  split at h
  ·rename_i hk;simp only [if_pos hk];exact on1 h
  ·rename_i hk;simp only [if_neg hk];exact no h
 rename_i h6;simp only [if_neg h6]
 split at h
 ·rename_i h7
  simp only [if_pos h7]
  split at h
  ·rename_i hk;simp only [if_pos hk];exact on1 h
  ·rename_i hk;simp only [if_neg hk];exact al h
 rename_i h7;simp only [if_neg h7]
 split at h
 ·rename_i h9;simp only [if_pos h9];exact al h
 ·rename_i h9;simp only [if_neg h9];exact no h
inductive FoldK (w:V) (a0:SA):dv→SA→dv→Prop where
  |nil:FoldK w a0 [] a0 []
  |step {l l':dv} {a a1:SA} {p:ByteArray×V} {v:V} (h:FoldK w a0 l a l') (hr:dX (om w (decide (p.1=eY))) (cM p.1) p.2 a a1 v):FoldK w a0 (l++[p]) a1 (l'++[(p.1,v)])
theorem FoldK.keys{w:V}{a0 a:SA}{l l':dv}(h:FoldK w a0 l a l'):l'.map (·.1)=l.map (·.1):=by
  induction h with
  |nil=>rfl
  |step h hr ih=>simp [ih]
theorem FoldK.stepI{w:V}{a0 a a1:SA}{t v:V}{l:dv}{i:Nat}(h1:i<t.keys.length)(h2:i<t.items.length)(h:FoldK w a0 ((t.keys.zip t.items).take i) a l)(hr:dX (om w (decide (t.keys[i]=eY))) (cM t.keys[i]) t.items[i] a a1 v):
  FoldK w a0 ((t.keys.zip t.items).take (i+1)) a1 (l++[(t.keys[i],v)]):=by
 rw [List.take_add_one,(by rw [List.getElem?_zip_eq_some];exact⟨List.getElem?_eq_getElem h1,List.getElem?_eq_getElem h2⟩:(t.keys.zip t.items)[i]? =some (t.keys[i],t.items[i]))]
 exact .step h hr
theorem G5{w:V}{a0 a:SA}{l l':dv}(h:FoldK w a0 l a l'):a.2.2.1=a0.2.2.1∧(a.1=false→a0.1=false∧(0≤a0.2.1→0≤a.2.1)∧a.2.1+((l.flatMap (fun p=>kidsOf (cM p.1) p.2)).map dQ).sum≤a0.2.1∧ ∃n:Nat,(n:Int)+a.2.1≤a0.2.1∧(∀ p∈l,∀ z∈kidsOf (cM p.1) p.2,dY w n (decide (p.1=eY)) z)∧l'=l.map (fun p=>(p.1,cQ (cM p.1) (dy w n (decide (p.1=eY))) p.2))):=by
  induction h with
  |nil=>exact⟨rfl,fun h=>⟨h,id,by simp,0,by simp,(fun p hp=>by cases hp),rfl⟩⟩
  | @step l l' a a1 p v h hr ih=>
    obtain⟨h1,h2⟩:=FG hr
    refine⟨h1.trans ih.1,fun h0=>?_⟩
    obtain⟨b1,b2,b3,n1,b4,b5,b6⟩:=h2 h0
    obtain⟨c1,c2,c3,n2,c4,c5,c6⟩:=ih.2 b1
    refine⟨c1,fun e=>b2 (c2 e),?_,max n1 n2,?_,fun q hq z hz=>?_,?_⟩
    · rw [List.flatMap_append,List.map_append,List.sum_append]
      simp only [List.flatMap_cons,List.flatMap_nil,List.append_nil]
      omega
    · rcases Nat.le_total n1 n2 with e|e
      · rw [Nat.max_eq_right e];omega
      · rw [Nat.max_eq_left e];omega
    · rcases List.mem_append.1 hq with hq|hq
      · exact(gR (c5 q hq z hz) (Nat.le_max_right n1 n2)).1
      · obtain rfl:=List.mem_singleton.1 hq
        exact(gR (b5 z hz) (Nat.le_max_left n1 n2)).1
    · rw [List.map_append,c6,b6]
      congr 1
      · refine List.map_congr_left fun q hq=>?_
        exact congrArg _ (ld fun z hz=>((gR (c5 q hq z hz) (Nat.le_max_right n1 n2)).2).symm)
      · show [(p.1,cQ (cM p.1) (dy w n1 (decide (p.1=eY))) p.2)]=_
        rw [ld fun z hz=>((gR (b5 z hz) (Nat.le_max_left n1 n2)).2).symm]
        rfl
theorem lf{z:V}(hz:d5 z)(h1:z.keys.length=1)(hr:cu z):dQ z=1:=by
  have hk:kidsV z=[]:=by
    cases hl:kidsV z with
    |nil=>rfl
    |cons y l=>
      exfalso
      have hy:y∈kidsV z:=by rw [hl];exact List.mem_cons_self
      obtain⟨p,hp,hk⟩:=List.mem_flatMap.1 hy
      have hg:=(xD hz.1 hz.2.kind).1 (show(p.1,p.2)∈z.keys.zip z.items from hp)
      rw [ql hz h1 hr hg]at hk
      have e:cM k3=1:=by decide+kernel
      rw [e]at hk
      simp [kidsOf]at hk
  rw [gS,hk]
  rfl
section rules
variable {P:Program} {n:Nat} {F:List Nat} {c:Ctx F} {ops:Array Oper} {d:Nat} {T:TypeId} {l:List Oper} {k:List KI} {Q:Post} {e:dI} {M:List HA} {D:List DA}
theorem za{h h':HA}(i:Nat){w:World}(hi:M[i]? =some h)(hw:h.holds w→h'.holds w)(hf:h'.foot=h.foot)(hfit:FitsW c M D w):FitsW c (h'::M.eraseIdx i) D w:=by
 have h1:=hfit.perm (vN hi)
 refine⟨h1.chg,?_,?_,?_,?_⟩
 ·intro x hx
  rcases List.mem_cons.1 hx with rfl|hx
  ·exact hw (h1.own _ List.mem_cons_self)
  ·exact h1.own x (List.mem_cons_of_mem _ hx)
 ·have:=h1.nodup
  simpa [foots,hf]using this
 ·intro b hb
  exact h1.foot b (by simpa [foots,hf]using hb)
 ·intro x hx
  refine x.mono (fun q hq=>⟨hq.1,hq.2.1,?_⟩) (fun _ _=>rfl) (h1.dat x hx)
  have:=hq.2.2
  simpa [foots,hf]using this
theorem CE{h h':HA}(i:Nat)(hi:M[i]? =some h)(hw: ∀ w,h.holds w→h'.holds w)(hf:h'.foot=h.foot)(next:Run P n c k Q e (h'::M.eraseIdx i) D):Run P n c k Q e M D:=
 fun a w hfit=>next a w (hfit.world (za i hi (hw w) hf hfit.toFitsW))
theorem G6{A:Option Addr}{m cap E:Nat}{xs:List Value}{v:Value}(hl:xs.length=m)(w:World)(h:(HA.row A (m+1) cap E 1 (xs++[v])).holds w):(HA.row A m cap E 1 xs).holds w:=by
 obtain⟨h1,h2⟩:=h
 refine⟨by simpa using hl,?_⟩
 rcases h2 with ⟨h2,h3⟩|⟨g,cap',cur,hv,hb,hg,hn,hc,hs,ht⟩
 ·omega
 ·injection hv with e1 e2 e3
  subst e1
  subst e3
  refine .inr ⟨g,cap,cur,rfl,hb,hg,aC,hc,hs,?_⟩
  have e:cur.toList.take (m*1)=(cur.toList.take ((m+1)*1)).take m:=by rw [List.take_take];congr 1;omega
  rw [e,ht,←hl,List.take_left']
  rfl
theorem FH{A:Option Addr}{m m' cap E:Nat}{xs ys:List Value}:(HA.row A m cap E 1 xs).foot=(HA.row A m' cap E 1 ys).foot:=by cases A<;>rfl
theorem zb{x y:Operand}{S S':TypeId}{A:Option Addr}{m cap h E sz by_:Nat}{kd:IntKind}(hS:cd P S E sz by_)(hx:ev e x=some (.slice A m cap))(hy:ev e y=some (.int kd (h:Nat)))(hh:h≤cap):St P n c (.slice S x none (some y) none) S' e M D (.slice A h cap):=fun _ a w hfit=>by
 obtain⟨ti,z,hu,hinf,hs,_⟩:=hS
 have hmap:A.map (fun q=>q.add 0)=A:=by cases A<;>simp [Addr.add]
 simp [execOp,dM,hfit.ev hx,hfit.ev hy,Instr.sliceAt,Instr.slice,Instr.sliceBounds,Instr.sliceBound,asIntOf,run_underlying hu,wB hinf,hh,hmap]
end rules
section rules
variable {P:Program} {n:Nat} {F:List Nat} {c:Ctx F} {ops:Array Oper} {d:Nat} {T:TypeId} {l:List Oper} {k:List KI} {Q:Post} {e:dI} {M:List HA} {D:List DA}
theorem wh(i:Nat){x y:Operand}{S S':TypeId}{A:Option Addr}{m cap h E sz by_ U:Nat}{xs:List Value}{kd:IntKind}(hS:cd P S E sz by_)(hx:ev e x=some (.slice A m cap))(hy:ev e y=some (.int kd (h:Nat)))(hi:M[i]? =some (.row A m cap U sz xs))(hh:h≤m):St P n c (.slice S x none (some y) none) S' e M D (.slice A h cap):=fun d a w hfit=>by
 have h3:=(tR (hfit.toFitsW.mem hi)).1
 exact zb (S':=S') hS hx hy (Nat.le_trans hh h3) d a w hfit
theorem FI{d:Option Nat}{op:Op}{N:List HA}(he:HE M N)(next:cR P n c ops d op T l k Q e N D):cR P n c ops d op T l k Q e M D:=fun a w hf=>next a w (hf.world (hf.toFitsW.he he))
end rules
theorem wi{m k k':Nat}{w t v:V}{one:Bool}{sh:Int}{a a':SA}(h:FF m k a)(hr:dX (om w one) sh t a a' v):FF m k' a':=by
 obtain⟨h1,h2⟩:=FG hr
 refine⟨by rw [h1];exact h.1,fun h0=>?_⟩
 obtain⟨b1,b2,b3,n,b4,_⟩:=h2 h0
 obtain⟨h5,h6,h7⟩:=h.2 b1
 rw [h1]
 exact⟨b2 h5,aC,aC⟩

theorem MH(rb:Nat)(w:V)(Ar Br:Option Addr)(cr dr:Nat)(kb qb m:Nat)(key:ByteArray)(own:V)(ho:d5 own)(IH: ∀ own,d5 own→ ∀ one,FZ (XS rb w Ar Br cr dr) (DS w Ar Br cr dr) (FF m) (om w one) 78 #[cW rb] #[.bool one] own):FZ (fun a=> .blk kb [.string key] 9:: .blk qb [cW rb] 84::XS rb w Ar Br cr dr a) (DS w Ar Br cr dr) (FF m) (om w (decide (key=eY))) 118 #[] #[cW kb,cW qb] own:=by
 intro k a x hOk
 have hp:=ho.1
 change Ct Tryz.prog 118 #[x,cW kb,cW qb] [.blk kb [.string key] 9, .blk qb [cW rb] 84, .blk rb (FE w Ar Br cr dr a) 86, .row a.2.2.2.1 a.2.2.1.length a.2.2.2.2 9 1 (a.2.2.1.map Value.string)] [.val x own,DS w Ar Br cr dr a] _
 refine Ct.of_run (args:=[x,cW kb,cW qb]) Tryz.func118 aF Z Tryz.ntmps118 Z (fun c=>?_)
 refine yP 0 Z (fun A1 c1 A2 c2 hx hsz1 hk1 hk2 hi1 hi2=>?_)
 subst hx
 have hle:=hp.wf.le
 refine rO 3 Z (yK Z Z Z (fun b3=>?_))
 refine zA (zS cx Z (fun b4=>?_))
 change cL _ _ _ _ _ _ _ _ (HA.blk _ [_,_,_,_,_] _::_) _
 refine oO 5 Z (zG 2 dK Z Z Z Z ?_)
 refine oS 4 Z (yC (s:=9) Z (fun h9=>?_) (fun h9=>?_))
 ·refine zI Z Z (zJ 1 Z cP Z Z ?_)
  refine zI Z Z (zK Z Z Z (Mi 119 (fun z=>cu z) (fun z hz y=>OD z hz y) own hp _) aA ?_)
  refine oR 3 Z (zW Z (fun h12=>?_) (fun h12=>?_))
  ·refine rO 3 Z (zJ 1 Z cP Z Z ?_)
   refine zA (zK Z Z Z (MG own hp _) aA ?_)
   refine oK 11 [6,4,3,1,2] Z Z (rR 7 Z ?_)
   refine zW Z (fun h19=>?_) (fun h19=>?_)
   ·refine rO 2 Z (zG 3 ej Z Z Z Z ?_)
    refine oO 3 Z (zC el Z Z ?_)
    refine zA (zF 4 (M':=[_,_,_,_,HA.blk _ [_,_,_,_,_,_,_,_] _,_]) Z Z Z Z zi Z Z Z ?_)
    refine oO 4 Z (zG 3 ej Z Z Z Z ?_)
    refine zA (zJ 1 Z cP Z Z ?_)
    refine zA (zG 2 dK Z Z Z Z ?_)
    refine oO 3 Z ?_
    have hct27:=IH own ho (decide (key=eY)) k ((true,a.2):SA) (.agg #[.int .i64 own.kind, .int .i64 own.num, .string own.text, .slice A1 own.keys.length c1, .slice A2 own.items.length c2]) (⟨hOk.1,fun e=>by cases e⟩)
    change Ct Tryz.prog 78 #[cW rb, .agg #[.int .i64 own.kind, .int .i64 own.num, .string own.text, .slice A1 own.keys.length c1, .slice A2 own.items.length c2], .bool (decide (key=eY))] _ _ _ at hct27
    refine pE (pre:=[_,_,_,_]) Z Z Z hct27 Z (dC 2 3 Z Z) (fun u27 M27 D27 hv27=>?_)
    obtain⟨a27,v27,D27,hR27,hO27,rfl,⟨A27,m27,B27,d27,rfl,rfl⟩,rfl⟩:=hv27
    refine zA (zF 0 (M':=[HA.blk _ [_,_,_,_,_] _,_,_,_,_,_]) Z Z Z Z cY Z Z Z ?_)
    refine oK 1 [4] Z Z ?_
    refine yQ (M':=HA.blk b4 [_,_,_,_,_] 25::HA.blk kb [.string key] 9::HA.blk qb [cW rb] 84::XS rb w Ar Br cr dr a27) (by repeat (first|exact zQ _|refine zB 0 Z ?_|refine zB 1 Z ?_|refine zB 2 Z ?_|refine zB 3 Z ?_|refine zB 4 Z ?_|refine zB 5 Z ?_|refine zB 6 Z ?_|refine zB 7 Z ?_|refine zB 8 Z ?_)) ?_
    exact yZ 0 Tryz.results118 Z Z cP ⟨a27,v27,_,⟨hR27.1,fun e=>by have:=(hR27.2 e).1;cases this⟩,hO27,rfl,⟨_,_,_,_,rfl,rfl⟩,rfl⟩ ak aO
   refine rO 4 Z (zG 3 ej Z Z Z Z ?_)
   refine zA (zJ 1 Z cP Z Z ?_)
   refine zA (zG 2 dK Z Z Z Z ?_)
   refine oO 3 Z ?_
   have hct27:=IH own ho (decide (key=eY)) k a (.agg #[.int .i64 own.kind, .int .i64 own.num, .string own.text, .slice A1 own.keys.length c1, .slice A2 own.items.length c2]) (hOk)
   change Ct Tryz.prog 78 #[cW rb, .agg #[.int .i64 own.kind, .int .i64 own.num, .string own.text, .slice A1 own.keys.length c1, .slice A2 own.items.length c2], .bool (decide (key=eY))] _ _ _ at hct27
   refine pE (pre:=[_,_,_,_]) Z Z Z hct27 Z (dC 2 3 Z Z) (fun u27 M27 D27 hv27=>?_)
   obtain⟨a27,v27,D27,hR27,hO27,rfl,⟨A27,m27,B27,d27,rfl,rfl⟩,rfl⟩:=hv27
   refine zA (zF 0 (M':=[HA.blk _ [_,_,_,_,_] _,_,_,_,_,_]) Z Z Z Z cY Z Z Z ?_)
   refine oK 1 [4] Z Z ?_
   refine yQ (M':=HA.blk b4 [_,_,_,_,_] 25::HA.blk kb [.string key] 9::HA.blk qb [cW rb] 84::XS rb w Ar Br cr dr a27) (by repeat (first|exact zQ _|refine zB 0 Z ?_|refine zB 1 Z ?_|refine zB 2 Z ?_|refine zB 3 Z ?_|refine zB 4 Z ?_|refine zB 5 Z ?_|refine zB 6 Z ?_|refine zB 7 Z ?_|refine zB 8 Z ?_)) ?_
   exact yZ 0 Tryz.results118 Z Z cP ⟨a27,v27,_,hR27,hO27,rfl,⟨_,_,_,_,rfl,rfl⟩,rfl⟩ ak aO
  refine rO 4 Z (zG 3 ej Z Z Z Z ?_)
  refine zA (zJ 1 Z cP Z Z ?_)
  refine zA (zG 2 dK Z Z Z Z ?_)
  refine oO 3 Z ?_
  have hct27:=IH own ho (decide (key=eY)) k a (.agg #[.int .i64 own.kind, .int .i64 own.num, .string own.text, .slice A1 own.keys.length c1, .slice A2 own.items.length c2]) (hOk)
  change Ct Tryz.prog 78 #[cW rb, .agg #[.int .i64 own.kind, .int .i64 own.num, .string own.text, .slice A1 own.keys.length c1, .slice A2 own.items.length c2], .bool (decide (key=eY))] _ _ _ at hct27
  refine pE (pre:=[_,_,_,_]) Z Z Z hct27 Z (dC 2 3 Z Z) (fun u27 M27 D27 hv27=>?_)
  obtain⟨a27,v27,D27,hR27,hO27,rfl,⟨A27,m27,B27,d27,rfl,rfl⟩,rfl⟩:=hv27
  refine zA (zF 0 (M':=[HA.blk _ [_,_,_,_,_] _,_,_,_,_,_]) Z Z Z Z cY Z Z Z ?_)
  refine oK 1 [4] Z Z ?_
  refine yQ (M':=HA.blk b4 [_,_,_,_,_] 25::HA.blk kb [.string key] 9::HA.blk qb [cW rb] 84::XS rb w Ar Br cr dr a27) (by repeat (first|exact zQ _|refine zB 0 Z ?_|refine zB 1 Z ?_|refine zB 2 Z ?_|refine zB 3 Z ?_|refine zB 4 Z ?_|refine zB 5 Z ?_|refine zB 6 Z ?_|refine zB 7 Z ?_|refine zB 8 Z ?_)) ?_
  exact yZ 0 Tryz.results118 Z Z cP ⟨a27,v27,_,hR27,hO27,rfl,⟨_,_,_,_,rfl,rfl⟩,rfl⟩ ak aO
 refine oO 10 Z (zG 3 ej Z Z Z Z ?_)
 refine zA (zJ 1 Z cP Z Z ?_)
 refine zA (zG 2 dK Z Z Z Z ?_)
 refine oO 3 Z ?_
 have hct27:=IH own ho (decide (key=eY)) k a (.agg #[.int .i64 own.kind, .int .i64 own.num, .string own.text, .slice A1 own.keys.length c1, .slice A2 own.items.length c2]) (hOk)
 change Ct Tryz.prog 78 #[cW rb, .agg #[.int .i64 own.kind, .int .i64 own.num, .string own.text, .slice A1 own.keys.length c1, .slice A2 own.items.length c2], .bool (decide (key=eY))] _ _ _ at hct27
 refine pE (pre:=[_,_,_,_]) Z Z Z hct27 Z (dC 2 3 Z Z) (fun u27 M27 D27 hv27=>?_)
 obtain⟨a27,v27,D27,hR27,hO27,rfl,⟨A27,m27,B27,d27,rfl,rfl⟩,rfl⟩:=hv27
 refine zA (zF 0 (M':=[HA.blk _ [_,_,_,_,_] _,_,_,_,_,_]) Z Z Z Z cY Z Z Z ?_)
 refine oK 1 [4] Z Z ?_
 refine yQ (M':=HA.blk b4 [_,_,_,_,_] 25::HA.blk kb [.string key] 9::HA.blk qb [cW rb] 84::XS rb w Ar Br cr dr a27) (by repeat (first|exact zQ _|refine zB 0 Z ?_|refine zB 1 Z ?_|refine zB 2 Z ?_|refine zB 3 Z ?_|refine zB 4 Z ?_|refine zB 5 Z ?_|refine zB 6 Z ?_|refine zB 7 Z ?_|refine zB 8 Z ?_)) ?_
 exact yZ 0 Tryz.results118 Z Z cP ⟨a27,v27,_,hR27,hO27,rfl,⟨_,_,_,_,rfl,rfl⟩,rfl⟩ ak aO
theorem FJ{v:V}(h:Pl v):(refT v).size≤maxLen:=by
  unfold refT maxLen
  cases hg:getV v k3 with
  |none=>exact Nat.zero_le _
  |some x=>
    have:=me (h.item x (uU hg))
    simp only [Option.getD_some]
    omega
theorem Pz(rb:Nat)(w:V)(Ar Br:Option Addr)(cr dr:Nat)(hw:d5 w)(m:Nat): ∀ (own:V),d5 own→ ∀ one,FZ (XS rb w Ar Br cr dr) (DS w Ar Br cr dr) (FF m) (om w one) 78 #[cW rb] #[.bool one] own:=by
 refine Nat.strongRecOn (motive:=fun m=> ∀ (own:V),d5 own→ ∀ one,FZ (XS rb w Ar Br cr dr) (DS w Ar Br cr dr) (FF m) (om w one) 78 #[cW rb] #[.bool one] own) m (fun m IHm=>?_)
 intro own ho one k a x hOk
 obtain⟨o,s,on,A0,c0⟩:=a
 change Ct Tryz.prog 78 #[cW rb,x, .bool one] [.blk rb [.int .i64 w.kind, .int .i64 w.num, .string w.text, .slice Ar w.keys.length cr, .slice Br w.items.length dr, .bool o, .int .i64 s, .slice A0 on.length c0] 86, .row A0 on.length c0 9 1 (on.map Value.string)] [.val x own,DS w Ar Br cr dr (o,s,on,A0,c0)] _
 refine Ct.of_run (args:=[cW rb,x, .bool one]) Tryz.func78 aF Z Tryz.ntmps78 Z (fun c=>?_)
 refine yP 0 Z (fun A1 c1 A2 c2 hx hsz1 hk1 hk2 hi1 hi2=>?_)
 subst hx
 have hle:=ho.1.wf.le
 refine uB 0 Z (fun hksz=>?_)
 have hkl:=ho.1.wf.kl
 have hil:=ho.1.wf.il
 refine rO 3 Z (yK Z Z Z (fun b3=>?_))
 refine zA (yK Z Z Z (fun b4=>?_))
 refine zA (zS cx Z (fun b6=>?_))
 change cL _ _ _ _ _ _ _ _ (HA.blk _ [_,_,_,_,_] _::_) _
 refine oO 5 Z (zG 2 ej Z Z Z Z ?_)
 refine oO 3 Z (zC xb Z Z ?_)
 refine zA (zG 3 KF Z Z Z Z ?_)
 refine zA (qt Z Z Z ?_)
 obtain⟨s1,hs1⟩: ∃s1,s1=IntKind.i64.wrap (s - 1):=⟨_,rfl⟩
 rw [←hs1]
 have hs1':o=false→s1=s - 1:=fun e=>by
  obtain⟨g1,g2,g3⟩:=hOk.2 e
  simp only at g1 g2 g3
  rw [hs1]
  exact tJ aC aC
 refine oO 3 Z (zC xb Z Z ?_)
 refine zA (zF 3 (M':=[_,_,_,HA.blk _ [_,_,_,_,_,_,_,_] _,_]) Z Z Z Z KG Z Z Z ?_)
 refine oK 1 [6,4,3,2] Z Z (rO 3 Z ?_)
 refine zG 2 ej Z Z Z Z (oO 3 Z ?_)
 refine zC xb Z Z (zA ?_)
 refine zG 3 KF Z Z Z Z (zA ?_)
 refine vE Z Z Z (zX ?_)
 refine zW Z (fun h29=>?_) (fun h29=>?_)
 ·refine rO 2 Z (zG 2 ej Z Z Z Z ?_)
  refine oO 3 Z (zC el Z Z ?_)
  refine zA (zF 3 (M':=[_,_,_,HA.blk _ [_,_,_,_,_,_,_,_] _,_]) Z Z Z Z zi Z Z Z ?_)
  refine oO 5 Z (zG 2 ej Z Z Z Z ?_)
  refine oO 3 Z (zC el Z Z ?_)
  refine zA (zG 3 FX Z Z Z Z ?_)
  refine oK 1 [36,6,4,3,2] Z Z (zW Z (fun h36=>?_) (fun h36=>?_))
  ·refine rO 3 Z (zJ 1 Z cP Z Z ?_)
   refine zA (zF 0 (M':=[HA.blk _ [_,_,_,_,_] _,_,_,_,_]) Z Z Z Z cY Z Z Z ?_)
   refine zX ?_
   have hRR:om w one own (o,s,on,A0,c0) (true,s1,on,A0,c0) own:=⟨rfl,fun e=>by cases e⟩
   refine yQ (M':=HA.blk b6 [_,_,_,_,_] 25::XS rb w Ar Br cr dr (true,s1,on,A0,c0)) (by repeat (first|exact zQ _|refine zB 0 Z ?_|refine zB 1 Z ?_|refine zB 2 Z ?_|refine zB 3 Z ?_|refine zB 4 Z ?_|refine zB 5 Z ?_|refine zB 6 Z ?_|refine zB 7 Z ?_|refine zB 8 Z ?_)) ?_
   exact yZ 0 Tryz.results78 Z Z cP ⟨(true,s1,on,A0,c0),own,_,hRR,gx (m:=m) (k:=k) hOk hRR,rfl,⟨_,_,_,_,rfl,rfl⟩,rfl⟩ ak aO
  cases h36
 refine rO 5 Z (zG 2 ej Z Z Z Z ?_)
 refine oO 3 Z (zC el Z Z ?_)
 refine zA (zG 3 FX Z Z Z Z ?_)
 refine zX (zW Z (fun h36=>?_) (fun h36=>?_))
 ·refine rO 3 Z (zJ 1 Z cP Z Z ?_)
  refine zA (zF 0 (M':=[HA.blk _ [_,_,_,_,_] _,_,_,_,_]) Z Z Z Z cY Z Z Z ?_)
  refine oK 1 [6] Z Z ?_
  have hRR:om w one own (o,s,on,A0,c0) (o,s1,on,A0,c0) own:=⟨rfl,fun e=>by rw [show o=true from h36]at e;cases e⟩
  refine yQ (M':=HA.blk b6 [_,_,_,_,_] 25::XS rb w Ar Br cr dr (o,s1,on,A0,c0)) (by repeat (first|exact zQ _|refine zB 0 Z ?_|refine zB 1 Z ?_|refine zB 2 Z ?_|refine zB 3 Z ?_|refine zB 4 Z ?_|refine zB 5 Z ?_|refine zB 6 Z ?_|refine zB 7 Z ?_|refine zB 8 Z ?_)) ?_
  exact yZ 0 Tryz.results78 Z Z cP ⟨(o,s1,on,A0,c0),own,_,hRR,gx (m:=m) (k:=k) hOk hRR,rfl,⟨_,_,_,_,rfl,rfl⟩,rfl⟩ ak aO
 obtain rfl:o=false:=by simpa using h36
 have h29x:0≤s1:=by simpa using h29
 have hsv:=hs1' rfl
 obtain⟨hz1,hz2,hz3⟩:=hOk.2 rfl
 simp only at hz1 hz2 hz3
 have hon:on.length≤2000:=hOk.1
 refine rO 5 Z (zJ 1 Z cP Z Z ?_)
 refine zA (zK Z Z Z (Aw _ own k3) aA ?_)
 refine zA (tB Z Z Z ?_)
 refine oK 1 [40,6,4,3,2] Z Z (zW Z (fun h40=>?_) (fun h40=>?_))
 ·have hr:cu own:=(uK hle).1 (by simpa using h40)
  refine rO 3 Z (zJ 1 Z cP Z Z ?_)
  refine zA (zK Z Z Z (MG own ho.1 _) aA ?_)
  refine oO 14 Z (zG 2 ej Z Z Z Z ?_)
  refine oO 3 Z (zC IK Z Z ?_)
  refine zA (sx 3 Z cP Z Z Z Z ?_)
  refine oO 3 Z ?_
  refine zT Z Z Z (Pu w _ (refT own) hw.1 (FJ ho.1)) aA (fun u52 D52 hv52=>?_)
  obtain⟨ot,hot⟩: ∃z,z=PtV w (refT own):=⟨_,rfl⟩
  rw [←hot]at hv52
  obtain⟨_,rfl,A52,m52,B52,d52,rfl,rfl⟩:=hv52
  refine oO 7 Z (zS cx Z (fun b9=>?_))
  change cL _ _ _ _ _ _ _ _ (HA.blk _ [_,_,_,_,_] _::_) _
  refine zA (zF 0 (M':=[HA.blk _ [_,_,_,_,_] _,_,_,_,_,_]) Z Z Z Z cY Z Z Z ?_)
  refine oK 3 [10,9,8,7,6,4,3,2] Z Z (rS 9 Z ?_)
  refine yU (s:=57) Z (fun h57=>?_) (fun h57=>?_)
  ·refine oO 9 Z (zG 3 ej Z Z Z Z ?_)
   refine oO 3 Z (zC el Z Z ?_)
   refine zA (zF 4 (M':=[_,_,_,_,HA.blk _ [_,_,_,_,_,_,_,_] _,_]) Z Z Z Z zi Z Z Z ?_)
   refine oK 1 [6,4] Z Z (rO 3 Z ?_)
   refine zJ 2 Z cP Z Z (zA ?_)
   refine zF 1 (M':=[_,HA.blk _ [_,_,_,_,_] _,_,_,_,_]) Z Z Z Z cY Z Z Z (zX ?_)
   have hRR:om w one own (false,s,on,A0,c0) (true,s1,on,A0,c0) own:=⟨rfl,fun e=>by cases e⟩
   refine yQ (M':=HA.blk b6 [_,_,_,_,_] 25::XS rb w Ar Br cr dr (true,s1,on,A0,c0)) (by repeat (first|exact zQ _|refine zB 0 Z ?_|refine zB 1 Z ?_|refine zB 2 Z ?_|refine zB 3 Z ?_|refine zB 4 Z ?_|refine zB 5 Z ?_|refine zB 6 Z ?_|refine zB 7 Z ?_|refine zB 8 Z ?_)) ?_
   exact yZ 0 Tryz.results78 Z Z cP ⟨(true,s1,on,A0,c0),own,_,hRR,gx (m:=m) (k:=k) hOk hRR,rfl,⟨_,_,_,_,rfl,rfl⟩,rfl⟩ ak aO
  have hal:own.keys.length=1:=(yT.1 (by simpa using h57:tb (cu own∧own.keys.length=1)=true)).2
  refine oR 7 Z (zW Z (fun h60=>?_) (fun h60=>?_))
  ·refine rO 3 Z (zG 3 ej Z Z Z Z ?_)
   refine oO 3 Z (zC el Z Z ?_)
   refine zA (zF 4 (M':=[_,_,_,_,HA.blk _ [_,_,_,_,_,_,_,_] _,_]) Z Z Z Z zi Z Z Z ?_)
   refine oK 1 [6,4] Z Z (rO 3 Z ?_)
   refine zJ 2 Z cP Z Z (zA ?_)
   refine zF 1 (M':=[_,HA.blk _ [_,_,_,_,_] _,_,_,_,_]) Z Z Z Z cY Z Z Z (zX ?_)
   have hRR:om w one own (false,s,on,A0,c0) (true,s1,on,A0,c0) own:=⟨rfl,fun e=>by cases e⟩
   refine yQ (M':=HA.blk b6 [_,_,_,_,_] 25::XS rb w Ar Br cr dr (true,s1,on,A0,c0)) (by repeat (first|exact zQ _|refine zB 0 Z ?_|refine zB 1 Z ?_|refine zB 2 Z ?_|refine zB 3 Z ?_|refine zB 4 Z ?_|refine zB 5 Z ?_|refine zB 6 Z ?_|refine zB 7 Z ?_|refine zB 8 Z ?_)) ?_
   exact yZ 0 Tryz.results78 Z Z cP ⟨(true,s1,on,A0,c0),own,_,hRR,gx (m:=m) (k:=k) hOk hRR,rfl,⟨_,_,_,_,rfl,rfl⟩,rfl⟩ ak aO
  obtain⟨tz,htz⟩: ∃tz,ot=some tz:=Option.isSome_iff_exists.1 (by simpa using h60)
  subst htz
  have hpt:PtV w (refT own)=some tz:=hot.symm
  have hkz:=sr hw hpt
  have hst:d5 tz:=⟨vP hw.1 hkz,wH hw.1 hw.2 hkz⟩
  refine rS 8 Z (yU (s:=66) Z (fun h66=>?_) (fun h66=>?_))
  ·refine oK 6 [70,9,7,6,4,3] Z Z (rO 4 Z ?_)
   refine zJ 2 Z cP Z Z (zA ?_)
   refine zF 1 (M':=[_,HA.blk _ [_,_,_,_,_] _,_,_,_,_]) Z Z Z Z cY Z Z Z (zX ?_)
   have hRR:om w one own (false,s,on,A0,c0) (false,s1,on,A0,c0) own:=⟨rfl,fun e=>⟨e,by simp only;omega,by simp only [lf ho hal hr];have:=hs1' (e);omega,1,by simp only;have:=hs1' (e);omega,⟨fun _=>⟨hal,tz,hpt, .inl (by simpa using h66)⟩,fun hn=>absurd hr hn⟩,by rw [pG hr hpt (.inl (by simpa using h66)),wc ho.2.kind]⟩⟩
   refine yQ (M':=HA.blk b6 [_,_,_,_,_] 25::XS rb w Ar Br cr dr (false,s1,on,A0,c0)) (by repeat (first|exact zQ _|refine zB 0 Z ?_|refine zB 1 Z ?_|refine zB 2 Z ?_|refine zB 3 Z ?_|refine zB 4 Z ?_|refine zB 5 Z ?_|refine zB 6 Z ?_|refine zB 7 Z ?_|refine zB 8 Z ?_)) ?_
   exact yZ 0 Tryz.results78 Z Z cP ⟨(false,s1,on,A0,c0),own,_,hRR,gx (m:=m) (k:=k) hOk hRR,rfl,⟨_,_,_,_,rfl,rfl⟩,rfl⟩ ak aO
  have hone:one=false:=by simpa using h66
  refine zI Z Z (zG 3 ej Z Z Z Z ?_)
  refine zI Z Z (zJ 0 Z cP Z Z ?_)
  refine zI Z Z ?_
  refine wE 4 Z Z Z (OE rb w tz Ar Br A0 cr dr on.length c0 false s1 _ hst.1) Z aA (fun u69 M69 D69 hv69=>?_)
  obtain⟨rfl,o69,rfl,rfl,ho69⟩:=hv69
  refine oK 3 [70,9,7,6,4,3] Z Z (zW Z (fun h70=>?_) (fun h70=>?_))
  ·have hkv:eG tz:=yT.1 (by simpa using h70)
   refine rO 3 Z (zJ 3 Z cP Z Z ?_)
   refine zA (zF 2 (M':=[_,_,HA.blk _ [_,_,_,_,_] _,_,_,_]) Z Z Z Z cY Z Z Z ?_)
   refine zX ?_
   have hRR:om w one own (false,s,on,A0,c0) (o69,s1,on,A0,c0) own:=⟨rfl,fun e=>⟨(ho69 e).1,by simp only;omega,by simp only [lf ho hal hr];have:=hs1' ((ho69 e).1);omega,1,by simp only;have:=hs1' ((ho69 e).1);omega,⟨fun _=>⟨hal,tz,hpt, .inr (.inl hkv)⟩,fun hn=>absurd hr hn⟩,by rw [pG hr hpt (.inr hkv),wc ho.2.kind]⟩⟩
   refine yQ (M':=HA.blk b6 [_,_,_,_,_] 25::XS rb w Ar Br cr dr (o69,s1,on,A0,c0)) (by repeat (first|exact zQ _|refine zB 0 Z ?_|refine zB 1 Z ?_|refine zB 2 Z ?_|refine zB 3 Z ?_|refine zB 4 Z ?_|refine zB 5 Z ?_|refine zB 6 Z ?_|refine zB 7 Z ?_|refine zB 8 Z ?_)) ?_
   exact yZ 0 Tryz.results78 Z Z cP ⟨(o69,s1,on,A0,c0),own,_,hRR,gx (m:=m) (k:=k) hOk hRR,rfl,⟨_,_,_,_,rfl,rfl⟩,rfl⟩ ak aO
  have hnk: ¬ eG tz:=wM.1 (by simpa using h70)
  refine rO 5 Z (zG 4 ej Z Z Z Z ?_)
  refine oO 3 Z (zC lE Z Z ?_)
  refine zA (zG 0 dN Z Z Z Z ?_)
  refine zA (yA cX Z Z ?_)
  refine oK 4 [77,76,75,9,7,6,4,3] Z Z (iy 1 (fun(⟨i,o3⟩:Nat×Bool)=>i≤on.length∧(o3=false→o69=false)) (fun(⟨i,o3⟩:Nat×Bool)=>[(77, .int .i64 ((i:Nat):Int))]) (fun(⟨i,o3⟩:Nat×Bool)=>HA.blk rb [.int .i64 w.kind, .int .i64 w.num, .string w.text, .slice Ar w.keys.length cr, .slice Br w.items.length dr, .bool o3, .int .i64 s1, .slice A0 on.length c0] 86::HA.blk b9 [.int .i64 tz.kind, .int .i64 tz.num, .string tz.text, .slice A52 tz.keys.length m52, .slice B52 tz.items.length d52] 25::HA.blk b6 [.int .i64 0, .int .i64 0, .string ⟨#[]⟩, .slice none 0 0, .slice none 0 0] 25::HA.blk b4 [.int .i64 own.kind, .int .i64 own.num, .string own.text, .slice A1 own.keys.length c1, .slice A2 own.items.length c2] 25::HA.blk b3 [cW rb] 84::HA.row A0 on.length c0 9 1 (on.map Value.string)::[]) (fun(⟨i,o3⟩:Nat×Bool)=>on.length - i) (0,o69) (⟨Nat.zero_le _,id⟩) (eC Z (eN _)) Z ?_ (eC Z (eC Z (eC Z (eC Z (eC Z (eC Z (eC Z (eN _)))))))))
  intro ⟨i,o3⟩ hI K hK
  change Run _ _ _ _ _ [(77,_),(76,_),(75,_),(9,_),(7,_),(6,_),(4,_),(3,_)] [_,_,_,_,_,_] (_)
  obtain⟨hi,hio⟩:=hI
  refine rO 3 Z (yJ Z Z Z ?_)
  refine oR 2 Z (zN Z (fun h78=>?_) (fun h78=>?_))
  ·refine rO 6 Z (p6 5 cX Z Z Z Z h78 ?_)
   refine zA ?_
   refine yH (v:= .string (on[i]'h78)) dK Z Z (fun _ h=>AE h (i:=5) Z (by rw [List.getElem?_map,List.getElem?_eq_getElem h78];rfl)) ?_
   refine oK 12 [83,77,76,75,9,7,6,4,3] Z Z (zW Z (fun h83=>?_) (fun h83=>?_))
   ·refine rO 2 Z (zG 4 ej Z Z Z Z ?_)
    refine oO 3 Z (zC el Z Z ?_)
    refine zA (zF 0 (M':=[HA.blk _ [_,_,_,_,_,_,_,_] _,_,_,_,_,_]) Z Z Z Z zi Z Z Z ?_)
    refine oO 4 Z (yB Z Z aC ?_)
    refine oR 3 Z ?_
    exact kQ (hK (i+1,true) (⟨by show i+1≤_;omega,fun e=>by cases e⟩) (by show on.length - (i+1)<on.length - i;omega)) (eC Z (eC Z (eC Z (eC Z (eC Z (eC Z (eC Z (eC Z (eN _)))))))))
   refine rO 4 Z (yB Z Z aC ?_)
   refine oR 3 Z ?_
   exact kQ (hK (i+1,o3) (⟨by show i+1≤_;omega,hio⟩) (by show on.length - (i+1)<on.length - i;omega)) (eC Z (eC Z (eC Z (eC Z (eC Z (eC Z (eC Z (eC Z (eN _)))))))))
  refine rO 5 Z (zG 4 ej Z Z Z Z ?_)
  refine oO 3 Z (zC el Z Z ?_)
  refine zA (zG 0 FX Z Z Z Z ?_)
  refine zX (zW Z (fun h91=>?_) (fun h91=>?_))
  ·refine rO 3 Z (zJ 3 Z cP Z Z ?_)
   refine zA (zF 2 (M':=[_,_,HA.blk _ [_,_,_,_,_] _,_,_,_]) Z Z Z Z cY Z Z Z ?_)
   refine oK 1 [6] Z Z ?_
   have hRR:om w one own (false,s,on,A0,c0) (o3,s1,on,A0,c0) own:=⟨rfl,fun e=>by rw [show o3=true from h91]at e;cases e⟩
   refine yQ (M':=HA.blk b6 [_,_,_,_,_] 25::XS rb w Ar Br cr dr (o3,s1,on,A0,c0)) (by repeat (first|exact zQ _|refine zB 0 Z ?_|refine zB 1 Z ?_|refine zB 2 Z ?_|refine zB 3 Z ?_|refine zB 4 Z ?_|refine zB 5 Z ?_|refine zB 6 Z ?_|refine zB 7 Z ?_|refine zB 8 Z ?_)) ?_
   exact yZ 0 Tryz.results78 Z Z cP ⟨(o3,s1,on,A0,c0),own,_,hRR,gx (m:=m) (k:=k) hOk hRR,rfl,⟨_,_,_,_,rfl,rfl⟩,rfl⟩ ak aO
  obtain rfl:o3=false:=by simpa using h91
  obtain rfl:o69=false:=hio rfl
  obtain⟨ho0,hko⟩:=ho69 rfl
  have hopn: ¬ wb tz:=hko.resolve_left hnk
  refine rR 2 Z (yO yE ?_)
  refine zR (tP 5 Z cK (zZ Z) ?_)
  refine uS (zB 4 Z (zQ _)) (wD (zB 4 Z (zQ _)) 0 (yN _ _ _ _) Z cK aD aD aD Z (wV ej Z (fun _ h=>df h (i:=0) Z Z)) ?_)
  refine wD (zB 4 Z (zQ _)) 1 (yN _ _ _ _) Z cK aD aD aD Z (wV ej Z (fun _ h=>df h (i:=0) Z Z)) (zR ?_)
  refine tP 2 Z cK (xA Z) (tP 3 Z cK (zY lE Z) ?_)
  refine uS (zB 0 Z (zQ _)) (wD (zB 0 Z (zQ _)) 4 (yN _ _ _ _) Z cK aD aD aD Z (wV dN Z (fun _ h=>df h (i:=0) Z Z)) ?_)
  refine zL 6 aD ?_
  refine zO (I2:=[[4],[3,2],[1,0],[],[]]) Z cK aD (fun Kd hKd=>?_)
  refine zM cX Z Z Z Z Z (fun b99=>?_)
  refine hKd _ _ _ (vV sK sQ (hC (vV sK sQ (zD (zD (zP)))))) ?_
  refine zL 7 aD ?_
  refine zO (I2:=[[],[],[0],[],[]]) Z cK aD (fun Kd hKd=>?_)
  refine nB 6 0 cX Z Z Z Z Z Z Z (by have:=hOk.1;unfold maxLen;simp only at this;omega) (by have:=hOk.1;simp only at this;omega) (fun A100 c100=>?_)
  refine hKd _ _ _ (zD (zD (vV sK sQ (zD (zD (zP)))))) ?_
  refine zR (tP 8 Z cK (xA Z) ?_)
  refine tP 9 Z cK (zY lE Z) (zL 10 aD ?_)
  refine zO (I2:=[[],[],[],[],[],[]]) Z cK aD (fun Kd hKd=>?_)
  refine zF 1 (M':=[_,HA.blk _ [_,_,_,_,_,_,_,_] _,_,_,_,_,_]) Z Z Z Z fF Z Z Z (hKd _ _ _ (zD (zD (zD (zD (zD (zD (zP))))))) ?_)
  refine yG aD (rK 0 [9,6,3] Z Z ?_)
  refine rO 3 Z (zG 5 ej Z Z Z Z ?_)
  refine zA (zJ 2 Z cP Z Z ?_)
  refine zA ?_
  have hct105:=IHm (m - 1) aC tz hst false 0 (false,s1,on++[refT own],A100,c100) (.agg #[.int .i64 tz.kind, .int .i64 tz.num, .string tz.text, .slice A52 tz.keys.length m52, .slice B52 tz.items.length d52]) ⟨by simp only [List.length_append,List.length_cons,List.length_nil];omega,fun _=>⟨by simp only;omega,by simp only;omega,by simp only [List.length_append,List.length_cons,List.length_nil];omega⟩⟩
  change Ct Tryz.prog 78 #[cW rb, .agg #[.int .i64 tz.kind, .int .i64 tz.num, .string tz.text, .slice A52 tz.keys.length m52, .slice B52 tz.items.length d52], .bool false] [.blk rb [.int .i64 w.kind, .int .i64 w.num, .string w.text, .slice Ar w.keys.length cr, .slice Br w.items.length dr, .bool false, .int .i64 s1, .slice A100 (on++[refT own]).length c100] 86, .row A100 (on++[refT own]).length c100 9 1 ((on++[refT own]).map Value.string)] _ _ at hct105
  rw [List.length_append,List.map_append]at hct105
  refine qB 1 5 Z Z Z hct105 Z Z aB (fun u105 M105 D105 hv105=>?_)
  obtain⟨a105,v105,D105,hR105,hO105,rfl,⟨A105,m105,B105,d105,rfl,rfl⟩,rfl⟩:=hv105
  obtain⟨o5,s5,on5,A5,c5⟩:=a105
  obtain rfl:on5=on++[refT own]:=hR105.1
  have hlen5:(on++[refT own]).length=on.length+1:=by simp
  change cL _ _ _ _ _ _ _ _ (HA.blk rb [.int .i64 w.kind, .int .i64 w.num, .string w.text, .slice Ar w.keys.length cr, .slice Br w.items.length dr, .bool o5, .int .i64 s5, .slice A5 (on++[refT own]).length c5] 86::HA.row A5 (on++[refT own]).length c5 9 1 ((on++[refT own]).map Value.string)::_) _
  rw [List.map_append,hlen5]
  refine zA (zS cx Z (fun b13=>?_))
  change cL _ _ _ _ _ _ _ _ (HA.blk _ [_,_,_,_,_] _::_) _
  refine zA (zF 0 (M':=[HA.blk _ [_,_,_,_,_] _,_,_,_,_,_,_,_]) Z Z Z Z cY Z Z Z ?_)
  refine oR 2 Z (yO yE ?_)
  refine uS (zB 7 Z (zQ _)) (wD (zB 7 Z (zQ _)) 0 (yN _ _ _ _) Z cK aD aD aD Z (wV ej Z (fun _ h=>df h (i:=0) Z Z)) ?_)
  refine wD (zB 7 Z (zQ _)) 1 (yN _ _ _ _) Z cK aD aD aD Z (wV ej Z (fun _ h=>df h (i:=0) Z Z)) (zR ?_)
  refine tP 2 Z cK (xA Z) (tP 3 Z cK (zY lE Z) ?_)
  refine uS (zB 1 Z (zB 6 Z (zQ _))) (wD (zB 1 Z (zB 6 Z (zQ _))) 4 (yN _ _ _ _) Z cK aD aD aD Z (wV dN Z (fun _ h=>df h (i:=0) Z Z)) ?_)
  refine wD (zB 1 Z (zB 6 Z (zQ _))) 5 (yN _ _ _ _) Z cK aD aD aD Z (wV ej Z (fun _ h=>df h (i:=1) Z Z)) (zR ?_)
  refine tP 6 Z cK (xA Z) (tP 7 Z cK (zY lE Z) ?_)
  refine uS (zB 1 Z (zQ _)) (wD (zB 1 Z (zQ _)) 8 (yN _ _ _ _) Z cK aD aD aD Z (wV dN Z (fun _ h=>df h (i:=0) Z Z)) ?_)
  refine zR (tP 9 Z cK (fj cX Z) ?_)
  refine tP 10 Z cK (zh (s:=((on.length:Nat):Int)) Z Z (by first|omega|(simp only [List.length_cons,List.length_nil];omega)|(simp;omega)|simp) aC aC) (uS (zB 2 Z (zQ _)) ?_)
  refine wD (zB 2 Z (zQ _)) 11 (yN _ _ _ _) Z cK aD aD aD Z (wh 0 cX Z Z Z aC) (zR ?_)
  refine tP 12 Z cK (xA Z) (tP 13 Z cK (zY lE Z) ?_)
  refine zL 14 aD ?_
  refine zO (I2:=[[],[],[],[],[],[],[],[],[]]) Z cK aD (fun Kd hKd=>?_)
  refine zF 1 (M':=[_,HA.blk _ [_,_,_,_,_,_,_,_] _,_,_,_,_,_,_]) Z Z Z Z fF Z Z Z (hKd _ _ _ (zD (zD (zD (zD (zD (zD (zD (zD (zD (zP)))))))))) ?_)
  refine yG aD (rK 0 [13,6] Z Z ?_)
  refine CE 2 Z (G6 aJ) FH (rO 3 Z ?_)
  refine sx 1 Z cP Z Z Z Z (zA ?_)
  refine zF 5 (M':=[_,_,_,_,_,HA.blk _ [_,_,_,_,_] _,_,_]) Z Z Z Z cY Z Z Z (zX ?_)
  have hRR:om w one own (false,s,on,A0,c0) (o5,s5,on,A5,c5) v105:=⟨rfl,fun e=>by
   obtain⟨_,g2,g3,n5,g4,g5,g6⟩:=hR105.2 e
   simp only at g2 g3 g4
   have hs:=hs1' ho0
   refine⟨ho0,g2,?_,n5+1,?_,⟨fun _=>⟨hal,tz,hpt, .inr (.inr ⟨hnk,hopn,g5⟩)⟩,fun hn=>absurd hr hn⟩,?_⟩
   ·rw [lf ho hal hr];simp only;have:=gS tz;omega
   ·simp only;push_cast;omega
   ·rw [g6,jg hr hpt (fun e=>e.elim (fun e=>by rw [hone]at e;cases e) hnk)]⟩
  refine yQ (M':=HA.blk b6 [_,_,_,_,_] 25::XS rb w Ar Br cr dr (o5,s5,on,A5,c5)) (by repeat (first|exact zQ _|refine zB 0 Z ?_|refine zB 1 Z ?_|refine zB 2 Z ?_|refine zB 3 Z ?_|refine zB 4 Z ?_|refine zB 5 Z ?_|refine zB 6 Z ?_|refine zB 7 Z ?_|refine zB 8 Z ?_)) ?_
  exact yZ 0 Tryz.results78 Z Z cP ⟨(o5,s5,on,A5,c5),v105,_,hRR,gx (m:=m) (k:=k) hOk hRR,rfl,⟨_,_,_,_,rfl,rfl⟩,rfl⟩ ak aO
 have hnr: ¬ cu own:=fun e=>absurd ((uK hle).2 e) (by simpa using h40)
 refine rO 4 Z (yX Z Z (iM ..) ?_)
 refine zA (zS cx Z (fun b14=>?_))
 change cL _ _ _ _ _ _ _ _ (HA.blk _ [_,_,_,_,_] _::_) _
 refine zA (zF 0 (M':=[HA.blk _ [_,_,_,_,_] _,_,_,_,_,_]) Z Z Z Z cY Z Z Z ?_)
 refine oO 5 Z (zC xI Z Z ?_)
 refine zA (zG 2 dN Z Z Z Z ?_)
 refine zA (yA cX Z Z ?_)
 refine oK 4 [125,124,123,14,6,4,3] Z Z (xS 25 5 ?_)
 refine xS 9 1 (tL ?_)
 refine yL 1 (fun(⟨i,a,Ak,ck,xk,A,ca,xs,ts,l⟩:Nat×SA×Option Addr×Nat×List Value×Option Addr×Nat×List Value×List V×dv)=>i≤own.keys.length∧FoldK w (false,s1,on,A0,c0) ((own.keys.zip own.items).take i) a l∧FF (m - 1) 0 a∧xk=(own.keys.take i).map Value.string∧ts=l.map (·.2)∧(∀ q,Ak=some q→c.w0.heap.size≤q.block)∧ ∀ q,A=some q→c.w0.heap.size≤q.block) (fun(⟨i,a,Ak,ck,xk,A,ca,xs,ts,l⟩:Nat×SA×Option Addr×Nat×List Value×Option Addr×Nat×List Value×List V×dv)=>[(125, .int .i64 ((i:Nat):Int))]) (fun(⟨i,a,Ak,ck,xk,A,ca,xs,ts,l⟩:Nat×SA×Option Addr×Nat×List Value×Option Addr×Nat×List Value×List V×dv)=>HA.row Ak i ck 9 1 xk::HA.row A i ca 25 5 xs::HA.blk b14 [.int .i64 5, .int .i64 0, .string ⟨#[]⟩, .slice Ak i ck, .slice A i ca] 25::HA.blk b6 [.int .i64 0, .int .i64 0, .string ⟨#[]⟩, .slice none 0 0, .slice none 0 0] 25::HA.blk b4 [.int .i64 own.kind, .int .i64 own.num, .string own.text, .slice A1 own.keys.length c1, .slice A2 own.items.length c2] 25::HA.blk b3 [cW rb] 84::XS rb w Ar Br cr dr a) (fun(⟨i,a,Ak,ck,xk,A,ca,xs,ts,l⟩:Nat×SA×Option Addr×Nat×List Value×Option Addr×Nat×List Value×List V×dv)=> .its xs ts:: .strs (.slice A1 own.keys.length c1) own.keys:: .vals (.slice A2 own.items.length c2) own.items:: .val (.agg #[.int .i64 own.kind, .int .i64 own.num, .string own.text, .slice A1 own.keys.length c1, .slice A2 own.items.length c2]) own::DS w Ar Br cr dr a::[]) (fun(⟨i,a,Ak,ck,xk,A,ca,xs,ts,l⟩:Nat×SA×Option Addr×Nat×List Value×Option Addr×Nat×List Value×List V×dv)=>own.keys.length - i) (0,(false,s1,on,A0,c0),none,0,[],none,0,[],[],[]) (⟨Nat.zero_le _, .nil,⟨hon,fun _=>⟨by simp only;omega,by simp only;omega,by simp only;omega⟩⟩,rfl,rfl,(fun q h=>by cases h),(fun q h=>by cases h)⟩) (eC Z (eN _)) Z Z ?_ (eC Z (eC Z (eC Z (eC Z (eC Z (eC Z (eN _)))))))
 intro ⟨i,a,Ak,ck,xk,A,ca,xs,ts,l⟩ hI K hK1
 change Run _ _ _ _ _ [(125,_),(124,_),(123,_),(14,_),(6,_),(4,_),(3,_)] (HA.row Ak i ck 9 1 xk::HA.row A i ca 25 5 xs::HA.blk b14 [.int .i64 5, .int .i64 0, .string ⟨#[]⟩, .slice Ak i ck, .slice A i ca] 25::HA.blk b6 [.int .i64 0, .int .i64 0, .string ⟨#[]⟩, .slice none 0 0, .slice none 0 0] 25::HA.blk b4 [.int .i64 own.kind, .int .i64 own.num, .string own.text, .slice A1 own.keys.length c1, .slice A2 own.items.length c2] 25::HA.blk b3 [cW rb] 84::XS rb w Ar Br cr dr a) [_,_,_,_,_]
 obtain⟨hi,hF,hOka,hxk,hts,hAk,hA⟩:=hI
 refine rO 3 Z (yJ Z Z Z ?_)
 refine oR 2 Z (zN Z (fun h126=>?_) (fun h126=>?_))
 ·refine rO 8 Z (xP 1 cX Z Z Z Z h126 ?_)
  have hlt:i<own.items.length:=by omega
  refine zA (yH dK Z Z (fun _ h=>xF h (j:=1) Z (List.getElem?_eq_getElem h126)) ?_)
  refine zA (zS O9 Z (fun b16=>?_))
  change cL _ _ _ _ _ _ _ _ (HA.blk _ [_] _::_) _
  refine oO 3 Z (zF 0 (M':=[HA.blk _ [_] _,_,_,_,_,_,_,_,_]) Z Z Z Z O8 Z Z Z ?_)
  refine oR 2 Z (yO yE ?_)
  refine zR (tP 1 Z cK (zY yV Z) ?_)
  refine tP 3 Z cK (zZ Z) (tP 6 Z cK (s7 Z Z) ?_)
  refine uS (zB 0 Z (zB 4 Z (zQ _))) (wD (zB 0 Z (zB 4 Z (zQ _))) 0 (yN _ _ _ _) Z cK aD aD aD Z (yR 0 dK Z Z Z) ?_)
  refine wD (zB 0 Z (zB 4 Z (zQ _))) 2 (yN _ _ _ _) Z cK aD aD aD Z (yR 1 dJ Z Z Z) (qW ?_)
  refine rI 4 (yN _ _ _ _) Z cK aD aD aD Z (vH 2 cg Z Z Z hlt) (uF 2 Z (List.getElem?_eq_getElem hlt) (fun vs135 hl135=>?_))
  refine qW (rI 5 (yN _ _ _ _) Z cK aD aD aD Z (uG 0 hl135 cP Z Z) ?_)
  refine tX (rs:=[7,8]) aD aJ ?_
  intro j hj
  simp only [List.mem_cons,List.not_mem_nil,or_false]at hj
  rcases hj with rfl|rfl
  ·refine zO (I2:=[[],[],[],[],[]]) Z cK aD (fun Kd hKd=>?_)
   refine FI (HE.perm (List.perm_middle (l₁:=[_,_,_,_,_])).symm) ?_
   have hkid: ∀ y∈kidsOf (cM own.keys[i]) (own.items[i]'hlt),d5 y:=fun y hy=>by
    have hgk:=(xD ho.1 ho.2.kind).1 (List.mem_of_getElem? (i:=i) (by rw [List.getElem?_zip_eq_some];exact⟨List.getElem?_eq_getElem h126,List.getElem?_eq_getElem hlt⟩):(own.keys[i],own.items[i]'hlt)∈own.keys.zip own.items)
    have hk:=xH ho.1 ho.2.kind hgk hy
    exact⟨vP ho.1 hk,wH ho.1 ho.2 hk⟩
   have hpi:=ho.1.item _ (List.getElem_mem hlt)
   refine pE (pre:=[_,_,_,_,_]) Z Z Z (Gj (X:=fun a=> .blk b16 [.string own.keys[i]] 9:: .blk b3 [cW rb] 84::XS rb w Ar Br cr dr a) (DX:=DS w Ar Br cr dr) (Ok:=FF (m - 1)) (fun _ _ h=>h) (own.keys[i]'h126) (own.items[i]'hlt) _ 118 #[] #[cW b16,cW b3] hpi.wf.kl hpi.wf.il (fun y hy=>MH rb w Ar Br cr dr b16 b3 (m - 1) _ y (hkid y hy) (fun y2 hy2 one2=>IHm (m - 1) aC y2 hy2 one2)) a hOka) Z aB (fun u137 M137 D137 hv137=>?_)
   obtain⟨a137,v137,D137,hR137,rfl,⟨A137,m137,B137,d137,rfl,rfl⟩,rfl⟩:=hv137
   refine hKd _ _ _ (zD (zD (zD (zD (zD (zP)))))) (zL 8 aD ?_)
   refine zO (I2:=[[],[],[],[],[]]) Z cK aD (fun Kd hKd=>?_)
   refine zS cx Z (fun b17=>?_)
   change cL _ _ _ _ _ _ _ _ (HA.blk _ [_,_,_,_,_] _::_) _
   refine hKd _ _ _ (zD (zD (zD (zD (zD (zP)))))) (zL 9 aD ?_)
   refine zO (I2:=[[],[],[],[],[]]) Z cK aD (fun Kd hKd=>?_)
   refine zF 0 (M':=[HA.blk _ [_,_,_,_,_] _,_,_,_,_,_,_,_,_,_]) Z Z Z Z cY Z Z Z (hKd _ _ _ (zD (zD (zD (zD (zD (zP)))))) ?_)
   refine yG aD (rK 0 [17,16,125,124,123,14,6,4,3] Z Z ?_)
   refine rO 3 Z (zC xI Z Z ?_)
   refine zA (zG 3 dN Z Z Z Z ?_)
   refine zA (zG 6 dK Z Z Z Z ?_)
   refine zA (zM cX Z Z Z Z Z (fun b141=>?_))
   refine zA ?_
   refine tA 2 0 cX Z Z Z Z Z Z Z bf aC hAk (fun A142 c142 hA142=>?_)
   refine zA (zC xI Z Z ?_)
   refine zA (zF 4 (M':=[_,_,_,_,HA.blk _ [_,_,_,_,_] _,_,_,_,_,_,_]) Z Z Z Z fF Z Z Z ?_)
   refine oK 1 [17,125,124,123,14,6,4,3] Z Z (rO 2 Z ?_)
   refine zC yV Z Z (zA ?_)
   refine zG 4 dJ Z Z Z Z (zA ?_)
   refine zJ 1 Z cP Z Z (zA ?_)
   refine zM cg Z Z Z Z Z (fun b147=>?_)
   refine zA ?_
   refine tA 4 0 cg Z Z Z Z Z Z Z bf aC hA (fun A148 c148 hA148=>?_)
   refine zA (zC yV Z Z ?_)
   refine zA (zF 5 (M':=[_,_,_,_,_,HA.blk _ [_,_,_,_,_] _,_,_,_,_,_,_]) Z Z Z Z ei Z Z Z ?_)
   refine oO 4 Z (yB Z Z aC ?_)
   refine oK 3 [125,124,123,14,6,4,3] Z Z (wN 4 0 Z Z Z ?_)
   exact kQ (hK1 (i+1,a137,A142,c142,xk++[.string own.keys[i]],A148,c148,_,ts++[v137],l++[(own.keys[i],v137)]) (⟨by show i+1≤_;omega,hF.stepI aC hlt hR137,wi hOka hR137,by rw [hxk,List.take_add_one,List.getElem?_eq_getElem (by omega:i<own.keys.length),List.map_append];rfl,by rw [hts];simp,hA142,hA148⟩) (by show own.keys.length - (i+1)<own.keys.length - i;omega)) (eC Z (eC Z (eC Z (eC Z (eC Z (eC Z (eC Z (eN _)))))))) (hD:=(by intro d hd;refine(List.mem_cons.1 hd).elim (fun e=>e▸ac) (fun hd=>?_);repeat (first|exact hd|apply List.mem_cons_of_mem)))
  refine zO (I2:=[[5],[4],[2,0],[6,3,1],[]]) Z cK aD (fun Kd hKd=>?_)
  refine zS cx Z (fun b17=>?_)
  change cL _ _ _ _ _ _ _ _ (HA.blk _ [_,_,_,_,_] _::_) _
  refine hKd _ _ _ (hC (hC (vV sK sQ (hC (zD (zP)))))) ?_
  refine zL 7 aD ?_
  refine zO (I2:=[[],[],[],[],[]]) Z cK aD (fun Kd hKd=>?_)
  refine FI (HE.perm (.cons _ (List.perm_middle (l₁:=[_,_,_,_,_])).symm)) ?_
  have hkid: ∀ y∈kidsOf (cM own.keys[i]) (own.items[i]'hlt),d5 y:=fun y hy=>by
   have hgk:=(xD ho.1 ho.2.kind).1 (List.mem_of_getElem? (i:=i) (by rw [List.getElem?_zip_eq_some];exact⟨List.getElem?_eq_getElem h126,List.getElem?_eq_getElem hlt⟩):(own.keys[i],own.items[i]'hlt)∈own.keys.zip own.items)
   have hk:=xH ho.1 ho.2.kind hgk hy
   exact⟨vP ho.1 hk,wH ho.1 ho.2 hk⟩
  have hpi:=ho.1.item _ (List.getElem_mem hlt)
  refine pE (pre:=[_,_,_,_,_,_]) Z Z Z (Gj (X:=fun a=> .blk b16 [.string own.keys[i]] 9:: .blk b3 [cW rb] 84::XS rb w Ar Br cr dr a) (DX:=DS w Ar Br cr dr) (Ok:=FF (m - 1)) (fun _ _ h=>h) (own.keys[i]'h126) (own.items[i]'hlt) _ 118 #[] #[cW b16,cW b3] hpi.wf.kl hpi.wf.il (fun y hy=>MH rb w Ar Br cr dr b16 b3 (m - 1) _ y (hkid y hy) (fun y2 hy2 one2=>IHm (m - 1) aC y2 hy2 one2)) a hOka) Z aB (fun u137 M137 D137 hv137=>?_)
  obtain⟨a137,v137,D137,hR137,rfl,⟨A137,m137,B137,d137,rfl,rfl⟩,rfl⟩:=hv137
  refine hKd _ _ _ (zD (zD (zD (zD (zD (zP)))))) (zL 9 aD ?_)
  refine zO (I2:=[[],[],[],[],[]]) Z cK aD (fun Kd hKd=>?_)
  refine zF 0 (M':=[HA.blk _ [_,_,_,_,_] _,_,_,_,_,_,_,_,_,_]) Z Z Z Z cY Z Z Z (hKd _ _ _ (zD (zD (zD (zD (zD (zP)))))) ?_)
  refine yG aD (rK 0 [17,16,125,124,123,14,6,4,3] Z Z ?_)
  refine rO 3 Z (zC xI Z Z ?_)
  refine zA (zG 3 dN Z Z Z Z ?_)
  refine zA (zG 6 dK Z Z Z Z ?_)
  refine zA (zM cX Z Z Z Z Z (fun b141=>?_))
  refine zA ?_
  refine tA 2 0 cX Z Z Z Z Z Z Z bf aC hAk (fun A142 c142 hA142=>?_)
  refine zA (zC xI Z Z ?_)
  refine zA (zF 4 (M':=[_,_,_,_,HA.blk _ [_,_,_,_,_] _,_,_,_,_,_,_]) Z Z Z Z fF Z Z Z ?_)
  refine oK 1 [17,125,124,123,14,6,4,3] Z Z (rO 2 Z ?_)
  refine zC yV Z Z (zA ?_)
  refine zG 4 dJ Z Z Z Z (zA ?_)
  refine zJ 1 Z cP Z Z (zA ?_)
  refine zM cg Z Z Z Z Z (fun b147=>?_)
  refine zA ?_
  refine tA 4 0 cg Z Z Z Z Z Z Z bf aC hA (fun A148 c148 hA148=>?_)
  refine zA (zC yV Z Z ?_)
  refine zA (zF 5 (M':=[_,_,_,_,_,HA.blk _ [_,_,_,_,_] _,_,_,_,_,_,_]) Z Z Z Z ei Z Z Z ?_)
  refine oO 4 Z (yB Z Z aC ?_)
  refine oK 3 [125,124,123,14,6,4,3] Z Z (wN 4 0 Z Z Z ?_)
  exact kQ (hK1 (i+1,a137,A142,c142,xk++[.string own.keys[i]],A148,c148,_,ts++[v137],l++[(own.keys[i],v137)]) (⟨by show i+1≤_;omega,hF.stepI aC hlt hR137,wi hOka hR137,by rw [hxk,List.take_add_one,List.getElem?_eq_getElem (by omega:i<own.keys.length),List.map_append];rfl,by rw [hts];simp,hA142,hA148⟩) (by show own.keys.length - (i+1)<own.keys.length - i;omega)) (eC Z (eC Z (eC Z (eC Z (eC Z (eC Z (eC Z (eN _)))))))) (hD:=(by intro d hd;refine(List.mem_cons.1 hd).elim (fun e=>e▸ac) (fun hd=>?_);repeat (first|exact hd|apply List.mem_cons_of_mem)))
 obtain rfl:i=own.keys.length:=by omega
 have hll:l.length=own.keys.length:=by
  have e:=congrArg List.length hF.keys
  rw [pR _ _ _ hle,List.length_map,List.take_length]at e
  exact e
 have hlk:l.map (·.1)=own.keys:=by rw [hF.keys,pR _ _ _ hle,List.take_length]
 rw [List.take_of_length_le bT]at hF
 have hKr:=G5 hF
 refine l9 0 (l.map (·.1)) hAk Z (by rw [hxk,hlk,List.take_length]) (by rw [hlk];exact hksz) (ib 0 1 ts hA Z Z (by rw [hts,List.length_map,hll]) ?_)
 refine wU (q:=5) (m:=0) (s:=⟨#[]⟩) 1 0 Z Z aE ?_
 subst hts
 refine rO 4 Z (zJ 0 Z cP Z Z ?_)
 refine zA (zF 1 (M':=[_,HA.blk _ [_,_,_,_,_] _,_,_,_,_]) Z Z Z Z cY Z Z Z ?_)
 refine zX ?_
 have hRR:om w one own (false,s,on,A0,c0) a (l4 l):=⟨hKr.1,fun e=>by
  obtain⟨g1,g2,g3,n5,g4,g5,g6⟩:=hKr.2 e
  simp only at g2 g3 g4
  have hs:=hs1' rfl
  refine⟨rfl,g2 aC,?_,n5+1,?_,⟨fun hn=>absurd hn hnr,fun _=>g5⟩,?_⟩
  ·rw [gS,kidsV];simp only;omega
  ·simp only;push_cast;omega
  ·rw [ji hnr,g6];rfl⟩
 refine yQ (M':=HA.blk b6 [_,_,_,_,_] 25::XS rb w Ar Br cr dr a) (by repeat (first|exact zQ _|refine zB 0 Z ?_|refine zB 1 Z ?_|refine zB 2 Z ?_|refine zB 3 Z ?_|refine zB 4 Z ?_|refine zB 5 Z ?_|refine zB 6 Z ?_|refine zB 7 Z ?_|refine zB 8 Z ?_)) ?_
 exact yZ 0 Tryz.results78 Z Z cP ⟨a,(l4 l),_,hRR,gx (m:=m) (k:=k) hOk hRR,rfl,⟨_,_,_,_,(by show _=Value.agg #[.int .i64 5, .int .i64 0, .string ⟨#[]⟩, .slice Ak (l.map (·.1)).length ck, .slice A (l.map (·.2)).length ca];rw [List.length_map,List.length_map,hll]),rfl⟩,rfl⟩ ak (by intro d hd;refine(List.mem_cons.1 hd).elim (fun e=>e▸List.mem_cons_self) (fun hd=>?_);obtain rfl:=List.mem_singleton.1 hd;simp [DS])
theorem CF(M:List HA)(T sz:Nat):HE M (.row none 0 0 T sz []::M):=⟨fun w=>⟨fun a x hx=>by
  rcases List.mem_cons.1 hx with rfl|hx
  ·exact⟨(Nat.zero_mul sz).symm, .inl ⟨rfl,rfl⟩⟩
  ·exact a x hx,fun a x hx=>a x (List.mem_cons_of_mem _ hx)⟩,by simp [foots,HA.foot]⟩
def MI(v z:V):Prop:=eL v∧IsRootV v∧ ¬ cu (cO v)∧dQ (cO v)≤2000∧i4 z∧ ∃n:Nat,n≤2000∧dY (cO v) n false (cO v)∧z=dy (cO v) n false (cO v)
theorem FK{v:V}(hp:Pl v)(hs:IsShape v)(h: ¬ cu v): ¬ cu (cO v):=by
 unfold cu
 rw [sI hs hp,if_pos aD,map_id fun x=>Ly (.inl aD) x]
 exact h
theorem CG{v:V}(hp:Pl v)(hs:IsShape v)(h:IsRootV v):IsRootV (cO v):=by
  have hid:=vt hs hp
  unfold IsRootV
  rw [hid]
  refine⟨h.1,h.2.1,h.2.2.1,fun z hz=>?_⟩
  obtain⟨y,hy,rfl⟩:=n8 hp hs hz
  refine pX (p:=fun z=> ¬ Er z) (q:=fun z=> ¬ Er z) (fun x hpx hsx hx hI=>hx ?_) y (vP hp hy) (wH hp hs hy) (h.2.2.2 y hy)
  rcases hI with e|e
  · rw [sI hsx hpx,if_pos aD]at e
    exact .inl (by cases hg:getV x kId with|none=>rw [hg]at e;cases e|some a=>rfl)
  · rw [sI hsx hpx,if_pos aD]at e
    exact .inr (by cases hg:getV x k1 with|none=>rw [hg]at e;cases e|some a=>rfl)

theorem c42(v:V)(x:Value):CtR Tryz.prog 42 #[x] [.val x v] (fun u D'=> ∃y z b,u= .tuple #[y, .bool b]∧RV z y D'∧(b=true→MI v z)):=by
 refine Ct.of_run (args:=[x]) Tryz.func42 aF Z Tryz.ntmps42 Z (fun c=>?_)
 refine yP 0 Z (fun A1 c1 A2 c2 hx hsz1 hk1 hk2 hi1 hi2=>?_)
 subst hx
 refine rO 3 Z (yK Z Z Z (fun b1=>?_))
 refine zA (zS cx Z (fun b2=>?_))
 change cL _ _ _ _ _ _ _ _ (HA.blk _ [_,_,_,_,_] _::_) _
 refine oO 7 Z (zJ 1 Z cP Z Z ?_)
 refine zA (zK Z Z Z (c20 v _) aA ?_)
 refine oS 4 Z (yU (s:=9) Z (fun h9=>?_) (fun h9=>?_))
 ·refine oK 13 [18,2,1] Z Z (rO 4 Z ?_)
  refine yX Z Z (q9 ..) (zA ?_)
  refine zF 0 (M':=[HA.blk _ [_,_,_,_,_] _,_]) Z Z Z Z cY Z Z Z (oR 3 Z ?_)
  refine yQ (M':=[HA.blk b2 [_,_,_,_,_] 25]) (by repeat (first|exact zQ _|refine zB 0 Z ?_|refine zB 1 Z ?_|refine zB 2 Z ?_|refine zB 3 Z ?_|refine zB 4 Z ?_|refine zB 5 Z ?_|refine zB 6 Z ?_)) ?_
  refine yM (.val (.agg #[.int .i64 0, .int .i64 0, .string ⟨#[]⟩, .slice none 0 0, .slice none 0 0]) zV) (fun w ok _=>sE w ok) ?_
  exact xX 0 Tryz.results42 Z Z Z cP ⟨rfl, .agg #[.int .i64 0, .int .i64 0, .string ⟨#[]⟩, .slice none 0 0, .slice none 0 0],zV,false,rfl,⟨none,0,none,0,rfl,rfl⟩,fun e=>by cases e⟩ nS (cS 0 Z)
 have hsv:eL v:=yT.1 (by simpa using h9)
 have hp:Pl v:=⟨12,hsv.1.1⟩
 refine zI Z Z (zJ 1 Z cP Z Z ?_)
 refine zI Z Z (zK Z Z Z (c33 v _ hp) aA ?_)
 refine oS 6 Z (yU (s:=14) Z (fun h14=>?_) (fun h14=>?_))
 ·refine oK 6 [18,2,1] Z Z (rO 4 Z ?_)
  refine yX Z Z (q9 ..) (zA ?_)
  refine zF 0 (M':=[HA.blk _ [_,_,_,_,_] _,_]) Z Z Z Z cY Z Z Z (oR 3 Z ?_)
  refine yQ (M':=[HA.blk b2 [_,_,_,_,_] 25]) (by repeat (first|exact zQ _|refine zB 0 Z ?_|refine zB 1 Z ?_|refine zB 2 Z ?_|refine zB 3 Z ?_|refine zB 4 Z ?_|refine zB 5 Z ?_|refine zB 6 Z ?_)) ?_
  refine yM (.val (.agg #[.int .i64 0, .int .i64 0, .string ⟨#[]⟩, .slice none 0 0, .slice none 0 0]) zV) (fun w ok _=>sE w ok) ?_
  exact xX 0 Tryz.results42 Z Z Z cP ⟨rfl, .agg #[.int .i64 0, .int .i64 0, .string ⟨#[]⟩, .slice none 0 0, .slice none 0 0],zV,false,rfl,⟨none,0,none,0,rfl,rfl⟩,fun e=>by cases e⟩ nS (cS 0 Z)
 have hroot:IsRootV v:=yT.1 (by simpa using h14)
 refine zI Z Z (zJ 1 Z cP Z Z ?_)
 refine zI Z Z (zK Z Z Z (Aw _ v k3) aA ?_)
 refine zI Z Z (tB Z Z Z ?_)
 refine oK 3 [18,2,1] Z Z (zW Z (fun h18=>?_) (fun h18=>?_))
 ·refine rO 3 Z (yX Z Z (q9 ..) ?_)
  refine zA (zF 0 (M':=[HA.blk _ [_,_,_,_,_] _,_]) Z Z Z Z cY Z Z Z ?_)
  refine oR 3 Z ?_
  refine yQ (M':=[HA.blk b2 [_,_,_,_,_] 25]) (by repeat (first|exact zQ _|refine zB 0 Z ?_|refine zB 1 Z ?_|refine zB 2 Z ?_|refine zB 3 Z ?_|refine zB 4 Z ?_|refine zB 5 Z ?_|refine zB 6 Z ?_)) ?_
  refine yM (.val (.agg #[.int .i64 0, .int .i64 0, .string ⟨#[]⟩, .slice none 0 0, .slice none 0 0]) zV) (fun w ok _=>sE w ok) ?_
  exact xX 0 Tryz.results42 Z Z Z cP ⟨rfl, .agg #[.int .i64 0, .int .i64 0, .string ⟨#[]⟩, .slice none 0 0, .slice none 0 0],zV,false,rfl,⟨none,0,none,0,rfl,rfl⟩,fun e=>by cases e⟩ nS (cS 0 Z)
 have hnr: ¬ cu v:=fun e=>absurd ((uK hp.wf.le).2 e) (by simpa using h18)
 have hw:d5 (cO v):=⟨qU hsv.2 hp,qO v hsv.2 hp⟩
 refine rO 4 Z (zJ 1 Z cP Z Z ?_)
 refine zA ?_
 refine zT Z Z Z (Mx v hp.wf _) aA (fun u21 D21 hv21=>?_)
 obtain⟨A21,m21,B21,d21,rfl,rfl⟩:=hv21
 refine zA (zF 1 (M':=[_,HA.blk _ [_,_,_,_,_] _]) Z Z Z Z cY Z Z Z ?_)
 refine oO 4 Z (zJ 1 Z cP Z Z ?_)
 refine zA (yX Z Z (C7 ..) ?_)
 refine zA (yK Z Z Z (fun b24=>?_))
 refine oO 8 Z (zJ 2 Z cP Z Z ?_)
 refine zA (FI (CF _ 9 1) ?_)
 have hct27:=Pz b24 (cO v) A21 B21 m21 d21 hw 2001 (cO v) hw false 0 (false,2000,[],none,0) (.agg #[.int .i64 (cO v).kind, .int .i64 (cO v).num, .string (cO v).text, .slice A21 (cO v).keys.length m21, .slice B21 (cO v).items.length d21]) ⟨Nat.zero_le _,fun _=>⟨by decide,by decide,by decide⟩⟩
 change Ct Tryz.prog 78 #[cW b24, .agg #[.int .i64 (cO v).kind, .int .i64 (cO v).num, .string (cO v).text, .slice A21 (cO v).keys.length m21, .slice B21 (cO v).items.length d21], .bool false] [.blk b24 _ 86, .row none 0 0 9 1 []] _ _ at hct27
 refine qB 1 0 Z Z Z hct27 Z Z (by intro d hd;simp only [List.mem_cons,List.not_mem_nil,or_false]at hd;rcases hd with rfl|rfl<;>simp [DS]) (fun u27 M27 D27 hv27=>?_)
 obtain⟨a27,v27,D27,hR27,hO27,rfl,⟨A27,m27,B27,d27,rfl,rfl⟩,rfl⟩:=hv27
 obtain⟨o27,s27,on27,A0,c0⟩:=a27
 refine zA (zS cx Z (fun b5=>?_))
 change cL _ _ _ _ _ _ _ _ (HA.blk _ [_,_,_,_,_] _::_) _
 refine zA (zF 0 (M':=[HA.blk _ [_,_,_,_,_] _,_,_,_,_]) Z Z Z Z cY Z Z Z ?_)
 refine oK 1 [5,4,2] Z Z (xK ?_)
 refine yO yE (zR ?_)
 refine tP 1 Z cK (zZ Z) (tP 2 Z cK (xA Z) ?_)
 refine tP 3 Z cK (zY el Z) (yF ?_)
 refine tM 0 Z cK (vG 0 Z cP Z) (tM 4 Z cK (yR 1 FX Z Z Z) ?_)
 refine zR (tP 5 Z cK (w1 Z) ?_)
 refine tP 6 Z cK (zZ Z) (pT (s:=34) Z (fun h34=>?_) (fun h34=>?_))
 ·obtain⟨_,g2,g3,n27,g4,ht27,hz27⟩:=hR27.2 (by simpa using h34)
  simp only at g2 g3 g4
  have nd27:dQ (cO v)≤2000:=by omega
  have hn27:n27≤2000:=by omega
  refine yF (tM 7 Z (dF Z Z) (vG 0 Z cP Z) ?_)
  refine zL 8 aD ?_
  refine zO (I2:=[[],[],[0],[],[]]) Z (dF Z Z) aD (fun Kd hKd=>?_)
  refine zK Z Z Z (Ms v27 _) aA (hKd _ _ _ (zD (zD (hC (zD (zD (zP)))))) ?_)
  refine zR (tP 9 Z cK (rW Z Z) ?_)
  refine zL 10 aD ?_
  refine zO (I2:=[[9],[],[],[],[],[]]) Z cK aD (fun Kd hKd=>?_)
  refine zF 3 (M':=[_,_,_,HA.blk _ [_,_,_,_,_] _,_]) Z Z Z Z cY Z Z Z (hKd _ _ _ (hC (zD (zD (zD (zD (zD (zP))))))) ?_)
  refine tP 11 Z cK (xC Z) (yG aD ?_)
  refine rK 0 [3,2] Z Z ?_
  refine yQ (M':=[HA.blk b2 [_,_,_,_,_] 25]) (by repeat (first|exact zQ _|refine zB 0 Z ?_|refine zB 1 Z ?_|refine zB 2 Z ?_|refine zB 3 Z ?_|refine zB 4 Z ?_|refine zB 5 Z ?_|refine zB 6 Z ?_)) ?_
  exact xX 0 Tryz.results42 Z Z Z cP ⟨rfl,_,v27,_,rfl,⟨_,_,_,_,rfl,rfl⟩,fun e=>⟨hsv,hroot,FK hp hsv.2 hnr,nd27,yT.1 e,n27,hn27,ht27,hz27⟩⟩ nS aA
 refine yF (tS 7 Z Z Z Z ?_)
 refine tS 8 Z Z Z Z (zR ?_)
 refine tP 9 Z cK (rW Z Z) (zL 10 aD ?_)
 refine zO (I2:=[[9],[],[],[],[],[]]) Z cK aD (fun Kd hKd=>?_)
 refine zF 3 (M':=[_,_,_,HA.blk _ [_,_,_,_,_] _,_]) Z Z Z Z cY Z Z Z (hKd _ _ _ (hC (zD (zD (zD (zD (zD (zP))))))) ?_)
 refine tP 11 Z cK (xC Z) (yG aD ?_)
 refine rK 0 [3,2] Z Z ?_
 refine yQ (M':=[HA.blk b2 [_,_,_,_,_] 25]) (by repeat (first|exact zQ _|refine zB 0 Z ?_|refine zB 1 Z ?_|refine zB 2 Z ?_|refine zB 3 Z ?_|refine zB 4 Z ?_|refine zB 5 Z ?_|refine zB 6 Z ?_)) ?_
 exact xX 0 Tryz.results42 Z Z Z cP ⟨rfl,_,v27,_,rfl,⟨_,_,_,_,rfl,rfl⟩,fun e=>by cases e⟩ nS aA
theorem MJ{G:Gr}{b mb:Nat}{v:V}(hg:(G.map (·.1)).Nodup)(hp:Pl v)(hs:IsShape v)(hnr: ¬ cu (cO v))(hU:Unf G v b)(ho:Own G [b]){N:Nat}(hN:N≤2000)(ht:dY (cO v) N false (cO v))(hnd:dQ (cO v)≤2000):
    ∃(c:RX) (L:List Nat) (mu:Nat→Nat),c.w=cO v∧c.b=b∧GOk G c.σ∧c.One∧c.Mu mu∧(∀ one d,c.RS one d→d∈L)∧yz L mu id<999999999:=by
  obtain⟨σ,hσ⟩:=GOk.ex hg
  have hw:d5 (cO v):=⟨qU hs hp,qO v hs hp⟩
  have hu:=(gP hσ _ _).1 (n7 v b hp hs hU)
  obtain⟨f,hf,_⟩:=(xO _ _ _).1 hu
  let c:RX:=⟨σ,cO v,b,f,hw,hu,hf,hnr⟩
  have h1:c.One:=Gt (c:=c) hσ ho
  obtain⟨mu,hmu,hmN⟩:=RX.mu_ex (c:=c) ht h1
  obtain⟨L,hL1,hL2⟩:=E6 (σ:=σ) (cO v) b hw hu
  refine⟨c,L,mu,rfl,rfl,hσ,h1,hmu,fun one d hd=>hL2 d (RX.rs_rch (c:=c) hd),?_⟩
  have: ∀ l:List Nat,(l.map (fun d=>mu (id d))).sum≤l.length*2000:=by
    intro l
    induction l with
    |nil=>exact Nat.le_refl _
    |cons a l ih=>
      have:=hmN a
      simp only [List.map_cons,List.sum_cons,List.length_cons,id]
      simp only [id]at ih
      omega
  have h5:=this L
  have h6:L.length*2000≤2000*2000:=Nat.mul_le_mul_right _ aC
  show(L.map (fun d=>mu (id d))).sum<_
  omega
theorem OF(mb ck b N:Nat)(G:Gr)(v:V)(hp:Pl v)(hs:IsShape v)(hroot:IsRootV v)(hnr: ¬ cu (cO v))(hU:Unf G v b)(ho:Own G [b])(hN:N≤2000)(ht:dY (cO v) N false (cO v))(hnd:dQ (cO v)≤2000):
  Ct Tryz.prog 82 #[cW b] [.many 124 (Gr.blks G), .obj mb (.map #[{key:= .string (iD (cO v)),val:=cW b,born:=0}] ck)] [.graph mb G] (fun u M' D'=>u= .tuple #[]∧ ∃G',Unf G' (dy (cO v) N false (cO v)) b∧M'=[.many 124 (Gr.blks G'), .obj mb (.map #[{key:= .string (iD (cO v)),val:=cW b,born:=0}] ck)]∧D'=[.graph mb G']):=by
 refine Ct.know (p:=(G.map (·.1)).Nodup) (fun hn w ok _=>ie hn) ⟨_,Tryz.func82,rfl,rfl⟩ (fun hg=>?_)
 obtain⟨c,L,mu,e1,e2,hσ,h1,hmu,hL,hphi⟩:=MJ (mb:=mb) hg hp hs hnr hU ho hN ht hnd
 have hc:=Px c mb ck N G L mu (by rw [e1];exact CG hp hs hroot) (by rw [e1];exact ht) h1 hmu hL hphi hσ
 unfold kz at hc
 rw [e1,e2]at hc
 refine hc.mono ?_
 rintro u M' D' ⟨rfl,G',σ',hG',hu,rfl,rfl⟩
 exact⟨rfl,G',(gP hG' _ _).2 hu,rfl,rfl⟩
theorem P0(v:V)(x:Value):CtR Tryz.prog 43 #[x] [.val x v] (fun u D'=> ∃y z b,u= .tuple #[y, .bool b]∧RV z y D'∧(b=true→eL v∧z=mergedV (cO v)∧cn CI (cO v)∧i4 z)):=by
 refine Ct.of_run (args:=[x]) Tryz.func43 aF Z Tryz.ntmps43 Z (fun c=>?_)
 refine yP 0 Z (fun A1 c1 A2 c2 hx hsz1 hk1 hk2 hi1 hi2=>?_)
 subst hx
 refine rO 3 Z (yK Z Z Z (fun b1=>?_))
 refine zA (zS cx Z (fun b2=>?_))
 change cL _ _ _ _ _ _ _ _ (HA.blk _ [_,_,_,_,_] _::_) _
 refine oO 7 Z (zJ 1 Z cP Z Z ?_)
 refine zA (zK Z Z Z (c20 v _) aA ?_)
 refine oR 3 Z (zW Z (fun h8=>?_) (fun h8=>?_))
 ·refine rO 3 Z (yX Z Z (q9 ..) ?_)
  refine zA (zF 0 (M':=[HA.blk _ [_,_,_,_,_] _,_]) Z Z Z Z cY Z Z Z ?_)
  refine oR 3 Z ?_
  refine yQ (M':=[HA.blk b2 [_,_,_,_,_] 25]) (by repeat (first|exact zQ _|refine zB 0 Z ?_|refine zB 1 Z ?_|refine zB 2 Z ?_|refine zB 3 Z ?_|refine zB 4 Z ?_|refine zB 5 Z ?_|refine zB 6 Z ?_)) ?_
  refine yM (.val (.agg #[.int .i64 0, .int .i64 0, .string ⟨#[]⟩, .slice none 0 0, .slice none 0 0]) zV) (fun w ok _=>sE w ok) ?_
  exact xX 0 Tryz.results43 Z Z Z cP ⟨rfl, .agg #[.int .i64 0, .int .i64 0, .string ⟨#[]⟩, .slice none 0 0, .slice none 0 0],zV,false,rfl,⟨none,0,none,0,rfl,rfl⟩,fun e=>by cases e⟩ nS (cS 0 Z)
 have hsv0:=yT.1 (by simpa using h8)
 have hp:Pl v:=⟨12,hsv0.1.1⟩
 have hs:=hsv0.2
 have hpn:=qU hs hp
 have hsn:=qO v hs hp
 have hkn:=pX (p:=fun _=>True) (q:=ii) (fun v _ _ _=>ko v) v hp hs (jI (fun _=>trivial) v)
 refine rO 4 Z (yX Z Z (Mq ..) ?_)
 refine zA (yK Z Z Z (fun b11=>?_))
 refine oO 8 Z (zJ 2 Z cP Z Z ?_)
 refine zA ?_
 refine zT Z Z Z (Mx v hp.wf _) aA (fun u14 D14 hv14=>?_)
 obtain⟨A14,m14,B14,d14,rfl,rfl⟩:=hv14
 refine iQ (DM false) (fun w ok _=>sE w ok) (zA ?_)
 refine vT (M1:=[_]) Z Z Z (Py b11 (cO v) ⟨hpn,hsn⟩ hkn 0 false _ trivial) Z (dC 1 0 Z Z) (fun u15 M15 D15 hv15=>?_)
 obtain⟨a15,v15,D15,hR15,_,rfl,⟨A15,m15,B15,d15,rfl,rfl⟩,rfl⟩:=hv15
 refine zA (zS cx Z (fun b5=>?_))
 change cL _ _ _ _ _ _ _ _ (HA.blk _ [_,_,_,_,_] _::_) _
 refine zA (zF 0 (M':=[HA.blk _ [_,_,_,_,_] _,_,_,_]) Z Z Z Z cY Z Z Z ?_)
 refine oK 1 [5,4,2] Z Z (xK ?_)
 refine yO yE (zR ?_)
 refine tP 1 Z cK (zZ Z) (tP 2 Z cK (xA Z) ?_)
 refine tP 3 Z cK (zY mv Z) (yF ?_)
 refine tM 0 Z cK (vG 0 Z cP Z) (tM 4 Z cK (yR 1 FX Z Z Z) ?_)
 refine zR (tP 5 Z cK (w1 Z) ?_)
 refine tP 6 Z cK (zZ Z) (pT (s:=22) Z (fun h22=>?_) (fun h22=>?_))
 ·refine yF (tM 7 Z (dF Z Z) (vG 0 Z cP Z) ?_)
  refine zL 8 aD ?_
  refine zO (I2:=[[],[],[0],[],[]]) Z (dF Z Z) aD (fun Kd hKd=>?_)
  refine zK Z Z Z (Ms v15 _) aA (hKd _ _ _ (zD (zD (hC (zD (zD (zP)))))) ?_)
  refine zR (tP 9 Z cK (rW Z Z) ?_)
  refine zL 10 aD ?_
  refine zO (I2:=[[9],[],[],[],[],[]]) Z cK aD (fun Kd hKd=>?_)
  refine zF 2 (M':=[_,_,HA.blk _ [_,_,_,_,_] _,_]) Z Z Z Z cY Z Z Z (hKd _ _ _ (hC (zD (zD (zD (zD (zD (zP))))))) ?_)
  refine tP 11 Z cK (xC Z) (yG aD ?_)
  refine rK 0 [3,2] Z Z ?_
  refine yQ (M':=[HA.blk b2 [_,_,_,_,_] 25]) (by repeat (first|exact zQ _|refine zB 0 Z ?_|refine zB 1 Z ?_|refine zB 2 Z ?_|refine zB 3 Z ?_|refine zB 4 Z ?_|refine zB 5 Z ?_|refine zB 6 Z ?_)) ?_
  exact xX 0 Tryz.results43 Z Z Z cP ⟨rfl,_,v15,_,rfl,⟨_,_,_,_,rfl,rfl⟩,fun e=>⟨hsv0,hR15.1,(hR15.2 (by cases a15<;>simp_all)).2,yT.1 e⟩⟩ nS aA
 refine yF (tS 7 Z Z Z Z ?_)
 refine tS 8 Z Z Z Z (zR ?_)
 refine tP 9 Z cK (rW Z Z) (zL 10 aD ?_)
 refine zO (I2:=[[9],[],[],[],[],[]]) Z cK aD (fun Kd hKd=>?_)
 refine zF 2 (M':=[_,_,HA.blk _ [_,_,_,_,_] _,_]) Z Z Z Z cY Z Z Z (hKd _ _ _ (hC (zD (zD (zD (zD (zD (zP))))))) ?_)
 refine tP 11 Z cK (xC Z) (yG aD ?_)
 refine rK 0 [3,2] Z Z ?_
 refine yQ (M':=[HA.blk b2 [_,_,_,_,_] 25]) (by repeat (first|exact zQ _|refine zB 0 Z ?_|refine zB 1 Z ?_|refine zB 2 Z ?_|refine zB 3 Z ?_|refine zB 4 Z ?_|refine zB 5 Z ?_|refine zB 6 Z ?_)) ?_
 exact xX 0 Tryz.results43 Z Z Z cP ⟨rfl,_,v15,_,rfl,⟨_,_,_,_,rfl,rfl⟩,fun e=>Bool.noConfusion e⟩ nS aA
theorem Jk{σ:cv}{G:Gr}{b s:Nat}{f f2:Flds}(hG:GOk G σ)(hf:σ b=some f)(hs:σ s=some f2)(hne:s≠b): ∃cs cs2 R,G.Perm ((b,cs,f)::(s,cs2,f2)::R)∧HE [.many 124 (Gr.blks G)] [.blk b cs 124, .blk s cs2 124, .many 124 (Gr.blks R)]∧
  ∀ cs' f',GOk ((b,cs',f')::(s,cs2,f2)::R) (iE σ b (some f')):=by
 obtain⟨cs,R,hp,hR⟩:=hG.split hf
 obtain⟨cs2,R2,hp2,hR2⟩:=hR.split ((uA hne none).trans hs)
 refine⟨cs,cs2,R2,hp.trans (hp2.cons _),(sJ hp).trans (HE.append (HE.refl [.blk b cs 124]) (sJ hp2)),fun cs' f'=>?_⟩
 have h1:=hR2.join cs2 f2
 rw [gN ((uA hne none).trans hs)]at h1
 exact h1.join cs' f'
theorem OG(mb:Nat)(σ:cv)(b s:Nat)(f f2:Flds)(G:Gr)(hf:σ b=some f)(hs:σ s=some f2)(hne:s≠b)(hG:GOk G σ):
  Ct Tryz.prog 74 #[cW b,cW s] [.many 124 (Gr.blks G)] [.graph mb G] (fun u M' D'=>u= .tuple #[]∧ ∃G',GOk G' (iE σ b (some (jp f f2)))∧M'=[.many 124 (Gr.blks G')]∧D'=[.graph mb G']):=by
 obtain⟨cs,cs2,R,hp,he,hJ⟩:=Jk hG hf hs hne
 have h0:=(On b s mb mb cs cs2 f f2).frame (N:=[.many 124 (Gr.blks R)])
 have h1:=Ct.draw (D:=[.graph mb G]) (fun w ok h d hd=>by
  have hg:(DA.graph mb G).p w ok:=h _ List.mem_cons_self
  rcases List.mem_cons.1 hd with rfl|hd
  ·exact hg _ (hp.mem_iff.2 List.mem_cons_self)
  ·rcases List.mem_singleton.1 hd with rfl
   exact hg _ (hp.mem_iff.2 (List.mem_cons_of_mem _ List.mem_cons_self))) (h0.he he)
 refine Ct.turn h1 (fun _ u M' D' _ hR=>?_)
 obtain⟨M1,rfl,rfl,cs',rfl,rfl⟩:=hR
 refine⟨[.many 124 (Gr.blks ((b,cs',jp f f2)::(s,cs2,f2)::R))],[.graph mb ((b,cs',jp f f2)::(s,cs2,f2)::R)],?_,fun w ok h h' d hd=>?_,rfl,_,hJ cs' _,rfl,rfl⟩
 ·exact((sJ (List.Perm.refl _)).trans (HE.append (HE.refl [.blk b cs' 124]) (sJ (List.Perm.refl _)))).symm
 ·rcases List.mem_singleton.1 hd with rfl
  exact lZ hp (h' _ List.mem_cons_self) (h _ List.mem_cons_self)
theorem G7{σ:cv}{b:Nat}{bs:List Nat}{f:Flds}(h: ∀ c∈bs,c≠b∧ ∃s,σ c=some s){i c:Nat}(hc:bs[i]? =some c): ∃s,c≠b∧(∀ o,iE σ b o c=some s)∧(bs.take (i+1)).foldl (gq σ) f=jp ((bs.take i).foldl (gq σ) f) s:=by
 obtain⟨h1,s,hs⟩:=h c (List.mem_of_getElem? hc)
 refine⟨s,h1,fun o=>(uA h1 o).trans hs,?_⟩
 rw [List.take_add_one,hc,List.foldl_append]
 show gq σ _ c=_
 unfold gq
 rw [hs]

theorem OH(mb:Nat)(σ:cv)(b:Nat)(f:Flds)(ctx:ByteArray)(G:Gr)(hf:σ b=some f)(hft:FT f)(hG:GOk G σ)(hbs: ∀ bs,f 28=some (.list bs)→ ∀ c∈bs,c≠b∧ ∃s,σ c=some s):
  Ct Tryz.prog 124 #[cW b, .string ctx] [.many 124 (Gr.blks G)] [.graph mb G] (fun u M' D'=>u= .tuple #[]∧ ∃G',GOk G' (iE σ b (some (wn σ f)))∧M'=[.many 124 (Gr.blks G')]∧D'=[.graph mb G']):=by
 refine Ct.of_run (args:=[cW b, .string ctx]) Tryz.func124 aF Z Tryz.ntmps124 Z (fun c=>?_)
 obtain⟨cs,hm⟩:=(hG.2 b f).2 hf
 refine xU 0 28 Z hm aE aE (fun p hc hp=>?_)
 refine rO 7 Z (zC rY Z Z ?_)
 refine zA (yY 0 dm Z Z Z (xE hm) (by rw [Nat.zero_add];exact hc) ?_)
 refine zA (yI fU Z Z ?_)
 refine zX (zW Z (fun h10=>?_) (fun h10=>?_))
 ·obtain⟨fv,hfv⟩: ∃fv,f 28=some fv:=Option.isSome_iff_exists.1 (hp.symm.trans h10)
  obtain⟨bs,rfl⟩:=qP (hft 28 fv aE aE hfv)
  refine vQ 0 28 Z hm aE aE hc hfv (iX 0 Z (fun pl sl hu=>?_))
  cases hu
  refine vU 1 Z (fun A1 c1 hx hk1 hk2=>?_)
  subst hx
  unfold maxLen at hk2
  refine rO 8 Z (zC rY Z Z ?_)
  refine zA (yY 0 dm Z Z Z (xE hm) (by rw [Nat.zero_add];exact hc) ?_)
  refine oO 3 Z (yW 0 kK Z Z Z ?_)
  refine zA (yA eH Z Z ?_)
  refine oK 3 [18,17,16,0] Z Z (rK 1 [18,17,16,0] Z Z ?_)
  refine tH (D':= .graph mb G:: .rowp (.slice A1 bs.length c1) bs::[]) (by intro d hd;simp only [List.mem_cons,List.not_mem_nil,or_false]at hd⊢;rcases hd with rfl|rfl<;>simp) ?_
  refine yL 1 (fun(⟨i,G2⟩:Nat×Gr)=>i≤bs.length∧GOk G2 (iE σ b (some ((bs.take i).foldl (gq σ) f)))) (fun(⟨i,G2⟩:Nat×Gr)=>[(18, .int .i64 ((i:Nat):Int))]) (fun(⟨i,G2⟩:Nat×Gr)=> .many 124 (Gr.blks G2)::[]) (fun(⟨i,G2⟩:Nat×Gr)=> .graph mb G2:: .rowp (.slice A1 bs.length c1) bs::[]) (fun(⟨i,G2⟩:Nat×Gr)=>bs.length - i) (0,G) (⟨Nat.zero_le _,(by show GOk G (iE σ b (some f));rw [gN hf];exact hG)⟩) (eC Z (eN _)) Z Z ?_ (eC Z (eC Z (eC Z (eN _))))
  intro ⟨i,G2⟩ hI K hK
  change Run _ _ _ _ _ [(18,_),(17,_),(16,_),(0,_)] [_] [_,_]
  obtain⟨hi,hG2⟩:=hI
  refine rO 3 Z (yJ Z Z Z ?_)
  refine oR 2 Z (zN Z (fun h19=>?_) (fun h19=>?_))
  ·refine rO 6 Z ?_
   have hlt:i<bs.length:=h19
   obtain⟨s,hne,hs,hfold⟩:=G7 (f:=f) (hbs bs hfv) (List.getElem?_eq_getElem hlt)
   refine wT 1 eH Z Z Z Z hlt (zA ?_)
   refine yH dx Z Z (fun _ h=>vJ h (j:=1) Z (List.getElem?_eq_getElem hlt)) ?_
   refine oO 9 Z (vT (M1:=[_]) Z Z Z (OG mb _ b _ _ s G2 (vS _ _ _) (hs _) hne hG2) Z (cS 0 Z) (fun u24 M24 D24 hv24=>?_))
   obtain⟨rfl,G24,hG24,rfl,rfl⟩:=hv24
   rw [AT]at hG24
   refine oO 4 Z (yB Z Z aC ?_)
   refine oR 3 Z ?_
   exact kQ (hK (i+1,G24) (⟨bc,(by rw [hfold];exact hG24)⟩) ax) (eC Z (eC Z (eC Z (eC Z (eN _))))) (hD:=(cl 0 Z sQ))
  obtain rfl:i=bs.length:=by omega
  rw [List.take_length]at hG2
  obtain⟨cs9,R,hp9,hR⟩:=hG2.split (vS _ _ _)
  refine lW (sJ hp9) (vY (p:=cs9.length=37) (fun w ok h=>((dget h 0 Z:(DA.graph mb G2).p w ok) _ (hp9.mem_iff.2 List.mem_cons_self)).1) (fun hcl=>?_))
  refine rO 7 Z (zC rY Z Z ?_)
  refine zA (rN 0 Z Z Z Z Z jx aC ?_)
  refine zX (lW (sJ (G:=(b,cs9.set 28 (.pointer none),(bs.foldl (gq σ) f).put 28 none)::R) (List.Perm.refl _)).symm ?_)
  refine uR (D':=[.graph mb ((b,cs9.set 28 (.pointer none),(bs.foldl (gq σ) f).put 28 none)::R)]) (fun w ok h x hx=>?_) ?_
  ·rw [List.mem_singleton.1 hx]
   have hg:(DA.graph mb G2).p w ok:=dget h 0 rfl
   exact lZ hp9 hg (ey (hg _ (hp9.mem_iff.2 List.mem_cons_self)) aE Z (fun fv h=>by cases h))
  have hJ:=hR.join (cs9.set 28 (.pointer none)) ((bs.foldl (gq σ) f).put 28 none)
  rw [AT]at hJ
  exact vI Tryz.results124 ⟨rfl,_,by rw [ky hfv];exact hJ,rfl,rfl⟩ (List.Sublist.refl _) (fun d hd=>hd)
 refine xZ ?_
 have hn:f 28=none:=tY hp h10
 exact vI Tryz.results124 ⟨rfl,G,by rw [kx hn,gN hf];exact hG,rfl,rfl⟩ (List.Sublist.refl _) (cS 0 Z)
theorem P1(mb b:Nat)(G:Gr)(v:V)(hv:d5 v)(hU:Unf G v b):
  Ct Tryz.prog 83 #[cW b] [.many 124 (Gr.blks G)] [.graph mb G] (fun u M' D'=>u= .tuple #[]∧ ∃G',Unf G' (mergedV v) b∧M'=[.many 124 (Gr.blks G')]∧D'=[.graph mb G']):=by
 refine Ct.of_run (args:=[cW b]) Tryz.func83 aF Z Tryz.ntmps83 Z (fun c=>?_)
 refine EO (fun hnd=>?_)
 obtain⟨σ,hσ⟩:=GOk.ex (ie hnd)
 obtain⟨mu,hmu⟩:=AX sch_good σ
 have hok:=Jd (P:=Tryz.prog) (fo:=124) (mb:=mb) (σ0:=σ) (mu:=mu) (fun σ b f ctx G hf hft hG hbs=>OH mb σ b f ctx G hf hft hG hbs)
 refine rO 4 Z (ku Z Z Z (JT (Lw mb σ mu) 124 #[] hok b ((),σ) G _ ⟨v,hv,(gP hσ v b).1 hU⟩ (fun d hd=>⟨hmu d hd, .inl Z⟩) hσ) (fun d hd=>hd) (fun u3 M3 D3 hv3=>?_))
 obtain⟨rfl,y3,G3,_,hG3,rfl,rfl,_,hdn,_⟩:=hv3
 have hU3:=(gP hG3 _ b).2 ((hdn b (.refl b)).2 v hv ((gP hσ v b).1 hU))
 exact zX (vI Tryz.results83 ⟨rfl,G3,hU3,rfl,rfl⟩ (List.Sublist.refl _) (cS 0 Z))
section rules
variable {P:Program} {n:Nat} {F:List Nat} {c:Ctx F} {ops:Array Oper} {d:Nat} {T:TypeId} {l:List Oper} {k:List KI} {Q:Post} {e:dI} {M:List HA} {D:List DA}
theorem oW{x y p:Operand}{v u r:Value}{S E by_:Nat}(hS:cd P S E 1 by_)(hd:Nat.blt d n=true)(hx:ev e x=some v)(hy:ev e y=some u)(hp:ev e p=some r)(hv:v.cells= #[v])(hu:u.cells= #[u])(hr:r.cells= #[r])
    (next: ∀ b,cL P n c ops l k Q ((d, .slice (some ⟨b,0,none⟩) 3 3)::e) (.blk b [v,u,r] E::M) D):cR P n c ops (some d) (.buildSlice S 3 #[(0,x),(1,y),(2,p)]) T l k Q e M D:=by
  obtain⟨ti,z,hu',hinf,hs1,hb1,hz,hzs,hsz0⟩:=hS
  intro a w hf
  have hfill: ∀ zs:Array Value,zs.size=3→Instr.fill (fun i=>some (i*1,1)) zs [(0,v),(1,u),(2,r)]=some #[v,u,r]:=by
    intro zs hz
    obtain⟨zl⟩:=zs
    match zl,hz with
    |[p,q,p'],_=>simp [Instr.fill,hv,hu,hr]
  have hrun:(execOp a.eval (dM (some d) (.buildSlice S 3 #[(0,x),(1,y),(2,p)]) T)).run P w= .ok (.value (.slice (some ⟨w.heap.size,0,none⟩) 3 3)) (w.alloc (.cells #[v,u,r] E (0,0))):=by
    have hb:(Instr.buildSlice S 3 #[(0,a.eval x),(1,a.eval y),(2,a.eval p)]).run P w= .ok (.slice (some ⟨w.heap.size,0,none⟩) 3 3) (w.alloc (.cells #[v,u,r] E (0,0))):=by
      unfold Instr.buildSlice
      simp only [Sem.run_bind,run_underlying hu',Result.andThen_ok,wB hinf,hs1]
      rw [if_neg aE,if_neg aE]
      have hfl:=hfill ((Array.range (3*1)).map (z.cells[· %z.cells.size]!)) aJ
      simp only [Sem.run_bind,run_zeroValue' hinf hz,Result.andThen_ok,hf.ev hx,hf.ev hy,hf.ev hp,Sem.run_pure]
      rw [hfl]
      simp [newRow,newObj,Sem.run]
    simp only [execOp,dM,List.map_toArray,List.map_cons,List.map_nil,Sem.run_bind,hb,Result.andThen_ok,Sem.run_pure]
  unfold Oper.wp
  rw [hrun]
  have hx2:(HA.blk w.heap.size [v,u,r] E).holds (w.alloc (.cells #[v,u,r] E (0,0))):=by
    show(w.heap.push _)[w.heap.size]? =_
    simp
  exact next w.heap.size _ _ ((hf.world (hf.toFitsW.new _ hx2 Z)).put hd _)
end rules
theorem OI(fb:Addr)(sb N:Nat)(v z1 z2 z3:V)(x:Value)(hp:Pl v)(hs:IsShape v)(hroot:IsRootV v)(hnr: ¬ cu (cO v))(hN:N≤2000)(ht:dY (cO v) N false (cO v))(hnd:dQ (cO v)≤2000)(e1:z1=dy (cO v) N false (cO v))(h1:d5 z1)
  (e2:z2=mergedV z1) (h2:d5 z2) (h2d:cn ff z2) (e3:z3=cV (cO z2)) (h3:d5 z3):CtR Tryz.prog 45 #[x, .slice (some ⟨sb,0,none⟩) 3 3] [.val x v, .dblk sb [.int .i64 1, .int .i64 2, .int .i64 3] 2, .tab,yd fb] (Om (wr z3)):=by
 refine Ct.of_run (args:=[x, .slice (some ⟨sb,0,none⟩) 3 3]) Tryz.func45 aF Z Tryz.ntmps45 Z (fun c=>?_)
 refine yP 0 Z (fun A1 c1 A2 c2 hx hsz1 hk1 hk2 hi1 hi2=>?_)
 subst hx
 refine rO 3 Z (yK Z Z Z (fun b2=>?_))
 refine zA (zS KR Z (fun b4=>?_))
 change cL _ _ _ _ _ _ _ _ (HA.blk _ [_,_,_,_,_,_] _::_) _
 refine oO 4 Z (zJ 1 Z cP Z Z ?_)
 refine zA ?_
 refine vT (M1:=[]) Z Z Z (NL (yd fb) false v _ (.inl (Nz fb)) hp hs) Z aR (fun u9 M9 D9 hv9=>?_)
 obtain⟨b9,G9,mb9,es9,ck9,rfl,rfl,rfl,hU9,hO9,hN9⟩:=hv9
 have hOw:=hN9.2
 obtain⟨idv,hid,_⟩:=Ae hroot
 have hie:iD (cO v)=idv.text:=by rw [vt hs hp];unfold iD;rw [hid];rfl
 obtain rfl:=hN9.1 idv hid (Bx hroot)
 rw [←hie]
 refine oO 9 Z (sP iC Z Z ?_)
 refine oO 9 Z (yA Ci Z Z ?_)
 refine oK 4 [15,14,13,5,4] Z Z ?_
 refine yL 1 (fun(⟨i,G⟩:Nat×Gr)=>i≤3∧(i=0→Unf G v b9∧Own G [b9])∧(i=1→Unf G z1 b9)∧(i=2→Unf G z2 b9)∧(i=3→Unf G z3 b9)) (fun(⟨i,G⟩:Nat×Gr)=>[(15, .int .i64 ((i:Nat):Int))]) (fun(⟨i,G⟩:Nat×Gr)=> .many 124 (Gr.blks G)::HA.obj mb9 (.map #[{key:= .string (iD (cO v)),val:=cW b9,born:=0}] ck9)::HA.blk b4 [.int .i64 0, .int .i64 0, .int .i64 0, .string ⟨#[]⟩, .slice none 0 0, .slice none 0 0] 34::HA.blk b2 [.int .i64 v.kind, .int .i64 v.num, .string v.text, .slice A1 v.keys.length c1, .slice A2 v.items.length c2] 25::[]) (fun(⟨i,G⟩:Nat×Gr)=> .graph mb9 G:: .strs (.slice A1 v.keys.length c1) v.keys:: .vals (.slice A2 v.items.length c2) v.items:: .val (.agg #[.int .i64 v.kind, .int .i64 v.num, .string v.text, .slice A1 v.keys.length c1, .slice A2 v.items.length c2]) v:: .dblk sb [.int .i64 1, .int .i64 2, .int .i64 3] 2:: .tab::yd fb::[]) (fun(⟨i,G⟩:Nat×Gr)=>3 - i) (0,G9) (⟨Nat.zero_le _,fun _=>⟨hU9,hOw⟩,(fun e=>by cases e),(fun e=>by cases e),fun e=>by cases e⟩) (eC Z (eN _)) Z Z ?_ (eC Z (eC Z (eC Z (eC Z (eN _)))))
 intro ⟨i,G⟩ hI K hK
 change Run _ _ _ _ _ [(15,_),(14,_),(13,_),(5,_),(4,_)] [_,_,_,_] [_,_,_,_,_,_,_]
 obtain⟨hi,hI0,hI1,hI2,hI3⟩:=hI
 refine rO 3 Z (yJ Z Z Z ?_)
 refine oR 2 Z (zN Z (fun h16=>?_) (fun h16=>?_))
 ·rcases(show i=0∨i=1∨i=2 by omega)with rfl|rfl|rfl
  ·refine rO 6 Z (wJ Ci Z Z Z aE ?_)
   refine zA (zH 4 fM Z Z Z Z ?_)
   refine oO 21 Z (vT (M1:=[_,_]) Z Z Z (OF mb9 ck9 b9 N G v hp hs hroot hnr (hI0 Z).1 (hI0 Z).2 hN ht hnd) Z (cS 0 Z) (fun u23 M23 D23 hv23=>?_))
   obtain⟨rfl,G23,hU23,rfl,rfl⟩:=hv23
   rw [←e1]at hU23
   refine oK 1 [15,14,13,5,4] Z Z (rO 4 Z ?_)
   refine yB Z Z aC (oR 3 Z ?_)
   exact kQ (hK (0+1,G23) (⟨aC,(fun e=>absurd e aE),fun _=>hU23,(fun e=>absurd e aE),(fun e=>absurd e aE)⟩) bH) (eC Z (eC Z (eC Z (eC Z (eC Z (eN _)))))) (hD:=(cl 0 Z sQ))
  ·refine rO 6 Z (wJ Ci Z Z Z aE ?_)
   refine zA (zH 4 fM Z Z Z Z ?_)
   refine oO 29 Z (vT (M1:=[_]) Z Z Z (P1 mb9 b9 G z1 h1 (hI1 Z)) Z (cS 0 Z) (fun u27 M27 D27 hv27=>?_))
   obtain⟨rfl,G27,hU27,rfl,rfl⟩:=hv27
   rw [←e2]at hU27
   refine oK 1 [15,14,13,5,4] Z Z (rO 4 Z ?_)
   refine yB Z Z aC (oR 3 Z ?_)
   exact kQ (hK (1+1,G27) (⟨aC,(fun e=>absurd e aE),(fun e=>absurd e aE),fun _=>hU27,(fun e=>absurd e aE)⟩) bH) (eC Z (eC Z (eC Z (eC Z (eC Z (eN _)))))) (hD:=(cl 0 Z sQ))
  refine rO 6 Z (wJ Ci Z Z Z aE ?_)
  refine zA (zH 4 fM Z Z Z Z ?_)
  refine oK 32 [28,15,14,13,5,4] Z Z (rO 5 Z ?_)
  refine vT (M1:=[_]) Z Z Z (Pw mb9 b9 G z2 h2.1 h2.2 h2d (hI2 Z)) Z (cS 0 Z) (fun u31 M31 D31 hv31=>?_)
  obtain⟨rfl,G31,hU31,rfl,rfl⟩:=hv31
  rw [←e3]at hU31
  refine oO 5 Z (yB Z Z aC ?_)
  refine oR 3 Z ?_
  exact kQ (hK (2+1,G31) (⟨aC,(fun e=>absurd e aE),(fun e=>absurd e aE),(fun e=>absurd e aE),fun _=>hU31⟩) bH) (eC Z (eC Z (eC Z (eC Z (eC Z (eN _)))))) (hD:=(cl 0 Z sQ))
 obtain rfl:i=3:=by omega
 have hU:=hI3 rfl
 refine rS 5 Z (yf 0 0 Z Z Z ?_)
 refine zA ?_
 refine zT Z Z Z (Pq fb mb9 _ z3 b9 hU h3.1 h3.2) aR (fun u34 D34 hv34=>?_)
 obtain⟨A34,m34,B34,d34,rfl,rfl⟩:=hv34
 refine zA (zF 1 (M':=[_,HA.blk _ [_,_,_,_,_,_] _,_]) Z Z Z Z KQ Z Z Z ?_)
 refine zX ?_
 refine yQ (M':=[HA.blk b4 [_,_,_,_,_,_] 34]) (by repeat (first|exact zQ _|refine zB 0 Z ?_|refine zB 1 Z ?_|refine zB 2 Z ?_|refine zB 3 Z ?_|refine zB 4 Z ?_)) ?_
 exact yZ 0 Tryz.results45 Z Z KP ⟨rfl,_,_,_,_,rfl,rfl⟩ nS (cS 0 Z)
theorem P2(fb:Addr)(v:V)(x:Value):dd Tryz.prog 11 #[x] [.val x v, .tab,yd fb] (.bool true):=by
 refine Ct.of_run (args:=[x]) Tryz.func11 aF Z Tryz.ntmps11 Z (fun c=>?_)
 refine yP 0 Z (fun A1 c1 A2 c2 hx hsz1 hk1 hk2 hi1 hi2=>?_)
 subst hx
 refine rO 3 Z (yK Z Z Z (fun b1=>?_))
 refine oO 7 Z (zJ 0 Z cP Z Z ?_)
 refine zA (zK Z Z Z (PA _ v) aA ?_)
 refine oR 3 Z (zW Z (fun h7=>?_) (fun h7=>?_))
 ·refine rR 5 Z ?_
  exact zE Tryz.results11 Z ⟨rfl,rfl,rfl⟩ nS (fun _ h=>by cases h)
 refine rO 4 Z (zJ 0 Z cP Z Z ?_)
 refine zA ?_
 refine zT Z Z Z (c42 v _) aA (fun u10 D10 hv10=>?_)
 obtain⟨_,z1,b10,rfl,⟨A10,m10,B10,d10,rfl,rfl⟩,hz⟩:=hv10
 refine oO 7 Z (zS cx Z (fun b3=>?_))
 change cL _ _ _ _ _ _ _ _ (HA.blk _ [_,_,_,_,_] _::_) _
 refine zA (zF 0 (M':=[HA.blk _ [_,_,_,_,_] _,_]) Z Z Z Z cY Z Z Z ?_)
 refine oK 3 [4,3,1] Z Z (rR 8 Z ?_)
 refine zW Z (fun h14=>?_) (fun h14=>?_)
 ·refine rR 5 Z ?_
  exact zE Tryz.results11 Z ⟨rfl,rfl,rfl⟩ nS (fun _ h=>by cases h)
 obtain⟨hok,hroot,hnr,hnd,hdat,n10,hn10,ht10,e1⟩:=hz (by simpa using h14)
 have hp:Pl v:=⟨12,hok.1.1⟩
 have hw:d5 (cO v):=⟨qU hok.2 hp,qO v hok.2 hp⟩
 obtain⟨h1,hn1⟩:=Gu hw (vn hp hok.2) ht10 e1 ⟨12,hdat.1⟩
 have hk1:cn ii z1:=by rw [←hn1];exact vn h1.1 h1.2
 refine rO 5 Z (zJ 0 Z cP Z Z ?_)
 refine zA ?_
 refine zT Z Z Z (P0 z1 _) aA (fun u17 D17 hv17=>?_)
 obtain⟨_,z2,b17,rfl,⟨A17,m17,B17,d17,rfl,rfl⟩,hz2⟩:=hv17
 refine oO 7 Z (zF 0 (M':=[HA.blk _ [_,_,_,_,_] _,_]) Z Z Z Z cY Z Z Z ?_)
 refine oK 10 [21,3,1] Z Z (zW Z (fun h21=>?_) (fun h21=>?_))
 ·refine rR 5 Z ?_
  exact zE Tryz.results11 Z ⟨rfl,rfl,rfl⟩ nS (fun _ h=>by cases h)
 obtain⟨_,e2,hmok,hdat2⟩:=hz2 (by simpa using h21)
 rw [hn1]at e2 hmok
 have h2:d5 z2:=⟨⟨12,hdat2.1⟩,by rw [e2];exact so _ h1 hmok⟩
 have hn2:cO z2=z2:=gk _ h2.1 h2.2 (by rw [e2];exact l8 _ h1 hk1)
 refine rO 5 Z (zJ 0 Z cP Z Z ?_)
 refine zA ?_
 refine zT Z Z Z (c44 z2 _) aA (fun u24 D24 hv24=>?_)
 obtain⟨_,z3,rfl,⟨A24,m24,B24,d24,rfl,rfl⟩,hz3⟩:=hv24
 refine oO 7 Z (zF 0 (M':=[HA.blk _ [_,_,_,_,_] _,_]) Z Z Z Z cY Z Z Z ?_)
 refine oR 10 Z (zW Z (fun h28=>?_) (fun h28=>?_))
 ·refine rK 5 [2] Z Z ?_
  exact zE Tryz.results11 Z ⟨rfl,rfl,rfl⟩ nS (fun _ h=>by cases h)
 have hok3:=yT.1 (by simpa using h28)
 obtain e3:=hz3 hok3
 obtain⟨hsc,hpc,hn3⟩:=By h2.1 h2.2
 rw [←e3]at hsc hpc hn3
 have hpw:=Hs hsc hpc
 refine rR 2 Z (yO yE ?_)
 refine tM 0 Z cK (vG 1 Z cP Z) (tM 3 Z cK (vG 0 Z cP Z) ?_)
 refine zL 1 aD ?_
 refine zO (I2:=[[3,0]]) Z cK aD (fun Kd hKd=>?_)
 refine oW Ci Z Z Z Z Z Z Z (fun b30=>?_)
 refine jH 0 Z Z (hKd _ _ _ (hC (zP)) ?_)
 refine zL 2 aD ?_
 refine zO (I2:=[[3]]) Z cK aD (fun Kd hKd=>?_)
 refine zT Z Z Z (OI fb b30 n10 v z1 z2 z3 _ hp hok.2 hroot hnr hn10 ht10 hnd e1 h1 e2 h2 hok3.2 e3 ⟨hpc,hsc⟩) (by intro d hd;simp only [List.mem_cons,List.not_mem_nil,or_false]at hd⊢;rcases hd with rfl|rfl|rfl|rfl<;>simp) (fun u31 D31 hv31=>?_)
 obtain⟨A31,m31,B31,d31,rfl,rfl⟩:=hv31
 refine hKd _ _ _ (hC (zP)) (zL 4 aD ?_)
 refine zO (I2:=[[]]) Z cK aD (fun Kd hKd=>?_)
 refine zK Z Z Z (c27 (wr z3) z3 hpw.wf hpc.wf _ _ _ _ _) aB (hKd _ _ _ (zD (zP)) ?_)
 refine zR (tP 5 Z cK (xC Z) ?_)
 refine yG aD (rK 0 [2] Z Z ?_)
 exact zE Tryz.results11 Z ⟨congrArg Value.bool (tb_t ((GE _).trans (congrArg eI hn3))),rfl,rfl⟩ nS (fun _ h=>by cases h)
end Go.Jw

namespace Go.Jw
open Go Go.RowKit Go.Proofs Go.ChangeShapes Go.WideShapes Go.Proofs.YtlcfillobkdnmaaGreatDoor
set_option maxRecDepth 8000
theorem jl{w:World}{a:Addr}{v:Value}(h:w.cell? a=some v):a.block<w.heap.size:=by
 rcases Nat.lt_or_ge a.block w.heap.size with hlt|hge
 ·exact hlt
 ·unfold World.cell? at h
  rw [Array.getElem?_eq_none hge]at h
  simp at h
theorem Ov:Tryz.prog.cellsOf 9=1:=by kernel_rfl
theorem MK:Tryz.prog.cellsOf 25=5:=by kernel_rfl
theorem Ow:Tryz.prog.cellsOf 2=1:=by kernel_rfl
theorem OJ:Tryz.prog.cellsOf 22=1:=by kernel_rfl
theorem OK:Tryz.prog.cellsOf 23=1:=by kernel_rfl
section
variable {H:Type} {enc:TypeId×Value→H} {W:World} {held:Bool}
theorem sw{n:Nat}{kv:Value}{x:DataW H×List MemPlace}(h:DataW.trod enc Tryz.prog W 0 (fun _=>true) held n 22 [kv]=some x): ∃ks,StrsP W (· <W.heap.size) kv ks:=by
 rcases open_strings Tryz.underlying22 Tryz.underlying9 Ov h with ⟨h1,_⟩|⟨a,len,cap,ss,h1,_,hl,hc,hs,_,hg,hsz⟩
 ·injection h1 with h1
  exact⟨[],none,0,h1,Nat.le_refl _,Nat.zero_le _,(fun s hs=>by cases hs),fun i s hi=>by simp at hi⟩
 ·injection h1 with h1
  simp only [if_true]at hs
  have hlen:(ss.take len).length=len:=by rw [List.length_take];omega
  refine⟨ss.take len,some a,cap,by rw [hlen];exact h1,aC,hc,fun s hm=>hsz s (List.mem_of_mem_take hm),fun i s hi=>?_⟩
  have hil:i<len:=by
   have:=(List.getElem?_eq_some_iff.1 hi).1
   omega
  have hi':ss[i]? =some s:=by rw [←hi,List.getElem?_take];simp [hil]
  have hcell:=hg i aC
  have hd:ss.getD i ByteArray.empty=s:=by rw [List.getD_eq_getElem?_getD,hi'];rfl
  rw [hd]at hcell
  exact⟨a,rfl,by have:=jl hcell;rwa [sN]at this,by rw [Nat.mul_one];exact hcell⟩
theorem wj: ∀ (l:List V) (l':List (DataW H)),l.length=l'.length→(∀ (i:Nat) t d,l[i]? =some t→l'[i]? =some d→2*ng t≤Rows.uptoBulk d)→2*(l.map ng).sum≤Rows.uptoBulkAll l'
  |[],_,_,_=>Nat.zero_le _
  |t::l,[],h,_=>by simp at h
  |t::l,d::l',h,hi=>by
    have h1:=hi 0 t d rfl rfl
    have h2:=wj l l' cF (fun i t d a b=>hi (i+1) t d (by simpa using a) (by simpa using b))
    simp only [List.map_cons,List.sum_cons,Rows.uptoBulkAll]
    omega
theorem wk(n:Nat): ∀ (cs:List Value) (x:DataW H×List MemPlace),DataW.trod enc Tryz.prog W 0 (fun _=>true) held n 25 cs=some x→ ∃t,ValP W (· <W.heap.size) t (.agg cs.toArray)∧2*ng t≤Rows.uptoBulk x.1:=by
  induction n using Nat.strongRecOn with
  |_ n IH=>
    intro cs x h
    obtain⟨xs,m,hm,rfl,hl,hlen,hf⟩:=DataW.trod_struct Tryz.underlying25 h
    rw [MK]at hl
    match cs,hl with
    |[c0,c1,c2,c3,c4],_=>
    match xs,hlen with
    |[y0,y1,y2,y3,y4],_=>
    have h0:DataW.trod enc Tryz.prog W 0 (fun _=>true) held m 2 [c0]=some y0:=by simpa [Ow]using hf 0 _ rfl
    have h1:DataW.trod enc Tryz.prog W 0 (fun _=>true) held m 2 [c1]=some y1:=by simpa [Ow]using hf 1 _ rfl
    have h2:DataW.trod enc Tryz.prog W 0 (fun _=>true) held m 9 [c2]=some y2:=by simpa [Ov]using hf 2 _ rfl
    have h3:DataW.trod enc Tryz.prog W 0 (fun _=>true) held m 22 [c3]=some y3:=by simpa [OJ]using hf 3 _ rfl
    have h4:DataW.trod enc Tryz.prog W 0 (fun _=>true) held m 23 [c4]=some y4:=by simpa [OK]using hf 4 _ rfl
    obtain⟨k,e0,g0⟩:=DataW.trod_int Tryz.underlying2 h0
    obtain⟨q,e1,_⟩:=DataW.trod_int Tryz.underlying2 h1
    obtain⟨s,e2,_,hs⟩:=DataW.trod_string Tryz.underlying9 h2
    obtain⟨ks,hks⟩:=sw h3
    injection e0 with e0;injection e1 with e1;injection e2 with e2
    subst e0;subst e1;subst e2
    have hy0:Rows.uptoBulk y0.1=1:=by rw [g0.1];simp [Rows.uptoBulk]
    have hbulk:Rows.uptoBulk y4.1+2≤Rows.uptoBulk (DataW.agg [y0.1,y1.1,y2.1,y3.1,y4.1]):=by
      simp only [Rows.uptoBulk,Rows.uptoBulkAll]
      omega
    show∃t,_∧2*ng t≤Rows.uptoBulk (DataW.agg [y0.1,y1.1,y2.1,y3.1,y4.1])
    rcases DataW.trod_slice Tryz.underlying23 h4 with ⟨h5,_⟩|⟨a,len,cap,elems,rest,m',hm',h5,h6,hb,hle,hc,hln,hel,hsp,_⟩
    · injection h5 with h5
      refine⟨.mk k q s ks [],?_,?_⟩
      · simp only [ValP]
        exact⟨_,_,rfl,hs,hks,none,0,h5,Nat.le_refl _,Nat.zero_le _,by simp [ItemsP]⟩
      · rw [um];simp only [NW,List.map_nil,List.sum_nil];omega
    · injection h5 with h5
      have hall: ∀ i,∃t,i<len→ ∃csi,∃y,elems[i]? =some y∧W.cells? 0 (a.add (i*5)) 5=some csi∧ValP W (· <W.heap.size) t (.agg csi.toArray)∧2*ng t≤Rows.uptoBulk y.1:=by
        intro i
        by_cases hi:i<len
        · have he:=hel i hi
          rw [MK,List.getElem?_eq_getElem aC]at he
          obtain⟨csi,hcs,htr⟩:=Option.bind_eq_some_iff.1 he
          obtain⟨t,ht,hnt⟩:=IH m' aC csi _ htr
          exact⟨t,fun _=>⟨csi,_,List.getElem?_eq_getElem aC,hcs,ht,hnt⟩⟩
        · exact⟨Dq,fun h=>absurd h hi⟩
      obtain⟨f,hfa⟩:=Classical.axiomOfChoice hall
      have hget: ∀ j t,((List.range len).map f)[j]? =some t→j<len∧t=f j:=by
        intro j t hj
        rw [List.getElem?_map]at hj
        obtain⟨z,hz,rfl⟩:=Option.map_eq_some_iff.1 hj
        obtain⟨h1,h2⟩:=List.getElem?_eq_some_iff.1 hz
        rw [List.getElem_range]at h2
        rw [List.length_range]at h1
        exact⟨h1,by rw [h2]⟩
      refine⟨.mk k q s ks ((List.range len).map f),?_,?_⟩
      · simp only [ValP]
        refine⟨_,_,rfl,hs,hks,some a,cap,by rw [List.length_map,List.length_range];exact h5,by rw [List.length_map,List.length_range];exact hle,hc,ItemsP.of_get fun j t hj=>?_⟩
        obtain⟨hjl,rfl⟩:=hget j t hj
        obtain⟨csi,y,_,hcs,hv,_⟩:=hfa j hjl
        obtain⟨_,hcl,hcc⟩:=World.cells?_some hcs
        have hadd: ∀ q,(a.add (j*5)).add q=a.add ((0+j)*5+q):=fun q=>by rw [Nat.zero_add];exact add_add' a _ _
        refine⟨a, .agg csi.toArray,rfl,?_,fun q u hq=>?_,hv⟩
        · have:=hcc 0 aC
          rw [List.getElem?_eq_getElem aC]at this
          have:=jl this
          rwa [sN,sN]at this
        · have hq':csi[q]? =some u:=by simpa [Value.cells]using hq
          have hql:=(List.getElem?_eq_some_iff.1 hq').1
          rw [←hadd,hcc q aC]
          exact hq'
      · have hsum:=wj ((List.range len).map f) (elems.map (·.1)) cI (fun i t d ht hd=>by
          obtain⟨hil,rfl⟩:=hget i t ht
          obtain⟨csi,y,hy,_,_,hn⟩:=hfa i hil
          rw [List.getElem?_map,hy]at hd
          injection hd with hd
          rw [←hd];exact hn)
        rw [um]
        simp only [NW]
        have:Rows.uptoBulkAll (elems.map (·.1))≤Rows.uptoBulk y4.1:=by
          rw [h6]
          simp only [Rows.uptoBulk]
          omega
        omega
end
theorem gy{P:Program}{w:World}{n:String}{d:DataW Unit}: ∀ {l:List (String×DataW Unit)} {ps:List MemPlace},DataW.LaidVars P w l ps→(n,d)∈l→
    ∃g t cs fuel p,P.globalNamed n=some g∧(P.globals[g]?).map (·.type)=some t∧w.var? P n=some cs∧DataW.trod (fun _=>()) P w 0 (fun _=>true) false fuel t cs.toList=some (d,p)
  |[],_,_,h=>by cases h
  |(n',d')::l,ps,⟨g,t,cs,fuel,p,q,h1,h2,h3,h4,h5,_⟩,h=>by
    rcases List.mem_cons.1 h with h|h
    · injection h with h h'
      subst h;subst h'
      exact⟨g,t,cs,fuel,p,h1,h2,h3,h4⟩
    · exact gy h5 h
theorem gU:Tryz.prog.globalNamed "internal/strconv.uint64pow10" =some 0:=by kernel_rfl
theorem gUt:(Tryz.prog.globals[0]?).map (·.type)=some 270:=by kernel_rfl
theorem H5:Tryz.prog.cellsOf 235=1:=by kernel_rfl
theorem H6:Tryz.prog.cellsOf 270=20:=by kernel_rfl
theorem FL{W:World}{l:List (String×DataW Unit)}(h:laidMet Tryz.prog l W)(hm:("internal/strconv.uint64pow10",Rows.laid_internal_strconv_uint64pow10)∈l):DA.tab.p W (· <W.heap.size):=by
  obtain⟨ps,hv,_⟩:=h
  obtain⟨g,t,cs,fuel,p,h1,h2,h3,h4⟩:=gy hv hm
  obtain rfl:=Option.some.inj (gU.symm.trans h1)
  obtain rfl:=Option.some.inj (gUt.symm.trans h2)
  have hc:=Lib.cells_of_tab (zs:=Lib.pow10Tab) Tryz.underlying270 Tryz.underlying235 H5 H6 h4
  unfold World.var? at h3
  rw [h1]at h3
  simp only [Option.bind_some]at h3
  cases hh:W.heap[0]? with
  |none=>rw [hh]at h3;cases h3
  |some o=>
    rw [hh]at h3
    cases o with
    |cells c T fz=>
      simp at h3
      subst h3
      refine⟨0,T,fz,gU,(Array.getElem?_eq_some_iff.1 hh).1,?_⟩
      rw [hh,←hc]
    |_=>simp at h3
def DA.any:DA:=⟨fun _ _=>True,fun _ _ _=>trivial⟩
theorem FM{f:FuncId}{args:Array Value}{D:List DA}{v:Value}{W:World}(h:dd Tryz.prog f args D v)(hD: ∀ d∈D,d.p W (· <W.heap.size)):Calls Tryz.prog f args W fun e W'=>e= .returned v∧Below W.heap.size W W':=
 (h.2 W (· <W.heap.size) (fun k hk=>⟨hk,by simp [foots]⟩) aJ (by simp [foots]) hD).mono fun e W' ⟨u,M',D',he,⟨hu,hM,hd⟩,hc,_⟩=>⟨by rw [he,hu],hc.below⟩
theorem G8:laidOutB Tryz.prog=true:=by kernel_rfl
end Go.Jw

namespace Go.Jw
open Go Go.RowKit Go.Proofs Go.ChangeShapes Go.WideShapes Go.Proofs.YtlcfillobkdnmaaGreatDoor
set_option maxRecDepth 20000
section
variable {W:World}
noncomputable abbrev mA(W:World)(fuel:Nat)(t:TypeId)(cs:List Value):=DataW.trod (fun _=>()) Tryz.prog W 0 (fun _=>true) false fuel t cs
theorem oX{l:List (String×DataW Unit)}(h:laidMet Tryz.prog l W){n:String}{d:DataW Unit}(hm:(n,d)∈l){g t:Nat}(hg:Tryz.prog.globalNamed n=some g)(ht:(Tryz.prog.globals[g]?).map (·.type)=some t):
    ∃(c:Array Value) (fuel:Nat) (p:List MemPlace),(∀ (i:Nat) v,c.toList[i]? =some v→W.cell? ⟨g,i,none⟩=some v)∧mA W fuel t c.toList=some (d,p):=by
  obtain⟨ps,hv,_⟩:=h
  obtain⟨g',t',cs,fuel,p,h1,h2,h3,h4⟩:=gy hv hm
  obtain rfl:=Option.some.inj (hg.symm.trans h1)
  obtain rfl:=Option.some.inj (ht.symm.trans h2)
  refine⟨cs,fuel,p,fun i v hi=>?_,h4⟩
  unfold World.var? at h3
  rw [h1]at h3
  simp only [Option.bind_some]at h3
  unfold World.cell?
  cases hh:W.heap[g]? with
  |none=>rw [hh]at h3;cases h3
  |some o=>
    rw [hh]at h3
    cases o with
    |cells c T fz=>
      simp at h3
      subst h3
      simpa using hi
    |_=>simp at h3
theorem HC{fuel:Nat}{t:TypeId}{cs:List Value}{x:DataW Unit×List MemPlace}(ht:Tryz.prog.underlying t=some (.float .f64))(h:mA W fuel t cs=some x): ∃b,cs=[.float .f64 b]∧x=(.lit (.float .f64 b),[]):=by
  cases fuel with
  |zero=>simp [mA,DataW.trod]at h
  |succ n=>
    unfold mA DataW.trod at h
    rw [ht]at h
    split at h<;>simp_all
theorem ML:Tryz.prog.cellsOf 359=2:=by kernel_rfl
theorem MN:Tryz.prog.cellsOf 360=1392:=by kernel_rfl
theorem MO:Tryz.prog.cellsOf 214=1:=by kernel_rfl
theorem Jl{cs:List Value}{o:Nat}{v:Value}(h:(cs.drop o).take 1=[v]):cs[o]? =some v:=by
 have:=congrArg (·[0]?) h
 simpa [List.getElem?_take,List.getElem?_drop]using this
theorem HD{fuel:Nat}{cs:List Value}{x:DataW Unit×List MemPlace}{a b:Int}(h:mA W fuel 359 cs=some x)(hx:x.1= .agg [.lit (.int .u64 a), .lit (.int .u64 b)]):cs[0]? =some (.int .u64 a)∧cs[1]? =some (.int .u64 b):=by
  obtain⟨xs,n,_,rfl,_,hl,hf⟩:=DataW.trod_struct Tryz.underlying359 h
  have h0:=hf 0 _ rfl
  have h1:=hf 1 _ rfl
  have hxs:xs.map (·.1)=[.lit (.int .u64 a), .lit (.int .u64 b)]:=by
    have:=hx
    simpa using this
  match xs,hxs with
  |[y0,y1],hxs=>
    simp only [List.map_cons,List.map_nil,List.cons.injEq,and_true]at hxs
    obtain⟨m0,e0,f0,_⟩:=DataW.trod_int Tryz.underlying235 h0
    obtain⟨m1,e1,f1,_⟩:=DataW.trod_int Tryz.underlying235 h1
    subst f0;subst f1
    simp only [DataW.lit.injEq,Lit.int.injEq,true_and]at hxs
    obtain⟨rfl,rfl⟩:=hxs
    exact⟨Jl (o:=0) e0,Jl (o:=1) e1⟩
theorem FN{fuel:Nat}{cs:List Value}{p:List MemPlace}(h:mA W fuel 360 cs=some (Go.Pinned.pow10Tab,p))(i:Nat)(hi:i<696){a b:Nat}(hr:Go.Pinned.pow10Rows[i]? =some (a,b)):cs[2*i]? =some (.int .u64 a)∧cs[2*i+1]? =some (.int .u64 b):=by
  cases fuel with
  |zero=>simp [mA,DataW.trod]at h
  |succ fuel=>
    simp only [mA,DataW.trod,Tryz.underlying360,ML,MN]at h
    split at h
    · obtain⟨xs,hm,hx⟩:=Option.map_eq_some_iff.1 h
      obtain⟨y,hy,hf⟩:=Lib.mapM_at hm i i (by simp [hi])
      have hxs:xs.map (·.1)=Go.Pinned.pow10Rows.map fun x=> .agg [.lit (.int .u64 x.1), .lit (.int .u64 x.2)]:=by
        have:=congrArg Prod.fst hx
        simpa [Go.Pinned.pow10Tab]using this
      have hy1:y.1= .agg [.lit (.int .u64 (a:Int)), .lit (.int .u64 (b:Int))]:=by
        have:=congrArg (·[i]?) hxs
        simp only [List.getElem?_map,hy,hr,Option.map_some,Option.some.injEq]at this
        exact this
      obtain⟨h0,h1⟩:=HD hf hy1
      rw [List.getElem?_take,if_pos aC,List.getElem?_drop]at h0 h1
      rw [Nat.mul_comm 2 i]
      exact⟨h0,h1⟩
    · cases h
theorem Jm(i:Nat)(h:i<20):Lib.pow10Tab[i]? =some ((10^i:Nat):Int):=(show ∀ i,i<20→Lib.pow10Tab[i]? =some ((10^i:Nat):Int)by decide) i h
theorem g4:Tryz.prog.globalNamed "internal/strconv.optimize" =some 4:=by kernel_rfl
theorem P3:(Tryz.prog.globals[4]?).map (·.type)=some 4:=by kernel_rfl
theorem g5:Tryz.prog.globalNamed "internal/strconv.float64info" =some 5:=by kernel_rfl
theorem P4:(Tryz.prog.globals[5]?).map (·.type)=some 305:=by kernel_rfl
theorem P5:Tryz.prog.globalNamed "internal/strconv.float64pow10" =some 10:=by kernel_rfl
theorem OL:(Tryz.prog.globals[10]?).map (·.type)=some 349:=by kernel_rfl
theorem P6:Tryz.prog.globalNamed "internal/strconv.pow10Tab" =some 11:=by kernel_rfl
theorem OM:(Tryz.prog.globals[11]?).map (·.type)=some 360:=by kernel_rfl
theorem ON:Go.Pinned.pow10Rows[354]? =some (17592186044416000000,0):=by kernel_rfl
theorem OO:Go.Pinned.pow10Rows[355]? =some (10995116277760000000,0):=by kernel_rfl
theorem MP{l:List (String×DataW Unit)}(h:laidMet Tryz.prog l W)(m0:("internal/strconv.uint64pow10",Rows.laid_internal_strconv_uint64pow10)∈l)(m4:("internal/strconv.optimize",Rows.laid_internal_strconv_optimize)∈l)
  (m5:("internal/strconv.float64info",Rows.laid_internal_strconv_float64info)∈l) (m10:("internal/strconv.float64pow10",Rows.laid_internal_strconv_float64pow10)∈l) (m11:("internal/strconv.pow10Tab",Rows.laid_internal_strconv_pow10Tab)∈l):
  ∃fb,(yd fb).p W (· <W.heap.size):=by
 obtain⟨c0,fu0,p0,k0,t0⟩:=oX h m0 gU gUt
 obtain⟨c4,fu4,p4,k4,t4⟩:=oX h m4 g4 P3
 obtain⟨c5,fu5,p5,k5,t5⟩:=oX h m5 g5 P4
 obtain⟨c10,fu10,p10,k10,t10⟩:=oX h m10 P5 OL
 obtain⟨c11,fu11,p11,k11,t11⟩:=oX h m11 P6 OM
 have e0:=Lib.cells_of_tab (zs:=Lib.pow10Tab) Tryz.underlying270 Tryz.underlying235 H5 H6 t0
 obtain⟨b4,e4,f4⟩:=DataW.trod_bool Tryz.underlying4 t4
 have hb4:b4=true:=by
  have:=congrArg Prod.fst f4
  simp only [Rows.laid_internal_strconv_optimize,DataW.lit.injEq,Lit.bool.injEq]at this
  exact this.symm
 obtain⟨xs5,n5,_,f5,_,_,hf5⟩:=DataW.trod_struct Tryz.underlying305 t5
 have h50:=hf5 0 _ rfl
 have hx5:(xs5.map (·.1))[0]? =some (.lit (.int .u64 52)):=by
  have:=congrArg Prod.fst f5
  simp only [Rows.laid_internal_strconv_float64info,DataW.agg.injEq]at this
  rw [←this];rfl
 rw [List.getElem?_map]at hx5
 obtain⟨y5,hy5,hy51⟩:=Option.map_eq_some_iff.1 hx5
 rw [hy5]at h50
 obtain⟨m5v,e5,fy5,_⟩:=DataW.trod_int Tryz.underlying206 h50
 have hm5:m5v=52:=by
  rw [fy5]at hy51
  simp only [DataW.lit.injEq,Lit.int.injEq,true_and]at hy51
  exact hy51
 obtain⟨h708,h709⟩:=FN t11 354 aE ON
 obtain⟨h710,h711⟩:=FN t11 355 aE OO
 rcases DataW.trod_slice Tryz.underlying349 t10 with ⟨_,hx⟩|⟨a,len,cap,elems,rest,n10,_,e10,f10,_,hlc,_,hel,hell,hrest,_⟩
 ·have:=congrArg Prod.fst hx
  simp [Rows.laid_internal_strconv_float64pow10]at this
 have hd:=congrArg Prod.fst f10
 simp only [Rows.laid_internal_strconv_float64pow10,DataW.slice.injEq]at hd
 obtain⟨hd1,hd2⟩:=hd
 have hlen:len=23:=by
  rw [←hel]
  have:=congrArg List.length hd1
  simpa using this.symm
 have hcap:cap=23:=by
  have h1:=(hrest rfl).1
  have h2:rest=[]:=List.map_eq_nil_iff.1 hd2.symm
  rw [h2]at h1
  simp only [List.length_nil]at h1
  omega
 have hfl: ∀ i m,i<23→(elems.map (·.1))[i]? =some (.lit (.float .f64 m))→W.cell? (a.add i)=some (.float .f64 m):=fun i m hi hm=>by
  rw [List.getElem?_map]at hm
  obtain⟨y,hy,hy1⟩:=Option.map_eq_some_iff.1 hm
  have h1:=hell i aC
  rw [hy,MO,Nat.mul_one]at h1
  obtain⟨cs,hcs,ht⟩:=Option.bind_eq_some_iff.1 h1
  obtain⟨q,rfl,fq⟩:=HC Tryz.underlying214 ht
  rw [fq]at hy1
  simp only [DataW.lit.injEq,Lit.float.injEq,true_and]at hy1
  subst hy1
  unfold World.cells? at hcs
  split at hcs
  ·obtain⟨v,hv,hv2⟩:=Lib.mapM_at hcs 0 0 rfl
   simp only [List.getElem?_cons_zero,Option.some.injEq]at hv
   rw [hv]
   simpa [Addr.add]using hv2
  ·cases hcs
 rw [←hd1]at hfl
 refine⟨a,FL h m0,fun q hq=>?_⟩
 suffices hc:W.cell? q.1=some q.2 from⟨jl hc,hc⟩
 simp only [GR,List.cons_append,List.nil_append,List.mem_cons,List.mem_map,List.mem_range]at hq
 rcases hq with rfl|rfl|rfl|rfl|rfl|rfl|rfl|rfl|rfl|rfl|⟨i,hi,rfl⟩
 ·exact k4 0 _ (by rw [e4,hb4];rfl)
 ·exact k5 0 _ (by rw [←hm5];exact Jl (o:=0) e5)
 ·exact k10 0 _ (by rw [e10,hlen,hcap];rfl)
 ·exact hfl 1 _ aE Z
 ·exact hfl 2 _ aE Z
 ·exact hfl 6 _ aE Z
 ·exact k11 708 _ h708
 ·exact k11 709 _ h709
 ·exact k11 710 _ h710
 ·exact k11 711 _ h711
 ·exact k0 i _ (by rw [e0,List.getElem?_map,Jm i hi];rfl)
end
end Go.Jw

namespace Go.Jw
open Go Go.Proofs Go.Proofs.YtlcfillobkdnmaaGreatDoor
set_option maxRecDepth 100000
theorem FO:Tryz.prog.laidByTextLater (Rows.fnTextedRow.laid.take 11) [.data, .data, .widerDeep, .widerDeep, .data, .data, .data, .data, .data, .sentinel, .sentinel] true:=
 Program.laidByTextLater_by_one 91 8 65 aF aF aF aF aF aF (fun _ _=>by kernel_rfl)
theorem HG:Tryz.pinned.checked.prog.pinnedFits "internal/strconv.leftcheats" =true:=by kernel_rfl
theorem HH:Tryz.pinned.checked.prog.pinnedFits "internal/strconv.pow10Tab" =true:=by kernel_rfl
theorem Jn:Tryz.pinned.checked.prog.headLifts.contains "ownunsafe" =false:=by kernel_rfl
theorem HI:Tryz.pinned.checked.prog.listedFits Rows.fnTextedRow.laid=true:=by
 unfold Program.listedFits
 rw [Jn]
 kernel_rfl
theorem Jo(c:OpenClaim)(hl:c.laid=Rows.fnTextedRow.laid)(hs:c.start= .entering):
    c.laidByTextAt .later Tryz.pinned [.data, .data, .widerDeep, .widerDeep, .data, .data, .data, .data, .data, .sentinel, .sentinel, .pinned, .pinned] true:=
  OpenClaim.laidByTextAt_pinned (by rw [hl];rfl) hs FO rfl (by rw [hl];rfl) (by rw [hl];rfl) rfl (fun y hy _e=>by
    rw [hl]at hy
    simp only [Rows.fnTextedRow,List.zip_cons_cons,List.zip_nil_right,List.mem_cons,List.mem_nil_iff,or_false]at hy
    rcases hy with rfl|rfl|rfl|rfl|rfl|rfl|rfl|rfl|rfl|rfl|rfl|rfl|rfl
    iterate 11 exact nomatch _e
    exact⟨HG,by kernel_rfl⟩
    exact⟨HH,by kernel_rfl⟩) (by rw [hl];exact HI)
end Go.Jw

namespace Go.Jw
open Go Go.RowKit Go.Proofs Go.ChangeShapes Go.WideShapes Go.ChangeAt Go.Proofs.YtlcfillobkdnmaaGreatDoor
set_option maxRecDepth 8000
theorem oo{H:Type}{enc:TypeId×Value→H}{P:Program}{f:Func}{s:ChangeSpec}{apart fresh handsOn again:Bool}{W W':World}{args:Array Value}{v:Value}{ds gs:List (DataW H)}{before pa pv:List MemPlace}
  (hW:DataW.Whole enc P f.params.toList s.vars apart W args.toList ds gs before)
  (hres: ∀ (b:Nat) (sp:Nat→Bool) (hd:Bool),DataW.TrodAll enc P W' b sp hd f.resultTypes.toList (v.resultList f.resultTypes.size) (s.fn H (ds++gs)).results [])
  (hargs: ∀ sp:Nat→Bool,(∀ p∈before,sp p.block=true)→DataW.TrodAll enc P W' 0 sp true f.params.toList args.toList (s.fn H (ds++gs)).args pa)
  (hvars: ∀ sp:Nat→Bool,(∀ p∈before,sp p.block=true)→DataW.TrodVars enc P W' sp s.vars (s.fn H (ds++gs)).vars pv)
  (hps:before=pa++pv) (hb:Below W.heap.size W W')
  (hok: ∀ (j:Nat) (t:TypeId) (r:Value),f.resultTypes[j]? =some t→(v.resultList f.resultTypes.size)[j]? =some r→Value.okWide P W' .any 0 t r):
  s.post enc P f apart fresh handsOn again W args v W':=by
 have hlt:=hW.lt
 have hold: ∀ p∈before,(fun b=>decide (b<W.heap.size)) p.block=true:=fun p hp=>by simpa using hlt p hp
 refine⟨ds,gs,before,[],pa,pv,hW,hres _ _ _,hargs _ hold,hvars _ hold,hb.frame _,fun _=>?_⟩
 obtain⟨_,_,_,_,_,hz,hn⟩:=hW
 refine⟨hok,_,_,([]++pa)++pv,⟨[]++pa,pv,trodAll_append (hargs _ (fun _ _=>rfl)) (hres _ _ _),hvars _ (fun _ _=>rfl),rfl,?_,?_⟩,?_⟩
 ·intro b off hp
  have hp':MemPlace.cell b off∈before:=by rw [hps];simpa using hp
  rw [hb.frozen (p:=⟨b,off,none⟩) (hlt _ hp')]
  exact hz b off hp'
 ·intro ha
  have:=hn ha
  rw [hps]at this
  simpa using this
 ·intro p hp _
  rw [hps]
  simpa using hp
theorem own:ownKnob Tryz.prog.godebug=none:=by kernel_rfl
theorem OP:Tryz.prog.readableRec 25=true:=by kernel_rfl
theorem OQ:25<Tryz.prog.types.size:=of_decide_eq_true aF
theorem Jp(W:World):laidMetH Tryz.prog Rows.fnTextedUptoRow.laid W=laidMet Tryz.prog Rows.fnTextedUptoRow.laid W:=by kernel_rfl
end Go.Jw

namespace Go.Jw
open Go Go.RowKit Go.Proofs Go.ChangeShapes Go.WideShapes Go.ChangeAt Go.Proofs.YtlcfillobkdnmaaGreatDoor
set_option maxRecDepth 100000
theorem zc(H:Type)(enc:TypeId×Value→H)(W:World)(base:Nat)(args:Array Value)(ds gs:List (DataW H))(before:List MemPlace)
  (hval: ∀ (j:Nat) t v,Tryz.f11.params[j]? =some t→args[j]? =some v→Value.okWide Tryz.prog W .any base t v)
  (hW:DataW.Whole enc Tryz.prog Tryz.f11.params.toList Rows.fnAllStepsSpec.vars false W args.toList ds gs before) (hL:laidMetH Tryz.prog Rows.fnAllStepsRow.laid W):
  Calls Tryz.prog 11 args W fun e W'=> ∃v,e= .returned v∧Rows.fnAllStepsSpec.post enc Tryz.prog Tryz.f11 false true false false W args v W':=by
 have hW':=hW
 obtain⟨p,q,hA0,hV,rfl,hfz,hnd⟩:=hW
 have hA:DataW.TrodAll enc Tryz.prog W 0 (fun _=>true) true Tryz.f11.params.toList args.toList ds p:=hA0
 rw [Tryz.params11]at hA hval
 obtain⟨v0,d0,rfl,rfl,h0⟩:=trodAll_one hA
 have hvo0:=hval 0 25 v0 rfl rfl
 unfold Value.okWide at hvo0
 rw [Tryz.underlying25]at hvo0
 obtain⟨cs0,rfl,_⟩:=hvo0
 obtain⟨fuel0,hf0⟩:=id h0
 obtain⟨t0,hv0,_⟩:=wk fuel0 _ _ hf0
 have hv0':ValP W (· <W.heap.size) t0 (.agg cs0):=by simpa [Value.cells]using hv0
 obtain⟨rfl,rfl⟩:=trodVars_none hV
 clear hA0
 simp only [List.append_nil]at hW'
 have hL':laidMet Tryz.prog Rows.fnTextedUptoRow.laid W:=by rw [←Jp];exact hL
 have htab:=FL hL' (.tail _ (.tail _ (.tail _ (.tail _ (.tail _ (.tail _ (.tail _ (.tail _ (.head _)))))))))
 obtain⟨fb,hft⟩:=MP hL' (.tail _ (.tail _ (.tail _ (.tail _ (.tail _ (.tail _ (.tail _ (.tail _ (.head _))))))))) (.tail _ (.tail _ (.tail _ (.tail _ (.head _))))) (.tail _ (.tail _ (.tail _ (.head _)))) (.tail _ (.tail _ (.tail _ (.tail _ (.tail _ (.tail _ (.head _)))))))
  (.tail _ (.tail _ (.tail _ (.tail _ (.tail _ (.tail _ (.tail _ (.tail _ (.tail _ (.tail _ (.tail _ (.tail _ (.head _)))))))))))))
 have hc:=FM (W:=W) (P2 fb t0 (.agg cs0)) (by
  intro d hd
  rcases List.mem_cons.1 hd with rfl|hd
  ·exact hv0'
  rcases List.mem_cons.1 hd with rfl|hd
  ·exact htab
  rcases List.mem_cons.1 hd with rfl|hd
  ·exact hft
  ·cases hd)
 refine hc.mono fun e W' ⟨he,hb⟩=>?_
 subst he
 have hlt:=hW'.lt
 exact⟨_,rfl,oo (pa:=p) (pv:=[]) hW' (fun _ _ _=>trodAll_cons_mk (shut_bool Tryz.underlying4 _) trodAll_mk0)
  (fun sp hs=>trodAll_mk1 (Go.WideElems.Trod_stays G8 OP OQ h0 (fun x hx=>hb.same (hlt x (by simp [hx]))) (fun x hx=>hs x (by simp [hx])))) (fun _ _=>rfl) aJ hb (ok_one aF rfl (okWide_bool_mk Tryz.underlying4 _))⟩
end Go.Jw

namespace Go.Jw
open Go Go.RowKit Go.Proofs Go.ChangeShapes Go.WideShapes Go.Proofs.YtlcfillobkdnmaaGreatDoor
set_option maxRecDepth 100000
def lg(h:Array Obj)(g:Nat)(cs:List Value):Array Obj:=h.modify g fun
  | .cells _ t fr=> .cells cs.toArray t fr
  |o=>o
def Ai:Array Obj:= #[.cells #[.string ⟨#[105,110,118,97,108,105,100,32,115,121,110,116,97,120]⟩] 228 (0,0), .cells #[.string ⟨#[118,97,108,117,101,32,111,117,116,32,111,102,32,114,97,110,103,101]⟩] 228 (0,0),
 .cells ([.float .f32 1065353216, .float .f32 1092616192, .float .f32 1120403456, .float .f32 1148846080, .float .f32 1176256512, .float .f32 1203982336, .float .f32 1232348160, .float .f32 1259902592, .float .f32 1287568416, .float .f32 1315859240, .float .f32 1343554297]:List Value).toArray 288 (0,0), .cells ([.int .i64 1, .int .i64 3, .int .i64 6, .int .i64 9, .int .i64 13, .int .i64 16, .int .i64 19, .int .i64 23, .int .i64 26]:List Value).toArray 3 (0,0), .cells ([.float .f64 4607182418800017408, .float .f64 4621819117588971520, .float .f64 4636737291354636288, .float .f64 4652007308841189376, .float .f64 4666723172467343360, .float .f64 4681608360884174848, .float .f64 4696837146684686336, .float .f64 4711630319722168320, .float .f64 4726483295884279808, .float .f64 4741671816366391296, .float .f64 4756540486875873280, .float .f64 4771362005757984768, .float .f64 4786511204640096256, .float .f64 4801453603149578240, .float .f64 4816244402031689728, .float .f64 4831355200913801216, .float .f64 4846369599423283200, .float .f64 4861130398305394688, .float .f64 4876203697187506176, .float .f64 4891288408196988160, .float .f64 4906019910204099648, .float .f64 4921056587992461136, .float .f64 4936209963552724370]:List Value).toArray 214 (0,0),
 .cells (Pinned.cheatRows.flatMap fun x=>[Value.int .i64 x.1,Value.string ⟨x.2.toArray⟩]).toArray 365 (0,0)]
noncomputable def dB(os:Os):World:={World.holding Tryz.prog os ⟨Ai, #[],[]⟩with heap:=(lg (lg (lg (lg (lg (lg (lg (lg (lg (lg (lg (lg (lg (World.holding Tryz.prog os ⟨Ai, #[],[]⟩).heap 0 [.int .u64 1, .int .u64 10, .int .u64 100, .int .u64 1000, .int .u64 10000, .int .u64 100000, .int .u64 1000000, .int .u64 10000000, .int .u64 100000000, .int .u64 1000000000, .int .u64 10000000000, .int .u64 100000000000, .int .u64 1000000000000, .int .u64 10000000000000, .int .u64 100000000000000, .int .u64 1000000000000000, .int .u64 10000000000000000, .int .u64 100000000000000000, .int .u64 1000000000000000000, .int .u64 10000000000000000000]) 1 [.iface 226 (.pointer (some ⟨18,0,none⟩))]) 2 [.iface 226 (.pointer (some ⟨19,0,none⟩))]) 3 [.int .u64 23, .int .u64 8, .int .i64 (-127)]) 4 [.bool true]) 5 [.int .u64 52, .int .u64 11, .int .i64 (-1023)]) 6 [.int .u8 0, .int .u8 1, .int .u8 28, .int .u8 2, .int .u8 29, .int .u8 14, .int .u8 24, .int .u8 3, .int .u8 30, .int .u8 22, .int .u8 20, .int .u8 15, .int .u8 25, .int .u8 17, .int .u8 4, .int .u8 8, .int .u8 31, .int .u8 27, .int .u8 13, .int .u8 23, .int .u8 21, .int .u8 19, .int .u8 16, .int .u8 7, .int .u8 26, .int .u8 12, .int .u8 18, .int .u8 6, .int .u8 11, .int .u8 5, .int .u8 10, .int .u8 9]) 7 [.int .u8 0, .int .u8 1, .int .u8 56, .int .u8 2, .int .u8 57, .int .u8 49, .int .u8 28, .int .u8 3, .int .u8 61, .int .u8 58, .int .u8 42, .int .u8 50, .int .u8 38, .int .u8 29, .int .u8 17, .int .u8 4, .int .u8 62, .int .u8 47, .int .u8 59, .int .u8 36, .int .u8 45, .int .u8 43, .int .u8 51, .int .u8 22, .int .u8 53, .int .u8 39, .int .u8 33, .int .u8 30, .int .u8 24, .int .u8 18, .int .u8 12, .int .u8 5, .int .u8 63, .int .u8 55, .int .u8 48, .int .u8 27, .int .u8 60, .int .u8 41, .int .u8 37, .int .u8 16, .int .u8 46, .int .u8 35, .int .u8 44, .int .u8 21, .int .u8 52, .int .u8 32, .int .u8 23, .int .u8 11, .int .u8 54, .int .u8 26, .int .u8 40, .int .u8 15, .int .u8 34, .int .u8 20, .int .u8 31, .int .u8 10, .int .u8 25, .int .u8 14, .int .u8 19, .int .u8 9, .int .u8 13, .int .u8 8, .int .u8 7, .int .u8 6]) 8 [.slice (some ⟨20,0,none⟩) 11 11]) 9 [.slice (some ⟨21,0,none⟩) 9 9]) 10 [.slice (some ⟨22,0,none⟩) 23 23]) 11 (Pinned.pow10Rows.flatMap fun x=>[Value.int .u64 x.1,Value.int .u64 x.2])) 12 [.slice (some ⟨23,0,none⟩) Pinned.cheatRows.length Pinned.cheatRows.length])}
def P7(bs:List Nat)(ps:List MemPlace):Bool:=ps.all fun
  | .cell b _=>bs.contains b
  | .map _=>true
end Go.Jw

namespace Go.Jw
open Go Go.RowKit Go.Proofs Go.Proofs.YtlcfillobkdnmaaGreatDoor
set_option maxRecDepth 100000
theorem FP{P:Program}{w:World}{t u:TypeId}{cs:List Value}{n:Nat}(ht:P.cellTypes P.depth t=some (List.replicate n u))(hn:cs.length=n)(h0:0<n)(h:cs.all (Cell.okRefB P w u)=true):Row.okRefB P w t cs.toArray=true:=by
 unfold Row.okRefB
 rw [ht]
 simp only [List.length_replicate,List.size_toArray,Bool.and_eq_true,List.all_eq_true,List.mem_range]
 refine⟨by rw [hn];simp,fun i hi=>?_⟩
 have hm:i%n<n:=Nat.mod_lt _ h0
 rw [List.getElem?_toArray,List.getElem?_eq_getElem hi,List.getElem?_replicate,if_pos hm]
 exact List.all_eq_true.1 h _ (List.getElem_mem hi)
def jO(P:Program)(w₀ w:World)(g:Nat):Bool:=match (w₀.heap[g]?).bind Obj.row? with
  |none=>true
  |some (zero,t)=>match w.heap[g]? with
    |some (.cells cs t' frozen)=>decide (t'=t) && decide (frozen=(0,0)) && cs.size==zero.size && (!P.buildable t||Row.okRefB P w t cs)
    |_=>false
theorem HJ{P:Program}{w:World}(h: ∀ g,g<P.globals.size→jO P (begin P (fun _ _=>0) default).world w g=true):w.variablesRefB P=true:=by
 unfold World.variablesRefB
 exact List.all_eq_true.2 fun g hg=>h g (List.mem_range.1 hg)
theorem HK{P:Program}{w₀ w:World}{g:Nat}{zero:Array Value}{t:TypeId}{cs:List Value}(h0:(w₀.heap[g]?).bind Obj.row? =some (zero,t))(h1:w.heap[g]? =some (.cells cs.toArray t (0,0)))(hz:cs.length=zero.size)(h2:Row.okRefB P w t cs.toArray=true):jO P w₀ w g=true:=by
 unfold jO
 rw [h0,h1]
 simp [hz,h2]
theorem P8(os:Os)(args:Array Value):jO Tryz.prog (begin Tryz.prog (fun _ _=>0) default).world ((dB os).forCall (fun _ _=>0) ⟨#[],args,[]⟩) 0=true:=by kernel_rfl
theorem P9(os:Os)(args:Array Value):jO Tryz.prog (begin Tryz.prog (fun _ _=>0) default).world ((dB os).forCall (fun _ _=>0) ⟨#[],args,[]⟩) 1=true:=by kernel_rfl
theorem QA(os:Os)(args:Array Value):jO Tryz.prog (begin Tryz.prog (fun _ _=>0) default).world ((dB os).forCall (fun _ _=>0) ⟨#[],args,[]⟩) 2=true:=by kernel_rfl
theorem QB(os:Os)(args:Array Value):jO Tryz.prog (begin Tryz.prog (fun _ _=>0) default).world ((dB os).forCall (fun _ _=>0) ⟨#[],args,[]⟩) 3=true:=by kernel_rfl
theorem QC(os:Os)(args:Array Value):jO Tryz.prog (begin Tryz.prog (fun _ _=>0) default).world ((dB os).forCall (fun _ _=>0) ⟨#[],args,[]⟩) 4=true:=by kernel_rfl
theorem QD(os:Os)(args:Array Value):jO Tryz.prog (begin Tryz.prog (fun _ _=>0) default).world ((dB os).forCall (fun _ _=>0) ⟨#[],args,[]⟩) 5=true:=by kernel_rfl
theorem QE(os:Os)(args:Array Value):jO Tryz.prog (begin Tryz.prog (fun _ _=>0) default).world ((dB os).forCall (fun _ _=>0) ⟨#[],args,[]⟩) 6=true:=by kernel_rfl
theorem QF(os:Os)(args:Array Value):jO Tryz.prog (begin Tryz.prog (fun _ _=>0) default).world ((dB os).forCall (fun _ _=>0) ⟨#[],args,[]⟩) 7=true:=by kernel_rfl
theorem QG(os:Os)(args:Array Value):jO Tryz.prog (begin Tryz.prog (fun _ _=>0) default).world ((dB os).forCall (fun _ _=>0) ⟨#[],args,[]⟩) 8=true:=by kernel_rfl
theorem QH(os:Os)(args:Array Value):jO Tryz.prog (begin Tryz.prog (fun _ _=>0) default).world ((dB os).forCall (fun _ _=>0) ⟨#[],args,[]⟩) 9=true:=by kernel_rfl
theorem OR(os:Os)(args:Array Value):jO Tryz.prog (begin Tryz.prog (fun _ _=>0) default).world ((dB os).forCall (fun _ _=>0) ⟨#[],args,[]⟩) 10=true:=by kernel_rfl
theorem OS(os:Os)(args:Array Value):jO Tryz.prog (begin Tryz.prog (fun _ _=>0) default).world ((dB os).forCall (fun _ _=>0) ⟨#[],args,[]⟩) 12=true:=by kernel_rfl
def pw:List Value:=Pinned.pow10Rows.flatMap fun x=>[Value.int .u64 x.1,Value.int .u64 x.2]
theorem OT: ∃zero,((begin Tryz.prog (fun _ _=>0) default).world.heap[11]?).bind Obj.row? =some (zero,360)∧zero.size=1392:=⟨(Array.replicate 1392 (.int .u64 0)),by kernel_rfl,by kernel_rfl⟩
theorem OU(os:Os)(args:Array Value):((dB os).forCall (fun _ _=>0) ⟨#[],args,[]⟩).heap[11]? =some (.cells pw.toArray 360 (0,0)):=by kernel_rfl
theorem OV:Tryz.prog.cellTypes Tryz.prog.depth 360=some (List.replicate 1392 235):=by kernel_rfl
theorem MQ:pw.length=1392:=by kernel_rfl
theorem OW(w:World):pw.all (Cell.okRefB Tryz.prog w 235)=true:=by kernel_rfl
theorem OX(os:Os)(args:Array Value):jO Tryz.prog (begin Tryz.prog (fun _ _=>0) default).world ((dB os).forCall (fun _ _=>0) ⟨#[],args,[]⟩) 11=true:=by
 obtain⟨z,h0,hz⟩:=OT
 exact HK h0 (OU os args) (by rw [hz];exact MQ) (FP OV MQ aE (OW _))
theorem FQ(os:Os)(args:Array Value):World.variablesRefB Tryz.prog ((dB os).forCall (fun _ _=>0) ⟨#[],args,[]⟩)=true:=HJ fun g hg=>by
  have h13:Tryz.prog.globals.size=13:=by kernel_rfl
  rw [h13]at hg
  match g,hg with
  |0,_=>exact P8 os args
  |1,_=>exact P9 os args
  |2,_=>exact QA os args
  |3,_=>exact QB os args
  |4,_=>exact QC os args
  |5,_=>exact QD os args
  |6,_=>exact QE os args
  |7,_=>exact QF os args
  |8,_=>exact QG os args
  |9,_=>exact QH os args
  |10,_=>exact OR os args
  |11,_=>exact OX os args
  |12,_=>exact OS os args
end Go.Jw

namespace Go.Jw
open Go Go.RowKit Go.Proofs Go.ChangeShapes Go.WideShapes Go.Proofs.YtlcfillobkdnmaaGreatDoor
set_option maxRecDepth 100000
section
variable {P:Program} {w:World}
theorem gz{α β:Type}{f:α→Option β}{h:α→β}: ∀ (l:List α),(∀ x∈l,f x=some (h x))→l.mapM f=some (l.map h)
  |[],_=>rfl
  |a::l,H=>by
    rw [List.mapM_cons,H a List.mem_cons_self,gz l (fun x hx=>H x (List.mem_cons_of_mem _ hx))]
    rfl
theorem lh{b off:Nat}{T:TypeId}{cs:List Value}(h:w.heap[b]? =some (.cells cs.toArray T (0,0))):w.cell? ⟨b,off,none⟩=cs[off]? :=by
 unfold World.cell?
 simp [h]
theorem zd{b off n:Nat}{T:TypeId}{cs:List Value}(h:w.heap[b]? =some (.cells cs.toArray T (0,0)))(hn:off+n≤cs.length):w.cells? 0 ⟨b,off,none⟩ n=some ((cs.drop off).take n):=by
  unfold World.cells?
  rw [if_pos (Nat.zero_le _),gz (h:=fun i=>cs.getD (off+i) (.bool false)) (List.range n) (fun i hi=>?_)]
  · congr 1
    apply List.ext_getElem?
    intro j
    rw [List.getElem?_map,List.getElem?_take,List.getElem?_drop]
    by_cases hj:j<n
    · rw [if_pos hj,List.getElem?_range hj]
      simp [List.getD_eq_getElem?_getD,List.getElem?_eq_getElem (show off+j<cs.length by omega)]
    · rw [if_neg hj,List.getElem?_eq_none cD]
      rfl
  · have hi':=List.mem_range.1 hi
    have:(⟨b,off,none⟩:Addr).add i=⟨b,off+i,none⟩:=by
      unfold Addr.add
      by_cases h0:i=0
      · subst h0;rfl
      · rw [if_neg h0]
    rw [this,lh h,List.getD_eq_getElem?_getD,List.getElem?_eq_getElem (show off+i<cs.length by omega)]
    rfl
variable {H:Type} {enc:TypeId×Value→H} {sp:Nat→Bool} {held:Bool}
theorem mB{fuel:Nat}{t e:TypeId}{b n k:Nat}{T:TypeId}{cs:List Value}{g:Nat→DataW H}(ht:P.underlying t=some (.slice e))(hk:P.cellsOf e=k)(hb:w.heap[b]? =some (.cells cs.toArray T (0,0)))(hl:cs.length=n*k)(hn:n≤maxLen)
  (he: ∀ i,i<n→DataW.trod enc P w 0 sp held fuel e ((cs.drop (i*k)).take k)=some (g i,[])):DataW.trod enc P w 0 sp held (fuel+1) t [.slice (some ⟨b,0,none⟩) n n]=some (.slice ((List.range n).map g) [],MemPlace.row ⟨b,0,none⟩ (n*k)):=by
 subst hk
 have hel: ∀ i∈List.range n,(w.cells? 0 ((⟨b,0,none⟩:Addr).add (i*P.cellsOf e)) (P.cellsOf e)).bind (DataW.trod enc P w 0 sp held fuel e)=some ((g i,[]):DataW H×List MemPlace):=by
  intro i hi
  have hi':=List.mem_range.1 hi
  have:(⟨b,0,none⟩:Addr).add (i*P.cellsOf e)=⟨b,i*P.cellsOf e,none⟩:=by
   unfold Addr.add
   by_cases h0:i*P.cellsOf e=0
   ·rw [if_pos h0,h0]
   ·rw [if_neg h0,Nat.zero_add]
  have hle:i*P.cellsOf e+P.cellsOf e≤cs.length:=by
   rw [hl]
   have:=Nat.mul_le_mul_right (P.cellsOf e) (show i+1≤n by omega)
   rw [Nat.succ_mul]at this
   exact this
  rw [this,zd hb hle,Option.bind_some,he i hi']
 unfold DataW.trod
 simp only [ht]
 rw [if_pos ⟨Nat.zero_le _,Nat.le_refl _,hn⟩,gz _ hel]
 simp [Nat.sub_self]
theorem wl{fuel:Nat}{t e:TypeId}{n k:Nat}{cs:List Value}{g:Nat→DataW H}(ht:P.underlying t=some (.array n e))(hk:P.cellsOf e=k)(hl:cs.length=P.cellsOf t)
  (he: ∀ i,i<n→DataW.trod enc P w 0 sp held fuel e ((cs.drop (i*k)).take k)=some (g i,[])):DataW.trod enc P w 0 sp held (fuel+1) t cs=some (.agg ((List.range n).map g),[]):=by
 subst hk
 have hel: ∀ i∈List.range n,DataW.trod enc P w 0 sp held fuel e ((cs.drop (i*P.cellsOf e)).take (P.cellsOf e))=some ((g i,[]):DataW H×List MemPlace):=fun i hi=>he i (List.mem_range.1 hi)
 unfold DataW.trod
 simp only [ht]
 rw [if_pos hl,gz _ hel]
 simp
theorem uX{n:String}{d:DataW Unit}{r:List (String×DataW Unit)}{p q:List MemPlace}{g t T:Nat}{cs:List Value}(fuel:Nat)(hg:P.globalNamed n=some g)(ht:(P.globals[g]?).map (·.type)=some t)(hh:w.heap[g]? =some (.cells cs.toArray T (0,0)))
  (hd:DataW.trod (fun _=>()) P w 0 (fun _=>true) false fuel t cs=some (d,p)) (hr:DataW.LaidVars P w r q):DataW.LaidVars P w ((n,d)::r) (MemPlace.row ⟨g,0,none⟩ cs.length++p++q):=
 ⟨g,t,cs.toArray,fuel,p,q,hg,ht,by unfold World.var?;rw [hg];simp [hh],by simpa using hd,hr,by simp⟩
def HL:Value→Bool
  | .iface .. =>false
  |_=>true
theorem wZ{b off:Nat}{T:TypeId}{cs:List Value}(h:w.heap[b]? =some (.cells cs.toArray T (0,0)))(hn:cs.all HL=true):
  (∃c t,w.heap[b]? =some (.cells c t (0,0)))∧ ∀ u v,w.cell? ⟨b,off,none⟩=some (.iface u v)→Value.okWide P w .any 0 u v:=by
 refine⟨⟨_,_,h⟩,fun u v hc=>?_⟩
 rw [lh h]at hc
 have:=List.all_eq_true.1 hn _ (List.mem_of_getElem? hc)
 cases this
theorem qm{b off:Nat}{T u:TypeId}{v:Value}(h:w.heap[b]? =some (.cells [.iface u v].toArray T (0,0)))(hn:Value.okWideB P w u v=true):
  (∃c t,w.heap[b]? =some (.cells c t (0,0)))∧ ∀ u' v',w.cell? ⟨b,off,none⟩=some (.iface u' v')→Value.okWide P w .any 0 u' v':=by
 refine⟨⟨_,_,h⟩,fun u' v' hc=>?_⟩
 rw [lh h]at hc
 have:=List.mem_of_getElem? hc
 simp only [List.mem_singleton,Value.iface.injEq]at this
 obtain⟨rfl,rfl⟩:=this
 exact Value.okWide_of_okWideB hn
end
theorem oY{α:Type}(f:α→List Value)(k:Nat)(hf: ∀ x,(f x).length=k): ∀ (l:List α) (i:Nat) (h:i<l.length),((l.flatMap f).drop (i*k)).take k=f l[i]
  |[],i,h=>by simp at h
  |x::l,0,_=>by simp [List.flatMap_cons,←hf x]
  |x::l,i+1,h=>by
    rw [List.flatMap_cons,Nat.succ_mul,Nat.add_comm,←List.drop_drop,List.drop_append_of_le_length (by rw [hf x];exact Nat.le_refl _),←hf x,List.drop_length,List.nil_append,hf x]
    exact oY f k hf l i cF
theorem qn{α:Type}(f:α→List Value)(k:Nat)(hf: ∀ x,(f x).length=k)(l:List α):(l.flatMap f).length=l.length*k:=by
  induction l with
  |nil=>simp
  |cons x l ih=>rw [List.flatMap_cons,List.length_append,hf,ih,List.length_cons,Nat.succ_mul,Nat.add_comm]
theorem jm{α β:Type}[Inhabited α](f:α→β)(l:List α):(List.range l.length).map (fun i=>f (l.getD i default))=l.map f:=by
  apply List.ext_getElem?
  intro j
  rw [List.getElem?_map,List.getElem?_map]
  by_cases h:j<l.length
  · rw [List.getElem?_range h,List.getElem?_eq_getElem h]
    simp [List.getD_eq_getElem?_getD,h]
  · rw [List.getElem?_eq_none cF,List.getElem?_eq_none cF]
    rfl
def jn:Value→DataW Unit
  | .int k n=> .lit (.int k n)
  | .float k b=> .lit (.float k b)
  |_=> .nil
def qo(d:TypeDesc):Value→Bool
  | .int k n=>(match d with| .int k'=>decide (k=k')|_=>false) && (Lit.int k n).wf
  | .float k n=>(match d with| .float k'=>decide (k=k')|_=>false) && (Lit.float k n).wf
  |_=>false
theorem jM{P:Program}{w:World}{sp:Nat→Bool}{held:Bool}{fuel:Nat}{e:TypeId}{d:TypeDesc}{v:Value}(he:P.underlying e=some d)(h:qo d v=true):DataW.trod (fun _=>()) P w 0 sp held (fuel+1) e [v]=some (jn v,[]):=by
 unfold DataW.trod
 cases v<;>simp [qo]at h<;>cases d<;>simp at h<;>(obtain⟨rfl,h2⟩:=h;simp [he,jn,h2])
theorem iq{P:Program}{w:World}{fuel:Nat}{t e:TypeId}{d:TypeDesc}{b n:Nat}{T:TypeId}{cs:List Value}(ht:P.underlying t=some (.slice e))(he:P.underlying e=some d)(hk:P.cellsOf e=1)(hb:w.heap[b]? =some (.cells cs.toArray T (0,0)))(hl:cs.length=n)(hn:n≤maxLen)(hs:cs.all (qo d)=true):
    DataW.trod (fun _=>()) P w 0 (fun _=>true) false (fuel+2) t [.slice (some ⟨b,0,none⟩) n n]=some (.slice (cs.map jn) [],MemPlace.row ⟨b,0,none⟩ n):=by
  subst hl
  have:=mB (P:=P) (w:=w) (enc:=fun _=>()) (sp:=fun _=>true) (held:=false) (fuel:=fuel+1) (k:=1) (n:=cs.length) (g:=fun i=>jn (cs.getD i (.bool false))) ht hk hb aC hn (fun i hi=>by
    have h1:(cs.drop (i*1)).take 1=[cs[i]]:=by rw [Nat.mul_one,List.drop_eq_getElem_cons hi];rfl
    rw [h1,jM he (List.all_eq_true.1 hs _ (List.getElem_mem hi)),List.getD_eq_getElem?_getD,List.getElem?_eq_getElem hi]
    rfl)
  rw [this,Nat.mul_one]
  congr 2
  have h2:(List.range cs.length).map (fun i=>jn (cs.getD i (.bool false)))=cs.map jn:= @jm _ _ ⟨.bool false⟩ jn cs
  rw [h2]
def KL(x:Nat×Nat):List Value:=[Value.int .u64 x.1,Value.int .u64 x.2]
def KM(x:Nat×List UInt8):List Value:=[Value.int .i64 x.1,Value.string ⟨x.2.toArray⟩]
def wc0:List Value:=[.int .u64 1, .int .u64 10, .int .u64 100, .int .u64 1000, .int .u64 10000, .int .u64 100000, .int .u64 1000000, .int .u64 10000000, .int .u64 100000000, .int .u64 1000000000, .int .u64 10000000000, .int .u64 100000000000, .int .u64 1000000000000, .int .u64 10000000000000, .int .u64 100000000000000, .int .u64 1000000000000000, .int .u64 10000000000000000, .int .u64 100000000000000000, .int .u64 1000000000000000000, .int .u64 10000000000000000000]
def wc1:List Value:=[.iface 226 (.pointer (some ⟨18,0,none⟩))]
def wc2:List Value:=[.iface 226 (.pointer (some ⟨19,0,none⟩))]
def wc3:List Value:=[.int .u64 23, .int .u64 8, .int .i64 (-127)]
def wc4:List Value:=[.bool true]
def wc5:List Value:=[.int .u64 52, .int .u64 11, .int .i64 (-1023)]
def wc6:List Value:=[.int .u8 0, .int .u8 1, .int .u8 28, .int .u8 2, .int .u8 29, .int .u8 14, .int .u8 24, .int .u8 3, .int .u8 30, .int .u8 22, .int .u8 20, .int .u8 15, .int .u8 25, .int .u8 17, .int .u8 4, .int .u8 8, .int .u8 31, .int .u8 27, .int .u8 13, .int .u8 23, .int .u8 21, .int .u8 19, .int .u8 16, .int .u8 7, .int .u8 26, .int .u8 12, .int .u8 18, .int .u8 6, .int .u8 11, .int .u8 5, .int .u8 10, .int .u8 9]
def wc7:List Value:=[.int .u8 0, .int .u8 1, .int .u8 56, .int .u8 2, .int .u8 57, .int .u8 49, .int .u8 28, .int .u8 3, .int .u8 61, .int .u8 58, .int .u8 42, .int .u8 50, .int .u8 38, .int .u8 29, .int .u8 17, .int .u8 4, .int .u8 62, .int .u8 47, .int .u8 59, .int .u8 36, .int .u8 45, .int .u8 43, .int .u8 51, .int .u8 22, .int .u8 53, .int .u8 39, .int .u8 33, .int .u8 30, .int .u8 24, .int .u8 18, .int .u8 12, .int .u8 5, .int .u8 63, .int .u8 55, .int .u8 48, .int .u8 27, .int .u8 60, .int .u8 41, .int .u8 37, .int .u8 16, .int .u8 46, .int .u8 35, .int .u8 44, .int .u8 21, .int .u8 52, .int .u8 32, .int .u8 23, .int .u8 11, .int .u8 54, .int .u8 26, .int .u8 40, .int .u8 15, .int .u8 34, .int .u8 20, .int .u8 31, .int .u8 10, .int .u8 25, .int .u8 14, .int .u8 19, .int .u8 9, .int .u8 13, .int .u8 8, .int .u8 7, .int .u8 6]
def wc8:List Value:=[.slice (some ⟨20,0,none⟩) 11 11]
def wc9:List Value:=[.slice (some ⟨21,0,none⟩) 9 9]
def wc10:List Value:=[.slice (some ⟨22,0,none⟩) 23 23]
def wc11:List Value:=Pinned.pow10Rows.flatMap KL
def wc12:List Value:=[.slice (some ⟨23,0,none⟩) Pinned.cheatRows.length Pinned.cheatRows.length]
def wc18:List Value:=[.string ⟨#[105,110,118,97,108,105,100,32,115,121,110,116,97,120]⟩]
def wc19:List Value:=[.string ⟨#[118,97,108,117,101,32,111,117,116,32,111,102,32,114,97,110,103,101]⟩]
def wc20:List Value:=[.float .f32 1065353216, .float .f32 1092616192, .float .f32 1120403456, .float .f32 1148846080, .float .f32 1176256512, .float .f32 1203982336, .float .f32 1232348160, .float .f32 1259902592, .float .f32 1287568416, .float .f32 1315859240, .float .f32 1343554297]
def wc21:List Value:=[.int .i64 1, .int .i64 3, .int .i64 6, .int .i64 9, .int .i64 13, .int .i64 16, .int .i64 19, .int .i64 23, .int .i64 26]
def wc22:List Value:=[.float .f64 4607182418800017408, .float .f64 4621819117588971520, .float .f64 4636737291354636288, .float .f64 4652007308841189376, .float .f64 4666723172467343360, .float .f64 4681608360884174848, .float .f64 4696837146684686336, .float .f64 4711630319722168320, .float .f64 4726483295884279808, .float .f64 4741671816366391296, .float .f64 4756540486875873280, .float .f64 4771362005757984768, .float .f64 4786511204640096256, .float .f64 4801453603149578240, .float .f64 4816244402031689728, .float .f64 4831355200913801216, .float .f64 4846369599423283200, .float .f64 4861130398305394688, .float .f64 4876203697187506176, .float .f64 4891288408196988160, .float .f64 4906019910204099648, .float .f64 4921056587992461136, .float .f64 4936209963552724370]
def wc23:List Value:=Pinned.cheatRows.flatMap KM
noncomputable def wW(os:Os)(args:Array Value):World:=((dB os).forCall (fun _ _=>0) ⟨#[],args,[]⟩).memory
theorem Ox(os:Os)(args:Array Value):(wW os args).heap[0]? =some (.cells wc0.toArray 270 (0,0)):=by kernel_rfl
theorem Oy(os:Os)(args:Array Value):(wW os args).heap[1]? =some (.cells wc1.toArray 77 (0,0)):=by kernel_rfl
theorem Oz(os:Os)(args:Array Value):(wW os args).heap[2]? =some (.cells wc2.toArray 77 (0,0)):=by kernel_rfl
theorem O0(os:Os)(args:Array Value):(wW os args).heap[3]? =some (.cells wc3.toArray 305 (0,0)):=by kernel_rfl
theorem O1(os:Os)(args:Array Value):(wW os args).heap[4]? =some (.cells wc4.toArray 4 (0,0)):=by kernel_rfl
theorem O2(os:Os)(args:Array Value):(wW os args).heap[5]? =some (.cells wc5.toArray 305 (0,0)):=by kernel_rfl
theorem O3(os:Os)(args:Array Value):(wW os args).heap[6]? =some (.cells wc6.toArray 323 (0,0)):=by kernel_rfl
theorem O4(os:Os)(args:Array Value):(wW os args).heap[7]? =some (.cells wc7.toArray 324 (0,0)):=by kernel_rfl
theorem O5(os:Os)(args:Array Value):(wW os args).heap[8]? =some (.cells wc8.toArray 340 (0,0)):=by kernel_rfl
theorem O6(os:Os)(args:Array Value):(wW os args).heap[9]? =some (.cells wc9.toArray 139 (0,0)):=by kernel_rfl
theorem MR(os:Os)(args:Array Value):(wW os args).heap[10]? =some (.cells wc10.toArray 349 (0,0)):=by kernel_rfl
theorem MS(os:Os)(args:Array Value):(wW os args).heap[11]? =some (.cells wc11.toArray 360 (0,0)):=by kernel_rfl
theorem MT(os:Os)(args:Array Value):(wW os args).heap[12]? =some (.cells wc12.toArray 366 (0,0)):=by kernel_rfl
theorem OY(os:Os)(args:Array Value):(wW os args).heap[18]? =some (.cells wc18.toArray 228 (0,0)):=by kernel_rfl
theorem OZ(os:Os)(args:Array Value):(wW os args).heap[19]? =some (.cells wc19.toArray 228 (0,0)):=by kernel_rfl
theorem MU(os:Os)(args:Array Value):(wW os args).heap[20]? =some (.cells wc20.toArray 288 (0,0)):=by kernel_rfl
theorem MV(os:Os)(args:Array Value):(wW os args).heap[21]? =some (.cells wc21.toArray 3 (0,0)):=by kernel_rfl
theorem MW(os:Os)(args:Array Value):(wW os args).heap[22]? =some (.cells wc22.toArray 214 (0,0)):=by kernel_rfl
theorem MX(os:Os)(args:Array Value):(wW os args).heap[23]? =some (.cells wc23.toArray 365 (0,0)):=by kernel_rfl
theorem QI(w:World):DataW.trod (fun _=>()) Tryz.prog w 0 (fun _=>true) false 8 270 wc0=some (Rows.laid_internal_strconv_uint64pow10,[]):=by kernel_rfl
theorem QJ(w:World):DataW.trod (fun _=>()) Tryz.prog w 0 (fun _=>true) false 8 305 wc3=some (Rows.laid_internal_strconv_float32info,[]):=by kernel_rfl
theorem QK(w:World):DataW.trod (fun _=>()) Tryz.prog w 0 (fun _=>true) false 8 4 wc4=some (Rows.laid_internal_strconv_optimize,[]):=by kernel_rfl
theorem QL(w:World):DataW.trod (fun _=>()) Tryz.prog w 0 (fun _=>true) false 8 305 wc5=some (Rows.laid_internal_strconv_float64info,[]):=by kernel_rfl
theorem QM(w:World):DataW.trod (fun _=>()) Tryz.prog w 0 (fun _=>true) false 8 323 wc6=some (Rows.laid_math_bits_deBruijn32tab,[]):=by kernel_rfl
theorem QN(w:World):DataW.trod (fun _=>()) Tryz.prog w 0 (fun _=>true) false 8 324 wc7=some (Rows.laid_math_bits_deBruijn64tab,[]):=by kernel_rfl
theorem QO(os:Os)(args:Array Value):DataW.trod (fun _=>()) Tryz.prog (wW os args) 0 (fun _=>true) false 8 340 wc8=some (Rows.laid_internal_strconv_float32pow10,MemPlace.row ⟨20,0,none⟩ 11):=
 (iq (fuel:=6) (e:=288) (d:= .float .f32) (cs:=wc20) (n:=11) aF aF aF (MU os args) rfl bf aF).trans aF
theorem QP(os:Os)(args:Array Value):DataW.trod (fun _=>()) Tryz.prog (wW os args) 0 (fun _=>true) false 8 139 wc9=some (Rows.laid_internal_strconv_powtab,MemPlace.row ⟨21,0,none⟩ 9):=
 (iq (fuel:=6) (e:=3) (d:= .int .i64) (cs:=wc21) (n:=9) aF aF aF (MV os args) rfl bf aF).trans aF
theorem Oa(os:Os)(args:Array Value):DataW.trod (fun _=>()) Tryz.prog (wW os args) 0 (fun _=>true) false 8 349 wc10=some (Rows.laid_internal_strconv_float64pow10,MemPlace.row ⟨22,0,none⟩ 23):=
 (iq (fuel:=6) (e:=214) (d:= .float .f64) (cs:=wc22) (n:=23) aF aF aF (MW os args) rfl bf aF).trans aF
theorem QQ(os:Os)(args:Array Value):DataW.trod (fun _=>()) Tryz.prog (wW os args) 0 (fun _=>true) false 8 77 wc1=some (Rows.laid_strconv_ErrSyntax,MemPlace.row ⟨18,0,none⟩ 1):=by kernel_rfl
theorem QR(os:Os)(args:Array Value):Value.okWideB Tryz.prog (wW os args) 226 (.pointer (some ⟨18,0,none⟩))=true:=by kernel_rfl
theorem QS(os:Os)(args:Array Value):DataW.trod (fun _=>()) Tryz.prog (wW os args) 0 (fun _=>true) false 8 77 wc2=some (Rows.laid_strconv_ErrRange,MemPlace.row ⟨19,0,none⟩ 1):=by kernel_rfl
theorem QT(os:Os)(args:Array Value):Value.okWideB Tryz.prog (wW os args) 226 (.pointer (some ⟨19,0,none⟩))=true:=by kernel_rfl
theorem HM(w:World)(x:Nat×Nat)(h1:(Lit.int .u64 (x.1:Int)).wf=true)(h2:(Lit.int .u64 (x.2:Int)).wf=true):DataW.trod (fun _=>()) Tryz.prog w 0 (fun _=>true) false 7 359 (KL x)=some (.agg [.lit (.int .u64 x.1), .lit (.int .u64 x.2)],[]):=by
 have e1:Tryz.prog.underlying 359=some (.struct #[⟨ "hi",235,0,false, "", "internal/strconv",0⟩,⟨ "lo",235,1,false, "", "internal/strconv",8⟩]):=by kernel_rfl
 have e2:Tryz.prog.cellsOf 359=2:=by kernel_rfl
 have e3:Tryz.prog.cellsOf 235=1:=by kernel_rfl
 have e4:Tryz.prog.underlying 235=some (.int .u64):=by kernel_rfl
 unfold DataW.trod
 simp only [e1,KL,e2]
 rw [if_pos (show([Value.int .u64 (x.1:Int),Value.int .u64 (x.2:Int)]:List Value).length=2 from rfl)]
 simp only [List.mapM_cons,List.mapM_nil,e3]
 have t1:DataW.trod (fun _=>()) Tryz.prog w 0 (fun _=>true) false 6 235 [Value.int .u64 x.1]=some (.lit (.int .u64 x.1),[]):=jM (fuel:=5) e4 (by simp [qo,h1])
 have t2:DataW.trod (fun _=>()) Tryz.prog w 0 (fun _=>true) false 6 235 [Value.int .u64 x.2]=some (.lit (.int .u64 x.2),[]):=jM (fuel:=5) e4 (by simp [qo,h2])
 simp [t1,t2]
theorem Ob(w:World):DataW.trod (fun _=>()) Tryz.prog w 0 (fun _=>true) false 8 360 wc11=some (Rows.laid_internal_strconv_pow10Tab,[]):=by
  have hl:wc11.length=Pinned.pow10Rows.length*2:=qn KL 2 (fun _=>rfl) _
  have hr:Pinned.pow10Rows.length=696:=by kernel_rfl
  have hwf:Pinned.pow10Rows.all (fun x=>(Lit.int .u64 x.1).wf && (Lit.int .u64 x.2).wf)=true:=by kernel_rfl
  have:=wl (P:=Tryz.prog) (w:=w) (enc:=fun _=>()) (sp:=fun _=>true) (held:=false) (fuel:=7) (t:=360) (e:=359) (n:=696) (k:=2) (cs:=wc11) (g:=fun i=>(fun x:Nat×Nat=>(.agg [.lit (.int .u64 x.1), .lit (.int .u64 x.2)]:DataW Unit)) (Pinned.pow10Rows.getD i default)) aF aF (by rw [hl,hr];kernel_rfl) (fun i hi=>by
    have hi':i<Pinned.pow10Rows.length:=by rw [hr];exact hi
    have h1:(wc11.drop (i*2)).take 2=KL Pinned.pow10Rows[i]:=oY KL 2 (fun _=>rfl) _ i hi'
    have h2:=List.all_eq_true.1 hwf _ (List.getElem_mem hi')
    simp only [Bool.and_eq_true]at h2
    rw [h1,List.getD_eq_getElem?_getD,List.getElem?_eq_getElem hi',Option.getD_some]
    exact HM w _ h2.1 h2.2)
  rw [this]
  have h3:=jm (fun x:Nat×Nat=>(.agg [.lit (.int .u64 x.1), .lit (.int .u64 x.2)]:DataW Unit)) Pinned.pow10Rows
  rw [hr]at h3
  rw [h3]
  rfl
theorem HO(w:World)(x:Nat×List UInt8)(h1:(Lit.int .i64 (x.1:Int)).wf=true)(h2:x.2.length≤maxLen):DataW.trod (fun _=>()) Tryz.prog w 0 (fun _=>true) false 7 365 (KM x)=some (.agg [.lit (.int .i64 x.1), .lit (.string x.2)],[]):=by
 have e1:Tryz.prog.underlying 365=some (.struct #[⟨ "delta",3,0,false, "", "internal/strconv",0⟩,⟨ "cutoff",9,1,false, "", "internal/strconv",8⟩]):=by kernel_rfl
 have e2:Tryz.prog.cellsOf 365=2:=by kernel_rfl
 have e3:Tryz.prog.cellsOf 3=1:=by kernel_rfl
 have e4:Tryz.prog.cellsOf 9=1:=by kernel_rfl
 have e5:Tryz.prog.underlying 3=some (.int .i64):=by kernel_rfl
 have e6:Tryz.prog.underlying 9=some .string:=by kernel_rfl
 have t1:DataW.trod (fun _=>()) Tryz.prog w 0 (fun _=>true) false 6 3 [Value.int .i64 x.1]=some (.lit (.int .i64 x.1),[]):=jM (fuel:=5) e5 (by simp [qo,h1])
 have t2:DataW.trod (fun _=>()) Tryz.prog w 0 (fun _=>true) false 6 9 [Value.string ⟨x.2.toArray⟩]=some (.lit (.string x.2),[]):=by
  unfold DataW.trod
  have:(ByteArray.mk x.2.toArray).size≤maxLen:=by simpa [ByteArray.size]using h2
  simp [e6,this]
 unfold DataW.trod
 simp only [e1,KM,e2]
 rw [if_pos (show([Value.int .i64 (x.1:Int),Value.string ⟨x.2.toArray⟩]:List Value).length=2 from rfl)]
 simp only [List.mapM_cons,List.mapM_nil,e3,e4]
 simp [t1,t2]
theorem Oc(os:Os)(args:Array Value):DataW.trod (fun _=>()) Tryz.prog (wW os args) 0 (fun _=>true) false 8 366 wc12=some (Rows.laid_internal_strconv_leftcheats,MemPlace.row ⟨23,0,none⟩ 122):=by
  have hl:wc23.length=Pinned.cheatRows.length*2:=qn KM 2 (fun _=>rfl) _
  have hr:Pinned.cheatRows.length=61:=by kernel_rfl
  have hwf:Pinned.cheatRows.all (fun x=>(Lit.int .i64 x.1).wf && decide (x.2.length≤maxLen))=true:=by kernel_rfl
  have:=mB (P:=Tryz.prog) (w:=wW os args) (enc:=fun _=>()) (sp:=fun _=>true) (held:=false) (fuel:=7) (t:=366) (e:=365) (b:=23) (n:=61) (k:=2) (T:=365) (cs:=wc23) (g:=fun i=>(fun x:Nat×List UInt8=>(.agg [.lit (.int .i64 x.1), .lit (.string x.2)]:DataW Unit)) (Pinned.cheatRows.getD i default)) aF aF (MX os args) (by rw [hl,hr]) bf (fun i hi=>by
    have hi':i<Pinned.cheatRows.length:=by rw [hr];exact hi
    have h1:(wc23.drop (i*2)).take 2=KM Pinned.cheatRows[i]:=oY KM 2 (fun _=>rfl) _ i hi'
    have h2:=List.all_eq_true.1 hwf _ (List.getElem_mem hi')
    simp only [Bool.and_eq_true,decide_eq_true_eq]at h2
    rw [h1,List.getD_eq_getElem?_getD,List.getElem?_eq_getElem hi',Option.getD_some]
    exact HO _ _ h2.1 h2.2)
  have h3:=jm (fun x:Nat×List UInt8=>(.agg [.lit (.int .i64 x.1), .lit (.string x.2)]:DataW Unit)) Pinned.cheatRows
  rw [hr]at h3
  rw [h3]at this
  exact this
def Ml:List MemPlace:=MemPlace.row ⟨6,0,none⟩ wc6.length++[]++(MemPlace.row ⟨7,0,none⟩ wc7.length++[]++(MemPlace.row ⟨3,0,none⟩ wc3.length++[]++(MemPlace.row ⟨5,0,none⟩ wc5.length++[]++(MemPlace.row ⟨4,0,none⟩ wc4.length++[]++(MemPlace.row ⟨9,0,none⟩ wc9.length++MemPlace.row ⟨21,0,none⟩ 9++(MemPlace.row ⟨10,0,none⟩ wc10.length++MemPlace.row ⟨22,0,none⟩ 23++(MemPlace.row ⟨8,0,none⟩ wc8.length++MemPlace.row ⟨20,0,none⟩ 11++(MemPlace.row ⟨0,0,none⟩ wc0.length++[]++(MemPlace.row ⟨2,0,none⟩ wc2.length++MemPlace.row ⟨19,0,none⟩ 1++(MemPlace.row ⟨1,0,none⟩ wc1.length++MemPlace.row ⟨18,0,none⟩ 1++(MemPlace.row ⟨12,0,none⟩ wc12.length++MemPlace.row ⟨23,0,none⟩ 122++(MemPlace.row ⟨11,0,none⟩ wc11.length++[]++([])))))))))))))
theorem QU(os:Os)(args:Array Value):DataW.LaidVars Tryz.prog (wW os args) Rows.fnTextedRow.laid Ml:=
 uX 8 aF aF (O3 os args) (QM _) (uX 8 aF aF (O4 os args) (QN _) (uX 8 aF aF (O0 os args) (QJ _) (uX 8 aF aF (O2 os args) (QL _) (uX 8 aF aF (O1 os args) (QK _) (uX 8 aF aF (O6 os args) (QP os args) (uX 8 aF aF (MR os args) (Oa os args) (uX 8 aF aF (O5 os args) (QO os args) (uX 8 aF aF (Ox os args) (QI _) (uX 8 aF aF (Oz os args) (QS os args) (uX 8 aF aF (Oy os args) (QQ os args) (uX 8 aF aF (MT os args) (Oc os args) (uX 8 aF aF (MS os args) (Ob _) (rfl)))))))))))))
def Od:List Nat:=[0,1,2,3,4,5,6,7,8,9,10,11,12,18,19,20,21,22,23]
theorem QV:nodupBits 1400 Ml 0=true:=by kernel_rfl
theorem QW:P7 Od Ml=true:=by kernel_rfl
theorem FR(os:Os)(args:Array Value):laidMet Tryz.prog Rows.fnTextedRow.laid (wW os args):=by
 refine⟨Ml,QU os args,(nodupBits_sound QV).1,fun b off hp=>?_⟩
 have h1:=List.all_eq_true.1 QW _ hp
 have hb:b∈Od:=by simpa using h1
 simp only [Od,List.mem_cons,List.not_mem_nil,or_false]at hb
 rcases hb with rfl|rfl|rfl|rfl|rfl|rfl|rfl|rfl|rfl|rfl|rfl|rfl|rfl|rfl|rfl|rfl|rfl|rfl|rfl
 ·exact wZ (Ox os args) aF
 ·exact qm (Oy os args) (QR os args)
 ·exact qm (Oz os args) (QT os args)
 ·exact wZ (O0 os args) aF
 ·exact wZ (O1 os args) aF
 ·exact wZ (O2 os args) aF
 ·exact wZ (O3 os args) aF
 ·exact wZ (O4 os args) aF
 ·exact wZ (O5 os args) aF
 ·exact wZ (O6 os args) aF
 ·exact wZ (MR os args) aF
 ·exact wZ (MS os args) aF
 ·exact wZ (MT os args) aF
 ·exact wZ (OY os args) aF
 ·exact wZ (OZ os args) aF
 ·exact wZ (MU os args) aF
 ·exact wZ (MV os args) aF
 ·exact wZ (MW os args) aF
 ·exact wZ (MX os args) aF
end Go.Jw

namespace Go.Jw
open Go Go.RowKit Go.Proofs Go.ChangeShapes Go.WideShapes Go.ChangeAt Go.Proofs.YtlcfillobkdnmaaGreatDoor
set_option maxRecDepth 100000
noncomputable abbrev jP:Program:=Tryz.pinned.checked.prog
def jL:List Char:=([104,97,114,110,101,115,115,32,51,52,54,53,50,48,98,97,101,52,98,52,51,99,98,99,55,56,100,101,53,53,51,57,50,50,101,54,99,51,55,50,100,97,98,97,102,48,98,100,48,48,53,100,102,57,97,97,102,99,54,50,57,100,55,55,100,51,48,101,52,48,56,53,32,99,117,116,32,97,116,32,108,111,111,112,46,101,120,97,109,112,108,101,47,112,117,98,45,103,48,49,53,50,50,47,108,97,119,115,46,70,110,84,101,120,116,101,100,32,108,111,111,112,46,101,120,97,109,112,108,101,47,112,117,98,45,103,48,49,53,50,50,47,108,97,119,115,46,70,110,87,114,105,116,116,101,110,32,108,111,111,112,46,101,120,97,109,112,108,101,47,112,117,98,45,103,48,49,53,50,50,47,108,97,119,115,46,70,110,87,114,105,116,116,101,110,84,119,105,99,101,32,108,111,111,112,46,101,120,97,109,112,108,101,47,112,117,98,45,103,48,49,53,50,50,47,108,97,119,115,46,70,110,65,100,100,101,100,32,108,111,111,112,46,101,120,97,109,112,108,101,47,112,117,98,45,103,48,49,53,50,50,47,108,97,119,115,46,70,110,70,111,117,110,100,32,108,111,111,112,46,101,120,97,109,112,108,101,47,112,117,98,45,103,48,49,53,50,50,47,108,97,119,115,46,70,110,80,111,105,110,116,101,100,32,108,111,111,112,46,101,120,97,109,112,108,101,47,112,117,98,45,103,48,49,53,50,50,47,108,97,119,115,46,70,110,67,111,112,105,101,100,32,108,111,111,112,46,101,120,97,109,112,108,101,47,112,117,98,45,103,48,49,53,50,50,47,108,97,119,115,46,70,110,67,111,112,105,101,100,65,99,99,101,112,116,115,32,108,111,111,112,46,101,120,97,109,112,108,101,47,112,117,98,45,103,48,49,53,50,50,47,108,97,119,115,46,70,110,65,108,108,83,116,101,112,115,32,108,111,111,112,46,101,120,97,109,112,108,101,47,112,117,98,45,103,48,49,53,50,50,47,108,97,119,115,46,70,110,67,104,111,115,101,110,32,108,111,111,112,46,101,120,97,109,112,108,101,47,112,117,98,45,103,48,49,53,50,50,47,108,97,119,115,46,70,110,67,104,111,115,101,110,78,97,114,114,111,119,115,32,108,111,111,112,46,101,120,97,109,112,108,101,47,112,117,98,45,103,48,49,53,50,50,47,108,97,119,115,46,70,110,77,101,114,103,101,100,32,108,111,111,112,46,101,120,97,109,112,108,101,47,112,117,98,45,103,48,49,53,50,50,47,108,97,119,115,46,70,110,77,101,114,103,101,100,65,99,99,101,112,116,115,32,108,111,111,112,46,101,120,97,109,112,108,101,47,112,117,98,45,103,48,49,53,50,50,47,108,97,119,115,46,70,110,82,101,115,111,108,118,101,100,32,108,111,111,112,46,101,120,97,109,112,108,101,47,112,117,98,45,103,48,49,53,50,50,47,108,97,119,115,46,70,110,82,101,115,111,108,118,101,100,65,99,99,101,112,116,115,32,108,111,111,112,46,101,120,97,109,112,108,101,47,112,117,98,45,103,48,49,53,50,50,47,108,97,119,115,46,70,110,82,101,115,111,108,118,101,100,84,119,105,99,101]:List Nat).map Char.ofNat
def jW:List (List Char):=([[104,97,114,110,101,115,115],[51,52,54,53,50,48,98,97,101,52,98,52,51,99,98,99,55,56,100,101,53,53,51,57,50,50,101,54,99,51,55,50,100,97,98,97,102,48,98,100,48,48,53,100,102,57,97,97,102,99,54,50,57,100,55,55,100,51,48,101,52,48,56,53],[99,117,116],[97,116],[108,111,111,112,46,101,120,97,109,112,108,101,47,112,117,98,45,103,48,49,53,50,50,47,108,97,119,115,46,70,110,84,101,120,116,101,100],[108,111,111,112,46,101,120,97,109,112,108,101,47,112,117,98,45,103,48,49,53,50,50,47,108,97,119,115,46,70,110,87,114,105,116,116,101,110],[108,111,111,112,46,101,120,97,109,112,108,101,47,112,117,98,45,103,48,49,53,50,50,47,108,97,119,115,46,70,110,87,114,105,116,116,101,110,84,119,105,99,101],[108,111,111,112,46,101,120,97,109,112,108,101,47,112,117,98,45,103,48,49,53,50,50,47,108,97,119,115,46,70,110,65,100,100,101,100],[108,111,111,112,46,101,120,97,109,112,108,101,47,112,117,98,45,103,48,49,53,50,50,47,108,97,119,115,46,70,110,70,111,117,110,100],[108,111,111,112,46,101,120,97,109,112,108,101,47,112,117,98,45,103,48,49,53,50,50,47,108,97,119,115,46,70,110,80,111,105,110,116,101,100],[108,111,111,112,46,101,120,97,109,112,108,101,47,112,117,98,45,103,48,49,53,50,50,47,108,97,119,115,46,70,110,67,111,112,105,101,100],[108,111,111,112,46,101,120,97,109,112,108,101,47,112,117,98,45,103,48,49,53,50,50,47,108,97,119,115,46,70,110,67,111,112,105,101,100,65,99,99,101,112,116,115],[108,111,111,112,46,101,120,97,109,112,108,101,47,112,117,98,45,103,48,49,53,50,50,47,108,97,119,115,46,70,110,65,108,108,83,116,101,112,115],[108,111,111,112,46,101,120,97,109,112,108,101,47,112,117,98,45,103,48,49,53,50,50,47,108,97,119,115,46,70,110,67,104,111,115,101,110],[108,111,111,112,46,101,120,97,109,112,108,101,47,112,117,98,45,103,48,49,53,50,50,47,108,97,119,115,46,70,110,67,104,111,115,101,110,78,97,114,114,111,119,115],[108,111,111,112,46,101,120,97,109,112,108,101,47,112,117,98,45,103,48,49,53,50,50,47,108,97,119,115,46,70,110,77,101,114,103,101,100],[108,111,111,112,46,101,120,97,109,112,108,101,47,112,117,98,45,103,48,49,53,50,50,47,108,97,119,115,46,70,110,77,101,114,103,101,100,65,99,99,101,112,116,115],[108,111,111,112,46,101,120,97,109,112,108,101,47,112,117,98,45,103,48,49,53,50,50,47,108,97,119,115,46,70,110,82,101,115,111,108,118,101,100],[108,111,111,112,46,101,120,97,109,112,108,101,47,112,117,98,45,103,48,49,53,50,50,47,108,97,119,115,46,70,110,82,101,115,111,108,118,101,100,65,99,99,101,112,116,115],[108,111,111,112,46,101,120,97,109,112,108,101,47,112,117,98,45,103,48,49,53,50,50,47,108,97,119,115,46,70,110,82,101,115,111,108,118,101,100,84,119,105,99,101]]:List (List Nat)).map fun l=>l.map Char.ofNat
theorem hI:jP.initOrder=String.ofList jL:=by kernel_rfl
theorem QX:wordsSigns jL=jW:=by kernel_rfl
theorem hW:wordsSigns jP.initOrder.toList=jW:=by rw [hI,String.toList_ofList,QX]
theorem jh:behindMainWord (wordsSigns jP.initOrder.toList)= "cut".toList::jW.drop 3:=by rw [hW];kernel_rfl
theorem HP{P:Program}{rest:List (List Char)}(h:behindMainWord (wordsSigns P.initOrder.toList)= "cut".toList::rest):P.make=some .cut:=by unfold Program.make;rw [h];rfl
theorem FS{P:Program}{rest:List (List Char)}(h:behindMainWord (wordsSigns P.initOrder.toList)= "cut".toList::rest):P.liftsFinal=false:=by unfold Program.liftsFinal Program.headLifts;rw [h];rfl
theorem FU{P:Program}{rest:List (List Char)}(h:behindMainWord (wordsSigns P.initOrder.toList)= "cut".toList::rest)(l1:P.laysLater=false)(l2:P.bearsReflect=false)(l3:P.doorFits []=true):P.mayEnter=true:=by
 have h1:(stripLifts liftWords ("cut".toList::rest)).1=[]:=rfl
 have h2:(stripLifts liftWords ("cut".toList::rest)).2= "cut".toList::rest:=rfl
 unfold Program.mayEnter
 rw [h]
 simp only [h1,h2,l1,l2,l3,List.head?_cons]
 simp
theorem QY:jP.laysLater=false:=by kernel_rfl
theorem QZ:jP.bearsReflect=false:=by kernel_rfl
theorem Qa:jP.doorFits []=true:=by kernel_rfl
theorem j1:(laidOutB jP)=true:=by kernel_rfl
theorem j2:(mapsRowed jP)=true:=by kernel_rfl
theorem j6:((jP.stops==[]))=true:=by kernel_rfl
theorem j8:((jP.stopKnobs==[]))=true:=by kernel_rfl
theorem Qb:(jP.stopsHeard)=true:=by kernel_rfl
theorem Qc:(jP.mayEnter)=true:=FU jh QY QZ Qa
noncomputable abbrev jC11:OpenClaim:=Rows.fnAllStepsRow
noncomputable abbrev jS11:ChangeSpec:=(OpenSpec.ofChange Rows.fnAllStepsSpec).bare
noncomputable abbrev jF11:Func:=Tryz.f11
theorem MY:(jC11.wf (OpenSpec.ofChange jS11))=true:=by kernel_rfl
theorem MZ:(jF11.params.all (jP.readableRec ·))=true:=by kernel_rfl
theorem Ma:(namedTie jP jC11.named jS11.vars)=true:=by kernel_rfl
theorem Mb:((jC11.stops==[]))=true:=by kernel_rfl
theorem Mc:((jC11.knobs==[]))=true:=by kernel_rfl
theorem Md:((jC11.inPlace==jP.inPlace 11))=true:=by kernel_rfl
theorem Jq:((jC11.unfollowed==jP.unfollowed 11))=true:=by kernel_rfl
theorem Jr:((jC11.recurses==jP.recurses 11))=true:=by kernel_rfl
theorem Js:((jC11.named==jP.varsNamed 11))=true:=by kernel_rfl
theorem Jt:((jC11.maps==(jF11.params.toList++jS11.plain.varTypes jP).any (jP.mapsRec ·)))=true:=by kernel_rfl
theorem Ju:((jC11.ifaces==(jF11.params.toList++jS11.plain.varTypes jP).any (jP.ifacesRec ·)))=true:=by kernel_rfl
theorem Jv:((jC11.mapsOut==jP.mapsAmong jF11.resultTypes.toList))=true:=by kernel_rfl
theorem Jx:((jC11.loops==(jF11.params.toList++jS11.plain.varTypes jP).any (jP.loopsFrom ·)))=true:=by kernel_rfl
theorem Jy:((jC11.wideKeys==(jF11.params.toList++jS11.plain.varTypes jP++jF11.resultTypes.toList).any (jP.wideKeysFrom ·)))=true:=by kernel_rfl
theorem Jz:(jS11.vars.all (jP.varReadable ·))=true:=by kernel_rfl
theorem J0:(jF11.resultTypes.all (fun t=>jP.readableRec t && decide (t<jP.types.size)))=true:=by kernel_rfl
theorem J1:((jC11.ifacesOut==jF11.resultTypes.toList.any (jP.ifacesRec ·)))=true:=by kernel_rfl
theorem J2:((jC11.loopsOut==jF11.resultTypes.toList.any (jP.loopsFrom ·)))=true:=by kernel_rfl
theorem J3:((jC11.plainKeys==jP.plainKeys))=true:=by kernel_rfl
theorem J4:(jC11.shortTexts.isNone)=true:=by kernel_rfl
theorem J5:((jC11.lifted==jP.liftsFinal))=true:=by rw [FS jh];kernel_rfl
theorem J6:((jP.make==some jC11.make))=true:=by rw [HP jh];kernel_rfl
theorem J7:((jC11.kinds==(if jC11.domain.isEmpty then []else jF11.params.toList.map fun t=>match jP.underlying t with|some (.int k)=>some k|_=>none)))=true:=by kernel_rfl
theorem J8:((jC11.pinned==jC11.pinnedBy))=true:=by kernel_rfl
theorem J9:((jC11.veiled==(jF11.params.toList++jS11.plain.varTypes jP++jF11.resultTypes.toList).any (jP.veiledRec ·)))=true:=by kernel_rfl
theorem KB:(jC11.veiledFits jP jF11.params.toList (jF11.params.toList++jS11.plain.varTypes jP++jF11.resultTypes.toList))=true:=by kernel_rfl
theorem KC:joinedFacts jP 11 jF11 jS11 jC11=true:=by
 unfold joinedFacts
 simp only [Bool.and_eq_true]
 exact⟨⟨⟨⟨⟨⟨⟨⟨⟨⟨⟨⟨⟨⟨⟨⟨⟨⟨⟨⟨⟨⟨⟨⟨⟨⟨⟨⟨⟨⟨⟨MY,j1⟩,j2⟩,MZ⟩,Ma⟩,Mb⟩,j6⟩,Mc⟩,j8⟩,Md⟩,Jq⟩,Jr⟩,Js⟩,Jt⟩,Ju⟩,Jv⟩,Jx⟩,Jy⟩,Jz⟩,J0⟩,J1⟩,J2⟩,J3⟩,J4⟩,Qb⟩,Qc⟩,J5⟩,J6⟩,J7⟩,J8⟩,J9⟩,KB⟩
theorem HQ:false=jC11.goesBy jP:=by kernel_rfl
theorem HR:jC11.wfByText (OpenSpec.ofChange Rows.fnAllStepsSpec)=true:=by kernel_rfl
def KD:Value:= .agg #[.int .i64 0, .int .i64 0, .string ⟨#[]⟩, .slice none 0 0, .slice none 0 0]
theorem HS{P:Program}{h s:List Char}{r:List (List Char)}(hw:wordsSigns P.initOrder.toList=h::s::r)(h1:h= "harness".toList)(h2:isSumSigns s=true):P.mainIs=some (true,s):=by
 unfold Program.mainIs
 rw [hw,h1]
 simp only [h2]
 rfl
theorem Qd:wordsSigns jP.initOrder.toList= "harness".toList:: "346520bae4b43cbc78de553922e6c372dabaf0bd005df9aafc629d77d30e4085".toList::jW.drop 2:=by rw [hW];kernel_rfl
theorem Oe:isSumSigns "346520bae4b43cbc78de553922e6c372dabaf0bd005df9aafc629d77d30e4085".toList=true:=by kernel_rfl
theorem Me:jP.mainIs=some (true, "346520bae4b43cbc78de553922e6c372dabaf0bd005df9aafc629d77d30e4085".toList):=HS Qd rfl Oe
theorem HT(os:Os){H:Type}(enc:TypeId×Value→H): ∃places,DataW.whole enc Tryz.prog ((dB os).forCall (fun _ _=>0) ⟨#[], #[KD],[]⟩).memory Tryz.f11.params.toList Rows.fnAllStepsSpec.vars false #[KD].toList 8=some ([.agg [.lit (.int .i64 0), .lit (.int .i64 0), .lit (.string []), .nil, .nil]],[],places):=
 ⟨[],by kernel_rfl⟩
theorem FV(os:Os)(started:os.Started)(H:Type)(enc:TypeId×Value→H)(F:Stop.Interp):
    ReturnsInHanded {} Tryz.checked os 11 .any ((OpenSpec.ofChange Rows.fnAllStepsSpec).preRow enc Tryz.prog Tryz.f11 Rows.fnAllStepsRow.domain false Rows.fnAllStepsRow.laid) (((OpenSpec.ofChange Rows.fnAllStepsSpec).at F).post enc Tryz.prog Tryz.f11 false true false false):=by
  obtain⟨places,hx⟩:=HT os enc
  refine returnsInHanded_of_row (C:=Tryz.checked) (s:=(OpenSpec.ofChange Rows.fnAllStepsSpec)) own started aF Tryz.func11
    (witness_row_atRef (enc:=enc) (C:=Tryz.checked) false (dB os) #[KD] rfl (FQ os _) aF aF
      (OpenSpec.preRow_of_cond 8 hx aF (fun k hk=>by cases hk) aF (FR os _))) ?_
  intro W base args ds gs before hval hW _ _ _ hL _ _
  exact zc H enc W base args ds gs before hval hW hL
theorem KE:Rows.FnAllStepsSaid:=
  OpenClaim.holds_of_cond 11 Tryz.f11 rfl rfl rfl rfl rfl rfl rfl ⟨rfl,rfl,rfl,rfl,rfl⟩ rfl rfl rfl rfl rfl aF Tryz.func11 KC
    (of_decide_eq_true aF) (by unfold Func.isWrapper;first|(rw [if_pos aD];kernel_rfl)|(rw [if_neg aD];exact⟨rfl,rfl⟩))
    (fun os started H enc _ F=>by rw [OpenClaim.pre_eq_preRow];exact FV os started H enc F)
theorem HU(f:FuncId)(fn:Func)(hf:Tryz.pinned.checked.prog.funcNamed "loop.example/pub-g01522/laws.FnAllSteps" =some f)(hfn:Tryz.pinned.checked.prog.funcs[f]? =some fn):
  true=Tryz.pinned.checked.prog.looks []∧ ∀ (j:Nat) t,fn.params[j]? =some t→Tryz.pinned.checked.prog.wantsStandIn t=false:=by
 obtain rfl:f=11:=Option.some.inj ((show Tryz.prog.funcNamed "loop.example/pub-g01522/laws.FnAllSteps" =some 11 by kernel_rfl).symm.trans hf)|>.symm
 obtain rfl:fn=Tryz.f11:=(Option.some.inj (Tryz.func11.symm.trans hfn)).symm
 refine⟨by kernel_rfl,fun j t ht=>?_⟩
 rw [Tryz.params11]at ht
 have hm:t∈ #[25]:=Array.mem_of_getElem? ht
 simp only [List.mem_toArray,List.mem_cons,List.not_mem_nil,or_false]at hm
 subst hm
 exact(show Tryz.prog.wantsStandIn 25=false by kernel_rfl)
theorem card11:Rows.FnAllStepsCardSaid:=
 Claim7.holds_tied_plain_at .later [] _ _ _ _ KE (fun _ h=>by cases h) HR (fun _ h=>by cases h) (Jo _ rfl rfl) rfl ⟨rfl,rfl⟩ Me rfl HU HQ
end Go.Jw
namespace Go.Proofs.YtlcfillobkdnmaaGreatDoor
/-- Whatever the input: the law FnAllSteps returns true, and what it reads, reads ags it did. -/
theorem fnAllSteps_holds:Rows.FnAllStepsCardSaid:=Go.Jw.card11
end Go.Proofs.YtlcfillobkdnmaaGreatDoor

