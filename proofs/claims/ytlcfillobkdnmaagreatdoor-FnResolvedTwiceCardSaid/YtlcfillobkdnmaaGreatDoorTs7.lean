/- What is resolved stays as it is when it is resolved again.: part 7, the proof's texts, made small by a program. -/
import Derived.Test.YtlcfillobkdnmaaGreatDoorTs6
import Derived.Test.YtlcfillobkdnmaaGreatDoorRows
import Derived.LaidByTextLater
import Derived.SevenTiedAt
import Derived.LaidSub
import Derived.LaidOnce
import Derived.Test.YtlcfillobkdnmaaGreatDoorCards
import Derived.OpenShut
import Derived.Deep.DeepHandedRow
import Derived.Deep.DeepWitnessRowRef
import Derived.ChangeMaps5
import Derived.RowKit
import Derived.DataWitness
import Derived.LaidLaws
set_option linter.unusedVariables false
set_option linter.unusedSimpArgs false
set_option maxHeartbeats 4000000
namespace Go.Jw
open Go Go.RowKit Go.Proofs Go.ChangeShapes Go.WideShapes Go.Proofs.YtlcfillobkdnmaaGreatDoor
set_option maxRecDepth 20000
section
variable {W:World}
noncomputable abbrev kP(W:World)(fuel:Nat)(t:TypeId)(cs:List Value):=DataW.trod (fun _=>()) Tryz.prog W 0 (fun _=>true) false fuel t cs
theorem mW{l:List (String×DataW Unit)}(h:laidMet Tryz.prog l W){n:String}{d:DataW Unit}(hm:(n,d)∈l){g t:Nat}(hg:Tryz.prog.globalNamed n=some g)(ht:(Tryz.prog.globals[g]?).map (·.type)=some t):
    ∃(c:Array Value) (fuel:Nat) (p:List MemPlace),(∀ (i:Nat) v,c.toList[i]? =some v→W.cell? ⟨g,i,none⟩=some v)∧kP W fuel t c.toList=some (d,p):=by
  obtain⟨ps,hv,_⟩:=h
  obtain⟨g',t',cs,fuel,p,h1,h2,h3,h4⟩:=fg hv hm
  obtain rfl:=Option.some.inj (hg.symm.trans h1)
  obtain rfl:=Option.some.inj (ht.symm.trans h2)
  refine⟨cs,fuel,p,fun i v hi=>?_,h4⟩
  unfold World.var? at h3
  rw [h1]at h3
  simp only [Option.bind_some]at h3
  unfold World.cell?
  cases hh:W.heap[g]? with
  |none=>rw [hh]at h3;cases h3
  |some o=>
    rw [hh]at h3
    cases o with
    |cells c T fz=>
      simp at h3
      subst h3
      simpa using hi
    |_=>simp at h3
theorem Ek{fuel:Nat}{t:TypeId}{cs:List Value}{x:DataW Unit×List MemPlace}(ht:Tryz.prog.underlying t=some (.float .f64))(h:kP W fuel t cs=some x): ∃b,cs=[.float .f64 b]∧x=(.lit (.float .f64 b),[]):=by
  cases fuel with
  |zero=>simp [kP,DataW.trod]at h
  |succ n=>
    unfold kP DataW.trod at h
    rw [ht]at h
    split at h<;>simp_all
theorem Jd:Tryz.prog.cellsOf 359=2:=by kernel_rfl
theorem Je:Tryz.prog.cellsOf 360=1392:=by kernel_rfl
theorem Jf:Tryz.prog.cellsOf 214=1:=by kernel_rfl
theorem HI{cs:List Value}{o:Nat}{v:Value}(h:(cs.drop o).take 1=[v]):cs[o]? =some v:=by
 have:=congrArg (·[0]?) h
 simpa [List.getElem?_take,List.getElem?_drop]using this
theorem El{fuel:Nat}{cs:List Value}{x:DataW Unit×List MemPlace}{a b:Int}(h:kP W fuel 359 cs=some x)(hx:x.1= .agg [.lit (.int .u64 a), .lit (.int .u64 b)]):cs[0]? =some (.int .u64 a)∧cs[1]? =some (.int .u64 b):=by
  obtain⟨xs,n,_,rfl,_,hl,hf⟩:=DataW.trod_struct Tryz.underlying359 h
  have h0:=hf 0 _ rfl
  have h1:=hf 1 _ rfl
  have hxs:xs.map (·.1)=[.lit (.int .u64 a), .lit (.int .u64 b)]:=by
    have:=hx
    simpa using this
  match xs,hxs with
  |[y0,y1],hxs=>
    simp only [List.map_cons,List.map_nil,List.cons.injEq,and_true]at hxs
    obtain⟨m0,e0,f0,_⟩:=DataW.trod_int Tryz.underlying235 h0
    obtain⟨m1,e1,f1,_⟩:=DataW.trod_int Tryz.underlying235 h1
    subst f0;subst f1
    simp only [DataW.lit.injEq,Lit.int.injEq,true_and]at hxs
    obtain⟨rfl,rfl⟩:=hxs
    exact⟨HI (o:=0) e0,HI (o:=1) e1⟩
theorem Cw{fuel:Nat}{cs:List Value}{p:List MemPlace}(h:kP W fuel 360 cs=some (Go.Pinned.pow10Tab,p))(i:Nat)(hi:i<696){a b:Nat}(hr:Go.Pinned.pow10Rows[i]? =some (a,b)):cs[2*i]? =some (.int .u64 a)∧cs[2*i+1]? =some (.int .u64 b):=by
  cases fuel with
  |zero=>simp [kP,DataW.trod]at h
  |succ fuel=>
    simp only [kP,DataW.trod,Tryz.underlying360,Jd,Je]at h
    split at h
    · obtain⟨xs,hm,hx⟩:=Option.map_eq_some_iff.1 h
      obtain⟨y,hy,hf⟩:=Lib.mapM_at hm i i (by simp [hi])
      have hxs:xs.map (·.1)=Go.Pinned.pow10Rows.map fun x=> .agg [.lit (.int .u64 x.1), .lit (.int .u64 x.2)]:=by
        have:=congrArg Prod.fst hx
        simpa [Go.Pinned.pow10Tab]using this
      have hy1:y.1= .agg [.lit (.int .u64 (a:Int)), .lit (.int .u64 (b:Int))]:=by
        have:=congrArg (·[i]?) hxs
        simp only [List.getElem?_map,hy,hr,Option.map_some,Option.some.injEq]at this
        exact this
      obtain⟨h0,h1⟩:=El hf hy1
      rw [List.getElem?_take,if_pos aC,List.getElem?_drop]at h0 h1
      rw [Nat.mul_comm 2 i]
      exact⟨h0,h1⟩
    · cases h
theorem HJ(i:Nat)(h:i<20):Lib.pow10Tab[i]? =some ((10^i:Nat):Int):=(show ∀ i,i<20→Lib.pow10Tab[i]? =some ((10^i:Nat):Int)by decide) i h
theorem g4:Tryz.prog.globalNamed "internal/strconv.optimize" =some 4:=by kernel_rfl
theorem NC:(Tryz.prog.globals[4]?).map (·.type)=some 4:=by kernel_rfl
theorem g5:Tryz.prog.globalNamed "internal/strconv.float64info" =some 5:=by kernel_rfl
theorem ND:(Tryz.prog.globals[5]?).map (·.type)=some 305:=by kernel_rfl
theorem NE:Tryz.prog.globalNamed "internal/strconv.float64pow10" =some 10:=by kernel_rfl
theorem LR:(Tryz.prog.globals[10]?).map (·.type)=some 349:=by kernel_rfl
theorem NF:Tryz.prog.globalNamed "internal/strconv.pow10Tab" =some 11:=by kernel_rfl
theorem LS:(Tryz.prog.globals[11]?).map (·.type)=some 360:=by kernel_rfl
theorem LT:Go.Pinned.pow10Rows[354]? =some (17592186044416000000,0):=by kernel_rfl
theorem LU:Go.Pinned.pow10Rows[355]? =some (10995116277760000000,0):=by kernel_rfl
theorem Jg{l:List (String×DataW Unit)}(h:laidMet Tryz.prog l W)(m0:("internal/strconv.uint64pow10",Rows.laid_internal_strconv_uint64pow10)∈l)(m4:("internal/strconv.optimize",Rows.laid_internal_strconv_optimize)∈l)
  (m5:("internal/strconv.float64info",Rows.laid_internal_strconv_float64info)∈l) (m10:("internal/strconv.float64pow10",Rows.laid_internal_strconv_float64pow10)∈l) (m11:("internal/strconv.pow10Tab",Rows.laid_internal_strconv_pow10Tab)∈l):
  ∃fb,(uc fb).p W (· <W.heap.size):=by
 obtain⟨c0,fu0,p0,k0,t0⟩:=mW h m0 gU gUt
 obtain⟨c4,fu4,p4,k4,t4⟩:=mW h m4 g4 NC
 obtain⟨c5,fu5,p5,k5,t5⟩:=mW h m5 g5 ND
 obtain⟨c10,fu10,p10,k10,t10⟩:=mW h m10 NE LR
 obtain⟨c11,fu11,p11,k11,t11⟩:=mW h m11 NF LS
 have e0:=Lib.cells_of_tab (zs:=Lib.pow10Tab) Tryz.underlying270 Tryz.underlying235 FZ Fa t0
 obtain⟨b4,e4,f4⟩:=DataW.trod_bool Tryz.underlying4 t4
 have hb4:b4=true:=by
  have:=congrArg Prod.fst f4
  simp only [Rows.laid_internal_strconv_optimize,DataW.lit.injEq,Lit.bool.injEq]at this
  exact this.symm
 obtain⟨xs5,n5,_,f5,_,_,hf5⟩:=DataW.trod_struct Tryz.underlying305 t5
 have h50:=hf5 0 _ rfl
 have hx5:(xs5.map (·.1))[0]? =some (.lit (.int .u64 52)):=by
  have:=congrArg Prod.fst f5
  simp only [Rows.laid_internal_strconv_float64info,DataW.agg.injEq]at this
  rw [←this];rfl
 rw [List.getElem?_map]at hx5
 obtain⟨y5,hy5,hy51⟩:=Option.map_eq_some_iff.1 hx5
 rw [hy5]at h50
 obtain⟨m5v,e5,fy5,_⟩:=DataW.trod_int Tryz.underlying206 h50
 have hm5:m5v=52:=by
  rw [fy5]at hy51
  simp only [DataW.lit.injEq,Lit.int.injEq,true_and]at hy51
  exact hy51
 obtain⟨h708,h709⟩:=Cw t11 354 aE LT
 obtain⟨h710,h711⟩:=Cw t11 355 aE LU
 rcases DataW.trod_slice Tryz.underlying349 t10 with ⟨_,hx⟩|⟨a,len,cap,elems,rest,n10,_,e10,f10,_,hlc,_,hel,hell,hrest,_⟩
 ·have:=congrArg Prod.fst hx
  simp [Rows.laid_internal_strconv_float64pow10]at this
 have hd:=congrArg Prod.fst f10
 simp only [Rows.laid_internal_strconv_float64pow10,DataW.slice.injEq]at hd
 obtain⟨hd1,hd2⟩:=hd
 have hlen:len=23:=by
  rw [←hel]
  have:=congrArg List.length hd1
  simpa using this.symm
 have hcap:cap=23:=by
  have h1:=(hrest rfl).1
  have h2:rest=[]:=List.map_eq_nil_iff.1 hd2.symm
  rw [h2]at h1
  simp only [List.length_nil]at h1
  omega
 have hfl: ∀ i m,i<23→(elems.map (·.1))[i]? =some (.lit (.float .f64 m))→W.cell? (a.add i)=some (.float .f64 m):=fun i m hi hm=>by
  rw [List.getElem?_map]at hm
  obtain⟨y,hy,hy1⟩:=Option.map_eq_some_iff.1 hm
  have h1:=hell i aC
  rw [hy,Jf,Nat.mul_one]at h1
  obtain⟨cs,hcs,ht⟩:=Option.bind_eq_some_iff.1 h1
  obtain⟨q,rfl,fq⟩:=Ek Tryz.underlying214 ht
  rw [fq]at hy1
  simp only [DataW.lit.injEq,Lit.float.injEq,true_and]at hy1
  subst hy1
  unfold World.cells? at hcs
  split at hcs
  ·obtain⟨v,hv,hv2⟩:=Lib.mapM_at hcs 0 0 rfl
   simp only [List.getElem?_cons_zero,Option.some.injEq]at hv
   rw [hv]
   simpa [Addr.add]using hv2
  ·cases hcs
 rw [←hd1]at hfl
 refine⟨a,Cu h m0,fun q hq=>?_⟩
 suffices hc:W.cell? q.1=some q.2 from⟨iT hc,hc⟩
 simp only [EA,List.cons_append,List.nil_append,List.mem_cons,List.mem_map,List.mem_range]at hq
 rcases hq with rfl|rfl|rfl|rfl|rfl|rfl|rfl|rfl|rfl|rfl|⟨i,hi,rfl⟩
 ·exact k4 0 _ (by rw [e4,hb4];rfl)
 ·exact k5 0 _ (by rw [←hm5];exact HI (o:=0) e5)
 ·exact k10 0 _ (by rw [e10,hlen,hcap];rfl)
 ·exact hfl 1 _ aE Z
 ·exact hfl 2 _ aE Z
 ·exact hfl 6 _ aE Z
 ·exact k11 708 _ h708
 ·exact k11 709 _ h709
 ·exact k11 710 _ h710
 ·exact k11 711 _ h711
 ·exact k0 i _ (by rw [e0,List.getElem?_map,HJ i hi];rfl)
end
end Go.Jw

namespace Go.Jw
open Go Go.Proofs Go.Proofs.YtlcfillobkdnmaaGreatDoor
set_option maxRecDepth 100000
theorem Cx:Tryz.prog.laidByTextLater (Rows.fnTextedRow.laid.take 11) [.data, .data, .widerDeep, .widerDeep, .data, .data, .data, .data, .data, .sentinel, .sentinel] true:=
 Program.laidByTextLater_by_one 91 8 65 aF aF aF aF aF aF (fun _ _=>by kernel_rfl)
theorem Em:Tryz.pinned.checked.prog.pinnedFits "internal/strconv.leftcheats" =true:=by kernel_rfl
theorem En:Tryz.pinned.checked.prog.pinnedFits "internal/strconv.pow10Tab" =true:=by kernel_rfl
theorem HK:Tryz.pinned.checked.prog.headLifts.contains "ownunsafe" =false:=by kernel_rfl
theorem Eo:Tryz.pinned.checked.prog.listedFits Rows.fnTextedRow.laid=true:=by
 unfold Program.listedFits
 rw [HK]
 kernel_rfl
theorem HL(c:OpenClaim)(hl:c.laid=Rows.fnTextedRow.laid)(hs:c.start= .entering):
    c.laidByTextAt .later Tryz.pinned [.data, .data, .widerDeep, .widerDeep, .data, .data, .data, .data, .data, .sentinel, .sentinel, .pinned, .pinned] true:=
  OpenClaim.laidByTextAt_pinned (by rw [hl];rfl) hs Cx rfl (by rw [hl];rfl) (by rw [hl];rfl) rfl (fun y hy _e=>by
    rw [hl]at hy
    simp only [Rows.fnTextedRow,List.zip_cons_cons,List.zip_nil_right,List.mem_cons,List.mem_nil_iff,or_false]at hy
    rcases hy with rfl|rfl|rfl|rfl|rfl|rfl|rfl|rfl|rfl|rfl|rfl|rfl|rfl
    iterate 11 exact nomatch _e
    exact⟨Em,by kernel_rfl⟩
    exact⟨En,by kernel_rfl⟩) (by rw [hl];exact Eo)
end Go.Jw

namespace Go.Jw
open Go Go.RowKit Go.Proofs Go.ChangeShapes Go.WideShapes Go.ChangeAt Go.Proofs.YtlcfillobkdnmaaGreatDoor
set_option maxRecDepth 8000
theorem mj{H:Type}{enc:TypeId×Value→H}{P:Program}{f:Func}{s:ChangeSpec}{apart fresh handsOn again:Bool}{W W':World}{args:Array Value}{v:Value}{ds gs:List (DataW H)}{before pa pv:List MemPlace}
  (hW:DataW.Whole enc P f.params.toList s.vars apart W args.toList ds gs before)
  (hres: ∀ (b:Nat) (sp:Nat→Bool) (hd:Bool),DataW.TrodAll enc P W' b sp hd f.resultTypes.toList (v.resultList f.resultTypes.size) (s.fn H (ds++gs)).results [])
  (hargs: ∀ sp:Nat→Bool,(∀ p∈before,sp p.block=true)→DataW.TrodAll enc P W' 0 sp true f.params.toList args.toList (s.fn H (ds++gs)).args pa)
  (hvars: ∀ sp:Nat→Bool,(∀ p∈before,sp p.block=true)→DataW.TrodVars enc P W' sp s.vars (s.fn H (ds++gs)).vars pv)
  (hps:before=pa++pv) (hb:Below W.heap.size W W')
  (hok: ∀ (j:Nat) (t:TypeId) (r:Value),f.resultTypes[j]? =some t→(v.resultList f.resultTypes.size)[j]? =some r→Value.okWide P W' .any 0 t r):
  s.post enc P f apart fresh handsOn again W args v W':=by
 have hlt:=hW.lt
 have hold: ∀ p∈before,(fun b=>decide (b<W.heap.size)) p.block=true:=fun p hp=>by simpa using hlt p hp
 refine⟨ds,gs,before,[],pa,pv,hW,hres _ _ _,hargs _ hold,hvars _ hold,hb.frame _,fun _=>?_⟩
 obtain⟨_,_,_,_,_,hz,hn⟩:=hW
 refine⟨hok,_,_,([]++pa)++pv,⟨[]++pa,pv,trodAll_append (hargs _ (fun _ _=>rfl)) (hres _ _ _),hvars _ (fun _ _=>rfl),rfl,?_,?_⟩,?_⟩
 ·intro b off hp
  have hp':MemPlace.cell b off∈before:=by rw [hps];simpa using hp
  rw [hb.frozen (p:=⟨b,off,none⟩) (hlt _ hp')]
  exact hz b off hp'
 ·intro ha
  have:=hn ha
  rw [hps]at this
  simpa using this
 ·intro p hp _
  rw [hps]
  simpa using hp
theorem own:ownKnob Tryz.prog.godebug=none:=by kernel_rfl
theorem LV:Tryz.prog.readableRec 25=true:=by kernel_rfl
theorem LW:25<Tryz.prog.types.size:=of_decide_eq_true aF
theorem HM(W:World):laidMetH Tryz.prog Rows.fnTextedUptoRow.laid W=laidMet Tryz.prog Rows.fnTextedUptoRow.laid W:=by kernel_rfl
end Go.Jw

namespace Go.Jw
open Go Go.RowKit Go.Proofs Go.ChangeShapes Go.WideShapes Go.ChangeAt Go.Proofs.YtlcfillobkdnmaaGreatDoor
set_option maxRecDepth 100000
theorem u3(H:Type)(enc:TypeId×Value→H)(W:World)(base:Nat)(args:Array Value)(ds gs:List (DataW H))(before:List MemPlace)
  (hval: ∀ (j:Nat) t v,Tryz.f18.params[j]? =some t→args[j]? =some v→Value.okWide Tryz.prog W .any base t v)
  (hW:DataW.Whole enc Tryz.prog Tryz.f18.params.toList Rows.fnResolvedTwiceSpec.vars false W args.toList ds gs before) (hL:laidMetH Tryz.prog Rows.fnResolvedTwiceRow.laid W):
  Calls Tryz.prog 18 args W fun e W'=> ∃v,e= .returned v∧Rows.fnResolvedTwiceSpec.post enc Tryz.prog Tryz.f18 false true false false W args v W':=by
 have hW':=hW
 obtain⟨p,q,hA0,hV,rfl,hfz,hnd⟩:=hW
 have hA:DataW.TrodAll enc Tryz.prog W 0 (fun _=>true) true Tryz.f18.params.toList args.toList ds p:=hA0
 rw [Tryz.params18]at hA hval
 obtain⟨v0,d0,rfl,rfl,h0⟩:=trodAll_one hA
 have hvo0:=hval 0 25 v0 rfl rfl
 unfold Value.okWide at hvo0
 rw [Tryz.underlying25]at hvo0
 obtain⟨cs0,rfl,_⟩:=hvo0
 obtain⟨fuel0,hf0⟩:=id h0
 obtain⟨t0,hv0,_⟩:=r6 fuel0 _ _ hf0
 have hv0':ValP W (· <W.heap.size) t0 (.agg cs0):=by simpa [Value.cells]using hv0
 obtain⟨rfl,rfl⟩:=trodVars_none hV
 clear hA0
 simp only [List.append_nil]at hW'
 have hL':laidMet Tryz.prog Rows.fnTextedUptoRow.laid W:=by rw [←HM];exact hL
 have htab:=Cu hL' (.tail _ (.tail _ (.tail _ (.tail _ (.tail _ (.tail _ (.tail _ (.tail _ (.head _)))))))))
 obtain⟨fb,hft⟩:=Jg hL' (.tail _ (.tail _ (.tail _ (.tail _ (.tail _ (.tail _ (.tail _ (.tail _ (.head _))))))))) (.tail _ (.tail _ (.tail _ (.tail _ (.head _))))) (.tail _ (.tail _ (.tail _ (.head _)))) (.tail _ (.tail _ (.tail _ (.tail _ (.tail _ (.tail _ (.head _)))))))
  (.tail _ (.tail _ (.tail _ (.tail _ (.tail _ (.tail _ (.tail _ (.tail _ (.tail _ (.tail _ (.tail _ (.tail _ (.head _)))))))))))))
 have hc:=Cv (W:=W) (l18 fb t0 (.agg cs0)) (by
  intro d hd
  rcases List.mem_cons.1 hd with rfl|hd
  ·exact hv0'
  rcases List.mem_cons.1 hd with rfl|hd
  ·exact htab
  rcases List.mem_cons.1 hd with rfl|hd
  ·exact hft
  ·cases hd)
 refine hc.mono fun e W' ⟨he,hb⟩=>?_
 subst he
 have hlt:=hW'.lt
 exact⟨_,rfl,mj (pa:=p) (pv:=[]) hW' (fun _ _ _=>trodAll_cons_mk (shut_bool Tryz.underlying4 _) trodAll_mk0)
  (fun sp hs=>trodAll_mk1 (Go.WideElems.Trod_stays Ej LV LW h0 (fun x hx=>hb.same (hlt x (by simp [hx]))) (fun x hx=>hs x (by simp [hx])))) (fun _ _=>rfl) aJ hb (ok_one aF rfl (okWide_bool_mk Tryz.underlying4 _))⟩
end Go.Jw

namespace Go.Jw
open Go Go.RowKit Go.Proofs Go.ChangeShapes Go.WideShapes Go.Proofs.YtlcfillobkdnmaaGreatDoor
set_option maxRecDepth 100000
def jz(h:Array Obj)(g:Nat)(cs:List Value):Array Obj:=h.modify g fun
  | .cells _ t fr=> .cells cs.toArray t fr
  |o=>o
def xj:Array Obj:= #[.cells #[.string ⟨#[105,110,118,97,108,105,100,32,115,121,110,116,97,120]⟩] 228 (0,0), .cells #[.string ⟨#[118,97,108,117,101,32,111,117,116,32,111,102,32,114,97,110,103,101]⟩] 228 (0,0),
 .cells ([.float .f32 1065353216, .float .f32 1092616192, .float .f32 1120403456, .float .f32 1148846080, .float .f32 1176256512, .float .f32 1203982336, .float .f32 1232348160, .float .f32 1259902592, .float .f32 1287568416, .float .f32 1315859240, .float .f32 1343554297]:List Value).toArray 288 (0,0), .cells ([.int .i64 1, .int .i64 3, .int .i64 6, .int .i64 9, .int .i64 13, .int .i64 16, .int .i64 19, .int .i64 23, .int .i64 26]:List Value).toArray 3 (0,0), .cells ([.float .f64 4607182418800017408, .float .f64 4621819117588971520, .float .f64 4636737291354636288, .float .f64 4652007308841189376, .float .f64 4666723172467343360, .float .f64 4681608360884174848, .float .f64 4696837146684686336, .float .f64 4711630319722168320, .float .f64 4726483295884279808, .float .f64 4741671816366391296, .float .f64 4756540486875873280, .float .f64 4771362005757984768, .float .f64 4786511204640096256, .float .f64 4801453603149578240, .float .f64 4816244402031689728, .float .f64 4831355200913801216, .float .f64 4846369599423283200, .float .f64 4861130398305394688, .float .f64 4876203697187506176, .float .f64 4891288408196988160, .float .f64 4906019910204099648, .float .f64 4921056587992461136, .float .f64 4936209963552724370]:List Value).toArray 214 (0,0),
 .cells (Pinned.cheatRows.flatMap fun x=>[Value.int .i64 x.1,Value.string ⟨x.2.toArray⟩]).toArray 365 (0,0)]
noncomputable def cc(os:Os):World:={World.holding Tryz.prog os ⟨xj, #[],[]⟩with heap:=(jz (jz (jz (jz (jz (jz (jz (jz (jz (jz (jz (jz (jz (World.holding Tryz.prog os ⟨xj, #[],[]⟩).heap 0 [.int .u64 1, .int .u64 10, .int .u64 100, .int .u64 1000, .int .u64 10000, .int .u64 100000, .int .u64 1000000, .int .u64 10000000, .int .u64 100000000, .int .u64 1000000000, .int .u64 10000000000, .int .u64 100000000000, .int .u64 1000000000000, .int .u64 10000000000000, .int .u64 100000000000000, .int .u64 1000000000000000, .int .u64 10000000000000000, .int .u64 100000000000000000, .int .u64 1000000000000000000, .int .u64 10000000000000000000]) 1 [.iface 226 (.pointer (some ⟨18,0,none⟩))]) 2 [.iface 226 (.pointer (some ⟨19,0,none⟩))]) 3 [.int .u64 23, .int .u64 8, .int .i64 (-127)]) 4 [.bool true]) 5 [.int .u64 52, .int .u64 11, .int .i64 (-1023)]) 6 [.int .u8 0, .int .u8 1, .int .u8 28, .int .u8 2, .int .u8 29, .int .u8 14, .int .u8 24, .int .u8 3, .int .u8 30, .int .u8 22, .int .u8 20, .int .u8 15, .int .u8 25, .int .u8 17, .int .u8 4, .int .u8 8, .int .u8 31, .int .u8 27, .int .u8 13, .int .u8 23, .int .u8 21, .int .u8 19, .int .u8 16, .int .u8 7, .int .u8 26, .int .u8 12, .int .u8 18, .int .u8 6, .int .u8 11, .int .u8 5, .int .u8 10, .int .u8 9]) 7 [.int .u8 0, .int .u8 1, .int .u8 56, .int .u8 2, .int .u8 57, .int .u8 49, .int .u8 28, .int .u8 3, .int .u8 61, .int .u8 58, .int .u8 42, .int .u8 50, .int .u8 38, .int .u8 29, .int .u8 17, .int .u8 4, .int .u8 62, .int .u8 47, .int .u8 59, .int .u8 36, .int .u8 45, .int .u8 43, .int .u8 51, .int .u8 22, .int .u8 53, .int .u8 39, .int .u8 33, .int .u8 30, .int .u8 24, .int .u8 18, .int .u8 12, .int .u8 5, .int .u8 63, .int .u8 55, .int .u8 48, .int .u8 27, .int .u8 60, .int .u8 41, .int .u8 37, .int .u8 16, .int .u8 46, .int .u8 35, .int .u8 44, .int .u8 21, .int .u8 52, .int .u8 32, .int .u8 23, .int .u8 11, .int .u8 54, .int .u8 26, .int .u8 40, .int .u8 15, .int .u8 34, .int .u8 20, .int .u8 31, .int .u8 10, .int .u8 25, .int .u8 14, .int .u8 19, .int .u8 9, .int .u8 13, .int .u8 8, .int .u8 7, .int .u8 6]) 8 [.slice (some ⟨20,0,none⟩) 11 11]) 9 [.slice (some ⟨21,0,none⟩) 9 9]) 10 [.slice (some ⟨22,0,none⟩) 23 23]) 11 (Pinned.pow10Rows.flatMap fun x=>[Value.int .u64 x.1,Value.int .u64 x.2])) 12 [.slice (some ⟨23,0,none⟩) Pinned.cheatRows.length Pinned.cheatRows.length])}
def NG(bs:List Nat)(ps:List MemPlace):Bool:=ps.all fun
  | .cell b _=>bs.contains b
  | .map _=>true
end Go.Jw

namespace Go.Jw
open Go Go.RowKit Go.Proofs Go.Proofs.YtlcfillobkdnmaaGreatDoor
set_option maxRecDepth 100000
theorem Cy{P:Program}{w:World}{t u:TypeId}{cs:List Value}{n:Nat}(ht:P.cellTypes P.depth t=some (List.replicate n u))(hn:cs.length=n)(h0:0<n)(h:cs.all (Cell.okRefB P w u)=true):Row.okRefB P w t cs.toArray=true:=by
 unfold Row.okRefB
 rw [ht]
 simp only [List.length_replicate,List.size_toArray,Bool.and_eq_true,List.all_eq_true,List.mem_range]
 refine⟨by rw [hn];simp,fun i hi=>?_⟩
 have hm:i%n<n:=Nat.mod_lt _ h0
 rw [List.getElem?_toArray,List.getElem?_eq_getElem hi,List.getElem?_replicate,if_pos hm]
 exact List.all_eq_true.1 h _ (List.getElem_mem hi)
def hZ(P:Program)(w₀ w:World)(g:Nat):Bool:=match (w₀.heap[g]?).bind Obj.row? with
  |none=>true
  |some (zero,t)=>match w.heap[g]? with
    |some (.cells cs t' frozen)=>decide (t'=t) && decide (frozen=(0,0)) && cs.size==zero.size && (!P.buildable t||Row.okRefB P w t cs)
    |_=>false
theorem Ep{P:Program}{w:World}(h: ∀ g,g<P.globals.size→hZ P (begin P (fun _ _=>0) default).world w g=true):w.variablesRefB P=true:=by
 unfold World.variablesRefB
 exact List.all_eq_true.2 fun g hg=>h g (List.mem_range.1 hg)
theorem Er{P:Program}{w₀ w:World}{g:Nat}{zero:Array Value}{t:TypeId}{cs:List Value}(h0:(w₀.heap[g]?).bind Obj.row? =some (zero,t))(h1:w.heap[g]? =some (.cells cs.toArray t (0,0)))(hz:cs.length=zero.size)(h2:Row.okRefB P w t cs.toArray=true):hZ P w₀ w g=true:=by
 unfold hZ
 rw [h0,h1]
 simp [hz,h2]
theorem NH(os:Os)(args:Array Value):hZ Tryz.prog (begin Tryz.prog (fun _ _=>0) default).world ((cc os).forCall (fun _ _=>0) ⟨#[],args,[]⟩) 0=true:=by kernel_rfl
theorem NI(os:Os)(args:Array Value):hZ Tryz.prog (begin Tryz.prog (fun _ _=>0) default).world ((cc os).forCall (fun _ _=>0) ⟨#[],args,[]⟩) 1=true:=by kernel_rfl
theorem NJ(os:Os)(args:Array Value):hZ Tryz.prog (begin Tryz.prog (fun _ _=>0) default).world ((cc os).forCall (fun _ _=>0) ⟨#[],args,[]⟩) 2=true:=by kernel_rfl
theorem NK(os:Os)(args:Array Value):hZ Tryz.prog (begin Tryz.prog (fun _ _=>0) default).world ((cc os).forCall (fun _ _=>0) ⟨#[],args,[]⟩) 3=true:=by kernel_rfl
theorem NL(os:Os)(args:Array Value):hZ Tryz.prog (begin Tryz.prog (fun _ _=>0) default).world ((cc os).forCall (fun _ _=>0) ⟨#[],args,[]⟩) 4=true:=by kernel_rfl
theorem NM(os:Os)(args:Array Value):hZ Tryz.prog (begin Tryz.prog (fun _ _=>0) default).world ((cc os).forCall (fun _ _=>0) ⟨#[],args,[]⟩) 5=true:=by kernel_rfl
theorem NN(os:Os)(args:Array Value):hZ Tryz.prog (begin Tryz.prog (fun _ _=>0) default).world ((cc os).forCall (fun _ _=>0) ⟨#[],args,[]⟩) 6=true:=by kernel_rfl
theorem NO(os:Os)(args:Array Value):hZ Tryz.prog (begin Tryz.prog (fun _ _=>0) default).world ((cc os).forCall (fun _ _=>0) ⟨#[],args,[]⟩) 7=true:=by kernel_rfl
theorem NP(os:Os)(args:Array Value):hZ Tryz.prog (begin Tryz.prog (fun _ _=>0) default).world ((cc os).forCall (fun _ _=>0) ⟨#[],args,[]⟩) 8=true:=by kernel_rfl
theorem NQ(os:Os)(args:Array Value):hZ Tryz.prog (begin Tryz.prog (fun _ _=>0) default).world ((cc os).forCall (fun _ _=>0) ⟨#[],args,[]⟩) 9=true:=by kernel_rfl
theorem LX(os:Os)(args:Array Value):hZ Tryz.prog (begin Tryz.prog (fun _ _=>0) default).world ((cc os).forCall (fun _ _=>0) ⟨#[],args,[]⟩) 10=true:=by kernel_rfl
theorem LY(os:Os)(args:Array Value):hZ Tryz.prog (begin Tryz.prog (fun _ _=>0) default).world ((cc os).forCall (fun _ _=>0) ⟨#[],args,[]⟩) 12=true:=by kernel_rfl
def pw:List Value:=Pinned.pow10Rows.flatMap fun x=>[Value.int .u64 x.1,Value.int .u64 x.2]
theorem LZ: ∃zero,((begin Tryz.prog (fun _ _=>0) default).world.heap[11]?).bind Obj.row? =some (zero,360)∧zero.size=1392:=⟨(Array.replicate 1392 (.int .u64 0)),by kernel_rfl,by kernel_rfl⟩
theorem La(os:Os)(args:Array Value):((cc os).forCall (fun _ _=>0) ⟨#[],args,[]⟩).heap[11]? =some (.cells pw.toArray 360 (0,0)):=by kernel_rfl
theorem Lb:Tryz.prog.cellTypes Tryz.prog.depth 360=some (List.replicate 1392 235):=by kernel_rfl
theorem Jh:pw.length=1392:=by kernel_rfl
theorem Lc(w:World):pw.all (Cell.okRefB Tryz.prog w 235)=true:=by kernel_rfl
theorem Ld(os:Os)(args:Array Value):hZ Tryz.prog (begin Tryz.prog (fun _ _=>0) default).world ((cc os).forCall (fun _ _=>0) ⟨#[],args,[]⟩) 11=true:=by
 obtain⟨z,h0,hz⟩:=LZ
 exact Er h0 (La os args) (by rw [hz];exact Jh) (Cy Lb Jh aE (Lc _))
theorem Cz(os:Os)(args:Array Value):World.variablesRefB Tryz.prog ((cc os).forCall (fun _ _=>0) ⟨#[],args,[]⟩)=true:=Ep fun g hg=>by
  have h13:Tryz.prog.globals.size=13:=by kernel_rfl
  rw [h13]at hg
  match g,hg with
  |0,_=>exact NH os args
  |1,_=>exact NI os args
  |2,_=>exact NJ os args
  |3,_=>exact NK os args
  |4,_=>exact NL os args
  |5,_=>exact NM os args
  |6,_=>exact NN os args
  |7,_=>exact NO os args
  |8,_=>exact NP os args
  |9,_=>exact NQ os args
  |10,_=>exact LX os args
  |11,_=>exact Ld os args
  |12,_=>exact LY os args
end Go.Jw

namespace Go.Jw
open Go Go.RowKit Go.Proofs Go.ChangeShapes Go.WideShapes Go.Proofs.YtlcfillobkdnmaaGreatDoor
set_option maxRecDepth 100000
section
variable {P:Program} {w:World}
theorem fh{α β:Type}{f:α→Option β}{h:α→β}: ∀ (l:List α),(∀ x∈l,f x=some (h x))→l.mapM f=some (l.map h)
  |[],_=>rfl
  |a::l,H=>by
    rw [List.mapM_cons,H a List.mem_cons_self,fh l (fun x hx=>H x (List.mem_cons_of_mem _ hx))]
    rfl
theorem j0{b off:Nat}{T:TypeId}{cs:List Value}(h:w.heap[b]? =some (.cells cs.toArray T (0,0))):w.cell? ⟨b,off,none⟩=cs[off]? :=by
 unfold World.cell?
 simp [h]
theorem u5{b off n:Nat}{T:TypeId}{cs:List Value}(h:w.heap[b]? =some (.cells cs.toArray T (0,0)))(hn:off+n≤cs.length):w.cells? 0 ⟨b,off,none⟩ n=some ((cs.drop off).take n):=by
  unfold World.cells?
  rw [if_pos (Nat.zero_le _),fh (h:=fun i=>cs.getD (off+i) (.bool false)) (List.range n) (fun i hi=>?_)]
  · congr 1
    apply List.ext_getElem?
    intro j
    rw [List.getElem?_map,List.getElem?_take,List.getElem?_drop]
    by_cases hj:j<n
    · rw [if_pos hj,List.getElem?_range hj]
      simp [List.getD_eq_getElem?_getD,List.getElem?_eq_getElem (show off+j<cs.length by omega)]
    · rw [if_neg hj,List.getElem?_eq_none bi]
      rfl
  · have hi':=List.mem_range.1 hi
    have:(⟨b,off,none⟩:Addr).add i=⟨b,off+i,none⟩:=by
      unfold Addr.add
      by_cases h0:i=0
      · subst h0;rfl
      · rw [if_neg h0]
    rw [this,j0 h,List.getD_eq_getElem?_getD,List.getElem?_eq_getElem (show off+i<cs.length by omega)]
    rfl
variable {H:Type} {enc:TypeId×Value→H} {sp:Nat→Bool} {held:Bool}
theorem kR{fuel:Nat}{t e:TypeId}{b n k:Nat}{T:TypeId}{cs:List Value}{g:Nat→DataW H}(ht:P.underlying t=some (.slice e))(hk:P.cellsOf e=k)(hb:w.heap[b]? =some (.cells cs.toArray T (0,0)))(hl:cs.length=n*k)(hn:n≤maxLen)
  (he: ∀ i,i<n→DataW.trod enc P w 0 sp held fuel e ((cs.drop (i*k)).take k)=some (g i,[])):DataW.trod enc P w 0 sp held (fuel+1) t [.slice (some ⟨b,0,none⟩) n n]=some (.slice ((List.range n).map g) [],MemPlace.row ⟨b,0,none⟩ (n*k)):=by
 subst hk
 have hel: ∀ i∈List.range n,(w.cells? 0 ((⟨b,0,none⟩:Addr).add (i*P.cellsOf e)) (P.cellsOf e)).bind (DataW.trod enc P w 0 sp held fuel e)=some ((g i,[]):DataW H×List MemPlace):=by
  intro i hi
  have hi':=List.mem_range.1 hi
  have:(⟨b,0,none⟩:Addr).add (i*P.cellsOf e)=⟨b,i*P.cellsOf e,none⟩:=by
   unfold Addr.add
   by_cases h0:i*P.cellsOf e=0
   ·rw [if_pos h0,h0]
   ·rw [if_neg h0,Nat.zero_add]
  have hle:i*P.cellsOf e+P.cellsOf e≤cs.length:=by
   rw [hl]
   have:=Nat.mul_le_mul_right (P.cellsOf e) (show i+1≤n by omega)
   rw [Nat.succ_mul]at this
   exact this
  rw [this,u5 hb hle,Option.bind_some,he i hi']
 unfold DataW.trod
 simp only [ht]
 rw [if_pos ⟨Nat.zero_le _,Nat.le_refl _,hn⟩,fh _ hel]
 simp [Nat.sub_self]
theorem r7{fuel:Nat}{t e:TypeId}{n k:Nat}{cs:List Value}{g:Nat→DataW H}(ht:P.underlying t=some (.array n e))(hk:P.cellsOf e=k)(hl:cs.length=P.cellsOf t)
  (he: ∀ i,i<n→DataW.trod enc P w 0 sp held fuel e ((cs.drop (i*k)).take k)=some (g i,[])):DataW.trod enc P w 0 sp held (fuel+1) t cs=some (.agg ((List.range n).map g),[]):=by
 subst hk
 have hel: ∀ i∈List.range n,DataW.trod enc P w 0 sp held fuel e ((cs.drop (i*P.cellsOf e)).take (P.cellsOf e))=some ((g i,[]):DataW H×List MemPlace):=fun i hi=>he i (List.mem_range.1 hi)
 unfold DataW.trod
 simp only [ht]
 rw [if_pos hl,fh _ hel]
 simp
theorem uI{n:String}{d:DataW Unit}{r:List (String×DataW Unit)}{p q:List MemPlace}{g t T:Nat}{cs:List Value}(fuel:Nat)(hg:P.globalNamed n=some g)(ht:(P.globals[g]?).map (·.type)=some t)(hh:w.heap[g]? =some (.cells cs.toArray T (0,0)))
  (hd:DataW.trod (fun _=>()) P w 0 (fun _=>true) false fuel t cs=some (d,p)) (hr:DataW.LaidVars P w r q):DataW.LaidVars P w ((n,d)::r) (MemPlace.row ⟨g,0,none⟩ cs.length++p++q):=
 ⟨g,t,cs.toArray,fuel,p,q,hg,ht,by unfold World.var?;rw [hg];simp [hh],by simpa using hd,hr,by simp⟩
def Es:Value→Bool
  | .iface .. =>false
  |_=>true
theorem wR{b off:Nat}{T:TypeId}{cs:List Value}(h:w.heap[b]? =some (.cells cs.toArray T (0,0)))(hn:cs.all Es=true):
  (∃c t,w.heap[b]? =some (.cells c t (0,0)))∧ ∀ u v,w.cell? ⟨b,off,none⟩=some (.iface u v)→Value.okWide P w .any 0 u v:=by
 refine⟨⟨_,_,h⟩,fun u v hc=>?_⟩
 rw [j0 h]at hc
 have:=List.all_eq_true.1 hn _ (List.mem_of_getElem? hc)
 cases this
theorem nZ{b off:Nat}{T u:TypeId}{v:Value}(h:w.heap[b]? =some (.cells [.iface u v].toArray T (0,0)))(hn:Value.okWideB P w u v=true):
  (∃c t,w.heap[b]? =some (.cells c t (0,0)))∧ ∀ u' v',w.cell? ⟨b,off,none⟩=some (.iface u' v')→Value.okWide P w .any 0 u' v':=by
 refine⟨⟨_,_,h⟩,fun u' v' hc=>?_⟩
 rw [j0 h]at hc
 have:=List.mem_of_getElem? hc
 simp only [List.mem_singleton,Value.iface.injEq]at this
 obtain⟨rfl,rfl⟩:=this
 exact Value.okWide_of_okWideB hn
end
theorem mX{α:Type}(f:α→List Value)(k:Nat)(hf: ∀ x,(f x).length=k): ∀ (l:List α) (i:Nat) (h:i<l.length),((l.flatMap f).drop (i*k)).take k=f l[i]
  |[],i,h=>by simp at h
  |x::l,0,_=>by simp [List.flatMap_cons,←hf x]
  |x::l,i+1,h=>by
    rw [List.flatMap_cons,Nat.succ_mul,Nat.add_comm,←List.drop_drop,List.drop_append_of_le_length (by rw [hf x];exact Nat.le_refl _),←hf x,List.drop_length,List.nil_append,hf x]
    exact mX f k hf l i bm
theorem na{α:Type}(f:α→List Value)(k:Nat)(hf: ∀ x,(f x).length=k)(l:List α):(l.flatMap f).length=l.length*k:=by
  induction l with
  |nil=>simp
  |cons x l ih=>rw [List.flatMap_cons,List.length_append,hf,ih,List.length_cons,Nat.succ_mul,Nat.add_comm]
theorem iU{α β:Type}[Inhabited α](f:α→β)(l:List α):(List.range l.length).map (fun i=>f (l.getD i default))=l.map f:=by
  apply List.ext_getElem?
  intro j
  rw [List.getElem?_map,List.getElem?_map]
  by_cases h:j<l.length
  · rw [List.getElem?_range h,List.getElem?_eq_getElem h]
    simp [List.getD_eq_getElem?_getD,h]
  · rw [List.getElem?_eq_none bm,List.getElem?_eq_none bm]
    rfl
def iV:Value→DataW Unit
  | .int k n=> .lit (.int k n)
  | .float k b=> .lit (.float k b)
  |_=> .nil
def nc(d:TypeDesc):Value→Bool
  | .int k n=>(match d with| .int k'=>decide (k=k')|_=>false) && (Lit.int k n).wf
  | .float k n=>(match d with| .float k'=>decide (k=k')|_=>false) && (Lit.float k n).wf
  |_=>false
theorem g9{P:Program}{w:World}{sp:Nat→Bool}{held:Bool}{fuel:Nat}{e:TypeId}{d:TypeDesc}{v:Value}(he:P.underlying e=some d)(h:nc d v=true):DataW.trod (fun _=>()) P w 0 sp held (fuel+1) e [v]=some (iV v,[]):=by
 unfold DataW.trod
 cases v<;>simp [nc]at h<;>cases d<;>simp at h<;>(obtain⟨rfl,h2⟩:=h;simp [he,iV,h2])
theorem gX{P:Program}{w:World}{fuel:Nat}{t e:TypeId}{d:TypeDesc}{b n:Nat}{T:TypeId}{cs:List Value}(ht:P.underlying t=some (.slice e))(he:P.underlying e=some d)(hk:P.cellsOf e=1)(hb:w.heap[b]? =some (.cells cs.toArray T (0,0)))(hl:cs.length=n)(hn:n≤maxLen)(hs:cs.all (nc d)=true):
    DataW.trod (fun _=>()) P w 0 (fun _=>true) false (fuel+2) t [.slice (some ⟨b,0,none⟩) n n]=some (.slice (cs.map iV) [],MemPlace.row ⟨b,0,none⟩ n):=by
  subst hl
  have:=kR (P:=P) (w:=w) (enc:=fun _=>()) (sp:=fun _=>true) (held:=false) (fuel:=fuel+1) (k:=1) (n:=cs.length) (g:=fun i=>iV (cs.getD i (.bool false))) ht hk hb aC hn (fun i hi=>by
    have h1:(cs.drop (i*1)).take 1=[cs[i]]:=by rw [Nat.mul_one,List.drop_eq_getElem_cons hi];rfl
    rw [h1,g9 he (List.all_eq_true.1 hs _ (List.getElem_mem hi)),List.getD_eq_getElem?_getD,List.getElem?_eq_getElem hi]
    rfl)
  rw [this,Nat.mul_one]
  congr 2
  have h2:(List.range cs.length).map (fun i=>iV (cs.getD i (.bool false)))=cs.map iV:= @iU _ _ ⟨.bool false⟩ iV cs
  rw [h2]
def Hq(x:Nat×Nat):List Value:=[Value.int .u64 x.1,Value.int .u64 x.2]
def Hr(x:Nat×List UInt8):List Value:=[Value.int .i64 x.1,Value.string ⟨x.2.toArray⟩]
def wc0:List Value:=[.int .u64 1, .int .u64 10, .int .u64 100, .int .u64 1000, .int .u64 10000, .int .u64 100000, .int .u64 1000000, .int .u64 10000000, .int .u64 100000000, .int .u64 1000000000, .int .u64 10000000000, .int .u64 100000000000, .int .u64 1000000000000, .int .u64 10000000000000, .int .u64 100000000000000, .int .u64 1000000000000000, .int .u64 10000000000000000, .int .u64 100000000000000000, .int .u64 1000000000000000000, .int .u64 10000000000000000000]
def wc1:List Value:=[.iface 226 (.pointer (some ⟨18,0,none⟩))]
def wc2:List Value:=[.iface 226 (.pointer (some ⟨19,0,none⟩))]
def wc3:List Value:=[.int .u64 23, .int .u64 8, .int .i64 (-127)]
def wc4:List Value:=[.bool true]
def wc5:List Value:=[.int .u64 52, .int .u64 11, .int .i64 (-1023)]
def wc6:List Value:=[.int .u8 0, .int .u8 1, .int .u8 28, .int .u8 2, .int .u8 29, .int .u8 14, .int .u8 24, .int .u8 3, .int .u8 30, .int .u8 22, .int .u8 20, .int .u8 15, .int .u8 25, .int .u8 17, .int .u8 4, .int .u8 8, .int .u8 31, .int .u8 27, .int .u8 13, .int .u8 23, .int .u8 21, .int .u8 19, .int .u8 16, .int .u8 7, .int .u8 26, .int .u8 12, .int .u8 18, .int .u8 6, .int .u8 11, .int .u8 5, .int .u8 10, .int .u8 9]
def wc7:List Value:=[.int .u8 0, .int .u8 1, .int .u8 56, .int .u8 2, .int .u8 57, .int .u8 49, .int .u8 28, .int .u8 3, .int .u8 61, .int .u8 58, .int .u8 42, .int .u8 50, .int .u8 38, .int .u8 29, .int .u8 17, .int .u8 4, .int .u8 62, .int .u8 47, .int .u8 59, .int .u8 36, .int .u8 45, .int .u8 43, .int .u8 51, .int .u8 22, .int .u8 53, .int .u8 39, .int .u8 33, .int .u8 30, .int .u8 24, .int .u8 18, .int .u8 12, .int .u8 5, .int .u8 63, .int .u8 55, .int .u8 48, .int .u8 27, .int .u8 60, .int .u8 41, .int .u8 37, .int .u8 16, .int .u8 46, .int .u8 35, .int .u8 44, .int .u8 21, .int .u8 52, .int .u8 32, .int .u8 23, .int .u8 11, .int .u8 54, .int .u8 26, .int .u8 40, .int .u8 15, .int .u8 34, .int .u8 20, .int .u8 31, .int .u8 10, .int .u8 25, .int .u8 14, .int .u8 19, .int .u8 9, .int .u8 13, .int .u8 8, .int .u8 7, .int .u8 6]
def wc8:List Value:=[.slice (some ⟨20,0,none⟩) 11 11]
def wc9:List Value:=[.slice (some ⟨21,0,none⟩) 9 9]
def wc10:List Value:=[.slice (some ⟨22,0,none⟩) 23 23]
def wc11:List Value:=Pinned.pow10Rows.flatMap Hq
def wc12:List Value:=[.slice (some ⟨23,0,none⟩) Pinned.cheatRows.length Pinned.cheatRows.length]
def wc18:List Value:=[.string ⟨#[105,110,118,97,108,105,100,32,115,121,110,116,97,120]⟩]
def wc19:List Value:=[.string ⟨#[118,97,108,117,101,32,111,117,116,32,111,102,32,114,97,110,103,101]⟩]
def wc20:List Value:=[.float .f32 1065353216, .float .f32 1092616192, .float .f32 1120403456, .float .f32 1148846080, .float .f32 1176256512, .float .f32 1203982336, .float .f32 1232348160, .float .f32 1259902592, .float .f32 1287568416, .float .f32 1315859240, .float .f32 1343554297]
def wc21:List Value:=[.int .i64 1, .int .i64 3, .int .i64 6, .int .i64 9, .int .i64 13, .int .i64 16, .int .i64 19, .int .i64 23, .int .i64 26]
def wc22:List Value:=[.float .f64 4607182418800017408, .float .f64 4621819117588971520, .float .f64 4636737291354636288, .float .f64 4652007308841189376, .float .f64 4666723172467343360, .float .f64 4681608360884174848, .float .f64 4696837146684686336, .float .f64 4711630319722168320, .float .f64 4726483295884279808, .float .f64 4741671816366391296, .float .f64 4756540486875873280, .float .f64 4771362005757984768, .float .f64 4786511204640096256, .float .f64 4801453603149578240, .float .f64 4816244402031689728, .float .f64 4831355200913801216, .float .f64 4846369599423283200, .float .f64 4861130398305394688, .float .f64 4876203697187506176, .float .f64 4891288408196988160, .float .f64 4906019910204099648, .float .f64 4921056587992461136, .float .f64 4936209963552724370]
def wc23:List Value:=Pinned.cheatRows.flatMap Hr
noncomputable def wW(os:Os)(args:Array Value):World:=((cc os).forCall (fun _ _=>0) ⟨#[],args,[]⟩).memory
theorem L3(os:Os)(args:Array Value):(wW os args).heap[0]? =some (.cells wc0.toArray 270 (0,0)):=by kernel_rfl
theorem L4(os:Os)(args:Array Value):(wW os args).heap[1]? =some (.cells wc1.toArray 77 (0,0)):=by kernel_rfl
theorem L5(os:Os)(args:Array Value):(wW os args).heap[2]? =some (.cells wc2.toArray 77 (0,0)):=by kernel_rfl
theorem L6(os:Os)(args:Array Value):(wW os args).heap[3]? =some (.cells wc3.toArray 305 (0,0)):=by kernel_rfl
theorem L7(os:Os)(args:Array Value):(wW os args).heap[4]? =some (.cells wc4.toArray 4 (0,0)):=by kernel_rfl
theorem L8(os:Os)(args:Array Value):(wW os args).heap[5]? =some (.cells wc5.toArray 305 (0,0)):=by kernel_rfl
theorem L9(os:Os)(args:Array Value):(wW os args).heap[6]? =some (.cells wc6.toArray 323 (0,0)):=by kernel_rfl
theorem MA(os:Os)(args:Array Value):(wW os args).heap[7]? =some (.cells wc7.toArray 324 (0,0)):=by kernel_rfl
theorem MB(os:Os)(args:Array Value):(wW os args).heap[8]? =some (.cells wc8.toArray 340 (0,0)):=by kernel_rfl
theorem MC(os:Os)(args:Array Value):(wW os args).heap[9]? =some (.cells wc9.toArray 139 (0,0)):=by kernel_rfl
theorem Ji(os:Os)(args:Array Value):(wW os args).heap[10]? =some (.cells wc10.toArray 349 (0,0)):=by kernel_rfl
theorem Jj(os:Os)(args:Array Value):(wW os args).heap[11]? =some (.cells wc11.toArray 360 (0,0)):=by kernel_rfl
theorem Jk(os:Os)(args:Array Value):(wW os args).heap[12]? =some (.cells wc12.toArray 366 (0,0)):=by kernel_rfl
theorem Le(os:Os)(args:Array Value):(wW os args).heap[18]? =some (.cells wc18.toArray 228 (0,0)):=by kernel_rfl
theorem Lf(os:Os)(args:Array Value):(wW os args).heap[19]? =some (.cells wc19.toArray 228 (0,0)):=by kernel_rfl
theorem Jl(os:Os)(args:Array Value):(wW os args).heap[20]? =some (.cells wc20.toArray 288 (0,0)):=by kernel_rfl
theorem Jm(os:Os)(args:Array Value):(wW os args).heap[21]? =some (.cells wc21.toArray 3 (0,0)):=by kernel_rfl
theorem Jn(os:Os)(args:Array Value):(wW os args).heap[22]? =some (.cells wc22.toArray 214 (0,0)):=by kernel_rfl
theorem Jo(os:Os)(args:Array Value):(wW os args).heap[23]? =some (.cells wc23.toArray 365 (0,0)):=by kernel_rfl
theorem NR(w:World):DataW.trod (fun _=>()) Tryz.prog w 0 (fun _=>true) false 8 270 wc0=some (Rows.laid_internal_strconv_uint64pow10,[]):=by kernel_rfl
theorem NS(w:World):DataW.trod (fun _=>()) Tryz.prog w 0 (fun _=>true) false 8 305 wc3=some (Rows.laid_internal_strconv_float32info,[]):=by kernel_rfl
theorem NT(w:World):DataW.trod (fun _=>()) Tryz.prog w 0 (fun _=>true) false 8 4 wc4=some (Rows.laid_internal_strconv_optimize,[]):=by kernel_rfl
theorem NU(w:World):DataW.trod (fun _=>()) Tryz.prog w 0 (fun _=>true) false 8 305 wc5=some (Rows.laid_internal_strconv_float64info,[]):=by kernel_rfl
theorem NV(w:World):DataW.trod (fun _=>()) Tryz.prog w 0 (fun _=>true) false 8 323 wc6=some (Rows.laid_math_bits_deBruijn32tab,[]):=by kernel_rfl
theorem NW(w:World):DataW.trod (fun _=>()) Tryz.prog w 0 (fun _=>true) false 8 324 wc7=some (Rows.laid_math_bits_deBruijn64tab,[]):=by kernel_rfl
theorem NX(os:Os)(args:Array Value):DataW.trod (fun _=>()) Tryz.prog (wW os args) 0 (fun _=>true) false 8 340 wc8=some (Rows.laid_internal_strconv_float32pow10,MemPlace.row ⟨20,0,none⟩ 11):=
 (gX (fuel:=6) (e:=288) (d:= .float .f32) (cs:=wc20) (n:=11) aF aF aF (Jl os args) rfl bT aF).trans aF
theorem NY(os:Os)(args:Array Value):DataW.trod (fun _=>()) Tryz.prog (wW os args) 0 (fun _=>true) false 8 139 wc9=some (Rows.laid_internal_strconv_powtab,MemPlace.row ⟨21,0,none⟩ 9):=
 (gX (fuel:=6) (e:=3) (d:= .int .i64) (cs:=wc21) (n:=9) aF aF aF (Jm os args) rfl bT aF).trans aF
theorem Lg(os:Os)(args:Array Value):DataW.trod (fun _=>()) Tryz.prog (wW os args) 0 (fun _=>true) false 8 349 wc10=some (Rows.laid_internal_strconv_float64pow10,MemPlace.row ⟨22,0,none⟩ 23):=
 (gX (fuel:=6) (e:=214) (d:= .float .f64) (cs:=wc22) (n:=23) aF aF aF (Jn os args) rfl bT aF).trans aF
theorem NZ(os:Os)(args:Array Value):DataW.trod (fun _=>()) Tryz.prog (wW os args) 0 (fun _=>true) false 8 77 wc1=some (Rows.laid_strconv_ErrSyntax,MemPlace.row ⟨18,0,none⟩ 1):=by kernel_rfl
theorem Na(os:Os)(args:Array Value):Value.okWideB Tryz.prog (wW os args) 226 (.pointer (some ⟨18,0,none⟩))=true:=by kernel_rfl
theorem Nb(os:Os)(args:Array Value):DataW.trod (fun _=>()) Tryz.prog (wW os args) 0 (fun _=>true) false 8 77 wc2=some (Rows.laid_strconv_ErrRange,MemPlace.row ⟨19,0,none⟩ 1):=by kernel_rfl
theorem Nc(os:Os)(args:Array Value):Value.okWideB Tryz.prog (wW os args) 226 (.pointer (some ⟨19,0,none⟩))=true:=by kernel_rfl
theorem Et(w:World)(x:Nat×Nat)(h1:(Lit.int .u64 (x.1:Int)).wf=true)(h2:(Lit.int .u64 (x.2:Int)).wf=true):DataW.trod (fun _=>()) Tryz.prog w 0 (fun _=>true) false 7 359 (Hq x)=some (.agg [.lit (.int .u64 x.1), .lit (.int .u64 x.2)],[]):=by
 have e1:Tryz.prog.underlying 359=some (.struct #[⟨ "hi",235,0,false, "", "internal/strconv",0⟩,⟨ "lo",235,1,false, "", "internal/strconv",8⟩]):=by kernel_rfl
 have e2:Tryz.prog.cellsOf 359=2:=by kernel_rfl
 have e3:Tryz.prog.cellsOf 235=1:=by kernel_rfl
 have e4:Tryz.prog.underlying 235=some (.int .u64):=by kernel_rfl
 unfold DataW.trod
 simp only [e1,Hq,e2]
 rw [if_pos (show([Value.int .u64 (x.1:Int),Value.int .u64 (x.2:Int)]:List Value).length=2 from rfl)]
 simp only [List.mapM_cons,List.mapM_nil,e3]
 have t1:DataW.trod (fun _=>()) Tryz.prog w 0 (fun _=>true) false 6 235 [Value.int .u64 x.1]=some (.lit (.int .u64 x.1),[]):=g9 (fuel:=5) e4 (by simp [nc,h1])
 have t2:DataW.trod (fun _=>()) Tryz.prog w 0 (fun _=>true) false 6 235 [Value.int .u64 x.2]=some (.lit (.int .u64 x.2),[]):=g9 (fuel:=5) e4 (by simp [nc,h2])
 simp [t1,t2]
theorem Lh(w:World):DataW.trod (fun _=>()) Tryz.prog w 0 (fun _=>true) false 8 360 wc11=some (Rows.laid_internal_strconv_pow10Tab,[]):=by
  have hl:wc11.length=Pinned.pow10Rows.length*2:=na Hq 2 (fun _=>rfl) _
  have hr:Pinned.pow10Rows.length=696:=by kernel_rfl
  have hwf:Pinned.pow10Rows.all (fun x=>(Lit.int .u64 x.1).wf && (Lit.int .u64 x.2).wf)=true:=by kernel_rfl
  have:=r7 (P:=Tryz.prog) (w:=w) (enc:=fun _=>()) (sp:=fun _=>true) (held:=false) (fuel:=7) (t:=360) (e:=359) (n:=696) (k:=2) (cs:=wc11) (g:=fun i=>(fun x:Nat×Nat=>(.agg [.lit (.int .u64 x.1), .lit (.int .u64 x.2)]:DataW Unit)) (Pinned.pow10Rows.getD i default)) aF aF (by rw [hl,hr];kernel_rfl) (fun i hi=>by
    have hi':i<Pinned.pow10Rows.length:=by rw [hr];exact hi
    have h1:(wc11.drop (i*2)).take 2=Hq Pinned.pow10Rows[i]:=mX Hq 2 (fun _=>rfl) _ i hi'
    have h2:=List.all_eq_true.1 hwf _ (List.getElem_mem hi')
    simp only [Bool.and_eq_true]at h2
    rw [h1,List.getD_eq_getElem?_getD,List.getElem?_eq_getElem hi',Option.getD_some]
    exact Et w _ h2.1 h2.2)
  rw [this]
  have h3:=iU (fun x:Nat×Nat=>(.agg [.lit (.int .u64 x.1), .lit (.int .u64 x.2)]:DataW Unit)) Pinned.pow10Rows
  rw [hr]at h3
  rw [h3]
  rfl
theorem Eu(w:World)(x:Nat×List UInt8)(h1:(Lit.int .i64 (x.1:Int)).wf=true)(h2:x.2.length≤maxLen):DataW.trod (fun _=>()) Tryz.prog w 0 (fun _=>true) false 7 365 (Hr x)=some (.agg [.lit (.int .i64 x.1), .lit (.string x.2)],[]):=by
 have e1:Tryz.prog.underlying 365=some (.struct #[⟨ "delta",3,0,false, "", "internal/strconv",0⟩,⟨ "cutoff",9,1,false, "", "internal/strconv",8⟩]):=by kernel_rfl
 have e2:Tryz.prog.cellsOf 365=2:=by kernel_rfl
 have e3:Tryz.prog.cellsOf 3=1:=by kernel_rfl
 have e4:Tryz.prog.cellsOf 9=1:=by kernel_rfl
 have e5:Tryz.prog.underlying 3=some (.int .i64):=by kernel_rfl
 have e6:Tryz.prog.underlying 9=some .string:=by kernel_rfl
 have t1:DataW.trod (fun _=>()) Tryz.prog w 0 (fun _=>true) false 6 3 [Value.int .i64 x.1]=some (.lit (.int .i64 x.1),[]):=g9 (fuel:=5) e5 (by simp [nc,h1])
 have t2:DataW.trod (fun _=>()) Tryz.prog w 0 (fun _=>true) false 6 9 [Value.string ⟨x.2.toArray⟩]=some (.lit (.string x.2),[]):=by
  unfold DataW.trod
  have:(ByteArray.mk x.2.toArray).size≤maxLen:=by simpa [ByteArray.size]using h2
  simp [e6,this]
 unfold DataW.trod
 simp only [e1,Hr,e2]
 rw [if_pos (show([Value.int .i64 (x.1:Int),Value.string ⟨x.2.toArray⟩]:List Value).length=2 from rfl)]
 simp only [List.mapM_cons,List.mapM_nil,e3,e4]
 simp [t1,t2]
theorem Li(os:Os)(args:Array Value):DataW.trod (fun _=>()) Tryz.prog (wW os args) 0 (fun _=>true) false 8 366 wc12=some (Rows.laid_internal_strconv_leftcheats,MemPlace.row ⟨23,0,none⟩ 122):=by
  have hl:wc23.length=Pinned.cheatRows.length*2:=na Hr 2 (fun _=>rfl) _
  have hr:Pinned.cheatRows.length=61:=by kernel_rfl
  have hwf:Pinned.cheatRows.all (fun x=>(Lit.int .i64 x.1).wf && decide (x.2.length≤maxLen))=true:=by kernel_rfl
  have:=kR (P:=Tryz.prog) (w:=wW os args) (enc:=fun _=>()) (sp:=fun _=>true) (held:=false) (fuel:=7) (t:=366) (e:=365) (b:=23) (n:=61) (k:=2) (T:=365) (cs:=wc23) (g:=fun i=>(fun x:Nat×List UInt8=>(.agg [.lit (.int .i64 x.1), .lit (.string x.2)]:DataW Unit)) (Pinned.cheatRows.getD i default)) aF aF (Jo os args) (by rw [hl,hr]) bT (fun i hi=>by
    have hi':i<Pinned.cheatRows.length:=by rw [hr];exact hi
    have h1:(wc23.drop (i*2)).take 2=Hr Pinned.cheatRows[i]:=mX Hr 2 (fun _=>rfl) _ i hi'
    have h2:=List.all_eq_true.1 hwf _ (List.getElem_mem hi')
    simp only [Bool.and_eq_true,decide_eq_true_eq]at h2
    rw [h1,List.getD_eq_getElem?_getD,List.getElem?_eq_getElem hi',Option.getD_some]
    exact Eu _ _ h2.1 h2.2)
  have h3:=iU (fun x:Nat×List UInt8=>(.agg [.lit (.int .i64 x.1), .lit (.string x.2)]:DataW Unit)) Pinned.cheatRows
  rw [hr]at h3
  rw [h3]at this
  exact this
def J2:List MemPlace:=MemPlace.row ⟨6,0,none⟩ wc6.length++[]++(MemPlace.row ⟨7,0,none⟩ wc7.length++[]++(MemPlace.row ⟨3,0,none⟩ wc3.length++[]++(MemPlace.row ⟨5,0,none⟩ wc5.length++[]++(MemPlace.row ⟨4,0,none⟩ wc4.length++[]++(MemPlace.row ⟨9,0,none⟩ wc9.length++MemPlace.row ⟨21,0,none⟩ 9++(MemPlace.row ⟨10,0,none⟩ wc10.length++MemPlace.row ⟨22,0,none⟩ 23++(MemPlace.row ⟨8,0,none⟩ wc8.length++MemPlace.row ⟨20,0,none⟩ 11++(MemPlace.row ⟨0,0,none⟩ wc0.length++[]++(MemPlace.row ⟨2,0,none⟩ wc2.length++MemPlace.row ⟨19,0,none⟩ 1++(MemPlace.row ⟨1,0,none⟩ wc1.length++MemPlace.row ⟨18,0,none⟩ 1++(MemPlace.row ⟨12,0,none⟩ wc12.length++MemPlace.row ⟨23,0,none⟩ 122++(MemPlace.row ⟨11,0,none⟩ wc11.length++[]++([])))))))))))))
theorem Nd(os:Os)(args:Array Value):DataW.LaidVars Tryz.prog (wW os args) Rows.fnTextedRow.laid J2:=
 uI 8 aF aF (L9 os args) (NV _) (uI 8 aF aF (MA os args) (NW _) (uI 8 aF aF (L6 os args) (NS _) (uI 8 aF aF (L8 os args) (NU _) (uI 8 aF aF (L7 os args) (NT _) (uI 8 aF aF (MC os args) (NY os args) (uI 8 aF aF (Ji os args) (Lg os args) (uI 8 aF aF (MB os args) (NX os args) (uI 8 aF aF (L3 os args) (NR _) (uI 8 aF aF (L5 os args) (Nb os args) (uI 8 aF aF (L4 os args) (NZ os args) (uI 8 aF aF (Jk os args) (Li os args) (uI 8 aF aF (Jj os args) (Lh _) (rfl)))))))))))))
def Lj:List Nat:=[0,1,2,3,4,5,6,7,8,9,10,11,12,18,19,20,21,22,23]
theorem Nf:nodupBits 1400 J2 0=true:=by kernel_rfl
theorem Ng:NG Lj J2=true:=by kernel_rfl
theorem C0(os:Os)(args:Array Value):laidMet Tryz.prog Rows.fnTextedRow.laid (wW os args):=by
 refine⟨J2,Nd os args,(nodupBits_sound Nf).1,fun b off hp=>?_⟩
 have h1:=List.all_eq_true.1 Ng _ hp
 have hb:b∈Lj:=by simpa using h1
 simp only [Lj,List.mem_cons,List.not_mem_nil,or_false]at hb
 rcases hb with rfl|rfl|rfl|rfl|rfl|rfl|rfl|rfl|rfl|rfl|rfl|rfl|rfl|rfl|rfl|rfl|rfl|rfl|rfl
 ·exact wR (L3 os args) aF
 ·exact nZ (L4 os args) (Na os args)
 ·exact nZ (L5 os args) (Nc os args)
 ·exact wR (L6 os args) aF
 ·exact wR (L7 os args) aF
 ·exact wR (L8 os args) aF
 ·exact wR (L9 os args) aF
 ·exact wR (MA os args) aF
 ·exact wR (MB os args) aF
 ·exact wR (MC os args) aF
 ·exact wR (Ji os args) aF
 ·exact wR (Jj os args) aF
 ·exact wR (Jk os args) aF
 ·exact wR (Le os args) aF
 ·exact wR (Lf os args) aF
 ·exact wR (Jl os args) aF
 ·exact wR (Jm os args) aF
 ·exact wR (Jn os args) aF
 ·exact wR (Jo os args) aF
end Go.Jw

namespace Go.Jw
open Go Go.RowKit Go.Proofs Go.ChangeShapes Go.WideShapes Go.ChangeAt Go.Proofs.YtlcfillobkdnmaaGreatDoor
set_option maxRecDepth 100000
noncomputable abbrev jP:Program:=Tryz.pinned.checked.prog
def jL:List Char:=([104,97,114,110,101,115,115,32,51,52,54,53,50,48,98,97,101,52,98,52,51,99,98,99,55,56,100,101,53,53,51,57,50,50,101,54,99,51,55,50,100,97,98,97,102,48,98,100,48,48,53,100,102,57,97,97,102,99,54,50,57,100,55,55,100,51,48,101,52,48,56,53,32,99,117,116,32,97,116,32,108,111,111,112,46,101,120,97,109,112,108,101,47,112,117,98,45,103,48,49,53,50,50,47,108,97,119,115,46,70,110,84,101,120,116,101,100,32,108,111,111,112,46,101,120,97,109,112,108,101,47,112,117,98,45,103,48,49,53,50,50,47,108,97,119,115,46,70,110,87,114,105,116,116,101,110,32,108,111,111,112,46,101,120,97,109,112,108,101,47,112,117,98,45,103,48,49,53,50,50,47,108,97,119,115,46,70,110,87,114,105,116,116,101,110,84,119,105,99,101,32,108,111,111,112,46,101,120,97,109,112,108,101,47,112,117,98,45,103,48,49,53,50,50,47,108,97,119,115,46,70,110,65,100,100,101,100,32,108,111,111,112,46,101,120,97,109,112,108,101,47,112,117,98,45,103,48,49,53,50,50,47,108,97,119,115,46,70,110,70,111,117,110,100,32,108,111,111,112,46,101,120,97,109,112,108,101,47,112,117,98,45,103,48,49,53,50,50,47,108,97,119,115,46,70,110,80,111,105,110,116,101,100,32,108,111,111,112,46,101,120,97,109,112,108,101,47,112,117,98,45,103,48,49,53,50,50,47,108,97,119,115,46,70,110,67,111,112,105,101,100,32,108,111,111,112,46,101,120,97,109,112,108,101,47,112,117,98,45,103,48,49,53,50,50,47,108,97,119,115,46,70,110,67,111,112,105,101,100,65,99,99,101,112,116,115,32,108,111,111,112,46,101,120,97,109,112,108,101,47,112,117,98,45,103,48,49,53,50,50,47,108,97,119,115,46,70,110,65,108,108,83,116,101,112,115,32,108,111,111,112,46,101,120,97,109,112,108,101,47,112,117,98,45,103,48,49,53,50,50,47,108,97,119,115,46,70,110,67,104,111,115,101,110,32,108,111,111,112,46,101,120,97,109,112,108,101,47,112,117,98,45,103,48,49,53,50,50,47,108,97,119,115,46,70,110,67,104,111,115,101,110,78,97,114,114,111,119,115,32,108,111,111,112,46,101,120,97,109,112,108,101,47,112,117,98,45,103,48,49,53,50,50,47,108,97,119,115,46,70,110,77,101,114,103,101,100,32,108,111,111,112,46,101,120,97,109,112,108,101,47,112,117,98,45,103,48,49,53,50,50,47,108,97,119,115,46,70,110,77,101,114,103,101,100,65,99,99,101,112,116,115,32,108,111,111,112,46,101,120,97,109,112,108,101,47,112,117,98,45,103,48,49,53,50,50,47,108,97,119,115,46,70,110,82,101,115,111,108,118,101,100,32,108,111,111,112,46,101,120,97,109,112,108,101,47,112,117,98,45,103,48,49,53,50,50,47,108,97,119,115,46,70,110,82,101,115,111,108,118,101,100,65,99,99,101,112,116,115,32,108,111,111,112,46,101,120,97,109,112,108,101,47,112,117,98,45,103,48,49,53,50,50,47,108,97,119,115,46,70,110,82,101,115,111,108,118,101,100,84,119,105,99,101]:List Nat).map Char.ofNat
def jW:List (List Char):=([[104,97,114,110,101,115,115],[51,52,54,53,50,48,98,97,101,52,98,52,51,99,98,99,55,56,100,101,53,53,51,57,50,50,101,54,99,51,55,50,100,97,98,97,102,48,98,100,48,48,53,100,102,57,97,97,102,99,54,50,57,100,55,55,100,51,48,101,52,48,56,53],[99,117,116],[97,116],[108,111,111,112,46,101,120,97,109,112,108,101,47,112,117,98,45,103,48,49,53,50,50,47,108,97,119,115,46,70,110,84,101,120,116,101,100],[108,111,111,112,46,101,120,97,109,112,108,101,47,112,117,98,45,103,48,49,53,50,50,47,108,97,119,115,46,70,110,87,114,105,116,116,101,110],[108,111,111,112,46,101,120,97,109,112,108,101,47,112,117,98,45,103,48,49,53,50,50,47,108,97,119,115,46,70,110,87,114,105,116,116,101,110,84,119,105,99,101],[108,111,111,112,46,101,120,97,109,112,108,101,47,112,117,98,45,103,48,49,53,50,50,47,108,97,119,115,46,70,110,65,100,100,101,100],[108,111,111,112,46,101,120,97,109,112,108,101,47,112,117,98,45,103,48,49,53,50,50,47,108,97,119,115,46,70,110,70,111,117,110,100],[108,111,111,112,46,101,120,97,109,112,108,101,47,112,117,98,45,103,48,49,53,50,50,47,108,97,119,115,46,70,110,80,111,105,110,116,101,100],[108,111,111,112,46,101,120,97,109,112,108,101,47,112,117,98,45,103,48,49,53,50,50,47,108,97,119,115,46,70,110,67,111,112,105,101,100],[108,111,111,112,46,101,120,97,109,112,108,101,47,112,117,98,45,103,48,49,53,50,50,47,108,97,119,115,46,70,110,67,111,112,105,101,100,65,99,99,101,112,116,115],[108,111,111,112,46,101,120,97,109,112,108,101,47,112,117,98,45,103,48,49,53,50,50,47,108,97,119,115,46,70,110,65,108,108,83,116,101,112,115],[108,111,111,112,46,101,120,97,109,112,108,101,47,112,117,98,45,103,48,49,53,50,50,47,108,97,119,115,46,70,110,67,104,111,115,101,110],[108,111,111,112,46,101,120,97,109,112,108,101,47,112,117,98,45,103,48,49,53,50,50,47,108,97,119,115,46,70,110,67,104,111,115,101,110,78,97,114,114,111,119,115],[108,111,111,112,46,101,120,97,109,112,108,101,47,112,117,98,45,103,48,49,53,50,50,47,108,97,119,115,46,70,110,77,101,114,103,101,100],[108,111,111,112,46,101,120,97,109,112,108,101,47,112,117,98,45,103,48,49,53,50,50,47,108,97,119,115,46,70,110,77,101,114,103,101,100,65,99,99,101,112,116,115],[108,111,111,112,46,101,120,97,109,112,108,101,47,112,117,98,45,103,48,49,53,50,50,47,108,97,119,115,46,70,110,82,101,115,111,108,118,101,100],[108,111,111,112,46,101,120,97,109,112,108,101,47,112,117,98,45,103,48,49,53,50,50,47,108,97,119,115,46,70,110,82,101,115,111,108,118,101,100,65,99,99,101,112,116,115],[108,111,111,112,46,101,120,97,109,112,108,101,47,112,117,98,45,103,48,49,53,50,50,47,108,97,119,115,46,70,110,82,101,115,111,108,118,101,100,84,119,105,99,101]]:List (List Nat)).map fun l=>l.map Char.ofNat
theorem hI:jP.initOrder=String.ofList jL:=by kernel_rfl
theorem Nh:wordsSigns jL=jW:=by kernel_rfl
theorem hW:wordsSigns jP.initOrder.toList=jW:=by rw [hI,String.toList_ofList,Nh]
theorem jh:behindMainWord (wordsSigns jP.initOrder.toList)= "cut".toList::jW.drop 3:=by rw [hW];kernel_rfl
theorem Ev{P:Program}{rest:List (List Char)}(h:behindMainWord (wordsSigns P.initOrder.toList)= "cut".toList::rest):P.make=some .cut:=by unfold Program.make;rw [h];rfl
theorem C2{P:Program}{rest:List (List Char)}(h:behindMainWord (wordsSigns P.initOrder.toList)= "cut".toList::rest):P.liftsFinal=false:=by unfold Program.liftsFinal Program.headLifts;rw [h];rfl
theorem C3{P:Program}{rest:List (List Char)}(h:behindMainWord (wordsSigns P.initOrder.toList)= "cut".toList::rest)(l1:P.laysLater=false)(l2:P.bearsReflect=false)(l3:P.doorFits []=true):P.mayEnter=true:=by
 have h1:(stripLifts liftWords ("cut".toList::rest)).1=[]:=rfl
 have h2:(stripLifts liftWords ("cut".toList::rest)).2= "cut".toList::rest:=rfl
 unfold Program.mayEnter
 rw [h]
 simp only [h1,h2,l1,l2,l3,List.head?_cons]
 simp
theorem Ni:jP.laysLater=false:=by kernel_rfl
theorem Nj:jP.bearsReflect=false:=by kernel_rfl
theorem Nl:jP.doorFits []=true:=by kernel_rfl
theorem j1:(laidOutB jP)=true:=by kernel_rfl
theorem j2:(mapsRowed jP)=true:=by kernel_rfl
theorem j6:((jP.stops==[]))=true:=by kernel_rfl
theorem j8:((jP.stopKnobs==[]))=true:=by kernel_rfl
theorem Nn:(jP.stopsHeard)=true:=by kernel_rfl
theorem No:(jP.mayEnter)=true:=C3 jh Ni Nj Nl
noncomputable abbrev jC18:OpenClaim:=Rows.fnResolvedTwiceRow
noncomputable abbrev jS18:ChangeSpec:=(OpenSpec.ofChange Rows.fnResolvedTwiceSpec).bare
noncomputable abbrev jF18:Func:=Tryz.f18
theorem Jp:(jC18.wf (OpenSpec.ofChange jS18))=true:=by kernel_rfl
theorem Jq:(jF18.params.all (jP.readableRec ·))=true:=by kernel_rfl
theorem Jr:(namedTie jP jC18.named jS18.vars)=true:=by kernel_rfl
theorem Js:((jC18.stops==[]))=true:=by kernel_rfl
theorem Jt:((jC18.knobs==[]))=true:=by kernel_rfl
theorem Ju:((jC18.inPlace==jP.inPlace 18))=true:=by kernel_rfl
theorem HO:((jC18.unfollowed==jP.unfollowed 18))=true:=by kernel_rfl
theorem HP:((jC18.recurses==jP.recurses 18))=true:=by kernel_rfl
theorem HQ:((jC18.named==jP.varsNamed 18))=true:=by kernel_rfl
theorem HR:((jC18.maps==(jF18.params.toList++jS18.plain.varTypes jP).any (jP.mapsRec ·)))=true:=by kernel_rfl
theorem HS:((jC18.ifaces==(jF18.params.toList++jS18.plain.varTypes jP).any (jP.ifacesRec ·)))=true:=by kernel_rfl
theorem HT:((jC18.mapsOut==jP.mapsAmong jF18.resultTypes.toList))=true:=by kernel_rfl
theorem HU:((jC18.loops==(jF18.params.toList++jS18.plain.varTypes jP).any (jP.loopsFrom ·)))=true:=by kernel_rfl
theorem HV:((jC18.wideKeys==(jF18.params.toList++jS18.plain.varTypes jP++jF18.resultTypes.toList).any (jP.wideKeysFrom ·)))=true:=by kernel_rfl
theorem HW:(jS18.vars.all (jP.varReadable ·))=true:=by kernel_rfl
theorem HX:(jF18.resultTypes.all (fun t=>jP.readableRec t && decide (t<jP.types.size)))=true:=by kernel_rfl
theorem HY:((jC18.ifacesOut==jF18.resultTypes.toList.any (jP.ifacesRec ·)))=true:=by kernel_rfl
theorem HZ:((jC18.loopsOut==jF18.resultTypes.toList.any (jP.loopsFrom ·)))=true:=by kernel_rfl
theorem Ha:((jC18.plainKeys==jP.plainKeys))=true:=by kernel_rfl
theorem Hb:(jC18.shortTexts.isNone)=true:=by kernel_rfl
theorem Hc:((jC18.lifted==jP.liftsFinal))=true:=by rw [C2 jh];kernel_rfl
theorem Hd:((jP.make==some jC18.make))=true:=by rw [Ev jh];kernel_rfl
theorem He:((jC18.kinds==(if jC18.domain.isEmpty then []else jF18.params.toList.map fun t=>match jP.underlying t with|some (.int k)=>some k|_=>none)))=true:=by kernel_rfl
theorem Hf:((jC18.pinned==jC18.pinnedBy))=true:=by kernel_rfl
theorem Hg:((jC18.veiled==(jF18.params.toList++jS18.plain.varTypes jP++jF18.resultTypes.toList).any (jP.veiledRec ·)))=true:=by kernel_rfl
theorem Hh:(jC18.veiledFits jP jF18.params.toList (jF18.params.toList++jS18.plain.varTypes jP++jF18.resultTypes.toList))=true:=by kernel_rfl
theorem Hi:joinedFacts jP 18 jF18 jS18 jC18=true:=by
 unfold joinedFacts
 simp only [Bool.and_eq_true]
 exact⟨⟨⟨⟨⟨⟨⟨⟨⟨⟨⟨⟨⟨⟨⟨⟨⟨⟨⟨⟨⟨⟨⟨⟨⟨⟨⟨⟨⟨⟨⟨Jp,j1⟩,j2⟩,Jq⟩,Jr⟩,Js⟩,j6⟩,Jt⟩,j8⟩,Ju⟩,HO⟩,HP⟩,HQ⟩,HR⟩,HS⟩,HT⟩,HU⟩,HV⟩,HW⟩,HX⟩,HY⟩,HZ⟩,Ha⟩,Hb⟩,Nn⟩,No⟩,Hc⟩,Hd⟩,He⟩,Hf⟩,Hg⟩,Hh⟩
theorem Ew:false=jC18.goesBy jP:=by kernel_rfl
theorem Ex:jC18.wfByText (OpenSpec.ofChange Rows.fnResolvedTwiceSpec)=true:=by kernel_rfl
def Hj:Value:= .agg #[.int .i64 0, .int .i64 0, .string ⟨#[]⟩, .slice none 0 0, .slice none 0 0]
theorem Ey{P:Program}{h s:List Char}{r:List (List Char)}(hw:wordsSigns P.initOrder.toList=h::s::r)(h1:h= "harness".toList)(h2:isSumSigns s=true):P.mainIs=some (true,s):=by
 unfold Program.mainIs
 rw [hw,h1]
 simp only [h2]
 rfl
theorem Np:wordsSigns jP.initOrder.toList= "harness".toList:: "346520bae4b43cbc78de553922e6c372dabaf0bd005df9aafc629d77d30e4085".toList::jW.drop 2:=by rw [hW];kernel_rfl
theorem Lk:isSumSigns "346520bae4b43cbc78de553922e6c372dabaf0bd005df9aafc629d77d30e4085".toList=true:=by kernel_rfl
theorem Jv:jP.mainIs=some (true, "346520bae4b43cbc78de553922e6c372dabaf0bd005df9aafc629d77d30e4085".toList):=Ey Np rfl Lk
theorem Ez(os:Os){H:Type}(enc:TypeId×Value→H): ∃places,DataW.whole enc Tryz.prog ((cc os).forCall (fun _ _=>0) ⟨#[], #[Hj],[]⟩).memory Tryz.f18.params.toList Rows.fnResolvedTwiceSpec.vars false #[Hj].toList 8=some ([.agg [.lit (.int .i64 0), .lit (.int .i64 0), .lit (.string []), .nil, .nil]],[],places):=
 ⟨[],by kernel_rfl⟩
theorem C4(os:Os)(started:os.Started)(H:Type)(enc:TypeId×Value→H)(F:Stop.Interp):
    ReturnsInHanded {} Tryz.checked os 18 .any ((OpenSpec.ofChange Rows.fnResolvedTwiceSpec).preRow enc Tryz.prog Tryz.f18 Rows.fnResolvedTwiceRow.domain false Rows.fnResolvedTwiceRow.laid) (((OpenSpec.ofChange Rows.fnResolvedTwiceSpec).at F).post enc Tryz.prog Tryz.f18 false true false false):=by
  obtain⟨places,hx⟩:=Ez os enc
  refine returnsInHanded_of_row (C:=Tryz.checked) (s:=(OpenSpec.ofChange Rows.fnResolvedTwiceSpec)) own started aF Tryz.func18
    (witness_row_atRef (enc:=enc) (C:=Tryz.checked) false (cc os) #[Hj] rfl (Cz os _) aF aF
      (OpenSpec.preRow_of_cond 8 hx aF (fun k hk=>by cases hk) aF (C0 os _))) ?_
  intro W base args ds gs before hval hW _ _ _ hL _ _
  exact u3 H enc W base args ds gs before hval hW hL
theorem Hk:Rows.FnResolvedTwiceSaid:=
  OpenClaim.holds_of_cond 18 Tryz.f18 rfl rfl rfl rfl rfl rfl rfl ⟨rfl,rfl,rfl,rfl,rfl⟩ rfl rfl rfl rfl rfl aF Tryz.func18 Hi
    (of_decide_eq_true aF) (by unfold Func.isWrapper;first|(rw [if_pos aD];kernel_rfl)|(rw [if_neg aD];exact⟨rfl,rfl⟩))
    (fun os started H enc _ F=>by rw [OpenClaim.pre_eq_preRow];exact C4 os started H enc F)
theorem E0(f:FuncId)(fn:Func)(hf:Tryz.pinned.checked.prog.funcNamed "loop.example/pub-g01522/laws.FnResolvedTwice" =some f)(hfn:Tryz.pinned.checked.prog.funcs[f]? =some fn):
  true=Tryz.pinned.checked.prog.looks []∧ ∀ (j:Nat) t,fn.params[j]? =some t→Tryz.pinned.checked.prog.wantsStandIn t=false:=by
 obtain rfl:f=18:=Option.some.inj ((show Tryz.prog.funcNamed "loop.example/pub-g01522/laws.FnResolvedTwice" =some 18 by kernel_rfl).symm.trans hf)|>.symm
 obtain rfl:fn=Tryz.f18:=(Option.some.inj (Tryz.func18.symm.trans hfn)).symm
 refine⟨by kernel_rfl,fun j t ht=>?_⟩
 rw [Tryz.params18]at ht
 have hm:t∈ #[25]:=Array.mem_of_getElem? ht
 simp only [List.mem_toArray,List.mem_cons,List.not_mem_nil,or_false]at hm
 subst hm
 exact(show Tryz.prog.wantsStandIn 25=false by kernel_rfl)
theorem card18:Rows.FnResolvedTwiceCardSaid:=
 Claim7.holds_tied_plain_at .later [] _ _ _ _ Hk (fun _ h=>by cases h) Ex (fun _ h=>by cases h) (HL _ rfl rfl) rfl ⟨rfl,rfl⟩ Jv rfl E0 Ew
end Go.Jw
namespace Go.Proofs.YtlcfillobkdnmaaGreatDoor
/-- Whatever the input: the law FnResolvedTwice returns true, and what it reads, reads ags it did. -/
theorem fnResolvedTwice_holds:Rows.FnResolvedTwiceCardSaid:=Go.Jw.card18
end Go.Proofs.YtlcfillobkdnmaaGreatDoor

