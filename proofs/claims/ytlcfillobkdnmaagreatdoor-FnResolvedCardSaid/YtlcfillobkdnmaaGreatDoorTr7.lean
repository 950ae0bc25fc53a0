/- References are replaced by what they point to, but those to objects and choices, and those in choices.: part 7, the proof's texts, made small by a program. -/
import Derived.Test.YtlcfillobkdnmaaGreatDoorTr6
import Derived.Test.YtlcfillobkdnmaaGreatDoorCards
set_option linter.unusedVariables false
set_option linter.unusedSimpArgs false
set_option maxHeartbeats 4000000
namespace Go.Jw
open Go Go.RowKit Go.Proofs Go.ChangeShapes Go.WideShapes Go.Proofs.YtlcfillobkdnmaaGreatDoor
set_option maxRecDepth 100000
section
variable {P:Program} {w:World}
theorem fN{α β:Type}{f:α→Option β}{h:α→β}: ∀ (l:List α),(∀ x∈l,f x=some (h x))→l.mapM f=some (l.map h)
  |[],_=>rfl
  |a::l,H=>by
    rw [List.mapM_cons,H a List.mem_cons_self,fN l (fun x hx=>H x (List.mem_cons_of_mem _ hx))]
    rfl
theorem jk{b off:Nat}{T:TypeId}{cs:List Value}(h:w.heap[b]? =some (.cells cs.toArray T (0,0))):w.cell? ⟨b,off,none⟩=cs[off]? :=by
 unfold World.cell?
 simp [h]
theorem t8{b off n:Nat}{T:TypeId}{cs:List Value}(h:w.heap[b]? =some (.cells cs.toArray T (0,0)))(hn:off+n≤cs.length):w.cells? 0 ⟨b,off,none⟩ n=some ((cs.drop off).take n):=by
  unfold World.cells?
  rw [if_pos (Nat.zero_le _),fN (h:=fun i=>cs.getD (off+i) (.bool false)) (List.range n) (fun i hi=>?_)]
  · congr 1
    apply List.ext_getElem?
    intro j
    rw [List.getElem?_map,List.getElem?_take,List.getElem?_drop]
    by_cases hj:j<n
    · rw [if_pos hj,List.getElem?_range hj]
      simp [List.getD_eq_getElem?_getD,List.getElem?_eq_getElem (show off+j<cs.length by omega)]
    · rw [if_neg hj,List.getElem?_eq_none bi]
      rfl
  · have hi':=List.mem_range.1 hi
    have:(⟨b,off,none⟩:Addr).add i=⟨b,off+i,none⟩:=by
      unfold Addr.add
      by_cases h0:i=0
      · subst h0;rfl
      · rw [if_neg h0]
    rw [this,jk h,List.getD_eq_getElem?_getD,List.getElem?_eq_getElem (show off+i<cs.length by omega)]
    rfl
variable {H:Type} {enc:TypeId×Value→H} {sp:Nat→Bool} {held:Bool}
theorem kB{fuel:Nat}{t e:TypeId}{b n k:Nat}{T:TypeId}{cs:List Value}{g:Nat→DataW H}(ht:P.underlying t=some (.slice e))(hk:P.cellsOf e=k)(hb:w.heap[b]? =some (.cells cs.toArray T (0,0)))(hl:cs.length=n*k)(hn:n≤maxLen)
  (he: ∀ i,i<n→DataW.trod enc P w 0 sp held fuel e ((cs.drop (i*k)).take k)=some (g i,[])):DataW.trod enc P w 0 sp held (fuel+1) t [.slice (some ⟨b,0,none⟩) n n]=some (.slice ((List.range n).map g) [],MemPlace.row ⟨b,0,none⟩ (n*k)):=by
 subst hk
 have hel: ∀ i∈List.range n,(w.cells? 0 ((⟨b,0,none⟩:Addr).add (i*P.cellsOf e)) (P.cellsOf e)).bind (DataW.trod enc P w 0 sp held fuel e)=some ((g i,[]):DataW H×List MemPlace):=by
  intro i hi
  have hi':=List.mem_range.1 hi
  have:(⟨b,0,none⟩:Addr).add (i*P.cellsOf e)=⟨b,i*P.cellsOf e,none⟩:=by
   unfold Addr.add
   by_cases h0:i*P.cellsOf e=0
   ·rw [if_pos h0,h0]
   ·rw [if_neg h0,Nat.zero_add]
  have hle:i*P.cellsOf e+P.cellsOf e≤cs.length:=by
   rw [hl]
   have:=Nat.mul_le_mul_right (P.cellsOf e) (show i+1≤n by omega)
   rw [Nat.succ_mul]at this
   exact this
  rw [this,t8 hb hle,Option.bind_some,he i hi']
 unfold DataW.trod
 simp only [ht]
 rw [if_pos ⟨Nat.zero_le _,Nat.le_refl _,hn⟩,fN _ hel]
 simp [Nat.sub_self]
theorem rd{fuel:Nat}{t e:TypeId}{n k:Nat}{cs:List Value}{g:Nat→DataW H}(ht:P.underlying t=some (.array n e))(hk:P.cellsOf e=k)(hl:cs.length=P.cellsOf t)
  (he: ∀ i,i<n→DataW.trod enc P w 0 sp held fuel e ((cs.drop (i*k)).take k)=some (g i,[])):DataW.trod enc P w 0 sp held (fuel+1) t cs=some (.agg ((List.range n).map g),[]):=by
 subst hk
 have hel: ∀ i∈List.range n,DataW.trod enc P w 0 sp held fuel e ((cs.drop (i*P.cellsOf e)).take (P.cellsOf e))=some ((g i,[]):DataW H×List MemPlace):=fun i hi=>he i (List.mem_range.1 hi)
 unfold DataW.trod
 simp only [ht]
 rw [if_pos hl,fN _ hel]
 simp
theorem uE{n:String}{d:DataW Unit}{r:List (String×DataW Unit)}{p q:List MemPlace}{g t T:Nat}{cs:List Value}(fuel:Nat)(hg:P.globalNamed n=some g)(ht:(P.globals[g]?).map (·.type)=some t)(hh:w.heap[g]? =some (.cells cs.toArray T (0,0)))
  (hd:DataW.trod (fun _=>()) P w 0 (fun _=>true) false fuel t cs=some (d,p)) (hr:DataW.LaidVars P w r q):DataW.LaidVars P w ((n,d)::r) (MemPlace.row ⟨g,0,none⟩ cs.length++p++q):=
 ⟨g,t,cs.toArray,fuel,p,q,hg,ht,by unfold World.var?;rw [hg];simp [hh],by simpa using hd,hr,by simp⟩
def EB:Value→Bool
  | .iface .. =>false
  |_=>true
theorem wO{b off:Nat}{T:TypeId}{cs:List Value}(h:w.heap[b]? =some (.cells cs.toArray T (0,0)))(hn:cs.all EB=true):
  (∃c t,w.heap[b]? =some (.cells c t (0,0)))∧ ∀ u v,w.cell? ⟨b,off,none⟩=some (.iface u v)→Value.okWide P w .any 0 u v:=by
 refine⟨⟨_,_,h⟩,fun u v hc=>?_⟩
 rw [jk h]at hc
 have:=List.all_eq_true.1 hn _ (List.mem_of_getElem? hc)
 cases this
theorem nJ{b off:Nat}{T u:TypeId}{v:Value}(h:w.heap[b]? =some (.cells [.iface u v].toArray T (0,0)))(hn:Value.okWideB P w u v=true):
  (∃c t,w.heap[b]? =some (.cells c t (0,0)))∧ ∀ u' v',w.cell? ⟨b,off,none⟩=some (.iface u' v')→Value.okWide P w .any 0 u' v':=by
 refine⟨⟨_,_,h⟩,fun u' v' hc=>?_⟩
 rw [jk h]at hc
 have:=List.mem_of_getElem? hc
 simp only [List.mem_singleton,Value.iface.injEq]at this
 obtain⟨rfl,rfl⟩:=this
 exact Value.okWide_of_okWideB hn
end
theorem mH{α:Type}(f:α→List Value)(k:Nat)(hf: ∀ x,(f x).length=k): ∀ (l:List α) (i:Nat) (h:i<l.length),((l.flatMap f).drop (i*k)).take k=f l[i]
  |[],i,h=>by simp at h
  |x::l,0,_=>by simp [List.flatMap_cons,←hf x]
  |x::l,i+1,h=>by
    rw [List.flatMap_cons,Nat.succ_mul,Nat.add_comm,←List.drop_drop,List.drop_append_of_le_length (by rw [hf x];exact Nat.le_refl _),←hf x,List.drop_length,List.nil_append,hf x]
    exact mH f k hf l i bm
theorem nK{α:Type}(f:α→List Value)(k:Nat)(hf: ∀ x,(f x).length=k)(l:List α):(l.flatMap f).length=l.length*k:=by
  induction l with
  |nil=>simp
  |cons x l ih=>rw [List.flatMap_cons,List.length_append,hf,ih,List.length_cons,Nat.succ_mul,Nat.add_comm]
theorem iA{α β:Type}[Inhabited α](f:α→β)(l:List α):(List.range l.length).map (fun i=>f (l.getD i default))=l.map f:=by
  apply List.ext_getElem?
  intro j
  rw [List.getElem?_map,List.getElem?_map]
  by_cases h:j<l.length
  · rw [List.getElem?_range h,List.getElem?_eq_getElem h]
    simp [List.getD_eq_getElem?_getD,h]
  · rw [List.getElem?_eq_none bm,List.getElem?_eq_none bm]
    rfl
def iC:Value→DataW Unit
  | .int k n=> .lit (.int k n)
  | .float k b=> .lit (.float k b)
  |_=> .nil
def nL(d:TypeDesc):Value→Bool
  | .int k n=>(match d with| .int k'=>decide (k=k')|_=>false) && (Lit.int k n).wf
  | .float k n=>(match d with| .float k'=>decide (k=k')|_=>false) && (Lit.float k n).wf
  |_=>false
theorem gb{P:Program}{w:World}{sp:Nat→Bool}{held:Bool}{fuel:Nat}{e:TypeId}{d:TypeDesc}{v:Value}(he:P.underlying e=some d)(h:nL d v=true):DataW.trod (fun _=>()) P w 0 sp held (fuel+1) e [v]=some (iC v,[]):=by
 unfold DataW.trod
 cases v<;>simp [nL]at h<;>cases d<;>simp at h<;>(obtain⟨rfl,h2⟩:=h;simp [he,iC,h2])
theorem gE{P:Program}{w:World}{fuel:Nat}{t e:TypeId}{d:TypeDesc}{b n:Nat}{T:TypeId}{cs:List Value}(ht:P.underlying t=some (.slice e))(he:P.underlying e=some d)(hk:P.cellsOf e=1)(hb:w.heap[b]? =some (.cells cs.toArray T (0,0)))(hl:cs.length=n)(hn:n≤maxLen)(hs:cs.all (nL d)=true):
    DataW.trod (fun _=>()) P w 0 (fun _=>true) false (fuel+2) t [.slice (some ⟨b,0,none⟩) n n]=some (.slice (cs.map iC) [],MemPlace.row ⟨b,0,none⟩ n):=by
  subst hl
  have:=kB (P:=P) (w:=w) (enc:=fun _=>()) (sp:=fun _=>true) (held:=false) (fuel:=fuel+1) (k:=1) (n:=cs.length) (g:=fun i=>iC (cs.getD i (.bool false))) ht hk hb aC hn (fun i hi=>by
    have h1:(cs.drop (i*1)).take 1=[cs[i]]:=by rw [Nat.mul_one,List.drop_eq_getElem_cons hi];rfl
    rw [h1,gb he (List.all_eq_true.1 hs _ (List.getElem_mem hi)),List.getD_eq_getElem?_getD,List.getElem?_eq_getElem hi]
    rfl)
  rw [this,Nat.mul_one]
  congr 2
  have h2:(List.range cs.length).map (fun i=>iC (cs.getD i (.bool false)))=cs.map iC:= @iA _ _ ⟨.bool false⟩ iC cs
  rw [h2]
def G3(x:Nat×Nat):List Value:=[Value.int .u64 x.1,Value.int .u64 x.2]
def G4(x:Nat×List UInt8):List Value:=[Value.int .i64 x.1,Value.string ⟨x.2.toArray⟩]
def wc0:List Value:=[.int .u64 1, .int .u64 10, .int .u64 100, .int .u64 1000, .int .u64 10000, .int .u64 100000, .int .u64 1000000, .int .u64 10000000, .int .u64 100000000, .int .u64 1000000000, .int .u64 10000000000, .int .u64 100000000000, .int .u64 1000000000000, .int .u64 10000000000000, .int .u64 100000000000000, .int .u64 1000000000000000, .int .u64 10000000000000000, .int .u64 100000000000000000, .int .u64 1000000000000000000, .int .u64 10000000000000000000]
def wc1:List Value:=[.iface 226 (.pointer (some ⟨18,0,none⟩))]
def wc2:List Value:=[.iface 226 (.pointer (some ⟨19,0,none⟩))]
def wc3:List Value:=[.int .u64 23, .int .u64 8, .int .i64 (-127)]
def wc4:List Value:=[.bool true]
def wc5:List Value:=[.int .u64 52, .int .u64 11, .int .i64 (-1023)]
def wc6:List Value:=[.int .u8 0, .int .u8 1, .int .u8 28, .int .u8 2, .int .u8 29, .int .u8 14, .int .u8 24, .int .u8 3, .int .u8 30, .int .u8 22, .int .u8 20, .int .u8 15, .int .u8 25, .int .u8 17, .int .u8 4, .int .u8 8, .int .u8 31, .int .u8 27, .int .u8 13, .int .u8 23, .int .u8 21, .int .u8 19, .int .u8 16, .int .u8 7, .int .u8 26, .int .u8 12, .int .u8 18, .int .u8 6, .int .u8 11, .int .u8 5, .int .u8 10, .int .u8 9]
def wc7:List Value:=[.int .u8 0, .int .u8 1, .int .u8 56, .int .u8 2, .int .u8 57, .int .u8 49, .int .u8 28, .int .u8 3, .int .u8 61, .int .u8 58, .int .u8 42, .int .u8 50, .int .u8 38, .int .u8 29, .int .u8 17, .int .u8 4, .int .u8 62, .int .u8 47, .int .u8 59, .int .u8 36, .int .u8 45, .int .u8 43, .int .u8 51, .int .u8 22, .int .u8 53, .int .u8 39, .int .u8 33, .int .u8 30, .int .u8 24, .int .u8 18, .int .u8 12, .int .u8 5, .int .u8 63, .int .u8 55, .int .u8 48, .int .u8 27, .int .u8 60, .int .u8 41, .int .u8 37, .int .u8 16, .int .u8 46, .int .u8 35, .int .u8 44, .int .u8 21, .int .u8 52, .int .u8 32, .int .u8 23, .int .u8 11, .int .u8 54, .int .u8 26, .int .u8 40, .int .u8 15, .int .u8 34, .int .u8 20, .int .u8 31, .int .u8 10, .int .u8 25, .int .u8 14, .int .u8 19, .int .u8 9, .int .u8 13, .int .u8 8, .int .u8 7, .int .u8 6]
def wc8:List Value:=[.slice (some ⟨20,0,none⟩) 11 11]
def wc9:List Value:=[.slice (some ⟨21,0,none⟩) 9 9]
def wc10:List Value:=[.slice (some ⟨22,0,none⟩) 23 23]
def wc11:List Value:=Pinned.pow10Rows.flatMap G3
def wc12:List Value:=[.slice (some ⟨23,0,none⟩) Pinned.cheatRows.length Pinned.cheatRows.length]
def wc18:List Value:=[.string ⟨#[105,110,118,97,108,105,100,32,115,121,110,116,97,120]⟩]
def wc19:List Value:=[.string ⟨#[118,97,108,117,101,32,111,117,116,32,111,102,32,114,97,110,103,101]⟩]
def wc20:List Value:=[.float .f32 1065353216, .float .f32 1092616192, .float .f32 1120403456, .float .f32 1148846080, .float .f32 1176256512, .float .f32 1203982336, .float .f32 1232348160, .float .f32 1259902592, .float .f32 1287568416, .float .f32 1315859240, .float .f32 1343554297]
def wc21:List Value:=[.int .i64 1, .int .i64 3, .int .i64 6, .int .i64 9, .int .i64 13, .int .i64 16, .int .i64 19, .int .i64 23, .int .i64 26]
def wc22:List Value:=[.float .f64 4607182418800017408, .float .f64 4621819117588971520, .float .f64 4636737291354636288, .float .f64 4652007308841189376, .float .f64 4666723172467343360, .float .f64 4681608360884174848, .float .f64 4696837146684686336, .float .f64 4711630319722168320, .float .f64 4726483295884279808, .float .f64 4741671816366391296, .float .f64 4756540486875873280, .float .f64 4771362005757984768, .float .f64 4786511204640096256, .float .f64 4801453603149578240, .float .f64 4816244402031689728, .float .f64 4831355200913801216, .float .f64 4846369599423283200, .float .f64 4861130398305394688, .float .f64 4876203697187506176, .float .f64 4891288408196988160, .float .f64 4906019910204099648, .float .f64 4921056587992461136, .float .f64 4936209963552724370]
def wc23:List Value:=Pinned.cheatRows.flatMap G4
noncomputable def wW(os:Os)(args:Array Value):World:=((cY os).forCall (fun _ _=>0) ⟨#[],args,[]⟩).memory
theorem LM(os:Os)(args:Array Value):(wW os args).heap[0]? =some (.cells wc0.toArray 270 (0,0)):=by kernel_rfl
theorem LN(os:Os)(args:Array Value):(wW os args).heap[1]? =some (.cells wc1.toArray 77 (0,0)):=by kernel_rfl
theorem LO(os:Os)(args:Array Value):(wW os args).heap[2]? =some (.cells wc2.toArray 77 (0,0)):=by kernel_rfl
theorem LP(os:Os)(args:Array Value):(wW os args).heap[3]? =some (.cells wc3.toArray 305 (0,0)):=by kernel_rfl
theorem LQ(os:Os)(args:Array Value):(wW os args).heap[4]? =some (.cells wc4.toArray 4 (0,0)):=by kernel_rfl
theorem LR(os:Os)(args:Array Value):(wW os args).heap[5]? =some (.cells wc5.toArray 305 (0,0)):=by kernel_rfl
theorem LS(os:Os)(args:Array Value):(wW os args).heap[6]? =some (.cells wc6.toArray 323 (0,0)):=by kernel_rfl
theorem LT(os:Os)(args:Array Value):(wW os args).heap[7]? =some (.cells wc7.toArray 324 (0,0)):=by kernel_rfl
theorem LU(os:Os)(args:Array Value):(wW os args).heap[8]? =some (.cells wc8.toArray 340 (0,0)):=by kernel_rfl
theorem LV(os:Os)(args:Array Value):(wW os args).heap[9]? =some (.cells wc9.toArray 139 (0,0)):=by kernel_rfl
theorem I4(os:Os)(args:Array Value):(wW os args).heap[10]? =some (.cells wc10.toArray 349 (0,0)):=by kernel_rfl
theorem I5(os:Os)(args:Array Value):(wW os args).heap[11]? =some (.cells wc11.toArray 360 (0,0)):=by kernel_rfl
theorem I6(os:Os)(args:Array Value):(wW os args).heap[12]? =some (.cells wc12.toArray 366 (0,0)):=by kernel_rfl
theorem K1(os:Os)(args:Array Value):(wW os args).heap[18]? =some (.cells wc18.toArray 228 (0,0)):=by kernel_rfl
theorem K2(os:Os)(args:Array Value):(wW os args).heap[19]? =some (.cells wc19.toArray 228 (0,0)):=by kernel_rfl
theorem I7(os:Os)(args:Array Value):(wW os args).heap[20]? =some (.cells wc20.toArray 288 (0,0)):=by kernel_rfl
theorem I8(os:Os)(args:Array Value):(wW os args).heap[21]? =some (.cells wc21.toArray 3 (0,0)):=by kernel_rfl
theorem I9(os:Os)(args:Array Value):(wW os args).heap[22]? =some (.cells wc22.toArray 214 (0,0)):=by kernel_rfl
theorem JA(os:Os)(args:Array Value):(wW os args).heap[23]? =some (.cells wc23.toArray 365 (0,0)):=by kernel_rfl
theorem Mk(w:World):DataW.trod (fun _=>()) Tryz.prog w 0 (fun _=>true) false 8 270 wc0=some (Rows.laid_internal_strconv_uint64pow10,[]):=by kernel_rfl
theorem Ml(w:World):DataW.trod (fun _=>()) Tryz.prog w 0 (fun _=>true) false 8 305 wc3=some (Rows.laid_internal_strconv_float32info,[]):=by kernel_rfl
theorem Mm(w:World):DataW.trod (fun _=>()) Tryz.prog w 0 (fun _=>true) false 8 4 wc4=some (Rows.laid_internal_strconv_optimize,[]):=by kernel_rfl
theorem Mn(w:World):DataW.trod (fun _=>()) Tryz.prog w 0 (fun _=>true) false 8 305 wc5=some (Rows.laid_internal_strconv_float64info,[]):=by kernel_rfl
theorem Mo(w:World):DataW.trod (fun _=>()) Tryz.prog w 0 (fun _=>true) false 8 323 wc6=some (Rows.laid_math_bits_deBruijn32tab,[]):=by kernel_rfl
theorem Mp(w:World):DataW.trod (fun _=>()) Tryz.prog w 0 (fun _=>true) false 8 324 wc7=some (Rows.laid_math_bits_deBruijn64tab,[]):=by kernel_rfl
theorem Mq(os:Os)(args:Array Value):DataW.trod (fun _=>()) Tryz.prog (wW os args) 0 (fun _=>true) false 8 340 wc8=some (Rows.laid_internal_strconv_float32pow10,MemPlace.row ⟨20,0,none⟩ 11):=
 (gE (fuel:=6) (e:=288) (d:= .float .f32) (cs:=wc20) (n:=11) aF aF aF (I7 os args) rfl bT aF).trans aF
theorem Mr(os:Os)(args:Array Value):DataW.trod (fun _=>()) Tryz.prog (wW os args) 0 (fun _=>true) false 8 139 wc9=some (Rows.laid_internal_strconv_powtab,MemPlace.row ⟨21,0,none⟩ 9):=
 (gE (fuel:=6) (e:=3) (d:= .int .i64) (cs:=wc21) (n:=9) aF aF aF (I8 os args) rfl bT aF).trans aF
theorem K3(os:Os)(args:Array Value):DataW.trod (fun _=>()) Tryz.prog (wW os args) 0 (fun _=>true) false 8 349 wc10=some (Rows.laid_internal_strconv_float64pow10,MemPlace.row ⟨22,0,none⟩ 23):=
 (gE (fuel:=6) (e:=214) (d:= .float .f64) (cs:=wc22) (n:=23) aF aF aF (I9 os args) rfl bT aF).trans aF
theorem Ms(os:Os)(args:Array Value):DataW.trod (fun _=>()) Tryz.prog (wW os args) 0 (fun _=>true) false 8 77 wc1=some (Rows.laid_strconv_ErrSyntax,MemPlace.row ⟨18,0,none⟩ 1):=by kernel_rfl
theorem Mt(os:Os)(args:Array Value):Value.okWideB Tryz.prog (wW os args) 226 (.pointer (some ⟨18,0,none⟩))=true:=by kernel_rfl
theorem Mv(os:Os)(args:Array Value):DataW.trod (fun _=>()) Tryz.prog (wW os args) 0 (fun _=>true) false 8 77 wc2=some (Rows.laid_strconv_ErrRange,MemPlace.row ⟨19,0,none⟩ 1):=by kernel_rfl
theorem Mw(os:Os)(args:Array Value):Value.okWideB Tryz.prog (wW os args) 226 (.pointer (some ⟨19,0,none⟩))=true:=by kernel_rfl
theorem EC(w:World)(x:Nat×Nat)(h1:(Lit.int .u64 (x.1:Int)).wf=true)(h2:(Lit.int .u64 (x.2:Int)).wf=true):DataW.trod (fun _=>()) Tryz.prog w 0 (fun _=>true) false 7 359 (G3 x)=some (.agg [.lit (.int .u64 x.1), .lit (.int .u64 x.2)],[]):=by
 have e1:Tryz.prog.underlying 359=some (.struct #[⟨ "hi",235,0,false, "", "internal/strconv",0⟩,⟨ "lo",235,1,false, "", "internal/strconv",8⟩]):=by kernel_rfl
 have e2:Tryz.prog.cellsOf 359=2:=by kernel_rfl
 have e3:Tryz.prog.cellsOf 235=1:=by kernel_rfl
 have e4:Tryz.prog.underlying 235=some (.int .u64):=by kernel_rfl
 unfold DataW.trod
 simp only [e1,G3,e2]
 rw [if_pos (show([Value.int .u64 (x.1:Int),Value.int .u64 (x.2:Int)]:List Value).length=2 from rfl)]
 simp only [List.mapM_cons,List.mapM_nil,e3]
 have t1:DataW.trod (fun _=>()) Tryz.prog w 0 (fun _=>true) false 6 235 [Value.int .u64 x.1]=some (.lit (.int .u64 x.1),[]):=gb (fuel:=5) e4 (by simp [nL,h1])
 have t2:DataW.trod (fun _=>()) Tryz.prog w 0 (fun _=>true) false 6 235 [Value.int .u64 x.2]=some (.lit (.int .u64 x.2),[]):=gb (fuel:=5) e4 (by simp [nL,h2])
 simp [t1,t2]
theorem K4(w:World):DataW.trod (fun _=>()) Tryz.prog w 0 (fun _=>true) false 8 360 wc11=some (Rows.laid_internal_strconv_pow10Tab,[]):=by
  have hl:wc11.length=Pinned.pow10Rows.length*2:=nK G3 2 (fun _=>rfl) _
  have hr:Pinned.pow10Rows.length=696:=by kernel_rfl
  have hwf:Pinned.pow10Rows.all (fun x=>(Lit.int .u64 x.1).wf && (Lit.int .u64 x.2).wf)=true:=by kernel_rfl
  have:=rd (P:=Tryz.prog) (w:=w) (enc:=fun _=>()) (sp:=fun _=>true) (held:=false) (fuel:=7) (t:=360) (e:=359) (n:=696) (k:=2) (cs:=wc11) (g:=fun i=>(fun x:Nat×Nat=>(.agg [.lit (.int .u64 x.1), .lit (.int .u64 x.2)]:DataW Unit)) (Pinned.pow10Rows.getD i default)) aF aF (by rw [hl,hr];kernel_rfl) (fun i hi=>by
    have hi':i<Pinned.pow10Rows.length:=by rw [hr];exact hi
    have h1:(wc11.drop (i*2)).take 2=G3 Pinned.pow10Rows[i]:=mH G3 2 (fun _=>rfl) _ i hi'
    have h2:=List.all_eq_true.1 hwf _ (List.getElem_mem hi')
    simp only [Bool.and_eq_true]at h2
    rw [h1,List.getD_eq_getElem?_getD,List.getElem?_eq_getElem hi',Option.getD_some]
    exact EC w _ h2.1 h2.2)
  rw [this]
  have h3:=iA (fun x:Nat×Nat=>(.agg [.lit (.int .u64 x.1), .lit (.int .u64 x.2)]:DataW Unit)) Pinned.pow10Rows
  rw [hr]at h3
  rw [h3]
  rfl
theorem ED(w:World)(x:Nat×List UInt8)(h1:(Lit.int .i64 (x.1:Int)).wf=true)(h2:x.2.length≤maxLen):DataW.trod (fun _=>()) Tryz.prog w 0 (fun _=>true) false 7 365 (G4 x)=some (.agg [.lit (.int .i64 x.1), .lit (.string x.2)],[]):=by
 have e1:Tryz.prog.underlying 365=some (.struct #[⟨ "delta",3,0,false, "", "internal/strconv",0⟩,⟨ "cutoff",9,1,false, "", "internal/strconv",8⟩]):=by kernel_rfl
 have e2:Tryz.prog.cellsOf 365=2:=by kernel_rfl
 have e3:Tryz.prog.cellsOf 3=1:=by kernel_rfl
 have e4:Tryz.prog.cellsOf 9=1:=by kernel_rfl
 have e5:Tryz.prog.underlying 3=some (.int .i64):=by kernel_rfl
 have e6:Tryz.prog.underlying 9=some .string:=by kernel_rfl
 have t1:DataW.trod (fun _=>()) Tryz.prog w 0 (fun _=>true) false 6 3 [Value.int .i64 x.1]=some (.lit (.int .i64 x.1),[]):=gb (fuel:=5) e5 (by simp [nL,h1])
 have t2:DataW.trod (fun _=>()) Tryz.prog w 0 (fun _=>true) false 6 9 [Value.string ⟨x.2.toArray⟩]=some (.lit (.string x.2),[]):=by
  unfold DataW.trod
  have:(ByteArray.mk x.2.toArray).size≤maxLen:=by simpa [ByteArray.size]using h2
  simp [e6,this]
 unfold DataW.trod
 simp only [e1,G4,e2]
 rw [if_pos (show([Value.int .i64 (x.1:Int),Value.string ⟨x.2.toArray⟩]:List Value).length=2 from rfl)]
 simp only [List.mapM_cons,List.mapM_nil,e3,e4]
 simp [t1,t2]
theorem K5(os:Os)(args:Array Value):DataW.trod (fun _=>()) Tryz.prog (wW os args) 0 (fun _=>true) false 8 366 wc12=some (Rows.laid_internal_strconv_leftcheats,MemPlace.row ⟨23,0,none⟩ 122):=by
  have hl:wc23.length=Pinned.cheatRows.length*2:=nK G4 2 (fun _=>rfl) _
  have hr:Pinned.cheatRows.length=61:=by kernel_rfl
  have hwf:Pinned.cheatRows.all (fun x=>(Lit.int .i64 x.1).wf && decide (x.2.length≤maxLen))=true:=by kernel_rfl
  have:=kB (P:=Tryz.prog) (w:=wW os args) (enc:=fun _=>()) (sp:=fun _=>true) (held:=false) (fuel:=7) (t:=366) (e:=365) (b:=23) (n:=61) (k:=2) (T:=365) (cs:=wc23) (g:=fun i=>(fun x:Nat×List UInt8=>(.agg [.lit (.int .i64 x.1), .lit (.string x.2)]:DataW Unit)) (Pinned.cheatRows.getD i default)) aF aF (JA os args) (by rw [hl,hr]) bT (fun i hi=>by
    have hi':i<Pinned.cheatRows.length:=by rw [hr];exact hi
    have h1:(wc23.drop (i*2)).take 2=G4 Pinned.cheatRows[i]:=mH G4 2 (fun _=>rfl) _ i hi'
    have h2:=List.all_eq_true.1 hwf _ (List.getElem_mem hi')
    simp only [Bool.and_eq_true,decide_eq_true_eq]at h2
    rw [h1,List.getD_eq_getElem?_getD,List.getElem?_eq_getElem hi',Option.getD_some]
    exact ED _ _ h2.1 h2.2)
  have h3:=iA (fun x:Nat×List UInt8=>(.agg [.lit (.int .i64 x.1), .lit (.string x.2)]:DataW Unit)) Pinned.cheatRows
  rw [hr]at h3
  rw [h3]at this
  exact this
def JN:List MemPlace:=MemPlace.row ⟨6,0,none⟩ wc6.length++[]++(MemPlace.row ⟨7,0,none⟩ wc7.length++[]++(MemPlace.row ⟨3,0,none⟩ wc3.length++[]++(MemPlace.row ⟨5,0,none⟩ wc5.length++[]++(MemPlace.row ⟨4,0,none⟩ wc4.length++[]++(MemPlace.row ⟨9,0,none⟩ wc9.length++MemPlace.row ⟨21,0,none⟩ 9++(MemPlace.row ⟨10,0,none⟩ wc10.length++MemPlace.row ⟨22,0,none⟩ 23++(MemPlace.row ⟨8,0,none⟩ wc8.length++MemPlace.row ⟨20,0,none⟩ 11++(MemPlace.row ⟨0,0,none⟩ wc0.length++[]++(MemPlace.row ⟨2,0,none⟩ wc2.length++MemPlace.row ⟨19,0,none⟩ 1++(MemPlace.row ⟨1,0,none⟩ wc1.length++MemPlace.row ⟨18,0,none⟩ 1++(MemPlace.row ⟨12,0,none⟩ wc12.length++MemPlace.row ⟨23,0,none⟩ 122++(MemPlace.row ⟨11,0,none⟩ wc11.length++[]++([])))))))))))))
theorem Mx(os:Os)(args:Array Value):DataW.LaidVars Tryz.prog (wW os args) Rows.fnTextedRow.laid JN:=
 uE 8 aF aF (LS os args) (Mo _) (uE 8 aF aF (LT os args) (Mp _) (uE 8 aF aF (LP os args) (Ml _) (uE 8 aF aF (LR os args) (Mn _) (uE 8 aF aF (LQ os args) (Mm _) (uE 8 aF aF (LV os args) (Mr os args) (uE 8 aF aF (I4 os args) (K3 os args) (uE 8 aF aF (LU os args) (Mq os args) (uE 8 aF aF (LM os args) (Mk _) (uE 8 aF aF (LO os args) (Mv os args) (uE 8 aF aF (LN os args) (Ms os args) (uE 8 aF aF (I6 os args) (K5 os args) (uE 8 aF aF (I5 os args) (K4 _) (rfl)))))))))))))
def K6:List Nat:=[0,1,2,3,4,5,6,7,8,9,10,11,12,18,19,20,21,22,23]
theorem My:nodupBits 1400 JN 0=true:=by kernel_rfl
theorem Mz:MZ K6 JN=true:=by kernel_rfl
theorem CL(os:Os)(args:Array Value):laidMet Tryz.prog Rows.fnTextedRow.laid (wW os args):=by
 refine⟨JN,Mx os args,(nodupBits_sound My).1,fun b off hp=>?_⟩
 have h1:=List.all_eq_true.1 Mz _ hp
 have hb:b∈K6:=by simpa using h1
 simp only [K6,List.mem_cons,List.not_mem_nil,or_false]at hb
 rcases hb with rfl|rfl|rfl|rfl|rfl|rfl|rfl|rfl|rfl|rfl|rfl|rfl|rfl|rfl|rfl|rfl|rfl|rfl|rfl
 ·exact wO (LM os args) aF
 ·exact nJ (LN os args) (Mt os args)
 ·exact nJ (LO os args) (Mw os args)
 ·exact wO (LP os args) aF
 ·exact wO (LQ os args) aF
 ·exact wO (LR os args) aF
 ·exact wO (LS os args) aF
 ·exact wO (LT os args) aF
 ·exact wO (LU os args) aF
 ·exact wO (LV os args) aF
 ·exact wO (I4 os args) aF
 ·exact wO (I5 os args) aF
 ·exact wO (I6 os args) aF
 ·exact wO (K1 os args) aF
 ·exact wO (K2 os args) aF
 ·exact wO (I7 os args) aF
 ·exact wO (I8 os args) aF
 ·exact wO (I9 os args) aF
 ·exact wO (JA os args) aF
end Go.Jw

namespace Go.Jw
open Go Go.RowKit Go.Proofs Go.ChangeShapes Go.WideShapes Go.ChangeAt Go.Proofs.YtlcfillobkdnmaaGreatDoor
set_option maxRecDepth 100000
noncomputable abbrev jP:Program:=Tryz.pinned.checked.prog
def jL:List Char:=([104,97,114,110,101,115,115,32,51,52,54,53,50,48,98,97,101,52,98,52,51,99,98,99,55,56,100,101,53,53,51,57,50,50,101,54,99,51,55,50,100,97,98,97,102,48,98,100,48,48,53,100,102,57,97,97,102,99,54,50,57,100,55,55,100,51,48,101,52,48,56,53,32,99,117,116,32,97,116,32,108,111,111,112,46,101,120,97,109,112,108,101,47,112,117,98,45,103,48,49,53,50,50,47,108,97,119,115,46,70,110,84,101,120,116,101,100,32,108,111,111,112,46,101,120,97,109,112,108,101,47,112,117,98,45,103,48,49,53,50,50,47,108,97,119,115,46,70,110,87,114,105,116,116,101,110,32,108,111,111,112,46,101,120,97,109,112,108,101,47,112,117,98,45,103,48,49,53,50,50,47,108,97,119,115,46,70,110,87,114,105,116,116,101,110,84,119,105,99,101,32,108,111,111,112,46,101,120,97,109,112,108,101,47,112,117,98,45,103,48,49,53,50,50,47,108,97,119,115,46,70,110,65,100,100,101,100,32,108,111,111,112,46,101,120,97,109,112,108,101,47,112,117,98,45,103,48,49,53,50,50,47,108,97,119,115,46,70,110,70,111,117,110,100,32,108,111,111,112,46,101,120,97,109,112,108,101,47,112,117,98,45,103,48,49,53,50,50,47,108,97,119,115,46,70,110,80,111,105,110,116,101,100,32,108,111,111,112,46,101,120,97,109,112,108,101,47,112,117,98,45,103,48,49,53,50,50,47,108,97,119,115,46,70,110,67,111,112,105,101,100,32,108,111,111,112,46,101,120,97,109,112,108,101,47,112,117,98,45,103,48,49,53,50,50,47,108,97,119,115,46,70,110,67,111,112,105,101,100,65,99,99,101,112,116,115,32,108,111,111,112,46,101,120,97,109,112,108,101,47,112,117,98,45,103,48,49,53,50,50,47,108,97,119,115,46,70,110,65,108,108,83,116,101,112,115,32,108,111,111,112,46,101,120,97,109,112,108,101,47,112,117,98,45,103,48,49,53,50,50,47,108,97,119,115,46,70,110,67,104,111,115,101,110,32,108,111,111,112,46,101,120,97,109,112,108,101,47,112,117,98,45,103,48,49,53,50,50,47,108,97,119,115,46,70,110,67,104,111,115,101,110,78,97,114,114,111,119,115,32,108,111,111,112,46,101,120,97,109,112,108,101,47,112,117,98,45,103,48,49,53,50,50,47,108,97,119,115,46,70,110,77,101,114,103,101,100,32,108,111,111,112,46,101,120,97,109,112,108,101,47,112,117,98,45,103,48,49,53,50,50,47,108,97,119,115,46,70,110,77,101,114,103,101,100,65,99,99,101,112,116,115,32,108,111,111,112,46,101,120,97,109,112,108,101,47,112,117,98,45,103,48,49,53,50,50,47,108,97,119,115,46,70,110,82,101,115,111,108,118,101,100,32,108,111,111,112,46,101,120,97,109,112,108,101,47,112,117,98,45,103,48,49,53,50,50,47,108,97,119,115,46,70,110,82,101,115,111,108,118,101,100,65,99,99,101,112,116,115,32,108,111,111,112,46,101,120,97,109,112,108,101,47,112,117,98,45,103,48,49,53,50,50,47,108,97,119,115,46,70,110,82,101,115,111,108,118,101,100,84,119,105,99,101]:List Nat).map Char.ofNat
def jW:List (List Char):=([[104,97,114,110,101,115,115],[51,52,54,53,50,48,98,97,101,52,98,52,51,99,98,99,55,56,100,101,53,53,51,57,50,50,101,54,99,51,55,50,100,97,98,97,102,48,98,100,48,48,53,100,102,57,97,97,102,99,54,50,57,100,55,55,100,51,48,101,52,48,56,53],[99,117,116],[97,116],[108,111,111,112,46,101,120,97,109,112,108,101,47,112,117,98,45,103,48,49,53,50,50,47,108,97,119,115,46,70,110,84,101,120,116,101,100],[108,111,111,112,46,101,120,97,109,112,108,101,47,112,117,98,45,103,48,49,53,50,50,47,108,97,119,115,46,70,110,87,114,105,116,116,101,110],[108,111,111,112,46,101,120,97,109,112,108,101,47,112,117,98,45,103,48,49,53,50,50,47,108,97,119,115,46,70,110,87,114,105,116,116,101,110,84,119,105,99,101],[108,111,111,112,46,101,120,97,109,112,108,101,47,112,117,98,45,103,48,49,53,50,50,47,108,97,119,115,46,70,110,65,100,100,101,100],[108,111,111,112,46,101,120,97,109,112,108,101,47,112,117,98,45,103,48,49,53,50,50,47,108,97,119,115,46,70,110,70,111,117,110,100],[108,111,111,112,46,101,120,97,109,112,108,101,47,112,117,98,45,103,48,49,53,50,50,47,108,97,119,115,46,70,110,80,111,105,110,116,101,100],[108,111,111,112,46,101,120,97,109,112,108,101,47,112,117,98,45,103,48,49,53,50,50,47,108,97,119,115,46,70,110,67,111,112,105,101,100],[108,111,111,112,46,101,120,97,109,112,108,101,47,112,117,98,45,103,48,49,53,50,50,47,108,97,119,115,46,70,110,67,111,112,105,101,100,65,99,99,101,112,116,115],[108,111,111,112,46,101,120,97,109,112,108,101,47,112,117,98,45,103,48,49,53,50,50,47,108,97,119,115,46,70,110,65,108,108,83,116,101,112,115],[108,111,111,112,46,101,120,97,109,112,108,101,47,112,117,98,45,103,48,49,53,50,50,47,108,97,119,115,46,70,110,67,104,111,115,101,110],[108,111,111,112,46,101,120,97,109,112,108,101,47,112,117,98,45,103,48,49,53,50,50,47,108,97,119,115,46,70,110,67,104,111,115,101,110,78,97,114,114,111,119,115],[108,111,111,112,46,101,120,97,109,112,108,101,47,112,117,98,45,103,48,49,53,50,50,47,108,97,119,115,46,70,110,77,101,114,103,101,100],[108,111,111,112,46,101,120,97,109,112,108,101,47,112,117,98,45,103,48,49,53,50,50,47,108,97,119,115,46,70,110,77,101,114,103,101,100,65,99,99,101,112,116,115],[108,111,111,112,46,101,120,97,109,112,108,101,47,112,117,98,45,103,48,49,53,50,50,47,108,97,119,115,46,70,110,82,101,115,111,108,118,101,100],[108,111,111,112,46,101,120,97,109,112,108,101,47,112,117,98,45,103,48,49,53,50,50,47,108,97,119,115,46,70,110,82,101,115,111,108,118,101,100,65,99,99,101,112,116,115],[108,111,111,112,46,101,120,97,109,112,108,101,47,112,117,98,45,103,48,49,53,50,50,47,108,97,119,115,46,70,110,82,101,115,111,108,118,101,100,84,119,105,99,101]]:List (List Nat)).map fun l=>l.map Char.ofNat
theorem hI:jP.initOrder=String.ofList jL:=by kernel_rfl
theorem M3:wordsSigns jL=jW:=by kernel_rfl
theorem hW:wordsSigns jP.initOrder.toList=jW:=by rw [hI,String.toList_ofList,M3]
theorem jh:behindMainWord (wordsSigns jP.initOrder.toList)= "cut".toList::jW.drop 3:=by rw [hW];kernel_rfl
theorem EE{P:Program}{rest:List (List Char)}(h:behindMainWord (wordsSigns P.initOrder.toList)= "cut".toList::rest):P.make=some .cut:=by unfold Program.make;rw [h];rfl
theorem CM{P:Program}{rest:List (List Char)}(h:behindMainWord (wordsSigns P.initOrder.toList)= "cut".toList::rest):P.liftsFinal=false:=by unfold Program.liftsFinal Program.headLifts;rw [h];rfl
theorem CN{P:Program}{rest:List (List Char)}(h:behindMainWord (wordsSigns P.initOrder.toList)= "cut".toList::rest)(l1:P.laysLater=false)(l2:P.bearsReflect=false)(l3:P.doorFits []=true):P.mayEnter=true:=by
 have h1:(stripLifts liftWords ("cut".toList::rest)).1=[]:=rfl
 have h2:(stripLifts liftWords ("cut".toList::rest)).2= "cut".toList::rest:=rfl
 unfold Program.mayEnter
 rw [h]
 simp only [h1,h2,l1,l2,l3,List.head?_cons]
 simp
theorem M4:jP.laysLater=false:=by kernel_rfl
theorem M5:jP.bearsReflect=false:=by kernel_rfl
theorem M6:jP.doorFits []=true:=by kernel_rfl
theorem j1:(laidOutB jP)=true:=by kernel_rfl
theorem j2:(mapsRowed jP)=true:=by kernel_rfl
theorem j6:((jP.stops==[]))=true:=by kernel_rfl
theorem j8:((jP.stopKnobs==[]))=true:=by kernel_rfl
theorem M7:(jP.stopsHeard)=true:=by kernel_rfl
theorem M8:(jP.mayEnter)=true:=CN jh M4 M5 M6
noncomputable abbrev jC16:OpenClaim:=Rows.fnResolvedRow
noncomputable abbrev jS16:ChangeSpec:=(OpenSpec.ofChange Rows.fnResolvedSpec).bare
noncomputable abbrev jF16:Func:=Tryz.f16
theorem JB:(jC16.wf (OpenSpec.ofChange jS16))=true:=by kernel_rfl
theorem JC:(jF16.params.all (jP.readableRec ·))=true:=by kernel_rfl
theorem JD:(namedTie jP jC16.named jS16.vars)=true:=by kernel_rfl
theorem JE:((jC16.stops==[]))=true:=by kernel_rfl
theorem JF:((jC16.knobs==[]))=true:=by kernel_rfl
theorem JG:((jC16.inPlace==jP.inPlace 16))=true:=by kernel_rfl
theorem GX:((jC16.unfollowed==jP.unfollowed 16))=true:=by kernel_rfl
theorem GY:((jC16.recurses==jP.recurses 16))=true:=by kernel_rfl
theorem GZ:((jC16.named==jP.varsNamed 16))=true:=by kernel_rfl
theorem Ga:((jC16.maps==(jF16.params.toList++jS16.plain.varTypes jP).any (jP.mapsRec ·)))=true:=by kernel_rfl
theorem Gb:((jC16.ifaces==(jF16.params.toList++jS16.plain.varTypes jP).any (jP.ifacesRec ·)))=true:=by kernel_rfl
theorem Gc:((jC16.mapsOut==jP.mapsAmong jF16.resultTypes.toList))=true:=by kernel_rfl
theorem Gd:((jC16.loops==(jF16.params.toList++jS16.plain.varTypes jP).any (jP.loopsFrom ·)))=true:=by kernel_rfl
theorem Ge:((jC16.wideKeys==(jF16.params.toList++jS16.plain.varTypes jP++jF16.resultTypes.toList).any (jP.wideKeysFrom ·)))=true:=by kernel_rfl
theorem Gf:(jS16.vars.all (jP.varReadable ·))=true:=by kernel_rfl
theorem Gg:(jF16.resultTypes.all (fun t=>jP.readableRec t && decide (t<jP.types.size)))=true:=by kernel_rfl
theorem Gh:((jC16.ifacesOut==jF16.resultTypes.toList.any (jP.ifacesRec ·)))=true:=by kernel_rfl
theorem Gi:((jC16.loopsOut==jF16.resultTypes.toList.any (jP.loopsFrom ·)))=true:=by kernel_rfl
theorem Gj:((jC16.plainKeys==jP.plainKeys))=true:=by kernel_rfl
theorem Gk:(jC16.shortTexts.isNone)=true:=by kernel_rfl
theorem Gl:((jC16.lifted==jP.liftsFinal))=true:=by rw [CM jh];kernel_rfl
theorem Gm:((jP.make==some jC16.make))=true:=by rw [EE jh];kernel_rfl
theorem Gn:((jC16.kinds==(if jC16.domain.isEmpty then []else jF16.params.toList.map fun t=>match jP.underlying t with|some (.int k)=>some k|_=>none)))=true:=by kernel_rfl
theorem Gp:((jC16.pinned==jC16.pinnedBy))=true:=by kernel_rfl
theorem Gq:((jC16.veiled==(jF16.params.toList++jS16.plain.varTypes jP++jF16.resultTypes.toList).any (jP.veiledRec ·)))=true:=by kernel_rfl
theorem Gs:(jC16.veiledFits jP jF16.params.toList (jF16.params.toList++jS16.plain.varTypes jP++jF16.resultTypes.toList))=true:=by kernel_rfl
theorem Gt:joinedFacts jP 16 jF16 jS16 jC16=true:=by
 unfold joinedFacts
 simp only [Bool.and_eq_true]
 exact⟨⟨⟨⟨⟨⟨⟨⟨⟨⟨⟨⟨⟨⟨⟨⟨⟨⟨⟨⟨⟨⟨⟨⟨⟨⟨⟨⟨⟨⟨⟨JB,j1⟩,j2⟩,JC⟩,JD⟩,JE⟩,j6⟩,JF⟩,j8⟩,JG⟩,GX⟩,GY⟩,GZ⟩,Ga⟩,Gb⟩,Gc⟩,Gd⟩,Ge⟩,Gf⟩,Gg⟩,Gh⟩,Gi⟩,Gj⟩,Gk⟩,M7⟩,M8⟩,Gl⟩,Gm⟩,Gn⟩,Gp⟩,Gq⟩,Gs⟩
theorem EF:false=jC16.goesBy jP:=by kernel_rfl
theorem EG:jC16.wfByText (OpenSpec.ofChange Rows.fnResolvedSpec)=true:=by kernel_rfl
def Gu:Value:= .agg #[.int .i64 0, .int .i64 0, .string ⟨#[]⟩, .slice none 0 0, .slice none 0 0]
theorem EH{P:Program}{h s:List Char}{r:List (List Char)}(hw:wordsSigns P.initOrder.toList=h::s::r)(h1:h= "harness".toList)(h2:isSumSigns s=true):P.mainIs=some (true,s):=by
 unfold Program.mainIs
 rw [hw,h1]
 simp only [h2]
 rfl
theorem NA:wordsSigns jP.initOrder.toList= "harness".toList:: "346520bae4b43cbc78de553922e6c372dabaf0bd005df9aafc629d77d30e4085".toList::jW.drop 2:=by rw [hW];kernel_rfl
theorem K7:isSumSigns "346520bae4b43cbc78de553922e6c372dabaf0bd005df9aafc629d77d30e4085".toList=true:=by kernel_rfl
theorem JH:jP.mainIs=some (true, "346520bae4b43cbc78de553922e6c372dabaf0bd005df9aafc629d77d30e4085".toList):=EH NA rfl K7
theorem EI(os:Os){H:Type}(enc:TypeId×Value→H): ∃places,DataW.whole enc Tryz.prog ((cY os).forCall (fun _ _=>0) ⟨#[], #[Gu],[]⟩).memory Tryz.f16.params.toList Rows.fnResolvedSpec.vars false #[Gu].toList 8=some ([.agg [.lit (.int .i64 0), .lit (.int .i64 0), .lit (.string []), .nil, .nil]],[],places):=
 ⟨[],by kernel_rfl⟩
theorem CO(os:Os)(started:os.Started)(H:Type)(enc:TypeId×Value→H)(F:Stop.Interp):
    ReturnsInHanded {} Tryz.checked os 16 .any ((OpenSpec.ofChange Rows.fnResolvedSpec).preRow enc Tryz.prog Tryz.f16 Rows.fnResolvedRow.domain false Rows.fnResolvedRow.laid) (((OpenSpec.ofChange Rows.fnResolvedSpec).at F).post enc Tryz.prog Tryz.f16 false true false false):=by
  obtain⟨places,hx⟩:=EI os enc
  refine returnsInHanded_of_row (C:=Tryz.checked) (s:=(OpenSpec.ofChange Rows.fnResolvedSpec)) own started aF Tryz.func16
    (witness_row_atRef (enc:=enc) (C:=Tryz.checked) false (cY os) #[Gu] rfl (CK os _) aF aF
      (OpenSpec.preRow_of_cond 8 hx aF (fun k hk=>by cases hk) aF (CL os _))) ?_
  intro W base args ds gs before hval hW _ _ _ hL _ _
  exact tx H enc W base args ds gs before hval hW hL
theorem Gv:Rows.FnResolvedSaid:=
  OpenClaim.holds_of_cond 16 Tryz.f16 rfl rfl rfl rfl rfl rfl rfl ⟨rfl,rfl,rfl,rfl,rfl⟩ rfl rfl rfl rfl rfl aF Tryz.func16 Gt
    (of_decide_eq_true aF) (by unfold Func.isWrapper;first|(rw [if_pos aD];kernel_rfl)|(rw [if_neg aD];exact⟨rfl,rfl⟩))
    (fun os started H enc _ F=>by rw [OpenClaim.pre_eq_preRow];exact CO os started H enc F)
theorem EJ(f:FuncId)(fn:Func)(hf:Tryz.pinned.checked.prog.funcNamed "loop.example/pub-g01522/laws.FnResolved" =some f)(hfn:Tryz.pinned.checked.prog.funcs[f]? =some fn):
  true=Tryz.pinned.checked.prog.looks []∧ ∀ (j:Nat) t,fn.params[j]? =some t→Tryz.pinned.checked.prog.wantsStandIn t=false:=by
 obtain rfl:f=16:=Option.some.inj ((show Tryz.prog.funcNamed "loop.example/pub-g01522/laws.FnResolved" =some 16 by kernel_rfl).symm.trans hf)|>.symm
 obtain rfl:fn=Tryz.f16:=(Option.some.inj (Tryz.func16.symm.trans hfn)).symm
 refine⟨by kernel_rfl,fun j t ht=>?_⟩
 rw [Tryz.params16]at ht
 have hm:t∈ #[25]:=Array.mem_of_getElem? ht
 simp only [List.mem_toArray,List.mem_cons,List.not_mem_nil,or_false]at hm
 subst hm
 exact(show Tryz.prog.wantsStandIn 25=false by kernel_rfl)
theorem card16:Rows.FnResolvedCardSaid:=
 Claim7.holds_tied_plain_at .later [] _ _ _ _ Gv (fun _ h=>by cases h) EG (fun _ h=>by cases h) (GV _ rfl rfl) rfl ⟨rfl,rfl⟩ JH rfl EJ EF
end Go.Jw
namespace Go.Proofs.YtlcfillobkdnmaaGreatDoor
/-- Whatever the input: the law FnResolved returns true, and what it reads, reads ags it did. -/
theorem fnResolved_holds:Rows.FnResolvedCardSaid:=Go.Jw.card16
end Go.Proofs.YtlcfillobkdnmaaGreatDoor

