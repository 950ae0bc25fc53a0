/- Part 1 of the proof's texts, made small by a program. -/
import Derived.WalkKit
import Derived.Maps.AppendAt
import Derived.OrdersHeld
import Derived.Laws.OwnMore
import Derived.Deep.LoopGhost
import Derived.WalkLawsBesides
set_option linter.unusedVariables false
set_option linter.unusedSimpArgs false
set_option maxHeartbeats 4000000
namespace Go.Jw
open Go Go.RowKit
theorem aC{p:Prop}(h:p:=by omega):p:=h
theorem aD{p:Prop}(h:p:=by decide+kernel):p:=h
theorem aE{p:Prop}(h:p:=by decide):p:=h
theorem aF{p:Prop}(h:p:=by kernel_rfl):p:=h
theorem aG{p:Prop}(h:p:=by intro b h;cases h):p:=h
theorem aH{p:Prop}(h:p:=by intro _ h;cases h):p:=h
theorem aI{p:Prop}(h:p:=by intro _ _ h;cases h):p:=h
theorem aJ{p:Prop}(h:p:=by simp):p:=h
theorem aL{p:Prop}(h:p:=by rw [hst];exact(eC rfl (eC rfl (eC rfl (eC (by first|rfl|exact congrArg some (congrArg Value.bool (decide_eq_true (Nat.succ_pos _)).symm)|exact congrArg some (congrArg Value.bool ((decide_eq_true hj0).trans (decide_eq_true (Nat.succ_pos _)).symm))) (eC rfl (eC rfl (eC rfl (eC rfl (eC rfl (eC rfl (eC rfl (eC rfl (eC rfl (eC rfl (eC rfl (eC rfl (eC rfl (eN _))))))))))))))))))):p:=h
theorem aM{p:Prop}(h:p:=by intro b hb;simp only [List.mem_singleton,cP,HA.foot,List.flatMap_cons,List.flatMap_nil,List.mem_cons,List.mem_append,List.not_mem_nil,or_false]at hb⊢;subst hb;simp [cP,HA.foot]):p:=h
theorem aN{p:Prop}(h:p:=by simp only [Bool.false_eq_true,false_iff];intro h;have:=h.1 i h8;unfold PE at this;(try simp only [decide_eq_true_eq,decide_eq_false_iff_not,ne_eq,Decidable.not_not]at*);omega):p:=h
theorem aO{p:Prop}(h:p:=by rw [Bool.eq_iff_iff];unfold fu dl;rw [h5];simp only [Bool.or_eq_true,decide_eq_true_eq,Bool.false_eq_true,true_iff,false_iff,not_or,Bool.false_or];omega):p:=h
theorem aP{p:Prop}(h:p:=by rw [Bool.eq_iff_iff];unfold du;simp only [Bool.or_eq_true,decide_eq_true_eq,Bool.false_eq_true,true_iff,false_iff,not_or,Bool.false_or];omega):p:=h
theorem aQ{p:Prop}(h:p:=by simp only [Bool.false_eq_true,false_iff];intro h;injection h with h1 h2 h3 h4 h5;subst h1;subst h2;subst h3;subst h4;subst h5;simp at*):p:=h
theorem aR{p:Prop}(h:p:=by show _=_;first|exact Oh h33 h39|exact Oi h43|exact JY (fun e=>h39 e.2) h43|exact JY (fun e=>h33 e.1) h43):p:=h
theorem aS{p:Prop}(h:p:=by show _=_;rw [Bool.eq_iff_iff];simp only [decide_eq_true_eq];simp only [wG,ne_eq];cases bd<;>simp_all [wG]<;>omega):p:=h
theorem aT{p:Prop}(h:p:=by intro d hd;simp only [List.mem_cons,List.not_mem_nil,or_false]at hd⊢;rcases hd with rfl|rfl|rfl|rfl<;>simp):p:=h
theorem aU{p:Prop}(h:p:=by intro d hd;simp only [List.mem_cons,List.not_mem_nil,or_false]at hd⊢;rcases hd with rfl|rfl|rfl<;>simp):p:=h
theorem aV{p:Prop}(h:p:=by intro d hd;rw [List.mem_singleton.1 hd];repeat (first|exact List.mem_cons_self|apply List.mem_cons_of_mem)):p:=h
theorem aW{p:Prop}(h:p:=by unfold Mh;(try simp only [decide_eq_true_eq,decide_eq_false_iff_not,ne_eq,Decidable.not_not]at*);omega):p:=h
theorem aX{p:Prop}(h:p:=by unfold PE;(try simp only [decide_eq_true_eq,decide_eq_false_iff_not,ne_eq,Decidable.not_not]at*);omega):p:=h
theorem aY{p:Prop}(h:p:=by intro d hd;simp only [List.mem_cons,List.not_mem_nil,or_false]at hd⊢;rcases hd with rfl|rfl<;>simp):p:=h
theorem aZ{p:Prop}(h:p:=by simp only [Bool.false_eq_true,false_iff];exact uR aC (fun hH _ _=>by simp_all [eG];try omega)):p:=h
theorem aa{p:Prop}(h:p:=by show _=_;cases hL:du (nx s (a+1+1))<;>cases hL2:dl (nx s (a+1+1))<;>simp_all):p:=h
theorem ab{p:Prop}(h:p:=by show _=_;first|simp [h51,h60,h62,h65]|simp [h51,h60,h62]|simp [h51,h60]|simp [h51]):p:=h
theorem ac{p:Prop}(h:p:=by unfold cH;(repeat rw [if_neg (by assumption)]);rw [if_pos (by assumption)]):p:=h
theorem ad{p:Prop}(h:p:=by simp only [Bool.false_eq_true,false_iff];exact uR aC (fun _ _ _=>by omega)):p:=h
theorem ae{p:Prop}(h:p:=by subst h30;rw [xG aE aE];simp_all [dJ,yS,xH]<;>(intros;omega)):p:=h
theorem ag{p:Prop}(h:p:=by subst h39;rw [xG aE aE];simp_all [dJ,yS,xH]<;>(intros;omega)):p:=h
theorem ah{p:Prop}(h:p:=by subst h55;rw [xG aE aE];simp_all [dJ,yS,xH]<;>(intros;omega)):p:=h
theorem ai{p:Prop}(h:p:=by subst h71;rw [xG aE aE];simp_all [dJ,yS,xH]<;>(intros;omega)):p:=h
theorem aj{p:Prop}(h:p:=by subst h93;rw [xG aE aE];simp_all [dJ,yS,xH]<;>(intros;omega)):p:=h
theorem ak{p:Prop}(h:p:=by show(cb own).length - (i+1)<(cb own).length - i;omega):p:=h
theorem al{p:Prop}(h:p:=by repeat (first|exact List.Sublist.refl _|apply List.Sublist.cons)):p:=h
theorem am{p:Prop}(h:p:=by intro d hd;rw [List.mem_singleton.1 hd];exact List.mem_cons_self):p:=h
theorem an{p:Prop}(h:p:=by show own.items.length - (i+1)<own.items.length - i;omega):p:=h
theorem ao{p:Prop}(h:p:=by show own.keys.length - (i+1)<own.keys.length - i;omega):p:=h
theorem ap{p:Prop}(h:p:=by rw [hr];first|exact BT h5 hN|exact BU N):p:=h
theorem aq{p:Prop}(h:p:=by show t.items.length - (i+1)<t.items.length - i;omega):p:=h
theorem ar{p:Prop}(h:p:=by show v.items.length - (i+1)<v.items.length - i;omega):p:=h
theorem au{p:Prop}(h:p:=by show t.keys.length - (i+1)<t.keys.length - i;omega):p:=h
theorem av{p:Prop}(h:p:=by show v.keys.length - (i+1)<v.keys.length - i;omega):p:=h
theorem aw{p:Prop}(h:p:=by show v.keys.length - (j+1)<v.keys.length - j;omega):p:=h
theorem ax{p:Prop}(h:p:=by show(s.size+1) - (j+1)<(s.size+1) - j;omega):p:=h
theorem ay{p:Prop}(h:p:=by show us.length - (i3+1)<us.length - i3;omega):p:=h
theorem az{p:Prop}(h:p:=by show vs.length - (i+1)<vs.length - i;omega):p:=h
theorem a6{p:Prop}(h:p:=by show l.length - (i+1)<l.length - i;omega):p:=h
theorem a7{p:Prop}(h:p:=by rw [List.length_map];have:=h.pl.len;omega):p:=h
theorem a8{p:Prop}(h:p:=by show l.length - (j+1)<l.length - j;omega):p:=h
theorem a9{p:Prop}(h:p:=by show(-9223372036854775808:Int)≤_;omega):p:=h
theorem bA{p:Prop}(h:p:=by(repeat rw [AX _ _ aC]);exact pS _ _ _):p:=h
theorem bB{p:Prop}(h:p:=by show _≤(9223372036854775807:Int);omega):p:=h
theorem bC{p:Prop}(h:p:=by show s.size - (i+1)<s.size - i;omega):p:=h
theorem bD{p:Prop}(h:p:=by rw [List.length_map];unfold dR;simp):p:=h
theorem bE{p:Prop}(h:p:=by show s.size - a1<s.size - a;omega):p:=h
theorem bF{p:Prop}(h:p:=by rw [←Rf];exact GL hz h1 h2):p:=h
theorem bG{p:Prop}(h:p:=by rw [iV h4.1 h4.2];exact hy):p:=h
theorem bH{p:Prop}(h:p:=by rw [List.length_map];exact hl):p:=h
theorem bI{p:Prop}(h:p:=by rw [h.1];exact Nat.le_refl _):p:=h
theorem bJ{p:Prop}(h:p:=by rw [tC hdv,List.getElem_map]):p:=h
theorem bK{p:Prop}(h:p:=by rw [Tryz.underlying214];rfl):p:=h
theorem bL{p:Prop}(h:p:=by rw [kK hf'.2];exact hy):p:=h
theorem bM{p:Prop}(h:p:=by rw [mh hf'.2];exact hy):p:=h
theorem bN{p:Prop}(h:p:=by have:=hor.1;simp;omega):p:=h
theorem bO{p:Prop}(h:p:=by unfold dS;simp [*]):p:=h
theorem bP{p:Prop}(h:p:=by unfold Dgt at hdg;omega):p:=h
theorem bQ{p:Prop}(h:p:=by rw [vH];exact h2 _ hok):p:=h
theorem bR{p:Prop}(h:p:=by rw [h1];decide+kernel):p:=h
theorem bS{p:Prop}(h:p:=by rw [h2];decide+kernel):p:=h
theorem bT{p:Prop}(h:p:=by rw [h3];decide+kernel):p:=h
theorem bU{p:Prop}(h:p:=by show i3+1≤_;omega):p:=h
theorem bV{p:Prop}(h:p:=by simp [cP,HA.foot]):p:=h
theorem bW{p:Prop}(h:p:=by show i+1≤_;omega):p:=h
theorem bX{p:Prop}(h:p:=by show _+2≤_;omega):p:=h
theorem bY{p:Prop}(h:p:=by show j+1≤_;omega):p:=h
theorem bZ{p:Prop}(h:p:=by unfold maxLen;omega):p:=h
theorem ba{p:Prop}(h:p:=by intro d hd;exact hd):p:=h
theorem bc{p:Prop}(h:p:=by rw [z6 hk];simp):p:=h
theorem be{p:Prop}(h:p:=by rw [Dp hk];simp):p:=h
theorem bf{p:Prop}(h:p:=by rw [h.1];exact hi):p:=h
theorem bg{p:Prop}(h:p:=by show 0≤_;omega):p:=h
theorem bi{p:Prop}(h:p:=by show 0≤1;omega):p:=h
theorem bj{p:Prop}(h:p:=by rw [h.1];omega):p:=h
theorem bl{p:Prop}(h:p:=by rw [hlp];omega):p:=h
theorem bm{p:Prop}(h:p:=by simpa using h35):p:=h
theorem bn{p:Prop}(h:p:=by simpa using h88):p:=h
theorem bp{p:Prop}(h:p:=by simpa using h50):p:=h
theorem bq{p:Prop}(h:p:=by simpa using hl):p:=h
theorem br{p:Prop}(h:p:=by simp [HA.foot]):p:=h
theorem bt{p:Prop}(h:p:=by simpa using hr):p:=h
theorem bu{p:Prop}(h:p:=by simpa using hj):p:=h
theorem bw{p:Prop}(h:p:=by rw [h];decide):p:=h
theorem bz{p:Prop}(h:p:=by rw [hf];simp):p:=h
theorem cA{p:Prop}(h:p:=by simpa using h):p:=h
theorem cB{p:Prop}(h:p:=by simp [cK]):p:=h
theorem cC{p:Prop}(h:p:=by simp [ei]):p:=h
theorem cD{p:Prop}(h:p:=by simp;omega):p:=h
theorem cE{p:Prop}(h:p:=by simp [hx]):p:=h
theorem Z{α:Sort _}{a:α}:a=a:=rfl


abbrev dF:=List (Nat×Value)
def cz:dF→Nat→Option Value
  |[],_=>none
  |(s,v)::e,t=>cond (Nat.beq s t) (some v) (cz e t)
def CY:List Nat→dF→dF
  |[],_=>[]
  |t::ts,e=>match cz e t with
    |some v=>(t,v)::CY ts e
    |none=>CY ts e
def ev(e:dF):Operand→Option Value
  | .tmp t=>cz e t
  | .const v=>some v
  | .global g=>some (.pointer (some ⟨g,0,none⟩))
  | .func f=>some (.func (.func f) #[] #[])

theorem vG(p:Nat×Value)(e:dF)(t:Nat):cz (p::e) t=if p.1=t then some p.2 else cz e t:=by
 obtain⟨s,v⟩:=p
 simp only [cz]
 by_cases h:s=t
 ·rw [if_pos h,show Nat.beq s t=true from by rw [h];exact Nat.beq_refl t];rfl
 ·rw [if_neg h,show Nat.beq s t=false from by cases hb:Nat.beq s t with|false=>rfl|true=>exact absurd (Nat.eq_of_beq_eq_true hb) h];rfl

def EnvLe(e1 e2:dF):Prop:= ∀ t v,cz e1 t=some v→cz e2 t=some v
theorem EnvLe.nil(e:dF):EnvLe [] e:=fun _ _ h=>by simp [cz]at h
theorem EnvLe.cons{t:Nat}{v:Value}{e1 e2:dF}(h:cz e2 t=some v)(hr:EnvLe e1 e2):EnvLe ((t,v)::e1) e2:=by
 intro s u hs
 rw [vG]at hs
 split at hs
 ·rename_i hts
  cases hts
  cases hs
  exact h
 ·exact hr s u hs
theorem eC{t:Nat}{v:Value}{e1 e2:dF}(h:cz e2 t=some v)(hr:EnvLe e1 e2):EnvLe ((t,v)::e1) e2:=EnvLe.cons h hr
theorem eN(e:dF):EnvLe [] e:=EnvLe.nil e
theorem nS{α:Type _}{l:List α}:List.Sublist [] l:=List.nil_sublist _
theorem sQ{α:Type _}{D D2:List α}(h: ∀ d∈D2,d∈D:=by intro d hd;repeat (first|exact hd|apply List.mem_cons_of_mem)): ∀ d∈D2,d∈D:=h
theorem EnvLe.refl(e:dF):EnvLe e e:=fun _ _ h=>h

inductive HA where
  |blk (b:Nat) (cs:List Value) (T:TypeId)
  |row (A:Option Addr) (n c:Nat) (T:TypeId) (sz:Nat) (xs:List Value)
  |obj (b:Nat) (o:Obj)
  |many (T:TypeId) (gs:List (Nat×List Value))
def HA.foot:HA→List Nat
  | .blk b _ _=>[b]
  | .row (some a) _ _ _ _ _=>[a.block]
  | .row none _ _ _ _ _=>[]
  | .obj b _=>[b]
  | .many _ gs=>gs.map (·.1)
def HA.holds(w:World):HA→Prop
  | .blk b cs T=>w.heap[b]? =some (.cells cs.toArray T (0,0))
  | .row A n c T sz xs=>w.ownsRow 0 T sz (.slice A n c) n xs
  | .obj b o=>w.heap[b]? =some o
  | .many T gs=> ∀ g∈gs,w.heap[g.1]? =some (.cells g.2.toArray T (0,0))
def cP:List HA→List Nat
  |[]=>[]
  |h::M=>h.foot++cP M

theorem sG{b:Nat}: ∀ {M:List HA},b∈cP M↔ ∃h∈M,b∈h.foot
  |[]=>by simp [cP]
  |h::M=>by simp [cP,sG (M:=M)]
theorem yY: ∀ (M N:List HA),cP (M++N)=cP M++cP N
  |[],N=>by simp [cP]
  |h::M,N=>by simp [cP,yY M N]

theorem sB{w:World}{b:Nat}{o:Obj}(h:w.heap[b]? =some o):b<w.heap.size:=by
 rcases Nat.lt_or_ge b w.heap.size with hlt|hge
 ·exact hlt
 ·rw [Array.getElem?_eq_none hge]at h;cases h
theorem HA.foot_lt{w:World}{h:HA}(hh:h.holds w): ∀ b∈h.foot,b<w.heap.size:=by
  intro b hb
  cases h with
  |blk b' cs T=>simp only [foot,List.mem_singleton]at hb;subst hb;exact sB hh
  |obj b' o=>simp only [foot,List.mem_singleton]at hb;subst hb;exact sB hh
  |many T gs=>
    simp only [foot,List.mem_map]at hb
    obtain⟨g,hg,rfl⟩:=hb
    exact sB (hh g hg)
  |row A n c T sz xs=>
    cases A with
    |none=>simp [foot]at hb
    |some a=>
      simp only [foot,List.mem_singleton]at hb
      subst hb
      rcases hh.2 with ⟨h,_⟩|⟨g,cap,cur,hv,_,hc,_⟩
      · cases h
      · injection hv with hv;injection hv with hv;subst hv;exact sB hc
theorem HA.move{w w':World}{h:HA}(hh:h.holds w)(hm: ∀ b∈h.foot,w'.heap[b]? =w.heap[b]?):h.holds w':=by
  cases h with
  |blk b cs T=>exact(hm b (by simp [foot])).trans hh
  |obj b o=>exact(hm b (by simp [foot])).trans hh
  |many T gs=>exact fun g hg=>(hm g.1 (by simp only [foot,List.mem_map];exact⟨g,hg,rfl⟩)).trans (hh g hg)
  |row A n c T sz xs=>
    obtain⟨h1,h2⟩:=hh
    refine⟨h1,?_⟩
    rcases h2 with h2|⟨g,cap,cur,hv,hg,hc,r⟩
    · exact .inl h2
    · refine .inr ⟨g,cap,cur,hv,hg,?_,r⟩
      injection hv with hv
      subst hv
      exact(hm g (by simp [foot])).trans hc


structure Chg(F:List Nat)(w w':World):Prop where
 os:w'.os=w.os
 tape:w'.tape=w.tape
 output:w'.output=w.output
 size:w.heap.size≤w'.heap.size
 block: ∀ k,k<w.heap.size→k∉F→w'.heap[k]? =w.heap[k]?
theorem Chg.refl(F:List Nat)(w:World):Chg F w w:=⟨rfl,rfl,rfl,Nat.le_refl _,fun _ _ _=>rfl⟩
theorem Chg.trans{F:List Nat}{a b c:World}(h:Chg F a b)(k:Chg F b c):Chg F a c:=
 ⟨k.os.trans h.os,k.tape.trans h.tape,k.output.trans h.output,Nat.le_trans h.size k.size,
  fun i hi hF=>(k.block i (Nat.lt_of_lt_of_le hi h.size) hF).trans (h.block i hi hF)⟩
theorem Chg.mono{F F':List Nat}{w w':World}(h:Chg F w w')(hF: ∀ k,k<w.heap.size→k∈F→k∈F'):Chg F' w w':=
 ⟨h.os,h.tape,h.output,h.size,fun k hk hk'=>h.block k hk (fun hk2=>hk' (hF k hk hk2))⟩
theorem Chg.below{w w':World}(h:Chg [] w w'):Below w.heap.size w w':=⟨h.os,h.tape,h.output,h.size,fun k hk=>h.block k hk aJ⟩
theorem Chg.of_below{w w':World}(h:Below w.heap.size w w'):Chg [] w w':=⟨h.os,h.tape,h.output,h.size,fun k hk _=>h.block k hk⟩
theorem Chg.alloc(w:World)(o:Obj):Chg [] w (w.alloc o):= .of_below ((Below.refl _ _).alloc (Nat.le_refl _) o)
theorem Chg.drew(w:World):Chg [] w w.drew:=⟨rfl,rfl,rfl,Nat.le_refl _,fun _ _ _=>rfl⟩
theorem Chg.setCell(w:World)(p:Addr)(u:Value):Chg [p.block] w (w.setCell p u):=
 ⟨rfl,rfl,rfl,by simp,fun k _ hF=>Below.heap_setCell w p u k (by simpa using hF)⟩


structure DA where
 p:World→(Nat→Prop)→Prop
 mono: ∀ {w w':World} {ok ok':Nat→Prop},(∀ k,ok k→ok' k)→(∀ k,ok k→w'.heap[k]? =w.heap[k]?)→p w ok→p w' ok'


structure Ctx(F:List Nat) where
 w0:World
 ok:Nat→Prop
 hok: ∀ k,ok k→k<w0.heap.size∧k∉F
 hF: ∀ b∈F,b<w0.heap.size
def Ctx.now{F:List Nat}(c:Ctx F)(M:List HA)(w:World)(k:Nat):Prop:=(c.ok k∨c.w0.heap.size≤k)∧k<w.heap.size∧k∉cP M

structure FitsW{F:List Nat}(c:Ctx F)(M:List HA)(D:List DA)(w:World):Prop where
 chg:Chg F c.w0 w
 own: ∀ h∈M,h.holds w
 nodup:(cP M).Nodup
 foot: ∀ b∈cP M,b∈F∨c.w0.heap.size≤b
 dat: ∀ d∈D,d.p w (c.now M w)
structure Fits{F:List Nat}(n:Nat)(c:Ctx F)(e:dF)(M:List HA)(D:List DA)(a:Act)(w:World):Prop extends FitsW c M D w where
 size:a.tmps.size=n
 defers:a.defers=[]
 env: ∀ t v,cz e t=some v→a.tmps[t]? =some v

theorem FitsW.lt{F:List Nat}{c:Ctx F}{M:List HA}{D:List DA}{w:World}(h:FitsW c M D w): ∀ b∈cP M,b<w.heap.size:=by
 intro b hb
 obtain⟨x,hx,hb⟩:=sG.1 hb
 exact HA.foot_lt (h.own x hx) b hb

theorem Fits.ev{F:List Nat}{n:Nat}{c:Ctx F}{e:dF}{M:List HA}{D:List DA}{a:Act}{w:World}(h:Fits n c e M D a w){x:Operand}{v:Value}(hx:ev e x=some v):a.eval x=v:=by
  cases x with
  |tmp t=>
    have:=h.env t v hx
    simp [Act.eval,Array.getD_eq_getD_getElem?,this]
  |const u=>simpa [Jw.ev,Act.eval]using hx
  |global g=>simpa [Jw.ev,Act.eval]using hx
  |func f=>simpa [Jw.ev,Act.eval]using hx

theorem Fits.put{F:List Nat}{n:Nat}{c:Ctx F}{e:dF}{M:List HA}{D:List DA}{a:Act}{w:World}(h:Fits n c e M D a w){d:Nat}(hd:Nat.blt d n=true)(v:Value):
  Fits n c ((d,v)::e) M D (a.put (some d) v) w:=by
 refine {toFitsW:=h.toFitsW,size:=by simp [Act.put,h.size],defers:=h.defers,env:=?_}
 intro t u ht
 rw [vG]at ht
 have hlt:d<a.tmps.size:=by rw [h.size];simpa using hd
 split at ht
 ·rename_i hdt
  cases hdt
  cases ht
  simp [Act.put,hlt]
 ·rename_i hdt
  have:=h.env t u ht
  simp only [Act.put]
  rw [Array.getElem?_setIfInBounds_ne (by simpa using hdt)]
  exact this
theorem Fits.le{F:List Nat}{n:Nat}{c:Ctx F}{e e':dF}{M:List HA}{D:List DA}{a:Act}{w:World}(h:Fits n c e M D a w)(he:EnvLe e' e):Fits n c e' M D a w:=
 {toFitsW:=h.toFitsW,size:=h.size,defers:=h.defers,env:=fun t v ht=>h.env t v (he t v ht)}
theorem Fits.world{F:List Nat}{n:Nat}{c:Ctx F}{e:dF}{M M':List HA}{D D':List DA}{a:Act}{w w':World}(h:Fits n c e M D a w)(hw:FitsW c M' D' w'):Fits n c e M' D' a w':=
 {toFitsW:=hw,size:=h.size,defers:=h.defers,env:=h.env}

theorem FitsW.grow{F:List Nat}{c:Ctx F}{M:List HA}{D:List DA}{w w':World}(h:FitsW c M D w)(hc:Chg [] w w'):FitsW c M D w':=by
 have hsame: ∀ k,k<w.heap.size→w'.heap[k]? =w.heap[k]? :=fun k hk=>hc.block k hk aJ
 refine⟨h.chg.trans (hc.mono aJ),fun x hx=>HA.move (h.own x hx) fun b hb=>hsame b (HA.foot_lt (h.own x hx) b hb),h.nodup,h.foot,fun d hd=>?_⟩
 exact d.mono (fun k hk=>⟨hk.1,Nat.lt_of_lt_of_le hk.2.1 hc.size,hk.2.2⟩) (fun k hk=>hsame k hk.2.1) (h.dat d hd)

theorem FitsW.new{F:List Nat}{c:Ctx F}{M:List HA}{D:List DA}{w:World}(h:FitsW c M D w)(o:Obj){x:HA}(hx:x.holds (w.alloc o))(hf:x.foot=[w.heap.size]):FitsW c (x::M) D (w.alloc o):=by
 have hg:=h.grow (Chg.alloc w o)
 have hlt:=h.lt
 refine⟨hg.chg,?_,?_,?_,?_⟩
 ·intro y hy
  rcases List.mem_cons.1 hy with rfl|hy
  ·exact hx
  ·exact hg.own y hy
 ·simp only [cP,hf]
  refine List.nodup_append.2 ⟨by simp,h.nodup,?_⟩
  intro p hp q hq he
  simp only [List.mem_singleton]at hp
  subst hp;subst he
  exact Nat.lt_irrefl _ (hlt _ hq)
 ·intro b hb
  simp only [cP,hf,List.mem_append,List.mem_singleton]at hb
  rcases hb with rfl|hb
  ·exact .inr h.chg.size
  ·exact h.foot b hb
 ·intro d hd
  refine d.mono (ok:=c.now M w) (fun k hk=>⟨hk.1,?_,?_⟩) (fun k hk=>Below.heap_alloc w o k hk.2.1) (h.dat d hd)
  ·have:=hk.2.1;simp;omega
  ·simp only [cP,hf,List.mem_append,List.mem_singleton,not_or]
   exact⟨Nat.ne_of_lt hk.2.1,hk.2.2⟩

theorem FitsW.swap{F:List Nat}{c:Ctx F}{M1 M1' M2:List HA}{D D':List DA}{w w':World}(h:FitsW c (M1++M2) D w)(hc:Chg (cP M1) w w')(hm: ∀ x∈M1',x.holds w')(hn:(cP M1').Nodup)
  (hf: ∀ b∈cP M1',b∈cP M1∨w.heap.size≤b) (hD: ∀ d∈D',d.p w' (c.now (M1'++M2) w')):FitsW c (M1'++M2) (D'++D) w':=by
 have hnd:=h.nodup
 rw [yY]at hnd
 have hdis: ∀ b∈cP M2,b∉cP M1:=fun b hb hb'=>(List.nodup_append.1 hnd).2.2 b hb' b hb rfl
 have hlt:=h.lt
 have hlt2: ∀ b∈cP M2,b<w.heap.size:=fun b hb=>hlt b (by rw [yY];exact List.mem_append_right _ hb)
 have hmut2: ∀ x∈M2,x.holds w:=fun x hx=>h.own x (List.mem_append_right _ hx)
 refine⟨?_,?_,?_,?_,?_⟩
 ·refine⟨hc.os.trans h.chg.os,hc.tape.trans h.chg.tape,hc.output.trans h.chg.output,Nat.le_trans h.chg.size hc.size,fun k hk hF=>?_⟩
  refine(hc.block k (Nat.lt_of_lt_of_le hk h.chg.size) ?_).trans (h.chg.block k hk hF)
  intro hk1
  rcases h.foot k (by rw [yY];exact List.mem_append_left _ hk1)with h1|h1
  ·exact hF h1
  ·omega
 ·intro x hx
  rcases List.mem_append.1 hx with hx|hx
  ·exact hm x hx
  ·exact HA.move (hmut2 x hx) fun b hb=>hc.block b (HA.foot_lt (hmut2 x hx) b hb) (hdis b (sG.2 ⟨x,hx,hb⟩))
 ·rw [yY]
  refine List.nodup_append.2 ⟨hn,(List.nodup_append.1 hnd).2.1,?_⟩
  intro p hp q hq he
  subst he
  rcases hf p hp with h1|h1
  ·exact hdis p hq h1
  ·exact absurd (hlt2 p hq) aC
 ·intro b hb
  rw [yY]at hb
  rcases List.mem_append.1 hb with hb|hb
  ·rcases hf b hb with h1|h1
   ·exact h.foot b (by rw [yY];exact List.mem_append_left _ h1)
   ·exact .inr (Nat.le_trans h.chg.size h1)
  ·exact h.foot b (by rw [yY];exact List.mem_append_right _ hb)
 ·intro d hd
  rcases List.mem_append.1 hd with hd|hd
  ·exact hD d hd
  ·refine d.mono (ok:=c.now (M1++M2) w) (fun k hk=>?_) (fun k hk=>hc.block k hk.2.1 ?_) (h.dat d hd)
   ·refine⟨hk.1,Nat.lt_of_lt_of_le hk.2.1 hc.size,?_⟩
    have h3:=hk.2.2
    rw [yY]at h3⊢
    simp only [List.mem_append,not_or]at h3⊢
    refine⟨fun h4=>?_,h3.2⟩
    rcases hf k h4 with h5|h5
    ·exact h3.1 h5
    ·have:=hk.2.1;omega
   ·have h3:=hk.2.2
    rw [yY]at h3
    simp only [List.mem_append,not_or]at h3
    exact h3.1

theorem l7{M N:List HA}(h:M.Perm N):(cP M).Perm (cP N):=by
  induction h with
  |nil=>exact .nil
  |cons x _ ih=>exact ih.append_left _
  |swap x y l=>
    simp only [cP,←List.append_assoc]
    exact(List.perm_append_comm).append_right _
  |trans _ _ h1 h2=>exact h1.trans h2
theorem FitsW.perm{F:List Nat}{c:Ctx F}{M N:List HA}{D:List DA}{w:World}(h:FitsW c M D w)(hp:M.Perm N):FitsW c N D w:=by
 have hf:=l7 hp
 refine⟨h.chg,fun x hx=>h.own x (hp.mem_iff.2 hx),hf.nodup_iff.1 h.nodup,fun b hb=>h.foot b (hf.mem_iff.2 hb),fun d hd=>?_⟩
 exact d.mono (fun k hk=>⟨hk.1,hk.2.1,fun h'=>hk.2.2 (hf.mem_iff.2 h')⟩) (fun _ _=>rfl) (h.dat d hd)
theorem FitsW.data{F:List Nat}{c:Ctx F}{M:List HA}{D D':List DA}{w:World}(h:FitsW c M D w)(hd: ∀ d∈D',d.p w (c.now M w)):FitsW c M D' w:=
 ⟨h.chg,h.own,h.nodup,h.foot,hd⟩
theorem FitsW.tail{F:List Nat}{c:Ctx F}{x:HA}{M:List HA}{D:List DA}{w:World}(h:FitsW c (x::M) D w):FitsW c M D w:=
 ⟨h.chg,fun y hy=>h.own y (List.mem_cons_of_mem _ hy),(List.nodup_append.1 h.nodup).2.1,fun b hb=>h.foot b (List.mem_append_right _ hb),
  fun d hd=>d.mono (fun _ hk=>⟨hk.1,hk.2.1,fun h3=>hk.2.2 (List.mem_append_right _ h3)⟩) (fun _ _=>rfl) (h.dat d hd)⟩


inductive KI where
  |code (x:Code)
  |cont (K:Act→World→Prop)
  |blk (id:Nat)
def Kp(P:Program):List KI→(Exit→Act→World→Prop)→Exit→Act→World→Prop
  |[],Q=>Q
  | .code x::k,Q=>fun e a w=>match e with
    | .normal=>x.wp P (Kp P k Q) a w
    |e=>Kp P k Q e a w
  | .cont K::k,Q=>fun e a w=>match e with
    | .normal=>K a w
    |e=>Kp P k Q e a w
  | .blk id::k,Q=>Exit.inBlock id (Kp P k Q)

abbrev cu:=Exit→Act→World→Prop
def Run{F:List Nat}(P:Program)(n:Nat)(c:Ctx F)(k:List KI)(Q:cu)(e:dF)(M:List HA)(D:List DA):Prop:= ∀ a w,Fits n c e M D a w→Kp P k Q .normal a w
def cG{F:List Nat}(P:Program)(n:Nat)(c:Ctx F)(ops:Array Oper)(l:List Oper)(k:List KI)(Q:cu)(e:dF)(M:List HA)(D:List DA):Prop:=
 ∀ a w,Fits n c e M D a w→wpList P ops (Kp P k Q) l a w
def dH(d:Option Tmp)(op:Op)(T:TypeId):Oper:=⟨d,op,T, "", #[],none⟩
def cL{F:List Nat}(P:Program)(n:Nat)(c:Ctx F)(ops:Array Oper)(d:Option Tmp)(op:Op)(T:TypeId)(l:List Oper)(k:List KI)(Q:cu)(e:dF)(M:List HA)(D:List DA):Prop:=
 ∀ a w,Fits n c e M D a w→(dH d op T).wp P a w (wpList P ops (Kp P k Q) l) (Kp P k Q)

section rules
variable {P:Program} {n:Nat} {F:List Nat} {c:Ctx F} {k:List KI} {Q:cu} {e:dF} {M:List HA} {D:List DA}

theorem Fx(P:Program)(y:Code)(k:List KI)(Q:cu):Exit.then (y.wp P (Kp P k Q)) (Kp P k Q)=Kp P (.code y::k) Q:=by
 funext e a w
 cases e<;>rfl
theorem xD{x y:Code}(h:Run P n c (.code x:: .code y::k) Q e M D):Run P n c (.code (.seq x y)::k) Q e M D:=by
 intro a w hf
 refine wp_seq ?_
 rw [Fx]
 exact h a w hf
theorem uF(h:Run P n c k Q e M D):Run P n c (.code .skip::k) Q e M D:=fun a w hf=>wp_skip (h a w hf)
theorem oI{id:Nat}{x:Code}(h:Run P n c (.code x:: .blk id::k) Q e M D):Run P n c (.code (.block id x)::k) Q e M D:=fun a w hf=>wp_block (h a w hf)
theorem qK{id:Nat}(h:Run P n c k Q e M D):Run P n c (.blk id::k) Q e M D:=fun a w hf=>h a w hf
def l8(id:Nat):List KI→Option (List KI)
  |[]=>none
  | .blk i::k=>cond (Nat.beq i id) (some k) (l8 id k)
  |_::k=>l8 id k
theorem lT(P:Program)(id:Nat)(Q:cu)(a:Act)(w:World): ∀ (k k':List KI),l8 id k=some k'→Kp P k' Q .normal a w→Kp P k Q (.exit id) a w
  |[],_,h,_=>by simp [l8]at h
  | .code _::k,k',h,h'=>lT P id Q a w k k' h h'
  | .cont _::k,k',h,h'=>lT P id Q a w k k' h h'
  | .blk i::k,k',h,h'=>by
    simp only [l8]at h
    show Exit.inBlock i (Kp P k Q) (.exit id) a w
    by_cases hi:id=i
    · subst hi
      simp at h
      subst h
      simp only [Exit.inBlock,if_true]
      exact h'
    · have hb:Nat.beq i id=false:=by
        cases hb:Nat.beq i id with
        |false=>rfl
        |true=>exact absurd (Nat.eq_of_beq_eq_true hb).symm hi
      rw [hb]at h
      simp only [Exit.inBlock,hi,if_false]
      exact lT P id Q a w k k' h h'
theorem ta{id:Nat}{k':List KI}(hp:l8 id k=some k')(h:Run P n c k' Q e M D):Run P n c (.code (.exit id)::k) Q e M D:=
 fun a w hf=>wp_exit (lT P id Q a w k k' hp (h a w hf))
theorem p7(P:Program)(Q:cu)(a:Act)(w:World): ∀ (k:List KI),Q .ret a w→Kp P k Q .ret a w
  |[],h=>h
  | .code _::k,h=>p7 P Q a w k h
  | .cont _::k,h=>p7 P Q a w k h
  | .blk _::k,h=>p7 P Q a w k h
theorem Fy(h: ∀ a w,Fits n c e M D a w→Q .ret a w):Run P n c (.code .ret::k) Q e M D:=fun a w hf=>wp_ret (p7 P Q a w k (h a w hf))
theorem yC{x:Operand}{p q:Code}{b:Bool}(hx:ev e x=some (.bool b))(ht:b=true→Run P n c (.code p::k) Q e M D)(hf:b=false→Run P n c (.code q::k) Q e M D):
  Run P n c (.code (.cond x p q)::k) Q e M D:=by
 intro a w hfit
 refine wp_cond_split (hfit.ev hx) (fun h=>ht h a w hfit) (fun h=>hf h a w hfit)
theorem zI{x:Operand}{p q:Code}{r:Prop}[Decidable r](hx:ev e x=some (.bool (decide r)))(ht:r→Run P n c (.code p::k) Q e M D)(hf: ¬ r→Run P n c (.code q::k) Q e M D):
  Run P n c (.code (.cond x p q)::k) Q e M D:=
 yC hx (fun h=>ht (of_decide_eq_true h)) (fun h=>hf (of_decide_eq_false h))
theorem CZ{x:Operand}{p q:Code}(hx:ev e x=some (.bool true))(ht:Run P n c (.code p::k) Q e M D):Run P n c (.code (.cond x p q)::k) Q e M D:=
 yC hx (fun _=>ht) (fun h=>by cases h)
theorem BF{x:Operand}{p q:Code}(hx:ev e x=some (.bool false))(hf:Run P n c (.code q::k) Q e M D):Run P n c (.code (.cond x p q)::k) Q e M D:=
 yC hx (fun h=>by cases h) (fun _=>hf)
theorem iN{id:Nat}{l:List Oper}(h:cG P n c l.toArray l k Q e M D):Run P n c (.code (.region id l.toArray false)::k) Q e M D:=fun a w hf=>wp_region_lit (h a w hf)
theorem yO{ops:Array Oper}(h:Run P n c k Q e M D):cG P n c ops [] k Q e M D:=fun a w hf=>h a w hf
theorem gR{e':dF}(he:EnvLe e' e)(h:Run P n c k Q e' M D):Run P n c k Q e M D:=fun a w hf=>h a w (hf.le he)
theorem rC{M':List HA}(hp:M.Perm M')(h:Run P n c k Q e M' D):Run P n c k Q e M D:=fun a w hf=>h a w (hf.world (hf.toFitsW.perm hp))
theorem tR{D':List DA}(hd: ∀ d∈D',d∈D)(h:Run P n c k Q e M D'):Run P n c k Q e M D:=fun a w hf=>h a w (hf.world (hf.toFitsW.data fun d hd'=>hf.dat d (hd d hd')))
theorem zk(P:Program)(K:Act→World→Prop)(k:List KI)(Q:cu):Exit.then K (Kp P k Q)=Kp P (.cont K::k) Q:=by
 funext e a w
 cases e<;>rfl
theorem Ca{α:Type}{x:Code}(E:α→dF)(MM:α→List HA)(DD:α→List DA)(μ:α→Nat)(x0:α)(he:EnvLe (E x0) e)(hM:MM x0=M)(hD:DD x0=D)
  (hr: ∀ (y:α) (K:Act→World→Prop),(∀ z,μ z<μ y→ ∀ a w,Fits n c (E z) (MM z) (DD z) a w→K a w)→Run P n c (.code x:: .cont K::k) Q (E y) (MM y) (DD y)):
  Run P n c (.code (.loop x)::k) Q e M D:=by
 intro a w hf
 subst hM
 subst hD
 refine wp_loop_ghost (fun m a w=> ∃y,μ y=m∧Fits n c (E y) (MM y) (DD y) a w) (μ x0) ⟨x0,rfl,hf.le he⟩ ?_
 rintro m a w ⟨y,rfl,hy⟩
 rw [zk]
 exact hr y _ (fun z hz a w hz'=>⟨μ z,hz,z,rfl,hz'⟩) a w hy
theorem Cb{K:Act→World→Prop}{e':dF}{M':List HA}{D':List DA}(hK: ∀ a w,Fits n c e' M' D' a w→K a w)(he:EnvLe e' e)(hM:M'=M)(hD: ∀ d∈D',d∈D):
  Run P n c (.cont K::k) Q e M D:=by
 intro a w hf
 subst hM
 exact hK a w ((hf.le he).world (hf.toFitsW.data fun d hd=>hf.dat d (hD d hd)))
end rules


def cT(P:Program)(T:TypeId):Prop:= ∃d i,P.underlying T=some d∧(∀ fs,d≠ .struct fs)∧(∀ n e,d≠ .array n e)∧P.info? T=some i∧i.size=1
def fj(P:Program)(T s:Nat):Prop:= ∃d i,P.underlying T=some d∧((∃fs,d= .struct fs)∨ ∃n e,d= .array n e)∧P.info? T=some i∧i.size=s
def gz(P:Program)(T:TypeId)(zs:List Value):Prop:= ∃i z,P.info? T=some i∧i.zero=some z∧z.cells=zs.toArray
def cI(P:Program)(S f off:Nat):Prop:= ∃fs fd i s,P.underlying S=some (.struct fs)∧fs[f]? =some fd∧fd.offset=off∧P.info? fd.type=some i∧i.size=s+1
def cS(P:Program)(T E sz by_:Nat):Prop:= ∃i z,P.underlying T=some (.slice E)∧P.info? E=some i∧i.size=sz∧i.bytes=by_∧i.zero=some z∧z.cells.size=sz∧0<sz

section
variable {P:Program} {w:World}
theorem xK{T:TypeId}{i:TypeInfo}(h:P.info? T=some i):(sizeOf T).run P w= .ok i.size w:=by
 simp [sizeOf,typeInfo,h]
theorem run_zeroValue'{T:TypeId}{i:TypeInfo}{z:Value}(h:P.info? T=some i)(hz:i.zero=some z):(zeroValue T).run P w= .ok z w:=by
 simp [zeroValue,typeInfo,h,hz]
theorem j4{T:TypeId}(h:cT P T):(isAgg T).run P w= .ok false w:=by
 obtain⟨d,i,hd,h1,h2,_⟩:=h
 cases d<;>simp_all [isAgg,run_underlying hd]
theorem nu{T s:Nat}(h:fj P T s):(isAgg T).run P w= .ok true w:=by
 obtain⟨d,i,hd,h1,_⟩:=h
 rcases h1 with ⟨fs,rfl⟩|⟨n,e,rfl⟩<;>simp [isAgg,run_underlying hd]

theorem qL(a:Addr): ∀ (vs:List Value) (i:Nat) (acc:Array Value),(∀ j u,vs[j]? =some u→w.cell? (a.add (i+j))=some u)→
    (loadCellsFrom a i vs.length acc).run P w= .ok (acc++vs.toArray) w
  |[],i,acc,_=>by simp [loadCellsFrom]
  |v::vs,i,acc,h=>by
    have h0:=h 0 v rfl
    have ih:=qL a vs (i+1) (acc.push v) (fun j u hj=>by have:=h (j+1) u hj;rwa [show i+(j+1)=i+1+j from by omega]at this)
    simp only [Nat.add_zero]at h0
    simp [loadCellsFrom,h0,ih]
theorem nw{a:Addr}{vs:List Value}(h: ∀ j u,vs[j]? =some u→w.cell? (a.add j)=some u):(loadCells a vs.length).run P w= .ok vs.toArray w:=by
 have:=qL (P:=P) (w:=w) a vs 0 #[] (fun j u hj=>by simpa using h j u hj)
 simpa [loadCells]using this
theorem fa{T:TypeId}(hT:cT P T){a:Addr}{v:Value}(h:w.cell? a=some v):(Instr.loadAt T (.pointer (some a))).run P w= .ok v w:=by
 simp [Instr.loadAt,Instr.sureAddr,loadVar,j4 hT,h]
theorem rP{T:TypeId}{a:Addr}{vs:List Value}(hT:fj P T vs.length)(h: ∀ j u,vs[j]? =some u→w.cell? (a.add j)=some u):
  (Instr.loadAt T (.pointer (some a))).run P w= .ok (.agg vs.toArray) w:=by
 have h2:=nu (w:=w) hT
 obtain⟨d,i,_,_,hi,hs⟩:=hT
 simp [Instr.loadAt,Instr.sureAddr,loadVar,h2,xK hi,hs,nw h]

theorem vL{b:Nat}{cs:List Value}{T:TypeId}(h:w.heap[b]? =some (.cells cs.toArray T (0,0)))(o:Nat):w.cell? ⟨b,o,none⟩=cs[o]? :=by
 simp [World.cell?,h]
theorem wu{b:Nat}{cs:List Value}{T:TypeId}(h:w.heap[b]? =some (.cells cs.toArray T (0,0)))(o:Nat):w.frozen? ⟨b,o,none⟩=false:=by
 simp [World.frozen?,h]
theorem wB(b o n:Nat):(Addr.add ⟨b,o,none⟩ n)=⟨b,o+n,none⟩:=by
 unfold Addr.add
 split
 ·rename_i h;subst h;rfl
 ·rfl
theorem vH(a:Addr)(n:Nat):(a.add n).block=a.block:=by unfold Addr.add;split<;>rfl
theorem add_add'(a:Addr)(i j:Nat):(a.add i).add j=a.add (i+j):=by
 unfold Addr.add
 by_cases hi:i=0<;>by_cases hj:j=0<;>simp [hi,hj,Nat.add_assoc]

def de(cs:List Value)(o:Nat):List Value→List Value
  |[]=>cs
  |v::vs=>de (cs.set o v) (o+1) vs
theorem l9(o:Nat)(cs vs:List Value):(de cs o vs).length=cs.length:=by
  induction vs generalizing cs o with
  |nil=>rfl
  |cons v vs ih=>simp [de,ih]
theorem j5{b:Nat}{cs:List Value}{T:TypeId}(h:w.heap[b]? =some (.cells cs.toArray T (0,0)))(o:Nat)(v:Value):
  (w.setCell ⟨b,o,none⟩ v).heap[b]? =some (.cells (cs.set o v).toArray T (0,0)):=by
 simp [World.setCell,Array.getElem?_modify,h]
theorem sC{b:Nat}{T:TypeId}: ∀ (vs:List Value) (w:World) (cs:List Value) (o i:Nat),w.heap[b]? =some (.cells cs.toArray T (0,0))→o+i+vs.length≤cs.length→
    (∀ v∈vs,v.oneCell'=true)→ ∃w',(storeCells ⟨b,o,none⟩ vs i).run P w= .ok () w'∧w'.heap[b]? =some (.cells (de cs (o+i) vs).toArray T (0,0))∧Chg [b] w w'
  |[],w,cs,o,i,h,_,_=>⟨w,by simp [storeCells],by simpa [de]using h,Chg.refl _ _⟩
  |v::vs,w,cs,o,i,h,hl,h1=>by
    have hlt:o+i<cs.length:=by simp at hl;omega
    have hc:w.cell? ⟨b,o+i,none⟩=some cs[o+i]:=by rw [vL h];exact List.getElem?_eq_getElem hlt
    have hs:=j5 h (o+i) v
    obtain⟨w',hr,hh,hg⟩:=sC vs (w.setCell ⟨b,o+i,none⟩ v) (cs.set (o+i) v) o (i+1) hs (by simp at hl⊢;omega) (fun u hu=>h1 u (List.mem_cons_of_mem _ hu))
    refine⟨w',?_,hh,Chg.trans (b:=w.setCell ⟨b,o+i,none⟩ v) (Chg.setCell w ⟨b,o+i,none⟩ v) hg⟩
    simp [storeCells,wB,run_store,h1 v List.mem_cons_self,hc,wu h,hr]
theorem fc{b:Nat}{T T':TypeId}{cs:List Value}{o:Nat}{v:Value}{vs:List Value}(h:w.heap[b]? =some (.cells cs.toArray T (0,0)))(hv:v.cells=vs.toArray)
  (hs: ∃i,P.info? T'=some i∧i.size=vs.length) (hl:o+vs.length≤cs.length) (h1: ∀ u∈vs,u.oneCell'=true):
  ∃w',(Instr.storeAt T' (.pointer (some ⟨b,o,none⟩)) v).run P w= .ok () w'∧w'.heap[b]? =some (.cells (de cs o vs).toArray T (0,0))∧Chg [b] w w':=by
 obtain⟨i,hi,hsz⟩:=hs
 obtain⟨w',hr,hh,hg⟩:=sC (P:=P) vs w cs o 0 h bq h1
 refine⟨w',?_,by simpa using hh,hg⟩
 simp [Instr.storeAt,Instr.sureAddr,storeVar,xK hi,hv,hsz,hr]
end


section rules
variable {P:Program} {n:Nat} {F:List Nat} {c:Ctx F} {ops:Array Oper} {d:Nat} {T:TypeId} {l:List Oper} {k:List KI} {Q:cu} {e:dF} {M:List HA} {D:List DA}

theorem zA{d:Option Tmp}{op:Op}{p:String}{af:Array Edge}(h:cL P n c ops d op T l k Q e M D):cG P n c ops (⟨d,op,T,p,af,none⟩::l) k Q e M D:=by
 intro a w hf
 unfold wpList
 rw [if_pos (by simp [Region.wanted])]
 exact .inl (h a w hf)
theorem qC{a:Act}{w:World}(hf:Fits n c e M D a w){j s:Nat}{b:Bool}(hj:(ops[j]?).bind (·.dst)=some s)(hs:cz e s=some (.bool b)):yielded ops a.tmps j=some b:=by
 have:=hf.env s _ hs
 simp [yielded,hj,this]
theorem zH{d:Option Tmp}{op:Op}{p:String}{af:Array Edge}{j s:Nat}{b:Bool}(hj:(ops[j]?).bind (·.dst)=some s)(hs:cz e s=some (.bool b))(h:cL P n c ops d op T l k Q e M D):
  cG P n c ops (⟨d,op,T,p,af,some (j,b)⟩::l) k Q e M D:=by
 intro a w hf
 unfold wpList
 rw [if_pos (by simp [Region.wanted,qC hf hj hs])]
 exact .inl (h a w hf)
theorem mA{op:Op}{p:String}{af:Array Edge}{j s:Nat}{b b':Bool}(hj:(ops[j]?).bind (·.dst)=some s)(hs:cz e s=some (.bool b'))(hb:(b'==b)=false)(hd:Nat.blt d n=true)
  (h:cG P n c ops l k Q ((d,undef)::e) M D):cG P n c ops (⟨some d,op,T,p,af,some (j,b)⟩::l) k Q e M D:=by
 intro a w hf
 unfold wpList
 rw [if_neg (by simp only [Region.wanted,qC hf hj hs];cases b<;>cases b'<;>simp_all)]
 exact h _ w (hf.put hd undef)

theorem wv{a:Act}{w:World}(hf:Fits n c e M D a w){j s:Nat}(hj:(ops[j]?).bind (·.dst)=some s)(hs:cz e s=some undef):yielded ops a.tmps j=none:=by
 have:=hf.env s _ hs
 simp [yielded,hj,this,undef]
theorem yH{op:Op}{p:String}{af:Array Edge}{j s:Nat}{b:Bool}(hj:(ops[j]?).bind (·.dst)=some s)(hs:cz e s=some undef)(hd:Nat.blt d n=true)
  (h:cG P n c ops l k Q ((d,undef)::e) M D):cG P n c ops (⟨some d,op,T,p,af,some (j,b)⟩::l) k Q e M D:=by
 intro a w hf
 unfold wpList
 rw [if_neg (by simp [Region.wanted,wv hf hj hs])]
 exact h _ w (hf.put hd undef)

theorem xR{op:Op}{v:Value}(hd:Nat.blt d n=true)(h: ∀ a w,Fits n c e M D a w→(execOp a.eval (dH (some d) op T)).run P w= .ok (.value v) w)(next:cG P n c ops l k Q ((d,v)::e) M D):
  cL P n c ops (some d) op T l k Q e M D:=by
 intro a w hf
 unfold Oper.wp
 rw [h a w hf]
 exact next _ w (hf.put hd v)
theorem lU{x:Operand}{v:Value}(hd:Nat.blt d n=true)(hx:ev e x=some v)(next:cG P n c ops l k Q ((d,v)::e) M D):cL P n c ops (some d) (.move x) T l k Q e M D:=
 xR hd (fun a w hf=>by simp [execOp,dH,hf.ev hx]) next
theorem BG{x:Operand}{v:Value}(hd:Nat.blt d n=true)(hx:ev e x=some v)(next:cG P n c ops l k Q ((d,v)::e) M D):cL P n c ops (some d) (.assign x) T l k Q e M D:=
 xR hd (fun a w hf=>by simp [execOp,dH,hf.ev hx]) next
theorem zm{x y z:Operand}{r:Value}{b:Bool}(hd:Nat.blt d n=true)(hx:ev e x=some (.bool b))(hr:(match b with|true=>ev e y|false=>ev e z)=some r)(next:cG P n c ops l k Q ((d,r)::e) M D):
    cL P n c ops (some d) (.pick x y z) T l k Q e M D:=
  xR hd (fun a w hf=>by
    cases b with
    |true=>simp [execOp,dH,hf.ev hx,asBool,hf.ev hr]
    |false=>simp [execOp,dH,hf.ev hx,asBool,hf.ev hr]) next
theorem qM{fn:Fn}{fs cs:Array Operand}{vs:List Value}(hd:Nat.blt d n=true)(hf:fs= #[])(hv:cs.toList.mapM (ev e)=some vs)(next:cG P n c ops l k Q ((d, .func fn #[] vs.toArray)::e) M D):
    cL P n c ops (some d) (.makeFunc fn fs cs) T l k Q e M D:=by
  subst hf
  refine xR hd (fun a w hfit=>?_) next
  have: ∀ (xs:List Operand) (us:List Value),xs.mapM (ev e)=some us→xs.map a.eval=us:=by
    intro xs
    induction xs with
    |nil=>intro us h;simp at h;simp [h]
    |cons x xs ih=>
      intro us h
      rw [List.mapM_cons]at h
      cases hx:ev e x with
      |none=>simp [hx]at h
      |some u=>
        cases hy:xs.mapM (ev e)with
        |none=>simp [hx,hy]at h
        |some ys=>
          simp [hx,hy]at h
          subst h
          simp [hfit.ev hx,ih ys hy]
  have h2:=this cs.toList vs hv
  have h3:cs.map a.eval=vs.toArray:=by
    apply Array.ext'
    simpa using h2
  simp [execOp,dH,Instr.makeFunc,h3]
theorem qN{x:Operand}{p:Addr}(hd:Nat.blt d n=true)(hx:ev e x=some (.pointer (some p)))(next:cG P n c ops l k Q ((d, .pointer (some p))::e) M D):cL P n c ops (some d) (.nilCheck x) T l k Q e M D:=
 xR hd (fun a w hf=>by simp [execOp,dH,hf.ev hx]) next
theorem ww{x:Operand}{vs:Array Value}{i:Nat}{v:Value}(hd:Nat.blt d n=true)(hx:ev e x=some (.tuple vs))(hv:vs[i]? =some v)(next:cG P n c ops l k Q ((d,v)::e) M D):
  cL P n c ops (some d) (.extract x i) T l k Q e M D:=
 xR hd (fun a w hf=>by simp [execOp,dH,hf.ev hx,Instr.extract,hv]) next
theorem Jb{x:Operand}{b:Bool}{S:TypeId}(hd:Nat.blt d n=true)(hx:ev e x=some (.bool b))(next:cG P n c ops l k Q ((d, .bool (!b))::e) M D):cL P n c ops (some d) (.unOp .not S x) T l k Q e M D:=
 xR hd (fun a w hf=>by simp [execOp,dH,hf.ev hx,Op.unary]) next

theorem qO(op:BinOp)(t:TypeId)(x y:Operand)(kd kd':IntKind)(m n:Int)(P:Program)(w:World):(eqGuard op t x y (.int kd m) (.int kd' n)).run P w= .ok () w:=by
 cases op<;>simp [eqGuard]
theorem fk(op:BinOp)(t:TypeId)(x y:Operand)(m n:ByteArray)(P:Program)(w:World):(eqGuard op t x y (.string m) (.string n)).run P w= .ok () w:=by
 cases op<;>simp [eqGuard]
theorem fe(op:BinOp)(t:TypeId)(x y:Operand)(m n:Option Addr)(P:Program)(w:World):(eqGuard op t x y (.pointer m) (.pointer n)).run P w= .ok () w:=by
 cases op<;>simp [eqGuard]
theorem p8(op:BinOp)(t:TypeId)(x y:Operand)(m n:Bool)(P:Program)(w:World):(eqGuard op t x y (.bool m) (.bool n)).run P w= .ok () w:=by
 cases op<;>simp [eqGuard]

section int
variable {x y:Operand} {S S':TypeId} {kd:IntKind} {m m':Int}
theorem sD{op:BinOp}{v:Value}(hd:Nat.blt d n=true)(hx:ev e x=some (.int kd m))(hy:ev e y=some (.int kd m'))(hr: ∀ w,(binOp op S (.int kd m) (.int kd m')).run P w= .ok v w)(next:cG P n c ops l k Q ((d,v)::e) M D):
  cL P n c ops (some d) (.binOp op S x y S') T l k Q e M D:=
 xR hd (fun a w hf=>by simp [execOp,dH,hf.ev hx,hf.ev hy,qO,hr]) next
theorem qa(hd:Nat.blt d n=true)(hx:ev e x=some (.int kd m))(hy:ev e y=some (.int kd m'))(next:cG P n c ops l k Q ((d, .int kd (kd.wrap (m+m')))::e) M D):cL P n c ops (some d) (.binOp .add S x y S') T l k Q e M D:=
 sD hd hx hy (fun w=>by simp [binOp,Op.intArith]) next
theorem qb(hd:Nat.blt d n=true)(hx:ev e x=some (.int kd m))(hy:ev e y=some (.int kd m'))(next:cG P n c ops l k Q ((d, .int kd (kd.wrap (m - m')))::e) M D):cL P n c ops (some d) (.binOp .sub S x y S') T l k Q e M D:=
 sD hd hx hy (fun w=>by simp [binOp,Op.intArith]) next
theorem qc(hd:Nat.blt d n=true)(hx:ev e x=some (.int kd m))(hy:ev e y=some (.int kd m'))(next:cG P n c ops l k Q ((d, .int kd (kd.wrap (m*m')))::e) M D):cL P n c ops (some d) (.binOp .mul S x y S') T l k Q e M D:=
 sD hd hx hy (fun w=>by simp [binOp,Op.intArith]) next
theorem Jc(hd:Nat.blt d n=true)(hx:ev e x=some (.int kd m))(hy:ev e y=some (.int kd m'))(next:cG P n c ops l k Q ((d, .bool (decide (m=m')))::e) M D):cL P n c ops (some d) (.binOp .eql S x y S') T l k Q e M D:=
 sD hd hx hy (fun w=>by simp [binOp,Op.intCmp];by_cases h:m=m'<;>simp [h]) next
theorem uG(hd:Nat.blt d n=true)(hx:ev e x=some (.int kd m))(hy:ev e y=some (.int kd m'))(next:cG P n c ops l k Q ((d, .bool (decide (m≠m')))::e) M D):cL P n c ops (some d) (.binOp .neq S x y S') T l k Q e M D:=
 sD hd hx hy (fun w=>by simp [binOp,Op.intCmp];by_cases h:m=m'<;>simp [h]) next
theorem wI(hd:Nat.blt d n=true)(hx:ev e x=some (.int kd m))(hy:ev e y=some (.int kd m'))(next:cG P n c ops l k Q ((d, .bool (decide (m<m')))::e) M D):cL P n c ops (some d) (.binOp .lss S x y S') T l k Q e M D:=
 sD hd hx hy (fun w=>by simp [binOp,Op.intCmp]) next
theorem sE(hd:Nat.blt d n=true)(hx:ev e x=some (.int kd m))(hy:ev e y=some (.int kd m'))(next:cG P n c ops l k Q ((d, .bool (decide (m≤m')))::e) M D):cL P n c ops (some d) (.binOp .leq S x y S') T l k Q e M D:=
 sD hd hx hy (fun w=>by simp [binOp,Op.intCmp]) next
theorem wO(hd:Nat.blt d n=true)(hx:ev e x=some (.int kd m))(hy:ev e y=some (.int kd m'))(next:cG P n c ops l k Q ((d, .bool (decide (m'<m)))::e) M D):cL P n c ops (some d) (.binOp .gtr S x y S') T l k Q e M D:=
 sD hd hx hy (fun w=>by simp [binOp,Op.intCmp]) next
theorem uA(hd:Nat.blt d n=true)(hx:ev e x=some (.int kd m))(hy:ev e y=some (.int kd m'))(next:cG P n c ops l k Q ((d, .bool (decide (m'≤m)))::e) M D):cL P n c ops (some d) (.binOp .geq S x y S') T l k Q e M D:=
 sD hd hx hy (fun w=>by simp [binOp,Op.intCmp]) next
end int
section str
variable {x y:Operand} {S S':TypeId} {s t:ByteArray}
theorem mB{op:BinOp}{v:Value}(hd:Nat.blt d n=true)(hx:ev e x=some (.string s))(hy:ev e y=some (.string t))(hr: ∀ w,(binOp op S (.string s) (.string t)).run P w= .ok v w)(next:cG P n c ops l k Q ((d,v)::e) M D):
  cL P n c ops (some d) (.binOp op S x y S') T l k Q e M D:=
 xR hd (fun a w hf=>by simp [execOp,dH,hf.ev hx,hf.ev hy,fk,hr]) next
theorem uB{s t:ByteArray}:(s.toList==t.toList)=decide (s=t):=by
 by_cases h:s=t
 ·subst h;simp
 ·have:s.toList≠t.toList:=fun hh=>h (by
   have h2: ∀ u:ByteArray,u.toList=u.data.toList:=ByteArray.toList_eq
   rw [h2,h2]at hh
   have h3:=Array.toList_inj.1 hh
   cases s;cases t
   simp only at h3
   rw [h3])
  simp [h,this]
theorem Fz(hd:Nat.blt d n=true)(hx:ev e x=some (.string s))(hy:ev e y=some (.string t))(next:cG P n c ops l k Q ((d, .bool (decide (s=t)))::e) M D):cL P n c ops (some d) (.binOp .eql S x y S') T l k Q e M D:=
 mB hd hx hy (fun w=>by simp only [binOp,Op.stringOp,uB];rfl) next
theorem iq(hd:Nat.blt d n=true)(hx:ev e x=some (.string s))(hy:ev e y=some (.string t))(next:cG P n c ops l k Q ((d, .bool (decide (s≠t)))::e) M D):cL P n c ops (some d) (.binOp .neq S x y S') T l k Q e M D:=
 mB hd hx hy (fun w=>by simp only [binOp,Op.stringOp,uB];by_cases h:s=t<;>simp [h]) next
theorem qd(hd:Nat.blt d n=true)(hx:ev e x=some (.string s))(hy:ev e y=some (.string t))(hl:s.size+t.size≤9223372036854775807)(next:cG P n c ops l k Q ((d, .string (s++t))::e) M D):
  cL P n c ops (some d) (.binOp .add S x y S') T l k Q e M D:=
 mB hd hx hy (fun w=>by
  have: ¬ (((s.size+t.size:Nat):Int)>IntKind.i64.max):=by
   have:IntKind.i64.max=9223372036854775807:=rfl
   omega
  simp only [binOp,Op.stringOp,if_neg this];rfl) next
theorem F0(hd:Nat.blt d n=true)(hx:ev e x=some (.string s))(hy:ev e y=some (.string t))(next:cG P n c ops l k Q ((d, .bool (Op.bytesLess s.toList t.toList||s.toList==t.toList))::e) M D):cL P n c ops (some d) (.binOp .leq S x y S') T l k Q e M D:=
 mB hd hx hy (fun w=>by simp only [binOp,Op.stringOp];rfl) next
theorem F1(hd:Nat.blt d n=true)(hx:ev e x=some (.string s))(hy:ev e y=some (.string t))(next:cG P n c ops l k Q ((d, .bool (!Op.bytesLess s.toList t.toList))::e) M D):cL P n c ops (some d) (.binOp .geq S x y S') T l k Q e M D:=
 mB hd hx hy (fun w=>by simp only [binOp,Op.stringOp];rfl) next
end str
end rules
inductive XSt where
  |run (k:List KI) (e:dF)
  |ops (a:Array Oper) (l:List Oper) (k:List KI) (e:dF)
  |op (a:Array Oper) (d:Option Tmp) (o:Op) (T:TypeId) (l:List Oper) (k:List KI) (e:dF)
def XSt.G{F:List Nat}(P:Program)(n:Nat)(c:Ctx F)(Q:cu)(M:List HA)(D:List DA):XSt→Prop
  | .run k e=>Run P n c k Q e M D
  | .ops a l k e=>cG P n c a l k Q e M D
  | .op a d o T l k e=>cL P n c a d o T l k Q e M D
def Cc(e:dF):Op→Option Value
  | .move x=>ev e x
  | .assign x=>ev e x
  | .nilCheck x=>match ev e x with
    |some (.pointer (some p))=>some (.pointer (some p))
    |_=>none
  | .extract x i=>match ev e x with
    |some (.tuple vs)=>vs[i]?
    |_=>none
  | .unOp .not _ x=>match ev e x with
    |some (.bool b)=>some (.bool (!b))
    |_=>none
  | .pick x y z=>match ev e x with
    |some (.bool true)=>ev e y
    |some (.bool false)=>ev e z
    |_=>none
  | .binOp .eql _ x y _=>match ev e x,ev e y with
    |some (.int kd m),some (.int kd' m')=>match decEq kd kd' with
      | .isTrue _=>some (.bool (decide (m=m')))
      | .isFalse _=>none
    |some (.string s),some (.string t)=>some (.bool (decide (s=t)))
    |_,_=>none
  |_=>none
def Cd(n:Nat):XSt→Option XSt
  | .run (.code (.seq x y)::k) e=>some (.run (.code x:: .code y::k) e)
  | .run (.code .skip::k) e=>some (.run k e)
  | .run (.code (.block id x)::k) e=>some (.run (.code x:: .blk id::k) e)
  | .run (.blk _::k) e=>some (.run k e)
  | .run (.code (.region _ a false)::k) e=>some (.ops a a.toList k e)
  | .run (.code (.exit id)::k) e=>match l8 id k with
    |some k'=>some (.run k' e)
    |none=>none
  | .run (.code (.cond x p q)::k) e=>match ev e x with
    |some (.bool true)=>some (.run (.code p::k) e)
    |some (.bool false)=>some (.run (.code q::k) e)
    |_=>none
  | .ops _ [] k e=>some (.run k e)
  | .ops a (⟨d,o,T,_,_,none⟩::l) k e=>some (.op a d o T l k e)
  | .ops a (⟨some d,o,T,_,_,some (j,b)⟩::l) k e=>match (a[j]?).bind (·.dst)with
    |some s=>match cz e s,b with
      |some (.bool true),true=>some (.op a (some d) o T l k e)
      |some (.bool false),false=>some (.op a (some d) o T l k e)
      |some (.bool true),false=>cond (Nat.blt d n) (some (.ops a l k ((d,undef)::e))) none
      |some (.bool false),true=>cond (Nat.blt d n) (some (.ops a l k ((d,undef)::e))) none
      |_,_=>none
    |none=>none
  | .op a (some d) o _ l k e=>match Cc e o,Nat.blt d n with
    |some v,true=>some (.ops a l k ((d,v)::e))
    |_,_=>none
  |_=>none
def mC(n:Nat):Nat→XSt→Option XSt
  |0,s=>some s
  |f+1,s=>match Cd n s with
    |some s'=>mC n f s'
    |none=>none
def oJ:List Nat→dF→Option dF
  |[],_=>some []
  |t::ts,e=>match cz e t,oJ ts e with
    |some v,some r=>some ((t,v)::r)
    |_,_=>none
theorem mD: ∀ {ts:List Nat} {e r:dF},oJ ts e=some r→EnvLe r e
  |[],e,r,h=>by cases h;exact eN e
  |t::ts,e,r,h=>by
    unfold oJ at h
    split at h
    · rename_i v r' hv hr
      cases h
      exact eC hv (mD hr)
    · cases h
section
variable {P:Program} {n:Nat} {F:List Nat} {c:Ctx F} {ops:Array Oper} {l:List Oper} {k:List KI} {Q:cu} {e:dF} {M:List HA} {D:List DA}
theorem Ce{d:Nat}{T:TypeId}{o:Op}{v:Value}(h:Cc e o=some v)(hd:Nat.blt d n=true)(next:cG P n c ops l k Q ((d,v)::e) M D):cL P n c ops (some d) o T l k Q e M D:=by
 unfold Cc at h
 split at h
 ·exact lU hd h next
 ·exact BG hd h next
 ·split at h
  ·rename_i hx;cases h;exact qN hd hx next
  ·cases h
 ·split at h
  ·rename_i hx;exact ww hd hx h next
  ·cases h
 ·split at h
  ·rename_i hx;cases h;exact Jb hd hx next
  ·cases h
 ·split at h
  ·rename_i hx;exact zm (b:=true) hd hx h next
  ·rename_i hx;exact zm (b:=false) hd hx h next
  ·cases h
 ·split at h
  ·rename_i hx hy
   split at h
   ·rename_i hk _;subst hk;cases h;exact Jc hd hx hy next
   ·cases h
  ·rename_i hx hy;cases h;exact Fz hd hx hy next
  ·cases h
 ·cases h
theorem Cf{s s':XSt}(h:Cd n s=some s')(g:s'.G P n c Q M D):s.G P n c Q M D:=by
  unfold Cd at h
  split at h
  · cases h;exact xD g
  · cases h;exact uF g
  · cases h;exact oI g
  · cases h;exact qK g
  · rename_i id a k e
    cases h
    have h2:=iN (P:=P) (n:=n) (c:=c) (id:=id) (k:=k) (Q:=Q) (e:=e) (M:=M) (D:=D) (l:=a.toList)
    rw [Array.toArray_toList]at h2
    exact h2 g
  · split at h
    · rename_i hp;cases h;exact ta hp g
    · cases h
  · split at h
    · rename_i hx;cases h;exact CZ hx g
    · rename_i hx;cases h;exact BF hx g
    · cases h
  · cases h;exact yO g
  · cases h;exact zA g
  · split at h
    · rename_i hj
      split at h
      · rename_i hs;cases h;exact zH hj hs g
      · rename_i hs;cases h;exact zH hj hs g
      · rename_i hs
        cases hd:Nat.blt _ n with
        |true=>rw [hd]at h;cases h;exact mA hj hs rfl hd g
        |false=>rw [hd]at h;cases h
      · rename_i hs
        cases hd:Nat.blt _ n with
        |true=>rw [hd]at h;cases h;exact mA hj hs rfl hd g
        |false=>rw [hd]at h;cases h
      · cases h
    · cases h
  · split at h
    · rename_i hv hd;cases h;exact Ce hv hd g
    · cases h
  · cases h
theorem rQ: ∀ (f:Nat) {s s':XSt},mC n f s=some s'→s'.G P n c Q M D→s.G P n c Q M D
  |0,s,s',h,g=>by cases h;exact g
  |f+1,s,s',h,g=>by
    unfold mC at h
    split at h
    · rename_i hs;exact Cf hs (rQ f h g)
    · cases h

theorem rR(f:Nat){k':List KI}{e':dF}(h:mC n f (.run k e)=some (.run k' e'))(g:Run P n c k' Q e' M D):Run P n c k Q e M D:=rQ f h g
theorem rS(f:Nat){a:Array Oper}{l':List Oper}{k':List KI}{e':dF}(h:mC n f (.run k e)=some (.ops a l' k' e'))(g:cG P n c a l' k' Q e' M D):Run P n c k Q e M D:=rQ f h g
theorem rO(f:Nat){a:Array Oper}{d:Option Tmp}{o:Op}{T:TypeId}{l':List Oper}{k':List KI}{e':dF}(h:mC n f (.run k e)=some (.op a d o T l' k' e'))(g:cL P n c a d o T l' k' Q e' M D):Run P n c k Q e M D:=rQ f h g
theorem rK(f:Nat)(ts:List Nat){k':List KI}{e' r:dF}(h:mC n f (.run k e)=some (.run k' e'))(hr:oJ ts e'=some r)(g:Run P n c k' Q r M D):Run P n c k Q e M D:=rQ f h (gR (mD hr) g)
theorem oR(f:Nat){k':List KI}{e':dF}(h:mC n f (.ops ops l k e)=some (.run k' e'))(g:Run P n c k' Q e' M D):cG P n c ops l k Q e M D:=rQ f h g
theorem oS(f:Nat){a:Array Oper}{l':List Oper}{k':List KI}{e':dF}(h:mC n f (.ops ops l k e)=some (.ops a l' k' e'))(g:cG P n c a l' k' Q e' M D):cG P n c ops l k Q e M D:=rQ f h g
theorem oO(f:Nat){a:Array Oper}{d:Option Tmp}{o:Op}{T:TypeId}{l':List Oper}{k':List KI}{e':dF}(h:mC n f (.ops ops l k e)=some (.op a d o T l' k' e'))(g:cL P n c a d o T l' k' Q e' M D):cG P n c ops l k Q e M D:=rQ f h g
theorem oK(f:Nat)(ts:List Nat){k':List KI}{e' r:dF}(h:mC n f (.ops ops l k e)=some (.run k' e'))(hr:oJ ts e'=some r)(g:Run P n c k' Q r M D):cG P n c ops l k Q e M D:=rQ f h (gR (mD hr) g)
end

section rules
variable {P:Program} {n:Nat} {F:List Nat} {c:Ctx F} {ops:Array Oper} {d:Nat} {T:TypeId} {l:List Oper} {k:List KI} {Q:cu} {e:dF} {M:List HA} {D:List DA}


theorem FitsW.mem{w:World}(h:FitsW c M D w){i:Nat}{x:HA}(hi:M[i]? =some x):x.holds w:=h.own x (List.mem_of_getElem? hi)
theorem FitsW.dt{w:World}(h:FitsW c M D w){i:Nat}{x:DA}(hi:D[i]? =some x):x.p w (c.now M w):=h.dat x (List.mem_of_getElem? hi)
theorem eu{w:World}(h:FitsW c M D w){i b o:Nat}{cs:List Value}{T:TypeId}{v:Value}(hi:M[i]? =some (.blk b cs T))(hv:cs[o]? =some v):w.cell? ⟨b,o,none⟩=some v:=by
 rw [vL (h.mem hi)];exact hv


theorem yR{x:Operand}{p:Addr}{v:Value}(hT:cT P T)(hd:Nat.blt d n=true)(hx:ev e x=some (.pointer (some p)))(hc: ∀ w,FitsW c M D w→w.cell? p=some v)
  (next:cG P n c ops l k Q ((d,v)::e) M D) {T':TypeId}:cL P n c ops (some d) (.load T x) T' l k Q e M D:=
 xR hd (fun a w hf=>by simp [execOp,dH,hf.ev hx,fa hT (hc w hf.toFitsW)]) next
theorem iO{x:Operand}{p:Addr}{vs:List Value}(hT:fj P T vs.length)(hd:Nat.blt d n=true)(hx:ev e x=some (.pointer (some p)))(hc: ∀ w,FitsW c M D w→ ∀ j u,vs[j]? =some u→w.cell? (p.add j)=some u)
  (next:cG P n c ops l k Q ((d, .agg vs.toArray)::e) M D) {T':TypeId}:cL P n c ops (some d) (.load T x) T' l k Q e M D:=
 xR hd (fun a w hf=>by simp [execOp,dH,hf.ev hx,rP hT (hc w hf.toFitsW)]) next
theorem zF(i:Nat){x:Operand}{b o:Nat}{cs:List Value}{U:TypeId}{v:Value}(hT:cT P T)(hd:Nat.blt d n=true)(hx:ev e x=some (.pointer (some ⟨b,o,none⟩)))(hi:M[i]? =some (.blk b cs U))(hv:cs[o]? =some v)
  (next:cG P n c ops l k Q ((d,v)::e) M D) {T':TypeId}:cL P n c ops (some d) (.load T x) T' l k Q e M D:=
 yR hT hd hx (fun _ h=>eu h hi hv) next
theorem zK(i:Nat){x:Operand}{b:Nat}{cs:List Value}{U:TypeId}(hi:M[i]? =some (.blk b cs U))(hT:fj P T cs.length)(hd:Nat.blt d n=true)(hx:ev e x=some (.pointer (some ⟨b,0,none⟩)))
  (next:cG P n c ops l k Q ((d, .agg cs.toArray)::e) M D) {T':TypeId}:cL P n c ops (some d) (.load T x) T' l k Q e M D:=
 iO hT hd hx (fun _ h j u hj=>by rw [wB];exact eu h hi (by rw [Nat.zero_add];exact hj)) next
theorem Cg(i:Nat){x:Operand}{b o s:Nat}{cs vs:List Value}{U:TypeId}(hi:M[i]? =some (.blk b cs U))(hT:fj P T s)(hvs:(cs.drop o).take s=vs)(hs:vs.length=s)(hd:Nat.blt d n=true)(hx:ev e x=some (.pointer (some ⟨b,o,none⟩)))
  (next:cG P n c ops l k Q ((d, .agg vs.toArray)::e) M D) {T':TypeId}:cL P n c ops (some d) (.load T x) T' l k Q e M D:=by
 subst hs
 refine iO hT hd hx (fun _ h j u hj=>?_) next
 rw [wB]
 refine eu h hi ?_
 rw [←hvs,List.getElem?_take]at hj
 split at hj
 ·rwa [List.getElem?_drop]at hj
 ·cases hj
theorem zC{x:Operand}{b o f off S:Nat}(hF:cI P S f off)(hd:Nat.blt d n=true)(hx:ev e x=some (.pointer (some ⟨b,o,none⟩)))(next:cG P n c ops l k Q ((d, .pointer (some ⟨b,o+off,none⟩))::e) M D):
  cL P n c ops (some d) (.fieldAddr S x f) T l k Q e M D:=by
 obtain⟨fs,fd,i,s,hS,hf,ho,hi,hs⟩:=hF
 refine xR hd (fun a w hfit=>?_) next
 simp [execOp,dH,hfit.ev hx,Instr.fieldAt,run_underlying hS,hf,Instr.sureAddr,fieldPlace,xK hi,hs,ho,wB]
theorem oL{x:Operand}{p:Addr}{f off S:Nat}(hF:cI P S f off)(hd:Nat.blt d n=true)(hx:ev e x=some (.pointer (some p)))(next:cG P n c ops l k Q ((d, .pointer (some (p.add off)))::e) M D):
  cL P n c ops (some d) (.fieldAddr S x f) T l k Q e M D:=by
 obtain⟨fs,fd,i,s,hS,hf,ho,hi,hs⟩:=hF
 refine xR hd (fun a w hfit=>?_) next
 simp [execOp,dH,hfit.ev hx,Instr.fieldAt,run_underlying hS,hf,Instr.sureAddr,fieldPlace,xK hi,hs,ho]
theorem xY{x y:Operand}{A:Addr}{m cap i:Nat}{kd:IntKind}{S E sz by_:Nat}(hS:cS P S E sz by_)(hd:Nat.blt d n=true)(hx:ev e x=some (.slice (some A) m cap))(hy:ev e y=some (.int kd (i:Nat)))(hi:i<m)
  (next:cG P n c ops l k Q ((d, .pointer (some (A.add (i*sz))))::e) M D):cL P n c ops (some d) (.indexAddr S x y) T l k Q e M D:=by
 obtain⟨ti,z,hu,hinf,hs,_⟩:=hS
 refine xR hd (fun a w hfit=>?_) next
 simp [execOp,dH,hfit.ev hx,hfit.ev hy,Instr.indexAt,asIntOf,run_underlying hu,xK hinf,hs,hi]
theorem vT{x y:Operand}{s:ByteArray}{i:Nat}{kd:IntKind}{S:TypeId}(hS:P.underlying S=some .string)(hd:Nat.blt d n=true)(hx:ev e x=some (.string s))(hy:ev e y=some (.int kd (i:Nat)))(hi:i<s.size)
  (next:cG P n c ops l k Q ((d, .int .u8 (s[i]'hi).toNat)::e) M D):cL P n c ops (some d) (.index S x y) T l k Q e M D:=by
 refine xR hd (fun a w hfit=>?_) next
 simp [execOp,dH,hfit.ev hx,hfit.ev hy,Instr.index,asIntOf,run_underlying hS,hi]
theorem xF{x:Operand}{s:ByteArray}{S:TypeId}(hS:P.underlying S=some .string)(hd:Nat.blt d n=true)(hx:ev e x=some (.string s))(next:cG P n c ops l k Q ((d, .int .i64 (s.size:Nat))::e) M D):
  cL P n c ops (some d) (.call {callee:= .builtin .len,args:= #[x],argTypes:= #[S]}) T l k Q e M D:=by
 refine xR hd (fun a w hfit=>?_) next
 simp [execOp,dH,resolve,invoke,builtin,hfit.ev hx,Builtin.len_,run_underlying hS,goInt]
theorem zX{x:Operand}{A:Option Addr}{m cap:Nat}{S E sz by_:Nat}(hS:cS P S E sz by_)(hd:Nat.blt d n=true)(hx:ev e x=some (.slice A m cap))(next:cG P n c ops l k Q ((d, .int .i64 (m:Nat))::e) M D):
  cL P n c ops (some d) (.call {callee:= .builtin .len,args:= #[x],argTypes:= #[S]}) T l k Q e M D:=by
 obtain⟨ti,z,hu,_⟩:=hS
 refine xR hd (fun a w hfit=>?_) next
 simp [execOp,dH,resolve,invoke,builtin,hfit.ev hx,Builtin.len_,run_underlying hu,goInt]
theorem iD{x y:Operand}{s:ByteArray}{i:Nat}{kd:IntKind}{S:TypeId}(hS:P.underlying S=some .string)(hd:Nat.blt d n=true)(hx:ev e x=some (.string s))(hy:ev e y=some (.int kd (i:Nat)))
  (hi:i≤s.size) (next:cG P n c ops l k Q ((d, .string (s.extract i s.size))::e) M D):cL P n c ops (some d) (.slice S x (some y) none none) T l k Q e M D:=by
 refine xR hd (fun a w hfit=>?_) next
 simp [execOp,dH,hfit.ev hx,hfit.ev hy,Instr.sliceAt,Instr.slice,Instr.sliceBounds,Instr.sliceBound,asIntOf,run_underlying hS,hi]
theorem ny{x z:Operand}{s:ByteArray}{j:Nat}{kd':IntKind}{S:TypeId}(hS:P.underlying S=some .string)(hd:Nat.blt d n=true)(hx:ev e x=some (.string s))(hz:ev e z=some (.int kd' (j:Nat)))
  (hj:j≤s.size) (next:cG P n c ops l k Q ((d, .string (s.extract 0 j))::e) M D):cL P n c ops (some d) (.slice S x none (some z) none) T l k Q e M D:=by
 refine xR hd (fun a w hfit=>?_) next
 simp [execOp,dH,hfit.ev hx,hfit.ev hz,Instr.sliceAt,Instr.slice,Instr.sliceBounds,Instr.sliceBound,asIntOf,run_underlying hS,hj]

theorem Ch{op:Op}{cs:List Value}{U:TypeId}(hd:Nat.blt d n=true)(h: ∀ a w,Fits n c e M D a w→(execOp a.eval (dH (some d) op T)).run P w= .ok (.value (.pointer (some ⟨w.heap.size,0,none⟩))) (w.alloc (.cells cs.toArray U (0,0))))
  (next: ∀ b,cG P n c ops l k Q ((d, .pointer (some ⟨b,0,none⟩))::e) (.blk b cs U::M) D):cL P n c ops (some d) op T l k Q e M D:=by
 intro a w hf
 unfold Oper.wp
 rw [h a w hf]
 have hx:(HA.blk w.heap.size cs U).holds (w.alloc (.cells cs.toArray U (0,0))):=by
  show(w.heap.push _)[w.heap.size]? =_
  simp
 exact next w.heap.size _ _ ((hf.world (hf.toFitsW.new _ hx Z)).put hd _)
theorem yK{x:Operand}{v:Value}{cs:List Value}{U:TypeId}(hd:Nat.blt d n=true)(hx:ev e x=some v)(hv:v.cells=cs.toArray)
  (next: ∀ b,cG P n c ops l k Q ((d, .pointer (some ⟨b,0,none⟩))::e) (.blk b cs U::M) D):cL P n c ops (some d) (.box U x) T l k Q e M D:=
 Ch hd (fun a w hf=>by simp [execOp,dH,hf.ev hx,Instr.box,newVar,newRow,newObj,hv,Sem.run]) next
theorem yA{zs:List Value}{U:TypeId}(hz:gz P U zs)(hd:Nat.blt d n=true)(next: ∀ b,cG P n c ops l k Q ((d, .pointer (some ⟨b,0,none⟩))::e) (.blk b zs U::M) D):
  cL P n c ops (some d) (.alloc U) T l k Q e M D:=by
 obtain⟨i,z,hi,hzz,hzc⟩:=hz
 exact Ch hd (fun a w hf=>by simp [execOp,dH,Instr.alloc,run_zeroValue' hi hzz,newVar,newRow,newObj,hzc,Sem.run]) next

theorem FitsW.blkM{w:World}(h:FitsW c M D w){i b:Nat}{cs:List Value}{U:TypeId}(hi:M[i]? =some (.blk b cs U)){w':World}{cs':List Value}(hw:w'.heap[b]? =some (.cells cs'.toArray U (0,0)))(hc:Chg [b] w w'):
  FitsW c (M.set i (.blk b cs' U)) D w':=by
 have hlt:=(List.getElem?_eq_some_iff.1 hi).1
 have hM:M=M.take i++ .blk b cs U::M.drop (i+1):=by
  have:=(List.getElem?_eq_some_iff.1 hi).2
  rw [←this,List.getElem_cons_drop,List.take_append_drop]
 have hM':M.set i (.blk b cs' U)=M.take i++ .blk b cs' U::M.drop (i+1):=List.set_eq_take_append_cons_drop .. |>.trans (by rw [if_pos hlt])
 have h1:FitsW c ([.blk b cs U]++(M.take i++M.drop (i+1))) D w:=h.perm (by
  conv=>lhs;rw [hM]
  exact List.perm_middle)
 have h2:=h1.swap (M1':=[.blk b cs' U]) (D':=[]) (by simpa [cP,HA.foot]using hc) (by simpa [HA.holds]using hw) bV (by intro q hq;exact .inl (by simpa [cP,HA.foot]using hq)) aJ
 rw [hM']
 exact(by simpa using h2:FitsW c (.blk b cs' U::(M.take i++M.drop (i+1))) D w').perm List.perm_middle.symm
theorem zG(i:Nat){x y:Operand}{b o:Nat}{cs vs:List Value}{U S:TypeId}{v:Value}{M':List HA}(hx:ev e x=some (.pointer (some ⟨b,o,none⟩)))(hy:ev e y=some v)(hi:M[i]? =some (.blk b cs U))(hv:v.cells=vs.toArray)
  (hs: ∃i,P.info? S=some i∧i.size=vs.length) (hl:Nat.ble (o+vs.length) cs.length=true) (h1:vs.all (·.oneCell')=true) (hM:M.set i (.blk b (de cs o vs) U)=M') (next:cG P n c ops l k Q e M' D):
  cL P n c ops none (.store S x y) T l k Q e M D:=by
 subst hM
 intro a w hf
 obtain⟨w',hr,hh,hc⟩:=fc (P:=P) (T':=S) (v:=v) (hf.toFitsW.mem hi) hv hs bq (fun u hu=>(List.all_eq_true.1 h1) u hu)
 unfold Oper.wp
 have:(execOp a.eval (dH none (.store S x y) T)).run P w= .ok .skip w':=by simp [execOp,dH,hf.ev hx,hf.ev hy,hr]
 rw [this]
 exact next _ _ (hf.world (hf.toFitsW.blkM hi hh hc))
end rules


def zn(P:Program)(f:FuncId):Prop:= ∃fn,P.funcs[f]? =some fn∧(fn.name== "runtime.NumGoroutine")=false∧fn.body.isSome=true
def Ct(P:Program)(f:FuncId)(args:Array Value)(M:List HA)(D:List DA)(R:Value→List HA→List DA→Prop):Prop:=
 zn P f∧ ∀ (w:World) (ok:Nat→Prop),(∀ k,ok k→k<w.heap.size∧k∉cP M)→(∀ h∈M,h.holds w)→(cP M).Nodup→(∀ d∈D,d.p w ok)→
  Calls P f args w fun e w'=> ∃v M' D',e= .returned v∧R v M' D'∧Chg (cP M) w w'∧(∀ h∈M',h.holds w')∧(cP M').Nodup∧(∀ b∈cP M',b∈cP M∨w.heap.size≤b)∧
   ∀ d∈D',d.p w' (fun k=>(ok k∨w.heap.size≤k)∧k<w'.heap.size∧k∉cP M')
def lK{F:List Nat}(P:Program)(c:Ctx F)(fn:Func)(R:Value→List HA→List DA→Prop):cu:=
 bodyPost P fn fun e w'=> ∃v M' D',e= .returned v∧R v M' D'∧Chg F c.w0 w'∧(∀ h∈M',h.holds w')∧(cP M').Nodup∧(∀ b∈cP M',b∈F∨c.w0.heap.size≤b)∧
   ∀ d∈D',d.p w' (fun k=>(c.ok k∨c.w0.heap.size≤k)∧k<w'.heap.size∧k∉cP M')
def ir(i:Nat):List Value→dF
  |[]=>[]
  |v::vs=>(i,v)::ir (i+1) vs
theorem iu: ∀ (vs:List Value) (i t:Nat) (v:Value),cz (ir i vs) t=some v→i≤t∧vs[t - i]? =some v
  |[],i,t,v,h=>by simp [ir,cz]at h
  |u::vs,i,t,v,h=>by
    simp only [ir]at h
    rw [vG]at h
    split at h
    · rename_i hit
      simp only at hit
      subst hit
      cases h
      simp
    · rename_i hit
      obtain⟨h1,h2⟩:=iu vs (i+1) t v h
      simp only at hit
      refine⟨aC,?_⟩
      rw [show t - i=(t - (i+1))+1 from by omega]
      simpa using h2
theorem Ct.of_run{P:Program}{f:FuncId}{fn:Func}{code:Code}{args:List Value}{M:List HA}{D:List DA}{R:Value→List HA→List DA→Prop}(hf:P.funcs[f]? =some fn)(hn:(fn.name== "runtime.NumGoroutine")=false)(hb:fn.body=some code){n:Nat}
  (hsz:fn.ntmps=n) (hle:Nat.ble args.length n=true) (h: ∀ c:Ctx (cP M),Run P n c [.code code] (lK P c fn R) (ir 0 args) M D):Ct P f args.toArray M D R:=by
 refine⟨⟨fn,hf,hn,by simp [hb]⟩,fun w ok hok hM hnd hD=>?_⟩
 subst hsz
 let c:Ctx (cP M):=⟨w,ok,hok,fun b hb=>by
  obtain⟨x,hx,hb⟩:=sG.1 hb
  exact HA.foot_lt (hM x hx) b hb⟩
 have hle':args.length≤fn.ntmps:=by simpa using hle
 refine calls_of_wp hf hb ?_
 refine Code.wp_mono (fun e a w q=>q) ((h c) _ w ?_:(Code.wp P code (Kp P [] (lK P c fn R)) _ w))
 refine {chg:=Chg.refl _ _,own:=hM,nodup:=hnd,foot:=fun b hb=> .inl hb,dat:=?_,size:=?_,defers:=rfl,env:=?_}
 ·intro d hd
  exact d.mono (fun k hk=>⟨.inl hk,(hok k hk).1,(hok k hk).2⟩) (fun _ _=>rfl) (hD d hd)
 ·simp;omega
 ·intro t v ht
  obtain⟨_,h2⟩:=iu args 0 t v ht
  have hlt:=(List.getElem?_eq_some_iff.1 h2).1
  simp only [Nat.sub_zero]at h2 hlt
  rw [Array.getElem?_append_left (by simpa using hlt)]
  simpa using h2

section rules
variable {P:Program} {n:Nat} {F:List Nat} {c:Ctx F} {ops:Array Oper} {d:Nat} {T:TypeId} {l:List Oper} {k:List KI} {Q:cu} {e:dF} {M:List HA} {D:List DA}

theorem gS{M' M:List HA}(hM:List.Sublist M' M):List.Sublist (cP M') (cP M):=by
  induction hM with
  |slnil=>exact .slnil
  |cons x _ ih=>exact ih.trans (List.sublist_append_right _ _)
  |cons_cons x _ ih=>exact ih.append_left _
theorem pB{fn:Func}{R:Value→List HA→List DA→Prop}{v:Value}{M':List HA}{D':List DA}(hres: ∀ a w,Fits n c e M D a w→(results fn a.tmps).run P w= .ok v w)(hR:R v M' D')(hM:List.Sublist M' M)(hD: ∀ d∈D',d∈D):
  Run P n c (.code .ret::k) (lK P c fn R) e M D:=by
 refine Fy fun a w hf=>?_
 have hsub:=gS hM
 refine⟨hf.defers,v,hres a w hf,v,M',D',rfl,hR,hf.chg,fun x hx=>hf.own x (hM.mem hx),hf.nodup.sublist hsub,fun b hb=>hf.foot b (hsub.mem hb),fun x hx=>?_⟩
 exact x.mono (fun q hq=>⟨hq.1,hq.2.1,fun h'=>hq.2.2 (hsub.mem h')⟩) (fun _ _=>rfl) (hf.dat x (hD x hx))
theorem uH{a:Act}{w:World}(hf:Fits n c e M D a w){t:Nat}{v:Value}(h:cz e t=some v):a.tmps.getD t undef=v:=by
 have:=hf.env t v h
 simp [Array.getD_eq_getD_getElem?,this]
theorem zD{fn:Func}{R:Value→List HA→List DA→Prop}{t:Nat}{v:Value}{M':List HA}{D':List DA}(hr:fn.results= #[.tmp t])(hv:cz e t=some v)(hR:R v M' D')(hM:List.Sublist M' M)(hD: ∀ d∈D',d∈D):
  Run P n c (.code .ret::k) (lK P c fn R) e M D:=
 pB (fun a w hf=>by rw [results_tmp hr,uH hf hv]) hR hM hD
theorem wY{fn:Func}{R:Value→List HA→List DA→Prop}{t u:Nat}{v v':Value}{M':List HA}{D':List DA}(hr:fn.results= #[.tmp t, .tmp u])(hv:cz e t=some v)(hv':cz e u=some v')(hR:R (.tuple #[v,v']) M' D')(hM:List.Sublist M' M)(hD: ∀ d∈D',d∈D):
  Run P n c (.code .ret::k) (lK P c fn R) e M D:=
 pB (fun a w hf=>by rw [results_tmp2 hr,uH hf hv,uH hf hv']) hR hM hD
theorem pC{fn:Func}{R:Value→List HA→List DA→Prop}{t u s:Nat}{v v' v'':Value}{M':List HA}{D':List DA}(hr:fn.results= #[.tmp t, .tmp u, .tmp s])(hv:cz e t=some v)(hv':cz e u=some v')(hv'':cz e s=some v'')(hR:R (.tuple #[v,v',v'']) M' D')(hM:List.Sublist M' M)(hD: ∀ d∈D',d∈D):
  Run P n c (.code .ret::k) (lK P c fn R) e M D:=
 pB (fun a w hf=>by
  have:=results_tmp3 hr a.tmps P w
  rw [this,uH hf hv,uH hf hv',uH hf hv'']) hR hM hD
theorem kg{w:World}{b:Nat}{cs:List Value}{U T:TypeId}(h:w.heap[b]? =some (.cells cs.toArray U (0,0)))(hT:fj P T cs.length):(loadVar T ⟨b,0,none⟩).run P w= .ok (.agg cs.toArray) w:=by
 have:=rP (P:=P) (w:=w) (a:=⟨b,0,none⟩) hT (fun j u hj=>by rw [wB,vL h,Nat.zero_add];exact hj)
 simpa [Instr.loadAt,Instr.sureAddr]using this
theorem vM(i:Nat){fn:Func}{R:Value→List HA→List DA→Prop}{t b:Nat}{cs:List Value}{U S:TypeId}{M':List HA}{D':List DA}(hr:fn.results= #[.cell t S])(hv:cz e t=some (.pointer (some ⟨b,0,none⟩)))(hi:M[i]? =some (.blk b cs U))(hS:fj P S cs.length)
  (hR:R (.agg cs.toArray) M' D') (hM:List.Sublist M' M) (hD: ∀ d∈D',d∈D):Run P n c (.code .ret::k) (lK P c fn R) e M D:=
 pB (fun a w hf=>by
  have h1:=hf.env t _ hv
  have h2:=kg (P:=P) (hf.toFitsW.mem hi) hS
  simp [results,hr,h1,asAddr,h2]) hR hM hD
theorem vI(i:Nat){fn:Func}{R:Value→List HA→List DA→Prop}{t u b:Nat}{v':Value}{cs:List Value}{U S:TypeId}{M':List HA}{D':List DA}(hr:fn.results= #[.cell t S, .tmp u])(hv:cz e t=some (.pointer (some ⟨b,0,none⟩)))(hv':cz e u=some v')
  (hi:M[i]? =some (.blk b cs U)) (hS:fj P S cs.length)
  (hR:R (.tuple #[.agg cs.toArray,v']) M' D') (hM:List.Sublist M' M) (hD: ∀ d∈D',d∈D):Run P n c (.code .ret::k) (lK P c fn R) e M D:=
 pB (fun a w hf=>by
  have h1:=hf.env t _ hv
  have h3:=hf.env u _ hv'
  have h2:=kg (P:=P) (hf.toFitsW.mem hi) hS
  simp [results,hr,h1,h3,asAddr,h2]) hR hM hD

theorem iw{f:FuncId}(hF:zn P f)(args:Array Value)(w:World):(callFunc f args).run P w= .ok (.enter f args) w:=by
  obtain⟨fn,hf,hn,hb⟩:=hF
  have hb':fn.body.isNone=false:=by cases h:fn.body with
    |none=>simp [h]at hb
    |some _=>rfl
  simp only [callFunc,Go.program,Sem.run_bind,Sem.run,Result.andThen_ok,hf,hn,hb']
  rfl
theorem Ci{a:Act}{w:World}(hf:Fits n c e M D a w): ∀ {xs:List Operand} {us:List Value},xs.mapM (ev e)=some us→xs.map a.eval=us
  |[],us,h=>by simp at h;simp [h]
  |x::xs,us,h=>by
    rw [List.mapM_cons]at h
    cases hx:ev e x with
    |none=>simp [hx]at h
    |some u=>
      cases hy:xs.mapM (ev e)with
      |none=>simp [hx,hy]at h
      |some ys=>
        simp [hx,hy]at h
        subst h
        simp [hf.ev hx,Ci hf hy]
theorem tB{fo:Operand}{ags:Array Operand}{ts:Array TypeId}{f:FuncId}{cap:Array Value}{vs:List Value}{M1 M2:List HA}{D1:List DA}{R:Value→List HA→List DA→Prop}(hd:Nat.blt d n=true)(hfo:ev e fo=some (.func (.func f) #[] cap))(has:ags.toList.mapM (ev e)=some vs)
    (hct:Ct P f (vs.toArray++cap) M1 D1 R) (hM:M1++M2=M) (hD: ∀ d∈D1,d∈D)
    (next: ∀ v M' D',R v M' D'→cG P n c ops l k Q ((d,v)::e) (M'++M2) (D'++D)):cL P n c ops (some d) (.call {callee:= .value fo,args:=ags,argTypes:=ts}) T l k Q e M D:=by
  subst hM
  intro a w hf
  have hargs:ags.map a.eval=vs.toArray:=by
    apply Array.ext'
    simpa using Ci hf has
  unfold Oper.wp
  have hrun:(execOp a.eval (dH (some d) (.call {callee:= .value fo,args:=ags,argTypes:=ts}) T)).run P w= .ok (.enter f (vs.toArray++cap)) w:=by
    simp [execOp,dH,resolve,hf.ev hfo,Deferred.ofValue,invoke,hargs,iw hct.1]
  rw [hrun]
  have hlt:=hf.lt
  refine Calls.mono (hct.2 w (c.now (M1++M2) w) (fun k hk=>⟨hk.2.1,fun h'=>hk.2.2 (by rw [yY];exact List.mem_append_left _ h')⟩) (fun h hh=>hf.own h (List.mem_append_left _ hh))
    (by have:=hf.nodup;rw [yY]at this;exact(List.nodup_append.1 this).1) (fun d hd'=>hf.dat d (hD d hd'))) ?_
  rintro e' w' ⟨v,M',D',rfl,hR,hchg,hm,hn,hft,hdat⟩
  refine next v M' D' hR _ w' ((hf.world (hf.toFitsW.swap hchg hm hn hft fun x hx=>?_)).put hd v)
  refine x.mono (fun q hq=>?_) (fun _ _=>rfl) (hdat x hx)
  obtain⟨h1,h2,h3⟩:=hq
  refine⟨?_,h2,?_⟩
  · rcases h1 with h1|h1
    · exact h1.1
    · exact .inr (Nat.le_trans hf.chg.size h1)
  · rw [yY,List.mem_append,not_or]
    refine⟨h3,fun h4=>?_⟩
    rcases h1 with h1|h1
    · exact h1.2.2 (by rw [yY];exact List.mem_append_right _ h4)
    · exact absurd (hlt q (by rw [yY];exact List.mem_append_right _ h4)) aC
def di(P:Program)(f:FuncId)(args:Array Value)(D:List DA)(v:Value):Prop:=Ct P f args [] D fun u M' D'=>u=v∧M'=[]∧D'=[]
theorem zL{fo:Operand}{ags:Array Operand}{ts:Array TypeId}{f:FuncId}{cap:Array Value}{vs:List Value}{D1:List DA}{v:Value}(hd:Nat.blt d n=true)(hfo:ev e fo=some (.func (.func f) #[] cap))(has:ags.toList.mapM (ev e)=some vs)
  (hct:di P f (vs.toArray++cap) D1 v) (hD: ∀ d∈D1,d∈D) (next:cG P n c ops l k Q ((d,v)::e) M D):cL P n c ops (some d) (.call {callee:= .value fo,args:=ags,argTypes:=ts}) T l k Q e M D:=
 tB (M1:=[]) (M2:=M) hd hfo has hct rfl hD (by rintro v M' D' ⟨rfl,rfl,rfl⟩;exact next)
end rules

theorem cQ{D:List DA}: ∀ x∈([]:List DA),x∈D:=fun _ h=>by cases h
theorem cd{D D1:List DA}{d:DA}(j:Nat)(hj:D[j]? =some d)(h: ∀ x∈D1,x∈D): ∀ x∈d::D1,x∈D:=by
 intro x hx
 rcases List.mem_cons.1 hx with rfl|hx
 ·exact List.mem_of_getElem? hj
 ·exact h x hx
theorem cO{D:List DA}{d:DA}(j:Nat)(hj:D[j]? =some d): ∀ x∈[d],x∈D:=cd j hj cQ
theorem dP{D:List DA}{d d':DA}(j j':Nat)(hj:D[j]? =some d)(hj':D[j']? =some d'): ∀ x∈[d,d'],x∈D:=cd j hj (cO j' hj')
theorem aA{D D2:List DA}(h: ∀ d∈D2,d∈D:=by first|exact cO 0 rfl|exact cO 1 rfl|exact cO 2 rfl|exact cO 3 rfl|exact cO 4 rfl|exact cO 5 rfl|exact cO 6 rfl|exact cO 7 rfl|exact cO 8 rfl|exact cO 9 rfl|exact cO 10 rfl|exact cO 11 rfl|exact cO 12 rfl|exact cO 13 rfl): ∀ d∈D2,d∈D:=h
theorem aB{D D2:List DA}(h: ∀ d∈D2,d∈D:=by first|exact cd 0 rfl aA|exact cd 1 rfl aA|exact cd 2 rfl aA|exact cd 3 rfl aA|exact cd 4 rfl aA|exact cd 5 rfl aA|exact cd 6 rfl aA|exact cd 7 rfl aA|exact cd 8 rfl aA|exact cd 9 rfl aA|exact cd 10 rfl aA|exact cd 11 rfl aA): ∀ d∈D2,d∈D:=h
noncomputable def tb(p:Prop):Bool:= @decide p (Classical.propDecidable p)
theorem df{p:Prop}(h:p):tb p=true:=by unfold tb;exact @decide_eq_true p (Classical.propDecidable p) h
theorem tb_f{p:Prop}(h: ¬ p):tb p=false:=by unfold tb;exact @decide_eq_false p (Classical.propDecidable p) h
theorem yS{p:Prop}:tb p=true↔p:=by unfold tb;exact @decide_eq_true_iff p (Classical.propDecidable p)
theorem fl{b:Bool}{p:Prop}(h:b=true↔p):b=tb p:=by
  cases b with
  |true=>exact(df (h.1 rfl)).symm
  |false=>exact(tb_f (fun hp=>by have:=h.2 hp;cases this)).symm
theorem yI{b:Bool}{p:Prop}(h:b=true↔p):Value.bool b=Value.bool (tb p):=congrArg Value.bool (fl h)

section rules
variable {P:Program} {n:Nat} {F:List Nat} {c:Ctx F} {ops:Array Oper} {d:Nat} {T:TypeId} {l:List Oper} {k:List KI} {Q:cu} {e:dF} {M:List HA} {D:List DA}


theorem yL{x y:Operand}{S S':TypeId}{kd:IntKind}{i j:Nat}(hd:Nat.blt d n=true)(hx:ev e x=some (.int kd (i:Nat)))(hy:ev e y=some (.int kd (j:Nat)))(next:cG P n c ops l k Q ((d, .bool (decide (i<j)))::e) M D):
  cL P n c ops (some d) (.binOp .lss S x y S') T l k Q e M D:=
 sD hd hx hy (fun w=>by simp [binOp,Op.intCmp]) next
theorem sM{x y:Operand}{S S':TypeId}{kd:IntKind}{i j:Nat}(hd:Nat.blt d n=true)(hx:ev e x=some (.int kd (i:Nat)))(hy:ev e y=some (.int kd (j:Nat)))(next:cG P n c ops l k Q ((d, .bool (decide (j<i)))::e) M D):
  cL P n c ops (some d) (.binOp .gtr S x y S') T l k Q e M D:=
 sD hd hx hy (fun w=>by simp [binOp,Op.intCmp]) next
theorem vE{x y:Operand}{S S':TypeId}{kd:IntKind}{i j:Nat}(hd:Nat.blt d n=true)(hx:ev e x=some (.int kd (i:Nat)))(hy:ev e y=some (.int kd (j:Nat)))(next:cG P n c ops l k Q ((d, .bool (decide (i=j)))::e) M D):
    cL P n c ops (some d) (.binOp .eql S x y S') T l k Q e M D:=
  sD hd hx hy (fun w=>by
    simp only [binOp,Op.intCmp]
    by_cases h:i=j
    · subst h;simp
    · have h2: ¬ ((i:Int)=(j:Int)):=by omega
      simp [h,h2]) next
theorem gT{x y:Operand}{S S':TypeId}{kd:IntKind}{i j:Nat}(hd:Nat.blt d n=true)(hx:ev e x=some (.int kd (i:Nat)))(hy:ev e y=some (.int kd (j:Nat)))(next:cG P n c ops l k Q ((d, .bool (decide (i≠j)))::e) M D):
    cL P n c ops (some d) (.binOp .neq S x y S') T l k Q e M D:=
  sD hd hx hy (fun w=>by
    simp only [binOp,Op.intCmp]
    by_cases h:i=j
    · subst h;simp
    · have h2: ¬ ((i:Int)=(j:Int)):=by omega
      simp [h,h2]) next
theorem vU{m:Int}(h1: -9223372036854775808≤m)(h2:m≤9223372036854775807):IntKind.i64.wrap m=m:=IntWalk.i64_in _ ⟨h1,h2⟩
theorem wx{x y:Operand}{S S':TypeId}{kd:IntKind}{m m':Int}(hd:Nat.blt d n=true)(hx:ev e x=some (.int kd m))(hy:ev e y=some (.int kd m'))(h0:m'≠0)(next:cG P n c ops l k Q ((d, .int kd (m.tmod m'))::e) M D):cL P n c ops (some d) (.binOp .rem S x y S') T l k Q e M D:=
 sD hd hx hy (fun w=>by simp [binOp,Op.intDiv,h0]) next
theorem zN{x:Operand}{S S':TypeId}{i:Nat}(hd:Nat.blt d n=true)(hx:ev e x=some (.int .i64 (i:Nat)))(hi:i<9223372036854775807)(next:cG P n c ops l k Q ((d, .int .i64 ((i+1:Nat):Int))::e) M D):
  cL P n c ops (some d) (.binOp .add S x (.const (.int .i64 1)) S') T l k Q e M D:=by
 refine qa hd hx Z ?_
 rw [vU aC aC]
 exact next
theorem xN{x y:Operand}{S S':TypeId}{m m':Int}{s:Int}(hd:Nat.blt d n=true)(hx:ev e x=some (.int .i64 m))(hy:ev e y=some (.int .i64 m'))(hs:m+m'=s)(h1: -9223372036854775808≤s)(h2:s≤9223372036854775807)(next:cG P n c ops l k Q ((d, .int .i64 s)::e) M D):
  cL P n c ops (some d) (.binOp .add S x y S') T l k Q e M D:=by
 refine qa hd hx hy ?_
 rw [hs,vU h1 h2]
 exact next
theorem xQ{x y:Operand}{S S':TypeId}{m m':Int}{s:Int}(hd:Nat.blt d n=true)(hx:ev e x=some (.int .i64 m))(hy:ev e y=some (.int .i64 m'))(hs:m - m'=s)(h1: -9223372036854775808≤s)(h2:s≤9223372036854775807)(next:cG P n c ops l k Q ((d, .int .i64 s)::e) M D):
  cL P n c ops (some d) (.binOp .sub S x y S') T l k Q e M D:=by
 refine qb hd hx hy ?_
 rw [hs,vU h1 h2]
 exact next


theorem zY{s:Nat}{b:Bool}(hs:cz e s=some (.bool b))(ht:b=true→cG P n c ops l k Q ((s, .bool true)::e) M D)(hf:b=false→cG P n c ops l k Q ((s, .bool false)::e) M D):cG P n c ops l k Q e M D:=by
  intro a w hfit
  cases b with
  |true=>exact ht rfl a w (hfit.le (eC hs (EnvLe.refl e)))
  |false=>exact hf rfl a w (hfit.le (eC hs (EnvLe.refl e)))
theorem zW{s:Nat}{r:Prop}[Decidable r](hs:cz e s=some (.bool (decide r)))(ht:r→cG P n c ops l k Q ((s, .bool true)::e) M D)(hf: ¬ r→cG P n c ops l k Q ((s, .bool false)::e) M D):cG P n c ops l k Q e M D:=
 zY hs (fun h=>ht (of_decide_eq_true h)) (fun h=>hf (of_decide_eq_false h))
theorem gV{s:Nat}{b:Bool}(hs:cz e s=some (.bool b))(hb:b=true)(ht:cG P n c ops l k Q ((s, .bool true)::e) M D):cG P n c ops l k Q e M D:=
 zY hs (fun _=>ht) (fun h=>by rw [hb]at h;cases h)
theorem wL{s:Nat}{b:Bool}(hs:cz e s=some (.bool b))(hb:b=false)(ht:cG P n c ops l k Q ((s, .bool false)::e) M D):cG P n c ops l k Q e M D:=
 zY hs (fun h=>by rw [hb]at h;cases h) (fun _=>ht)
theorem wP{x:Operand}{p q:Code}{b:Bool}(hx:ev e x=some (.bool b))(hb:b=true)(h:Run P n c (.code p::k) Q e M D):Run P n c (.code (.cond x p q)::k) Q e M D:=
 yC hx (fun _=>h) (fun h'=>by rw [hb]at h';cases h')
theorem xA{x:Operand}{p q:Code}{b:Bool}(hx:ev e x=some (.bool b))(hb:b=false)(h:Run P n c (.code q::k) Q e M D):Run P n c (.code (.cond x p q)::k) Q e M D:=
 yC hx (fun h'=>by rw [hb]at h';cases h') (fun _=>h)
theorem ix{α:Type}{x:Code}(E:α→dF)(MM:α→List HA)(DD:α→List DA)(h1: ∀ K:Act→World→Prop,(∀ y a w,Fits n c (E y) (MM y) (DD y) a w→K a w)→Run P n c (.code x:: .cont K::k) Q e M D)
  (h2: ∀ y,Run P n c k Q (E y) (MM y) (DD y)):Run P n c (.code x::k) Q e M D:=by
 intro a w hf
 have:=h1 (Kp P k Q .normal) (fun y a w h=>h2 y a w h) a w hf
 have h3:Kp P (.cont (Kp P k Q .normal)::k) Q=Kp P k Q:=by
  funext e a w
  cases e<;>rfl
 show x.wp P (Kp P k Q) a w
 rw [←h3]
 exact this
theorem uT{α:Type}{x:Code}(I:α→Prop)(ch:α→dF)(h1: ∀ K:Act→World→Prop,(∀ y,I y→ ∀ a w,Fits n c (ch y++e) M D a w→K a w)→Run P n c (.code x:: .cont K::k) Q e M D)
  (h2: ∀ y,I y→Run P n c k Q (ch y++e) M D):Run P n c (.code x::k) Q e M D:=
 ix (α:={y:α//I y}) (fun y=>ch y.1++e) (fun _=>M) (fun _=>D) (fun K hK=>h1 K (fun y hy=>hK ⟨y,hy⟩)) (fun y=>h2 y.1 y.2)
theorem wy{M':List HA}(hM:List.Sublist M' M)(h:Run P n c k Q e M' D):Run P n c k Q e M D:=by
  intro a w hf
  refine h a w (hf.world ?_)
  have: ∀ {M M':List HA},List.Sublist M' M→FitsW c M D w→FitsW c M' D w:=by
    intro M M' hs
    induction hs with
    |slnil=>exact id
    | @cons M1 M2 x hs ih=>exact fun h=>ih h.tail
    | @cons_cons M1 M2 x hs ih=>
      intro h
      have hsub:=gS hs
      have hsub2:List.Sublist (cP (x::M1)) (cP (x::M2)):=hsub.append_left _
      exact⟨h.chg,fun y hy=>h.own y ((hs.cons_cons x).mem hy),h.nodup.sublist hsub2,fun b hb=>h.foot b (hsub2.mem hb),fun d hd=>d.mono (fun q hq=>⟨hq.1,hq.2.1,fun h'=>hq.2.2 (hsub2.mem h')⟩) (fun _ _=>rfl) (h.dat d hd)⟩
  exact this hM hf.toFitsW

def iP:List HA→List HA→Prop
  |[],_=>True
  |x::M',M=> ∃i,M[i]? =some x∧iP M' (M.eraseIdx i)
theorem zQ(M:List HA):iP [] M:=trivial
theorem zB{x:HA}{M M':List HA}(i:Nat)(hi:M[i]? =some x)(h:iP M' (M.eraseIdx i)):iP (x::M') M:=⟨i,hi,h⟩
theorem uI: ∀ (M:List HA),iP M M
  |[]=>trivial
  |x::M=>⟨0,rfl,uI M⟩
theorem wQ{α:Type}{M:List α}{i:Nat}{x:α}(h:M[i]? =some x):M.Perm (x::M.eraseIdx i):=by
 have hlt:=(List.getElem?_eq_some_iff.1 h).1
 have hx:=(List.getElem?_eq_some_iff.1 h).2
 have:M=M.take i++x::M.drop (i+1):=by rw [←hx,List.getElem_cons_drop,List.take_append_drop]
 rw [List.eraseIdx_eq_take_drop_succ]
 conv=>lhs;rw [this]
 exact List.perm_middle
theorem qe: ∀ {M' M:List HA},iP M' M→ ∃N,M.Perm (M'++N)
  |[],M,_=>⟨M, .refl _⟩
  |x::M',M,⟨i,hi,h⟩=>by
    obtain⟨N,hN⟩:=qe h
    exact⟨N,(wQ hi).trans (hN.cons x)⟩
theorem yD{M':List HA}(hM:iP M' M)(h:Run P n c k Q e M' D):Run P n c k Q e M D:=by
 obtain⟨N,hN⟩:=qe hM
 exact rC hN (wy (List.sublist_append_left M' N) h)
theorem vJ{K:Act→World→Prop}{e':dF}{M':List HA}{D':List DA}(hK: ∀ a w,Fits n c e' M' D' a w→K a w)(he:EnvLe e' e)(hM:iP M' M)(hD: ∀ d∈D',d∈D):
  Run P n c (.cont K::k) Q e M D:=yD hM (Cb hK he rfl hD)
theorem j7{α:Type}{x:Code}(I:α→Prop)(ch:α→dF)(MM:α→List HA)(DD:α→List DA)(h1: ∀ K:Act→World→Prop,(∀ y,I y→ ∀ a w,Fits n c (ch y++e) (MM y) (DD y) a w→K a w)→Run P n c (.code x:: .cont K::k) Q e M D)
  (h2: ∀ y,I y→Run P n c k Q (ch y++e) (MM y) (DD y)):Run P n c (.code x::k) Q e M D:=
 ix (α:={y:α//I y}) (fun y=>ch y.1++e) (fun y=>MM y.1) (fun y=>DD y.1) (fun K hK=>h1 K (fun y hy=>hK ⟨y,hy⟩)) (fun y=>h2 y.1 y.2)
theorem xZ{s:Nat}{p q:Code}{r:Prop}[Decidable r](hx:cz e s=some (.bool (decide r)))(ht:r→Run P n c (.code p::k) Q ((s, .bool true)::e) M D)(hf: ¬ r→Run P n c (.code q::k) Q ((s, .bool false)::e) M D):
  Run P n c (.code (.cond (.tmp s) p q)::k) Q e M D:=
 yC (x:= .tmp s) hx (fun hb=>by
  have hr:=of_decide_eq_true hb
  exact gR (eC (by rw [hx];simp [hr]) (EnvLe.refl _)) (ht hr)) (fun hb=>by
  have hr:=of_decide_eq_false hb
  exact gR (eC (by rw [hx];simp [hr]) (EnvLe.refl _)) (hf hr))
theorem yV{ps:Array (Nat×Operand)}{vs:List (Nat×Value)}{cs:List Value}(hd:Nat.blt d n=true)(hv:ps.toList.mapM (fun q=>(ev e q.2).map (q.1, ·))=some vs)(hb:P.built T vs=some cs.toArray)
    (next:cG P n c ops l k Q ((d, .agg cs.toArray)::e) M D) {T':TypeId}:cL P n c ops (some d) (.build T ps) T' l k Q e M D:=by
  refine xR hd (fun a w hfit=>?_) next
  have key: ∀ (xs:List (Nat×Operand)) (us:List (Nat×Value)),xs.mapM (fun q=>(ev e q.2).map (q.1, ·))=some us→xs.map (fun q=>(q.1,a.eval q.2))=us:=by
    intro xs
    induction xs with
    |nil=>intro us h;simp at h;simp [h]
    |cons x xs ih=>
      intro us h
      rw [List.mapM_cons]at h
      cases hx:ev e x.2 with
      |none=>simp [hx]at h
      |some u=>
        cases hy:xs.mapM (fun q=>(ev e q.2).map (q.1, ·))with
        |none=>simp [hx,hy]at h
        |some ys=>
          simp [hx,hy]at h
          subst h
          simp [hfit.ev hx,ih ys hy]
  have h2:=key ps.toList vs hv
  have h3:(ps.map fun(i,x)=>(i,a.eval x)).toList=vs:=by simpa using h2
  have hr:=run_build (P:=P) w T (ps.map fun(i,x)=>(i,a.eval x)) cs.toArray (by rw [h3];exact hb)
  simp only [execOp,dH,Sem.run_bind,hr,Result.andThen_ok,Sem.run_pure]

def CtR(P:Program)(f:FuncId)(args:Array Value)(D:List DA)(R:Value→List DA→Prop):Prop:=Ct P f args [] D fun u M' D'=>M'=[]∧R u D'
theorem yE{fo:Operand}{ags:Array Operand}{ts:Array TypeId}{f:FuncId}{cap:Array Value}{vs:List Value}{D1:List DA}{R:Value→List DA→Prop}(hd:Nat.blt d n=true)(hfo:ev e fo=some (.func (.func f) #[] cap))(has:ags.toList.mapM (ev e)=some vs)
  (hct:CtR P f (vs.toArray++cap) D1 R) (hD: ∀ d∈D1,d∈D) (next: ∀ v D',R v D'→cG P n c ops l k Q ((d,v)::e) M (D'++D)):cL P n c ops (some d) (.call {callee:= .value fo,args:=ags,argTypes:=ts}) T l k Q e M D:=
 tB (M1:=[]) (M2:=M) hd hfo has hct rfl hD (by rintro v M' D' ⟨rfl,hR⟩;exact next v D' hR)


theorem BH{α:Type}{x:Code}(m:Nat)(ch:α→dF)(MM:α→List HA)(DD:α→List DA)(μ:α→Nat)(x0:α)(he:EnvLe (ch x0) e)(hM:MM x0=M)(hD:DD x0=D)
    (hr: ∀ (y:α) (K:Act→World→Prop),(∀ z,μ z<μ y→ ∀ a w,Fits n c (ch z++e.drop m) (MM z) (DD z) a w→K a w)→Run P n c (.code x:: .cont K::k) Q (ch y++e.drop m) (MM y) (DD y))
    (hm:EnvLe (e.drop m) e):Run P n c (.code (.loop x)::k) Q e M D:=by
  refine Ca (fun y=>ch y++e.drop m) MM DD μ x0 ?_ hM hD hr
  have: ∀ (e1 e2:dF),EnvLe e1 e→EnvLe e2 e→EnvLe (e1++e2) e:=by
    intro e1
    induction e1 with
    |nil=>exact fun e2 _ h=>h
    |cons p e1 ih=>
      intro e2 h1 h2 t v ht
      rw [List.cons_append,vG]at ht
      split at ht
      · rename_i hpt
        exact h1 t v (by rw [vG,if_pos hpt];exact ht)
      · rename_i hpt
        by_cases hin: ∃u,cz e1 t=some u
        · obtain⟨u,hu⟩:=hin
          have h3:=h1 t u (by rw [vG,if_neg hpt];exact hu)
          have h4:cz (e1++e2) t=some u:=by
            clear ih h1 ht h3
            induction e1 with
            |nil=>simp [cz]at hu
            |cons q e1 ih=>
              rw [List.cons_append,vG]
              rw [vG]at hu
              split
              · rename_i hq;rw [if_pos hq]at hu;exact hu
              · rename_i hq;rw [if_neg hq]at hu;exact ih hu
          rw [h4]at ht
          cases ht
          exact h3
        · have h4:cz (e1++e2) t=cz e2 t:=by
            clear ih h1 ht
            induction e1 with
            |nil=>rfl
            |cons q e1 ih=>
              rw [List.cons_append,vG]
              split
              · rename_i hq
                exact absurd ⟨q.2,by rw [vG,if_pos hq]⟩ hin
              · rename_i hq
                refine ih ?_
                rintro ⟨u,hu⟩
                exact hin ⟨u,by rw [vG,if_neg hq];exact hu⟩
          exact h2 t v (by rw [←h4];exact ht)
  exact this _ _ he hm

theorem yB{α:Type}{x:Code}(m:Nat)(I:α→Prop)(ch:α→dF)(MM:α→List HA)(DD:α→List DA)(μ:α→Nat)(x0:α)(hI:I x0)(he:EnvLe (ch x0) e)(hM:MM x0=M)(hD:DD x0=D)
  (hr: ∀ y,I y→ ∀ K:Act→World→Prop,(∀ z,I z→μ z<μ y→ ∀ a w,Fits n c (ch z++e.drop m) (MM z) (DD z) a w→K a w)→Run P n c (.code x:: .cont K::k) Q (ch y++e.drop m) (MM y) (DD y))
  (hm:EnvLe (e.drop m) e):Run P n c (.code (.loop x)::k) Q e M D:=
 BH (α:={y:α//I y}) m (fun y=>ch y.1) (fun y=>MM y.1) (fun y=>DD y.1) (fun y=>μ y.1) ⟨x0,hI⟩ he hM hD (fun y K hK=>hr y.1 y.2 K (fun z hz hlt=>hK ⟨z,hz⟩ hlt)) hm
theorem xX{α:Type}{x:Code}(m:Nat)(I:α→Prop)(ch:α→dF)(μ:α→Nat)(x0:α)(hI:I x0)(he:EnvLe (ch x0) e)
  (hr: ∀ y,I y→ ∀ K:Act→World→Prop,(∀ z,I z→μ z<μ y→ ∀ a w,Fits n c (ch z++e.drop m) M D a w→K a w)→Run P n c (.code x:: .cont K::k) Q (ch y++e.drop m) M D)
  (hm:EnvLe (e.drop m) e):Run P n c (.code (.loop x)::k) Q e M D:=
 yB m I ch (fun _=>M) (fun _=>D) μ x0 hI he rfl rfl hr hm
theorem j9{α:Type}{x:Code}(m:Nat)(I:α→Prop)(ch:α→dF)(MM:α→List HA)(μ:α→Nat)(x0:α)(hI:I x0)(he:EnvLe (ch x0) e)(hM:MM x0=M)
  (hr: ∀ y,I y→ ∀ K:Act→World→Prop,(∀ z,I z→μ z<μ y→ ∀ a w,Fits n c (ch z++e.drop m) (MM z) D a w→K a w)→Run P n c (.code x:: .cont K::k) Q (ch y++e.drop m) (MM y) D)
  (hm:EnvLe (e.drop m) e):Run P n c (.code (.loop x)::k) Q e M D:=
 yB m I ch MM (fun _=>D) μ x0 hI he hM rfl hr hm


theorem FitsW.freeze{h:HA}{M':List HA}{D':List DA}{w:World}(hF: ∀ b∈h.foot,b∉F)(hw:FitsW c (h::M') D w)(hd: ∀ ok:Nat→Prop,h.holds w→(∀ b∈h.foot,ok b)→(∀ d∈D,d.p w ok)→ ∀ d∈D',d.p w ok):FitsW c M' (D'++D) w:=by
 have ht:=hw.tail
 refine ht.data fun d hd'=>?_
 rcases List.mem_append.1 hd' with h1|h1
 ·refine hd (c.now M' w) (hw.own h List.mem_cons_self) (fun b hb=>?_) ht.dat d h1
  have hin:b∈cP (h::M'):=List.mem_append_left _ hb
  refine⟨?_,hw.lt b hin,fun h2=>(List.nodup_append.1 hw.nodup).2.2 b hb b h2 Z⟩
  rcases hw.foot b hin with h2|h2
  ·exact absurd h2 (hF b hb)
  ·exact .inr h2
 ·exact ht.dat d h1
theorem fC{h:HA}{M':List HA}(D':List DA)(hF: ∀ b∈h.foot,b∉F)(hM:M.Perm (h::M'))(hd: ∀ (w:World) (ok:Nat→Prop),h.holds w→(∀ b∈h.foot,ok b)→(∀ d∈D,d.p w ok)→ ∀ d∈D',d.p w ok)
  (next:cG P n c ops l k Q e M' (D'++D)):cG P n c ops l k Q e M D:=
 fun a w hf=>next a w (hf.world ((hf.toFitsW.perm hM).freeze hF (hd w)))
theorem uJ{D':List DA}(hd: ∀ (w:World) (ok:Nat→Prop),(∀ d∈D,d.p w ok)→ ∀ d∈D',d.p w ok)(next:Run P n c k Q e M D'):Run P n c k Q e M D:=
 fun a w hf=>next a w (hf.world (hf.toFitsW.data fun d hd'=>hd w _ hf.dat d hd'))
theorem fm{D':List DA}(hd: ∀ (w:World) (ok:Nat→Prop),(∀ d∈D,d.p w ok)→ ∀ d∈D',d.p w ok)(next:cG P n c ops l k Q e M D'):cG P n c ops l k Q e M D:=
 fun a w hf=>next a w (hf.world (hf.toFitsW.data fun d hd'=>hd w _ hf.dat d hd'))
theorem qD{p:Prop}(hp: ∀ (w:World) (ok:Nat→Prop),(∀ d∈D,d.p w ok)→p)(next:p→Run P n c k Q e M D):Run P n c k Q e M D:=fun a w hf=>next (hp w _ hf.dat) a w hf
theorem Cj{p:Prop}(hp: ∀ (w:World) (ok:Nat→Prop),(∀ d∈D,d.p w ok)→p)(next:p→cG P n c ops l k Q e M D):cG P n c ops l k Q e M D:=fun a w hf=>next (hp w _ hf.dat) a w hf
theorem FitsW.cons0{h:HA}{w:World}(hf:h.foot=[])(hh:h.holds w)(hw:FitsW c M D w):FitsW c (h::M) D w:=by
 have he:cP (h::M)=cP M:=by simp [cP,hf]
 refine⟨hw.chg,?_,by rw [he];exact hw.nodup,by rw [he];exact hw.foot,fun d hd=>d.mono (fun q hq=>⟨hq.1,hq.2.1,by rw [he];exact hq.2.2⟩) (fun _ _=>rfl) (hw.dat d hd)⟩
 intro x hx
 rcases List.mem_cons.1 hx with rfl|hx
 ·exact hh
 ·exact hw.own x hx
theorem wT(T sz:Nat)(next:Run P n c k Q e (.row none 0 0 T sz []::M) D):Run P n c k Q e M D:=
 fun a w hf=>next a w (hf.world (hf.toFitsW.cons0 rfl ⟨by simp, .inl ⟨rfl,rfl⟩⟩))

theorem FitsW.swapAt{w:World}(h:FitsW c M D w){i:Nat}{x x':HA}(hi:M[i]? =some x){w':World}(hx:x'.holds w')(hc:Chg x.foot w w')(hn:x'.foot.Nodup)(hf: ∀ b∈x'.foot,b∈x.foot∨w.heap.size≤b):FitsW c (M.set i x') D w':=by
 have hlt:=(List.getElem?_eq_some_iff.1 hi).1
 have hM:M=M.take i++x::M.drop (i+1):=by
  have:=(List.getElem?_eq_some_iff.1 hi).2
  rw [←this,List.getElem_cons_drop,List.take_append_drop]
 have hM':M.set i x'=M.take i++x'::M.drop (i+1):=List.set_eq_take_append_cons_drop .. |>.trans (by rw [if_pos hlt])
 have h1:FitsW c ([x]++(M.take i++M.drop (i+1))) D w:=h.perm (by
  conv=>lhs;rw [hM]
  exact List.perm_middle)
 have h2:=h1.swap (M1':=[x']) (D':=[]) (by simpa [cP]using hc) (by simpa using hx) (by simpa [cP]using hn) (by intro q hq;simpa [cP]using hf q (by simpa [cP]using hq)) aJ
 rw [hM']
 exact(by simpa using h2:FitsW c (x'::(M.take i++M.drop (i+1))) D w').perm List.perm_middle.symm
theorem mE{w:World}{S E:TypeId}{i:TypeInfo}(hu:P.underlying S=some (.slice E))(hi:P.info? E=some i){A:Option Addr}{m cap cq:Nat}{xs:List Value}(h:w.ownsRow 0 E i.size (.slice A m cap) m xs)(ty:TypeId):
  (Builtin.append_ #[S,S] ty #[.slice A m cap, .slice none 0 cq]).run P w= .ok (.slice A m cap) w:=by
 rcases h.2 with ⟨h1,_⟩|⟨g,cap',cur,hv,_,_,hnc,_⟩
 ·injection h1 with h1 h2 h3
  subst h1;subst h2;subst h3
  simp [Builtin.append_,run_underlying hu,xK hi,Builtin.lenOf,Builtin.firstCells]
 ·injection hv with h1 _ h3
  subst h1;subst h3
  simp [Builtin.append_,run_underlying hu,xK hi,Builtin.lenOf,Builtin.firstCells,hnc,storeCells]
theorem Ck{w:World}{E sz:Nat}{v:Value}{m:Nat}{xs:List Value}(h:w.ownsRow 0 E sz v m xs): ∃A cap,v= .slice A m cap:=by
 rcases h.2 with ⟨rfl,rfl⟩|⟨g,cap,cur,rfl,_⟩
 ·exact⟨none,0,rfl⟩
 ·exact⟨_,cap,rfl⟩
theorem wz(i:Nat){x y:Operand}{A:Option Addr}{m cap:Nat}{S E sz by_:Nat}{xs news:List Value}{q cq:Nat}{B:Option Addr}(hS:cS P S E sz by_)(hd:Nat.blt d n=true)(hx:ev e x=some (.slice A m cap))(hy:ev e y=some (.slice B q cq))(hi:M[i]? =some (.row A m cap E sz xs))
    (hl:news.length=q*sz) (hsrc: ∀ w,FitsW c M D w→((q=0∧B=none)∨ ∃b,B=some b∧ ∀ j u,news[j]? =some u→w.cell? (b.add j)=some u)) (h1: ∀ u∈news,u.oneCell'=true) (hsz:m+q≤maxLen) (hby:(m+q)*by_≤140737488355328)
    (next: ∀ A' cap',((∀ a,A=some a→c.w0.heap.size≤a.block)→ ∀ a,A'=some a→c.w0.heap.size≤a.block)→cG P n c ops l k Q ((d, .slice A' (m+q) cap')::e) (M.set i (.row A' (m+q) cap' E sz (xs++news))) D):
    cL P n c ops (some d) (.call {callee:= .builtin .append,args:= #[x,y],argTypes:= #[S,S]}) T l k Q e M D:=by
  obtain⟨ti,z,hu,hinf,hs1,hb1,hz,hzs,hsz0⟩:=hS
  intro a w hf
  have hown:w.ownsRow 0 E sz (.slice A m cap) m xs:=hf.toFitsW.mem hi
  have key: ∃A' cap' w',(Builtin.append_ #[S,S] T #[.slice A m cap, .slice B q cq]).run P w= .ok (.slice A' (m+q) cap') w'∧w'.ownsRow 0 E sz (.slice A' (m+q) cap') (m+q) (xs++news)∧
      Chg (HA.row A m cap E sz xs).foot w w'∧(∀ b∈(HA.row A' (m+q) cap' E sz (xs++news)).foot,b∈(HA.row A m cap E sz xs).foot∨w.heap.size≤b):=by
    have hfoot: ∀ (A:Option Addr) (m cap:Nat) (xs:List Value),(HA.row A m cap E sz xs).foot=((Value.slice A m cap).ownBlock).toList:=by
      intro A m cap xs
      cases A<;>rfl
    rcases hsrc w hf.toFitsW with ⟨rfl,rfl⟩|⟨b,rfl,hcells⟩
    · have hn:news=[]:=List.eq_nil_of_length_eq_zero bq
      subst hn
      subst hs1
      exact⟨A,cap,w,mE hu hinf hown T,by simpa using hown,Chg.refl _ _,fun b hb=> .inl (by simpa [HA.foot]using hb)⟩
    · obtain⟨v',w',hrun,h2,h3,_,h5⟩:=run_append_own_at (P:=P) w 0 S T E ti z sz by_ hu hinf hz hs1 hb1 hzs hsz0 (.slice A m cap) m xs hown b q cq news hl hcells h1 hsz hby (Nat.zero_le _)
      obtain⟨A',cap',rfl⟩:=Ck h2
      refine⟨A',cap',w',hrun,h2,?_,?_⟩
      · rw [hfoot]
        refine⟨h3.os,h3.tape,h3.output,h3.size,fun k hk hF=>h3.block k hk (fun e=>hF ?_)⟩
        rw [←e];simp
      · intro b' hb'
        rw [hfoot]at hb'⊢
        rcases h5 with h5|h5
        · rw [h5]at hb'
          exact .inl hb'
        · rw [h5]at hb'
          simp at hb'
          exact .inr aC
  obtain⟨A',cap',w',hrun,hown',hchg,hft⟩:=key
  unfold Oper.wp
  have hr2:(execOp a.eval (dH (some d) (.call {callee:= .builtin .append,args:= #[x,y],argTypes:= #[S,S]}) T)).run P w= .ok (.value (.slice A' (m+q) cap')) w':=by
    simp [execOp,dH,resolve,invoke,builtin,hf.ev hx,hf.ev hy,hrun]
  rw [hr2]
  refine next A' cap' (fun hA a ha=>?_) _ w' ((hf.world (hf.toFitsW.swapAt hi (x':= .row A' (m+q) cap' E sz (xs++news)) hown' hchg ?_ hft)).put hd _)
  · subst ha
    rcases hft a.block br with h|h
    · cases A with
      |none=>simp [HA.foot]at h
      |some a0=>
        simp only [HA.foot,List.mem_singleton]at h
        rw [h];exact hA a0 rfl
    · exact Nat.le_trans hf.chg.size h
  · cases A'<;>simp [HA.foot]
theorem kA(i:Nat){x y:Operand}{A:Option Addr}{m cap:Nat}{S E sz by_:Nat}{xs news:List Value}{q cq:Nat}{B:Option Addr}(hS:cS P S E sz by_)(hd:Nat.blt d n=true)(hx:ev e x=some (.slice A m cap))(hy:ev e y=some (.slice B q cq))(hi:M[i]? =some (.row A m cap E sz xs))
  (hl:news.length=q*sz) (hsrc: ∀ w,FitsW c M D w→((q=0∧B=none)∨ ∃b,B=some b∧ ∀ j u,news[j]? =some u→w.cell? (b.add j)=some u)) (h1: ∀ u∈news,u.oneCell'=true) (hsz:m+q≤maxLen) (hby:(m+q)*by_≤140737488355328)
  (next: ∀ A' cap',cG P n c ops l k Q ((d, .slice A' (m+q) cap')::e) (M.set i (.row A' (m+q) cap' E sz (xs++news))) D):
  cL P n c ops (some d) (.call {callee:= .builtin .append,args:= #[x,y],argTypes:= #[S,S]}) T l k Q e M D:=
 wz i hS hd hx hy hi hl hsrc h1 hsz hby (fun A' cap' _=>next A' cap')
theorem Cl(vs:List Value)(v:Value)(hv:v.cells=vs.toArray)(zs:Array Value)(hz:zs.size=vs.length):Instr.fill (fun i=>some (i*vs.length,vs.length)) zs [(0,v)]=some vs.toArray:=by
  simp only [Instr.fill,hv,List.size_toArray,Nat.zero_mul,Nat.zero_add,hz]
  rw [if_neg aJ]
  congr 1
  obtain⟨zl⟩:=zs
  simp only [List.size_toArray]at hz
  have: ∀ (us pre zl:List Value) (k:Nat),zl.length=us.length→pre.length=k→List.foldl (fun(cs:Array Value) (x:Value×Nat)=>cs.setIfInBounds x.2 x.1) (pre++zl).toArray (us.zipIdx k)=(pre++us).toArray:=by
    intro us
    induction us with
    |nil=>intro pre zl k h1 _;simp at h1;simp [h1]
    |cons u us ih=>
      intro pre zl k h1 h2
      match zl,h1 with
      |z::zl,h1=>
        simp only [List.zipIdx_cons,List.foldl_cons]
        have:(pre++z::zl).toArray.setIfInBounds k u=((pre++[u])++zl).toArray:=by
          subst h2
          simp
        rw [this,ih (pre++[u]) zl (k+1) (by simpa using h1) (by simp [h2])]
        simp
  have h:=this vs [] zl 0 hz rfl
  simpa [←Array.foldl_toList]using h
theorem zM{x:Operand}{v:Value}{vs:List Value}{S E sz by_:Nat}(hS:cS P S E sz by_)(hd:Nat.blt d n=true)(hx:ev e x=some v)(hv:v.cells=vs.toArray)(hsz:vs.length=sz)(hs2:Nat.ble sz 16777216=true)
    (next: ∀ b,cG P n c ops l k Q ((d, .slice (some ⟨b,0,none⟩) 1 1)::e) (.blk b vs E::M) D):cL P n c ops (some d) (.buildSlice S 1 #[(0,x)]) T l k Q e M D:=by
  obtain⟨ti,z,hu,hinf,hs1,hb1,hz,hzs,hsz0⟩:=hS
  intro a w hf
  have hle: ¬ (1*sz>2^24):=by
                                       have:sz≤16777216:=by simpa using hs2
                                       omega
  have hne: ¬ (1*sz=0):=by omega
  have hfill:=Cl vs v hv ((Array.range (1*sz)).map (z.cells[· %z.cells.size]!)) (by simp [hsz])
  rw [hsz]at hfill
  have hrun:(execOp a.eval (dH (some d) (.buildSlice S 1 #[(0,x)]) T)).run P w= .ok (.value (.slice (some ⟨w.heap.size,0,none⟩) 1 1)) (w.alloc (.cells vs.toArray E (0,0))):=by
    have hb:(Instr.buildSlice S 1 #[(0,a.eval x)]).run P w= .ok (.slice (some ⟨w.heap.size,0,none⟩) 1 1) (w.alloc (.cells vs.toArray E (0,0))):=by
      unfold Instr.buildSlice
      simp only [Sem.run_bind,run_underlying hu,Result.andThen_ok,xK hinf,hs1,if_neg hle,if_neg hne,Sem.run_pure,run_zeroValue' hinf hz,hf.ev hx,hfill]
      simp [newRow,newObj,Sem.run]
    simp only [execOp,dH,List.map_toArray,List.map_cons,List.map_nil,Sem.run_bind,hb,Result.andThen_ok,Sem.run_pure]
  unfold Oper.wp
  rw [hrun]
  have hx2:(HA.blk w.heap.size vs E).holds (w.alloc (.cells vs.toArray E (0,0))):=by
    show(w.heap.push _)[w.heap.size]? =_
    simp
  exact next w.heap.size _ _ ((hf.world (hf.toFitsW.new _ hx2 Z)).put hd _)
end rules
def St{F:List Nat}(P:Program)(n:Nat)(c:Ctx F)(op:Op)(T:TypeId)(e:dF)(M:List HA)(D:List DA)(v:Value):Prop:=
 ∀ (d:Option Tmp) a w,Fits n c e M D a w→(execOp a.eval (dH d op T)).run P w= .ok (.value v) w
section rules
variable {P:Program} {n:Nat} {F:List Nat} {c:Ctx F} {T:TypeId} {e:dF} {M:List HA} {D:List DA}
theorem kB{x y:Operand}{S S':TypeId}{kd:IntKind}{m m':Int}{op:BinOp}{v:Value}(hx:ev e x=some (.int kd m))(hy:ev e y=some (.int kd m'))(hr: ∀ w,(binOp op S (.int kd m) (.int kd m')).run P w= .ok v w):St P n c (.binOp op S x y S') T e M D v:=
 fun _ a w hf=>by simp [execOp,dH,hf.ev hx,hf.ev hy,qO,hr]
theorem w1{x y:Operand}{S S':TypeId}{s t:ByteArray}{op:BinOp}{v:Value}(hx:ev e x=some (.string s))(hy:ev e y=some (.string t))(hr: ∀ w,(binOp op S (.string s) (.string t)).run P w= .ok v w):St P n c (.binOp op S x y S') T e M D v:=
 fun _ a w hf=>by simp [execOp,dH,hf.ev hx,hf.ev hy,fk,hr]
section int
variable {x y:Operand} {S S':TypeId} {kd:IntKind} {m m':Int}
theorem Jd(hx:ev e x=some (.int kd m))(hy:ev e y=some (.int kd m')):St P n c (.binOp .sub S x y S') T e M D (.int kd (kd.wrap (m - m'))):=kB hx hy (fun w=>by simp [binOp,Op.intArith])
theorem w2(hx:ev e x=some (.int kd m))(hy:ev e y=some (.int kd m')):St P n c (.binOp .eql S x y S') T e M D (.bool (decide (m=m'))):=kB hx hy (fun w=>by simp [binOp,Op.intCmp];by_cases h:m=m'<;>simp [h])
end int
section str
variable {x y:Operand} {S S':TypeId} {s t:ByteArray}
theorem lV(hx:ev e x=some (.string s))(hy:ev e y=some (.string t)):St P n c (.binOp .eql S x y S') T e M D (.bool (decide (s=t))):=w1 hx hy (fun w=>by simp only [binOp,Op.stringOp,uB];rfl)
theorem F2(hx:ev e x=some (.string s))(hy:ev e y=some (.string t)):St P n c (.binOp .neq S x y S') T e M D (.bool (decide (s≠t))):=w1 hx hy (fun w=>by simp only [binOp,Op.stringOp,uB];by_cases h:s=t<;>simp [h])
theorem qP(hx:ev e x=some (.string s))(hy:ev e y=some (.string t))(hl:s.size+t.size≤9223372036854775807):St P n c (.binOp .add S x y S') T e M D (.string (s++t)):=w1 hx hy (fun w=>by
  have: ¬ (((s.size+t.size:Nat):Int)>IntKind.i64.max):=by
   have:IntKind.i64.max=9223372036854775807:=rfl
   omega
  simp only [binOp,Op.stringOp,if_neg this];rfl)
end str
theorem zP{x:Operand}{v:Value}(hx:ev e x=some v):St P n c (.move x) T e M D (v):=fun _ a w hf=>by simp [execOp,dH,hf.ev hx]
theorem yP{x:Operand}{v:Value}(hx:ev e x=some v):St P n c (.assign x) T e M D (v):=fun _ a w hf=>by simp [execOp,dH,hf.ev hx]
theorem wH{x y z:Operand}{r:Value}{b:Bool}(hx:ev e x=some (.bool b))(hr:(match b with|true=>ev e y|false=>ev e z)=some r):St P n c (.pick x y z) T e M D (r):=fun _ a w hf=>by
    cases b with
    |true=>simp [execOp,dH,hf.ev hx,asBool,hf.ev hr]
    |false=>simp [execOp,dH,hf.ev hx,asBool,hf.ev hr]
theorem yQ{x:Operand}{p:Addr}(hx:ev e x=some (.pointer (some p))):St P n c (.nilCheck x) T e M D (.pointer (some p)):=fun _ a w hf=>by simp [execOp,dH,hf.ev hx]
theorem sT{x:Operand}{vs:Array Value}{i:Nat}{v:Value}(hx:ev e x=some (.tuple vs))(hv:vs[i]? =some v):St P n c (.extract x i) T e M D (v):=fun _ a w hf=>by simp [execOp,dH,hf.ev hx,Instr.extract,hv]
theorem qf{x:Operand}{b:Bool}{S:TypeId}(hx:ev e x=some (.bool b)):St P n c (.unOp .not S x) T e M D (.bool (!b)):=fun _ a w hf=>by simp [execOp,dH,hf.ev hx,Op.unary]
theorem rD{x:Operand}{p:Addr}{v:Value}(hT:cT P T)(hx:ev e x=some (.pointer (some p)))(hc: ∀ w,FitsW c M D w→w.cell? p=some v){T':TypeId}:St P n c (.load T x) T' e M D (v):=fun _ a w hf=>by simp [execOp,dH,hf.ev hx,fa hT (hc w hf.toFitsW)]
theorem iQ{x:Operand}{p:Addr}{vs:List Value}(hT:fj P T vs.length)(hx:ev e x=some (.pointer (some p)))(hc: ∀ w,FitsW c M D w→ ∀ j u,vs[j]? =some u→w.cell? (p.add j)=some u){T':TypeId}:St P n c (.load T x) T' e M D (.agg vs.toArray):=fun _ a w hf=>by simp [execOp,dH,hf.ev hx,rP hT (hc w hf.toFitsW)]
theorem yT(i:Nat){x:Operand}{b o:Nat}{cs:List Value}{U:TypeId}{v:Value}(hT:cT P T)(hx:ev e x=some (.pointer (some ⟨b,o,none⟩)))(hi:M[i]? =some (.blk b cs U))(hv:cs[o]? =some v){T':TypeId}:St P n c (.load T x) T' e M D (v):=rD hT hx (fun _ h=>eu h hi hv)
theorem vD(i:Nat){x:Operand}{b:Nat}{cs:List Value}{U:TypeId}(hi:M[i]? =some (.blk b cs U))(hT:fj P T cs.length)(hx:ev e x=some (.pointer (some ⟨b,0,none⟩))){T':TypeId}:St P n c (.load T x) T' e M D (.agg cs.toArray):=iQ hT hx (fun _ h j u hj=>by rw [wB];exact eu h hi (by rw [Nat.zero_add];exact hj))
theorem Cm(i:Nat){x:Operand}{b o s:Nat}{cs vs:List Value}{U:TypeId}(hi:M[i]? =some (.blk b cs U))(hT:fj P T s)(hvs:(cs.drop o).take s=vs)(hs:vs.length=s)(hx:ev e x=some (.pointer (some ⟨b,o,none⟩))){T':TypeId}:St P n c (.load T x) T' e M D (.agg vs.toArray):=by
 subst hs
 refine iQ hT hx (fun _ h j u hj=>?_)
 rw [wB]
 refine eu h hi ?_
 rw [←hvs,List.getElem?_take]at hj
 split at hj
 ·rwa [List.getElem?_drop]at hj
 ·cases hj
theorem zZ{x:Operand}{b o f off S:Nat}(hF:cI P S f off)(hx:ev e x=some (.pointer (some ⟨b,o,none⟩))):St P n c (.fieldAddr S x f) T e M D (.pointer (some ⟨b,o+off,none⟩)):=by
 obtain⟨fs,fd,i,s,hS,hf,ho,hi,hs⟩:=hF
 intro _ a w hfit
 simp [execOp,dH,hfit.ev hx,Instr.fieldAt,run_underlying hS,hf,Instr.sureAddr,fieldPlace,xK hi,hs,ho,wB]
theorem uP{x y:Operand}{A:Addr}{m cap i:Nat}{kd:IntKind}{S E sz by_:Nat}(hS:cS P S E sz by_)(hx:ev e x=some (.slice (some A) m cap))(hy:ev e y=some (.int kd (i:Nat)))(hi:i<m):St P n c (.indexAddr S x y) T e M D (.pointer (some (A.add (i*sz)))):=by
 obtain⟨ti,z,hu,hinf,hs,_⟩:=hS
 intro _ a w hfit
 simp [execOp,dH,hfit.ev hx,hfit.ev hy,Instr.indexAt,asIntOf,run_underlying hu,xK hinf,hs,hi]
theorem Cn{x y:Operand}{s:ByteArray}{i:Nat}{kd:IntKind}{S:TypeId}(hS:P.underlying S=some .string)(hx:ev e x=some (.string s))(hy:ev e y=some (.int kd (i:Nat)))(hi:i<s.size):St P n c (.index S x y) T e M D (.int .u8 (s[i]'hi).toNat):=by
 intro _ a w hfit
 simp [execOp,dH,hfit.ev hx,hfit.ev hy,Instr.index,asIntOf,run_underlying hS,hi]
theorem gW{x:Operand}{s:ByteArray}{S:TypeId}(hS:P.underlying S=some .string)(hx:ev e x=some (.string s)):St P n c (.call {callee:= .builtin .len,args:= #[x],argTypes:= #[S]}) T e M D (.int .i64 (s.size:Nat)):=by
 intro _ a w hfit
 simp [execOp,dH,resolve,invoke,builtin,hfit.ev hx,Builtin.len_,run_underlying hS,goInt]
theorem mF{x:Operand}{A:Option Addr}{m cap:Nat}{S E sz by_:Nat}(hS:cS P S E sz by_)(hx:ev e x=some (.slice A m cap)):St P n c (.call {callee:= .builtin .len,args:= #[x],argTypes:= #[S]}) T e M D (.int .i64 (m:Nat)):=by
 obtain⟨ti,z,hu,_⟩:=hS
 intro _ a w hfit
 simp [execOp,dH,resolve,invoke,builtin,hfit.ev hx,Builtin.len_,run_underlying hu,goInt]
theorem iE{x y:Operand}{s:ByteArray}{i:Nat}{kd:IntKind}{S:TypeId}(hS:P.underlying S=some .string)(hx:ev e x=some (.string s))(hy:ev e y=some (.int kd (i:Nat)))(hi:i≤s.size):St P n c (.slice S x (some y) none none) T e M D (.string (s.extract i s.size)):=by
 intro _ a w hfit
 simp [execOp,dH,hfit.ev hx,hfit.ev hy,Instr.sliceAt,Instr.slice,Instr.sliceBounds,Instr.sliceBound,asIntOf,run_underlying hS,hi]
theorem nz{x z:Operand}{s:ByteArray}{j:Nat}{kd':IntKind}{S:TypeId}(hS:P.underlying S=some .string)(hx:ev e x=some (.string s))(hz:ev e z=some (.int kd' (j:Nat)))(hj:j≤s.size):St P n c (.slice S x none (some z) none) T e M D (.string (s.extract 0 j)):=by
 intro _ a w hfit
 simp [execOp,dH,hfit.ev hx,hfit.ev hz,Instr.sliceAt,Instr.slice,Instr.sliceBounds,Instr.sliceBound,asIntOf,run_underlying hS,hj]
theorem zo{x y:Operand}{S S':TypeId}{kd:IntKind}{i j:Nat}(hx:ev e x=some (.int kd (i:Nat)))(hy:ev e y=some (.int kd (j:Nat))):St P n c (.binOp .lss S x y S') T e M D (.bool (decide (i<j))):=kB hx hy (fun w=>by simp [binOp,Op.intCmp])
theorem zp{x y:Operand}{S S':TypeId}{kd:IntKind}{i j:Nat}(hx:ev e x=some (.int kd (i:Nat)))(hy:ev e y=some (.int kd (j:Nat))):St P n c (.binOp .neq S x y S') T e M D (.bool (decide (i≠j))):=kB hx hy (fun w=>by
    simp only [binOp,Op.intCmp]
    by_cases h:i=j
    · subst h;simp
    · have h2: ¬ ((i:Int)=(j:Int)):=by omega
      simp [h,h2])
theorem Je{x y:Operand}{S S':TypeId}{kd:IntKind}{m m':Int}(hx:ev e x=some (.int kd m))(hy:ev e y=some (.int kd m'))(h0:m'≠0):St P n c (.binOp .rem S x y S') T e M D (.int kd (m.tmod m')):=kB hx hy (fun w=>by simp [binOp,Op.intDiv,h0])
theorem Jf{x y:Operand}{S S':TypeId}{kd:IntKind}{m m':Int}(hx:ev e x=some (.int kd m))(hy:ev e y=some (.int kd m'))(h0:m'≠0):St P n c (.binOp .quo S x y S') T e M D (.int kd (kd.wrap (m.tdiv m'))):=kB hx hy (fun w=>by simp [binOp,Op.intDiv,h0])
theorem zq{x y:Operand}{S S':TypeId}{m m':Int}{s:Int}(hx:ev e x=some (.int .i64 m))(hy:ev e y=some (.int .i64 m'))(hs:m - m'=s)(h1: -9223372036854775808≤s)(h2:s≤9223372036854775807):St P n c (.binOp .sub S x y S') T e M D (.int .i64 s):=by
 have h0:=Jd (P:=P) (n:=n) (c:=c) (e:=e) (M:=M) (D:=D) (T:=T) (S:=S) (S':=S') hx hy
 rw [hs,vU h1 h2]at h0
 exact h0
theorem qE{ps:Array (Nat×Operand)}{vs:List (Nat×Value)}{cs:List Value}(hv:ps.toList.mapM (fun q=>(ev e q.2).map (q.1, ·))=some vs)(hb:P.built T vs=some cs.toArray){T':TypeId}:St P n c (.build T ps) T' e M D (.agg cs.toArray):=by
  intro _ a w hfit
  have key: ∀ (xs:List (Nat×Operand)) (us:List (Nat×Value)),xs.mapM (fun q=>(ev e q.2).map (q.1, ·))=some us→xs.map (fun q=>(q.1,a.eval q.2))=us:=by
    intro xs
    induction xs with
    |nil=>intro us h;simp at h;simp [h]
    |cons x xs ih=>
      intro us h
      rw [List.mapM_cons]at h
      cases hx:ev e x.2 with
      |none=>simp [hx]at h
      |some u=>
        cases hy:xs.mapM (fun q=>(ev e q.2).map (q.1, ·))with
        |none=>simp [hx,hy]at h
        |some ys=>
          simp [hx,hy]at h
          subst h
          simp [hfit.ev hx,ih ys hy]
  have h2:=key ps.toList vs hv
  have h3:(ps.map fun(i,x)=>(i,a.eval x)).toList=vs:=by simpa using h2
  have hr:=run_build (P:=P) w T (ps.map fun(i,x)=>(i,a.eval x)) cs.toArray (by rw [h3];exact hb)
  simp only [execOp,dH,Sem.run_bind,hr,Result.andThen_ok,Sem.run_pure]
end rules

def lW(md:Region.Mode)(o:Oper)(ms:List Nat):Nat:=o.after.toList.foldl (fun m e=>if Region.binds md e then m|||(1<<<e.on)|||(ms.getD e.on 0)else m) 0
def gX(md:Region.Mode):List Oper→List Nat→List Nat
  |[],ms=>ms
  |o::os,ms=>gX md os (ms++[lW md o ms])
def IW(md:Region.Mode)(ops:Array Oper):List Nat:=gX md ops.toList []
def oM(md:Region.Mode)(ops:Array Oper)(j i:Nat):Bool:= !((IW md ops).getD j 0).testBit i
def Fq(listed:Array Bool)(m:Nat):Prop:= ∀ i,m.testBit i=true→listed.getD i false=true
def oN(md:Region.Mode)(listed:Array Bool)(o:Oper):Prop:= ∀ e∈o.after,Region.binds md e=true→listed.getD e.on false=true
def Closed(md:Region.Mode)(ops:Array Oper)(listed:Array Bool):Prop:= ∀ k o,ops[k]? =some o→listed.getD k false=true→oN md listed o
def eJ(md:Region.Mode)(ops:Array Oper)(listed:Array Bool):Bool:=(List.range ops.size).all fun k=>match ops[k]? with
  |some o=> !(listed.getD k false)||o.after.all fun e=> !(Region.binds md e)||listed.getD e.on false
  |none=>true
theorem rU{md:Region.Mode}{ops:Array Oper}{listed:Array Bool}(h:eJ md ops listed=true):Closed md ops listed:=by
 intro k o ho hk e he hb
 have hlt:=(Array.getElem?_eq_some_iff.1 ho).1
 have h1:=List.all_eq_true.1 h k (List.mem_range.2 hlt)
 simp only [ho,hk,Bool.not_true,Bool.false_or,Array.all_eq_true_iff_forall_mem]at h1
 have h2:=h1 e he
 simpa [hb]using h2
theorem Closed.set{md:Region.Mode}{ops:Array Oper}{listed:Array Bool}(h:Closed md ops listed){j:Nat}{o:Oper}(ho:ops[j]? =some o)(hd:oN md listed o):Closed md ops (listed.setIfInBounds j true):=by
 have mono: ∀ q,listed.getD q false=true→(listed.setIfInBounds j true).getD q false=true:=by
  intro q hq
  by_cases hjq:j=q
  ·subst hjq
   have:j<listed.size:=by
    rcases Nat.lt_or_ge j listed.size with h'|h'
    ·exact h'
    ·simp [Array.getElem?_eq_none h']at hq
   simp [this]
  ·rw [getD_set_ne false hjq];exact hq
 intro k o' ho' hk e he hb
 refine mono _ ?_
 by_cases hjk:j=k
 ·subst hjk
  rw [ho]at ho';cases ho'
  exact hd e he hb
 ·rw [getD_set_ne false hjk]at hk
  exact h k o' ho' hk e he hb
theorem Co{listed:Array Bool}{a b:Nat}(ha:Fq listed a)(hb:Fq listed b):Fq listed (a|||b):=by
 intro i hi
 rw [Nat.testBit_or,Bool.or_eq_true]at hi
 exact hi.elim (ha i) (hb i)
theorem Cp{md:Region.Mode}{ops:Array Oper}{listed:Array Bool}{o:Oper}{ms:List Nat}(hd:oN md listed o)(hm: ∀ k,listed.getD k false=true→Fq listed (ms.getD k 0)):Fq listed (lW md o ms):=by
  unfold lW
  have: ∀ (es:List Edge) (m:Nat),(∀ e∈es,e∈o.after)→Fq listed m→Fq listed (es.foldl (fun m e=>if Region.binds md e then m|||(1<<<e.on)|||(ms.getD e.on 0)else m) m):=by
    intro es
    induction es with
    |nil=>exact fun m _ h=>h
    |cons e es ih=>
      intro m he h
      refine ih _ (fun x hx=>he x (List.mem_cons_of_mem _ hx)) ?_
      show Fq listed (if Region.binds md e=true then m|||(1<<<e.on)|||(ms.getD e.on 0)else m)
      by_cases hb:Region.binds md e=true
      case neg=>rw [if_neg hb];exact h
      case pos=>
        have h1:=hd e (he e List.mem_cons_self) hb
        rw [if_pos hb]
        refine Co (Co h fun i hi=>?_) (hm _ h1)
        rw [Nat.one_shiftLeft,Nat.testBit_two_pow]at hi
        have:e.on=i:=by simpa using hi
        rw [←this];exact h1
  exact this _ 0 (fun e he=>by simpa using he) (fun i hi=>by simp at hi)
theorem oP{md:Region.Mode}{ops:Array Oper}{listed:Array Bool}(hc:Closed md ops listed): ∀ (os:List Oper) (ms:List Nat),(∀ k o,os[k]? =some o→ops[ms.length+k]? =some o)→
    (∀ k o,ops[k]? =some o→oN md listed o→Fq listed (ms.getD k 0))→ ∀ k o,ops[k]? =some o→oN md listed o→Fq listed ((gX md os ms).getD k 0)
  |[],ms,_,h=>h
  |o::os,ms,ho,h=>by
    refine oP hc os (ms++[lW md o ms]) (fun k o' hk=>?_) (fun k o' hk hd=>?_)
    · have:=ho (k+1) o' (by simpa using hk)
      rw [List.length_append,List.length_singleton,show ms.length+1+k=ms.length+(k+1)from by omega]
      exact this
    · by_cases hlt:k<ms.length
      · have:=h k o' hk hd
        simp only [List.getD_eq_getElem?_getD]at this⊢
        rw [List.getElem?_append_left hlt];exact this
      · by_cases heq:k=ms.length
        · subst heq
          have h0:=ho 0 o rfl
          rw [Nat.add_zero,hk]at h0
          cases h0
          simp only [List.getD_eq_getElem?_getD,List.getElem?_append_right (Nat.le_refl _),Nat.sub_self]
          refine Cp (md:=md) (ops:=ops) hd fun q hq=>?_
          cases hq':ops[q]? with
          |some oq=>exact h q oq hq' (hc q oq hq' hq)
          |none=>
            have:ms.length≤q:=by
              rcases Nat.lt_or_ge q ms.length with h'|h'
              · have h2:=(Array.getElem?_eq_some_iff.1 hk).1
                have h3:=Array.getElem?_eq_none_iff.1 hq'
                omega
              · exact h'
            simp only [List.getD_eq_getElem?_getD,List.getElem?_eq_none this]
            intro i hi;simp at hi
        · simp only [List.getD_eq_getElem?_getD]
          rw [List.getElem?_eq_none cD]
          intro i hi;simp at hi
theorem Cq{md:Region.Mode}{ops:Array Oper}{listed:Array Bool}(hc:Closed md ops listed){j i:Nat}{o:Oper}(ho:ops[j]? =some o)(hd:oN md listed o)(hi:listed.getD i true=false):oM md ops j i=true:=by
  have:=oP hc ops.toList [] (fun k o' hk=>by simpa using hk) (fun k o' _ _=>by intro i hi;simp at hi) j o ho hd
  unfold oM IW
  cases hb:((gX md ops.toList []).getD j 0).testBit i with
  |false=>rfl
  |true=>
    have h1:=this i hb
    rcases Nat.lt_or_ge i listed.size with h'|h'
    · simp [h']at hi h1;rw [hi]at h1;cases h1
    · simp [Array.getElem?_eq_none h']at h1
abbrev wo:=List Nat×(World→Prop)
def ek(md:Region.Mode)(ops:Array Oper)(j:Nat)(T:List wo):List wo:=T.map fun p=>(p.1.filter (oM md ops j),p.2)
def ee(T:List wo)(w:World):Prop:= ∀ p∈T,p.1≠[]→p.2 w

section
variable {P:Program} {ops:Array Oper} {Q:Exit→Act→World→Prop} {md:Region.Mode} {S:World→Prop}
def WT(P:Program)(md:Region.Mode)(ops:Array Oper)(Q:Exit→Act→World→Prop):Nat→List wo→Array Bool→Act→World→Prop
  |0,_,listed,a,w=>Region.ready md ops listed=[]∧Q .normal a w
  |fuel+1,T,listed,a,w=>
    (Region.ready md ops listed=[]→Q .normal a w)∧
    ∀ j∈Region.ready md ops listed,wpOp P ops Q j (fun a' w'=>ee (ek md ops j T) w'∧WT P md ops Q fuel (ek md ops j T) (listed.setIfInBounds j true) a' w') a w
theorem kh: ∀ (fuel:Nat) (T:List wo) (listed:Array Bool) (a:Act) (w:World),WT P md ops Q fuel T listed a w→wpAny P md ops Q fuel listed a w
  |0,_,_,_,_,h=>h
  |fuel+1,_,_,_,_,h=>⟨h.1,fun i hi=>wpOp_mono (fun a' w' h'=>kh fuel _ _ a' w' h'.2) (h.2 i hi)⟩
def GLe:List wo→List wo→Prop
  |[],[]=>True
  |p::T,q::T'=>(∀ i∈p.1,i∈q.1)∧p.2=q.2∧GLe T T'
  |_,_=>False
theorem GLe.step(j:Nat): ∀ {T T':List wo},GLe T T'→GLe (ek md ops j T) (ek md ops j T')
  |[],[],_=>trivial
  |p::T,q::T',h=>by
    refine⟨fun i hi=>?_,h.2.1,GLe.step j h.2.2⟩
    rw [List.mem_filter]at hi⊢
    exact⟨h.1 i hi.1,hi.2⟩
  |[],_::_,h=>h.elim
  |_::_,[],h=>h.elim
theorem GLe.held{w:World}: ∀ {T T':List wo},GLe T T'→ee T' w→ee T w
  |[],[],_,_=>fun p hp=>by cases hp
  |p::T,q::T',h,hh=>by
    intro r hr hne
    rcases List.mem_cons.1 hr with rfl|hr
    · rw [h.2.1]
      refine hh q List.mem_cons_self fun h0=>?_
      match hp:r.1,hne with
      |i::is,_=>have:=h.1 i (by rw [hp];exact List.mem_cons_self);rw [h0]at this;cases this
    · exact GLe.held h.2.2 (fun x hx=>hh x (List.mem_cons_of_mem _ hx)) r hr hne
  |[],_::_,h,_=>h.elim
  |_::_,[],h,_=>h.elim
theorem WT.mono: ∀ (fuel:Nat) {T T':List wo} {listed:Array Bool} {a:Act} {w:World},GLe T T'→WT P md ops Q fuel T' listed a w→WT P md ops Q fuel T listed a w
  |0,_,_,_,_,_,_,h=>h
  |fuel+1,_,_,_,_,_,hg,h=>⟨h.1,fun i hi=>wpOp_mono (fun _ _ h'=>⟨(hg.step i).held h'.1,WT.mono fuel (hg.step i) h'.2⟩) (h.2 i hi)⟩
theorem pD{i:Nat}{oi:Oper}{v:Value}(hi:ops[i]? =some oi)(hsel: ∀ (j:Nat) (o:Oper) cs b,ops[j]? =some o→o.op≠ .select cs b)
    (hQ: ∀ c a w,Q (.panic c) (a.put oi.dst v) w→Q (.panic c) a w):
    ∀ (fuel:Nat) (listed:Array Bool) (a:Act) (w:World) (is:List Nat) (T:List wo),Closed md ops listed→
      (∀ j oj,ops[j]? =some oj→j≠i→listed.getD j true=false→(∀ e∈oj.after,Region.binds md e=true→e.on≠i)→oi.apart ops oj=true)→
      i∈Region.ready md ops listed→YieldsIf P ops S oi v a→S w→ee T w→
      WT P md ops Q fuel ((i::is,S)::T) (listed.setIfInBounds i true) (a.put oi.dst v) w→WT P md ops Q (fuel+1) ((is,S)::T) listed a w:=by
  intro fuel
  have base: ∀ (fuel:Nat) (listed:Array Bool) (a:Act) (w:World) (is:List Nat) (T:List wo),YieldsIf P ops S oi v a→S w→ee T w→
      WT P md ops Q fuel ((i::is,S)::T) (listed.setIfInBounds i true) (a.put oi.dst v) w→
      wpOp P ops Q i (fun a' w'=>ee (ek md ops i ((is,S)::T)) w'∧WT P md ops Q fuel (ek md ops i ((is,S)::T)) (listed.setIfInBounds i true) a' w') a w:=by
    intro fuel listed a w is T hy hS hT H
    have hg:GLe (ek md ops i ((is,S)::T)) ((i::is,S)::T):=by
      refine⟨fun k hk=>List.mem_cons_of_mem _ (List.mem_filter.1 hk).1,rfl,?_⟩
      have: ∀ T:List wo,GLe (ek md ops i T) T:=by
        intro T
        induction T with
        |nil=>trivial
        |cons p T ih=>exact⟨fun k hk=>(List.mem_filter.1 hk).1,rfl,ih⟩
      exact this T
    refine hy.wpOp hi hS ⟨hg.held ?_,WT.mono fuel hg H⟩
    intro p hp hne
    rcases List.mem_cons.1 hp with rfl|hp
    · exact hS
    · exact hT p hp hne
  induction fuel with
  |zero=>
    intro listed a w is T _ _ hr hy hS hT H
    refine⟨fun h=>(by rw [h]at hr;cases hr),fun j hj=>?_⟩
    by_cases hji:j=i
    · subst hji;exact base 0 listed a w is T hy hS hT H
    · have:=ready_mono hj hji
      rw [H.1]at this
      cases this
  |succ fuel ih=>
    intro listed a w is T hcl hfree hr hy hS hT H
    refine⟨fun h=>(by rw [h]at hr;cases hr),fun j hj=>?_⟩
    by_cases hji:j=i
    · subst hji;exact base (fuel+1) listed a w is T hy hS hT H
    · have h1:=H.2 j (ready_mono hj hji)
      obtain⟨hjun,oj,hoj,hall⟩:=mem_ready.1 hj
      have hnot: ∀ e∈oj.after,Region.binds md e=true→e.on≠i:=fun e he hb heq=>by
        have h1:=hall e he hb
        have h0:=(mem_ready.1 hr).1
        rw [heq]at h1
        rcases Nat.lt_or_ge i listed.size with h'|h'
        · simp [h']at h0 h1;rw [h0]at h1;cases h1
        · simp [Array.getElem?_eq_none h']at h1
      have hind:oM md ops j i=true:=Cq hcl hoj hall (mem_ready.1 hr).1
      have h2:=wpOp_putIf hoj (hfree j oj hoj hji hjun hnot) (fun cs b=>hsel i oi cs b hi) (fun cs b=>hsel j oj cs b hoj) hQ hy h1
      have hfree': ∀ k ok,ops[k]? =some ok→k≠i→(listed.setIfInBounds j true).getD k true=false→
          (∀ e∈ok.after,Region.binds md e=true→e.on≠i)→oi.apart ops ok=true:=fun k ok hk hki hun hno=>by
        refine hfree k ok hk hki ?_ hno
        by_cases hjk:j=k
        · subst hjk;exact hjun
        · rw [getD_set_ne true hjk]at hun;exact hun
      have hst:ek md ops j ((i::is,S)::T)=(i::is.filter (oM md ops j),S)::ek md ops j T:=by
        simp [ek,hind]
      refine wpOp_mono (fun a' w' h3=>?_) h2
      obtain⟨hy',hheld,hwt⟩:=h3
      rw [hst]at hheld hwt
      have hS':S w':=hheld _ List.mem_cons_self aJ
      refine⟨?_,?_⟩
      · intro p hp hne
        rcases List.mem_cons.1 hp with rfl|hp
        · exact hS'
        · exact hheld p (List.mem_cons_of_mem _ hp) hne
      · refine ih (listed.setIfInBounds j true) a' w' _ _ (hcl.set hoj hall) hfree' (ready_mono hr (Ne.symm hji)) hy' hS' (fun p hp=>hheld p (List.mem_cons_of_mem _ hp)) ?_
        rw [Array.setIfInBounds_comm _ _ hji]
        exact hwt
end


def eK(Q:cu):Prop:= ∀ c a d v w,Q (.panic c) (a.put d v) w→Q (.panic c) a w
theorem tD(P:Program)(Q:cu)(ch:List PanicEntry): ∀ (k:List KI),Kp P k Q (.panic ch)=Q (.panic ch)
  |[]=>rfl
  | .code _::k=>tD P Q ch k
  | .cont _::k=>tD P Q ch k
  | .blk _::k=>tD P Q ch k
theorem xL{F:List Nat}(P:Program)(c:Ctx F)(fn:Func)(R:Value→List HA→List DA→Prop):eK (lK P c fn R):=by
 intro ch a d v w h
 obtain⟨h1,h2⟩:=h
 refine⟨?_,h2⟩
 cases d<;>exact h1

def dg{F:List Nat}(c:Ctx F):List (List Nat)→List (List HA×List DA)→List wo
  |is::I,s::S=>(is,FitsW c s.1 s.2)::dg c I S
  |_,_=>[]
def el(ops:Array Oper)(j:Nat)(I:List (List Nat)):List (List Nat):=I.map fun is=>is.filter (oM .any ops j)
theorem oQ{F:List Nat}(c:Ctx F)(ops:Array Oper)(j:Nat): ∀ (I:List (List Nat)) (S:List (List HA×List DA)),dg c (el ops j I) S=ek .any ops j (dg c I S)
  |[],_=>rfl
  |_::_,[]=>rfl
  |_::I,_::S=>by
    have:=oQ c ops j I S
    simp only [el,ek]at this
    simp [dg,el,ek,this]
def cZ{F:List Nat}(P:Program)(n:Nat)(c:Ctx F)(ops:Array Oper)(k:List KI)(Q:cu)(fuel:Nat)(I:List (List Nat))(S:List (List HA×List DA))(listed:Array Bool)(e:dF)(M:List HA)(D:List DA):Prop:=
 ∀ a w,Fits n c e M D a w→ee (dg c I S) w→WT P .any ops (Kp P k Q) fuel (dg c I S) listed a w

section rules
variable {P:Program} {n:Nat} {F:List Nat} {c:Ctx F} {ops:Array Oper} {k:List KI} {Q:cu} {e:dF} {M:List HA} {D:List DA} {I:List (List Nat)} {S:List (List HA×List DA)} {listed:Array Bool} {fuel:Nat}
theorem FitsW.drewn{w:World}(h:FitsW c M D w):FitsW c M D {w with drawn:=w.drawn+1}:=h.grow (Chg.drew w)
theorem yW{id:Nat}{l:List Oper}(hm:P.follows .mixedOrders=true)(h:cZ P n c l.toArray k Q l.length [[]] [(M,D)] (Array.replicate l.length false) e M D):Run P n c (.code (.region id l.toArray true)::k) Q e M D:=by
 intro a w hf
 refine wp_region_any hm (kh _ (dg c [[]] [(M,D)]) _ _ _ ?_)
 have:=h a _ (hf.world hf.toFitsW.drewn) (by intro p hp hne;simp [dg]at hp;subst hp;exact absurd rfl hne)
 simpa using this
theorem WT.tail: ∀ (fuel:Nat) {md:Region.Mode} {p:wo} {T:List wo} {listed:Array Bool} {Q:cu} {a:Act} {w:World},WT P md ops Q fuel (p::T) listed a w→WT P md ops Q fuel T listed a w
  |0,_,_,_,_,_,_,_,h=>h
  |fuel+1,_,_,_,_,_,_,_,h=>⟨h.1,fun i hi=>wpOp_mono (fun _ _ h'=>⟨fun q hq hne=>h'.1 q (List.mem_cons_of_mem _ hq) hne,WT.tail fuel h'.2⟩) (h.2 i hi)⟩
theorem yF(h:cZ P n c ops k Q fuel ([]::I) ((M,D)::S) listed e M D):cZ P n c ops k Q fuel I S listed e M D:=by
 intro a w hf hT
 exact WT.tail fuel (h a w hf (by
  intro p hp hne
  rcases List.mem_cons.1 hp with rfl|hp
  ·exact absurd Z hne
  ·exact hT p hp hne))
def Wanted(ops:Array Oper)(e:dF)(g:Option (Nat×Bool)):Prop:=g=none∨ ∃j b s,g=some (j,b)∧(ops[j]?).bind (·.dst)=some s∧cz e s=some (.bool b)
theorem cF{ops:Array Oper}{e:dF}:Wanted ops e none:= .inl rfl
theorem ce{ops:Array Oper}{e:dF}{j s:Nat}{b:Bool}(h1:(ops[j]?).bind (·.dst)=some s)(h2:cz e s=some (.bool b)):Wanted ops e (some (j,b)):= .inr ⟨j,b,s,rfl,h1,h2⟩
theorem Wanted.of{g:Option (Nat×Bool)}(h:Wanted ops e g){a:Act}{w:World}(hf:Fits n c e M D a w)(d:Option Tmp)(op:Op)(T':TypeId)(p:String)(af:Array Edge):Region.wanted ⟨d,op,T',p,af,g⟩ (yielded ops a.tmps)=true:=by
 rcases h with rfl|⟨j,b,s,rfl,h1,h2⟩
 ·rfl
 ·simp [Region.wanted,qC hf h1 h2]
theorem Cr(i:Nat){d:Nat}{op:Op}{T':TypeId}{p:String}{af:Array Edge}{g:Option (Nat×Bool)}{v:Value}{is:List Nat}(hQ:eK Q)(ho:ops[i]? =some ⟨some d,op,T',p,af,g⟩)(hw:Wanted ops e g)(hs:Region.noSelect ops=true)(hfr:(eJ .any ops listed && Region.free .any ops listed i)=true)
  (hr:(Region.ready .any ops listed).contains i=true) (hd:Nat.blt d n=true) (hst:St P n c op T' e M D v) (next:cZ P n c ops k Q fuel ((i::is)::I) ((M,D)::S) (listed.setIfInBounds i true) ((d,v)::e) M D):
  cZ P n c ops k Q (fuel+1) (is::I) ((M,D)::S) listed e M D:=by
 intro a w hf hT
 refine pD (S:=FitsW c M D) (v:=v) ho (Region.noSelect_spec hs) (fun ch a w h=>?_) fuel listed a w is (dg c I S) (rU (Bool.and_eq_true_iff.1 hfr).1) (Region.free_spec ho (Bool.and_eq_true_iff.1 hfr).2) bt (.inl ⟨hw.of hf _ _ _ _ _,fun w' hw'=>?_⟩) hf.toFitsW (fun q hq hne=>hT q (List.mem_cons_of_mem _ hq) hne) ?_
 ·rw [tD]at h⊢
  exact hQ ch a _ _ w h
 ·exact hst (some d) a w' (hf.world hw')
 ·refine next _ w (hf.put hd v) ?_
  intro q hq hne
  rcases List.mem_cons.1 hq with rfl|hq
  ·exact hf.toFitsW
  ·exact hT q (List.mem_cons_of_mem _ hq) hne
theorem BI(i:Nat){d:Nat}{op:Op}{T':TypeId}{p:String}{af:Array Edge}{g:Option (Nat×Bool)}{v:Value}{is:List Nat}(hQ:eK Q)(ho:ops[i]? =some ⟨some d,op,T',p,af,g⟩)(hw:Wanted ops e g)(hs:Region.noSelect ops=true)(hfr:(eJ .any ops listed && Region.free .any ops listed i)=true)
  (hr:(Region.ready .any ops listed).contains i=true) (hd:Nat.blt d n=true) (hst:St P n c op T' e [] [] v) (next:cZ P n c ops k Q fuel ((i::is)::I) (([],[])::S) (listed.setIfInBounds i true) ((d,v)::e) M D):
  cZ P n c ops k Q (fuel+1) (is::I) (([],[])::S) listed e M D:=by
 intro a w hf hT
 have h0:FitsW c [] [] w:=⟨hf.chg,by simp,by simp [cP],by simp [cP],by simp⟩
 refine pD (S:=FitsW c [] []) (v:=v) ho (Region.noSelect_spec hs) (fun ch a w h=>?_) fuel listed a w is (dg c I S) (rU (Bool.and_eq_true_iff.1 hfr).1) (Region.free_spec ho (Bool.and_eq_true_iff.1 hfr).2) bt (.inl ⟨hw.of hf _ _ _ _ _,fun w' hw'=>?_⟩) h0 (fun q hq hne=>hT q (List.mem_cons_of_mem _ hq) hne) ?_
 ·rw [tD]at h⊢
  exact hQ ch a _ _ w h
 ·exact hst (some d) a w' (hf.world hw')
 ·refine next _ w (hf.put hd v) ?_
  intro q hq hne
  rcases List.mem_cons.1 hq with rfl|hq
  ·exact h0
  ·exact hT q (List.mem_cons_of_mem _ hq) hne
theorem zO(h:cZ P n c ops k Q fuel ([]::I) (([],[])::S) listed e M D):cZ P n c ops k Q fuel I S listed e M D:=by
 intro a w hf hT
 exact WT.tail fuel (h a w hf (by
  intro p hp hne
  rcases List.mem_cons.1 hp with rfl|hp
  ·exact absurd Z hne
  ·exact hT p hp hne))
theorem Cs(i:Nat){d:Nat}{op:Op}{T':TypeId}{p:String}{af:Array Edge}{j s:Nat}{b b':Bool}{is:List Nat}(hQ:eK Q)(ho:ops[i]? =some ⟨some d,op,T',p,af,some (j,b)⟩)(hj:(ops[j]?).bind (·.dst)=some s)(hs':cz e s=some (.bool b'))(hb:(b'==b)=false)
  (hs:Region.noSelect ops=true) (hfr:(eJ .any ops listed && Region.free .any ops listed i)=true) (hr:(Region.ready .any ops listed).contains i=true) (hd:Nat.blt d n=true) (next:cZ P n c ops k Q fuel ((i::is)::I) ((M,D)::S) (listed.setIfInBounds i true) ((d,undef)::e) M D):
  cZ P n c ops k Q (fuel+1) (is::I) ((M,D)::S) listed e M D:=by
 intro a w hf hT
 refine pD (S:=FitsW c M D) (v:=undef) ho (Region.noSelect_spec hs) (fun ch a w h=>?_) fuel listed a w is (dg c I S) (rU (Bool.and_eq_true_iff.1 hfr).1) (Region.free_spec ho (Bool.and_eq_true_iff.1 hfr).2) bt (.inr ⟨?_,rfl⟩) hf.toFitsW (fun q hq hne=>hT q (List.mem_cons_of_mem _ hq) hne) ?_
 ·rw [tD]at h⊢
  exact hQ ch a _ _ w h
 ·simp only [Region.wanted,qC hf hj hs']
  cases b<;>cases b'<;>simp_all
 ·refine next _ w (hf.put hd undef) ?_
  intro q hq hne
  rcases List.mem_cons.1 hq with rfl|hq
  ·exact hf.toFitsW
  ·exact hT q (List.mem_cons_of_mem _ hq) hne
def w4{F:List Nat}(P:Program)(n:Nat)(c:Ctx F)(ops:Array Oper)(k:List KI)(Q:cu)(fuel:Nat)(I:List (List Nat))(S:List (List HA×List DA))(listed:Array Bool)(e:dF)(M:List HA)(D:List DA)(j:Nat):Prop:=
 ∀ a w,Fits n c e M D a w→ee (dg c I S) w→wpOp P ops (Kp P k Q) j (fun a' w'=>ee (dg c (el ops j I) S) w'∧WT P .any ops (Kp P k Q) fuel (dg c (el ops j I) S) (listed.setIfInBounds j true) a' w') a w
theorem tN{rs:List Nat}(hr:Region.ready .any ops listed=rs)(hne:rs≠[])(h: ∀ j∈rs,w4 P n c ops k Q fuel I S listed e M D j):cZ P n c ops k Q (fuel+1) I S listed e M D:=by
 intro a w hf hT
 refine⟨fun h0=>absurd (hr▸h0) hne,fun j hj=>?_⟩
 rw [←oQ]
 exact h j (hr▸hj) a w hf hT
theorem zS(j:Nat)(hr:Region.ready .any ops listed=[j])(h:w4 P n c ops k Q fuel I S listed e M D j):cZ P n c ops k Q (fuel+1) I S listed e M D:=
 tN hr aJ (by intro i hi;rw [List.mem_singleton.1 hi];exact h)
theorem zT{j:Nat}{d:Option Tmp}{op:Op}{T':TypeId}{p:String}{af:Array Edge}{g:Option (Nat×Bool)}{I2:List (List Nat)}(ho:ops[j]? =some ⟨d,op,T',p,af,g⟩)(hw:Wanted ops e g)(hI2:el ops j I=I2)
    (h: ∀ K:Act→World→Prop,(∀ e' M' D',(∀ w,FitsW c M' D' w→ee (dg c I2 S) w)→cZ P n c ops k Q fuel I2 S (listed.setIfInBounds j true) e' M' D'→cG P n c ops [] (.cont K::k) Q e' M' D')→
      cL P n c ops d op T' [] (.cont K::k) Q e M D):w4 P n c ops k Q fuel I S listed e M D j:=by
  subst hI2
  intro a w hf hT
  unfold wpOp
  simp only [ho]
  rw [if_pos (hw.of hf _ _ _ _ _)]
  have hk:=h (fun a' w'=>ee (dg c (el ops j I) S) w'∧WT P .any ops (Kp P k Q) fuel (dg c (el ops j I) S) (listed.setIfInBounds j true) a' w')
    (fun e' M' D' hobl hrun a' w' hf'=>⟨hobl w' hf'.toFitsW,hrun a' w' hf' (hobl w' hf'.toFitsW)⟩) a w hf
  refine .inl ?_
  have h3:Kp P (.cont (fun a' w'=>ee (dg c (el ops j I) S) w'∧WT P .any ops (Kp P k Q) fuel (dg c (el ops j I) S) (listed.setIfInBounds j true) a' w')::k) Q=Exit.then (fun a' w'=>ee (dg c (el ops j I) S) w'∧WT P .any ops (Kp P k Q) fuel (dg c (el ops j I) S) (listed.setIfInBounds j true) a' w') (Kp P k Q):=by
    rw [zk]
  have h4:(dH d op T').wp P a w (fun a' w'=>ee (dg c (el ops j I) S) w'∧WT P .any ops (Kp P k Q) fuel (dg c (el ops j I) S) (listed.setIfInBounds j true) a' w') (Kp P k Q):=by
    have h5:=hk
    unfold Oper.wp at h5⊢
    generalize (execOp a.eval (dH d op T')).run P w=r at h5⊢
    cases r with
    |ok x w'=>
      cases x<;>simp only [Oper.upon]at h5⊢ <;>first
        |exact h5
        |(
           refine Calls.mono h5 fun e w'' he=>?_
           cases e with
           |returned u=>exact he
           |panicked ch=>rw [tD]at he⊢;exact he
           |outgrown=>obtain⟨a0,w0,h0⟩:=he;exact⟨a0,w0,by rw [h3]at h0;exact h0⟩)
    |halt x w'=>
      cases x<;>simp only [Oper.upon]at h5⊢ <;>first
        |exact h5
        |(rw [tD]at h5⊢;exact h5)
  exact h4
theorem yJ(hr:Region.ready .any ops listed=[])(h:Run P n c k Q e M D):cZ P n c ops k Q fuel I S listed e M D:=by
  intro a w hf _
  cases fuel with
  |zero=>exact⟨hr,h a w hf⟩
  |succ fuel=>exact⟨fun _=>h a w hf,by rw [hr];intro j hj;cases hj⟩
theorem vO{s:Nat}{b:Bool}(hs:cz e s=some (.bool b))(ht:b=true→cZ P n c ops k Q fuel I S listed ((s, .bool true)::e) M D)(hf:b=false→cZ P n c ops k Q fuel I S listed ((s, .bool false)::e) M D):cZ P n c ops k Q fuel I S listed e M D:=by
  intro a w hfit hT
  cases b with
  |true=>exact ht rfl a w (hfit.le (eC hs (EnvLe.refl e))) hT
  |false=>exact hf rfl a w (hfit.le (eC hs (EnvLe.refl e))) hT
theorem xa{s:Nat}{r:Prop}[Decidable r](hs:cz e s=some (.bool (decide r)))(ht:r→cZ P n c ops k Q fuel I S listed ((s, .bool true)::e) M D)(hf: ¬ r→cZ P n c ops k Q fuel I S listed ((s, .bool false)::e) M D):cZ P n c ops k Q fuel I S listed e M D:=
 vO hs (fun h=>ht (of_decide_eq_true h)) (fun h=>hf (of_decide_eq_false h))
theorem BJ{s:Nat}{b:Bool}(hs:cz e s=some (.bool b))(hb:b=true)(ht:cZ P n c ops k Q fuel I S listed ((s, .bool true)::e) M D):cZ P n c ops k Q fuel I S listed e M D:=
 vO hs (fun _=>ht) (fun h=>by rw [hb]at h;cases h)
theorem BK{s:Nat}{b:Bool}(hs:cz e s=some (.bool b))(hb:b=false)(ht:cZ P n c ops k Q fuel I S listed ((s, .bool false)::e) M D):cZ P n c ops k Q fuel I S listed e M D:=
 vO hs (fun h=>by rw [hb]at h;cases h) (fun _=>ht)
theorem zU{S:List (List HA×List DA)}: ∀ w,FitsW c M D w→ee (dg c [] S) w:=fun _ _ q hq _=>by simp [dg]at hq
theorem zE{S:List (List HA×List DA)}{s:List HA×List DA}{I:List (List Nat)}(h: ∀ w,FitsW c M D w→ee (dg c I S) w): ∀ w,FitsW c M D w→ee (dg c ([]::I) (s::S)) w:=by
 intro w hw q hq hne
 rcases List.mem_cons.1 hq with rfl|hq
 ·exact absurd Z hne
 ·exact h w hw q hq hne
theorem FitsW.sub{M':List HA}{D':List DA}{w:World}(hM:List.Sublist M' M)(hD: ∀ d∈D',d∈D)(h:FitsW c M D w):FitsW c M' D' w:=by
 have hsub:=gS hM
 exact⟨h.chg,fun y hy=>h.own y (hM.mem hy),h.nodup.sublist hsub,fun b hb=>h.foot b (hsub.mem hb),fun d hd=>d.mono (fun q hq=>⟨hq.1,hq.2.1,fun h'=>hq.2.2 (hsub.mem h')⟩) (fun _ _=>rfl) (h.dat d (hD d hd))⟩
theorem Jg{S:List (List HA×List DA)}{M':List HA}{D':List DA}{I:List (List Nat)}{is:List Nat}(hM:List.Sublist M' M)(hD: ∀ d∈D',d∈D)(h: ∀ w,FitsW c M D w→ee (dg c I S) w):
  ∀ w,FitsW c M D w→ee (dg c (is::I) ((M',D')::S)) w:=by
 intro w hw q hq hne
 rcases List.mem_cons.1 hq with rfl|hq
 ·exact hw.sub hM hD
 ·exact h w hw q hq hne
end rules
section rules
variable {P:Program} {n:Nat} {F:List Nat} {c:Ctx F} {ops:Array Oper} {k:List KI} {Q:cu} {e:dF} {M:List HA} {D:List DA} {I:List (List Nat)} {S:List (List HA×List DA)} {listed:Array Bool} {fuel:Nat}
theorem kQ{K:Act→World→Prop}{e':dF}{M':List HA}{D':List DA}(hK: ∀ a w,Fits n c e' M' D' a w→K a w)
  (he:EnvLe e' e:=by repeat (first|exact eN _|refine eC rfl ?_))
  (hM:iP M' M:=by repeat (first|exact uI _|exact zQ _|refine zB 0 rfl ?_|refine zB 1 rfl ?_|refine zB 2 rfl ?_|refine zB 3 rfl ?_|refine zB 4 rfl ?_|refine zB 5 rfl ?_|refine zB 6 rfl ?_|refine zB 7 rfl ?_|refine zB 8 rfl ?_))
  (hD: ∀ d∈D',d∈D:=by intro d hd;first|((repeat (first|exact hd|apply List.mem_cons_of_mem));done)|(rcases List.mem_cons.1 hd with rfl|hd<;>(repeat (first|exact List.mem_cons_self|exact hd|apply List.mem_cons_of_mem)))):Run P n c (.cont K::k) Q e M D:=vJ hK he hM hD
theorem tM(i:Nat){d:Nat}{op:Op}{T':TypeId}{p:String}{af:Array Edge}{g:Option (Nat×Bool)}{v:Value}{is:List Nat}(ho:ops[i]? =some ⟨some d,op,T',p,af,g⟩)(hw:Wanted ops e g)
  (hst:St P n c op T' e M D v) (next:cZ P n c ops k Q fuel ((i::is)::I) ((M,D)::S) (listed.setIfInBounds i true) ((d,v)::e) M D)
  (hs:Region.noSelect ops=true:=by decide+kernel) (hfr:(eJ .any ops listed && Region.free .any ops listed i)=true:=by decide+kernel)
  (hr:(Region.ready .any ops listed).contains i=true:=by decide+kernel) (hd:Nat.blt d n=true:=by rfl) (hQ:eK Q:=by exact xL _ _ _ _):
  cZ P n c ops k Q (fuel+1) (is::I) ((M,D)::S) listed e M D:=Cr i hQ ho hw hs hfr hr hd hst next
theorem tP(i:Nat){d:Nat}{op:Op}{T':TypeId}{p:String}{af:Array Edge}{g:Option (Nat×Bool)}{v:Value}{is:List Nat}(ho:ops[i]? =some ⟨some d,op,T',p,af,g⟩)(hw:Wanted ops e g)
  (hst:St P n c op T' e [] [] v) (next:cZ P n c ops k Q fuel ((i::is)::I) (([],[])::S) (listed.setIfInBounds i true) ((d,v)::e) M D)
  (hs:Region.noSelect ops=true:=by decide+kernel) (hfr:(eJ .any ops listed && Region.free .any ops listed i)=true:=by decide+kernel)
  (hr:(Region.ready .any ops listed).contains i=true:=by decide+kernel) (hd:Nat.blt d n=true:=by rfl) (hQ:eK Q:=by exact xL _ _ _ _):
  cZ P n c ops k Q (fuel+1) (is::I) (([],[])::S) listed e M D:=BI i hQ ho hw hs hfr hr hd hst next
theorem tS(i:Nat){d:Nat}{op:Op}{T':TypeId}{p:String}{af:Array Edge}{j s:Nat}{b b':Bool}{is:List Nat}(ho:ops[i]? =some ⟨some d,op,T',p,af,some (j,b)⟩)(hj:(ops[j]?).bind (·.dst)=some s)(hs':cz e s=some (.bool b'))(hb:(b'==b)=false)
  (next:cZ P n c ops k Q fuel ((i::is)::I) ((M,D)::S) (listed.setIfInBounds i true) ((d,undef)::e) M D)
  (hs:Region.noSelect ops=true:=by decide+kernel) (hfr:(eJ .any ops listed && Region.free .any ops listed i)=true:=by decide+kernel)
  (hr:(Region.ready .any ops listed).contains i=true:=by decide+kernel) (hd:Nat.blt d n=true:=by rfl) (hQ:eK Q:=by exact xL _ _ _ _):
  cZ P n c ops k Q (fuel+1) (is::I) ((M,D)::S) listed e M D:=Cs i hQ ho hj hs' hb hs hfr hr hd next
theorem hC{S:List (List HA×List DA)}{M':List HA}{D':List DA}{I:List (List Nat)}{is:List Nat}(h: ∀ w,FitsW c M D w→ee (dg c I S) w)
  (hM:List.Sublist M' M:=by repeat (first|exact List.Sublist.refl _|apply List.Sublist.cons)) (hD: ∀ d∈D',d∈D:=by intro d hd;repeat (first|exact hd|apply List.mem_cons_of_mem)):
  ∀ w,FitsW c M D w→ee (dg c (is::I) ((M',D')::S)) w:=Jg hM hD h
end rules
section rules
variable {P:Program} {n:Nat} {F:List Nat} {c:Ctx F} {ops:Array Oper} {k:List KI} {Q:cu} {e:dF} {M:List HA} {D:List DA} {I:List (List Nat)} {S:List (List HA×List DA)} {listed:Array Bool} {fuel:Nat}
theorem kC(i:Nat){d:Nat}{op:Op}{T':TypeId}{p:String}{af:Array Edge}{g:Option (Nat×Bool)}{v:Value}{is:List Nat}(hQ:eK Q)(ho:ops[i]? =some ⟨some d,op,T',p,af,g⟩)(hw:Wanted ops e g)(hs:Region.noSelect ops=true)(hfr:(eJ .any ops listed && Region.free .any ops listed i)=true)
  (hr:(Region.ready .any ops listed).contains i=true) (hd:Nat.blt d n=true) (hst:St P n c op T' e [] D v) (next:cZ P n c ops k Q fuel ((i::is)::I) (([],D)::S) (listed.setIfInBounds i true) ((d,v)::e) M D):
  cZ P n c ops k Q (fuel+1) (is::I) (([],D)::S) listed e M D:=by
 intro a w hf hT
 have h0:FitsW c [] D w:=hf.toFitsW.sub nS (fun _ h=>h)
 refine pD (S:=FitsW c [] D) (v:=v) ho (Region.noSelect_spec hs) (fun ch a w h=>?_) fuel listed a w is (dg c I S) (rU (Bool.and_eq_true_iff.1 hfr).1) (Region.free_spec ho (Bool.and_eq_true_iff.1 hfr).2) bt (.inl ⟨hw.of hf _ _ _ _ _,fun w' hw'=>?_⟩) h0 (fun q hq hne=>hT q (List.mem_cons_of_mem _ hq) hne) ?_
 ·rw [tD]at h⊢
  exact hQ ch a _ _ w h
 ·exact hst (some d) a w' (hf.world hw')
 ·refine next _ w (hf.put hd v) ?_
  intro q hq hne
  rcases List.mem_cons.1 hq with rfl|hq
  ·exact h0
  ·exact hT q (List.mem_cons_of_mem _ hq) hne
theorem mG(h:cZ P n c ops k Q fuel ([]::I) (([],D)::S) listed e M D):cZ P n c ops k Q fuel I S listed e M D:=by
 intro a w hf hT
 exact WT.tail fuel (h a w hf (by
  intro p hp hne
  rcases List.mem_cons.1 hp with rfl|hp
  ·exact absurd Z hne
  ·exact hT p hp hne))
theorem pE(i:Nat){d:Nat}{op:Op}{T':TypeId}{p:String}{af:Array Edge}{j s:Nat}{b b':Bool}{is:List Nat}(hQ:eK Q)(ho:ops[i]? =some ⟨some d,op,T',p,af,some (j,b)⟩)(hj:(ops[j]?).bind (·.dst)=some s)(hs':cz e s=some (.bool b'))(hb:(b'==b)=false)
  (hs:Region.noSelect ops=true) (hfr:(eJ .any ops listed && Region.free .any ops listed i)=true) (hr:(Region.ready .any ops listed).contains i=true) (hd:Nat.blt d n=true) (next:cZ P n c ops k Q fuel ((i::is)::I) (([],[])::S) (listed.setIfInBounds i true) ((d,undef)::e) M D):
  cZ P n c ops k Q (fuel+1) (is::I) (([],[])::S) listed e M D:=by
 intro a w hf hT
 have h0:FitsW c [] [] w:=hf.toFitsW.sub nS (fun _ h=>by cases h)
 refine pD (S:=FitsW c [] []) (v:=undef) ho (Region.noSelect_spec hs) (fun ch a w h=>?_) fuel listed a w is (dg c I S) (rU (Bool.and_eq_true_iff.1 hfr).1) (Region.free_spec ho (Bool.and_eq_true_iff.1 hfr).2) bt (.inr ⟨?_,rfl⟩) h0 (fun q hq hne=>hT q (List.mem_cons_of_mem _ hq) hne) ?_
 ·rw [tD]at h⊢
  exact hQ ch a _ _ w h
 ·simp only [Region.wanted,qC hf hj hs']
  cases b<;>cases b'<;>simp_all
 ·refine next _ w (hf.put hd undef) ?_
  intro q hq hne
  rcases List.mem_cons.1 hq with rfl|hq
  ·exact h0
  ·exact hT q (List.mem_cons_of_mem _ hq) hne
theorem FitsW.pick{M':List HA}{w:World}(hM:iP M' M)(h:FitsW c M D w):FitsW c M' D w:=by
 obtain⟨N,hN⟩:=qe hM
 exact(h.perm hN).sub (List.sublist_append_left M' N) (fun _ h=>h)
theorem fp{M0:List HA}(hM:iP M0 M)(h:cZ P n c ops k Q fuel ([]::I) ((M0,D)::S) listed e M D):cZ P n c ops k Q fuel I S listed e M D:=by
 intro a w hf hT
 exact WT.tail fuel (h a w hf (by
  intro p hp hne
  rcases List.mem_cons.1 hp with rfl|hp
  ·exact absurd Z hne
  ·exact hT p hp hne))
theorem uU{M0:List HA}(hM:iP M0 M)(i:Nat){d:Nat}{op:Op}{T':TypeId}{p:String}{af:Array Edge}{g:Option (Nat×Bool)}{v:Value}{is:List Nat}(hQ:eK Q)(ho:ops[i]? =some ⟨some d,op,T',p,af,g⟩)(hw:Wanted ops e g)(hs:Region.noSelect ops=true)(hfr:(eJ .any ops listed && Region.free .any ops listed i)=true)
  (hr:(Region.ready .any ops listed).contains i=true) (hd:Nat.blt d n=true) (hst:St P n c op T' e M0 D v) (next:cZ P n c ops k Q fuel ((i::is)::I) ((M0,D)::S) (listed.setIfInBounds i true) ((d,v)::e) M D):
  cZ P n c ops k Q (fuel+1) (is::I) ((M0,D)::S) listed e M D:=by
 intro a w hf hT
 have h0:FitsW c M0 D w:=hf.toFitsW.pick hM
 refine pD (S:=FitsW c M0 D) (v:=v) ho (Region.noSelect_spec hs) (fun ch a w h=>?_) fuel listed a w is (dg c I S) (rU (Bool.and_eq_true_iff.1 hfr).1) (Region.free_spec ho (Bool.and_eq_true_iff.1 hfr).2) bt (.inl ⟨hw.of hf _ _ _ _ _,fun w' hw'=>?_⟩) h0 (fun q hq hne=>hT q (List.mem_cons_of_mem _ hq) hne) ?_
 ·rw [tD]at h⊢
  exact hQ ch a _ _ w h
 ·exact hst (some d) a w' (hf.world hw')
 ·refine next _ w (hf.put hd v) ?_
  intro q hq hne
  rcases List.mem_cons.1 hq with rfl|hq
  ·exact h0
  ·exact hT q (List.mem_cons_of_mem _ hq) hne
theorem wU{M':List HA}{D':List DA}{is:List Nat}(hM:iP M' M)(hD: ∀ d∈D',d∈D)(h: ∀ w,FitsW c M D w→ee (dg c I S) w):
  ∀ w,FitsW c M D w→ee (dg c (is::I) ((M',D')::S)) w:=by
 intro w hw q hq hne
 rcases List.mem_cons.1 hq with rfl|hq
 ·exact(hw.pick hM).sub (List.Sublist.refl _) hD
 ·exact h w hw q hq hne
end rules
end Go.Jw

