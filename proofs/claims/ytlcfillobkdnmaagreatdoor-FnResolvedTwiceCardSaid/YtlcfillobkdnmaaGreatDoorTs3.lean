/- Part 3 of the proof's texts, made small by a program. -/
import Derived.Test.YtlcfillobkdnmaaGreatDoorTs2
import GoSem.Core.Float
import Derived.MapKept
import Derived.Laws.Pointers
import Derived.WalkSpells
set_option linter.unusedVariables false
set_option linter.unusedSimpArgs false
set_option maxHeartbeats 4000000
namespace Go.Jw
open Ieee
set_option maxRecDepth 8000
theorem nB(way:Toward)(neg:Bool)(a d:Nat):way.cut neg (a*2^d) d=a:=by
 rcases Nat.eq_zero_or_pos a with rfl|ha
 ·unfold Toward.cut
  have h:0<1<<<min d (Nat.log2 (0*2^d)+2):=by rw [Nat.one_shiftLeft];exact Nat.two_pow_pos _
  cases way<;>simp [Nat.ne_of_gt h]
 ·have hl:d≤(a*2^d).log2+2:=by
   have:d≤(a*2^d).log2:=(Nat.le_log2 (Nat.ne_of_gt (Nat.mul_pos ha (Nat.two_pow_pos d)))).2 (Nat.le_mul_of_pos_left _ ha)
   omega
  have hp:=Nat.two_pow_pos d
  unfold Toward.cut
  simp only [Nat.min_eq_left hl,Nat.one_shiftLeft,Nat.mul_div_cancel _ hp,Nat.mul_mod_left]
  cases way<;>simp [Nat.ne_of_gt hp]
theorem jF{m:Nat}(h:0<m)(k:Nat):(m*2^k).log2=m.log2+k:=by
 have hp:=Nat.two_pow_pos k
 refine(Nat.log2_eq_iff (Nat.ne_of_gt (Nat.mul_pos h hp))).2 ⟨?_,?_⟩
 ·rw [Nat.pow_add];exact Nat.mul_le_mul_right _ (Nat.log2_self_le (Nat.ne_of_gt h))
 ·have:= @Nat.lt_log2_self m
  rw [show m.log2+k+1=(m.log2+1)+k by omega,Nat.pow_add]
  exact Nat.mul_lt_mul_of_pos_right this hp
def fill(m:Nat):Nat:=52 - m.log2
theorem nz{m:Nat}(h:m<2^53)(h0:0<m):m.log2≤52:=by
 have:=(Nat.log2_lt (Nat.ne_of_gt h0)).2 h
 omega
theorem jG(m:Nat):fill m≤52:=Nat.sub_le ..
theorem vq{m:Nat}(h:m<2^53)(h0:0<m):2^52≤m*2^fill m:=by
 have h1:=Nat.log2_self_le (Nat.ne_of_gt h0)
 have h2:=nz h h0
 have:=Nat.mul_le_mul_right (2^fill m) h1
 rw [←Nat.pow_add,show m.log2+fill m=52 by unfold fill;omega]at this
 exact this
theorem ko{m:Nat}(h:m<2^53)(h0:0<m):m*2^fill m<2^53:=by
 have h1:= @Nat.lt_log2_self m
 have h2:=nz h h0
 have:=Nat.mul_lt_mul_of_pos_right h1 (Nat.two_pow_pos (fill m))
 rw [←Nat.pow_add,show m.log2+1+fill m=53 by unfold fill;omega]at this
 exact this
theorem lj{m:Nat}(h:m<2^53)(h0:0<m):(m*2^fill m).log2=52:=by
 rw [jF h0]
 have:=nz h h0
 unfold fill;omega
abbrev dD(neg:Bool)(m:Nat)(p:Int):Nat:=double.nearest neg m p
theorem n4(neg:Bool){m:Nat}(h0:0<m)(h:m<2^53)(k:Nat){p:Int}(hp: -900≤p)(hq:p≤900):
    dD neg (m*2^k) (p - k)=double.word neg ((p - fill m+1074).toNat*2^52+m*2^fill m):=by
  have hL:=nz h h0
  have hm:m*2^k≠0:=Nat.ne_of_gt (Nat.mul_pos h0 (Nat.two_pow_pos k))
  have hf:double.fractionBits=52:=rfl
  have hl:double.leastPlace= -1074:=by decide
  have hb:double.binade=2^52:=rfl
  have hi:double.infRung=2047*2^52:=by decide
  have hlast:max (p - k+((m*2^k).log2:Nat) - (52:Nat)) (-1074:Int)=p - fill m:=by
    rw [jF h0]
    unfold fill
    omega
  have hkept:Toward.even.cut neg ((m*2^k)<<<((p - k) - (p - fill m)).toNat) ((p - fill m) - (p - k)).toNat=m*2^fill m:=by
    rcases Nat.le_total k (fill m)with hk|hk
    · rw [show((p - k) - (p - fill m)).toNat=fill m - k by omega,show((p - fill m) - (p - k)).toNat=0 by omega,Nat.shiftLeft_eq,Nat.mul_assoc,←Nat.pow_add,show k+(fill m - k)=fill m by omega]
      have:=nB .even neg (m*2^fill m) 0
      rwa [Nat.pow_zero,Nat.mul_one]at this
    · rw [show((p - k) - (p - fill m)).toNat=0 by omega,show((p - fill m) - (p - k)).toNat=k - fill m by omega,Nat.shiftLeft_zero,
        show m*2^k=(m*2^fill m)*2^(k - fill m)by rw [Nat.mul_assoc,←Nat.pow_add];congr 2;omega]
      exact nB ..
  unfold dD Format.nearest
  rw [if_neg hm]
  simp only [hf,hl,hb,hi,hlast,hkept]
  rw [Nat.min_eq_left]
  · congr 3
  · have h1:=ko h h0
    have h2:(p - fill m - -1074).toNat≤1974:=by omega
    have h3:=Nat.mul_le_mul_right (2^52) h2
    exact Nat.le_trans (Nat.add_le_add h3 (Nat.le_of_lt h1)) aE
theorem tc(neg:Bool){m:Nat}(h0:0<m)(h:m<2^53)(k:Nat){p:Int}(hp: -900≤p)(hq:p≤900):dD neg (m*2^k) (p - k)=dD neg m p:=by
 have h2:=n4 neg h0 h 0 hp hq
 rw [n4 neg h0 h k hp hq,←h2]
 simp
theorem near_scale'(neg:Bool){m M:Nat}(h0:0<m)(h:m<2^53)(k:Nat){p P:Int}(hp: -900≤p)(hq:p≤900)(hM:M=m*2^k)(hP:P=p - k):dD neg M P=dD neg m p:=by
 subst hM;subst hP;exact tc neg h0 h k hp hq
theorem gh(neg:Bool){m:Nat}(h0:0<m)(h:m<2^53){p:Int}(hp: -900≤p)(hq:p≤900):
  dD neg m p=double.word neg ((p - fill m+1074).toNat*2^52+m*2^fill m):=by
 have h2:=n4 neg h0 h 0 hp hq
 rw [←h2]
 simp
theorem vr{m:Nat}(h0:0<m)(h:m<2^53){p:Int}(hq:p≤900):(p - fill m+1074).toNat*2^52+m*2^fill m<1976*2^52:=by
 have h1:=ko h h0
 have h2:(p - fill m+1074).toNat≤1974:=by omega
 have:=Nat.mul_le_mul_right (2^52) h2
 omega
theorem sS(neg:Bool){m:Nat}(h0:0<m)(h:m<2^53){p:Int}(hp: -900≤p)(hq:p≤900):
  double.read (dD neg m p)= .number neg (m*2^fill m) (p - fill m):=by
 have h1:=vq h h0
 have h2:=ko h h0
 have h3:=vr h0 h hq
 have hA:0≤p - fill m+1074:=by have:=jG m;omega
 rw [gh neg h0 h hp hq]
 generalize hK:m*2^fill m=K at*
 generalize hAA:(p - fill m+1074).toNat=A at*
 have hl:double.leastPlace= -1074:=by decide
 have hb:double.binade=2^52:=rfl
 have hi:double.infRung=2047*2^52:=by decide
 have hs:double.signWeight=2^63:=by decide
 have hneg:(double.word neg (A*2^52+K)/2^63%2==1)=neg:=by
  unfold Format.word
  rw [hs]
  cases neg
  ·simp only [Bool.false_eq_true,↓reduceIte]
   rw [Nat.div_eq_of_lt aC];rfl
  ·simp only [↓reduceIte]
   rw [show(2^63+(A*2^52+K))/2^63=1 by omega];rfl
 have hr:double.word neg (A*2^52+K)%2^63=A*2^52+K:=by
  unfold Format.word
  rw [hs]
  cases neg
  ·simp only [Bool.false_eq_true,↓reduceIte]
   exact Nat.mod_eq_of_lt aC
  ·simp only [↓reduceIte]
   omega
 unfold Format.read
 simp only [hl,hb,hi,hs,hneg,hr]
 rw [if_neg aC,if_pos aC]
 congr 1
 ·omega
 ·rw [show(A*2^52+K)/2^52 - 1=A by omega];omega
theorem n7(neg:Bool)(m:Nat)(p:Int):double.write (.number neg m p)=dD neg m p:=rfl
theorem Ay{m:Nat}(h0:0<m)(h:m<2^53){p:Int}(hp: -900≤p)(hq:p≤900):dD false m p^^^2^63=dD true m p:=by
  have h3:=vr h0 h hq
  rw [gh _ h0 h hp hq,gh _ h0 h hp hq]
  generalize (p - fill m+1074).toNat*2^52+m*2^fill m=R at*
  have hs:double.signWeight=2^63:=by decide
  unfold Format.word
  rw [hs]
  simp only [Bool.false_eq_true,↓reduceIte]
  have hR:R<2^63:=by omega
  apply Nat.eq_of_testBit_eq
  intro i
  rw [Nat.testBit_xor,Nat.testBit_two_pow]
  rcases Nat.lt_trichotomy i 63 with hi|hi|hi
  · rw [Nat.testBit_two_pow_add_gt hi]
    simp [show ¬ 63=i by omega]
  · subst hi
    rw [Nat.testBit_two_pow_add_eq,Nat.testBit_lt_two_pow hR]
    simp
  · rw [Nat.testBit_lt_two_pow (Nat.lt_trans hR (Nat.pow_lt_pow_right aC hi)),Nat.testBit_lt_two_pow (Nat.lt_of_lt_of_le (by omega:2^63+R<2^64) (Nat.pow_le_pow_right aC hi))]
    simp [show ¬ 63=i by omega]
theorem Az(s t:Bool){a b c k:Nat}{p q:Int}(ha:0<a)(ha':a<2^53)(hb:0<b)(hb':b<2^53)(hc':c<2^53)(hab:a*b=c*2^k)
    (hp: -400≤p) (hp':p≤400) (hq: -400≤q) (hq':q≤400) (hk:k≤100):double.mul (dD s a p) (dD t b q)=some (dD (s^^t) c (p+q+k)):=by
  have hc:0<c:=by
    rcases Nat.eq_zero_or_pos c with rfl|h
    · have:=Nat.mul_pos ha hb;omega
    · exact h
  unfold Format.mul
  rw [sS s ha ha' aC aC,sS t hb hb' aC aC]
  show some (dD (s^^t) _ _)=_
  congr 1
  refine near_scale' _ hc hc' (k+fill a+fill b) aC aC ?_ aC
  rw [Nat.pow_add,Nat.pow_add]
  calc a*2^fill a*(b*2^fill b)=(a*b)*(2^fill a*2^fill b):=by ac_rfl
    _=c*(2^k*2^fill a*2^fill b):=by rw [hab];ac_rfl
theorem DW(s t:Bool){A B:Nat}(p q:Int)(hB:0<B)(hA:A.log2=52)(hl:B.log2=52){X:Nat}(hX:A<<<54=X*B):Datum.quotient 54 (.number s A p) (.number t B q)=some (.number (s^^t) (2*X) (p - q - 54 - 1)):=by
 unfold Datum.quotient
 simp only [if_neg (Nat.ne_of_gt hB),hA,hl,Nat.add_sub_cancel]
 rw [hX,Nat.mul_div_cancel _ hB,Nat.mul_mod_left]
 rfl
theorem A7{a b c h x y:Nat}(hab:a*2^h=b*c)(hh:h≤2)(hy:y≤52):(a*2^x)<<<54=(c*2^(54+x - h - y))*(b*2^y):=by
 rw [Nat.shiftLeft_eq]
 have e1:a*2^x*2^54=a*2^h*2^(54+x - h - y)*2^y:=by
  rw [Nat.mul_assoc,Nat.mul_assoc (a*2^h),Nat.mul_assoc a,←Nat.pow_add,←Nat.pow_add,←Nat.pow_add]
  congr 2;omega
 rw [e1,hab];ac_rfl
theorem H8{a b c h:Nat}(ha:0<a)(hab:a*2^h=b*c):0<c:=by
 rcases Nat.eq_zero_or_pos c with rfl|hc
 ·have:=Nat.mul_pos ha (Nat.two_pow_pos h);rw [hab]at this;exact absurd this aJ
 ·exact hc
theorem x6(c X:Nat):2*(c*2^X)=c*2^(X+1):=by
 rw [Nat.pow_succ]
 ac_rfl
theorem BA(s t:Bool){a b c h:Nat}{p q:Int}(ha:0<a)(ha':a<2^53)(hb:0<b)(hb':b<2^53)(hc':c<2^53)(hab:a*2^h=b*c)(hh:h≤2)
  (hp: -400≤p) (hp':p≤400) (hq: -400≤q) (hq':q≤400):double.div (dD s a p) (dD t b q)=some (dD (s^^t) c (p - q - h)):=by
 have hd:=A7 (x:=fill a) (y:=fill b) hab hh (jG b)
 have hq2:=DW s t (p - fill a) (q - fill b) (Nat.mul_pos hb (Nat.two_pow_pos _)) (lj ha' ha) (lj hb' hb) hd
 have h54:double.fractionBits+2=54:=rfl
 have hfa:=jG a
 have hfb:=jG b
 unfold Format.div
 rw [sS s ha ha' aC aC,sS t hb hb' aC aC,h54,hq2,Option.map_some,n7]
 exact congrArg some (near_scale' _ (H8 ha hab) hc' (54+fill a - h - fill b+1) aC aC (x6 _ _) aC)
theorem jH(s:Bool)(m j k:Nat):signed s (m*2^k) j=signed s m (k+j):=by
 unfold signed
 rw [Nat.shiftLeft_eq,Nat.shiftLeft_eq,Nat.mul_assoc,←Nat.pow_add]
theorem fP(s:Bool)(m j k:Nat):signed s m (j+k)=signed s m j*((2^k:Nat):Int):=by
 unfold signed
 rw [Nat.shiftLeft_eq,Nat.shiftLeft_eq,Nat.pow_add,←Nat.mul_assoc]
 cases s
 ·simp only [Bool.false_eq_true,↓reduceIte];rw [Int.natCast_mul]
 ·simp only [↓reduceIte];rw [Int.natCast_mul,Int.neg_mul]
theorem kE(x y:Int){k:Int}(hk:0<k):compare (x*k) (y*k)=compare x y:=by
 simp only [Int.compare_eq_ite_lt]
 have h1:x*k<y*k↔x<y:=⟨fun h=>Int.lt_of_mul_lt_mul_right h (Int.le_of_lt hk),fun h=>Int.mul_lt_mul_of_pos_right h hk⟩
 have h2:y*k<x*k↔y<x:=⟨fun h=>Int.lt_of_mul_lt_mul_right h (Int.le_of_lt hk),fun h=>Int.mul_lt_mul_of_pos_right h hk⟩
 simp only [h1,h2]
theorem iL(s t:Bool){a b:Nat}{p q B:Int}(ha:0<a)(ha':a<2^53)(hb:0<b)(hb':b<2^53)
    (hp: -900≤p) (hp':p≤900) (hq: -900≤q) (hq':q≤900) (hB:B≤p) (hB':B≤q):double.order (dD s a p) (dD t b q)=some (compare (signed s a (p - B).toNat) (signed t b (q - B).toNat)):=by
  unfold Format.order
  rw [sS s ha ha' hp hp',sS t hb hb' hq hq']
  unfold Datum.order
  simp only []
  congr 1
  rw [jH,jH]
  generalize hm:min (p - fill a) (q - fill b)=M
  have h1:M≤p - fill a:=by omega
  have h2:M≤q - fill b:=by omega
  rcases Int.le_total M B with h|h
  · rw [show fill a+(p - fill a - M).toNat=(p - B).toNat+(B - M).toNat by omega,show fill b+(q - fill b - M).toNat=(q - B).toNat+(B - M).toNat by omega,fP,fP]
    exact kE _ _ (Int.natCast_pos.2 (Nat.two_pow_pos _))
  · rw [show(p - B).toNat=(fill a+(p - fill a - M).toNat)+(M - B).toNat by omega,show(q - B).toNat=(fill b+(q - fill b - M).toNat)+(M - B).toNat by omega,fP s a (fill a+(p - fill a - M).toNat) (M - B).toNat,fP t b (fill b+(q - fill b - M).toNat) (M - B).toNat]
    exact(kE _ _ (Int.natCast_pos.2 (Nat.two_pow_pos _))).symm
theorem ll(s:Bool){m j:Nat}(h0:0<m)(h:m<2^53)(hj:j≤2):(double.read (dD s m (-(j:Int)))).toInt .zero=some (if s then -((m/2^j:Nat):Int)else((m/2^j:Nat):Int)):=by
 rw [sS s h0 h aC aC]
 unfold Datum.toInt Datum.integral
 have hf:=jG m
 simp only []
 rw [show(-(j:Int) - fill m).toNat=0 by omega,show(-(-(j:Int) - fill m)).toNat=j+fill m by omega,Nat.shiftLeft_zero]
 have hcut:Toward.zero.cut s (m*2^fill m) (j+fill m)=m/2^j:=by
  unfold Toward.cut
  rw [lj h h0,Nat.min_eq_left aC,Nat.one_shiftLeft,Nat.pow_add]
  simp only [Bool.toNat_false,Nat.add_zero]
  exact Nat.mul_div_mul_right _ _ (Nat.two_pow_pos _)
 rw [hcut]
 unfold signed
 simp
theorem x7:double.read 0= .number false 0 (-1074):=by decide
theorem td(s:Bool){a:Nat}{p:Int}(ha:0<a)(ha':a<2^53)(hp: -900≤p)(hp':p≤900):double.order (dD s a p) 0=some (if s then .lt else .gt):=by
 unfold Format.order
 rw [sS s ha ha' hp hp',x7]
 unfold Datum.order signed
 simp only [Nat.shiftLeft_eq,Nat.zero_mul,Bool.false_eq_true,↓reduceIte]
 have:=Nat.mul_pos (Nat.mul_pos ha (Nat.two_pow_pos (fill a))) (Nat.two_pow_pos (p - fill a - min (p - fill a) (-1074)).toNat)
 cases s
 ·simp only [Bool.false_eq_true,↓reduceIte,Int.compare_eq_ite_lt]
  rw [if_neg aC,if_pos aC]
 ·simp only [↓reduceIte,Int.compare_eq_ite_lt]
  rw [if_pos aC]
end Go.Jw

namespace Go.Jw
open Ieee
def qw(n:Int):Nat:=dD (decide (n<0)) n.natAbs (-2)
theorem ph(s:Bool){m a n:Nat}(hn:0<n)(hn':n<2^53)(hm:m<2^53)(hb:10^a<2^53)(h:m*4=10^a*n):double.div (dD s m 0) (dD false (10^a) 0)=some (dD s n (-2)):=by
 have hp:0<10^a:=Nat.pow_pos aC
 have h0:0<m:=by
  rcases Nat.eq_zero_or_pos m with rfl|h0
  ·have:=Nat.mul_pos hp hn;omega
  ·exact h0
 have:=BA (p:=0) (q:=0) (h:=2) s false h0 hm hp hb hn' h aC aC aC aC aC
 simpa using this
section
variable {n:Int} (h0:n≠0) (h1: -1000000000<n) (h2:n<1000000000)
 include h0 h1 h2
theorem x8:0<n.natAbs∧n.natAbs<2^53∧n.natAbs<1000000000:=by omega
theorem BB(t:Bool):double.order (qw n) (dD t 1000000000000 0)=some (if t then .gt else .lt):=by
 obtain⟨a1,a2,a3⟩:=x8 h0 h1 h2
 unfold qw
 rw [iL (B:= -2) _ t a1 a2 aC aC aC aC aC aC aC aC]
 congr 1
 rw [show((-2:Int) - -2).toNat=0 from rfl,show((0:Int) - -2).toNat=2 from rfl]
 unfold signed
 simp only [Nat.shiftLeft_eq]
 cases t<;>by_cases hs:n<0<;>simp only [hs,decide_true,decide_false,Bool.false_eq_true,↓reduceIte,Int.compare_eq_ite_lt]<;>(repeat' split)<;>first|rfl|omega
theorem DY:double.mul (qw n) (dD false 4 0)=some (dD (decide (n<0)) n.natAbs 0):=by
 obtain⟨a1,a2,a3⟩:=x8 h0 h1 h2
 have:=Az (p:= -2) (q:=0) (k:=2) (c:=n.natAbs) (decide (n<0)) false a1 a2 (b:=4) aC aC a2 rfl aC aC aC aC aC
 unfold qw
 rw [this]
 simp
theorem BD:(double.read (dD (decide (n<0)) n.natAbs 0)).toInt .zero=some n:=by
 obtain⟨a1,a2,a3⟩:=x8 h0 h1 h2
 have:=ll (decide (n<0)) (j:=0) a1 a2 aC
 rw [show(-((0:Nat):Int))=0 from rfl]at this
 rw [this]
 simp only [Nat.pow_zero,Nat.div_one,Option.some.injEq]
 by_cases hs:n<0<;>simp [hs]<;>omega
theorem H9:double.order (dD (decide (n<0)) n.natAbs 0) (dD (decide (n<0)) n.natAbs 0)=some .eq:=by
 obtain⟨a1,a2,a3⟩:=x8 h0 h1 h2
 rw [iL (B:=0) _ _ a1 a2 a1 a2 aC aC aC aC aC aC]
 simp [Int.compare_eq_ite_lt]
theorem F0:(double.read (qw n)).toInt .zero=some (n.tdiv 4):=by
 obtain⟨a1,a2,a3⟩:=x8 h0 h1 h2
 have:=ll (decide (n<0)) (j:=2) a1 a2 aC
 rw [show(-((2:Nat):Int))= -2 from rfl]at this
 unfold qw
 rw [this,Option.some.injEq]
 by_cases hs:n<0
 ·simp only [hs,decide_true,↓reduceIte]
  have h3:n= -(n.natAbs:Int):=by omega
  conv=>rhs;rw [h3]
  rw [Int.neg_tdiv,show((4:Int))=((4:Nat):Int)from rfl,←Int.ofNat_tdiv]
 ·simp only [hs,decide_false,Bool.false_eq_true,↓reduceIte]
  have h3:n=(n.natAbs:Int):=by omega
  conv=>rhs;rw [h3]
  rw [show((4:Int))=((4:Nat):Int)from rfl,←Int.ofNat_tdiv]
theorem IA(hm:n.tmod 4≠0):double.order (qw n) (dD (decide (n.tdiv 4<0)) (n.tdiv 4).natAbs 0)≠some .eq:=by
  obtain⟨a1,a2,a3⟩:=x8 h0 h1 h2
  have e:=Int.tdiv_mul_add_tmod n 4
  rcases Decidable.em (n.tdiv 4=0)with hz|hz
  · rw [hz]
    have:=td (decide (n<0)) a1 a2 (p:= -2) aC aC
    unfold qw
    rw [show dD (decide ((0:Int)<0)) (0:Int).natAbs 0=0 from rfl,this]
    split<;>simp
  · have b1:0<(n.tdiv 4).natAbs:=by omega
    have b2:(n.tdiv 4).natAbs<2^53:=by
      have:=Int.natAbs_tdiv_le_natAbs n 4
      omega
    unfold qw
    rw [iL (B:= -2) _ _ a1 a2 b1 b2 aC aC aC aC aC aC]
    rw [show((-2:Int) - -2).toNat=0 from rfl,show((0:Int) - -2).toNat=2 from rfl]
    have s1:signed (decide (n<0)) n.natAbs 0=n:=by
      unfold signed
      rw [Nat.shiftLeft_zero]
      by_cases hs:n<0<;>simp [hs]<;>omega
    generalize n.tdiv 4=z at*
    have s2:signed (decide (z<0)) z.natAbs 2=4*z:=by
      unfold signed
      rw [Nat.shiftLeft_eq]
      by_cases hs:z<0<;>simp only [hs,decide_true,decide_false,Bool.false_eq_true,↓reduceIte]<;>omega
    rw [s1,s2]
    simp only [Int.compare_eq_ite_lt]
    (repeat' split)<;>first|(exfalso;omega)|simp
end
theorem F1:dD false 1000000000000 0=4786511204640096256:=by decide
theorem DZ:dD true 1000000000000 0=14009883241494872064:=by decide
theorem MN:dD false 4 0=4616189618054758400:=by decide
theorem KE:dD false (10^1) 0=4621819117588971520:=by decide
theorem IB:dD false (10^2) 0=4636737291354636288:=by decide
theorem ya:dD false (10^6) 0=4696837146684686336:=by decide
end Go.Jw

namespace Go.Jw
open Go Go.RowKit

inductive EV where
  |str (s:ByteArray)
  |bool (x:Bool)
inductive FVal where
  |text (s:ByteArray)
  |bool (x:Bool)
  |int (n:Int)
  |numI (n:Int)
  |numF (f:Nat)
  |sbS (b:Nat)
  |sbB (x:Bool)
  |itS (b:Nat)
  |itL (bs:List Nat)
  |texts (l:List ByteArray)
  |named (l:List (ByteArray×Nat))
  |deps (l:List (ByteArray×List ByteArray))
  |enums (l:List EV)
  |tyS (s:ByteArray)
  |tyL (l:List ByteArray)
  |list (bs:List Nat)
  |one (b:Nat)
  |any
abbrev cD(b:Nat):Value:= .pointer (some ⟨b,0,none⟩)
def PtsTo(w:World)(ok:Nat→Prop)(p:Addr)(v:Value):Prop:=ok p.block∧w.cell? p=some v
def BlkP(w:World)(ok:Nat→Prop)(b:Nat)(cs:List Value)(T:TypeId):Prop:=ok b∧w.heap[b]? =some (.cells cs.toArray T (0,0))
def RowPtrs(w:World)(ok:Nat→Prop)(v:Value)(bs:List Nat):Prop:= ∃A c,v= .slice A bs.length c∧bs.length≤c∧c≤maxLen∧ ∀ i b,bs[i]? =some b→ ∃a,A=some a∧ok a.block∧w.cell? (a.add i)=some (cD b)
def EvP(w:World)(ok:Nat→Prop)(e:EV)(u v:Value):Prop:=match e with
  | .str s=> ∃p,u= .pointer (some p)∧v= .pointer none∧s.size≤maxLen∧PtsTo w ok p (.string s)
  | .bool x=> ∃p,u= .pointer none∧v= .pointer (some p)∧PtsTo w ok p (.bool x)
def FvP(w:World)(ok:Nat→Prop):FVal→Value→Prop
  | .text s,v=> ∃p,v= .pointer (some p)∧s.size≤maxLen∧PtsTo w ok p (.string s)
  | .bool x,v=> ∃p,v= .pointer (some p)∧PtsTo w ok p (.bool x)
  | .int n,v=> ∃p,v= .pointer (some p)∧PtsTo w ok p (.int .i64 n)
  | .numI n,v=> ∃b p,v=cD b∧BlkP w ok b [.pointer (some p), .pointer none] 213∧PtsTo w ok p (.int .i64 n)
  | .numF f,v=> ∃b p,v=cD b∧BlkP w ok b [.pointer none, .pointer (some p)] 213∧PtsTo w ok p (.float .f64 f)
  | .sbS c,v=> ∃b,v=cD b∧BlkP w ok b [cD c, .pointer none] 185
  | .sbB x,v=> ∃b p,v=cD b∧BlkP w ok b [.pointer none, .pointer (some p)] 185∧PtsTo w ok p (.bool x)
  | .itS c,v=> ∃b,v=cD b∧BlkP w ok b [cD c, .pointer none] 187
  | .itL bs,v=> ∃b p sl,v=cD b∧BlkP w ok b [.pointer none, .pointer (some p)] 187∧PtsTo w ok p sl∧RowPtrs w ok sl bs
  | .texts l,v=> ∃p sl,v= .pointer (some p)∧PtsTo w ok p sl∧StrsP w ok sl l
  | .named l,v=> ∃p sl nbs,v= .pointer (some p)∧PtsTo w ok p sl∧RowPtrs w ok sl nbs∧nbs.length=l.length∧ ∀ (i:Nat) (q:ByteArray×Nat) (nb:Nat),l[i]? =some q→nbs[i]? =some nb→q.1.size≤maxLen∧BlkP w ok nb [.string q.1,cD q.2] 179
  | .deps l,v=> ∃p sl nbs,v= .pointer (some p)∧PtsTo w ok p sl∧RowPtrs w ok sl nbs∧nbs.length=l.length∧ ∀ (i:Nat) (q:ByteArray×List ByteArray) (nb:Nat),l[i]? =some q→nbs[i]? =some nb→
      ∃tb p2 sl2,q.1.size≤maxLen∧BlkP w ok nb [.string q.1,cD tb] 192∧BlkP w ok tb [.pointer none, .pointer (some p2)] 194∧PtsTo w ok p2 sl2∧StrsP w ok sl2 q.2
  | .enums l,v=> ∃p A c,v= .pointer (some p)∧PtsTo w ok p (.slice A l.length c)∧l.length≤c∧c≤maxLen∧ ∀ i e,l[i]? =some e→ ∃a u u',A=some a∧ok a.block∧w.cell? (a.add (i*2))=some u∧w.cell? (a.add (i*2+1))=some u'∧EvP w ok e u u'
  | .tyS s,v=> ∃b p,v=cD b∧s.size≤maxLen∧BlkP w ok b [.pointer (some p), .pointer none] 196∧PtsTo w ok p (.string s)
  | .tyL l,v=> ∃b p sl,v=cD b∧BlkP w ok b [.pointer none, .pointer (some p)] 196∧PtsTo w ok p sl∧StrsP w ok sl l
  | .list bs,v=> ∃p sl,v= .pointer (some p)∧PtsTo w ok p sl∧RowPtrs w ok sl bs
  | .one c,v=>v=cD c
  | .any,v=> ∃p,v= .pointer (some p)
section
variable {w w':World} {ok ok':Nat→Prop}
theorem PtsTo.mono(h1: ∀ k,ok k→ok' k)(h2: ∀ k,ok k→w'.heap[k]? =w.heap[k]?){p:Addr}{v:Value}(h:PtsTo w ok p v):PtsTo w' ok' p v:=
 ⟨h1 _ h.1,by rw [sO (w:=w) (w':=w') (h2 _ h.1)];exact h.2⟩
theorem BlkP.mono(h1: ∀ k,ok k→ok' k)(h2: ∀ k,ok k→w'.heap[k]? =w.heap[k]?){b:Nat}{cs:List Value}{T:TypeId}(h:BlkP w ok b cs T):BlkP w' ok' b cs T:=⟨h1 _ h.1,(h2 _ h.1).trans h.2⟩
theorem ee(h2: ∀ k,ok k→w'.heap[k]? =w.heap[k]?){a:Addr}{i:Nat}{v:Value}(hok:ok a.block)(h:w.cell? (a.add i)=some v):w'.cell? (a.add i)=some v:=by
 rw [sO (w:=w) (w':=w') (a:=a.add i) bN];exact h
theorem RowPtrs.mono(h1: ∀ k,ok k→ok' k)(h2: ∀ k,ok k→w'.heap[k]? =w.heap[k]?){v:Value}{bs:List Nat}(h:RowPtrs w ok v bs):RowPtrs w' ok' v bs:=by
 obtain⟨A,c,hv,hl,hc,hk⟩:=h
 refine⟨A,c,hv,hl,hc,fun i b hi=>?_⟩
 obtain⟨a,ha,hok,hcell⟩:=hk i b hi
 exact⟨a,ha,h1 _ hok,ee h2 hok hcell⟩
theorem EvP.mono(h1: ∀ k,ok k→ok' k)(h2: ∀ k,ok k→w'.heap[k]? =w.heap[k]?){e:EV}{u v:Value}(h:EvP w ok e u v):EvP w' ok' e u v:=by
  cases e with
  |str s=>obtain⟨p,a,b,c,d⟩:=h;exact⟨p,a,b,c,d.mono h1 h2⟩
  |bool x=>obtain⟨p,a,b,d⟩:=h;exact⟨p,a,b,d.mono h1 h2⟩
theorem FvP.mono(h1: ∀ k,ok k→ok' k)(h2: ∀ k,ok k→w'.heap[k]? =w.heap[k]?){f:FVal}{v:Value}(h:FvP w ok f v):FvP w' ok' f v:=by
  cases f with
  |text s=>obtain⟨p,a,b,c⟩:=h;exact⟨p,a,b,c.mono h1 h2⟩
  |bool x=>obtain⟨p,a,b⟩:=h;exact⟨p,a,b.mono h1 h2⟩
  |int n=>obtain⟨p,a,b⟩:=h;exact⟨p,a,b.mono h1 h2⟩
  |numI n=>obtain⟨b,p,a,c,d⟩:=h;exact⟨b,p,a,c.mono h1 h2,d.mono h1 h2⟩
  |numF n=>obtain⟨b,p,a,c,d⟩:=h;exact⟨b,p,a,c.mono h1 h2,d.mono h1 h2⟩
  |sbS c=>obtain⟨b,a,d⟩:=h;exact⟨b,a,d.mono h1 h2⟩
  |sbB x=>obtain⟨b,p,a,c,d⟩:=h;exact⟨b,p,a,c.mono h1 h2,d.mono h1 h2⟩
  |itS c=>obtain⟨b,a,d⟩:=h;exact⟨b,a,d.mono h1 h2⟩
  |itL bs=>obtain⟨b,p,sl,a,c,d,e⟩:=h;exact⟨b,p,sl,a,c.mono h1 h2,d.mono h1 h2,e.mono h1 h2⟩
  |texts l=>obtain⟨p,sl,a,d,e⟩:=h;exact⟨p,sl,a,d.mono h1 h2,e.mono h1 h2⟩
  |named l=>
    obtain⟨p,sl,nbs,a,d,e,f,g⟩:=h
    exact⟨p,sl,nbs,a,d.mono h1 h2,e.mono h1 h2,f,fun i q nb hq hnb=>⟨(g i q nb hq hnb).1,(g i q nb hq hnb).2.mono h1 h2⟩⟩
  |deps l=>
    obtain⟨p,sl,nbs,a,d,e,f,g⟩:=h
    refine⟨p,sl,nbs,a,d.mono h1 h2,e.mono h1 h2,f,fun i q nb hq hnb=>?_⟩
    obtain⟨tb,p2,sl2,a1,a2,a3,a4,a5⟩:=g i q nb hq hnb
    exact⟨tb,p2,sl2,a1,a2.mono h1 h2,a3.mono h1 h2,a4.mono h1 h2,a5.mono h1 h2⟩
  |enums l=>
    obtain⟨p,A,c,a,d,e,f,g⟩:=h
    refine⟨p,A,c,a,d.mono h1 h2,e,f,fun i q hq=>?_⟩
    obtain⟨a,u,u',a1,a2,a3,a4,a5⟩:=g i q hq
    exact⟨a,u,u',a1,h1 _ a2,ee h2 a2 a3,ee h2 a2 a4,a5.mono h1 h2⟩
  |tyS s=>obtain⟨b,p,a,c,d,e⟩:=h;exact⟨b,p,a,c,d.mono h1 h2,e.mono h1 h2⟩
  |tyL l=>obtain⟨b,p,sl,a,c,d,e⟩:=h;exact⟨b,p,sl,a,c.mono h1 h2,d.mono h1 h2,e.mono h1 h2⟩
  |list bs=>obtain⟨p,sl,a,d,e⟩:=h;exact⟨p,sl,a,d.mono h1 h2,e.mono h1 h2⟩
  |one c=>exact h
  |any=>exact h
end
def DA.fv(v:Value)(f:FVal):DA:=⟨fun w ok=>FvP w ok f v,fun h1 h2 h=>FvP.mono h1 h2 h⟩
def DA.pts(p:Addr)(v:Value):DA:=⟨fun w ok=>PtsTo w ok p v,fun h1 h2 h=>PtsTo.mono h1 h2 h⟩
def DA.rowp(v:Value)(bs:List Nat):DA:=⟨fun w ok=>RowPtrs w ok v bs,fun h1 h2 h=>RowPtrs.mono h1 h2 h⟩
abbrev Flds:=Nat→Option FVal
def CellsP(w:World)(ok:Nat→Prop)(mb:Nat)(cs:List Value)(f:Flds):Prop:=
  cs.length=37∧cs[0]? =some (.map (some mb))∧ ∀ i,1≤i→i≤36→ ∃u,cs[i]? =some u∧match f i with
    |none=>u= .pointer none
    |some v=>FvP w ok v u
theorem CellsP.mono{w w':World}{ok ok':Nat→Prop}(h1: ∀ k,ok k→ok' k)(h2: ∀ k,ok k→w'.heap[k]? =w.heap[k]?){mb:Nat}{cs:List Value}{f:Flds}(h:CellsP w ok mb cs f):CellsP w' ok' mb cs f:=by
  refine⟨h.1,h.2.1,fun i hi hj=>?_⟩
  obtain⟨u,hu,hm⟩:=h.2.2 i hi hj
  refine⟨u,hu,?_⟩
  cases hf:f i with
  |none=>rw [hf]at hm;exact hm
  |some v=>rw [hf]at hm;exact FvP.mono h1 h2 hm
def DA.flds(mb:Nat)(cs:List Value)(f:Flds):DA:=⟨fun w ok=>CellsP w ok mb cs f,fun h1 h2 h=>CellsP.mono h1 h2 h⟩
abbrev Gr:=List (Nat×List Value×Flds)
def DA.graph(mb:Nat)(G:Gr):DA:=⟨fun w ok=> ∀ g∈G,CellsP w ok mb g.2.1 g.2.2,fun h1 h2 h g hg=>CellsP.mono h1 h2 (h g hg)⟩
def Gr.blks(G:Gr):List (Nat×List Value):=G.map fun g=>(g.1,g.2.1)
def Gr.at(G:Gr)(b:Nat)(f:Flds):Prop:= ∃cs,(b,cs,f)∈G
def Flds.set(f:Flds)(i:Nat)(v:FVal):Flds:=fun j=>if j=i then some v else f j

section rules
variable {P:Program} {n:Nat} {F:List Nat} {c:Ctx F} {ops:Array Oper} {d:Nat} {T:TypeId} {l:List Oper} {k:List KI} {Q:Post} {e:cp} {M:List HA} {D:List DA}
theorem yO(x:DA)(h: ∀ (w:World) (ok:Nat→Prop),(∀ d∈D,d.p w ok)→x.p w ok)(next:Run P n c k Q e M (x::D)):Run P n c k Q e M D:=
 tC (D':=x::D) (fun w ok hd y hy=>(List.mem_cons.1 hy).elim (fun e=>e▸h w ok hd) (hd y)) next
theorem jI(x:DA)(h: ∀ (w:World) (ok:Nat→Prop),(∀ d∈D,d.p w ok)→x.p w ok)(next:bu P n c ops l k Q e M (x::D)):bu P n c ops l k Q e M D:=
 AB (D':=x::D) (fun w ok hd y hy=>(List.mem_cons.1 hy).elim (fun e=>e▸h w ok hd) (hd y)) next
theorem dget{w:World}{ok:Nat→Prop}(h: ∀ d∈D,d.p w ok)(j:Nat){x:DA}(hj:D[j]? =some x):x.p w ok:=h x (List.mem_of_getElem? hj)
theorem yM(j:Nat){x:Operand}{p:Addr}{v:Value}(hT:cJ P T)(hd:Nat.blt d n=true)(hx:ev e x=some (.pointer (some p)))(hj:D[j]? =some (.pts p v))
  (next:bu P n c ops l k Q ((d,v)::e) M D) {T':TypeId}:b0 P n c ops (some d) (.load T x) T' l k Q e M D:=
 yE hT hd hx (fun _ h=>(h.dt hj).2) next
theorem te(j:Nat){x:Operand}{p:Addr}{v:Value}(hT:cJ P T)(hx:ev e x=some (.pointer (some p)))(hj:D[j]? =some (.pts p v)){T':TypeId}:St P n c (.load T x) T' e M D v:=
 wL hT hx (fun _ h=>(h.dt hj).2)
theorem pi(cs:List Value)(o:Nat)(v:Value)(h:o<cs.length):dZ cs o [v]=cs.set o v:=by
 simp [dZ]
theorem eh(i:Nat){x y:Operand}{b o:Nat}{cs:List Value}{U S:TypeId}{v:Value}(hx:ev e x=some (.pointer (some ⟨b,o,none⟩)))(hy:ev e y=some v)(hi:M[i]? =some (.blk b cs U))(hv:v.cells= #[v])(h1:v.oneCell'=true)
  (hs: ∃i,P.info? S=some i∧i.size=1) (hl:o<cs.length) (next:bu P n c ops l k Q e (M.set i (.blk b (cs.set o v) U)) D):
  b0 P n c ops none (.store S x y) T l k Q e M D:=by
 refine zF i (vs:=[v]) hx hy hi (by rw [hv]) (by simpa using hs) bp (by simp [h1]) Z ?_
 rw [pi cs o v hl]
 exact next
theorem sC(i:Nat){x:Operand}{b o:Nat}{cs:List Value}{U:TypeId}{v:Value}(hT:cJ P T)(hd:Nat.blt d n=true)(hx:ev e x=some (.pointer (some ⟨b,o,none⟩)))(hi:M[i]? =some (.blk b cs U))(hv:cs[o]? =some v)
  (next:bu P n c ops l k Q ((d,v)::e) M D) {T':TypeId}:b0 P n c ops (some d) (.load T x) T' l k Q e M D:=
 yE hT hd hx (fun _ h=>dQ h hi hv) next
theorem nC{w:World}(h:FitsW c M D w){i b o:Nat}{U:TypeId}{gs:List (Nat×List Value)}{cs:List Value}{v:Value}(hi:M[i]? =some (.many U gs))(hb:(b,cs)∈gs)(hv:cs[o]? =some v):w.cell? ⟨b,o,none⟩=some v:=by
 have:=(h.mem hi:(HA.many U gs).holds w) _ hb
 rw [uO this];exact hv
theorem yT(i:Nat){x:Operand}{b o:Nat}{U:TypeId}{gs:List (Nat×List Value)}{cs:List Value}{v:Value}(hT:cJ P T)(hd:Nat.blt d n=true)(hx:ev e x=some (.pointer (some ⟨b,o,none⟩)))(hi:M[i]? =some (.many U gs))(hb:(b,cs)∈gs)(hv:cs[o]? =some v)
  (next:bu P n c ops l k Q ((d,v)::e) M D) {T':TypeId}:b0 P n c ops (some d) (.load T x) T' l k Q e M D:=
 yE hT hd hx (fun _ h=>nC h hi hb hv) next
theorem qY(i j:Nat){U:TypeId}{gs gs':List (Nat×List Value)}(hi:M[i]? =some (.many U gs))(hj:(M.eraseIdx i)[j]? =some (.many U gs'))(next:Run P n c k Q e (.many U (gs++gs')::(M.eraseIdx i).eraseIdx j) D):Run P n c k Q e M D:=by
 intro a w hf
 have h1:=hf.toFitsW.perm ((vH hi).trans ((vH hj).cons _))
 refine next a w (hf.world ⟨h1.chg,?_,?_,?_,?_⟩)
 ·intro x hx
  rcases List.mem_cons.1 hx with rfl|hx
  ·intro g hg
   rcases List.mem_append.1 hg with hg|hg
   ·exact(h1.own _ List.mem_cons_self:(HA.many U gs).holds w) g hg
   ·exact(h1.own _ (List.mem_cons_of_mem _ List.mem_cons_self):(HA.many U gs').holds w) g hg
  ·exact h1.own x (List.mem_cons_of_mem _ (List.mem_cons_of_mem _ hx))
 ·have:=h1.nodup
  simpa [foots,HA.foot]using this
 ·intro b hb
  exact h1.foot b (by simpa [foots,HA.foot]using hb)
 ·intro x hx
  refine x.mono (fun q hq=>⟨hq.1,hq.2.1,?_⟩) (fun _ _=>rfl) (h1.dat x hx)
  have:=hq.2.2
  simpa [foots,HA.foot]using this
theorem lm(i:Nat){b:Nat}{cs:List Value}{U:TypeId}(hi:M[i]? =some (.blk b cs U))(next:Run P n c k Q e (.many U [(b,cs)]::M.eraseIdx i) D):Run P n c k Q e M D:=by
 intro a w hf
 have h1:=hf.toFitsW.perm (vH hi)
 refine next a w (hf.world ⟨h1.chg,?_,?_,?_,?_⟩)
 ·intro x hx
  rcases List.mem_cons.1 hx with rfl|hx
  ·intro g hg
   rcases List.mem_singleton.1 hg with rfl
   exact(h1.own _ List.mem_cons_self:(HA.blk b cs U).holds w)
  ·exact h1.own x (List.mem_cons_of_mem _ hx)
 ·simpa [foots,HA.foot]using h1.nodup
 ·intro q hq;exact h1.foot q (by simpa [foots,HA.foot]using hq)
 ·intro x hx
  refine x.mono (fun q hq=>⟨hq.1,hq.2.1,?_⟩) (fun _ _=>rfl) (h1.dat x hx)
  have:=hq.2.2
  simpa [foots,HA.foot]using this
theorem gi(U:TypeId)(next:Run P n c k Q e (.many U []::M) D):Run P n c k Q e M D:=
 fun a w hf=>next a w (hf.world (hf.toFitsW.cons0 bf (by intro g hg;cases hg)))
theorem sJ(i j:Nat){mb:Nat}{G G':Gr}(hi:D[i]? =some (.graph mb G))(hj:D[j]? =some (.graph mb G'))(next:Run P n c k Q e M (.graph mb (G++G')::D)):Run P n c k Q e M D:=
 yO (.graph mb (G++G')) (fun w ok h g hg=>(List.mem_append.1 hg).elim (fun h1=>(dget h i hi:(DA.graph mb G).p w ok) g h1) (fun h1=>(dget h j hj:(DA.graph mb G').p w ok) g h1)) next
theorem ln(j:Nat){mb b:Nat}{cs:List Value}{f:Flds}(hj:D[j]? =some (.flds mb cs f))(next:Run P n c k Q e M (.graph mb [(b,cs,f)]::D)):Run P n c k Q e M D:=
 yO (.graph mb [(b,cs,f)]) (fun w ok h g hg=>by rcases List.mem_singleton.1 hg with rfl;exact dget h j hj) next
theorem xW{x y:Operand}{S E sz by_:Nat}(hS:cM P S E sz by_)(hd:Nat.blt d n=true)(hx:ev e x=some (.int .i64 0))(hy:ev e y=some (.int .i64 0))
  (next: ∀ b,bu P n c ops l k Q ((d, .slice (some ⟨b,0,none⟩) 0 0)::e) (.row (some ⟨b,0,none⟩) 0 0 E sz []::M) D):b0 P n c ops (some d) (.makeSlice S x y) T l k Q e M D:=by
 obtain⟨ti,z,hu,hinf,hs1,hb1,hz,hzs,hsz0⟩:=hS
 intro a w hf
 have hw:IntKind.i64.wrap 0=0:=by decide
 have hr0: ∀ f:Nat→Value,(Array.range 0).map f= #[]:=fun f=>Array.eq_empty_of_size_eq_zero aJ
 have hb:(Instr.makeSlice S (.int .i64 0) (.int .i64 0)).run P w= .ok (.slice (some ⟨w.heap.size,0,none⟩) 0 0) (w.alloc (.cells #[] E (0,0))):=by
  simp [Instr.makeSlice,run_underlying hu,asInt,asIntOf,typeInfo,hinf,hw,askRoom,xZ hinf,newRow,newObj,Sem.run,hr0]
 have hrun:(execOp a.eval (cx (some d) (.makeSlice S x y) T)).run P w= .ok (.value (.slice (some ⟨w.heap.size,0,none⟩) 0 0)) (w.alloc (.cells #[] E (0,0))):=by
  simp only [execOp,cx,hf.ev hx,hf.ev hy,Sem.run_bind,hb,Result.andThen_ok,Sem.run_pure]
 unfold Oper.wp
 rw [hrun]
 have hx2:(HA.row (some ⟨w.heap.size,0,none⟩) 0 0 E sz []).holds (w.alloc (.cells #[] E (0,0))):=by
  refine⟨by simp, .inr ⟨w.heap.size,0, #[],rfl,Nat.zero_le _,?_,Nat.le_refl _,by simp [maxLen],by simp,by simp⟩⟩
  show(w.heap.push _)[w.heap.size]? =_
  simp
 exact next w.heap.size _ _ ((hf.world (hf.toFitsW.new _ hx2 Z)).put hd _)
theorem tf{S:TypeId}(hd:Nat.blt d n=true)(next: ∀ b,bu P n c ops l k Q ((d, .map (some b))::e) (.obj b (.map #[] 0)::M) D):b0 P n c ops (some d) (.makeMap S none) T l k Q e M D:=by
 intro a w hf
 have hrun:(execOp a.eval (cx (some d) (.makeMap S none) T)).run P w= .ok (.value (.map (some w.heap.size))) (w.alloc (.map #[] 0)):=by
  simp [execOp,cx,Instr.makeMap,newObj,Sem.run]
 unfold Oper.wp
 rw [hrun]
 have hx2:(HA.obj w.heap.size (.map #[] 0)).holds (w.alloc (.map #[] 0)):=by
  show(w.heap.push _)[w.heap.size]? =_
  simp
 exact next w.heap.size _ _ ((hf.world (hf.toFitsW.new _ hx2 Z)).put hd _)
theorem tK{w:World}{ok:Nat→Prop}{b o:Nat}{cs:List Value}{U:TypeId}{v:Value}(h:(DA.dblk b cs U).p w ok)(hv:cs[o]? =some v):PtsTo w ok ⟨b,o,none⟩ v:=⟨h.1,by rw [uO h.2];exact hv⟩
def RF(f:FVal)(u:Value)(D':List DA):Prop:= ∃p,u= .pointer (some p)∧D'=[.fv u f]
theorem lq(i j o:Nat){mb:Nat}{cs:List Value}{f:Flds}{u:Value}{v:FVal}(hi:D[i]? =some (.flds mb cs f))(hj:D[j]? =some (.fv u v))(ho:1≤o)(next:Run P n c k Q e M (.flds mb (cs.set o u) (f.set o v)::D)):Run P n c k Q e M D:=
 yO (.flds mb (cs.set o u) (f.set o v)) (fun w ok h=>by
  have h1:CellsP w ok mb cs f:=dget h i hi
  have h2:FvP w ok v u:=dget h j hj
  refine⟨by simp [h1.1],by rw [List.getElem?_set_ne aC];exact h1.2.1,fun q hq hq2=>?_⟩
  by_cases hoq:q=o
  ·subst hoq
   exact⟨u,by rw [List.getElem?_set_self (by rw [h1.1];omega)],by simp only [Flds.set,if_true];exact h2⟩
  ·obtain⟨u',hu',hm⟩:=h1.2.2 q hq hq2
   exact⟨u',by rw [List.getElem?_set_ne aC];exact hu',by simp only [Flds.set,if_neg hoq];exact hm⟩) next
end rules
def dT:FVal→List Nat
  | .sbS b=>[b]
  | .itS b=>[b]
  | .itL bs=>bs
  | .named l=>l.map (·.2)
  | .list bs=>bs
  | .one b=>[b]
  |_=>[]
def cH(f:Flds)(i:Nat):List Nat:=match f i with
  |none=>[]
  |some fv=>dT fv
def gH(f:Flds):List Nat:=(List.range 37).flatMap (cH f)
def Own(G:Gr)(roots:List Nat):Prop:=(roots++G.flatMap (fun g=>gH g.2.2)).Perm (G.map (·.1))
theorem Own.nil:Own [] []:= .refl _
theorem Own.nilF:Own [] (gH fun _=>none):= .refl _
theorem Own.congr{G:Gr}{r r':List Nat}(h:Own G r)(hp:r'.Perm r):Own G r':=(hp.append_right _).trans h
theorem Own.app{G G':Gr}{r r':List Nat}(h:Own G r)(h':Own G' r'):Own (G'++G) (r++r'):=by
 refine List.perm_iff_count.2 fun a=>?_
 have e1:=h.count_eq a
 have e2:=h'.count_eq a
 simp only [List.flatMap_append,List.map_append,List.count_append]at e1 e2⊢
 omega
theorem Own.top{b:Nat}{cs:List Value}{f:Flds}{G:Gr}(h:Own G (gH f)):Own ((b,cs,f)::G) [b]:=List.Perm.cons b h
theorem BE{f:Flds}{q:Nat}{fv:FVal}(hn:f q=none)(l:List Nat)(hl:l.Nodup):(l.flatMap (cH (f.set q fv))).Perm ((if q∈l then dT fv else [])++l.flatMap (cH f)):=by
  induction l with
  |nil=>exact .refl _
  |cons i l ih=>
    rw [List.nodup_cons]at hl
    have h1:=ih hl.2
    by_cases hi:i=q
    · subst hi
      have e1:cH (f.set i fv) i=dT fv:=by simp [cH,Flds.set]
      have e2:cH f i=[]:=by simp [cH,hn]
      rw [if_neg hl.1]at h1
      rw [List.flatMap_cons,List.flatMap_cons,e1,e2,if_pos List.mem_cons_self]
      exact h1.append_left _
    · have e1:cH (f.set q fv) i=cH f i:=by simp [cH,Flds.set,hi]
      have e2:(q∈i::l)=(q∈l):=by rw [List.mem_cons];exact propext ⟨fun h=>h.resolve_left (fun e=>hi e.symm), .inr⟩
      rw [List.flatMap_cons,List.flatMap_cons,e1]
      simp only [e2]
      refine List.perm_iff_count.2 fun a=>?_
      have e3:=h1.count_eq a
      simp only [List.count_append]at e3⊢
      omega
theorem n8{G G':Gr}{f:Flds}{q:Nat}{fv:FVal}(h:Own G (gH f))(h':Own G' (dT fv))(hq:q≤36)(hn:f q=none):Own (G'++G) (gH (f.set q fv)):=by
 refine(h.app h').congr ((BE hn (List.range 37) List.nodup_range).trans ?_)
 rw [if_pos (List.mem_range.2 aC)]
 exact List.perm_append_comm
theorem Own.nodup{G:Gr}{r:List Nat}(h:Own G r)(hn:(G.map (·.1)).Nodup):(r++G.flatMap (fun g=>gH g.2.2)).Nodup:=h.nodup_iff.2 hn
end Go.Jw

namespace Go.Jw
open Go Go.RowKit Go.Proofs
set_option maxRecDepth 8000
def cE(key:ByteArray):Nat:=
 if key=⟨#[36,115,99,104,101,109,97]⟩then 1 else
 if key=⟨#[105,100]⟩then 2 else
 if key=⟨#[109,117,108,116,105,112,108,101,79,102]⟩then 6 else
 if key=⟨#[109,97,120,105,109,117,109]⟩then 7 else
 if key=⟨#[101,120,99,108,117,115,105,118,101,77,97,120,105,109,117,109]⟩then 8 else
 if key=⟨#[109,105,110,105,109,117,109]⟩then 9 else
 if key=⟨#[101,120,99,108,117,115,105,118,101,77,105,110,105,109,117,109]⟩then 10 else
 if key=⟨#[109,97,120,76,101,110,103,116,104]⟩then 11 else
 if key=⟨#[109,105,110,76,101,110,103,116,104]⟩then 12 else
 if key=⟨#[112,97,116,116,101,114,110]⟩then 13 else
 if key=⟨#[97,100,100,105,116,105,111,110,97,108,73,116,101,109,115]⟩then 14 else
 if key=⟨#[105,116,101,109,115]⟩then 15 else
 if key=⟨#[109,97,120,73,116,101,109,115]⟩then 16 else
 if key=⟨#[109,105,110,73,116,101,109,115]⟩then 17 else
 if key=⟨#[117,110,105,113,117,101,73,116,101,109,115]⟩then 18 else
 if key=⟨#[109,97,120,80,114,111,112,101,114,116,105,101,115]⟩then 19 else
 if key=⟨#[109,105,110,80,114,111,112,101,114,116,105,101,115]⟩then 20 else
 if key=⟨#[114,101,113,117,105,114,101,100]⟩then 21 else
 if key=⟨#[97,100,100,105,116,105,111,110,97,108,80,114,111,112,101,114,116,105,101,115]⟩then 22 else
 if key=⟨#[112,114,111,112,101,114,116,105,101,115]⟩then 23 else
 if key=⟨#[112,97,116,116,101,114,110,80,114,111,112,101,114,116,105,101,115]⟩then 24 else
 if key=⟨#[100,101,112,101,110,100,101,110,99,105,101,115]⟩then 25 else
 if key=⟨#[101,110,117,109]⟩then 26 else
 if key=⟨#[116,121,112,101]⟩then 27 else
 if key=⟨#[97,108,108,79,102]⟩then 28 else
 if key=⟨#[97,110,121,79,102]⟩then 29 else
 if key=⟨#[111,110,101,79,102]⟩then 30 else
 if key=⟨#[110,111,116]⟩then 31 else
 if key=⟨#[100,101,102,105,110,105,116,105,111,110,115]⟩then 32 else
 if key=⟨#[116,105,116,108,101]⟩then 33 else
 if key=⟨#[100,101,115,99,114,105,112,116,105,111,110]⟩then 34 else
 if key=⟨#[100,101,102,97,117,108,116]⟩then 35 else
 if key=⟨#[102,111,114,109,97,116]⟩then 36 else
 if key=⟨#[36,114,101,102]⟩then 3 else 0
def cU(i:Nat):Int:=match i with
  |1=>1
  |2=>1
  |3=>1
  |6=>3
  |7=>3
  |8=>2
  |9=>3
  |10=>2
  |11=>4
  |12=>4
  |13=>1
  |14=>6
  |15=>7
  |16=>4
  |17=>4
  |18=>2
  |19=>4
  |20=>4
  |21=>8
  |22=>6
  |23=>9
  |24=>9
  |25=>10
  |26=>11
  |27=>12
  |28=>13
  |29=>13
  |30=>13
  |31=>5
  |32=>9
  |33=>1
  |34=>1
  |35=>14
  |36=>1
  |_=>0
theorem kF{key:ByteArray}(h:cE key≠0):bw key=cU (cE key):=by
 unfold cE at h⊢
 by_cases e1:key=⟨#[36,115,99,104,101,109,97]⟩
 ·subst e1;decide+kernel
 rw [if_neg e1]at h⊢
 by_cases e2:key=⟨#[105,100]⟩
 ·subst e2;decide+kernel
 rw [if_neg e2]at h⊢
 by_cases e6:key=⟨#[109,117,108,116,105,112,108,101,79,102]⟩
 ·subst e6;decide+kernel
 rw [if_neg e6]at h⊢
 by_cases e7:key=⟨#[109,97,120,105,109,117,109]⟩
 ·subst e7;decide+kernel
 rw [if_neg e7]at h⊢
 by_cases e8:key=⟨#[101,120,99,108,117,115,105,118,101,77,97,120,105,109,117,109]⟩
 ·subst e8;decide+kernel
 rw [if_neg e8]at h⊢
 by_cases e9:key=⟨#[109,105,110,105,109,117,109]⟩
 ·subst e9;decide+kernel
 rw [if_neg e9]at h⊢
 by_cases e10:key=⟨#[101,120,99,108,117,115,105,118,101,77,105,110,105,109,117,109]⟩
 ·subst e10;decide+kernel
 rw [if_neg e10]at h⊢
 by_cases e11:key=⟨#[109,97,120,76,101,110,103,116,104]⟩
 ·subst e11;decide+kernel
 rw [if_neg e11]at h⊢
 by_cases e12:key=⟨#[109,105,110,76,101,110,103,116,104]⟩
 ·subst e12;decide+kernel
 rw [if_neg e12]at h⊢
 by_cases e13:key=⟨#[112,97,116,116,101,114,110]⟩
 ·subst e13;decide+kernel
 rw [if_neg e13]at h⊢
 by_cases e14:key=⟨#[97,100,100,105,116,105,111,110,97,108,73,116,101,109,115]⟩
 ·subst e14;decide+kernel
 rw [if_neg e14]at h⊢
 by_cases e15:key=⟨#[105,116,101,109,115]⟩
 ·subst e15;decide+kernel
 rw [if_neg e15]at h⊢
 by_cases e16:key=⟨#[109,97,120,73,116,101,109,115]⟩
 ·subst e16;decide+kernel
 rw [if_neg e16]at h⊢
 by_cases e17:key=⟨#[109,105,110,73,116,101,109,115]⟩
 ·subst e17;decide+kernel
 rw [if_neg e17]at h⊢
 by_cases e18:key=⟨#[117,110,105,113,117,101,73,116,101,109,115]⟩
 ·subst e18;decide+kernel
 rw [if_neg e18]at h⊢
 by_cases e19:key=⟨#[109,97,120,80,114,111,112,101,114,116,105,101,115]⟩
 ·subst e19;decide+kernel
 rw [if_neg e19]at h⊢
 by_cases e20:key=⟨#[109,105,110,80,114,111,112,101,114,116,105,101,115]⟩
 ·subst e20;decide+kernel
 rw [if_neg e20]at h⊢
 by_cases e21:key=⟨#[114,101,113,117,105,114,101,100]⟩
 ·subst e21;decide+kernel
 rw [if_neg e21]at h⊢
 by_cases e22:key=⟨#[97,100,100,105,116,105,111,110,97,108,80,114,111,112,101,114,116,105,101,115]⟩
 ·subst e22;decide+kernel
 rw [if_neg e22]at h⊢
 by_cases e23:key=⟨#[112,114,111,112,101,114,116,105,101,115]⟩
 ·subst e23;decide+kernel
 rw [if_neg e23]at h⊢
 by_cases e24:key=⟨#[112,97,116,116,101,114,110,80,114,111,112,101,114,116,105,101,115]⟩
 ·subst e24;decide+kernel
 rw [if_neg e24]at h⊢
 by_cases e25:key=⟨#[100,101,112,101,110,100,101,110,99,105,101,115]⟩
 ·subst e25;decide+kernel
 rw [if_neg e25]at h⊢
 by_cases e26:key=⟨#[101,110,117,109]⟩
 ·subst e26;decide+kernel
 rw [if_neg e26]at h⊢
 by_cases e27:key=⟨#[116,121,112,101]⟩
 ·subst e27;decide+kernel
 rw [if_neg e27]at h⊢
 by_cases e28:key=⟨#[97,108,108,79,102]⟩
 ·subst e28;decide+kernel
 rw [if_neg e28]at h⊢
 by_cases e29:key=⟨#[97,110,121,79,102]⟩
 ·subst e29;decide+kernel
 rw [if_neg e29]at h⊢
 by_cases e30:key=⟨#[111,110,101,79,102]⟩
 ·subst e30;decide+kernel
 rw [if_neg e30]at h⊢
 by_cases e31:key=⟨#[110,111,116]⟩
 ·subst e31;decide+kernel
 rw [if_neg e31]at h⊢
 by_cases e32:key=⟨#[100,101,102,105,110,105,116,105,111,110,115]⟩
 ·subst e32;decide+kernel
 rw [if_neg e32]at h⊢
 by_cases e33:key=⟨#[116,105,116,108,101]⟩
 ·subst e33;decide+kernel
 rw [if_neg e33]at h⊢
 by_cases e34:key=⟨#[100,101,115,99,114,105,112,116,105,111,110]⟩
 ·subst e34;decide+kernel
 rw [if_neg e34]at h⊢
 by_cases e35:key=⟨#[100,101,102,97,117,108,116]⟩
 ·subst e35;decide+kernel
 rw [if_neg e35]at h⊢
 by_cases e36:key=⟨#[102,111,114,109,97,116]⟩
 ·subst e36;decide+kernel
 rw [if_neg e36]at h⊢
 by_cases e3:key=⟨#[36,114,101,102]⟩
 ·subst e3;decide+kernel
 rw [if_neg e3]at h⊢
 ·exact absurd Z h
abbrev k1:ByteArray:=⟨#[36,115,99,104,101,109,97]⟩
abbrev k2:ByteArray:=⟨#[105,100]⟩
abbrev k6:ByteArray:=⟨#[109,117,108,116,105,112,108,101,79,102]⟩
abbrev k7:ByteArray:=⟨#[109,97,120,105,109,117,109]⟩
abbrev k8:ByteArray:=⟨#[101,120,99,108,117,115,105,118,101,77,97,120,105,109,117,109]⟩
abbrev k9:ByteArray:=⟨#[109,105,110,105,109,117,109]⟩
abbrev k10:ByteArray:=⟨#[101,120,99,108,117,115,105,118,101,77,105,110,105,109,117,109]⟩
abbrev k11:ByteArray:=⟨#[109,97,120,76,101,110,103,116,104]⟩
abbrev MO:ByteArray:=⟨#[109,105,110,76,101,110,103,116,104]⟩
abbrev MP:ByteArray:=⟨#[112,97,116,116,101,114,110]⟩
abbrev MQ:ByteArray:=⟨#[97,100,100,105,116,105,111,110,97,108,73,116,101,109,115]⟩
abbrev MR:ByteArray:=⟨#[105,116,101,109,115]⟩
abbrev MS:ByteArray:=⟨#[109,97,120,73,116,101,109,115]⟩
abbrev MT:ByteArray:=⟨#[109,105,110,73,116,101,109,115]⟩
abbrev MU:ByteArray:=⟨#[117,110,105,113,117,101,73,116,101,109,115]⟩
abbrev MV:ByteArray:=⟨#[109,97,120,80,114,111,112,101,114,116,105,101,115]⟩
abbrev MW:ByteArray:=⟨#[109,105,110,80,114,111,112,101,114,116,105,101,115]⟩
abbrev MX:ByteArray:=⟨#[114,101,113,117,105,114,101,100]⟩
abbrev Hn:ByteArray:=⟨#[97,100,100,105,116,105,111,110,97,108,80,114,111,112,101,114,116,105,101,115]⟩
abbrev MY:ByteArray:=⟨#[112,114,111,112,101,114,116,105,101,115]⟩
abbrev MZ:ByteArray:=⟨#[112,97,116,116,101,114,110,80,114,111,112,101,114,116,105,101,115]⟩
abbrev Ma:ByteArray:=⟨#[100,101,112,101,110,100,101,110,99,105,101,115]⟩
abbrev Mb:ByteArray:=⟨#[101,110,117,109]⟩
abbrev k27:ByteArray:=⟨#[116,121,112,101]⟩
abbrev Mc:ByteArray:=⟨#[97,108,108,79,102]⟩
abbrev Md:ByteArray:=⟨#[97,110,121,79,102]⟩
abbrev dg:ByteArray:=⟨#[111,110,101,79,102]⟩
abbrev Me:ByteArray:=⟨#[110,111,116]⟩
abbrev Mf:ByteArray:=⟨#[100,101,102,105,110,105,116,105,111,110,115]⟩
abbrev Mg:ByteArray:=⟨#[116,105,116,108,101]⟩
abbrev Mh:ByteArray:=⟨#[100,101,115,99,114,105,112,116,105,111,110]⟩
abbrev Mi:ByteArray:=⟨#[100,101,102,97,117,108,116]⟩
abbrev Mj:ByteArray:=⟨#[102,111,114,109,97,116]⟩
abbrev k3:ByteArray:=⟨#[36,114,101,102]⟩
def All2{α β:Type}(R:α→β→Prop)(l:List α)(l':List β):Prop:=l.length=l'.length∧ ∀ (i:Nat) a b,l[i]? =some a→l'[i]? =some b→R a b
theorem All2.mono{α β:Type}{R R':α→β→Prop}{l:List α}{l':List β}(h: ∀ a b,b∈l'→R a b→R' a b)(h2:All2 R l l'):All2 R' l l':=
 ⟨h2.1,fun i a b ha hb=>h a b (List.mem_of_getElem? hb) (h2.2 i a b ha hb)⟩
theorem All2.nil{α β:Type}(R:α→β→Prop):All2 R [] []:=⟨rfl,fun i a b h=>by simp at h⟩
theorem All2.snoc{α β:Type}{R:α→β→Prop}{l:List α}{l':List β}{a:α}{b:β}(h:All2 R l l')(hab:R a b):All2 R (l++[a]) (l'++[b]):=by
 refine⟨by simp [h.1],fun i x y hx hy=>?_⟩
 rcases Nat.lt_trichotomy i l.length with hi|hi|hi
 ·rw [List.getElem?_append_left hi]at hx
  rw [List.getElem?_append_left (by rw [←h.1];exact hi)]at hy
  exact h.2 i x y hx hy
 ·subst hi
  rw [List.getElem?_append_right (Nat.le_refl _)]at hx
  rw [List.getElem?_append_right bC]at hy
  simp at hx
  simp [h.1]at hy
  subst hx;subst hy;exact hab
 ·rw [List.getElem?_eq_none bp]at hx;cases hx
def ji(n:Int):Nat:=qw n
def BF(v:V):EV:=if v.kind=3 then .str v.text else .bool (decide (v.num=1))
def FvRel(U:Nat→V→Prop)(sh:Int)(v:V):FVal→Prop
  | .text s=>sh=1∧s=v.text
  | .bool x=>sh=2∧x=decide (v.num=1)
  | .int n=>sh=4∧n=v.num
  | .numI n=>sh=3∧v.kind=2∧n=v.num
  | .numF f=>sh=3∧v.kind=6∧f=ji v.num
  | .sbS b=>sh=6∧v.kind=5∧U b v
  | .sbB x=>sh=6∧v.kind=1∧x=decide (v.num=1)
  | .itS b=>sh=7∧v.kind=5∧U b v
  | .itL bs=>sh=7∧v.kind=4∧All2 U bs v.items
  | .texts l=>sh=8∧l=v.items.map V.text
  | .named l=>sh=9∧ ∃ps:List (ByteArray×V),ps.Perm (v.keys.zip v.items)∧All2 (fun(q:ByteArray×Nat) p=>q.1=p.1∧U q.2 p.2) l ps
  | .deps l=>sh=10∧ ∃ps:List (ByteArray×V),ps.Perm (v.keys.zip v.items)∧l=ps.map (fun p=>(p.1,p.2.items.map V.text))
  | .enums l=>sh=11∧l=v.items.map BF
  | .tyS s=>sh=12∧v.kind=3∧s=v.text
  | .tyL l=>sh=12∧v.kind=4∧l=v.items.map V.text
  | .list bs=>sh=13∧All2 U bs v.items
  | .one b=>sh=5∧U b v
  | .any=>sh=14
theorem FvRel.mono{U U':Nat→V→Prop}{sh:Int}{v:V}{f:FVal}(h: ∀ b x,SizeOf.sizeOf x≤SizeOf.sizeOf v→U b x→U' b x)(hf:FvRel U sh v f):FvRel U' sh v f:=by
  have hi: ∀ b x,x∈v.items→U b x→U' b x:=fun b x hx=>h b x (Nat.le_of_lt (yU hx))
  cases f with
  |sbS b=>exact⟨hf.1,hf.2.1,h b v (Nat.le_refl _) hf.2.2⟩
  |itS b=>exact⟨hf.1,hf.2.1,h b v (Nat.le_refl _) hf.2.2⟩
  |itL bs=>exact⟨hf.1,hf.2.1,hf.2.2.mono hi⟩
  |named l=>obtain⟨h1,ps,h2,h3⟩:=hf;exact⟨h1,ps,h2,h3.mono fun q p hp hq=>⟨hq.1,hi _ _ (List.of_mem_zip (h2.mem_iff.1 hp)).2 hq.2⟩⟩
  |list bs=>exact⟨hf.1,hf.2.mono hi⟩
  |one b=>exact⟨hf.1,h b v (Nat.le_refl _) hf.2⟩
  |text s=>exact hf
  |bool x=>exact hf
  |int n=>exact hf
  |numI n=>exact hf
  |numF n=>exact hf
  |sbB x=>exact hf
  |texts l=>exact hf
  |deps l=>exact hf
  |enums l=>exact hf
  |tyS s=>exact hf
  |tyL l=>exact hf
  |any=>exact hf
def FldRel(U:Nat→V→Prop)(v:V)(i:Nat):Option FVal→Prop
  |none=> ∀ key,cE key=i→getV v key=none
  |some fv=> ∃key x,cE key=i∧getV v key=some x∧FvRel U (cU i) x fv
theorem uG{v x:V}{key:ByteArray}(h:getV v key=some x):x∈v.items:=by
 unfold getV at h
 split at h
 ·cases h
 ·exact List.mem_of_getElem? h
theorem FldRel.mono{U U':Nat→V→Prop}{v:V}{i:Nat}{o:Option FVal}(h: ∀ b x,SizeOf.sizeOf x<SizeOf.sizeOf v→U b x→U' b x)(hf:FldRel U v i o):FldRel U' v i o:=by
  cases o with
  |none=>exact hf
  |some fv=>
    obtain⟨key,x,h1,h2,h3⟩:=hf
    exact⟨key,x,h1,h2,h3.mono fun b y hy=>h b y (Nat.lt_of_le_of_lt hy (yU (uG h2)))⟩
instance:Inhabited (Nat→Prop):=⟨fun _=>True⟩
noncomputable def Unf(G:Gr):V→Nat→Prop:=V.fix (α:=Nat→Prop) (fun v r b=> ∃f,G.at b f∧ ∀ i,1≤i→i≤36→FldRel (fun b x=>r x b) v i (f i))
theorem pL(G:Gr)(v:V)(b:Nat):Unf G v b↔ ∃f,G.at b f∧ ∀ i,1≤i→i≤36→FldRel (fun b x=>Unf G x b) v i (f i):=by
 have:=V.fix_eq (α:=Nat→Prop) (G:=fun v r b=> ∃f,G.at b f∧ ∀ i,1≤i→i≤36→FldRel (fun b x=>r x b) v i (f i)) (fun t g g' h=>by
  funext b
  apply propext
  constructor
  ·rintro ⟨f,h1,h2⟩
   exact⟨f,h1,fun i hi hj=>(h2 i hi hj).mono fun b x hx hu=>by rw [←h x hx];exact hu⟩
  ·rintro ⟨f,h1,h2⟩
   exact⟨f,h1,fun i hi hj=>(h2 i hi hj).mono fun b x hx hu=>by rw [h x hx];exact hu⟩) v
 show V.fix (α:=Nat→Prop) _ v b↔_
 rw [this]
 rfl
theorem Unf.mono{G G':Gr}(h: ∀ g∈G,g∈G')(v:V): ∀ b,Unf G v b→Unf G' v b:=by
 refine V.indS (p:=fun v=> ∀ b,Unf G v b→Unf G' v b) (fun v IH b hb=>?_) v
 obtain⟨f,⟨cs,h1⟩,h2⟩:=(pL G v b).1 hb
 exact(pL G' v b).2 ⟨f,⟨cs,h _ h1⟩,fun i hi hj=>(h2 i hi hj).mono fun b x hx hu=>IH x hx b hu⟩
def Pl(v:V):Prop:= ∃d,IsPlain d v
theorem Pl.wf{v:V}(h:Pl v):Wf v:=h.elim fun _ h=>h.wf
theorem Pl.num{v:V}(h:Pl v):NumOk v:=h.elim fun _ h=>h.num
theorem Pl.item{v:V}(h:Pl v): ∀ x∈v.items,Pl x:=by
  obtain⟨d,h⟩:=h
  obtain⟨q,m,s,ks,ts⟩:=v
  intro x hx
  cases d with
  |zero=>
    obtain⟨_,h2,_⟩:=h
    simp only [V.items]at h2 hx
    subst h2;cases hx
  |succ d=>
    rcases h with ⟨_,h2,_⟩|⟨_,_,h3⟩
    · simp only [V.items]at h2 hx
      subst h2;cases hx
    · exact⟨d,h3 x hx⟩
theorem Pl.keys{v:V}(h:Pl v)(hk:v.kind=5):dW v.keys:=by
  obtain⟨d,h⟩:=h
  obtain⟨q,m,s,ks,ts⟩:=v
  simp only [V.kind]at hk
  subst hk
  cases d with
  |zero=>exact absurd h (tI (.inr rfl))
  |succ d=>exact nw ((vB (.inr rfl)).1 h).1 rfl
def prs(back:Bool)(v:V):List (ByteArray×V):=if back then(v.keys.zip v.items).reverse else v.keys.zip v.items
def RelAt(G:Gr)(back:Bool)(v:V)(i:Nat)(f:Flds):Prop:= ∀ q,1≤q→q≤36→match f q with
  |none=> ∀ p∈(prs back v).take i,cE p.1≠q
  |some fv=> ∃p∈(prs back v).take i,cE p.1=q∧FvRel (fun b x=>Unf G x b) (cU q) p.2 fv
theorem RelAt.mono{G G':Gr}(h: ∀ g∈G,g∈G'){back:Bool}{v:V}{i:Nat}{f:Flds}(hr:RelAt G back v i f):RelAt G' back v i f:=by
  intro q h1 h2
  have:=hr q h1 h2
  cases hf:f q with
  |none=>rw [hf]at this;exact this
  |some fv=>
    rw [hf]at this
    obtain⟨p,h3,h4,h5⟩:=this
    exact⟨p,h3,h4,h5.mono fun b x _ hu=>Unf.mono h x b hu⟩
theorem RelAt.zero(G:Gr)(back:Bool)(v:V):RelAt G back v 0 (fun _=>none):=by
 intro q _ _;simp
theorem RelAt.step{G:Gr}{back:Bool}{v:V}{i:Nat}{f:Flds}{p:ByteArray×V}{fv:FVal}(hr:RelAt G back v i f)(hp:(prs back v)[i]? =some p)(hf:FvRel (fun b x=>Unf G x b) (cU (cE p.1)) p.2 fv):RelAt G back v (i+1) (f.set (cE p.1) fv):=by
  have ht:(prs back v).take (i+1)=(prs back v).take i++[p]:=by rw [List.take_add_one,hp];rfl
  intro q h1 h2
  by_cases hq:q=cE p.1
  · subst hq
    simp only [Flds.set,if_true]
    exact⟨p,by rw [ht];simp,rfl,hf⟩
  · simp only [Flds.set,if_neg hq]
    have:=hr q h1 h2
    cases hfq:f q with
    |none=>
      rw [hfq]at this
      intro p' hp'
      rw [ht,List.mem_append,List.mem_singleton]at hp'
      rcases hp' with hp'|rfl
      · exact this p' hp'
      · exact fun e=>hq e.symm
    |some fv'=>
      rw [hfq]at this
      obtain⟨p',h3,h4⟩:=this
      exact⟨p',by rw [ht];exact List.mem_append_left _ h3,h4⟩
theorem RelAt.skip{G:Gr}{back:Bool}{v:V}{i:Nat}{f:Flds}{p:ByteArray×V}(hr:RelAt G back v i f)(hp:(prs back v)[i]? =some p)(hf:cE p.1=0):RelAt G back v (i+1) f:=by
  have ht:(prs back v).take (i+1)=(prs back v).take i++[p]:=by rw [List.take_add_one,hp];rfl
  intro q h1 h2
  have:=hr q h1 h2
  cases hfq:f q with
  |none=>
    rw [hfq]at this
    intro p' hp'
    rw [ht,List.mem_append,List.mem_singleton]at hp'
    rcases hp' with hp'|rfl
    · exact this p' hp'
    · omega
  |some fv'=>
    rw [hfq]at this
    obtain⟨p',h3,h4⟩:=this
    exact⟨p',by rw [ht];exact List.mem_append_left _ h3,h4⟩
def kG:Nat→ByteArray
  |1=>k1
  |2=>k2
  |3=>k3
  |6=>k6
  |7=>k7
  |8=>k8
  |9=>k9
  |10=>k10
  |11=>k11
  |12=>MO
  |13=>MP
  |14=>MQ
  |15=>MR
  |16=>MS
  |17=>MT
  |18=>MU
  |19=>MV
  |20=>MW
  |21=>MX
  |22=>Hn
  |23=>MY
  |24=>MZ
  |25=>Ma
  |26=>Mb
  |27=>k27
  |28=>Mc
  |29=>Md
  |30=>dg
  |31=>Me
  |32=>Mf
  |33=>Mg
  |34=>Mh
  |35=>Mi
  |36=>Mj
  |_=>⟨#[]⟩
def BG:List Nat:=[36,32,31,30,29,28,26,20,19,18,17,16,14,13,12,11,10,9,8,7,6,3,25,23,24,22,21,34,15,27,1,2,33]
theorem kw_case{key:ByteArray}:key=kG (cE key)∧cE key∈[35,36,32,31,30,29,28,26,20,19,18,17,16,14,13,12,11,10,9,8,7,6,3,25,23,24,22,21,34,15,27,1,2,33]∨cE key=0:=by
 unfold cE
 by_cases e1:key=⟨#[36,115,99,104,101,109,97]⟩
 ·rw [if_pos e1];exact .inl ⟨e1,by decide⟩
 rw [if_neg e1]
 by_cases e2:key=⟨#[105,100]⟩
 ·rw [if_pos e2];exact .inl ⟨e2,by decide⟩
 rw [if_neg e2]
 by_cases e6:key=⟨#[109,117,108,116,105,112,108,101,79,102]⟩
 ·rw [if_pos e6];exact .inl ⟨e6,by decide⟩
 rw [if_neg e6]
 by_cases e7:key=⟨#[109,97,120,105,109,117,109]⟩
 ·rw [if_pos e7];exact .inl ⟨e7,by decide⟩
 rw [if_neg e7]
 by_cases e8:key=⟨#[101,120,99,108,117,115,105,118,101,77,97,120,105,109,117,109]⟩
 ·rw [if_pos e8];exact .inl ⟨e8,by decide⟩
 rw [if_neg e8]
 by_cases e9:key=⟨#[109,105,110,105,109,117,109]⟩
 ·rw [if_pos e9];exact .inl ⟨e9,by decide⟩
 rw [if_neg e9]
 by_cases e10:key=⟨#[101,120,99,108,117,115,105,118,101,77,105,110,105,109,117,109]⟩
 ·rw [if_pos e10];exact .inl ⟨e10,by decide⟩
 rw [if_neg e10]
 by_cases e11:key=⟨#[109,97,120,76,101,110,103,116,104]⟩
 ·rw [if_pos e11];exact .inl ⟨e11,by decide⟩
 rw [if_neg e11]
 by_cases e12:key=⟨#[109,105,110,76,101,110,103,116,104]⟩
 ·rw [if_pos e12];exact .inl ⟨e12,by decide⟩
 rw [if_neg e12]
 by_cases e13:key=⟨#[112,97,116,116,101,114,110]⟩
 ·rw [if_pos e13];exact .inl ⟨e13,by decide⟩
 rw [if_neg e13]
 by_cases e14:key=⟨#[97,100,100,105,116,105,111,110,97,108,73,116,101,109,115]⟩
 ·rw [if_pos e14];exact .inl ⟨e14,by decide⟩
 rw [if_neg e14]
 by_cases e15:key=⟨#[105,116,101,109,115]⟩
 ·rw [if_pos e15];exact .inl ⟨e15,by decide⟩
 rw [if_neg e15]
 by_cases e16:key=⟨#[109,97,120,73,116,101,109,115]⟩
 ·rw [if_pos e16];exact .inl ⟨e16,by decide⟩
 rw [if_neg e16]
 by_cases e17:key=⟨#[109,105,110,73,116,101,109,115]⟩
 ·rw [if_pos e17];exact .inl ⟨e17,by decide⟩
 rw [if_neg e17]
 by_cases e18:key=⟨#[117,110,105,113,117,101,73,116,101,109,115]⟩
 ·rw [if_pos e18];exact .inl ⟨e18,by decide⟩
 rw [if_neg e18]
 by_cases e19:key=⟨#[109,97,120,80,114,111,112,101,114,116,105,101,115]⟩
 ·rw [if_pos e19];exact .inl ⟨e19,by decide⟩
 rw [if_neg e19]
 by_cases e20:key=⟨#[109,105,110,80,114,111,112,101,114,116,105,101,115]⟩
 ·rw [if_pos e20];exact .inl ⟨e20,by decide⟩
 rw [if_neg e20]
 by_cases e21:key=⟨#[114,101,113,117,105,114,101,100]⟩
 ·rw [if_pos e21];exact .inl ⟨e21,by decide⟩
 rw [if_neg e21]
 by_cases e22:key=⟨#[97,100,100,105,116,105,111,110,97,108,80,114,111,112,101,114,116,105,101,115]⟩
 ·rw [if_pos e22];exact .inl ⟨e22,by decide⟩
 rw [if_neg e22]
 by_cases e23:key=⟨#[112,114,111,112,101,114,116,105,101,115]⟩
 ·rw [if_pos e23];exact .inl ⟨e23,by decide⟩
 rw [if_neg e23]
 by_cases e24:key=⟨#[112,97,116,116,101,114,110,80,114,111,112,101,114,116,105,101,115]⟩
 ·rw [if_pos e24];exact .inl ⟨e24,by decide⟩
 rw [if_neg e24]
 by_cases e25:key=⟨#[100,101,112,101,110,100,101,110,99,105,101,115]⟩
 ·rw [if_pos e25];exact .inl ⟨e25,by decide⟩
 rw [if_neg e25]
 by_cases e26:key=⟨#[101,110,117,109]⟩
 ·rw [if_pos e26];exact .inl ⟨e26,by decide⟩
 rw [if_neg e26]
 by_cases e27:key=⟨#[116,121,112,101]⟩
 ·rw [if_pos e27];exact .inl ⟨e27,by decide⟩
 rw [if_neg e27]
 by_cases e28:key=⟨#[97,108,108,79,102]⟩
 ·rw [if_pos e28];exact .inl ⟨e28,by decide⟩
 rw [if_neg e28]
 by_cases e29:key=⟨#[97,110,121,79,102]⟩
 ·rw [if_pos e29];exact .inl ⟨e29,by decide⟩
 rw [if_neg e29]
 by_cases e30:key=⟨#[111,110,101,79,102]⟩
 ·rw [if_pos e30];exact .inl ⟨e30,by decide⟩
 rw [if_neg e30]
 by_cases e31:key=⟨#[110,111,116]⟩
 ·rw [if_pos e31];exact .inl ⟨e31,by decide⟩
 rw [if_neg e31]
 by_cases e32:key=⟨#[100,101,102,105,110,105,116,105,111,110,115]⟩
 ·rw [if_pos e32];exact .inl ⟨e32,by decide⟩
 rw [if_neg e32]
 by_cases e33:key=⟨#[116,105,116,108,101]⟩
 ·rw [if_pos e33];exact .inl ⟨e33,by decide⟩
 rw [if_neg e33]
 by_cases e34:key=⟨#[100,101,115,99,114,105,112,116,105,111,110]⟩
 ·rw [if_pos e34];exact .inl ⟨e34,by decide⟩
 rw [if_neg e34]
 by_cases e35:key=⟨#[100,101,102,97,117,108,116]⟩
 ·rw [if_pos e35];exact .inl ⟨e35,by decide⟩
 rw [if_neg e35]
 by_cases e36:key=⟨#[102,111,114,109,97,116]⟩
 ·rw [if_pos e36];exact .inl ⟨e36,by decide⟩
 rw [if_neg e36]
 by_cases e3:key=⟨#[36,114,101,102]⟩
 ·rw [if_pos e3];exact .inl ⟨e3,by decide⟩
 rw [if_neg e3]
 exact .inr Z
theorem jj{key:ByteArray}{q:Nat}(h:cE key=q)(h0:q≠0):key=kG q:=by
 subst h
 exact kw_case.elim (fun h=>h.1) (fun h=>absurd h h0)
theorem BH{key:ByteArray}(h0:cE key≠0)(h35:cE key≠35):cE key∈BG:=by
 rcases kw_case (key:=key)with h|h
 ·exact(List.mem_cons.1 h.2).elim (fun e=>absurd e h35) id
 ·exact absurd h h0
theorem pj{key:ByteArray}(h0:cE key≠0):1≤cE key∧cE key≤36:=by
 rcases kw_case (key:=key)with h|h
 ·have:=h.2
  generalize cE key=q at this
  simp only [List.mem_cons,List.not_mem_nil,or_false]at this
  omega
 ·exact absurd h h0
theorem tg{a b:ByteArray}(h:cE a=cE b)(h0:cE a≠0):a=b:=(jj rfl h0).trans (by rw [h];exact(jj rfl (by rwa [←h])).symm)
end Go.Jw

namespace Go.Jw
open Go Go.RowKit Go.Proofs
set_option maxRecDepth 8000
open Go.Proofs
theorem F2:sf Tryz.prog 181:=⟨_,Tryz.func181,by kernel_rfl,rfl⟩
abbrev pk(x:Bool):ByteArray:=⟨(Lib.formatBool x).toArray⟩
theorem c181(x:Bool):dP Tryz.prog 181 #[.string (pk x)] [] (.tuple #[.bool x, .nilIface]):=
  gF F2 fun w ok h=>(Tryz.strconv_ParseBool (pk x) x (by cases x<;>decide) w).mono (by
    rintro e w' ⟨rfl,rfl⟩
    exact⟨rfl,Chg.refl _ _⟩)
theorem jk{l:List ByteArray}{i:Nat}(hi:i<l.length):(l.take i).map Value.string++[.string l[i]]=(l.take (i+1)).map Value.string:=sA hi
theorem lr{l:List ByteArray}{i:Nat}(hi:i<l.length)(h: ∀ s∈l.take i,s.size≤maxLen)(hs:l[i].size≤maxLen): ∀ s∈l.take (i+1),s.size≤maxLen:=by
 intro s hm
 rw [List.take_add_one,List.getElem?_eq_getElem hi,List.mem_append]at hm
 rcases hm with hm|hm
 ·exact h s hm
 ·simp at hm;rw [hm];exact hs
def yb:EV→Y
  | .str s=>cK dF s
  | .bool x=>cK dp (pk x)
theorem BI(e:EV):(yb e).kind=8:=by cases e<;>rfl
theorem Da{e:EV}(h:(yb e).tag=dF): ∃s,e= .str s:=by
  cases e with
  |str s=>exact⟨s,rfl⟩
  |bool x=>exact absurd h (by simp only [yb,cK,Y.tag];decide)
theorem BJ{e:EV}(h: ¬ (yb e).tag=dF): ∃x,e= .bool x:=by
  cases e with
  |str s=>exact absurd rfl h
  |bool x=>exact⟨x,rfl⟩
def EvsP(w:World)(ok:Nat→Prop)(xs:List Value)(l:List EV):Prop:=xs.length=2*l.length∧ ∀ (i:Nat) e,l[i]? =some e→ ∃u u',xs[i*2]? =some u∧xs[i*2+1]? =some u'∧EvP w ok e u u'
def DA.evs(xs:List Value)(l:List EV):DA:=⟨fun w ok=>EvsP w ok xs l,fun h1 h2 h=>⟨h.1,fun i e hi=>by
 obtain⟨u,u',a,b,d⟩:=h.2 i e hi
 exact⟨u,u',a,b,d.mono h1 h2⟩⟩⟩
theorem EvsP.snoc{w:World}{ok:Nat→Prop}{xs:List Value}{l:List EV}{e:EV}{u u':Value}(h:EvsP w ok xs l)(he:EvP w ok e u u'):EvsP w ok (xs++[u,u']) (l++[e]):=by
 refine⟨by simp [h.1];omega,fun i x hi=>?_⟩
 rcases Nat.lt_trichotomy i l.length with hl|hl|hl
 ·rw [List.getElem?_append_left hl]at hi
  obtain⟨v,v',a,b,d⟩:=h.2 i x hi
  exact⟨v,v',by rw [List.getElem?_append_left bc];exact a,by rw [List.getElem?_append_left bc];exact b,d⟩
 ·subst hl
  rw [List.getElem?_append_right (Nat.le_refl _)]at hi
  simp at hi
  subst hi
  refine⟨u,u',?_,?_,he⟩
  ·rw [List.getElem?_append_right bc,h.1,show l.length*2 - 2*l.length=0 from by omega];rfl
  ·rw [List.getElem?_append_right bc,h.1,show l.length*2+1 - 2*l.length=1 from by omega];rfl
 ·rw [List.getElem?_eq_none bp]at hi;cases hi
theorem Db{w:World}{ok:Nat→Prop}{A:Option Addr}{m c T:Nat}{xs:List Value}{l:List EV}(h:(HA.row A m c T 2 xs).holds w)(hok: ∀ b∈(HA.row A m c T 2 xs).foot,ok b)(hx:EvsP w ok xs l)(hm:m=l.length):
  l.length≤c∧c≤maxLen∧ ∀ (i:Nat) e,l[i]? =some e→ ∃a u u',A=some a∧ok a.block∧w.cell? (a.add (i*2))=some u∧w.cell? (a.add (i*2+1))=some u'∧EvP w ok e u u':=by
 obtain⟨h1,h2,h3⟩:=uW h
 subst hm
 refine⟨h1,h2,fun i e hi=>?_⟩
 obtain⟨u,u',a,b,d⟩:=hx.2 i e hi
 obtain⟨q,hq,hf,hc⟩:=h3 _ _ a
 obtain⟨q',hq',_,hc'⟩:=h3 _ _ b
 rw [hq]at hq'
 cases hq'
 exact⟨q,u,u',hq,hok _ bj,hc,hc',d⟩
def DA.evrow(A:Option Addr)(c:Nat)(l:List EV):DA:=⟨fun w ok=>l.length≤c∧c≤maxLen∧ ∀ (i:Nat) e,l[i]? =some e→ ∃a u u',A=some a∧ok a.block∧w.cell? (a.add (i*2))=some u∧w.cell? (a.add (i*2+1))=some u'∧EvP w ok e u u',
 fun h1 h2 h=>⟨h.1,h.2.1,fun i e hi=>by
  obtain⟨a,u,u',b1,b2,b3,b4,b5⟩:=h.2.2 i e hi
  exact⟨a,u,u',b1,h1 _ b2,ee h2 b2 b3,ee h2 b2 b4,b5.mono h1 h2⟩⟩⟩
section rules
variable {P:Program} {n:Nat} {F:List Nat} {c:Ctx F} {k:List KI} {Q:Post} {e:cp} {M:List HA} {D:List DA}
theorem yc(i j:Nat){A:Option Addr}{m cap E:Nat}{xs:List Value}(l:List EV)(hi:M[i]? =some (.row A m cap E 2 xs))(hj:D[j]? =some (.evs xs l))(hF: ∀ b∈F,b∈foots (M.eraseIdx i))(hm:m=l.length)(next:Run P n c k Q e (M.eraseIdx i) (.evrow A cap l::D)):Run P n c k Q e M D:=
 tH i [.evrow A cap l] hF hi (fun w ok h hok hD d hd=>by
  rcases List.mem_singleton.1 hd with rfl
  exact Db h hok (hD _ (List.mem_of_getElem? hj)) hm) next
end rules
theorem vt{l:List EV}{i:Nat}(hi:i<l.length):l.take i++[l[i]]=l.take (i+1):=by rw [List.take_add_one,List.getElem?_eq_getElem hi];rfl

theorem KF(sp:Value)(nb:Nat)(tag s:ByteArray):CtR Tryz.prog 134 #[sp,cD nb] [.node nb (cK tag s)] (RF (.text s)):=by
 refine Ct.of_run (args:=[sp,cD nb]) Tryz.func134 aF Z Tryz.ntmps134 Z (fun c=>?_)
 refine xV 0 Z (fun A0 cap0 ht0 hv0 hl0 hc0=>?_)
 refine rO 13 Z (zC wG Z Z ?_)
 refine zA (zH 0 dI Z Z Z Z ?_)
 refine oO 17 Z (zC wT Z Z ?_)
 refine oK 3 [4] Z Z (yO (.fv (.pointer (some ⟨nb,3,none⟩)) (.text s)) (fun w ok h=>⟨_,rfl,hv0,tK (dget h 0 Z) Z⟩) ?_)
 exact zD Tryz.results134 Z ⟨rfl,_,rfl,rfl⟩ nS (cC 0 Z)
theorem KG(sp:Value)(nb:Nat)(x:Bool):CtR Tryz.prog 136 #[sp,cD nb] [.node nb (cK dp (pk x))] (RF (.bool x)):=by
 refine Ct.of_run (args:=[sp,cD nb]) Tryz.func136 aF Z Tryz.ntmps136 Z (fun c=>?_)
 refine xV 0 Z (fun A0 cap0 ht0 hv0 hl0 hc0=>?_)
 refine rO 13 Z (zC wG Z Z ?_)
 refine zA (zH 0 dI Z Z Z Z ?_)
 refine oO 17 Z (zC rD Z Z ?_)
 refine zA (zH 0 cv Z Z Z Z ?_)
 refine oK 1 [16,1] Z Z (rO 16 Z ?_)
 refine zC wT Z Z (zA ?_)
 refine zH 0 cv Z Z Z Z (zA ?_)
 refine zJ Z Z Z (c181 x) cF (oO 7 Z ?_)
 refine zT J3 Z (fun b5=>?_)
 change bu _ _ _ _ _ _ _ _ (HA.blk _ [_] _::_) _
 refine zA (zF 0 (M':=[HA.blk _ [_] _]) Z Z Z Z C6 Z Z Z ?_)
 refine oK 3 [5] Z Z (rR 5 Z ?_)
 refine xN 0 Z aG (yO (.fv (cD b5) (.bool x)) (fun w ok h=>⟨_,rfl,tK (dget h 0 Z) Z⟩) ?_)
 exact zD Tryz.results136 Z ⟨rfl,_,rfl,rfl⟩ nS (cC 0 Z)
theorem KH(sp:Value)(nb:Nat)(l:List ByteArray)(hl:l.length≤1000000):CtR Tryz.prog 140 #[sp,cD nb] [.node nb (.mk 2 fx ⟨#[]⟩ (l.map (cK dF)))] (RF (.texts l)):=by
 refine Ct.of_run (args:=[sp,cD nb]) Tryz.func140 aF Z Tryz.ntmps140 Z (fun c=>?_)
 refine xV 0 Z (fun A0 cap0 ht0 hv0 hl0 hc0=>?_)
 rw [List.length_map]
 rw [List.length_map]at hl0
 unfold maxLen at hc0
 refine rO 13 Z (zC wG Z Z ?_)
 refine zA (zH 0 dI Z Z Z Z ?_)
 refine oK 17 [20,1] Z Z (rO 4 Z ?_)
 refine xW cG Z Z Z (fun b22=>?_)
 refine zA (zT Fk Z (fun b6=>?_))
 change bu _ _ _ _ _ _ _ _ (HA.blk _ [_] _::_) _
 refine zA (zF 0 (M':=[HA.blk _ [_] _,_]) Z Z Z Z fp Z Z Z ?_)
 refine oO 9 Z (zC wH Z Z ?_)
 refine zA (zH 0 dR Z Z Z Z ?_)
 refine zA (zX cW Z Z ?_)
 refine oK 4 [28,27,26,6] Z Z ?_
 refine gb 1 (fun(⟨i,A,ca,xs⟩:Nat×Option Addr×Nat×List Value)=>i≤l.length∧xs=(l.take i).map Value.string∧ ∀ s∈l.take i,s.size≤maxLen) (fun(⟨i,A,ca,xs⟩:Nat×Option Addr×Nat×List Value)=>[(28, .int .i64 ((i:Nat):Int))]) (fun(⟨i,A,ca,xs⟩:Nat×Option Addr×Nat×List Value)=>HA.blk b6 [.slice A i ca] 22::HA.row A i ca 9 1 xs::[]) (fun(⟨i,A,ca,xs⟩:Nat×Option Addr×Nat×List Value)=>l.length - i) (0,_,_,[]) (⟨by show 0≤_;omega,rfl,by simp⟩) (eC Z (eN _)) Z ?_ (eC Z (eC Z (eC Z (eN _))))
 intro ⟨i,A,ca,xs⟩ hI K hK
 change Run _ _ _ _ _ [(28,_),(27,_),(26,_),(6,_)] [_,_] (_)
 obtain⟨hi,hxs,hsz⟩:=hI
 refine rO 3 Z (yK Z Z Z ?_)
 refine oR 2 Z (zK Z (fun h29=>?_) (fun h29=>?_))
 ·refine rO 6 Z (wN 1 cW Z Z Z Z h29 ?_)
  refine uM 1 i Z (fO h29) (fun b1=>?_)
  refine sR 1 Z (fun A1 cap1 ht1 hv1 hl1 hc1=>?_)
  refine zA (yE dE Z Z (fun _ h=>uN h (j:=2) Z) ?_)
  refine oO 10 Z (zC wG Z Z ?_)
  refine zA (zH 0 dI Z Z Z Z ?_)
  refine oR 10 Z (yX yI ?_)
  refine zS (tP 1 Z br (zZ Z) ?_)
  refine tP 2 Z br (yV Z) (tP 3 Z br (yA wT Z) ?_)
  refine yH (tM 0 Z br (xD 0 dH Z Z Z) ?_)
  refine tM 4 Z br (vX 0 cv Z Z Z) (zN 5 aD ?_)
  refine zP (I2:=[[0],[],[]]) Z br aD (fun Kd hKd=>?_)
  refine zM cG Z Z Z Z Z (fun b43=>?_)
  refine hKd _ _ _ (hC (zE (zE (zQ)))) (zN 6 aD ?_)
  refine zP (I2:=[[],[],[]]) Z br aD (fun Kd hKd=>?_)
  refine cO 2 0 cG (fun A44 c44=>?_)
  refine hKd _ _ _ (zE (zE (zE (zQ)))) (zN 7 aD ?_)
  refine zP (I2:=[[],[],[]]) Z br aD (fun Kd hKd=>?_)
  refine zF 1 (M':=[_,HA.blk _ [_] _,_]) Z Z Z Z fp Z Z Z (hKd _ _ _ (zE (zE (zE (zQ)))) ?_)
  refine yG aD (rK 0 [28,27,26,6] Z Z ?_)
  refine rO 4 Z (yD Z Z aC ?_)
  refine oR 3 Z ?_
  exact kQ (hK (i+1,_,_,xs++[.string (l[i]'h29)]) (⟨by show i+1≤_;omega,by rw [hxs];exact jk h29,lr h29 hsz hv1⟩) aw) (eC Z (eC Z (eC Z (eC Z (eN _)))))
 refine rR 6 Z ?_
 obtain rfl:i=l.length:=by omega
 rw [List.take_length]at hxs hsz
 refine vI 1 l Z aG hxs hsz (xN 0 Z aG ?_)
 exact yO (.fv (cD b6) (.texts l)) (fun w ok h=>⟨_,_,rfl,tK (dget h 0 Z) Z,dget h 1 Z⟩) (zD Tryz.results140 Z ⟨rfl,_,rfl,rfl⟩ nS (cC 0 Z))
theorem IC(sp:Value)(nb:Nat)(tag s:ByteArray):CtR Tryz.prog 144 #[sp,cD nb] [.node nb (cK tag s)] (RF (.tyS s)):=by
 refine Ct.of_run (args:=[sp,cD nb]) Tryz.func144 aF Z Tryz.ntmps144 Z (fun c=>?_)
 refine xV 0 Z (fun A0 cap0 ht0 hv0 hl0 hc0=>?_)
 refine rO 13 Z (zC wG Z Z ?_)
 refine zA (zH 0 dI Z Z Z Z ?_)
 refine oO 13 Z (yY Z Z (FD ..) ?_)
 refine zA (yN Z Z Z (fun b17=>?_))
 refine oK 3 [5,1] Z Z (rO 9 Z ?_)
 refine zC wT Z Z (oO 3 Z ?_)
 refine zC fL Z Z (zA ?_)
 refine zF 0 (M':=[HA.blk _ [_,_] _]) Z Z Z Z dz Z Z Z (oK 8 [4] Z Z ?_)
 refine xN 0 Z aG (yO (.fv (cD b17) (.tyS s)) (fun w ok h=>⟨b17,_,rfl,hv0,dget h 0 Z,tK (dget h 1 Z) Z⟩) ?_)
 exact zD Tryz.results144 Z ⟨rfl,_,rfl,rfl⟩ nS (cC 0 Z)
theorem ID(sp:Value)(nb:Nat)(l:List ByteArray)(hl:l.length≤1000000):CtR Tryz.prog 144 #[sp,cD nb] [.node nb (.mk 2 fx ⟨#[]⟩ (l.map (cK dF)))] (RF (.tyL l)):=by
 refine Ct.of_run (args:=[sp,cD nb]) Tryz.func144 aF Z Tryz.ntmps144 Z (fun c=>?_)
 refine xV 0 Z (fun A0 cap0 ht0 hv0 hl0 hc0=>?_)
 rw [List.length_map]
 rw [List.length_map]at hl0
 unfold maxLen at hc0
 refine rO 13 Z (zC wG Z Z ?_)
 refine zA (zH 0 dI Z Z Z Z ?_)
 refine oK 17 [25,1] Z Z (rO 4 Z ?_)
 refine xW cG Z Z Z (fun b27=>?_)
 refine zA (zT Fk Z (fun b6=>?_))
 change bu _ _ _ _ _ _ _ _ (HA.blk _ [_] _::_) _
 refine zA (zF 0 (M':=[HA.blk _ [_] _,_]) Z Z Z Z fp Z Z Z ?_)
 refine oO 9 Z (zC wH Z Z ?_)
 refine zA (zH 0 dR Z Z Z Z ?_)
 refine zA (zX cW Z Z ?_)
 refine oK 4 [33,32,31,6] Z Z ?_
 refine gb 1 (fun(⟨i,A,ca,xs⟩:Nat×Option Addr×Nat×List Value)=>i≤l.length∧xs=(l.take i).map Value.string∧ ∀ s∈l.take i,s.size≤maxLen) (fun(⟨i,A,ca,xs⟩:Nat×Option Addr×Nat×List Value)=>[(33, .int .i64 ((i:Nat):Int))]) (fun(⟨i,A,ca,xs⟩:Nat×Option Addr×Nat×List Value)=>HA.blk b6 [.slice A i ca] 22::HA.row A i ca 9 1 xs::[]) (fun(⟨i,A,ca,xs⟩:Nat×Option Addr×Nat×List Value)=>l.length - i) (0,_,_,[]) (⟨by show 0≤_;omega,rfl,by simp⟩) (eC Z (eN _)) Z ?_ (eC Z (eC Z (eC Z (eN _))))
 intro ⟨i,A,ca,xs⟩ hI K hK
 change Run _ _ _ _ _ [(33,_),(32,_),(31,_),(6,_)] [_,_] (_)
 obtain⟨hi,hxs,hsz⟩:=hI
 refine rO 3 Z (yK Z Z Z ?_)
 refine oR 2 Z (zK Z (fun h34=>?_) (fun h34=>?_))
 ·refine rO 6 Z (wN 1 cW Z Z Z Z h34 ?_)
  refine uM 1 i Z (fO h34) (fun b1=>?_)
  refine sR 1 Z (fun A1 cap1 ht1 hv1 hl1 hc1=>?_)
  refine zA (yE dE Z Z (fun _ h=>uN h (j:=2) Z) ?_)
  refine oO 10 Z (zC wG Z Z ?_)
  refine zA (zH 0 dI Z Z Z Z ?_)
  refine oR 10 Z (yX yI ?_)
  refine zS (tP 1 Z br (zZ Z) ?_)
  refine tP 2 Z br (yV Z) (tP 3 Z br (yA wT Z) ?_)
  refine yH (tM 0 Z br (xD 0 dH Z Z Z) ?_)
  refine tM 4 Z br (vX 0 cv Z Z Z) (zN 5 aD ?_)
  refine zP (I2:=[[0],[],[]]) Z br aD (fun Kd hKd=>?_)
  refine zM cG Z Z Z Z Z (fun b48=>?_)
  refine hKd _ _ _ (hC (zE (zE (zQ)))) (zN 6 aD ?_)
  refine zP (I2:=[[],[],[]]) Z br aD (fun Kd hKd=>?_)
  refine cO 2 0 cG (fun A49 c49=>?_)
  refine hKd _ _ _ (zE (zE (zE (zQ)))) (zN 7 aD ?_)
  refine zP (I2:=[[],[],[]]) Z br aD (fun Kd hKd=>?_)
  refine zF 1 (M':=[_,HA.blk _ [_] _,_]) Z Z Z Z fp Z Z Z (hKd _ _ _ (zE (zE (zE (zQ)))) ?_)
  refine yG aD (rK 0 [33,32,31,6] Z Z ?_)
  refine rO 4 Z (yD Z Z aC ?_)
  refine oR 3 Z ?_
  exact kQ (hK (i+1,_,_,xs++[.string (l[i]'h34)]) (⟨by show i+1≤_;omega,by rw [hxs];exact jk h34,lr h34 hsz hv1⟩) aw) (eC Z (eC Z (eC Z (eC Z (eN _)))))
 refine rO 4 Z (yY Z Z (FD ..) ?_)
 refine zA (yN Z Z Z (fun b52=>?_))
 refine oO 10 Z (zC i7 Z Z ?_)
 refine zA (zF 0 (M':=[HA.blk _ [_,_] _,_,_]) Z Z Z Z vf Z Z Z ?_)
 refine oK 1 [9] Z Z (rR 7 Z ?_)
 obtain rfl:i=l.length:=by omega
 rw [List.take_length]at hxs hsz
 refine vI 2 l Z aG hxs hsz (xN 1 Z aG ?_)
 refine xN 0 Z aG (yO (.fv (cD b52) (.tyL l)) (fun w ok h=>⟨b52,_,_,rfl,dget h 0 Z,tK (dget h 1 Z) Z,dget h 2 Z⟩) ?_)
 exact zD Tryz.results144 Z ⟨rfl,_,rfl,rfl⟩ nS (cC 0 Z)
theorem KJ(sp:Value)(nb:Nat)(l:List EV)(hl:l.length≤1000000):CtR Tryz.prog 143 #[sp,cD nb] [.node nb (.mk 2 fx ⟨#[]⟩ (l.map yb))] (RF (.enums l)):=by
 refine Ct.of_run (args:=[sp,cD nb]) Tryz.func143 aF Z Tryz.ntmps143 Z (fun c=>?_)
 refine xV 0 Z (fun A0 cap0 ht0 hv0 hl0 hc0=>?_)
 rw [List.length_map]
 rw [List.length_map]at hl0
 unfold maxLen at hc0
 refine rO 8 Z (xW lV Z Z Z (fun b10=>?_))
 refine zA (zT H0 Z (fun b5=>?_))
 change bu _ _ _ _ _ _ _ _ (HA.blk _ [_] _::_) _
 refine zA (zF 0 (M':=[HA.blk _ [_] _,_]) Z Z Z Z Aj Z Z Z ?_)
 refine oO 9 Z (zC wG Z Z ?_)
 refine zA (zH 0 dI Z Z Z Z ?_)
 refine oO 17 Z (zC wH Z Z ?_)
 refine zA (zH 0 dR Z Z Z Z ?_)
 refine zA (zX cW Z Z ?_)
 refine oK 3 [22,21,20,5] Z Z (rK 1 [22,21,20,5] Z Z ?_)
 refine yO (.evs [] (l.take 0)) (fun w ok h=>⟨rfl,fun i e hi=>by simp at hi⟩) ?_
 refine yR 1 (fun(⟨i,A,ca,xs⟩:Nat×Option Addr×Nat×List Value)=>i≤l.length) (fun(⟨i,A,ca,xs⟩:Nat×Option Addr×Nat×List Value)=>[(22, .int .i64 ((i:Nat):Int))]) (fun(⟨i,A,ca,xs⟩:Nat×Option Addr×Nat×List Value)=>HA.blk b5 [.slice A i ca] 221::HA.row A i ca 223 2 xs::[]) (fun(⟨i,A,ca,xs⟩:Nat×Option Addr×Nat×List Value)=> .evs xs (l.take i):: .dblk nb (dJ 2 fx ⟨#[]⟩ A0 l.length cap0) 150:: .kids (.slice A0 l.length cap0) (l.map yb):: .node nb (.mk 2 fx ⟨#[]⟩ (l.map yb))::[]) (fun(⟨i,A,ca,xs⟩:Nat×Option Addr×Nat×List Value)=>l.length - i) (0,_,_,[]) bX (eC Z (eN _)) Z Z ?_ (eC Z (eC Z (eC Z (eN _))))
 intro ⟨i,A,ca,xs⟩ hI K hK
 replace hI:i≤l.length:=hI
 change Run _ _ _ _ _ [(22,_),(21,_),(20,_),(5,_)] [_,_] [_,_,_,_]
 refine rO 3 Z (yK Z Z Z ?_)
 refine oR 2 Z (zK Z (fun h23=>?_) (fun h23=>?_))
 ·refine rO 6 Z (wN 2 cW Z Z Z Z h23 ?_)
  refine uM 2 i Z (fO h23) (fun b1=>?_)
  refine jE 1 Z (fun A1 cap1 ht1 hv1 hl1 hc1=>?_)
  refine zA (yE dE Z Z (fun _ h=>uN h (j:=2) Z) ?_)
  refine oO 10 Z (zC wG Z Z ?_)
  refine zA (zH 0 dI Z Z Z Z ?_)
  refine oR 9 Z (wY Z (decide_eq_true (BI _)) ?_)
  refine rO 7 Z (zC rD Z Z ?_)
  refine zA (zH 0 cv Z Z Z Z ?_)
  refine oK 1 [35,7,22,21,20,5] Z Z (rR 8 Z ?_)
  refine zK Z (fun h36=>?_) (fun h36=>?_)
  ·obtain⟨s9,he⟩:=Da h36
   refine yX yI (zS ?_)
   refine tP 1 Z br (zZ Z) (tP 2 Z br (yV Z) ?_)
   refine tP 3 Z br (yA wT Z) (yH ?_)
   refine tM 0 Z br (xD 0 Ai Z Z Z) (tM 4 Z br (tZ Z (DT ..)) ?_)
   refine zN 5 aD ?_
   refine zP (I2:=[[0],[],[]]) Z br aD (fun Kd hKd=>?_)
   refine zM lV Z Z Z Z Z (fun b43=>?_)
   refine hKd _ _ _ (hC (zE (zE (zQ)))) (zN 6 aD ?_)
   refine zP (I2:=[[],[],[]]) Z br aD (fun Kd hKd=>?_)
   refine cO 2 0 lV (fun A44 c44=>?_)
   refine hKd _ _ _ (zE (zE (zE (zQ)))) (zN 7 aD ?_)
   refine zP (I2:=[[],[],[]]) Z br aD (fun Kd hKd=>?_)
   refine zF 1 (M':=[_,HA.blk _ [_] _,_]) Z Z Z Z Aj Z Z Z (hKd _ _ _ (zE (zE (zE (zQ)))) ?_)
   refine yG aD (rK 0 [22,21,20,5] Z Z ?_)
   refine rO 5 Z (yD Z Z aC ?_)
   refine oR 3 Z (yO (.evs (xs++[.pointer (some ⟨b1,3,none⟩), .pointer none]) ((l.take i)++[l[i]])) (fun w ok h=>EvsP.snoc (dget h 4 Z) (by rw [he];exact⟨_,rfl,rfl,by rw [he]at hv1;exact hv1,by have:=tK (o:=3) (dget h 0 Z) rfl;rw [he]at this;exact this⟩)) ?_)
   rw [vt h23]
   exact kQ (hK (i+1,_,_,_) bQ aw) (eC Z (eC Z (eC Z (eC Z (eN _))))) (hD:=(cR 0 Z sQ))
  obtain⟨x9,he⟩:=BJ h36
  refine rR 7 Z (wY Z (decide_eq_true (by rw [he];rfl)) ?_)
  refine rO 7 Z (zC wT Z Z ?_)
  refine zA (zH 0 cv Z Z Z Z ?_)
  refine zA (zJ Z Z (by rw [he];rfl) (c181 x9) cF ?_)
  refine oO 7 Z (zT J3 Z (fun b8=>?_))
  change bu _ _ _ _ _ _ _ _ (HA.blk _ [_] _::_) _
  refine zA (zF 0 (M':=[HA.blk _ [_] _,_,_]) Z Z Z Z C6 Z Z Z ?_)
  refine oK 3 [8,22,21,20,5] Z Z (rO 2 Z ?_)
  refine zG 1 Ai Z Z Z Z (zA ?_)
  refine yY Z Z (DU ..) (zA ?_)
  refine zM lV Z Z Z Z Z (fun b57=>?_)
  refine zA ?_
  refine cO 3 0 lV (fun A58 c58=>?_)
  refine zA (zF 2 (M':=[_,_,HA.blk _ [_] _,_]) Z Z Z Z Aj Z Z Z ?_)
  refine oO 6 Z (yD Z Z aC ?_)
  refine oR 3 Z (xN 1 Z aG ?_)
  refine yO (.evs (xs++[.pointer none,cD b8]) ((l.take i)++[l[i]])) (fun w ok h=>EvsP.snoc (dget h 5 Z) (by rw [he];exact⟨_,rfl,rfl,tK (dget h 0 Z) Z⟩)) ?_
  rw [vt h23]
  exact kQ (hK (i+1,_,_,_) bQ aw) (eC Z (eC Z (eC Z (eC Z (eN _))))) (hD:=(cR 0 Z sQ))
 refine rR 7 Z ?_
 obtain rfl:i=l.length:=by omega
 rw [List.take_length]
 refine yc 1 0 l Z Z aG Z (xN 0 Z aG ?_)
 exact yO (.fv (cD b5) (.enums l)) (fun w ok h=>⟨_,_,_,rfl,tK (dget h 0 Z) Z,(dget h 1 Z:(DA.evrow A ca l).p w ok)⟩) (zD Tryz.results143 Z ⟨rfl,_,rfl,rfl⟩ nS (cC 0 Z))
end Go.Jw

namespace Go.Jw
open Go Go.RowKit
def MapOk(es:Array MapEntry):Prop:= ∀ x∈es.toList,∃s,x.key= .string s
theorem MapOk.empty:MapOk #[]:=by intro x hx;cases hx
theorem MapOk.isKey{es:Array MapEntry}(h:MapOk es): ∀ x∈es.toList,MapKept.IsKey .string x.key:=by
 intro x hx
 obtain⟨s,hs⟩:=h x hx
 rw [hs];simp [MapKept.IsKey]
theorem th{P:Program}{w:World}{mty kt et:TypeId}{r clock:Nat}{es:Array MapEntry}{s:ByteArray}{val:Value}(hm:P.underlying mty=some (.map kt et))(hk:P.underlying kt=some .string)(hb:w.heap[r]? =some (.map es clock))(hes:MapOk es):
  ∃es' clock',(Instr.mapUpdate mty (.map (some r)) (.string s) val).run P w= .ok () {w with heap:=w.heap.setIfInBounds r (.map es' clock')}∧MapOk es'∧(es= #[]→es'= #[{key:= .string s,val:=val,born:=clock}]):=by
 have hc:(Instr.checkKey false 10000 kt (.string s)).run P w= .ok () w:=MapKept.run_checkKey (k:= .string s) hk (by simp [MapKept.IsKey]) false 9999
 rcases MapKept.findNow_spec (d:= .string) (k:= .string s) (by simp [MapKept.IsKey]) es.toList 0 hes.isKey with ⟨hf,_⟩|⟨j,e,hf,hj,hke⟩
 ·refine⟨es.push {key:= .string s,val:=val,born:=clock},clock+1,?_,?_,?_⟩
  ·simp [Instr.mapUpdate,run_underlying hm,MapKept.run_getObj_map hb,hc,MapKept.run_findKey hk hf,MapKept.run_setObj_map _ hb,Result.andThen]
  ·intro x hx
   simp at hx
   rcases hx with hx|rfl
   ·exact hes x (by simpa using hx)
   ·exact⟨s,rfl⟩
  ·intro h;subst h;rfl
 ·rw [Nat.zero_add]at hf
  have hj':es[j]? =some e:=by simpa using hj
  refine⟨es.modify j (fun e=>{e with key:= .string s,val:=val}),clock,?_,?_,?_⟩
  ·have hst:(Instr.keyThatStays (.string s) (.string s)).run P w= .ok (.string s) w:=by
    have:(s==s)=true:=(MapKept.bytes_beq s s).2 rfl
    simp [Instr.keyThatStays,Instr.sameBits,this]
   simp [Instr.mapUpdate,run_underlying hm,MapKept.run_getObj_map hb,hc,MapKept.run_findKey hk hf,MapKept.run_setObj_map _ hb,Result.andThen,hj',hke,hst]
  ·intro x hx
   obtain⟨q,hq,rfl⟩:=List.getElem_of_mem hx
   simp only [Array.toList_modify,List.getElem_modify]at*
   split
   ·exact⟨s,rfl⟩
   ·exact hes _ (List.getElem_mem _)
  ·intro h;subst h;simp at hj'
section rules
variable {P:Program} {n:Nat} {F:List Nat} {c:Ctx F} {ops:Array Oper} {d:Nat} {T:TypeId} {l:List Oper} {k:List KI} {Q:Post} {e:cp} {M:List HA} {D:List DA}
theorem yd(i:Nat){x y z:Operand}{mb clock:Nat}{es:Array MapEntry}{s:ByteArray}{v:Value}{S kt et:TypeId}(hm:P.underlying S=some (.map kt et))(hk:P.underlying kt=some .string)(hx:ev e x=some (.map (some mb)))(hy:ev e y=some (.string s))(hz:ev e z=some v)
    (hi:M[i]? =some (.obj mb (.map es clock))) (hes:MapOk es) (next: ∀ es' clock',MapOk es'→(es= #[]→es'= #[{key:= .string s,val:=v,born:=clock}])→bu P n c ops l k Q e (M.set i (.obj mb (.map es' clock'))) D):
    b0 P n c ops none (.mapUpdate S x y z) T l k Q e M D:=by
  intro a w hf
  have hb:w.heap[mb]? =some (.map es clock):=hf.toFitsW.mem hi
  obtain⟨es',clock',hr,h1,h2⟩:=th (P:=P) (s:=s) (val:=v) hm hk hb hes
  have hlt:mb<w.heap.size:=sF hb
  unfold Oper.wp
  have:(execOp a.eval (cx none (.mapUpdate S x y z) T)).run P w= .ok .skip {w with heap:=w.heap.setIfInBounds mb (.map es' clock')}:=by
    simp [execOp,cx,hf.ev hx,hf.ev hy,hf.ev hz,hr]
  rw [this]
  refine next es' clock' h1 h2 _ _ (hf.world (hf.toFitsW.swapAt hi (x':= .obj mb (.map es' clock')) ?_ ?_ bf (fun b hb=> .inl hb)))
  · show(w.heap.setIfInBounds mb _)[mb]? =_
    simp [hlt]
  · refine⟨rfl,rfl,rfl,by simp,fun q hq hF=>?_⟩
    have hne:mb≠q:=by intro e;subst e;exact hF bf
    show(w.heap.setIfInBounds mb _)[q]? =_
    rw [Array.getElem?_setIfInBounds_ne hne]
end rules
end Go.Jw

namespace Go.Jw
open Go Go.RowKit Go.Proofs
set_option maxRecDepth 8000
open Go.Proofs
instance:Inhabited Prop:=⟨True⟩
noncomputable def d4:V→Prop:=V.fix (fun v f=>getV v kId=none∧ ∀ (j:Nat) k u,v.keys[j]? =some k→v.items[j]? =some u→ ∀ z∈kidsOf (bw k) u,f z)
def nD(v:V):Prop:= ∀ (j:Nat) k u,v.keys[j]? =some k→v.items[j]? =some u→ ∀ z∈kidsOf (bw k) u,d4 z
theorem noId_iff(v:V):d4 v↔getV v kId=none∧nD v:=by
 have:=V.fix_eq (G:=fun v f=>getV v kId=none∧ ∀ (j:Nat) k u,v.keys[j]? =some k→v.items[j]? =some u→ ∀ z∈kidsOf (bw k) u,f z) (fun t g g' h=>by
  have: ∀ (j:Nat) k u,t.items[j]? =some u→((∀ z∈kidsOf (bw k) u,g z)↔ ∀ z∈kidsOf (bw k) u,g' z):=by
   intro j k u hu
   have hs: ∀ z∈kidsOf (bw k) u,SizeOf.sizeOf z<SizeOf.sizeOf t:=fun z hz=>Nat.lt_of_le_of_lt (uY hz) (gE hu)
   exact⟨fun a z hz=>by rw [←h z (hs z hz)];exact a z hz,fun a z hz=>by rw [h z (hs z hz)];exact a z hz⟩
  apply propext
  constructor
  ·rintro ⟨h1,h2⟩;exact⟨h1,fun j k u hk hu=>(this j k u hu).1 (h2 j k u hk hu)⟩
  ·rintro ⟨h1,h2⟩;exact⟨h1,fun j k u hk hu=>(this j k u hu).2 (h2 j k u hk hu)⟩) v
 show V.fix _ v↔_
 rw [this]
 rfl
def IE(mb:Nat)(es:Array MapEntry)(clock:Nat)(x:V)(u:Value)(M':List HA)(D':List DA):Prop:=
 ∃b G es' clock',u=cD b∧M'=[.many 124 (Gr.blks G), .obj mb (.map es' clock')]∧D'=[.graph mb G]∧Unf G x b∧MapOk es'∧(d4 x→es'=es∧clock'=clock)∧
  (∀ idv,getV x kId=some idv→nD x→es= #[]→es'= #[{key:= .string idv.text,val:=cD b,born:=clock}])∧Own G [b]
def gI(ft:DA)(mb:Nat)(back:Bool)(x:V):Prop:= ∀ nb es clock,MapOk es→Ct Tryz.prog 103 #[cD nb, .map (some mb)] [.obj mb (.map es clock)] [.node nb (cb back x),ft] (IE mb es clock x)
noncomputable abbrev ei(back:Bool)(p:ByteArray×V):ByteArray×Y:=(p.1,cb back p.2)
theorem pm(l:List (ByteArray×Y)):(l.flatMap du).length=2*l.length:=by
  induction l with
  |nil=>rfl
  |cons a l ih=>simp [List.flatMap_cons,du]at*;omega
theorem nE{l:List (ByteArray×Y)}{i:Nat}(h:i<l.length):(l.flatMap du)[2*i]? =some (cK dF l[i].1):=by
  induction l generalizing i with
  |nil=>simp at h
  |cons a l ih=>
    cases i with
    |zero=>rfl
    |succ i=>
      rw [show 2*(i+1)=2*i+2 from by omega]
      simp only [List.flatMap_cons,du,List.cons_append,List.nil_append,List.getElem?_cons_succ,List.getElem_cons_succ]
      exact ih bm
theorem nF{l:List (ByteArray×Y)}{i:Nat}(h:i<l.length):(l.flatMap du)[2*i+1]? =some l[i].2:=by
  induction l generalizing i with
  |nil=>simp at h
  |cons a l ih=>
    cases i with
    |zero=>rfl
    |succ i=>
      rw [show 2*(i+1)+1=2*i+1+2 from by omega]
      simp only [List.flatMap_cons,du,List.cons_append,List.nil_append,List.getElem?_cons_succ,List.getElem_cons_succ]
      exact ih bm
theorem jl(f:ByteArray×V→ByteArray×Y)(ps:List (ByteArray×V)):((ps.map f).flatMap du).length=2*ps.length:=by rw [pm,List.length_map]
theorem oA{back:Bool}{ps:List (ByteArray×V)}{i:Nat}(h:i<ps.length):((ps.map (ei back)).flatMap du)[2*i]? =some (cK dF ps[i].1):=by
 rw [nE bm];simp
theorem oB{back:Bool}{ps:List (ByteArray×V)}{i:Nat}(h:i<ps.length):((ps.map (ei back)).flatMap du)[2*i+1]? =some (cb back ps[i].2):=by
 rw [nF bm];simp
theorem gj{back:Bool}{v:V}(h:v.kind=5):cb back v= .mk 4 jg ⟨#[]⟩ (((prs back v).map (ei back)).flatMap du):=by
 rw [vY]
 simp only [h]
 have:lh back (v.keys.zip (v.items.map (cb back)))=(prs back v).map (ei back):=by
  have h1:v.keys.zip (v.items.map (cb back))=(v.keys.zip v.items).map (ei back):=by
   rw [List.zip_map_right];rfl
  unfold lh prs
  rw [h1]
  cases back<;>simp
 rw [this]
 simp
theorem fQ{back:Bool}{v:V}(h:v.kind=4):cb back v= .mk 2 fx ⟨#[]⟩ (v.items.map (cb back)):=by
 rw [vY];simp [h]
theorem pM{back:Bool}{v:V}(h:v.kind=5):(cb back v).kind=4:=by rw [gj h];rfl
theorem Dc{w:World}{ok:Nat→Prop}{A:Option Addr}{m c T:Nat}{xs:List Value}{bs:List Nat}(h:(HA.row A m c T 1 xs).holds w)(hok: ∀ b∈(HA.row A m c T 1 xs).foot,ok b)(hx:xs=bs.map cD):RowPtrs w ok (.slice A m c) bs:=by
 obtain⟨h1,h2,h3⟩:=uW h
 have hm:m=bs.length:=by have:=h.1;subst hx;simp at this;omega
 subst hm
 refine⟨A,c,rfl,h1,h2,fun i b hi=>?_⟩
 obtain⟨a,ha,hf,hc⟩:=h3 i (cD b) (by subst hx;simp [hi])
 exact⟨a,ha,hok _ bj,hc⟩
section rules
variable {P:Program} {n:Nat} {F:List Nat} {c:Ctx F} {k:List KI} {Q:Post} {e:cp} {M:List HA} {D:List DA}
theorem fR(i:Nat){A:Option Addr}{m cap E:Nat}{xs:List Value}(bs:List Nat)(hi:M[i]? =some (.row A m cap E 1 xs))(hF: ∀ b∈F,b∈foots (M.eraseIdx i))(hx:xs=bs.map cD)(next:Run P n c k Q e (M.eraseIdx i) (.rowp (.slice A m cap) bs::D)):Run P n c k Q e M D:=
 tH i [.rowp (.slice A m cap) bs] hF hi (fun w ok h hok hD d hd=>by
  rcases List.mem_singleton.1 hd with rfl
  exact Dc h hok hx) next
end rules
def NamP(w:World)(ok:Nat→Prop)(nbs:List Nat)(l:List (ByteArray×Nat)):Prop:=nbs.length=l.length∧ ∀ (i:Nat) (q:ByteArray×Nat) (nb:Nat),l[i]? =some q→nbs[i]? =some nb→q.1.size≤maxLen∧BlkP w ok nb [.string q.1,cD q.2] 179
def DA.nam(nbs:List Nat)(l:List (ByteArray×Nat)):DA:=⟨fun w ok=>NamP w ok nbs l,fun h1 h2 h=>⟨h.1,fun i q nb a b=>⟨(h.2 i q nb a b).1,(h.2 i q nb a b).2.mono h1 h2⟩⟩⟩
theorem NamP.snoc{w:World}{ok:Nat→Prop}{nbs:List Nat}{l:List (ByteArray×Nat)}{q:ByteArray×Nat}{nb:Nat}(h:NamP w ok nbs l)(hq:q.1.size≤maxLen)(hb:BlkP w ok nb [.string q.1,cD q.2] 179):NamP w ok (nbs++[nb]) (l++[q]):=by
 refine⟨by simp [h.1],fun i q' nb' a b=>?_⟩
 rcases Nat.lt_trichotomy i l.length with hi|hi|hi
 ·rw [List.getElem?_append_left hi]at a
  rw [List.getElem?_append_left (by rw [h.1];exact hi)]at b
  exact h.2 i q' nb' a b
 ·subst hi
  rw [List.getElem?_append_right (Nat.le_refl _)]at a
  rw [List.getElem?_append_right bC]at b
  simp at a;simp [h.1]at b
  subst a;subst b
  exact⟨hq,hb⟩
 ·rw [List.getElem?_eq_none bp]at a;cases a
theorem gk(nbs:List Nat)(b:Nat):nbs.map cD++[cD b]=(nbs++[b]).map cD:=by simp
theorem ej{α β:Type}{R:α→β→Prop}{l:List α}{ps:List β}{i:Nat}(hi:i<ps.length){q:α}(h:All2 R l (ps.take i))(hq:R q ps[i]):All2 R (l++[q]) (ps.take (i+1)):=by
 rw [List.take_add_one,List.getElem?_eq_getElem hi]
 exact h.snoc hq
theorem ye{ps:List (ByteArray×V)}{i:Nat}(hi:i<ps.length)(h: ∀ p∈ps.take (i+1),d4 p.2):(∀ p∈ps.take i,d4 p.2)∧d4 ps[i].2:=by
 rw [List.take_add_one,List.getElem?_eq_getElem hi]at h
 exact⟨fun p hp=>h p (List.mem_append_left _ hp),h _ (List.mem_append_right _ aJ)⟩
theorem ls{ps:List V}{i:Nat}(hi:i<ps.length)(h: ∀ p∈ps.take (i+1),d4 p):(∀ p∈ps.take i,d4 p)∧d4 ps[i]:=by
 rw [List.take_add_one,List.getElem?_eq_getElem hi]at h
 exact⟨fun p hp=>h p (List.mem_append_left _ hp),h _ (List.mem_append_right _ aJ)⟩
abbrev BK(G:Gr)(q:ByteArray×Nat)(p:ByteArray×V):Prop:=q.1=p.1∧Unf G p.2 q.2
theorem F3{G G':Gr}{l:List (ByteArray×Nat)}{ps:List (ByteArray×V)}(h:All2 (BK G) l ps):All2 (BK (G'++G)) l ps:=h.mono fun q p _ hq=>⟨hq.1,Unf.mono (fun g hg=>List.mem_append_right _ hg) _ _ hq.2⟩
theorem FG{G G':Gr}{l:List Nat}{ps:List V}(h:All2 (fun b x=>Unf G x b) l ps):All2 (fun b x=>Unf (G'++G) x b) l ps:=h.mono fun q p _ hq=>Unf.mono (fun g hg=>List.mem_append_right _ hg) _ _ hq
theorem BL{G G':Gr}{x:V}{b:Nat}(h:Unf G x b):Unf (G++G') x b:=Unf.mono (fun g hg=>List.mem_append_left _ hg) _ _ h
theorem gJ(G G':Gr):Gr.blks G++Gr.blks G'=Gr.blks (G++G'):=by simp [Gr.blks]
def DepP(w:World)(ok:Nat→Prop)(nbs:List Nat)(l:List (ByteArray×List ByteArray)):Prop:=nbs.length=l.length∧ ∀ (i:Nat) (q:ByteArray×List ByteArray) (nb:Nat),l[i]? =some q→nbs[i]? =some nb→
 ∃tb p2 sl2,q.1.size≤maxLen∧BlkP w ok nb [.string q.1,cD tb] 192∧BlkP w ok tb [.pointer none, .pointer (some p2)] 194∧PtsTo w ok p2 sl2∧StrsP w ok sl2 q.2
def DA.dep(nbs:List Nat)(l:List (ByteArray×List ByteArray)):DA:=⟨fun w ok=>DepP w ok nbs l,fun h1 h2 h=>⟨h.1,fun i q nb a b=>by
 obtain⟨tb,p2,sl2,a1,a2,a3,a4,a5⟩:=h.2 i q nb a b
 exact⟨tb,p2,sl2,a1,a2.mono h1 h2,a3.mono h1 h2,a4.mono h1 h2,a5.mono h1 h2⟩⟩⟩
theorem DepP.snoc{w:World}{ok:Nat→Prop}{nbs:List Nat}{l:List (ByteArray×List ByteArray)}{q:ByteArray×List ByteArray}{nb tb:Nat}{p2:Addr}{sl2:Value}(h:DepP w ok nbs l)(hq:q.1.size≤maxLen)(hb:BlkP w ok nb [.string q.1,cD tb] 192)(ht:BlkP w ok tb [.pointer none, .pointer (some p2)] 194)(hp:PtsTo w ok p2 sl2)(hs:StrsP w ok sl2 q.2):
  DepP w ok (nbs++[nb]) (l++[q]):=by
 refine⟨by simp [h.1],fun i q' nb' a b=>?_⟩
 rcases Nat.lt_trichotomy i l.length with hi|hi|hi
 ·rw [List.getElem?_append_left hi]at a
  rw [List.getElem?_append_left (by rw [h.1];exact hi)]at b
  exact h.2 i q' nb' a b
 ·subst hi
  rw [List.getElem?_append_right (Nat.le_refl _)]at a
  rw [List.getElem?_append_right bC]at b
  simp at a;simp [h.1]at b
  subst a;subst b
  exact⟨tb,p2,sl2,hq,hb,ht,hp,hs⟩
 ·rw [List.getElem?_eq_none bp]at a;cases a
theorem gK{back:Bool}{v:V}(h:v.kind=4)(h3: ∀ y∈v.items,y.kind=3):cb back v= .mk 2 fx ⟨#[]⟩ ((v.items.map V.text).map (cK dF)):=by
 rw [fQ h]
 congr 1
 rw [List.map_map]
 refine List.map_congr_left fun y hy=>?_
 have:=h3 y hy
 rw [vY]
 simp [this]
abbrev po(p:ByteArray×V):ByteArray×List ByteArray:=(p.1,p.2.items.map V.text)

theorem KK(ft:DA)(sb nb mb:Nat)(cs:List Value)(back:Bool)(ps:List (ByteArray×V))(hl:ps.length≤1000000)(hcs:cs[0]? =some (.map (some mb)))(H: ∀ p∈ps,gI ft mb back p.2)(es:Array MapEntry)(clock:Nat)(hes:MapOk es):
  Ct Tryz.prog 141 #[cD sb,cD nb] [.blk sb cs 124, .obj mb (.map es clock)] [.node nb (.mk 4 jg ⟨#[]⟩ ((ps.map (ei back)).flatMap du)),ft] (fun u M' D'=> ∃p G es' clock' l,u= .pointer (some p)∧M'=[.blk sb cs 124, .many 124 (Gr.blks G), .obj mb (.map es' clock')]∧D'=[.fv u (.named l), .graph mb G]∧
   All2 (BK G) l ps∧MapOk es'∧((∀ p∈ps,d4 p.2)→es'=es∧clock'=clock)∧Own G (l.map (·.2))):=by
 refine Ct.of_run (args:=[cD sb,cD nb]) Tryz.func141 aF Z Tryz.ntmps141 Z (fun c=>?_)
 refine xV 0 Z (fun A0 cap0 ht0 hv0 hl0 hc0=>?_)
 rw [jl]
 rw [jl]at hl0
 unfold maxLen at hc0
 refine rO 13 Z (zC wG Z Z ?_)
 refine zA (zH 0 dI Z Z Z Z ?_)
 refine oO 13 Z (xW dh Z Z Z (fun b16=>?_))
 refine zA (zT Hv Z (fun b5=>?_))
 change bu _ _ _ _ _ _ _ _ (HA.blk _ [_] _::_) _
 refine zA (zF 0 (M':=[HA.blk _ [_] _,_,_,_]) Z Z Z Z E3 Z Z Z ?_)
 refine oK 8 [6,5,0,1] Z Z (yO (.graph mb []) (fun w ok h g hg=>by cases hg) ?_)
 refine yO (.nam [] []) (fun w ok h=>⟨rfl,fun i q nb a=>by simp at a⟩) (gi 124 ?_)
 refine rV (M':=HA.blk b5 [.slice (some ⟨b16,0,none⟩) 0 0] 110::HA.row (some ⟨b16,0,none⟩) 0 0 125 1 []::HA.many 124 []::HA.obj mb (.map es clock)::HA.blk sb cs 124::[]) ?_ ?_
 ·exact((List.Perm.swap _ _ _).trans (.cons _ (List.Perm.swap _ _ _))).trans (.cons _ (.cons _ (.cons _ (List.Perm.swap _ _ _))))
 refine yR 1 (fun(⟨i,A,ca,nbs,es1,ck1,G,l⟩:Nat×Option Addr×Nat×List Nat×Array MapEntry×Nat×Gr×List (ByteArray×Nat))=>i≤ps.length∧All2 (BK G) l (ps.take i)∧MapOk es1∧((∀ p∈ps.take i,d4 p.2)→es1=es∧ck1=clock)∧Own G (l.map (·.2))) (fun(⟨i,A,ca,nbs,es1,ck1,G,l⟩:Nat×Option Addr×Nat×List Nat×Array MapEntry×Nat×Gr×List (ByteArray×Nat))=>[(6, .int .i64 ((2*i:Nat):Int))]) (fun(⟨i,A,ca,nbs,es1,ck1,G,l⟩:Nat×Option Addr×Nat×List Nat×Array MapEntry×Nat×Gr×List (ByteArray×Nat))=>HA.blk b5 [.slice A i ca] 110::HA.row A i ca 125 1 (nbs.map cD)::HA.many 124 (Gr.blks G)::HA.obj mb (.map es1 ck1)::HA.blk sb cs 124::[]) (fun(⟨i,A,ca,nbs,es1,ck1,G,l⟩:Nat×Option Addr×Nat×List Nat×Array MapEntry×Nat×Gr×List (ByteArray×Nat))=> .nam nbs l:: .graph mb G:: .dblk nb (dJ 4 jg ⟨#[]⟩ A0 (2*ps.length) cap0) 150:: .kids (.slice A0 (2*ps.length) cap0) ((ps.map (ei back)).flatMap du):: .node nb (.mk 4 jg ⟨#[]⟩ ((ps.map (ei back)).flatMap du))::ft::[]) (fun(⟨i,A,ca,nbs,es1,ck1,G,l⟩:Nat×Option Addr×Nat×List Nat×Array MapEntry×Nat×Gr×List (ByteArray×Nat))=>ps.length - i) (0,_,_,[],es,clock,[],[]) (⟨by show 0≤_;omega,All2.nil _,hes,fun _=>⟨rfl,rfl⟩,Own.nil⟩) (eC Z (eN _)) Z Z ?_ (eC Z (eC Z (eC Z (eN _))))
 intro ⟨i,A,ca,nbs,es1,ck1,G,l⟩ hI K hK
 change Run _ _ _ _ _ [(6,_),(5,_),(0,_),(1,_)] [_,_,_,_,_] [_,_,_,_,_,_]
 obtain⟨hi,hall,hok,hno,hown⟩:=hI
 refine rO 10 Z (zC wH Z Z ?_)
 refine zA (zH 2 dR Z Z Z Z ?_)
 refine zA (zX cW Z Z ?_)
 refine zA (yK Z Z Z ?_)
 refine zY (zK Z (fun h23=>?_) (fun h23=>?_))
 ·refine rO 10 Z (zC wH Z Z ?_)
  refine zA (zH 2 dR Z Z Z Z ?_)
  refine oO 3 Z (wN (i:=2*i) 3 cW Z Z Z Z aC ?_)
  have hlt:i<ps.length:=by omega
  refine uM 3 (2*i) Z (oA hlt) (fun b1=>?_)
  refine sR 1 Z (fun A1 cap1 ht1 hv1 hl1 hc1=>?_)
  refine zA (yE dE Z Z (fun _ h=>uN h (j:=2) Z) ?_)
  refine oO 3 Z (zC wT Z Z ?_)
  refine zA (zH 0 cv Z Z Z Z ?_)
  refine oK 3 [7,6,5,0,1] Z Z (rO 7 Z ?_)
  refine zC wH Z Z (zA ?_)
  refine zH 6 dR Z Z Z Z (oO 3 Z ?_)
  refine yD Z Z aC (zA ?_)
  refine wN (i:=2*i+1) 7 cW Z Z Z Z aC (uM 7 (2*i+1) Z (oB hlt) (fun b2=>?_))
  refine zA (yE dE Z Z (fun _ h=>uN h (j:=0) Z) ?_)
  refine oO 14 Z (zC pH Z Z ?_)
  refine zA (sC 4 j5 Z Z Z hcs ?_)
  refine zA (xU 3 Z Z Z (H _ (List.getElem_mem hlt) _ es1 ck1 hok) Z (cn 1 11 Z Z) (fun u50 M50 D50 hv50=>?_))
  obtain⟨b50,G50,es50,ck50,rfl,rfl,rfl,hU50,hO50,hN50,hI50⟩:=hv50
  refine zA (yY Z Z (xu ..) ?_)
  refine zA (yN Z Z Z (fun b52=>?_))
  refine oK 3 [9,6,5,0,1] Z Z (rO 2 Z ?_)
  refine zG 3 ib Z Z Z Z (oO 3 Z ?_)
  refine zM dh Z Z Z Z Z (fun b55=>?_)
  refine zA ?_
  refine cO 5 0 dh (fun A56 c56=>?_)
  refine zA (zF 4 (M':=[_,_,_,_,HA.blk _ [_] _,_,_,_]) Z Z Z Z E3 Z Z Z ?_)
  refine oO 6 Z (xL (s:=((2*(i+1):Nat):Int)) Z Z Z aC aC aC ?_)
  refine oR 3 Z (xN 1 Z bP ?_)
  refine yO (.nam (nbs++[b52]) (l++[(ps[i].1,b50)])) (fun w ok h=>NamP.snoc (dget h 8 Z) hv1 (dget h 0 Z)) (sJ 2 10 Z Z ?_)
  refine qY 1 4 Z Z ?_
  rw [gJ,gk]
  exact kQ (hK (i+1,_,_,nbs++[b52],es50,ck50,G50++G,l++[((ps[i]'hlt).1,b50)]) (⟨by show i+1≤_;omega,ej hlt (F3 hall) ⟨rfl,BL hU50⟩,hO50,fun h=>by obtain⟨h1,h2⟩:=ye hlt h;obtain⟨e1,e2⟩:=hno h1;obtain⟨e3,e4⟩:=hN50 h2;exact⟨e3.trans e1,e4.trans e2⟩,by rw [List.map_append];exact hown.app hI50.2⟩) (by show ps.length - (i+1)<ps.length - i;omega)) (eC Z (eC Z (eC Z (eC Z (eN _))))) (hD:=(cR 1 Z (cR 0 Z sQ)))
 refine rK 6 [4] Z Z ?_
 obtain rfl:i=ps.length:=by omega
 rw [List.take_length]at hall hno
 refine fR 1 nbs Z bP Z (xN 0 Z bP ?_)
 refine yO (.fv (cD b5) (.named l)) (fun w ok h=>⟨_,_,nbs,rfl,tK (dget h 0 Z) Z,dget h 1 Z,(dget h 2 Z:(DA.nam nbs l).p w ok).1,(dget h 2 Z:(DA.nam nbs l).p w ok).2⟩) (rV (M':=HA.blk sb cs 124::HA.many 124 (Gr.blks G)::HA.obj mb (.map es1 ck1)::[]) ?_ ?_)
 ·exact(List.Perm.cons _ (List.Perm.swap _ _ _)).trans (List.Perm.swap _ _ _)
 exact zD Tryz.results141 Z ⟨_,G,es1,ck1,l,rfl,rfl,rfl,hall,hok,hno,hown⟩ (List.Sublist.refl _) (cR 0 Z (cC 4 Z))
theorem KL(ft:DA)(sb nb mb:Nat)(cs:List Value)(back:Bool)(xs:List V)(hl:xs.length≤1000000)(hk: ∀ x∈xs,x.kind=5)(hcs:cs[0]? =some (.map (some mb)))(H: ∀ x∈xs,gI ft mb back x)(es:Array MapEntry)(clock:Nat)(hes:MapOk es):
  Ct Tryz.prog 145 #[cD sb,cD nb] [.blk sb cs 124, .obj mb (.map es clock)] [.node nb (.mk 2 fx ⟨#[]⟩ (xs.map (cb back))),ft] (fun u M' D'=> ∃p G es' clock' bs,u= .pointer (some p)∧M'=[.blk sb cs 124, .many 124 (Gr.blks G), .obj mb (.map es' clock')]∧D'=[.fv u (.list bs), .graph mb G]∧
   All2 (fun b x=>Unf G x b) bs xs∧MapOk es'∧((∀ x∈xs,d4 x)→es'=es∧clock'=clock)∧Own G bs):=by
 refine Ct.of_run (args:=[cD sb,cD nb]) Tryz.func145 aF Z Tryz.ntmps145 Z (fun c=>?_)
 refine xV 0 Z (fun A0 cap0 ht0 hv0 hl0 hc0=>?_)
 rw [List.length_map]
 rw [List.length_map]at hl0
 unfold maxLen at hc0
 refine rO 13 Z (zC wG Z Z ?_)
 refine zA (zH 0 dI Z Z Z Z ?_)
 refine oO 13 Z (xW d3 Z Z Z (fun b17=>?_))
 refine zA (zT E9 Z (fun b5=>?_))
 change bu _ _ _ _ _ _ _ _ (HA.blk _ [_] _::_) _
 refine zA (zF 0 (M':=[HA.blk _ [_] _,_,_,_]) Z Z Z Z vl Z Z Z ?_)
 refine oO 9 Z (zC wH Z Z ?_)
 refine zA (zH 0 dR Z Z Z Z ?_)
 refine zA (zX cW Z Z ?_)
 refine oK 3 [23,22,21,5,0] Z Z (rK 1 [23,22,21,5,0] Z Z ?_)
 refine yO (.graph mb []) (fun w ok h g hg=>by cases hg) (gi 124 ?_)
 refine rV (M':=HA.blk b5 [.slice (some ⟨b17,0,none⟩) 0 0] 137::HA.row (some ⟨b17,0,none⟩) 0 0 63 1 []::HA.many 124 []::HA.obj mb (.map es clock)::HA.blk sb cs 124::[]) ?_ ?_
 ·exact((List.Perm.swap _ _ _).trans (.cons _ (List.Perm.swap _ _ _))).trans (.cons _ (.cons _ (.cons _ (List.Perm.swap _ _ _))))
 refine yR 1 (fun(⟨i,A,ca,bs,es1,ck1,G⟩:Nat×Option Addr×Nat×List Nat×Array MapEntry×Nat×Gr)=>i≤xs.length∧All2 (fun b x=>Unf G x b) bs (xs.take i)∧MapOk es1∧((∀ p∈xs.take i,d4 p)→es1=es∧ck1=clock)∧Own G bs) (fun(⟨i,A,ca,bs,es1,ck1,G⟩:Nat×Option Addr×Nat×List Nat×Array MapEntry×Nat×Gr)=>[(23, .int .i64 ((i:Nat):Int))]) (fun(⟨i,A,ca,bs,es1,ck1,G⟩:Nat×Option Addr×Nat×List Nat×Array MapEntry×Nat×Gr)=>HA.blk b5 [.slice A i ca] 137::HA.row A i ca 63 1 (bs.map cD)::HA.many 124 (Gr.blks G)::HA.obj mb (.map es1 ck1)::HA.blk sb cs 124::[]) (fun(⟨i,A,ca,bs,es1,ck1,G⟩:Nat×Option Addr×Nat×List Nat×Array MapEntry×Nat×Gr)=> .graph mb G:: .dblk nb (dJ 2 fx ⟨#[]⟩ A0 xs.length cap0) 150:: .kids (.slice A0 xs.length cap0) (xs.map (cb back)):: .node nb (.mk 2 fx ⟨#[]⟩ (xs.map (cb back)))::ft::[]) (fun(⟨i,A,ca,bs,es1,ck1,G⟩:Nat×Option Addr×Nat×List Nat×Array MapEntry×Nat×Gr)=>xs.length - i) (0,_,_,[],es,clock,[]) (⟨by show 0≤_;omega,All2.nil _,hes,fun _=>⟨rfl,rfl⟩,Own.nil⟩) (eC Z (eN _)) Z Z ?_ (eC Z (eC Z (eC Z (eC Z (eN _)))))
 intro ⟨i,A,ca,bs,es1,ck1,G⟩ hI K hK
 change Run _ _ _ _ _ [(23,_),(22,_),(21,_),(5,_),(0,_)] [_,_,_,_,_] [_,_,_,_,_]
 obtain⟨hi,hall,hok,hno,hown⟩:=hI
 refine rO 3 Z (yK Z Z Z ?_)
 refine oR 2 Z (zK Z (fun h24=>?_) (fun h24=>?_))
 ·refine rO 6 Z (wN 2 cW Z Z Z Z h24 ?_)
  have hlt:i<xs.length:=h24
  have hk5:=pM (back:=back) (hk _ (List.getElem_mem hlt))
  refine uM 2 i Z (fO hlt) (fun b1=>?_)
  refine jE 1 Z (fun A1 cap1 ht1 hv1 hl1 hc1=>?_)
  refine zA (yE dE Z Z (fun _ h=>uN h (j:=2) Z) ?_)
  refine oO 10 Z (zC wG Z Z ?_)
  refine zA (zH 0 dI Z Z Z Z ?_)
  refine oK 9 [31,7,23,22,21,5,0] Z Z (wY Z (decide_eq_true hk5) ?_)
  refine rO 9 Z (zC pH Z Z ?_)
  refine zA (sC 4 j5 Z Z Z hcs ?_)
  refine zA (xU 3 Z Z Z (H _ (List.getElem_mem hlt) _ es1 ck1 hok) Z (cn 3 8 Z Z) (fun u38 M38 D38 hv38=>?_))
  obtain⟨b38,G38,es38,ck38,rfl,rfl,rfl,hU38,hO38,hN38,hI38⟩:=hv38
  refine oO 5 Z (zG 2 kA Z Z Z Z ?_)
  refine oO 3 Z (zM d3 Z Z Z Z Z (fun b41=>?_))
  refine zA ?_
  refine cO 4 0 d3 (fun A42 c42=>?_)
  refine zA (zF 3 (M':=[_,_,_,HA.blk _ [_] _,_,_,_]) Z Z Z Z vl Z Z Z ?_)
  refine oK 1 [23,22,21,5,0] Z Z (rO 4 Z ?_)
  refine yD Z Z aC (oR 3 Z ?_)
  refine sJ 0 5 Z Z (qY 1 4 Z Z ?_)
  rw [gJ,gk]
  exact kQ (hK (i+1,_,_,bs++[b38],es38,ck38,G38++G) (⟨by show i+1≤_;omega,ej hlt (FG hall) (BL hU38),hO38,fun h=>by obtain⟨h1,h2⟩:=ls hlt h;obtain⟨e1,e2⟩:=hno h1;obtain⟨e3,e4⟩:=hN38 h2;exact⟨e3.trans e1,e4.trans e2⟩,hown.app hI38.2⟩) (by show xs.length - (i+1)<xs.length - i;omega)) (eC Z (eC Z (eC Z (eC Z (eC Z (eN _)))))) (hD:=(cR 0 Z sQ))
 refine rR 6 Z ?_
 obtain rfl:i=xs.length:=by omega
 rw [List.take_length]at hall hno
 refine fR 1 bs Z bP Z (xN 0 Z bP ?_)
 refine yO (.fv (cD b5) (.list bs)) (fun w ok h=>⟨_,_,rfl,tK (dget h 0 Z) Z,dget h 1 Z⟩) (rV (M':=HA.blk sb cs 124::HA.many 124 (Gr.blks G)::HA.obj mb (.map es1 ck1)::[]) ?_ ?_)
 ·exact(List.Perm.cons _ (List.Perm.swap _ _ _)).trans (List.Perm.swap _ _ _)
 exact zD Tryz.results145 Z ⟨_,G,es1,ck1,bs,rfl,rfl,rfl,hall,hok,hno,hown⟩ (List.Sublist.refl _) (cR 0 Z (cC 3 Z))
theorem IF(ft:DA)(sb nb mb:Nat)(cs:List Value)(back:Bool)(xs:List V)(hl:xs.length≤1000000)(hk: ∀ x∈xs,x.kind=5)(hcs:cs[0]? =some (.map (some mb)))(H: ∀ x∈xs,gI ft mb back x)(es:Array MapEntry)(clock:Nat)(hes:MapOk es):
  Ct Tryz.prog 139 #[cD sb,cD nb] [.blk sb cs 124, .obj mb (.map es clock)] [.node nb (.mk 2 fx ⟨#[]⟩ (xs.map (cb back))),ft] (fun u M' D'=> ∃p G es' clock' bs,u= .pointer (some p)∧M'=[.blk sb cs 124, .many 124 (Gr.blks G), .obj mb (.map es' clock')]∧D'=[.fv u (.itL bs), .graph mb G]∧
   All2 (fun b x=>Unf G x b) bs xs∧MapOk es'∧((∀ x∈xs,d4 x)→es'=es∧clock'=clock)∧Own G bs):=by
 refine Ct.of_run (args:=[cD sb,cD nb]) Tryz.func139 aF Z Tryz.ntmps139 Z (fun c=>?_)
 refine xV 0 Z (fun A0 cap0 ht0 hv0 hl0 hc0=>?_)
 rw [List.length_map]
 rw [List.length_map]at hl0
 unfold maxLen at hc0
 refine rO 13 Z (zC wG Z Z ?_)
 refine zA (zH 0 dI Z Z Z Z ?_)
 refine oO 13 Z (xW d3 Z Z Z (fun b16=>?_))
 refine zA (zT E9 Z (fun b5=>?_))
 change bu _ _ _ _ _ _ _ _ (HA.blk _ [_] _::_) _
 refine zA (zF 0 (M':=[HA.blk _ [_] _,_,_,_]) Z Z Z Z vl Z Z Z ?_)
 refine oO 9 Z (zC wH Z Z ?_)
 refine zA (zH 0 dR Z Z Z Z ?_)
 refine zA (zX cW Z Z ?_)
 refine oK 3 [22,21,20,5,0] Z Z (rK 1 [22,21,20,5,0] Z Z ?_)
 refine yO (.graph mb []) (fun w ok h g hg=>by cases hg) (gi 124 ?_)
 refine rV (M':=HA.blk b5 [.slice (some ⟨b16,0,none⟩) 0 0] 137::HA.row (some ⟨b16,0,none⟩) 0 0 63 1 []::HA.many 124 []::HA.obj mb (.map es clock)::HA.blk sb cs 124::[]) ?_ ?_
 ·exact((List.Perm.swap _ _ _).trans (.cons _ (List.Perm.swap _ _ _))).trans (.cons _ (.cons _ (.cons _ (List.Perm.swap _ _ _))))
 refine yR 1 (fun(⟨i,A,ca,bs,es1,ck1,G⟩:Nat×Option Addr×Nat×List Nat×Array MapEntry×Nat×Gr)=>i≤xs.length∧All2 (fun b x=>Unf G x b) bs (xs.take i)∧MapOk es1∧((∀ p∈xs.take i,d4 p)→es1=es∧ck1=clock)∧Own G bs) (fun(⟨i,A,ca,bs,es1,ck1,G⟩:Nat×Option Addr×Nat×List Nat×Array MapEntry×Nat×Gr)=>[(22, .int .i64 ((i:Nat):Int))]) (fun(⟨i,A,ca,bs,es1,ck1,G⟩:Nat×Option Addr×Nat×List Nat×Array MapEntry×Nat×Gr)=>HA.blk b5 [.slice A i ca] 137::HA.row A i ca 63 1 (bs.map cD)::HA.many 124 (Gr.blks G)::HA.obj mb (.map es1 ck1)::HA.blk sb cs 124::[]) (fun(⟨i,A,ca,bs,es1,ck1,G⟩:Nat×Option Addr×Nat×List Nat×Array MapEntry×Nat×Gr)=> .graph mb G:: .dblk nb (dJ 2 fx ⟨#[]⟩ A0 xs.length cap0) 150:: .kids (.slice A0 xs.length cap0) (xs.map (cb back)):: .node nb (.mk 2 fx ⟨#[]⟩ (xs.map (cb back)))::ft::[]) (fun(⟨i,A,ca,bs,es1,ck1,G⟩:Nat×Option Addr×Nat×List Nat×Array MapEntry×Nat×Gr)=>xs.length - i) (0,_,_,[],es,clock,[]) (⟨by show 0≤_;omega,All2.nil _,hes,fun _=>⟨rfl,rfl⟩,Own.nil⟩) (eC Z (eN _)) Z Z ?_ (eC Z (eC Z (eC Z (eC Z (eN _)))))
 intro ⟨i,A,ca,bs,es1,ck1,G⟩ hI K hK
 change Run _ _ _ _ _ [(22,_),(21,_),(20,_),(5,_),(0,_)] [_,_,_,_,_] [_,_,_,_,_]
 obtain⟨hi,hall,hok,hno,hown⟩:=hI
 refine rO 3 Z (yK Z Z Z ?_)
 refine oR 2 Z (zK Z (fun h23=>?_) (fun h23=>?_))
 ·refine rO 6 Z (wN 2 cW Z Z Z Z h23 ?_)
  have hlt:i<xs.length:=h23
  have hk5:=pM (back:=back) (hk _ (List.getElem_mem hlt))
  refine uM 2 i Z (fO hlt) (fun b1=>?_)
  refine jE 1 Z (fun A1 cap1 ht1 hv1 hl1 hc1=>?_)
  refine zA (yE dE Z Z (fun _ h=>uN h (j:=2) Z) ?_)
  refine oO 10 Z (zC wG Z Z ?_)
  refine zA (zH 0 dI Z Z Z Z ?_)
  refine oK 9 [30,7,22,21,20,5,0] Z Z (wY Z (decide_eq_true hk5) ?_)
  refine rO 9 Z (zC pH Z Z ?_)
  refine zA (sC 4 j5 Z Z Z hcs ?_)
  refine zA (xU 3 Z Z Z (H _ (List.getElem_mem hlt) _ es1 ck1 hok) Z (cn 3 8 Z Z) (fun u37 M37 D37 hv37=>?_))
  obtain⟨b37,G37,es37,ck37,rfl,rfl,rfl,hU37,hO37,hN37,hI37⟩:=hv37
  refine oO 5 Z (zG 2 kA Z Z Z Z ?_)
  refine oO 3 Z (zM d3 Z Z Z Z Z (fun b40=>?_))
  refine zA ?_
  refine cO 4 0 d3 (fun A41 c41=>?_)
  refine zA (zF 3 (M':=[_,_,_,HA.blk _ [_] _,_,_,_]) Z Z Z Z vl Z Z Z ?_)
  refine oK 1 [22,21,20,5,0] Z Z (rO 4 Z ?_)
  refine yD Z Z aC (oR 3 Z ?_)
  refine sJ 0 5 Z Z (qY 1 4 Z Z ?_)
  rw [gJ,gk]
  exact kQ (hK (i+1,_,_,bs++[b37],es37,ck37,G37++G) (⟨by show i+1≤_;omega,ej hlt (FG hall) (BL hU37),hO37,fun h=>by obtain⟨h1,h2⟩:=ls hlt h;obtain⟨e1,e2⟩:=hno h1;obtain⟨e3,e4⟩:=hN37 h2;exact⟨e3.trans e1,e4.trans e2⟩,hown.app hI37.2⟩) (by show xs.length - (i+1)<xs.length - i;omega)) (eC Z (eC Z (eC Z (eC Z (eC Z (eN _)))))) (hD:=(cR 0 Z sQ))
 refine rO 4 Z (yY Z Z (DR ..) ?_)
 refine zA (yN Z Z Z (fun b44=>?_))
 refine oR 3 Z ?_
 obtain rfl:i=xs.length:=by omega
 rw [List.take_length]at hall hno
 refine fR 2 bs Z bP Z (xN 1 Z bP ?_)
 refine xN 0 Z bP (yO (.fv (cD b44) (.itL bs)) (fun w ok h=>⟨b44,_,_,rfl,dget h 0 Z,tK (dget h 1 Z) Z,dget h 2 Z⟩) ?_)
 refine rV (M':=HA.blk sb cs 124::HA.many 124 (Gr.blks G)::HA.obj mb (.map es1 ck1)::[]) ?_ ?_
 ·exact(List.Perm.cons _ (List.Perm.swap _ _ _)).trans (List.Perm.swap _ _ _)
 exact zD Tryz.results139 Z ⟨_,G,es1,ck1,bs,rfl,rfl,rfl,hall,hok,hno,hown⟩ (List.Sublist.refl _) (cR 0 Z (cC 4 Z))
theorem IG(sp:Value)(nb:Nat)(x:Bool):CtR Tryz.prog 138 #[sp,cD nb] [.node nb (cK dp (pk x))] (RF (.sbB x)):=by
 refine Ct.of_run (args:=[sp,cD nb]) Tryz.func138 aF Z Tryz.ntmps138 Z (fun c=>?_)
 refine xV 0 Z (fun A0 cap0 ht0 hv0 hl0 hc0=>?_)
 refine rO 8 Z (yY Z Z (FC ..) ?_)
 refine zA (yN Z Z Z (fun b9=>?_))
 refine oO 11 Z (zC wG Z Z ?_)
 refine zA (zH 0 dI Z Z Z Z ?_)
 refine oO 17 Z (zC wT Z Z ?_)
 refine zA (zH 0 cv Z Z Z Z ?_)
 refine zA (zJ Z Z Z (c181 x) cF ?_)
 refine oO 7 Z (zT J3 Z (fun b6=>?_))
 change bu _ _ _ _ _ _ _ _ (HA.blk _ [_] _::_) _
 refine zA (zF 0 (M':=[HA.blk _ [_] _,_]) Z Z Z Z C6 Z Z Z ?_)
 refine oK 3 [6,5] Z Z (rO 6 Z ?_)
 refine zC nr Z Z (zA ?_)
 refine zF 1 (M':=[_,HA.blk _ [_,_] _]) Z Z Z Z lS Z Z Z (oR 9 Z ?_)
 refine xN 0 Z aG (xN 0 Z aG ?_)
 exact yO (.fv (cD b9) (.sbB x)) (fun w ok h=>⟨b9,_,rfl,dget h 0 Z,tK (dget h 1 Z) Z⟩) (zD Tryz.results138 Z ⟨rfl,_,rfl,rfl⟩ nS (cC 0 Z))
theorem II(ft:DA)(sb nb mb:Nat)(cs:List Value)(back:Bool)(x:V)(hk:x.kind=5)(hcs:cs[0]? =some (.map (some mb)))(H:gI ft mb back x)(es:Array MapEntry)(clock:Nat)(hes:MapOk es):
  Ct Tryz.prog 138 #[cD sb,cD nb] [.blk sb cs 124, .obj mb (.map es clock)] [.node nb (cb back x),ft] (fun u M' D'=> ∃p G es' clock' b,u= .pointer (some p)∧M'=[.blk sb cs 124, .many 124 (Gr.blks G), .obj mb (.map es' clock')]∧D'=[.fv u (.sbS b), .graph mb G]∧
   Unf G x b∧MapOk es'∧(d4 x→es'=es∧clock'=clock)∧Own G [b]):=by
 refine Ct.of_run (args:=[cD sb,cD nb]) Tryz.func138 aF Z Tryz.ntmps138 Z (fun c=>?_)
 have hk4:=pM (back:=back) hk
 refine jD 0 Z (fun A0 cap0 ht0 hv0 hl0 hc0=>?_)
 refine rO 8 Z (yY Z Z (FC ..) ?_)
 refine zA (yN Z Z Z (fun b9=>?_))
 refine oO 11 Z (zC wG Z Z ?_)
 refine zA (zH 0 dI Z Z Z Z ?_)
 refine oR 9 Z (xH Z (by rw [hk4];rfl) ?_)
 refine rK 7 [27,5,0,1] Z Z (wY Z (decide_eq_true hk4) ?_)
 refine rO 10 Z (zC pH Z Z ?_)
 refine zA (sC 1 j5 Z Z Z hcs ?_)
 refine zA (xU 2 Z Z Z (H _ es clock hes) Z (cn 2 3 Z Z) (fun u35 M35 D35 hv35=>?_))
 obtain⟨b35,G35,es35,ck35,rfl,rfl,rfl,hU35,hO35,hN35,hI35⟩:=hv35
 refine oO 3 Z (zC gf Z Z ?_)
 refine zA (zF 2 (M':=[_,_,HA.blk _ [_,_] _,_]) Z Z Z Z DJ Z Z Z ?_)
 refine oK 1 [5] Z Z (rR 8 Z ?_)
 refine xN 2 Z bP (yO (.fv (cD b9) (.sbS b35)) (fun w ok h=>⟨b9,rfl,dget h 0 Z⟩) ?_)
 refine rV (M':=HA.blk sb cs 124::HA.many 124 (Gr.blks G35)::HA.obj mb (.map es35 ck35)::[]) ?_ ?_
 ·exact(List.Perm.cons _ (List.Perm.swap _ _ _)).trans (List.Perm.swap _ _ _)
 exact zD Tryz.results138 Z ⟨_,G35,es35,ck35,b35,rfl,rfl,rfl,hU35,hO35,hN35,hI35.2⟩ (List.Sublist.refl _) (cR 0 Z (cC 2 Z))
theorem IJ(ft:DA)(sb nb mb:Nat)(cs:List Value)(back:Bool)(x:V)(hk:x.kind=5)(hcs:cs[0]? =some (.map (some mb)))(H:gI ft mb back x)(es:Array MapEntry)(clock:Nat)(hes:MapOk es):
  Ct Tryz.prog 139 #[cD sb,cD nb] [.blk sb cs 124, .obj mb (.map es clock)] [.node nb (cb back x),ft] (fun u M' D'=> ∃p G es' clock' b,u= .pointer (some p)∧M'=[.blk sb cs 124, .many 124 (Gr.blks G), .obj mb (.map es' clock')]∧D'=[.fv u (.itS b), .graph mb G]∧
   Unf G x b∧MapOk es'∧(d4 x→es'=es∧clock'=clock)∧Own G [b]):=by
 refine Ct.of_run (args:=[cD sb,cD nb]) Tryz.func139 aF Z Tryz.ntmps139 Z (fun c=>?_)
 have hk4:=pM (back:=back) hk
 refine jD 0 Z (fun A0 cap0 ht0 hv0 hl0 hc0=>?_)
 refine rO 13 Z (zC wG Z Z ?_)
 refine zA (zH 0 dI Z Z Z Z ?_)
 refine oR 9 Z (xH Z (by rw [hk4];rfl) ?_)
 refine rR 7 Z (wY Z (decide_eq_true hk4) ?_)
 refine rO 9 Z (zC pH Z Z ?_)
 refine zA (sC 0 j5 Z Z Z hcs ?_)
 refine zA (xU 1 Z Z Z (H _ es clock hes) Z (cn 2 3 Z Z) (fun u52 M52 D52 hv52=>?_))
 obtain⟨b52,G52,es52,ck52,rfl,rfl,rfl,hU52,hO52,hN52,hI52⟩:=hv52
 refine oK 3 [9] Z Z (rO 5 Z ?_)
 refine yY Z Z (DQ ..) (zA ?_)
 refine yN Z Z Z (fun b55=>?_)
 refine oR 3 Z (xN 0 Z bP ?_)
 refine yO (.fv (cD b55) (.itS b52)) (fun w ok h=>⟨b55,rfl,dget h 0 Z⟩) (rV (M':=HA.blk sb cs 124::HA.many 124 (Gr.blks G52)::HA.obj mb (.map es52 ck52)::[]) ?_ ?_)
 ·exact(List.Perm.cons _ (List.Perm.swap _ _ _)).trans (List.Perm.swap _ _ _)
 exact zD Tryz.results139 Z ⟨_,G52,es52,ck52,b52,rfl,rfl,rfl,hU52,hO52,hN52,hI52.2⟩ (List.Sublist.refl _) (cR 0 Z (cC 2 Z))
theorem c142(sp:Value)(nb:Nat)(back:Bool)(ps:List (ByteArray×V))(hl:ps.length≤1000000)(hk: ∀ p∈ps,p.2.kind=4∧p.2.items.length≤1000000∧ ∀ y∈p.2.items,y.kind=3):CtR Tryz.prog 142 #[sp,cD nb] [.node nb (.mk 4 jg ⟨#[]⟩ ((ps.map (ei back)).flatMap du))] (RF (.deps (ps.map po))):=by
 refine Ct.of_run (args:=[sp,cD nb]) Tryz.func142 aF Z Tryz.ntmps142 Z (fun c=>?_)
 refine xV 0 Z (fun A0 cap0 ht0 hv0 hl0 hc0=>?_)
 rw [jl]
 rw [jl]at hl0
 unfold maxLen at hc0
 refine rO 8 Z (xW lU Z Z Z (fun b14=>?_))
 refine zA (zT Hw Z (fun b5=>?_))
 change bu _ _ _ _ _ _ _ _ (HA.blk _ [_] _::_) _
 refine zA (zF 0 (M':=[HA.blk _ [_] _,_]) Z Z Z Z FA Z Z Z ?_)
 refine oO 9 Z (zC wG Z Z ?_)
 refine zA (zH 0 dI Z Z Z Z ?_)
 refine oK 15 [6,5,1] Z Z (rK 1 [6,5,1] Z Z ?_)
 refine yO (.dep [] ((ps.take 0).map po)) (fun w ok h=>⟨rfl,fun i q nb a=>by simp at a⟩) ?_
 refine yR 1 (fun(⟨i,A,ca,nbs⟩:Nat×Option Addr×Nat×List Nat)=>i≤ps.length) (fun(⟨i,A,ca,nbs⟩:Nat×Option Addr×Nat×List Nat)=>[(6, .int .i64 ((2*i:Nat):Int))]) (fun(⟨i,A,ca,nbs⟩:Nat×Option Addr×Nat×List Nat)=>HA.blk b5 [.slice A i ca] 188::HA.row A i ca 189 1 (nbs.map cD)::[]) (fun(⟨i,A,ca,nbs⟩:Nat×Option Addr×Nat×List Nat)=> .dep nbs ((ps.take i).map po):: .dblk nb (dJ 4 jg ⟨#[]⟩ A0 (2*ps.length) cap0) 150:: .kids (.slice A0 (2*ps.length) cap0) ((ps.map (ei back)).flatMap du):: .node nb (.mk 4 jg ⟨#[]⟩ ((ps.map (ei back)).flatMap du))::[]) (fun(⟨i,A,ca,nbs⟩:Nat×Option Addr×Nat×List Nat)=>ps.length - i) (0,_,_,[]) bX (eC Z (eN _)) Z Z ?_ (eC Z (eC Z (eN _)))
 intro ⟨i,A,ca,nbs⟩ hI K hK
 replace hI:i≤ps.length:=hI
 change Run _ _ _ _ _ [(6,_),(5,_),(1,_)] [_,_] [_,_,_,_]
 refine rO 10 Z (zC wH Z Z ?_)
 refine zA (zH 1 dR Z Z Z Z ?_)
 refine zA (zX cW Z Z ?_)
 refine zA (yK Z Z Z ?_)
 refine zY (zK Z (fun h27=>?_) (fun h27=>?_))
 ·refine rO 10 Z (zC wH Z Z ?_)
  refine zA (zH 1 dR Z Z Z Z ?_)
  refine oO 3 Z (wN (i:=2*i) 2 cW Z Z Z Z aC ?_)
  have hlt:i<ps.length:=by omega
  obtain⟨hk4,hkl,hk3⟩:=hk _ (List.getElem_mem hlt)
  have hnt:=gK (back:=back) hk4 hk3
  obtain⟨tl,htl⟩: ∃tl,tl=ps[i].2.items.map V.text:=⟨_,rfl⟩
  rw [←htl]at hnt
  have htlen:tl.length≤1000000:=by rw [htl,List.length_map];exact hkl
  refine uM 2 (2*i) Z (oA hlt) (fun b1=>?_)
  refine sR 1 Z (fun A1 cap1 ht1 hv1 hl1 hc1=>?_)
  refine zA (yE dE Z Z (fun _ h=>uN h (j:=2) Z) ?_)
  refine oO 3 Z (zC wT Z Z ?_)
  refine zA (zH 0 cv Z Z Z Z ?_)
  refine oK 3 [7,6,5,1] Z Z (rO 7 Z ?_)
  refine zC wH Z Z (zA ?_)
  refine zH 5 dR Z Z Z Z (oO 3 Z ?_)
  refine yD Z Z aC (zA ?_)
  refine wN (i:=2*i+1) 6 cW Z Z Z Z aC ?_
  refine uM 6 (2*i+1) Z (by rw [oB hlt,hnt]) (fun b2=>?_)
  refine sR 1 Z (fun A2 cap2 ht2 hv2 hl2 hc2=>?_)
  rw [List.length_map]
  rw [List.length_map]at hl2
  unfold maxLen at hc2
  refine zA (yE dE Z Z (fun _ h=>uN h (j:=2) Z) ?_)
  refine oO 10 Z (zC wG Z Z ?_)
  refine zA (zH 0 dI Z Z Z Z ?_)
  refine oK 1 [51,8,7,6,5,1] Z Z (rO 12 Z ?_)
  refine xW cG Z Z Z (fun b54=>?_)
  refine zA (zT Fk Z (fun b9=>?_))
  change bu _ _ _ _ _ _ _ _ (HA.blk _ [_] _::_) _
  refine zA (zF 0 (M':=[HA.blk _ [_] _,_,_,_]) Z Z Z Z fp Z Z Z ?_)
  refine oO 9 Z (zC wH Z Z ?_)
  refine zA (zH 0 dR Z Z Z Z ?_)
  refine zA (zX cW Z Z ?_)
  refine oK 3 [60,59,58,9,7,6,5,1] Z Z (rK 1 [60,59,58,9,7,6,5,1] Z Z ?_)
  refine gb 1 (fun(⟨j,A3,c3,xs⟩:Nat×Option Addr×Nat×List Value)=>j≤tl.length∧xs=(tl.take j).map Value.string∧ ∀ s∈tl.take j,s.size≤maxLen) (fun(⟨j,A3,c3,xs⟩:Nat×Option Addr×Nat×List Value)=>[(60, .int .i64 ((j:Nat):Int))]) (fun(⟨j,A3,c3,xs⟩:Nat×Option Addr×Nat×List Value)=>HA.blk b9 [.slice A3 j c3] 22::HA.row A3 j c3 9 1 xs::HA.blk b5 [.slice A i ca] 188::HA.row A i ca 189 1 (nbs.map cD)::[]) (fun(⟨j,A3,c3,xs⟩:Nat×Option Addr×Nat×List Value)=>tl.length - j) (0,_,_,[]) (⟨by show 0≤_;omega,rfl,by simp⟩) (eC Z (eN _)) Z ?_ (eC Z (eC Z (eC Z (eC Z (eC Z (eC Z (eC Z (eN _))))))))
  intro ⟨j,A3,c3,xs⟩ hI K hK1
  change Run _ _ _ _ _ [(60,_),(59,_),(58,_),(9,_),(7,_),(6,_),(5,_),(1,_)] [_,_,_,_] (_)
  obtain⟨hj,hxs,hsz⟩:=hI
  refine rO 3 Z (yK Z Z Z ?_)
  refine oR 2 Z (zK Z (fun h61=>?_) (fun h61=>?_))
  ·refine rO 6 Z (wN 1 cW Z Z Z Z h61 ?_)
   refine uM 1 j Z (fO h61) (fun b3=>?_)
   refine sR 1 Z (fun A4 cap4 ht4 hv4 hl4 hc4=>?_)
   refine zA (yE dE Z Z (fun _ h=>uN h (j:=2) Z) ?_)
   refine oO 10 Z (zC wG Z Z ?_)
   refine zA (zH 0 dI Z Z Z Z ?_)
   refine oK 1 [67,11,60,59,58,9,7,6,5,1] Z Z (rR 9 Z ?_)
   refine yX yI (zS ?_)
   refine tP 1 Z br (zZ Z) (tP 2 Z br (yV Z) ?_)
   refine tP 3 Z br (yA wT Z) (yH ?_)
   refine tM 0 Z br (xD 0 dH Z Z Z) (tM 4 Z br (vX 0 cv Z Z Z) ?_)
   refine zN 5 aD ?_
   refine zP (I2:=[[0],[],[]]) Z br aD (fun Kd hKd=>?_)
   refine zM cG Z Z Z Z Z (fun b75=>?_)
   refine hKd _ _ _ (hC (zE (zE (zQ)))) (zN 6 aD ?_)
   refine zP (I2:=[[],[],[]]) Z br aD (fun Kd hKd=>?_)
   refine cO 2 0 cG (fun A76 c76=>?_)
   refine hKd _ _ _ (zE (zE (zE (zQ)))) (zN 7 aD ?_)
   refine zP (I2:=[[],[],[]]) Z br aD (fun Kd hKd=>?_)
   refine zF 1 (M':=[_,HA.blk _ [_] _,_,_,_]) Z Z Z Z fp Z Z Z (hKd _ _ _ (zE (zE (zE (zQ)))) ?_)
   refine yG aD (rK 0 [60,59,58,9,7,6,5,1] Z Z ?_)
   refine rO 4 Z (yD Z Z aC ?_)
   refine oR 3 Z ?_
   exact kQ (hK1 (j+1,_,_,xs++[.string (tl[j]'h61)]) (⟨by show j+1≤_;omega,by rw [hxs];exact jk h61,lr h61 hsz hv4⟩) (by show tl.length - (j+1)<tl.length - j;omega)) (eC Z (eC Z (eC Z (eC Z (eC Z (eC Z (eC Z (eC Z (eN _)))))))))
  refine rO 4 Z (yY Z Z (H4 ..) ?_)
  refine zA (yN Z Z Z (fun b79=>?_))
  refine oO 10 Z (zC ns Z Z ?_)
  refine zA (zF 0 (M':=[HA.blk _ [_,_] _,_,_,_,_]) Z Z Z Z vf Z Z Z ?_)
  refine oK 1 [12,7,6,5,1] Z Z (rO 7 Z ?_)
  refine yY Z Z (xw ..) (zA ?_)
  refine yN Z Z Z (fun b86=>?_)
  refine oO 5 Z (zG 4 Af Z Z Z Z ?_)
  refine oO 3 Z (zM lU Z Z Z Z Z (fun b89=>?_))
  refine zA ?_
  refine cO 6 0 lU (fun A90 c90=>?_)
  refine zA (zF 5 (M':=[_,_,_,_,_,HA.blk _ [_] _,_]) Z Z Z Z FA Z Z Z ?_)
  refine oK 1 [6,5,1] Z Z (rO 6 Z ?_)
  refine xL (s:=((2*(i+1):Nat):Int)) Z Z Z aC aC aC (oR 3 Z ?_)
  obtain rfl:j=tl.length:=by omega
  rw [List.take_length]at hxs hsz
  refine vI 4 tl Z aG hxs hsz (xN 3 Z aG ?_)
  refine xN 2 Z aG (xN 1 Z aG ?_)
  refine yO (.dep (nbs++[b86]) ((ps.take i).map po++[po ps[i]])) (fun w ok h=>DepP.snoc (dget h 12 Z) hv1 (dget h 0 Z) (dget h 1 Z) (tK (dget h 2 Z) Z) (by show StrsP w ok _ (ps[i].2.items.map V.text);rw [←htl];exact dget h 3 Z)) ?_
  rw [sA hlt,gk]
  exact kQ (hK (i+1,_,_,nbs++[b86]) bQ (by show ps.length - (i+1)<ps.length - i;omega)) (eC Z (eC Z (eC Z (eN _)))) (hD:=(cR 0 Z sQ))
 refine rK 7 [4] Z Z ?_
 obtain rfl:i=ps.length:=by omega
 rw [List.take_length]
 refine fR 1 nbs Z aG Z (xN 0 Z aG ?_)
 exact yO (.fv (cD b5) (.deps (ps.map po))) (fun w ok h=>⟨_,_,nbs,rfl,tK (dget h 0 Z) Z,dget h 1 Z,(dget h 2 Z:(DA.dep nbs (ps.map po)).p w ok).1,(dget h 2 Z:(DA.dep nbs (ps.map po)).p w ok).2⟩) (zD Tryz.results142 Z ⟨rfl,_,rfl,rfl⟩ nS (cC 0 Z))
end Go.Jw

namespace Go.Jw
open Go Go.RowKit Go.Proofs
set_option maxRecDepth 8000
theorem Ct.frame{P:Program}{f:FuncId}{args:Array Value}{M N:List HA}{D:List DA}{R:Value→List HA→List DA→Prop}(h:Ct P f args M D R):Ct P f args (M++N) D (fun u M' D'=> ∃M1,M'=M1++N∧R u M1 D'):=by
 refine⟨h.1,fun w ok hok hM hn hD=>?_⟩
 rw [yL]at hn
 have hn1:=List.nodup_append.1 hn
 have hltN: ∀ b∈foots N,b<w.heap.size:=fun b hb=>by
  obtain⟨x,hx,hb⟩:=sN.1 hb
  exact HA.foot_lt (hM x (List.mem_append_right _ hx)) b hb
 refine Calls.mono (h.2 w ok (fun k hk=>⟨(hok k hk).1,fun h'=>(hok k hk).2 a8⟩) (fun x hx=>hM x (List.mem_append_left _ hx)) hn1.1 hD) ?_
 rintro e w' ⟨v,M',D',rfl,hR,hchg,hm,hnd,hft,hdat⟩
 refine⟨v,M'++N,D',rfl,⟨M',rfl,hR⟩,hchg.mono (fun k _ hk=>by rw [yL];exact List.mem_append_left _ hk),?_,?_,?_,?_⟩
 ·intro x hx
  rcases List.mem_append.1 hx with hx|hx
  ·exact hm x hx
  ·have hx0:=hM x (List.mem_append_right _ hx)
   exact HA.move hx0 fun b hb=>hchg.block b (HA.foot_lt hx0 b hb) (fun h'=>hn1.2.2 b h' b (sN.2 ⟨x,hx,hb⟩) Z)
 ·rw [yL]
  refine List.nodup_append.2 ⟨hnd,hn1.2.1,?_⟩
  intro p hp q hq he
  subst he
  rcases hft p hp with h1|h1
  ·exact hn1.2.2 p h1 p hq Z
  ·exact absurd (hltN p hq) aC
 ·intro b hb
  rw [yL]at hb⊢
  rcases List.mem_append.1 hb with hb|hb
  ·exact(hft b hb).elim (fun h1=> .inl (List.mem_append_left _ h1)) .inr
  ·exact .inl (List.mem_append_right _ hb)
 ·intro x hx
  refine x.mono (fun k hk=>⟨hk.1,hk.2.1,?_⟩) (fun _ _=>rfl) (hdat x hx)
  rw [yL,List.mem_append,not_or]
  refine⟨hk.2.2,fun h'=>?_⟩
  rcases hk.1 with h1|h1
  ·exact(hok k h1).2 (by rw [yL];exact List.mem_append_right _ h')
  ·exact absurd (hltN k h') aC
def RB(mb:Nat)(es:Array MapEntry)(clock sb:Nat)(cs:List Value)(sh:Int)(x:V)(u:Value)(M':List HA)(D':List DA):Prop:=
 ∃p fv G es' clock',u= .pointer (some p)∧M'=[.blk sb cs 124, .many 124 (Gr.blks G), .obj mb (.map es' clock')]∧D'=[.fv u fv, .graph mb G]∧FvRel (fun b z=>Unf G z b) sh x fv∧MapOk es'∧((∀ z∈kidsOf sh x,d4 z)→es'=es∧clock'=clock)∧Own G (dT fv)
def BC(ft:DA)(back:Bool)(f:FuncId)(sh:Int)(x:V):Prop:= ∀ sb nb mb cs es clock,cs[0]? =some (.map (some mb))→MapOk es→Ct Tryz.prog f #[cD sb,cD nb] [.blk sb cs 124, .obj mb (.map es clock)] [.node nb (cb back x),ft] (RB mb es clock sb cs sh x)
theorem Ct.data{P:Program}{f:FuncId}{args:Array Value}{M:List HA}{D D2:List DA}{R:Value→List HA→List DA→Prop}(h:Ct P f args M D R)(hs: ∀ d∈D,d∈D2):Ct P f args M D2 R:=
 ⟨h.1,fun w ok hok hM hn hD=>h.2 w ok hok hM hn (fun d hd=>hD d (hs d hd))⟩
theorem F4{sh:Int}{x:V}{fv:FVal}(h:FvRel (fun _ _=>False) sh x fv):dT fv=[]:=by
  have hb: ∀ {α β:Type} {R:α→β→Prop} {l:List α} {l':List β},(∀ a b,¬ R a b)→All2 R l l'→l=[]:=by
    intro α β R l l' hR h
    cases l with
    |nil=>rfl
    |cons a l=>
      cases l' with
      |nil=>exact absurd h.1 aJ
      |cons b l'=>exact absurd (h.2 0 a b rfl rfl) (hR a b)
  cases fv with
  |sbS b=>exact h.2.2.elim
  |itS b=>exact h.2.2.elim
  |itL bs=>exact hb (fun _ _=>id) h.2.2
  |named l=>obtain⟨_,ps,_,h3⟩:=h;rw [hb (fun a b h=>h.2) h3];rfl
  |list bs=>exact hb (fun _ _=>id) h.2
  |one b=>exact h.2.elim
  |_=>rfl
theorem vu{ft:DA}{back:Bool}{f:FuncId}{sh:Int}{x:V}(h: ∀ sb nb,CtR Tryz.prog f #[cD sb,cD nb] [.node nb (cb back x),ft] (fun u D'=> ∃p fv,u= .pointer (some p)∧D'=[.fv u fv]∧FvRel (fun _ _=>False) sh x fv)):BC ft back f sh x:=by
 intro sb nb mb cs es clock hcs hes
 have hfr:Ct Tryz.prog f #[cD sb,cD nb] ([]++[.blk sb cs 124, .obj mb (.map es clock)]) [.node nb (cb back x),ft] _:=Ct.frame (N:=[.blk sb cs 124, .obj mb (.map es clock)]) (h sb nb)
 refine⟨hfr.1,fun w ok hok hM hn hD=>Calls.mono (hfr.2 w ok hok hM hn hD) ?_⟩
 rintro e w' ⟨v,M',D',rfl,⟨M1,rfl,rfl,p,fv,rfl,rfl,hrel⟩,hchg,hm,hn',hft,hd⟩
 refine⟨_,[.blk sb cs 124, .many 124 (Gr.blks []), .obj mb (.map es clock)],[.fv (.pointer (some p)) fv, .graph mb []],rfl,⟨p,fv,[],es,clock,rfl,rfl,rfl,hrel.mono (fun _ _ _ h=>h.elim),hes,fun _=>⟨rfl,rfl⟩,by rw [F4 hrel];exact Own.nil⟩,hchg,?_,?_,?_,?_⟩
 ·intro y hy
  simp only [List.mem_cons,List.not_mem_nil,or_false]at hy
  rcases hy with rfl|rfl|rfl
  ·exact hm _ aJ
  ·intro g hg;cases hg
  ·exact hm _ aJ
 ·simpa [foots,HA.foot,Gr.blks]using hn'
 ·intro b hb;exact hft b (by simpa [foots,HA.foot,Gr.blks]using hb)
 ·intro y hy
  simp only [List.mem_cons,List.not_mem_nil,or_false]at hy
  rcases hy with rfl|rfl
  ·exact(hd _ List.mem_cons_self:_)|>DA.mono _ (fun k hk=>⟨hk.1,hk.2.1,by simpa [foots,HA.foot,Gr.blks]using hk.2.2⟩) (fun _ _=>rfl)
  ·intro g hg;cases hg
theorem CtR.mono{P:Program}{f:FuncId}{args:Array Value}{D:List DA}{R R':Value→List DA→Prop}(h:CtR P f args D R)(hr: ∀ u D',R u D'→R' u D'):CtR P f args D R':=
 ⟨h.1,fun w ok hok hM hn hD=>Calls.mono (h.2 w ok hok hM hn hD) (by
  rintro e w' ⟨v,M',D',rfl,⟨h1,h2⟩,rest⟩
  exact⟨v,M',D',rfl,⟨h1,hr _ _ h2⟩,rest⟩)⟩
theorem Ct.mono{P:Program}{f:FuncId}{args:Array Value}{M:List HA}{D:List DA}{R R':Value→List HA→List DA→Prop}(h:Ct P f args M D R)(hr: ∀ u M' D',R u M' D'→R' u M' D'):Ct P f args M D R':=
 ⟨h.1,fun w ok hok hM hn hD=>Calls.mono (h.2 w ok hok hM hn hD) (by
  rintro e w' ⟨v,M',D',rfl,h2,rest⟩
  exact⟨v,M',D',rfl,hr _ _ _ h2,rest⟩)⟩
theorem jm{back:Bool}{x:V}(h:x.kind=3):cb back x=cK dF x.text:=by rw [vY];simp [h]
theorem iM{back:Bool}{x:V}(h:x.kind=1):cb back x=cK dp (pk (decide (x.num=1))):=by rw [vY];simp [h]
theorem uZ{f:FuncId}{sh:Int}{x:V}{back:Bool}{ft:DA}{fv:FVal}{y:Y}(hy:cb back x=y)(h: ∀ sp nb,CtR Tryz.prog f #[sp,cD nb] [.node nb y] (RF fv))(hr:FvRel (fun _ _=>False) sh x fv):BC ft back f sh x:=
 vu fun sb nb=>by
  have h1:CtR Tryz.prog f #[cD sb,cD nb] [.node nb y,ft] (RF fv):=Ct.data (h (cD sb) nb) (fun d hd=>by rw [List.mem_singleton.1 hd];exact List.mem_cons_self)
  rw [hy]
  exact h1.mono (by rintro u D' ⟨p,rfl,rfl⟩;exact⟨p,fv,rfl,rfl,hr⟩)
theorem Mk{ft:DA}{back:Bool}{x:V}(h:x.kind=3):BC ft back 134 1 x:=uZ (jm h) (fun sp nb=>KF sp nb _ _) ⟨rfl,rfl⟩
theorem Ml{ft:DA}{back:Bool}{x:V}(h:x.kind=1):BC ft back 136 2 x:=uZ (iM h) (fun sp nb=>KG sp nb _) ⟨rfl,rfl⟩
theorem Mm{ft:DA}{back:Bool}{x:V}(h:x.kind=4)(hl:x.items.length≤1000000)(h3: ∀ y∈x.items,y.kind=3):BC ft back 140 8 x:=uZ (gK h h3) (fun sp nb=>KH sp nb _ be) ⟨rfl,rfl⟩
theorem IK{ft:DA}{back:Bool}{x:V}(h:x.kind=3):BC ft back 144 12 x:=uZ (jm h) (fun sp nb=>IC sp nb _ _) ⟨rfl,h,rfl⟩
theorem IL{ft:DA}{back:Bool}{x:V}(h:x.kind=4)(hl:x.items.length≤1000000)(h3: ∀ y∈x.items,y.kind=3):BC ft back 144 12 x:=uZ (gK h h3) (fun sp nb=>ID sp nb _ be) ⟨rfl,h,rfl⟩
theorem pu{back:Bool}{v:V}(h:v.kind=4)(h3: ∀ y∈v.items,y.kind=3∨y.kind=1):cb back v= .mk 2 fx ⟨#[]⟩ ((v.items.map BF).map yb):=by
 rw [fQ h]
 congr 1
 rw [List.map_map]
 refine List.map_congr_left fun y hy=>?_
 simp only [Function.comp]
 unfold BF
 rcases h3 y hy with h1|h1
 ·rw [if_pos h1,jm h1];rfl
 ·rw [if_neg aC,iM h1];rfl
theorem KM{ft:DA}{back:Bool}{x:V}(h:x.kind=4)(hl:x.items.length≤1000000)(h3: ∀ y∈x.items,y.kind=3∨y.kind=1):BC ft back 143 11 x:=uZ (pu h h3) (fun sp nb=>KJ sp nb _ be) ⟨rfl,rfl⟩
theorem sD(back:Bool)(v:V):(prs back v).Perm (v.keys.zip v.items):=by
 unfold prs
 split
 ·exact List.reverse_perm _
 ·exact .refl _
theorem lu{back:Bool}{v:V}{p:ByteArray×V}(h:p∈prs back v):p.2∈v.items:=(List.of_mem_zip ((sD back v).mem_iff.1 h)).2
theorem oC(back:Bool)(v:V):(prs back v).length≤v.keys.length:=by rw [(sD back v).length_eq,List.length_zip];omega
theorem KN{ft:DA}{back:Bool}{x:V}(h:x.kind=5)(hl:x.keys.length≤1000000)(h3: ∀ y∈x.items,y.kind=4∧y.items.length≤1000000∧ ∀ z∈y.items,z.kind=3):BC ft back 142 10 x:=
 uZ (gj h) (fun sp nb=>c142 sp nb back (prs back x) (Nat.le_trans (oC back x) hl) (fun p hp=>h3 _ (lu hp))) ⟨rfl,prs back x,sD back x,rfl⟩
theorem KO{ft:DA}{back:Bool}{x:V}(h:x.kind=1):BC ft back 138 6 x:=uZ (iM h) (fun sp nb=>IG sp nb _) ⟨rfl,h,rfl⟩
theorem nG{x:V}(h:x.kind=5):kidsOf 6 x=[x]:=by simp [kidsOf,h]
theorem px{x:V}(h:x.kind=5):kidsOf 7 x=[x]:=by simp [kidsOf,h]
theorem fS{x:V}(h:x.kind=4)(h5: ∀ y∈x.items,y.kind=5):kidsOf 7 x=x.items:=by
 simp only [kidsOf,h]
 simp
 exact h5
theorem iC{x:V}(h5: ∀ y∈x.items,y.kind=5):kidsOf 9 x=x.items:=by simp [kidsOf];exact h5
theorem gL{x:V}(h5: ∀ y∈x.items,y.kind=5):kidsOf 13 x=x.items:=by simp [kidsOf];exact h5
theorem KP{ft:DA}{back:Bool}{x:V}(h:x.kind=5)(H: ∀ mb,gI ft mb back x):BC ft back 138 6 x:=by
 intro sb nb mb cs es clock hcs hes
 refine(II ft sb nb mb cs back x h hcs (H mb) es clock hes).mono ?_
 rintro u M' D' ⟨p,G,es',ck',b,rfl,rfl,rfl,hU,hO,hN⟩
 exact⟨p,_,G,es',ck',rfl,rfl,rfl,⟨rfl,h,hU⟩,hO,fun hz=>hN.1 (hz x (by rw [nG h];simp)),hN.2⟩
theorem KQ{ft:DA}{back:Bool}{x:V}(h:x.kind=5)(H: ∀ mb,gI ft mb back x):BC ft back 139 7 x:=by
 intro sb nb mb cs es clock hcs hes
 refine(IJ ft sb nb mb cs back x h hcs (H mb) es clock hes).mono ?_
 rintro u M' D' ⟨p,G,es',ck',b,rfl,rfl,rfl,hU,hO,hN⟩
 exact⟨p,_,G,es',ck',rfl,rfl,rfl,⟨rfl,h,hU⟩,hO,fun hz=>hN.1 (hz x (by rw [px h];simp)),hN.2⟩
theorem KR{ft:DA}{back:Bool}{x:V}(h:x.kind=4)(hl:x.items.length≤1000000)(h5: ∀ y∈x.items,y.kind=5)(H: ∀ y∈x.items,∀ mb,gI ft mb back y):BC ft back 139 7 x:=by
 intro sb nb mb cs es clock hcs hes
 rw [fQ h]
 refine(IF ft sb nb mb cs back x.items hl h5 hcs (fun y hy=>H y hy mb) es clock hes).mono ?_
 rintro u M' D' ⟨p,G,es',ck',b,rfl,rfl,rfl,hU,hO,hN⟩
 exact⟨p,_,G,es',ck',rfl,rfl,rfl,⟨rfl,h,hU⟩,hO,fun hz=>hN.1 (by rwa [fS h h5]at hz),hN.2⟩
theorem KT{ft:DA}{back:Bool}{x:V}(h:x.kind=4)(hl:x.items.length≤1000000)(h5: ∀ y∈x.items,y.kind=5)(H: ∀ y∈x.items,∀ mb,gI ft mb back y):BC ft back 145 13 x:=by
 intro sb nb mb cs es clock hcs hes
 rw [fQ h]
 refine(KL ft sb nb mb cs back x.items hl h5 hcs (fun y hy=>H y hy mb) es clock hes).mono ?_
 rintro u M' D' ⟨p,G,es',ck',b,rfl,rfl,rfl,hU,hO,hN⟩
 exact⟨p,_,G,es',ck',rfl,rfl,rfl,⟨rfl,hU⟩,hO,fun hz=>hN.1 (by rwa [gL h5]at hz),hN.2⟩
theorem Mn{ft:DA}{back:Bool}{x:V}(h:x.kind=5)(hl:x.keys.length≤1000000)(h5: ∀ y∈x.items,y.kind=5)(H: ∀ y∈x.items,∀ mb,gI ft mb back y):BC ft back 141 9 x:=by
 intro sb nb mb cs es clock hcs hes
 rw [gj h]
 refine(KK ft sb nb mb cs back (prs back x) (Nat.le_trans (oC back x) hl) hcs (fun p hp=>H _ (lu hp) mb) es clock hes).mono ?_
 rintro u M' D' ⟨p,G,es',ck',l,rfl,rfl,rfl,hU,hO,hN⟩
 exact⟨p,_,G,es',ck',rfl,rfl,rfl,⟨rfl,_,sD back x,hU⟩,hO,fun hz=>hN.1 (fun p hp=>hz _ (by rw [iC h5];exact lu hp)),hN.2⟩
end Go.Jw

namespace Go.Jw
open Go Go.RowKit
section rules
variable {P:Program} {n:Nat} {F:List Nat} {c:Ctx F} {ops:Array Oper} {d:Nat} {T:TypeId} {l:List Oper} {k:List KI} {Q:Post} {e:cp} {M:List HA} {D:List DA}
theorem yF{x:Operand}{p:Option Addr}{S S':TypeId}(hS:P.underlying S=some (.pointer (P.pointee S)))(hd:Nat.blt d n=true)(hx:ev e x=some (.pointer p))(next:bu P n c ops l k Q ((d, .bool p.isSome)::e) M D):
  b0 P n c ops (some d) (.binOp .neq S x (.const (.pointer none)) S') T l k Q e M D:=
 xR hd (fun a w hf=>by
  have h1:=run_neq_pointer_nil (P:=P) (w:=w) S p hS
  have h2:a.eval (.const (.pointer none))= .pointer none:=rfl
  cases p<;>simp_all [execOp,cx,hf.ev hx,fk]) next
theorem tT{x:Operand}{p:Option Addr}{S S':TypeId}(hS:P.underlying S=some (.pointer (P.pointee S)))(hd:Nat.blt d n=true)(hx:ev e x=some (.pointer p))(next:bu P n c ops l k Q ((d, .bool p.isNone)::e) M D):
  b0 P n c ops (some d) (.binOp .eql S x (.const (.pointer none)) S') T l k Q e M D:=
 xR hd (fun a w hf=>by
  have h1:=run_eql_pointer_nil (P:=P) (w:=w) S p hS
  have h2:a.eval (.const (.pointer none))= .pointer none:=rfl
  cases p<;>simp_all [execOp,cx,hf.ev hx,fk]) next
theorem tj{x:Operand}{r:Option Nat}{S S' kt et:TypeId}(hS:P.underlying S=some (.map kt et))(hd:Nat.blt d n=true)(hx:ev e x=some (.map r))(next:bu P n c ops l k Q ((d, .bool r.isNone)::e) M D):
  b0 P n c ops (some d) (.binOp .eql S x (.const (.map none)) S') T l k Q e M D:=
 xR hd (fun a w hf=>by
  have h1:=run_eql_map_nil (P:=P) w S kt et r hS
  have h2:a.eval (.const (.map none))= .map none:=rfl
  have h3:(eqGuard .eql S x (.const (.map none)) (.map r) (.map none)).run P w= .ok () w:=by simp [eqGuard]
  cases r<;>simp_all [execOp,cx,hf.ev hx]) next
end rules
end Go.Jw

namespace Go.Jw
open Go Go.RowKit Go.Proofs
set_option maxRecDepth 8000
open Go.Proofs
def py(i:Nat):FuncId:=match i with
  |1=>134
  |2=>134
  |3=>134
  |6=>135
  |7=>135
  |8=>136
  |9=>135
  |10=>136
  |11=>137
  |12=>137
  |13=>134
  |14=>138
  |15=>139
  |16=>137
  |17=>137
  |18=>136
  |19=>137
  |20=>137
  |21=>140
  |22=>138
  |23=>141
  |24=>141
  |25=>142
  |26=>143
  |27=>144
  |28=>145
  |29=>145
  |30=>145
  |32=>141
  |33=>134
  |34=>134
  |36=>134
  |_=>0
theorem dN:Tryz.prog.underlying 111=some (.pointer (Tryz.prog.pointee 111)):=by
 have h:=Tryz.underlying111
 unfold Program.pointee
 rw [h]
theorem vw:Tryz.prog.underlying 104=some (.map 9 63):=Tryz.underlying104
theorem RelAt.stepK{G G':Gr}{back:Bool}{v:V}{i k:Nat}{f:Flds}{p:ByteArray×V}{fv:FVal}(hr:RelAt G back v i f)(hp:(prs back v)[i]? =some p)(hk:cE p.1=k)(hf:FvRel (fun b x=>Unf G' x b) (cU k) p.2 fv):RelAt (G'++G) back v (i+1) (f.set k fv):=by
 subst hk
 exact(hr.mono fun g hg=>List.mem_append_right _ hg).step hp (hf.mono fun b x _ h=>Unf.mono (fun g hg=>List.mem_append_left _ hg) _ _ h)
theorem RelAt.stepA{G:Gr}{back:Bool}{v:V}{i k:Nat}{f:Flds}{p:ByteArray×V}{fv:FVal}(hr:RelAt G back v i f)(hp:(prs back v)[i]? =some p)(hk:cE p.1=k)(hf:FvRel (fun b x=>Unf G x b) (cU k) p.2 fv):RelAt G back v (i+1) (f.set k fv):=by
 subst hk
 exact hr.step hp hf
abbrev F5(l:List (ByteArray×V)):Prop:= ∀ p∈l,∀ z∈kidsOf (bw p.1) p.2,d4 z
theorem jJ{l:List (ByteArray×V)}{i:Nat}(hi:i<l.length)(h:F5 (l.take (i+1))):F5 (l.take i)∧ ∀ z∈kidsOf (bw l[i].1) l[i].2,d4 z:=by
 unfold F5 at h
 rw [List.take_add_one,List.getElem?_eq_getElem hi]at h
 exact⟨fun p hp=>h p (List.mem_append_left _ hp),h _ (List.mem_append_right _ aJ)⟩
theorem gl: ∀ (x y:List UInt8),Op.bytesLess x y=decide (x<y)
  |x,[]=>by cases x<;>simp [Op.bytesLess]
  |[],_::_=>by simp [Op.bytesLess]
  |a::x,b::y=>by
    have ih:=gl x y
    by_cases h1:a<b<;>by_cases h2:a=b<;>by_cases h3:x<y<;>simp [Op.bytesLess,ih,List.cons_lt_cons_iff,h1,h2,h3]
theorem oD{back:Bool}{v:V}(hw:Wf v)(hk5:v.kind=5)(hko:dW v.keys){p:ByteArray×V}(hp:p∈prs back v):getV v p.1=some p.2:=by
  have hp':=(sD back v).mem_iff.1 hp
  obtain⟨j,hj,he⟩:=List.getElem_of_mem hp'
  have hl:=hw.eq hk5
  simp only [List.length_zip]at hj
  rw [List.getElem_zip]at he
  subst he
  have hf:dL v.keys v.keys[j]=(j:Nat):=by
    refine o7 aC Z (fun q hq h=>?_)
    rw [List.getElem?_eq_getElem aC]at h
    have h1:v.keys[q]=v.keys[j]:=by simpa using h
    have hlt: ∀ a b (ha:a<v.keys.length) (hb:b<v.keys.length),a<b→v.keys[a].toList<v.keys[b].toList:=by
      intro a b ha hb hab
      induction b with
      |zero=>omega
      |succ b ih=>
        have hs:=(hko (b+1) hb).2 aC
        have h3:v.keys[b].toList<v.keys[b+1].toList:=by
          have h4: ¬ (v.keys[b+1].toList<v.keys[b].toList):=by
            have:=hs.1
            rw [gl]at this
            simpa using this
          have h5:v.keys[b].toList≠v.keys[b+1].toList:=fun h=>hs.2 (by
            have:=uJ (s:=v.keys[b+1]) (t:=v.keys[b])
            rw [h]at this
            simpa using this.symm)
          rcases Nat.lt_trichotomy 0 1 with _|_|_
          · exact Classical.byContradiction fun hc=>h5 (List.le_antisymm (List.not_lt.1 h4) (List.not_lt.1 hc))
          · omega
          · omega
        rcases Nat.lt_or_eq_of_le (Nat.le_of_lt_succ hab)with h6|h6
        · exact List.lt_trans (ih aC h6) h3
        · subst h6;exact h3
    have:=hlt q j aC aC hq
    rw [h1]at this
    exact List.lt_irrefl _ this
  exact fM hf aC
theorem Dd{G:Gr}{back:Bool}{v:V}{f:Flds}{b:Nat}{cs:List Value}(hw:Wf v)(hk5:v.kind=5)(hko:dW v.keys)(hr:RelAt G back v (prs back v).length f)(hg:(b,cs,f)∈G):Unf G v b:=by
  have hget: ∀ p∈prs back v,getV v p.1=some p.2:=fun p hp=>oD hw hk5 hko hp
  refine(pL G v b).2 ⟨f,⟨cs,hg⟩,fun q h1 h2=>?_⟩
  have:=hr q h1 h2
  rw [List.take_length]at this
  cases hfq:f q with
  |none=>
    rw [hfq]at this
    intro key hkey
    cases hgv:getV v key with
    |none=>rfl
    |some x=>
      exfalso
      have hmem:(key,x)∈prs back v:=by
        refine(sD back v).mem_iff.2 ?_
        unfold getV at hgv
        rcases qX v.keys key with hn|⟨j,hj,hlt⟩
        · rw [if_pos hn]at hgv;cases hgv
        · rw [hj,if_neg aC]at hgv
          have hl:=hw.eq hk5
          simp only [Int.toNat_natCast]at hgv
          have hx:=(List.getElem?_eq_some_iff.1 hgv).2
          have hkj:v.keys[j]=key:=by
            have h3:dL v.keys key=(j:Nat):=hj
            unfold dL at h3
            split at h3
            · rename_i hlt3
              have h4:=List.findIdx_getElem (w:=hlt3)
              have h5:v.keys.findIdx (fun x=>decide (x=key))=j:=by omega
              simp only [h5]at h4
              simpa using h4
            · omega
          rw [←hkj,←hx]
          have:(v.keys.zip v.items)[j]'bp=(v.keys[j],v.items[j]'aC):=List.getElem_zip
          rw [←this]
          exact List.getElem_mem _
      exact this _ hmem hkey
  |some fv=>
    rw [hfq]at this
    obtain⟨p,h3,h4,h5⟩:=this
    exact⟨p.1,p.2,h4,hget p h3,h5⟩
theorem pz(w:World)(ok:Nat→Prop)(mb:Nat):CellsP w ok mb (.map (some mb)::List.replicate 36 (.pointer none)) (fun _=>none):=by
 refine⟨by simp,rfl,fun i h1 h2=>⟨.pointer none,?_,rfl⟩⟩
 obtain⟨j,rfl⟩: ∃j,i=j+1:=⟨i - 1,aC⟩
 rw [List.getElem?_cons_succ,List.getElem?_replicate,if_pos aC]
theorem F6{w:World}{ok:Nat→Prop}{fv:FVal}{u:Value}(h:FvP w ok fv u): ∃p,u= .pointer (some p):=by
  cases fv with
  |text s=>obtain⟨p,a,_⟩:=h;exact⟨p,a⟩
  |bool x=>obtain⟨p,a,_⟩:=h;exact⟨p,a⟩
  |int n=>obtain⟨p,a,_⟩:=h;exact⟨p,a⟩
  |numI n=>obtain⟨b,p,a,_⟩:=h;exact⟨_,a⟩
  |numF n=>obtain⟨b,p,a,_⟩:=h;exact⟨_,a⟩
  |sbS c=>obtain⟨b,a,_⟩:=h;exact⟨_,a⟩
  |sbB x=>obtain⟨b,p,a,_⟩:=h;exact⟨_,a⟩
  |itS c=>obtain⟨b,a,_⟩:=h;exact⟨_,a⟩
  |itL bs=>obtain⟨b,p,sl,a,_⟩:=h;exact⟨_,a⟩
  |texts l=>obtain⟨p,sl,a,_⟩:=h;exact⟨_,a⟩
  |named l=>obtain⟨p,sl,nbs,a,_⟩:=h;exact⟨_,a⟩
  |deps l=>obtain⟨p,sl,nbs,a,_⟩:=h;exact⟨_,a⟩
  |enums l=>obtain⟨p,A,c,a,_⟩:=h;exact⟨_,a⟩
  |tyS s=>obtain⟨b,p,a,_⟩:=h;exact⟨_,a⟩
  |tyL l=>obtain⟨b,p,sl,a,_⟩:=h;exact⟨_,a⟩
  |list bs=>obtain⟨p,sl,a,_⟩:=h;exact⟨_,a⟩
  |one c=>exact⟨_,h⟩
  |any=>exact h
theorem p6{w:World}{ok:Nat→Prop}{mb:Nat}{cs:List Value}{f:Flds}(h:(DA.flds mb cs f).p w ok)(i:Nat)(h1:1≤i)(h2:i≤36): ∃q,cs[i]? =some (.pointer q)∧q.isSome=(f i).isSome:=by
  obtain⟨u,hu,hm⟩:=h.2.2 i h1 h2
  cases hf:f i with
  |none=>rw [hf]at hm;subst hm;exact⟨none,hu,rfl⟩
  |some fv=>
    rw [hf]at hm
    obtain⟨p,rfl⟩:=F6 hm
    exact⟨some p,hu,rfl⟩
theorem F7{w:World}{ok:Nat→Prop}{mb:Nat}{cs:List Value}{f:Flds}{s:ByteArray}{p:Addr}(h:(DA.flds mb cs f).p w ok)(hf:f 2=some (.text s))(hc:cs[2]? =some (.pointer (some p))):PtsTo w ok p (.string s):=by
 obtain⟨u,hu,hm⟩:=h.2.2 2 aE aE
 rw [hf]at hm
 rw [hc]at hu
 cases hu
 obtain⟨p',he,_,h3⟩:=hm
 cases he
 exact h3
theorem gm{U:Nat→V→Prop}{x:V}{fv:FVal}(h:FvRel U 1 x fv):fv= .text x.text:=by
 cases fv<;>simp_all [FvRel]
theorem BM{back:Bool}{v:V}(h:nD v):F5 (prs back v):=by
 intro p hp
 have hp':=(sD back v).mem_iff.1 hp
 obtain⟨j,hj,he⟩:=List.getElem_of_mem hp'
 simp only [List.length_zip]at hj
 rw [List.getElem_zip]at he
 subst he
 exact h j _ _ (List.getElem?_eq_getElem aC) (List.getElem?_eq_getElem aC)
theorem vx{back:Bool}{v x:V}{key:ByteArray}(hw:Wf v)(hk5:v.kind=5)(hgv:getV v key=some x):(key,x)∈prs back v:=by
  refine(sD back v).mem_iff.2 ?_
  unfold getV at hgv
  rcases qX v.keys key with hn|⟨j,hj,hlt⟩
  · rw [if_pos hn]at hgv;cases hgv
  · rw [hj,if_neg aC]at hgv
    have hl:=hw.eq hk5
    simp only [Int.toNat_natCast]at hgv
    have hx:=(List.getElem?_eq_some_iff.1 hgv).2
    have hkj:v.keys[j]=key:=by
      have h3:dL v.keys key=(j:Nat):=hj
      unfold dL at h3
      split at h3
      · rename_i hlt3
        have h4:=List.findIdx_getElem (w:=hlt3)
        have h5:v.keys.findIdx (fun x=>decide (x=key))=j:=by omega
        simp only [h5]at h4
        simpa using h4
      · omega
    rw [←hkj,←hx]
    have:(v.keys.zip v.items)[j]'bp=(v.keys[j],v.items[j]'aC):=List.getElem_zip
    rw [←this]
    exact List.getElem_mem _
theorem De{G:Gr}{back:Bool}{v:V}{f:Flds}(hw:Wf v)(hk5:v.kind=5)(hko:dW v.keys)(hr:match f 2 with
    |none=> ∀ p∈(prs back v).take (prs back v).length,cE p.1≠2
    |some fv=> ∃p∈(prs back v).take (prs back v).length,cE p.1=2∧FvRel (fun b x=>Unf G x b) (cU 2) p.2 fv) (hf:f 2=none):getV v kId=none:=by
  rw [hf]at hr
  rw [List.take_length]at hr
  cases hg:getV v kId with
  |none=>rfl
  |some x=>exact absurd (show cE kId=2 by decide+kernel) (hr _ (vx hw hk5 hg))
theorem Mo{key:ByteArray}(h:cE key=2):key=kId:=tg (h.trans (by decide+kernel:2=cE kId)) (by rw [h];decide)
theorem yf{ks:List ByteArray}(hko:dW ks): ∀ a b (ha:a<ks.length) (hb:b<ks.length),a<b→ks[a].toList<ks[b].toList:=by
  intro a b ha hb hab
  induction b with
  |zero=>omega
  |succ b ih=>
    have hs:=(hko (b+1) hb).2 aC
    have h3:ks[b].toList<ks[b+1].toList:=by
      have h4: ¬ (ks[b+1].toList<ks[b].toList):=by
        have:=hs.1
        rw [gl]at this
        simpa using this
      have h5:ks[b].toList≠ks[b+1].toList:=fun h=>hs.2 (by
        have:=uJ (s:=ks[b+1]) (t:=ks[b])
        rw [h]at this
        simpa using this.symm)
      exact Classical.byContradiction fun hc=>h5 (List.le_antisymm (List.not_lt.1 h4) (List.not_lt.1 hc))
    rcases Nat.lt_or_eq_of_le (Nat.le_of_lt_succ hab)with h6|h6
    · exact List.lt_trans (ih aC h6) h3
    · subst h6;exact h3
theorem yg{back:Bool}{v:V}(hko:dW v.keys):((prs back v).map (·.1)).Nodup:=by
  have h1:v.keys.Nodup:=by
    refine List.pairwise_iff_getElem.2 fun i j hi hj hij e=>?_
    have:=yf hko i j hi hj hij
    rw [e]at this
    exact List.lt_irrefl _ this
  refine((sD back v).map _).nodup_iff.2 ?_
  refine List.Nodup.sublist ?_ h1
  have: ∀ (ks:List ByteArray) (ts:List V),List.Sublist ((ks.zip ts).map (·.1)) ks:=by
    intro ks
    induction ks with
    |nil=>intro ts;exact List.Sublist.refl _
    |cons k ks ih=>
      intro ts
      cases ts with
      |nil=>exact List.nil_sublist _
      |cons t ts=>exact(ih ts).cons_cons k
  exact this _ _
theorem oE{G:Gr}{back:Bool}{v:V}{i q:Nat}{f:Flds}(hko:dW v.keys)(hlt:i<(prs back v).length)(hr:RelAt G back v i f)(h0:1≤q∧q≤36)(hkw:cE (prs back v)[i].1=q):f q=none:=by
  have:=hr q h0.1 h0.2
  cases hf:f q with
  |none=>rfl
  |some fv=>
    exfalso
    rw [hf]at this
    obtain⟨p,hp,hk,_⟩:=this
    have he:p.1=(prs back v)[i].1:=(jj hk aC).trans (jj hkw aC).symm
    obtain⟨j,hj,rfl⟩:=List.getElem_of_mem hp
    rw [List.length_take]at hj
    rw [List.getElem_take]at he
    have hn:=List.pairwise_iff_getElem.1 (yg (back:=back) hko) j i bI bI aC
    exact hn (by rw [List.getElem_map,List.getElem_map];exact he)
theorem IM{back:Bool}{v:V}{mb i q ck ck1 ck2:Nat}{cs:List Value}{f:Flds}{es es1 es2:Array MapEntry}{G G':Gr}{u:Value}{fv:FVal}(hlt:i<(prs back v).length)(hlen:cs.length=37)(hcs:cs[0]? =some (.map (some mb)))(hr:RelAt G back v i f)(h0:1≤q)(h36:q≤36)(hko:dW v.keys)(hown:Own G (gH f))
  (hkw:cE (prs back v)[i].1=q) (hF:FvRel (fun b x=>Unf G' x b) (cU q) (prs back v)[i].2 fv) (hO:MapOk es2) (hno:F5 ((prs back v).take i)→es1=es∧ck1=ck) (hN:((∀ z∈kidsOf (cU q) (prs back v)[i].2,d4 z)→es2=es1∧ck2=ck1)∧Own G' (dT fv)):
  i+1≤(prs back v).length∧(cs.set q u).length=37∧(cs.set q u)[0]? =some (.map (some mb))∧RelAt (G'++G) back v (i+1) (Flds.set f q fv)∧MapOk es2∧(F5 ((prs back v).take (i+1))→es2=es∧ck2=ck)∧Own (G'++G) (gH (Flds.set f q fv)):=by
 refine⟨hlt,by rw [List.length_set];exact hlen,by rw [List.getElem?_set_ne aC];exact hcs,hr.stepK (List.getElem?_eq_getElem hlt) hkw hF,hO,fun h=>?_,n8 hown hN.2 h36 (oE hko hlt hr ⟨h0,h36⟩ hkw)⟩
 obtain⟨h1,h2⟩:=jJ hlt h
 obtain⟨e1,e2⟩:=hno h1
 rw [kF (by rw [hkw];omega),hkw]at h2
 obtain⟨e3,e4⟩:=hN.1 h2
 exact⟨e3.trans e1,e4.trans e2⟩

def Nm(q:Nat):Prop:=decide (1≤q∧q≤36∧q≠0∧q≠35)=true
theorem Nm.nmok{q:Nat}(h:Nm q):1≤q∧q≤36∧q≠0∧q≠35:=of_decide_eq_true h
theorem Mp{q:Nat}{key k2:ByteArray}(_:Nm q)(h:key=k2)(e:cE k2=q):cE key=q:=h▸e
theorem yh{P:Program}{n:Nat}{F:List Nat}{c:Ctx F}{k:List KI}{Q:Post}{e:cp}{M:List HA}{D:List DA}{q:Nat}(hq:Nm q)(i j:Nat){mb:Nat}{cs:List Value}{f:Flds}{u:Value}{v:FVal}(hi:D[i]? =some (.flds mb cs f))(hj:D[j]? =some (.fv u v))(next:Run P n c k Q e M (.flds mb (cs.set q u) (f.set q v)::D)):Run P n c k Q e M D:=lq i j q hi hj hq.nmok.1 next
theorem sW{D D2:List DA}(h: ∀ d∈D2,d∈D:=by intro d hd;first|exact cR 1 rfl (cR 0 rfl sQ) d hd|exact cR 0 rfl (cR 9 rfl sQ) d hd|(repeat (first|exact hd|apply List.mem_cons_of_mem))): ∀ d∈D2,d∈D:=h
theorem iB{q:Nat}{X A B:Prop}(hF:bz Tryz.prog 124 q q)(si:X)(x:B)(hq:Nm q:=by exact rfl)(h:bz Tryz.prog 124 q q→X→Nm q→B→A:=by
  intro hF si hq k
  refine rR 7 Z ?_
  refine zK Z (fun h=>?_) (fun h=>rK 0 [55,8,6,5,0,1] Z Z ?_)
  rotate_left
  · revert h
    exact k
  have hkw:=Mp hq h aD
  have hB:=HB _ hmem _ rfl (by rw [hkw];decide)
  rw [hkw]at hB
  refine rO 8 Z ?_
  refine rE 0 1 Z Z Z (hB _ _ _ _ es1 ck1 hcs hok) Z Z (cn 1 11 Z Z) (fun u M D hv=>?_)
  obtain⟨p,fv,G1,es2,ck2,rfl,rfl,rfl,hF1,hO1,hN1⟩:=hv
  refine oO 3 Z ?_
  refine zC hF Z Z ?_
  refine oO 1 Z ?_
  refine eh 0 Z Z Z Z Z si aC ?_
  refine oO 7 Z ?_
  refine xL (s:=((2*(i+1):Nat):Int)) Z Z Z aC aC aC ?_
  refine oR 3 Z ?_
  refine yh hq 8 0 Z Z ?_
  refine sJ 2 10 Z Z ?_
  refine qY 1 2 Z Z ?_
  rw [gJ]
  exact vP (hK (i+1,cs.set _ (.pointer (some p)),Flds.set f _ fv,es2,ck2,G1++G) (IM hlt hlen hcs hr hq.nmok.1 hq.nmok.2.1 hko hown hkw hF1 hO1 hno hN1) (by show(prs back v).length - (i+1)<(prs back v).length - i;omega)) (eC Z (eC Z (eC Z (eC Z (eN _))))) (by repeat (first|exact wQ _|exact zO _|refine zB 0 Z ?_|refine zB 1 Z ?_|refine zB 2 Z ?_)) sW):A:=h hF si hq x

set_option maxHeartbeats 4000000 in
theorem IN(ft:DA)(mb:Nat)(back:Bool)(v:V)(hw:Wf v)(hk5:v.kind=5)(hko:dW v.keys)(HB: ∀ p∈prs back v,∀ F,py (cE p.1)=F→F≠0→BC ft back F (cU (cE p.1)) p.2)(HN: ∀ p∈prs back v,cE p.1=31→gI ft mb back p.2)
  (nb:Nat) (es:Array MapEntry) (clock:Nat) (hes:MapOk es):Ct Tryz.prog 103 #[cD nb, .map (some mb)] [.obj mb (.map es clock)] [.node nb (cb back v),ft] (IE mb es clock v):=by
 refine Ct.of_run (args:=[cD nb, .map (some mb)]) Tryz.func103 aF Z Tryz.ntmps103 Z (fun c=>?_)
 have hkl:=hw.kl
 have hpl:=oC back v
 rw [gj hk5]
 refine xV 0 Z (fun A0 cap0 ht0 hv0 hl0 hc0=>?_)
 rw [jl]
 rw [jl]at hl0
 unfold maxLen at hc0
 refine rO 13 Z (zC wG Z Z ?_)
 refine zA (zH 0 dI Z Z Z Z ?_)
 refine oO 23 Z (yY Z Z (DO ..) ?_)
 refine zA (yN Z Z Z (fun b27=>?_))
 refine oK 3 [5,0,1] Z Z (rK 7 [6,5,0,1] Z Z ?_)
 refine yO (.graph mb []) (fun w ok h g hg=>by cases hg) (yO (.flds mb (.map (some mb)::List.replicate 36 (.pointer none)) (fun _=>none)) (fun w ok h=>pz w ok mb) ?_)
 refine gi 124 (rV (M':=HA.blk b27 (.map (some mb)::List.replicate 36 (.pointer none)) 124::HA.many 124 []::HA.obj mb (.map es clock)::[]) (List.Perm.swap _ _ _) ?_)
 refine yR 1 (fun(⟨i,cs,f,es1,ck1,G⟩:Nat×List Value×Flds×Array MapEntry×Nat×Gr)=>i≤(prs back v).length∧cs.length=37∧cs[0]? =some (.map (some mb))∧RelAt G back v i f∧MapOk es1∧(F5 ((prs back v).take i)→es1=es∧ck1=clock)∧Own G (gH f)) (fun(⟨i,cs,f,es1,ck1,G⟩:Nat×List Value×Flds×Array MapEntry×Nat×Gr)=>[(6, .int .i64 ((2*i:Nat):Int))]) (fun(⟨i,cs,f,es1,ck1,G⟩:Nat×List Value×Flds×Array MapEntry×Nat×Gr)=>HA.blk b27 cs 124::HA.many 124 (Gr.blks G)::HA.obj mb (.map es1 ck1)::[]) (fun(⟨i,cs,f,es1,ck1,G⟩:Nat×List Value×Flds×Array MapEntry×Nat×Gr)=> .flds mb cs f:: .graph mb G:: .dblk nb (dJ 4 jg ⟨#[]⟩ A0 (2*(prs back v).length) cap0) 150:: .kids (.slice A0 (2*(prs back v).length) cap0) (((prs back v).map (ei back)).flatMap du):: .node nb (.mk 4 jg ⟨#[]⟩ (((prs back v).map (ei back)).flatMap du))::ft::[]) (fun(⟨i,cs,f,es1,ck1,G⟩:Nat×List Value×Flds×Array MapEntry×Nat×Gr)=>(prs back v).length - i) (0,_,(fun _=>none),es,clock,[]) (⟨Nat.zero_le _,rfl,rfl,RelAt.zero _ _ _,hes,fun _=>⟨rfl,rfl⟩,Own.nilF⟩) (eC Z (eN _)) Z Z ?_ (eC Z (eC Z (eC Z (eN _))))
 intro ⟨i,cs,f,es1,ck1,G⟩ hI K hK
 change Run _ _ _ _ _ [(6,_),(5,_),(0,_),(1,_)] [_,_,_] [_,_,_,_,_,_]
 obtain⟨hi,hlen,hcs,hr,hok,hno,hown⟩:=hI
 refine rO 10 Z (zC wH Z Z ?_)
 refine zA (zH 2 dR Z Z Z Z ?_)
 refine zA (zX cW Z Z ?_)
 refine zA (yK Z Z Z ?_)
 refine zY (zK Z (fun h34=>?_) (fun h34=>?_))
 ·refine rO 10 Z (zC wH Z Z ?_)
  refine zA (zH 2 dR Z Z Z Z ?_)
  refine oO 3 Z (wN (i:=2*i) 3 cW Z Z Z Z aC ?_)
  have hlt:i<(prs back v).length:=by omega
  have hmem:=List.getElem_mem hlt
  have hpi:=List.getElem?_eq_getElem hlt
  refine uM 3 (2*i) Z (oA hlt) (fun b1=>?_)
  refine sR 1 Z (fun A1 cap1 ht1 hv1 hl1 hc1=>?_)
  refine zA (yE dE Z Z (fun _ h=>uN h (j:=2) Z) ?_)
  refine oO 3 Z (zC wT Z Z ?_)
  refine zA (zH 0 cv Z Z Z Z ?_)
  refine oK 3 [7,6,5,0,1] Z Z (rO 7 Z ?_)
  refine zC wH Z Z (zA ?_)
  refine zH 6 dR Z Z Z Z (oO 3 Z ?_)
  refine yD Z Z aC (zA ?_)
  refine wN (i:=2*i+1) 7 cW Z Z Z Z aC (uM 7 (2*i+1) Z (oB hlt) (fun b2=>?_))
  refine zA (yE dE Z Z (fun _ h=>uN h (j:=0) Z) ?_)
  refine oK 8 [55,8,6,5,0,1] Z Z (ml ?_)
  refine iB ii dz ?_
  intro h56
  refine iB pI dz ?_
  intro h64
  refine iB kZ mv ?_
  intro h72
  refine iB ke mv ?_
  intro h80
  refine iB kf lS ?_
  intro h88
  refine iB kg mv ?_
  intro h96
  refine iB ij lS ?_
  intro h104
  refine iB ik eO ?_
  intro h112
  refine iB im eO ?_
  intro h120
  refine iB io dz ?_
  intro h128
  refine iB eP ve ?_
  intro h136
  refine iB rC E4 ?_
  intro h144
  refine iB ip eO ?_
  intro h152
  refine iB iq eO ?_
  intro h160
  refine iB ir lS ?_
  intro h168
  refine iB iu eO ?_
  intro h176
  refine iB iw eO ?_
  intro h184
  refine iB ix vf ?_
  intro h192
  refine iB qV ve ?_
  intro h200
  refine iB qA mw ?_
  intro h208
  refine iB eQ mw ?_
  intro h216
  refine iB eR E5 ?_
  intro h224
  refine iB iy E6 ?_
  intro h232
  refine iB uS E7 ?_
  intro h240
  refine iB eS mx ?_
  intro h248
  refine iB eT mx ?_
  intro h256
  refine iB qW mx ?_
  intro h264
  refine rR 7 Z (zK Z (fun h272=>?_) (fun h272=>?_))
  ·refine rO 10 Z (zC pH Z Z ?_)
   refine zA (sC 0 j5 Z Z Z hcs ?_)
   refine zA ?_
   have hkw:cE (prs back v)[i].1=31:=by rw [h272];decide+kernel
   have hB:=HN _ hmem hkw
   refine xU 2 Z Z Z (hB _ es1 ck1 hok) Z (cn 1 11 Z Z) (fun u280 M280 D280 hv280=>?_)
   obtain⟨b280,G280,es280,ck280,rfl,rfl,rfl,hU280,hO280,hN280,hI280⟩:=hv280
   refine oO 3 Z (zC eU Z Z ?_)
   refine zA (eh 2 Z Z Z Z Z DJ aC ?_)
   refine oK 1 [6,5,0,1] Z Z (rO 6 Z ?_)
   refine xL (s:=((2*(i+1):Nat):Int)) Z Z Z aC aC aC (oR 3 Z ?_)
   refine yO (.fv (cD b280) (.one b280)) (fun w ok h=>rfl) (lq 8 0 31 Z Z aE ?_)
   refine sJ 2 10 Z Z (qY 0 2 Z Z ?_)
   rw [gJ]
   exact kQ (hK (i+1,cs.set 31 (cD b280),Flds.set f 31 (.one b280),es280,ck280,G280++G) (⟨by show i+1≤_;omega,by show(cs.set 31 _).length=37;rw [List.length_set];exact hlen,by show(cs.set 31 _)[0]? =_;rw [List.getElem?_set_ne aE];exact hcs,hr.stepK hpi hkw ⟨rfl,hU280⟩,hO280,fun h=>by obtain⟨h1,h2⟩:=jJ hlt h;obtain⟨e1,e2⟩:=hno h1;rw [kF (by rw [hkw];decide),hkw]at h2;obtain⟨e3,e4⟩:=hN280 (h2 _ (by show _∈kidsOf 5 _;simp [kidsOf]));exact⟨e3.trans e1,e4.trans e2⟩,n8 hown hI280.2 aE (oE hko hlt hr aE hkw)⟩) (J7 hlt)) (eC Z (eC Z (eC Z (eC Z (eN _))))) (hD:=sW)
  refine iB qB mw ?_
  intro h283
  refine iB iz dz ?_
  intro h291
  refine iB i0 dz ?_
  intro h299
  refine rR 7 Z (zK Z (fun h307=>?_) (fun h307=>?_))
  ·refine rO 8 Z (zC lT Z Z ?_)
   refine zA (eh 0 Z Z Z Z Z E2 aC ?_)
   refine oK 1 [6,5,0,1] Z Z (rO 6 Z ?_)
   refine xL (s:=((2*(i+1):Nat):Int)) Z Z Z aC aC aC (oR 3 Z ?_)
   refine yO (.fv (cD b2) .any) (fun w ok h=>⟨_,rfl⟩) (lq 7 0 35 Z Z aE ?_)
   exact kQ (hK (i+1,cs.set 35 (cD b2),Flds.set f 35 .any,es1,ck1,G) (⟨by show i+1≤_;omega,by show(cs.set 35 _).length=37;rw [List.length_set];exact hlen,by show(cs.set 35 _)[0]? =_;rw [List.getElem?_set_ne aE];exact hcs,hr.stepA hpi (by rw [h307];decide+kernel) Z,hok,fun h=>hno (jJ hlt h).1,n8 (G':=[]) hown Own.nil aE (oE hko hlt hr aE (by rw [h307];decide+kernel))⟩) (J7 hlt)) (eC Z (eC Z (eC Z (eC Z (eN _))))) (hD:=sW)
  refine iB i4 dz ?_
  intro h313
  refine iB pJ dz ?_
  intro h321
  refine rO 7 Z (xL (s:=((2*(i+1):Nat):Int)) Z Z Z aC aC aC ?_)
  refine oR 3 Z ?_
  exact kQ (hK (i+1,cs,f,es1,ck1,G) (⟨by show i+1≤_;omega,hlen,hcs,hr.skip hpi (by unfold cE;repeat rw [if_neg (by assumption)]),hok,fun h=>hno (jJ hlt h).1,hown⟩) (J7 hlt)) (eC Z (eC Z (eC Z (eC Z (eN _))))) (hD:=sW)
 obtain rfl:i=(prs back v).length:=by omega
 rw [List.take_length]at hno
 have hUnf:Unf ([(b27,cs,f)]++G) v b27:=Dd (cs:=cs) hw hk5 hko (hr.mono fun g hg=>List.mem_append_right _ hg) (List.mem_append_left _ aJ)
 refine uQ (p:= ∃q,cs[2]? =some (.pointer q)∧q.isSome=(f 2).isSome) (fun w ok h=>p6 (dget h 0 Z) 2 aE aE) (fun⟨q2,hq2,hq2s⟩=>?_)
 refine rO 9 Z (zC pI Z Z ?_)
 refine zA (sC 0 cy Z Z Z hq2 ?_)
 refine zA (yF dN Z Z ?_)
 refine oK 1 [333,5,1] Z Z (zU Z (fun h333=>?_) (fun h333=>?_))
 ·obtain⟨p9,rfl⟩: ∃p9,q2=some p9:=Option.isSome_iff_exists.1 h333
  obtain⟨fv2,hf2⟩: ∃fv2,f 2=some fv2:=Option.isSome_iff_exists.1 (hq2s.symm.trans h333)
  have hrel:=hr 2 aE aE
  rw [hf2]at hrel
  obtain⟨pp,hpp,hkpp,hfpp⟩:=hrel
  rw [List.take_length]at hpp
  obtain rfl:=gm hfpp
  have hgid:getV v kId=some pp.2:=by rw [←Mo hkpp];exact oD hw hk5 hko hpp
  refine yO (.pts p9 (.string pp.2.text)) (fun w ok h=>F7 (dget h 0 Z) hf2 hq2) (rO 6 Z ?_)
  refine tj vw Z Z (oO 11 Z ?_)
  refine zC pI Z Z (zA ?_)
  refine sC 0 cy Z Z Z hq2 (oO 3 Z ?_)
  refine yM 0 cv Z Z Z (oO 3 Z ?_)
  refine yd 2 vw eA Z Z Z Z hok (fun es9 ck9 hok9 hemp=>?_)
  refine oK 1 [5] Z Z (rR 7 Z ?_)
  refine lm 0 Z (qY 0 0 Z Z ?_)
  refine ln (b:=b27) 1 Z (sJ 0 3 Z Z ?_)
  exact zD Tryz.results103 Z ⟨b27,[(b27,cs,f)]++G,es9,ck9,rfl,rfl,rfl,hUnf,hok9,(fun h=>by rw [((noId_iff v).1 h).1]at hgid;cases hgid),(fun idv hid hb he=>by rw [hgid]at hid;cases hid;obtain⟨e1,e2⟩:=hno (BM hb);subst e1;subst e2;exact hemp he),Own.top hown⟩ (List.Sublist.refl _) (cC 0 Z)
 refine rR 8 Z (lm 0 Z ?_)
 refine qY 0 0 Z Z (ln (b:=b27) 0 Z ?_)
 refine sJ 0 2 Z Z ?_
 have hn2:f 2=none:=Option.not_isSome_iff_eq_none.1 (by rw [←hq2s,h333];exact Bool.false_ne_true)
 have hgid:getV v kId=none:=by obtain⟨f9,⟨cs9,hm9⟩,hrel⟩:=(pL _ v b27).1 hUnf;exact De hw hk5 hko (hr 2 aE aE) hn2
 exact zD Tryz.results103 Z ⟨b27,[(b27,cs,f)]++G,es1,ck1,rfl,rfl,rfl,hUnf,hok,(fun h=>hno (BM ((noId_iff v).1 h).2)),(fun idv hid=>by rw [hgid]at hid;cases hid),Own.top hown⟩ (List.Sublist.refl _) (cC 0 Z)
end Go.Jw

namespace Go.Jw
open Go Go.RowKit Go.Proofs
set_option maxRecDepth 8000
def yi(ft:DA):Prop:=(∀ back x,x.kind=2∨(x.kind=6∧x.num.tmod 4≠0)→NumOk x→BC ft back 135 3 x)∧ ∀ back x,x.kind=2→NumOk x→BC ft back 137 4 x
noncomputable def jK:V→Prop:=V.fix (fun v f=> ∀ (j:Nat) k u,v.keys[j]? =some k→v.items[j]? =some u→bw k≠3∧bw k≠4∧ ∀ z∈kidsOf (bw k) u,f z)
theorem el(v:V):jK v↔ ∀ (j:Nat) k u,v.keys[j]? =some k→v.items[j]? =some u→bw k≠3∧bw k≠4∧ ∀ z∈kidsOf (bw k) u,jK z:=by
 have:=V.fix_eq (G:=fun v f=> ∀ (j:Nat) k u,v.keys[j]? =some k→v.items[j]? =some u→bw k≠3∧bw k≠4∧ ∀ z∈kidsOf (bw k) u,f z) (fun t g g' h=>by
  have: ∀ (j:Nat) k u,t.items[j]? =some u→((∀ z∈kidsOf (bw k) u,g z)↔ ∀ z∈kidsOf (bw k) u,g' z):=by
   intro j k u hu
   have hs: ∀ z∈kidsOf (bw k) u,SizeOf.sizeOf z<SizeOf.sizeOf t:=fun z hz=>Nat.lt_of_le_of_lt (uY hz) (gE hu)
   exact⟨fun a z hz=>by rw [←h z (hs z hz)];exact a z hz,fun a z hz=>by rw [h z (hs z hz)];exact a z hz⟩
  apply propext
  constructor
  ·intro h2 j k u hk hu;exact⟨(h2 j k u hk hu).1,(h2 j k u hk hu).2.1,(this j k u hu).1 (h2 j k u hk hu).2.2⟩
  ·intro h2 j k u hk hu;exact⟨(h2 j k u hk hu).1,(h2 j k u hk hu).2.1,(this j k u hu).2 (h2 j k u hk hu).2.2⟩) v
 show V.fix _ v↔_
 rw [this]
 rfl
theorem lv{back:Bool}{v:V}{p:ByteArray×V}(hp:p∈prs back v): ∃j:Nat,v.keys[j]? =some p.1∧v.items[j]? =some p.2:=by
 have hp':=(sD back v).mem_iff.1 hp
 obtain⟨j,hj,he⟩:=List.getElem_of_mem hp'
 simp only [List.length_zip]at hj
 rw [List.getElem_zip]at he
 subst he
 exact⟨j,List.getElem?_eq_getElem aC,List.getElem?_eq_getElem aC⟩
theorem Pl.frac{v:V}(h:Pl v)(hk:v.kind=6):v.num.tmod 4≠0:=by
 obtain⟨d,h⟩:=h
 obtain⟨q,m,s,ks,ts⟩:=v
 simp only [V.kind]at hk
 subst hk
 have:=(xM aE aE).1 h
 simp only [dA]at this
 simp only [V.num]
 omega
theorem IP{ft:DA}{back:Bool}{v:V}(hN:yi ft∨jK v)(hp:Pl v)(hs:IsShape v)(sub: ∀ p∈prs back v,∀ z∈kidsOf (bw p.1) p.2,Pl z→ ∀ mb,gI ft mb back z): ∀ p∈prs back v,∀ F,py (cE p.1)=F→F≠0→BC ft back F (cU (cE p.1)) p.2:=by
  intro p hpm F hF h0
  have hfit:=((xX v).1 hs).2
  obtain⟨j,hj1,hj2⟩:=lv hpm
  have hx:p.2∈v.items:=List.mem_of_getElem? hj2
  have hpl:=hp.item _ hx
  have hne:cE p.1≠0:=by intro h;rw [h]at hF;exact h0 hF.symm
  have hsh:=kF hne
  have hf:=(hfit j _ _ hj1 hj2).1
  have hsub:=sub p hpm
  have hnn:yi ft∨(bw p.1≠3∧bw p.1≠4):=hN.imp id fun h=>⟨((el v).1 h j _ _ hj1 hj2).1,((el v).1 h j _ _ hj1 hj2).2.1⟩
  rw [hsh]at hf hsub hnn
  have hw:=hpl.wf
  subst hF
  generalize hq:cE p.1=q at*
  have key: ∀ (F:FuncId) (sh:Int),py q=F→cU q=sh→((F=134∧sh=1)∨(F=136∧sh=2)∨(F=135∧sh=3)∨(F=137∧sh=4)∨(F=138∧sh=6)∨(F=139∧sh=7)∨(F=140∧sh=8)∨(F=141∧sh=9)∨(F=142∧sh=10)∨(F=143∧sh=11)∨(F=144∧sh=12)∨(F=145∧sh=13)):=by
    intro F sh hF hS
    subst hF;subst hS
    unfold py at h0⊢
    unfold cU
    split at h0<;>simp_all
  have hK:=key _ _ rfl rfl
  generalize py q=F at*
  generalize cU q=sh at*
  have hil: ∀ y∈p.2.items,y.items.length≤1000000:=fun y hy=>(hw.item y hy).il
  rcases hK with ⟨rfl,rfl⟩|⟨rfl,rfl⟩|⟨rfl,rfl⟩|⟨rfl,rfl⟩|⟨rfl,rfl⟩|⟨rfl,rfl⟩|⟨rfl,rfl⟩|⟨rfl,rfl⟩|⟨rfl,rfl⟩|⟨rfl,rfl⟩|⟨rfl,rfl⟩|⟨rfl,rfl⟩
  · exact Mk (by simpa [FitLoc]using hf)
  · exact Ml (by simpa [FitLoc]using hf)
  · rcases hnn with h|h
    · have hf':p.2.kind=2∨p.2.kind=6:=by simpa [FitLoc]using hf
      exact h.1 back _ (hf'.imp id fun h6=>⟨h6,hpl.frac h6⟩) hpl.num
    · exact absurd Z h.1
  · rcases hnn with h|h
    · have hf':p.2.kind=2∧0≤p.2.num:=by simpa [FitLoc]using hf
      exact h.2 back _ hf'.1 hpl.num
    · exact absurd Z h.2
  · have hf':p.2.kind=1∨p.2.kind=5:=by simpa [FitLoc]using hf
    rcases hf' with h|h
    · exact KO h
    · exact KP h (hsub _ (by rw [nG h];simp) hpl)
  · have hf':p.2.kind=5∨(p.2.kind=4∧ ∀ x∈p.2.items,x.kind=5):=by simpa [FitLoc]using hf
    rcases hf' with h|⟨h,h5⟩
    · exact KQ h (hsub _ (by rw [px h];simp) hpl)
    · exact KR h hw.il h5 (fun y hy=>hsub y (by rw [fS h h5];exact hy) (hpl.item y hy))
  · have hf':p.2.kind=4∧ ∀ x∈p.2.items,x.kind=3:=by simpa [FitLoc]using hf
    exact Mm hf'.1 hw.il hf'.2
  · have hf':p.2.kind=5∧ ∀ x∈p.2.items,x.kind=5:=by simpa [FitLoc]using hf
    exact Mn hf'.1 hw.kl hf'.2 (fun y hy=>hsub y bK (hpl.item y hy))
  · have hf':p.2.kind=5∧ ∀ x∈p.2.items,x.kind=4∧ ∀ y∈x.items,y.kind=3:=by simpa [FitLoc]using hf
    exact KN hf'.1 hw.kl (fun y hy=>⟨(hf'.2 y hy).1,hil y hy,(hf'.2 y hy).2⟩)
  · have hf':p.2.kind=4∧ ∀ x∈p.2.items,x.kind=3∨x.kind=1:=by simpa [FitLoc]using hf
    exact KM hf'.1 hw.il hf'.2
  · have hf':p.2.kind=3∨(p.2.kind=4∧ ∀ x∈p.2.items,x.kind=3):=by simpa [FitLoc]using hf
    rcases hf' with h|⟨h,h3⟩
    · exact IK h
    · exact IL h hw.il h3
  · have hf':p.2.kind=4∧ ∀ x∈p.2.items,x.kind=5:=by simpa [FitLoc]using hf
    exact KT hf'.1 hw.il hf'.2 (fun y hy=>hsub y bJ (hpl.item y hy))
theorem IQ{ft:DA}{back:Bool}{v:V}(hp:Pl v)(sub: ∀ p∈prs back v,∀ z∈kidsOf (bw p.1) p.2,Pl z→ ∀ mb,gI ft mb back z)(mb:Nat): ∀ p∈prs back v,cE p.1=31→gI ft mb back p.2:=by
 intro p hpm hkw
 have hsh:=kF (key:=p.1) (by rw [hkw];decide)
 rw [hkw]at hsh
 obtain⟨j,hj1,hj2⟩:=lv hpm
 exact sub p hpm p.2 (by rw [hsh];simp [kidsOf,cU]) (hp.item _ (List.mem_of_getElem? hj2)) mb
theorem KU(ft:DA)(back:Bool)(v:V):(yi ft∨jK v)→Pl v→IsShape v→ ∀ mb,gI ft mb back v:=by
 refine V.indS (p:=fun v=>(yi ft∨jK v)→Pl v→IsShape v→ ∀ mb,gI ft mb back v) (fun v IH hN hp hs mb=>?_) v
 have hk5:=hs.kind
 have hfit:=((xX v).1 hs).2
 have sub: ∀ p∈prs back v,∀ z∈kidsOf (bw p.1) p.2,Pl z→ ∀ mb,gI ft mb back z:=by
  intro p hpm z hz hpz
  obtain⟨j,hj1,hj2⟩:=lv hpm
  refine IH z (Nat.lt_of_le_of_lt (uY hz) (gE hj2)) ?_ hpz ((hfit j _ _ hj1 hj2).2.1 z hz)
  exact hN.imp id fun h=>((el v).1 h j _ _ hj1 hj2).2.2 z hz
 exact IN ft mb back v hp.wf hk5 (hp.keys hk5) (IP hN hp hs sub) (IQ hp sub mb)
def KV(v:V)(u:Value)(M':List HA)(D':List DA):Prop:= ∃b G mb es ck,u=cD b∧M'=[.many 124 (Gr.blks G), .obj mb (.map es ck)]∧D'=[.graph mb G]∧Unf G v b∧MapOk es∧(∀ idv,getV v kId=some idv→nD v→es= #[{key:= .string idv.text,val:=cD b,born:=0}])∧Own G [b]
theorem KW(ft:DA)(back:Bool)(v:V)(x:Value)(hN:yi ft∨jK v)(hp:Pl v)(hs:IsShape v):Ct Tryz.prog 57 #[x, .bool back] [] [.val x v, .tab,ft] (KV v):=by
 refine Ct.of_run (args:=[x, .bool back]) Tryz.func57 aF Z Tryz.ntmps57 Z (fun c=>?_)
 refine xB 0 Z (fun A1 c1 A2 c2 hx hsz hk1 hk2 hi1 hi2=>?_)
 subst hx
 refine rO 3 Z (yN Z Z Z (fun b2=>?_))
 refine oO 6 Z (zL 0 Z cB Z Z ?_)
 refine oO 3 Z (zW Z Z Z (KD v hp.wf hp.num back _) (cn 2 3 Z Z) (fun u7 D7 hv7=>?_))
 obtain⟨b7,rfl,rfl⟩:=hv7
 refine zA (tf Z (fun b8=>?_))
 refine zA (xU 0 Z Z Z (KU ft back v hN hp hs b8 _ #[] 0 MapOk.empty) Z (cn 0 5 Z Z) (fun u9 M9 D9 hv9=>?_))
 obtain⟨b9,G9,es9,ck9,rfl,rfl,rfl,hU9,hO9,hN9,hI9⟩:=hv9
 refine oR 3 Z ?_
 exact zD Tryz.results57 Z ⟨b9,G9,b8,es9,ck9,rfl,rfl,rfl,hU9,hO9,fun idv h1 h2=>hI9.1 idv h1 h2 Z,hI9.2⟩ (by repeat (first|exact List.Sublist.refl _|apply List.Sublist.cons_cons|exact List.nil_sublist _)) (cC 0 Z)
theorem yj(s:ByteArray)(hs:s.size≤maxLen):CtR Tryz.prog 151 #[.string s] [] (RN (cK dF s)):=by
 refine Ct.of_run (args:=[.string s]) Tryz.func151 aF Z Tryz.ntmps151 Z (fun c=>?_)
 refine rO 10 Z (yY Z Z (qC ..) ?_)
 refine zA (yN Z Z Z (fun b5=>?_))
 refine oR 3 Z (eZ ?_)
 exact uB 0 0 Z Z aG aE hs (zD Tryz.results151 Z ⟨rfl,b5,rfl,rfl⟩ nS (cC 0 Z))
theorem F8(x:Bool):CtR Tryz.prog 153 #[.bool x] [] (RN (cK dp (pk x))):=by
 refine Ct.of_run (args:=[.bool x]) Tryz.func153 aF Z Tryz.ntmps153 Z (fun c=>?_)
 refine rO 10 Z (zJ Z Z Z (H7 _) cF ?_)
 refine zA (yY Z Z (qC ..) ?_)
 refine zA (yN Z Z Z (fun b6=>?_))
 refine oR 3 Z (eZ ?_)
 exact uB 0 0 Z Z aG aE (by cases x<;>decide) (zD Tryz.results153 Z ⟨rfl,b6,rfl,rfl⟩ nS (cC 0 Z))
theorem me(A:Option Addr)(m cap nb:Nat)(xs:List Value)(s:ByteArray)(hs:s.size≤maxLen)(hm:m≤1000000):Ct Tryz.prog 150 #[.slice A m cap, .string s,cD nb] [.row A m cap 102 1 xs] []
  (fun u M' D'=> ∃A' cap' b,u= .slice A' (m+2) cap'∧M'=[.row A' (m+2) cap' 102 1 (xs++[cD b,cD nb])]∧D'=[.node b (cK dF s)]):=by
 refine Ct.of_run (args:=[.slice A m cap, .string s,cD nb]) Tryz.func150 aF Z Tryz.ntmps150 Z (fun c=>?_)
 refine rO 12 Z (zW Z Z Z (yj s hs) cF (fun u9 D9 hv9=>?_))
 obtain⟨b9,rfl,rfl⟩:=hv9
 refine zA (zM cW Z Z Z Z Z (fun b10=>?_))
 refine zA ?_
 refine cO 1 0 cW (fun A11 c11=>?_)
 refine oO 10 Z (zM cW Z Z Z Z Z (fun b14=>?_))
 refine zA ?_
 refine cO 2 0 cW (fun A15 c15=>?_)
 refine oK 3 [0] Z Z (rR 7 Z ?_)
 rw [List.append_assoc xs]
 exact zD Tryz.results150 Z ⟨_,_,b9,rfl,rfl,rfl⟩ ak (cC 0 Z)
def cg(k:Int)(ys:List Y):Y:= .mk k ⟨#[]⟩ ⟨#[]⟩ ys
theorem F9(A:Option Addr)(m cap:Nat)(ys:List Y):CtR Tryz.prog 185 #[.slice A m cap] [.kids (.slice A m cap) ys] (RN (cg 2 ys)):=by
 refine Ct.of_run (args:=[.slice A m cap]) Tryz.func185 aF Z Tryz.ntmps185 Z (fun c=>?_)
 refine rO 10 Z (yY Z Z (mz ..) ?_)
 refine zA (yN Z Z Z (fun b5=>?_))
 refine oR 3 Z (uB 0 0 Z Z aG aE aE ?_)
 exact zD Tryz.results185 Z ⟨rfl,b5,rfl,rfl⟩ nS (cC 0 Z)
theorem IR(A:Option Addr)(m cap:Nat)(ys:List Y):CtR Tryz.prog 186 #[.slice A m cap] [.kids (.slice A m cap) ys] (RN (cg 4 ys)):=by
 refine Ct.of_run (args:=[.slice A m cap]) Tryz.func186 aF Z Tryz.ntmps186 Z (fun c=>?_)
 refine rO 10 Z (yY Z Z (mz ..) ?_)
 refine zA (yN Z Z Z (fun b5=>?_))
 refine oR 3 Z (uB 0 0 Z Z aG aE aE ?_)
 exact zD Tryz.results186 Z ⟨rfl,b5,rfl,rfl⟩ nS (cC 0 Z)
theorem IS(n:Int)(h0: -9223372036854775808≤n)(h1:n≤9223372036854775807):CtR Tryz.prog 161 #[.int .i64 n] [.tab] (RN (cK iK (dS n))):=by
 refine Ct.of_run (args:=[.int .i64 n]) Tryz.func161 aF Z Tryz.ntmps161 Z (fun c=>?_)
 refine rO 10 Z (zJ Z Z Z (c148 n h0 h1) (cC 0 Z) ?_)
 refine zA (yY Z Z (qC ..) ?_)
 refine zA (yN Z Z Z (fun b6=>?_))
 refine oR 3 Z (eZ ?_)
 exact uB 0 0 Z Z aG aE (ny (vU n h0 h1) aE) (zD Tryz.results161 Z ⟨rfl,b6,rfl,rfl⟩ nS (cC 0 Z))
theorem GA(x:Value)(l:List ByteArray)(hl:l.length≤1000000):CtR Tryz.prog 156 #[x] [.strs x l] (RN (cg 2 (l.map (cK dF)))):=by
 refine Ct.of_run (args:=[x]) Tryz.func156 aF Z Tryz.ntmps156 Z (fun c=>?_)
 refine sP 0 Z (fun hsz=>?_)
 refine lW 0 Z (fun A1 c1 hx hk1 hk2=>?_)
 subst hx
 unfold maxLen at hk2
 refine rO 8 Z (xW cW Z Z Z (fun b6=>?_))
 refine oO 9 Z (zX cG Z Z ?_)
 refine oK 4 [9,3,8,7] Z Z (yO (.ptrs [] ((l.take 0).map (cK dF))) (fun w ok h=>rfl) ?_)
 refine yR 2 (fun(⟨i,A,ca,xs⟩:Nat×Option Addr×Nat×List Value)=>i≤l.length) (fun(⟨i,A,ca,xs⟩:Nat×Option Addr×Nat×List Value)=>[(9, .int .i64 ((i:Nat):Int)),(3, .slice A i ca)]) (fun(⟨i,A,ca,xs⟩:Nat×Option Addr×Nat×List Value)=>HA.row A i ca 102 1 xs::[]) (fun(⟨i,A,ca,xs⟩:Nat×Option Addr×Nat×List Value)=> .ptrs xs ((l.take i).map (cK dF)):: .strs (.slice A1 l.length c1) l::[]) (fun(⟨i,A,ca,xs⟩:Nat×Option Addr×Nat×List Value)=>l.length - i) (0,_,_,[]) bX (eC Z (eC Z (eN _))) Z Z ?_ (eC Z (eC Z (eN _)))
 intro ⟨i,A,ca,xs⟩ hI K hK
 replace hI:i≤l.length:=hI
 change Run _ _ _ _ _ [(9,_),(3,_),(8,_),(7,_)] [_] [_,_]
 refine rO 3 Z (yK Z Z Z ?_)
 refine oR 2 Z (zK Z (fun h10=>?_) (fun h10=>?_))
 ·refine rO 6 Z (wA 1 cG Z Z Z Z aC ?_)
  refine zA (yE cv Z Z (fun _ h=>xK h (j:=1) Z (List.getElem?_eq_getElem h10)) ?_)
  refine oO 9 Z (zW Z Z Z (yj _ (hsz _ (List.getElem_mem h10))) cF (fun u15 D15 hv15=>?_))
  obtain⟨b15,rfl,rfl⟩:=hv15
  refine zA (zM cW Z Z Z Z Z (fun b16=>?_))
  refine zA ?_
  refine cO 1 0 cW (fun A17 c17=>?_)
  refine oK 3 [3,9,8,7] Z Z (rO 3 Z ?_)
  refine yD Z Z aC (oR 3 Z ?_)
  refine vT 1 0 Z Z ?_
  rw [sA]
  exact kQ (hK (i+1,_,_,_) bQ aw) (eC Z (eC Z (eC Z (eC Z (eN _))))) (hD:=(cR 0 Z sQ))
 obtain rfl:i=l.length:=by omega
 rw [List.take_length]
 refine tJ 0 0 _ Z Z aG (rO 6 Z ?_)
 refine zW Z Z Z (F9 _ _ _ _) (cC 0 Z) (fun u20 D20 hv20=>?_)
 obtain⟨b20,rfl,rfl⟩:=hv20
 exact oR 3 Z (zD Tryz.results156 Z ⟨rfl,b20,rfl,rfl⟩ nS (cC 0 Z))
end Go.Jw

namespace Go.Jw
open Go Go.RowKit Go.Proofs
def DA.gr(mb:Nat)(G:Gr):DA:=⟨fun w ok=> ∀ g∈G,BlkP w ok g.1 g.2.1 124∧ ∃m,CellsP w ok m g.2.1 g.2.2,fun h1 h2 h g hg=>⟨(h g hg).1.mono h1 h2,(h g hg).2.imp fun m hm=>CellsP.mono h1 h2 hm⟩⟩
section rules
variable {P:Program} {n:Nat} {F:List Nat} {c:Ctx F} {ops:Array Oper} {d:Nat} {T:TypeId} {l:List Oper} {k:List KI} {Q:Post} {e:cp} {M:List HA} {D:List DA}
theorem vE{α:Type}(pr:α→Prop)(DD:α→List DA)(h: ∀ (w:World) (ok:Nat→Prop),(∀ d∈D,d.p w ok)→ ∃x,pr x∧ ∀ d∈DD x,d.p w ok)(next: ∀ x,pr x→Run P n c k Q e M (DD x++D)):Run P n c k Q e M D:=by
 intro a w hf
 obtain⟨x,hx,hd⟩:=h w _ hf.dat
 exact next x hx a w (hf.world (hf.toFitsW.data fun d hd'=>(List.mem_append.1 hd').elim (hd d) (hf.dat d)))
theorem d5{w:World}{ok:Nat→Prop}{d:DA}(h:d.p w ok): ∀ x∈[d],x.p w ok:=fun x hx=>by rw [List.mem_singleton.1 hx];exact h
theorem eD{w:World}{ok:Nat→Prop}{d:DA}{l:List DA}(h:d.p w ok)(hl: ∀ x∈l,x.p w ok): ∀ x∈d::l,x.p w ok:=fun x hx=>(List.mem_cons.1 hx).elim (fun e=>e▸h) (hl x)
theorem vy(j:Nat){u:Value}{s:ByteArray}(hj:D[j]? =some (.fv u (.tyS s)))(next: ∀ b p,u=cD b→s.size≤maxLen→Run P n c k Q e M (.dblk b [.pointer (some p), .pointer none] 196:: .pts p (.string s)::D)):Run P n c k Q e M D:=
 vE (α:=Nat×Addr) (fun x=>u=cD x.1∧s.size≤maxLen) (fun x=>[.dblk x.1 [.pointer (some x.2), .pointer none] 196, .pts x.2 (.string s)]) (fun w ok h=>by
  obtain⟨b,p,h1,h2,h3,h4⟩:FvP w ok (.tyS s) u:=dget h j hj
  exact⟨(b,p),⟨h1,h2⟩,eD h3 (d5 h4)⟩) (fun x hx=>next x.1 x.2 hx.1 hx.2)
theorem vz(j:Nat){u:Value}{l:List ByteArray}(hj:D[j]? =some (.fv u (.tyL l)))(next: ∀ b p sl,u=cD b→Run P n c k Q e M (.dblk b [.pointer none, .pointer (some p)] 196:: .pts p sl:: .strs sl l::D)):Run P n c k Q e M D:=
 vE (α:=Nat×Addr×Value) (fun x=>u=cD x.1) (fun x=>[.dblk x.1 [.pointer none, .pointer (some x.2.1)] 196, .pts x.2.1 x.2.2, .strs x.2.2 l]) (fun w ok h=>by
  obtain⟨b,p,sl,h1,h3,h4,h5⟩:FvP w ok (.tyL l) u:=dget h j hj
  exact⟨(b,p,sl),h1,eD h3 (eD h4 (d5 h5))⟩) (fun x hx=>next x.1 x.2.1 x.2.2 hx)
theorem GB(j:Nat){mb b:Nat}{cs:List Value}{f:Flds}{G:Gr}(hj:D[j]? =some (.gr mb G))(hg:(b,cs,f)∈G)(next: ∀ m:Nat,cs.length=37→Run P n c k Q e M (.dblk b cs 124:: .flds m cs f::D)):Run P n c k Q e M D:=
 vE (α:=Nat) (fun _=>cs.length=37) (fun m=>[.dblk b cs 124, .flds m cs f]) (fun w ok h=>by
  obtain⟨h1,m,h2⟩:=(dget h j hj:(DA.gr mb G).p w ok) _ hg
  exact⟨m,h2.1,eD h1 (d5 h2)⟩) (fun m hl=>next m hl)
end rules
end Go.Jw

namespace Go.Jw
open Go Go.RowKit Go.Proofs
set_option maxRecDepth 8000
theorem fy:Tryz.prog.underlying 63=some (.pointer (Tryz.prog.pointee 63)):=by
 have h:=Tryz.underlying63
 unfold Program.pointee
 rw [h]
theorem iD:Tryz.prog.underlying 112=some (.pointer (Tryz.prog.pointee 112)):=by
 have h:=Tryz.underlying112
 unfold Program.pointee
 rw [h]
theorem nH:Tryz.prog.underlying 113=some (.pointer (Tryz.prog.pointee 113)):=by
 have h:=Tryz.underlying113
 unfold Program.pointee
 rw [h]
theorem eH:Tryz.prog.underlying 114=some (.pointer (Tryz.prog.pointee 114)):=by
 have h:=Tryz.underlying114
 unfold Program.pointee
 rw [h]
theorem lw:Tryz.prog.underlying 115=some (.pointer (Tryz.prog.pointee 115)):=by
 have h:=Tryz.underlying115
 unfold Program.pointee
 rw [h]
theorem BN:Tryz.prog.underlying 116=some (.pointer (Tryz.prog.pointee 116)):=by
 have h:=Tryz.underlying116
 unfold Program.pointee
 rw [h]
theorem p7:Tryz.prog.underlying 117=some (.pointer (Tryz.prog.pointee 117)):=by
 have h:=Tryz.underlying117
 unfold Program.pointee
 rw [h]
theorem jM:Tryz.prog.underlying 118=some (.pointer (Tryz.prog.pointee 118)):=by
 have h:=Tryz.underlying118
 unfold Program.pointee
 rw [h]
theorem BO:Tryz.prog.underlying 119=some (.pointer (Tryz.prog.pointee 119)):=by
 have h:=Tryz.underlying119
 unfold Program.pointee
 rw [h]
theorem FH:Tryz.prog.underlying 120=some (.pointer (Tryz.prog.pointee 120)):=by
 have h:=Tryz.underlying120
 unfold Program.pointee
 rw [h]
theorem p8:Tryz.prog.underlying 121=some (.pointer (Tryz.prog.pointee 121)):=by
 have h:=Tryz.underlying121
 unfold Program.pointee
 rw [h]
theorem fm:Tryz.prog.underlying 122=some (.pointer (Tryz.prog.pointee 122)):=by
 have h:=Tryz.underlying122
 unfold Program.pointee
 rw [h]
theorem IT:Tryz.prog.underlying 211=some (.pointer (Tryz.prog.pointee 211)):=by
 have h:=Tryz.underlying211
 unfold Program.pointee
 rw [h]
theorem qa:Tryz.prog.underlying 102=some (.pointer (Tryz.prog.pointee 102)):=by
 have h:=Tryz.underlying102
 unfold Program.pointee
 rw [h]
theorem IU(u:Value)(s:ByteArray):CtR Tryz.prog 154 #[u] [.fv u (.tyS s)] (RN (cK dF s)):=by
 refine Ct.of_run (args:=[u]) Tryz.func154 aF Z Tryz.ntmps154 Z (fun c=>?_)
 refine vy 0 Z (fun b p hu hs=>?_)
 subst hu
 refine rO 12 Z (zC fL Z Z ?_)
 refine zA (zH 0 cy Z Z Z Z ?_)
 refine zA (yF dN Z Z ?_)
 refine oO 9 Z (zC fL Z Z ?_)
 refine zA (zH 0 cy Z Z Z Z ?_)
 refine oO 3 Z (yM 1 cv Z Z Z ?_)
 refine zA (zW Z Z Z (yj s hs) cF (fun u14 D14 hv14=>?_))
 obtain⟨b14,rfl,rfl⟩:=hv14
 exact oK 3 [2] Z Z (zD Tryz.results154 Z ⟨rfl,b14,rfl,rfl⟩ nS (cC 0 Z))
theorem IV(u:Value)(l:List ByteArray)(hl:l.length≤1000000):CtR Tryz.prog 154 #[u] [.fv u (.tyL l)] (RN (cg 2 (l.map (cK dF)))):=by
 refine Ct.of_run (args:=[u]) Tryz.func154 aF Z Tryz.ntmps154 Z (fun c=>?_)
 refine vz 0 Z (fun b p sl hu=>?_)
 subst hu
 refine rO 12 Z (zC fL Z Z ?_)
 refine zA (zH 0 cy Z Z Z Z ?_)
 refine zA (yF dN Z Z ?_)
 refine oO 9 Z (zC i7 Z Z ?_)
 refine zA (zH 0 ig Z Z Z Z ?_)
 refine zA (yF p7 Z Z ?_)
 refine oK 1 [19,0] Z Z (rO 8 Z ?_)
 refine zC i7 Z Z (zA ?_)
 refine zH 0 ig Z Z Z Z (oO 3 Z ?_)
 refine yM 1 dH Z Z Z (zA ?_)
 refine zW Z Z Z (GA _ l hl) (cC 2 Z) (fun u26 D26 hv26=>?_)
 obtain⟨b26,rfl,rfl⟩:=hv26
 exact oK 3 [2] Z Z (zD Tryz.results154 Z ⟨rfl,b26,rfl,rfl⟩ nS (cC 0 Z))
end Go.Jw

namespace Go.Jw
open Go Go.RowKit Go.Proofs
section rules
variable {P:Program} {n:Nat} {F:List Nat} {c:Ctx F} {ops:Array Oper} {d:Nat} {T:TypeId} {l:List Oper} {k:List KI} {Q:Post} {e:cp} {M:List HA} {D:List DA}
theorem en(j:Nat){u:Value}{s:ByteArray}(hj:D[j]? =some (.fv u (.text s)))(next: ∀ p,u= .pointer (some p)→s.size≤maxLen→Run P n c k Q e M (.pts p (.string s)::D)):Run P n c k Q e M D:=
 vE (α:=Addr) (fun p=>u= .pointer (some p)∧s.size≤maxLen) (fun p=>[.pts p (.string s)]) (fun w ok h=>by
  obtain⟨p,h1,h2,h3⟩:FvP w ok (.text s) u:=dget h j hj
  exact⟨p,⟨h1,h2⟩,d5 h3⟩) (fun x hx=>next x hx.1 hx.2)
theorem BP(j:Nat){u:Value}{x:Bool}(hj:D[j]? =some (.fv u (.bool x)))(next: ∀ p,u= .pointer (some p)→Run P n c k Q e M (.pts p (.bool x)::D)):Run P n c k Q e M D:=
 vE (α:=Addr) (fun p=>u= .pointer (some p)) (fun p=>[.pts p (.bool x)]) (fun w ok h=>by
  obtain⟨p,h1,h3⟩:FvP w ok (.bool x) u:=dget h j hj
  exact⟨p,h1,d5 h3⟩) (fun x hx=>next x hx)
theorem Df(j:Nat){u:Value}{x:Int}(hj:D[j]? =some (.fv u (.int x)))(next: ∀ p,u= .pointer (some p)→Run P n c k Q e M (.pts p (.int .i64 x)::D)):Run P n c k Q e M D:=
 vE (α:=Addr) (fun p=>u= .pointer (some p)) (fun p=>[.pts p (.int .i64 x)]) (fun w ok h=>by
  obtain⟨p,h1,h3⟩:FvP w ok (.int x) u:=dget h j hj
  exact⟨p,h1,d5 h3⟩) (fun x hx=>next x hx)
theorem Dg(j:Nat){u:Value}{q:Nat}(hj:D[j]? =some (.fv u (.sbS q)))(next: ∀ b,u=cD b→Run P n c k Q e M (.dblk b [cD q, .pointer none] 185::D)):Run P n c k Q e M D:=
 vE (α:=Nat) (fun b=>u=cD b) (fun b=>[.dblk b [cD q, .pointer none] 185]) (fun w ok h=>by
  obtain⟨b,h1,h3⟩:FvP w ok (.sbS q) u:=dget h j hj
  exact⟨b,h1,d5 h3⟩) (fun x hx=>next x hx)
theorem Dh(j:Nat){u:Value}{q:Nat}(hj:D[j]? =some (.fv u (.itS q)))(next: ∀ b,u=cD b→Run P n c k Q e M (.dblk b [cD q, .pointer none] 187::D)):Run P n c k Q e M D:=
 vE (α:=Nat) (fun b=>u=cD b) (fun b=>[.dblk b [cD q, .pointer none] 187]) (fun w ok h=>by
  obtain⟨b,h1,h3⟩:FvP w ok (.itS q) u:=dget h j hj
  exact⟨b,h1,d5 h3⟩) (fun x hx=>next x hx)
theorem Di(j:Nat){u:Value}{x:Bool}(hj:D[j]? =some (.fv u (.sbB x)))(next: ∀ b p,u=cD b→Run P n c k Q e M (.dblk b [.pointer none, .pointer (some p)] 185:: .pts p (.bool x)::D)):Run P n c k Q e M D:=
 vE (α:=Nat×Addr) (fun y=>u=cD y.1) (fun y=>[.dblk y.1 [.pointer none, .pointer (some y.2)] 185, .pts y.2 (.bool x)]) (fun w ok h=>by
  obtain⟨b,p,h1,h3,h4⟩:FvP w ok (.sbB x) u:=dget h j hj
  exact⟨(b,p),h1,eD h3 (d5 h4)⟩) (fun x hx=>next x.1 x.2 hx)
theorem Dj(j:Nat){u:Value}{bs:List Nat}(hj:D[j]? =some (.fv u (.itL bs)))(next: ∀ b p sl,u=cD b→Run P n c k Q e M (.dblk b [.pointer none, .pointer (some p)] 187:: .pts p sl:: .rowp sl bs::D)):Run P n c k Q e M D:=
 vE (α:=Nat×Addr×Value) (fun x=>u=cD x.1) (fun x=>[.dblk x.1 [.pointer none, .pointer (some x.2.1)] 187, .pts x.2.1 x.2.2, .rowp x.2.2 bs]) (fun w ok h=>by
  obtain⟨b,p,sl,h1,h3,h4,h5⟩:FvP w ok (.itL bs) u:=dget h j hj
  exact⟨(b,p,sl),h1,eD h3 (eD h4 (d5 h5))⟩) (fun x hx=>next x.1 x.2.1 x.2.2 hx)
theorem jN(j:Nat){u:Value}{bs:List Nat}(hj:D[j]? =some (.fv u (.list bs)))(next: ∀ p sl,u= .pointer (some p)→Run P n c k Q e M (.pts p sl:: .rowp sl bs::D)):Run P n c k Q e M D:=
 vE (α:=Addr×Value) (fun x=>u= .pointer (some x.1)) (fun x=>[.pts x.1 x.2, .rowp x.2 bs]) (fun w ok h=>by
  obtain⟨p,sl,h1,h4,h5⟩:FvP w ok (.list bs) u:=dget h j hj
  exact⟨(p,sl),h1,eD h4 (d5 h5)⟩) (fun x hx=>next x.1 x.2 hx)
theorem yl(j:Nat){u:Value}{bs:List ByteArray}(hj:D[j]? =some (.fv u (.texts bs)))(next: ∀ p sl,u= .pointer (some p)→Run P n c k Q e M (.pts p sl:: .strs sl bs::D)):Run P n c k Q e M D:=
 vE (α:=Addr×Value) (fun x=>u= .pointer (some x.1)) (fun x=>[.pts x.1 x.2, .strs x.2 bs]) (fun w ok h=>by
  obtain⟨p,sl,h1,h4,h5⟩:FvP w ok (.texts bs) u:=dget h j hj
  exact⟨(p,sl),h1,eD h4 (d5 h5)⟩) (fun x hx=>next x.1 x.2 hx)
theorem sT(j:Nat){u:Value}{bs:List (ByteArray×Nat)}(hj:D[j]? =some (.fv u (.named bs)))(next: ∀ p sl nbs,u= .pointer (some p)→Run P n c k Q e M (.pts p sl:: .rowp sl nbs:: .nam nbs bs::D)):Run P n c k Q e M D:=
 vE (α:=Addr×Value×List Nat) (fun x=>u= .pointer (some x.1)) (fun x=>[.pts x.1 x.2.1, .rowp x.2.1 x.2.2, .nam x.2.2 bs]) (fun w ok h=>by
  obtain⟨p,sl,nbs,h1,h4,h5,h6,h7⟩:FvP w ok (.named bs) u:=dget h j hj
  exact⟨(p,sl,nbs),h1,eD h4 (eD h5 (d5 ⟨h6,h7⟩))⟩) (fun x hx=>next x.1 x.2.1 x.2.2 hx)
theorem qc(j:Nat){u:Value}{bs:List (ByteArray×List ByteArray)}(hj:D[j]? =some (.fv u (.deps bs)))(next: ∀ p sl nbs,u= .pointer (some p)→Run P n c k Q e M (.pts p sl:: .rowp sl nbs:: .dep nbs bs::D)):Run P n c k Q e M D:=
 vE (α:=Addr×Value×List Nat) (fun x=>u= .pointer (some x.1)) (fun x=>[.pts x.1 x.2.1, .rowp x.2.1 x.2.2, .dep x.2.2 bs]) (fun w ok h=>by
  obtain⟨p,sl,nbs,h1,h4,h5,h6,h7⟩:FvP w ok (.deps bs) u:=dget h j hj
  exact⟨(p,sl,nbs),h1,eD h4 (eD h5 (d5 ⟨h6,h7⟩))⟩) (fun x hx=>next x.1 x.2.1 x.2.2 hx)
end rules
def BQ:Nat→ByteArray
  |0=>⟨#[46,48,48,48,48,48,48]⟩
  |1=>⟨#[46,50,53,48,48,48,48]⟩
  |2=>⟨#[46,53,48,48,48,48,48]⟩
  |_=>⟨#[46,55,53,48,48,48,48]⟩
def dU(n:Int):ByteArray:=(if decide (n<0)then⟨#[45]⟩else⟨#[]⟩)++dS ((n.natAbs/4:Nat):Int)++BQ (n.natAbs%4)
def ItemR(R:V→Y→Prop)(sh:Int)(x:V)(z:Y):Prop:=
 (sh=1∧z=cK dF x.text)∨(sh=2∧z=cK dp (pk (decide (x.num=1))))∨(sh=3∧x.kind=2∧z=cK iK (dS x.num))∨(sh=3∧x.kind=6∧z=cK db (dU x.num))∨
 (sh=4∧z=cK iK (dS x.num))∨(sh=5∧R x z)∨(sh=6∧x.kind=1∧z=cK dp (pk (decide (x.num=1))))∨(sh=6∧x.kind=5∧R x z)∨
 (sh=7∧x.kind=5∧R x z)∨(sh=7∧x.kind=4∧ ∃zs,z=cg 2 zs∧All2 (fun z x=>R x z) zs x.items)∨(sh=8∧z=cg 2 ((x.items.map V.text).map (cK dF)))∨
 (sh=9∧ ∃(ps:List (ByteArray×V)) (L:List (ByteArray×Y)),z=cg 4 (L.flatMap du)∧ps.Perm (x.keys.zip x.items)∧All2 (fun q p=>q.1=p.1∧R p.2 q.2) L ps)∨
 (sh=10∧ ∃ps:List (ByteArray×V),ps.Perm (x.keys.zip x.items)∧z=cg 4 ((ps.map fun p=>(p.1,cg 2 ((p.2.items.map V.text).map (cK dF)))).flatMap du))∨
 (sh=11∧z=cg 2 ((x.items.map BF).map yb))∨(sh=12∧x.kind=3∧z=cK dF x.text)∨(sh=12∧x.kind=4∧z=cg 2 ((x.items.map V.text).map (cK dF)))∨
 (sh=13∧ ∃zs,z=cg 2 zs∧All2 (fun z x=>R x z) zs x.items)
theorem ItemR.mono{R R':V→Y→Prop}{sh:Int}{x:V}{z:Y}(h: ∀ x' z',SizeOf.sizeOf x'≤SizeOf.sizeOf x→R x' z'→R' x' z')(hi:ItemR R sh x z):ItemR R' sh x z:=by
 have hit: ∀ x' z',x'∈x.items→R x' z'→R' x' z':=fun x' z' hx=>h x' z' (Nat.le_of_lt (yU hx))
 unfold ItemR at hi⊢
 rcases hi with h1|h1|h1|h1|h1|h1|h1|h1|h1|h1|h1|h1|h1|h1|h1|h1|h1
 ·exact .inl h1
 ·exact .inr (.inl h1)
 ·exact .inr (.inr (.inl h1))
 ·exact .inr (.inr (.inr (.inl h1)))
 ·exact .inr (.inr (.inr (.inr (.inl h1))))
 ·exact .inr (.inr (.inr (.inr (.inr (.inl ⟨h1.1,h _ _ (Nat.le_refl _) h1.2⟩)))))
 ·exact .inr (.inr (.inr (.inr (.inr (.inr (.inl h1))))))
 ·exact .inr (.inr (.inr (.inr (.inr (.inr (.inr (.inl ⟨h1.1,h1.2.1,h _ _ (Nat.le_refl _) h1.2.2⟩)))))))
 ·exact .inr (.inr (.inr (.inr (.inr (.inr (.inr (.inr (.inl ⟨h1.1,h1.2.1,h _ _ (Nat.le_refl _) h1.2.2⟩))))))))
 ·obtain⟨a,b,zs,e,hz⟩:=h1
  exact .inr (.inr (.inr (.inr (.inr (.inr (.inr (.inr (.inr (.inl ⟨a,b,zs,e,hz.mono fun z x hx hr=>hit x z hx hr⟩)))))))))
 ·exact .inr (.inr (.inr (.inr (.inr (.inr (.inr (.inr (.inr (.inr (.inl h1))))))))))
 ·obtain⟨a,ps,L,e,hp,hz⟩:=h1
  exact .inr (.inr (.inr (.inr (.inr (.inr (.inr (.inr (.inr (.inr (.inr (.inl ⟨a,ps,L,e,hp,hz.mono fun q p hx hr=>⟨hr.1,hit p.2 q.2 (List.of_mem_zip (hp.mem_iff.1 hx)).2 hr.2⟩⟩)))))))))))
 ·exact .inr (.inr (.inr (.inr (.inr (.inr (.inr (.inr (.inr (.inr (.inr (.inr (.inl h1))))))))))))
 ·exact .inr (.inr (.inr (.inr (.inr (.inr (.inr (.inr (.inr (.inr (.inr (.inr (.inr (.inl h1)))))))))))))
 ·exact .inr (.inr (.inr (.inr (.inr (.inr (.inr (.inr (.inr (.inr (.inr (.inr (.inr (.inr (.inl h1))))))))))))))
 ·exact .inr (.inr (.inr (.inr (.inr (.inr (.inr (.inr (.inr (.inr (.inr (.inr (.inr (.inr (.inr (.inl h1)))))))))))))))
 ·obtain⟨a,zs,e,hz⟩:=h1
  exact .inr (.inr (.inr (.inr (.inr (.inr (.inr (.inr (.inr (.inr (.inr (.inr (.inr (.inr (.inr (.inr ⟨a,zs,e,hz.mono fun z x hx hr=>hit x z hx hr⟩)))))))))))))))
instance:Inhabited (Y→Prop):=⟨fun _=>True⟩
def OutB(r:V→Y→Prop)(v:V)(y:Y):Prop:= ∃L:List (ByteArray×Y),y=cg 4 (L.flatMap du)∧(L.map fun p=>cE p.1).Nodup∧(∀ p∈L,cE p.1≠0∧cE p.1≠35∧ ∃x,getV v p.1=some x∧ItemR r (cU (cE p.1)) x p.2)∧
 ∀ key x,getV v key=some x→cE key≠0→cE key≠35→ ∃p∈L,p.1=key
theorem OutB.mono{r r':V→Y→Prop}{v:V}{y:Y}(h: ∀ x z,SizeOf.sizeOf x<SizeOf.sizeOf v→r x z→r' x z)(ho:OutB r v y):OutB r' v y:=by
 obtain⟨L,h1,h2,h3,h4⟩:=ho
 refine⟨L,h1,h2,fun p hp=>?_,h4⟩
 obtain⟨a,b,x,hx,hi⟩:=h3 p hp
 exact⟨a,b,x,hx,hi.mono fun x' z' hs=>h x' z' (Nat.lt_of_le_of_lt hs (yU (uG hx)))⟩
noncomputable def dl:V→Y→Prop:=V.fix (α:=Y→Prop) (fun v r y=>OutB r v y)
theorem qd(v:V)(y:Y):dl v y↔OutB dl v y:=by
 have:=V.fix_eq (α:=Y→Prop) (G:=fun v r y=>OutB r v y) (fun t g g' h=>by
  funext y
  apply propext
  exact⟨OutB.mono fun x z hx hr=>by rw [←h x hx];exact hr,OutB.mono fun x z hx hr=>by rw [h x hx];exact hr⟩) v
 show V.fix (α:=Y→Prop) _ v y↔_
 rw [this]
 rfl
def mf(ft:DA)(mb:Nat)(G:Gr)(v:V):Prop:= ∀ b,Unf G v b→CtR Tryz.prog 105 #[cD b] [.gr mb G, .tab,ft] (fun u D'=> ∃y,dl v y∧RN y u D')
def Dk(ft:DA):Prop:= ∀ n:Int, -1000000000<n→n<1000000000→n.tmod 4≠0→CtR Tryz.prog 188 #[.float .f64 (ji n)] [ft] (RN (cK db (dU n)))
def DA.ev(e:EV)(u v:Value):DA:=⟨fun w ok=>EvP w ok e u v,fun h1 h2 h=>EvP.mono h1 h2 h⟩
section rules
variable {P:Program} {n:Nat} {F:List Nat} {c:Ctx F} {ops:Array Oper} {d:Nat} {T:TypeId} {l:List Oper} {k:List KI} {Q:Post} {e:cp} {M:List HA} {D:List DA}
theorem vS(j:Nat){v:Value}{bs:List Nat}(hj:D[j]? =some (.rowp v bs))(next: ∀ A c',v= .slice A bs.length c'→bs.length≤c'→c'≤maxLen→Run P n c k Q e M D):Run P n c k Q e M D:=by
 intro a w hf
 obtain⟨A,c',h1,h2,h3,_⟩:RowPtrs w (c.now M w) v bs:=hf.toFitsW.dt hj
 exact next A c' h1 h2 h3 a w hf
theorem wO(j:Nat){x y:Operand}{A:Option Addr}{m cap i:Nat}{kd:IntKind}{S E sz by_:Nat}{bs:List Nat}(hS:cM P S E sz by_)(hd:Nat.blt d n=true)(hx:ev e x=some (.slice A m cap))(hy:ev e y=some (.int kd (i:Nat)))(hj:D[j]? =some (.rowp (.slice A m cap) bs))(hi:i<m)
  (next:bu P n c ops l k Q ((d, .pointer (some (At A (i*sz))))::e) M D):b0 P n c ops (some d) (.indexAddr S x y) T l k Q e M D:=by
 intro a w hf
 obtain⟨A',c',hv,_,_,hit⟩:RowPtrs w (c.now M w) (.slice A m cap) bs:=hf.toFitsW.dt hj
 injection hv with hA hm
 subst hA
 subst hm
 obtain⟨a',ha,_⟩:=hit i bs[i] (List.getElem?_eq_getElem hi)
 subst ha
 exact wF (T:=T) hS hd hx hy hi next a w hf
theorem vJ{w:World}(h:FitsW c M D w){j i b:Nat}{A:Option Addr}{m cap:Nat}{bs:List Nat}(hj:D[j]? =some (.rowp (.slice A m cap) bs))(hb:bs[i]? =some b):w.cell? (At A (i*1))=some (cD b):=by
 obtain⟨A',c',hv,_,_,hit⟩:RowPtrs w (c.now M w) (.slice A m cap) bs:=h.dt hj
 injection hv with hA hm
 subst hA
 obtain⟨a,ha,_,hc⟩:=hit i b hb
 subst ha
 rw [Nat.mul_one]
 exact hc
theorem pN(j i:Nat){nbs:List Nat}{l':List (ByteArray×Nat)}{q:ByteArray×Nat}{nb:Nat}(hj:D[j]? =some (.nam nbs l'))(hq:l'[i]? =some q)(hn:nbs[i]? =some nb)(next:q.1.size≤maxLen→bu P n c ops l k Q e M (.dblk nb [.string q.1,cD q.2] 179::D)):bu P n c ops l k Q e M D:=
 o0 (fun w ok h=>((dget h j hj:(DA.nam nbs l').p w ok).2 i q nb hq hn).1) fun h1=>jI _ (fun w ok h=>((dget h j hj:(DA.nam nbs l').p w ok).2 i q nb hq hn).2) (next h1)
theorem tL(j:Nat){nbs:List Nat}{l':List (ByteArray×Nat)}(hj:D[j]? =some (.nam nbs l'))(next:nbs.length=l'.length→Run P n c k Q e M D):Run P n c k Q e M D:=
 uQ (fun w ok h=>(dget h j hj:(DA.nam nbs l').p w ok).1) next
theorem lx(j:Nat){nbs:List Nat}{l':List (ByteArray×List ByteArray)}(hj:D[j]? =some (.dep nbs l'))(next:nbs.length=l'.length→Run P n c k Q e M D):Run P n c k Q e M D:=
 uQ (fun w ok h=>(dget h j hj:(DA.dep nbs l').p w ok).1) next
theorem v8{α:Type}(pr:α→Prop)(DD:α→List DA)(h: ∀ (w:World) (ok:Nat→Prop),(∀ d∈D,d.p w ok)→ ∃x,pr x∧ ∀ d∈DD x,d.p w ok)(next: ∀ x,pr x→bu P n c ops l k Q e M (DD x++D)):bu P n c ops l k Q e M D:=by
 intro a w hf
 obtain⟨x,hx,hd⟩:=h w _ hf.dat
 exact next x hx a w (hf.world (hf.toFitsW.data fun d hd'=>(List.mem_append.1 hd').elim (hd d) (hf.dat d)))
theorem wa(j i:Nat){nbs:List Nat}{l':List (ByteArray×List ByteArray)}{q:ByteArray×List ByteArray}{nb:Nat}(hj:D[j]? =some (.dep nbs l'))(hq:l'[i]? =some q)(hn:nbs[i]? =some nb)
  (next: ∀ tb p2 sl2,q.1.size≤maxLen→bu P n c ops l k Q e M (.dblk nb [.string q.1,cD tb] 192:: .dblk tb [.pointer none, .pointer (some p2)] 194:: .pts p2 sl2:: .strs sl2 q.2::D)):bu P n c ops l k Q e M D:=
 v8 (α:=Nat×Addr×Value) (fun _=>q.1.size≤maxLen) (fun x=>[.dblk nb [.string q.1,cD x.1] 192, .dblk x.1 [.pointer none, .pointer (some x.2.1)] 194, .pts x.2.1 x.2.2, .strs x.2.2 q.2]) (fun w ok h=>by
  obtain⟨tb,p2,sl2,h1,h2,h3,h4,h5⟩:=(dget h j hj:(DA.dep nbs l').p w ok).2 i q nb hq hn
  exact⟨(tb,p2,sl2),h1,eD h2 (eD h3 (eD h4 (d5 h5)))⟩) (fun x hx=>next x.1 x.2.1 x.2.2 hx)
theorem BR(j:Nat){u:Value}{x:Int}(hj:D[j]? =some (.fv u (.numI x)))(next: ∀ b p,u=cD b→Run P n c k Q e M (.dblk b [.pointer (some p), .pointer none] 213:: .pts p (.int .i64 x)::D)):Run P n c k Q e M D:=
 vE (α:=Nat×Addr) (fun y=>u=cD y.1) (fun y=>[.dblk y.1 [.pointer (some y.2), .pointer none] 213, .pts y.2 (.int .i64 x)]) (fun w ok h=>by
  obtain⟨b,p,h1,h3,h4⟩:FvP w ok (.numI x) u:=dget h j hj
  exact⟨(b,p),h1,eD h3 (d5 h4)⟩) (fun x hx=>next x.1 x.2 hx)
theorem BS(j:Nat){u:Value}{x:Nat}(hj:D[j]? =some (.fv u (.numF x)))(next: ∀ b p,u=cD b→Run P n c k Q e M (.dblk b [.pointer none, .pointer (some p)] 213:: .pts p (.float .f64 x)::D)):Run P n c k Q e M D:=
 vE (α:=Nat×Addr) (fun y=>u=cD y.1) (fun y=>[.dblk y.1 [.pointer none, .pointer (some y.2)] 213, .pts y.2 (.float .f64 x)]) (fun w ok h=>by
  obtain⟨b,p,h1,h3,h4⟩:FvP w ok (.numF x) u:=dget h j hj
  exact⟨(b,p),h1,eD h3 (d5 h4)⟩) (fun x hx=>next x.1 x.2 hx)
theorem ym(j:Nat){u:Value}{es:List EV}(hj:D[j]? =some (.fv u (.enums es)))(next: ∀ p A c',u= .pointer (some p)→es.length≤c'→c'≤maxLen→Run P n c k Q e M (.pts p (.slice A es.length c'):: .evrow A c' es::D)):Run P n c k Q e M D:=
 vE (α:=Addr×Option Addr×Nat) (fun x=>u= .pointer (some x.1)∧es.length≤x.2.2∧x.2.2≤maxLen) (fun x=>[.pts x.1 (.slice x.2.1 es.length x.2.2), .evrow x.2.1 x.2.2 es]) (fun w ok h=>by
  obtain⟨p,A,c',h1,h2,h3,h4,h5⟩:FvP w ok (.enums es) u:=dget h j hj
  exact⟨(p,A,c'),⟨h1,h3,h4⟩,eD h2 (d5 ⟨h3,h4,h5⟩)⟩) (fun x hx=>next x.1 x.2.1 x.2.2 hx.1 hx.2.1 hx.2.2)
theorem GC(j i:Nat){A:Option Addr}{c':Nat}{es:List EV}{x:EV}(hj:D[j]? =some (.evrow A c' es))(hi:es[i]? =some x)(next: ∀ q q',bu P n c ops l k Q e M (.cells A (i*2) [.pointer q, .pointer q']:: .ev x (.pointer q) (.pointer q')::D)):bu P n c ops l k Q e M D:=
  v8 (α:=Option Addr×Option Addr) (fun _=>True) (fun y=>[.cells A (i*2) [.pointer y.1, .pointer y.2], .ev x (.pointer y.1) (.pointer y.2)]) (fun w ok h=>by
    obtain⟨a,u,u',h1,h2,h3,h4,h5⟩:=(dget h j hj:(DA.evrow A c' es).p w ok).2.2 i x hi
    have hq: ∃q q',u= .pointer q∧u'= .pointer q':=by
      cases x with
      |str s=>obtain⟨p,a,b,_⟩:=h5;exact⟨_,_,a,b⟩
      |bool s=>obtain⟨p,a,b,_⟩:=h5;exact⟨_,_,a,b⟩
    obtain⟨q,q',rfl,rfl⟩:=hq
    refine⟨(q,q'),trivial,eD ⟨a,h1,h2,fun j u hj=>?_⟩ (d5 h5)⟩
    match j,hj with
    |0,hj=>cases hj;exact h3
    |1,hj=>cases hj;exact h4
    |j+2,hj=>simp at hj) (fun x _=>next x.1 x.2)
theorem BT(j:Nat){x y:Operand}{A:Option Addr}{m cap c' i:Nat}{kd:IntKind}{S E sz by_:Nat}{es:List EV}(hS:cM P S E sz by_)(hd:Nat.blt d n=true)(hx:ev e x=some (.slice A m cap))(hy:ev e y=some (.int kd (i:Nat)))(hj:D[j]? =some (.evrow A c' es))(hi:i<m)(hm:m=es.length)
  (next:bu P n c ops l k Q ((d, .pointer (some (At A (i*sz))))::e) M D):b0 P n c ops (some d) (.indexAddr S x y) T l k Q e M D:=by
 intro a w hf
 have hit:=(hf.toFitsW.dt hj:(DA.evrow A c' es).p w _).2.2
 subst hm
 obtain⟨a',_,_,ha,_⟩:=hit i es[i] (List.getElem?_eq_getElem hi)
 subst ha
 exact wF (T:=T) hS hd hx hy hi next a w hf
theorem BU(j:Nat){x:Operand}{A:Option Addr}{o:Nat}{vs:List Value}(hT:f3 P T vs.length)(hd:Nat.blt d n=true)(hx:ev e x=some (.pointer (some (At A o))))(hj:D[j]? =some (.cells A o vs))
  (next:bu P n c ops l k Q ((d, .agg vs.toArray)::e) M D) {T':TypeId}:b0 P n c ops (some d) (.load T x) T' l k Q e M D:=
 iG hT hd hx (fun w h j u hj'=>by
  obtain⟨a,rfl,_,hc⟩:=h.dt hj
  have:=hc j u hj'
  simp only [At,Option.getD_some,add_add']
  exact this) next
theorem uC(i j q:Nat){xs:List Value}{L:List (ByteArray×Y)}{b nb:Nat}{key:ByteArray}{y:Y}(hi:D[i]? =some (.ptrs xs (L.flatMap du)))(hj:D[j]? =some (.node b (cK dF key)))(hq:D[q]? =some (.node nb y))
  (next:Run P n c k Q e M (.ptrs (xs++[cD b,cD nb]) ((L++[(key,y)]).flatMap du)::D)):Run P n c k Q e M D:=
 yO (.ptrs (xs++[cD b,cD nb]) ((L++[(key,y)]).flatMap du)) (fun w ok h=>by
  have h1:PtrsP w ok _ _:=PtrsP.snoc (dget h q hq) (PtrsP.snoc (dget h j hj) (dget h i hi))
  have e1:(L++[(key,y)]).flatMap du=L.flatMap du++[cK dF key]++[y]:=by simp [du]
  rw [show(DA.ptrs (xs++[cD b,cD nb]) ((L++[(key,y)]).flatMap du)).p w ok=PtrsP w ok (xs++[cD b,cD nb]) ((L++[(key,y)]).flatMap du)from rfl,e1]
  simpa using h1) next
end rules
theorem tm:Tryz.prog.info? 139=some Tryz.t139:=zR Tryz.typeInfo139
theorem BV:cJ Tryz.prog 139:=⟨_,Tryz.t139,Tryz.underlying139,aH,aI,tm,rfl⟩
theorem FI: ∃i,Tryz.prog.info? 139=some i∧i.size=1:=⟨_,tm,rfl⟩
theorem IW:fI Tryz.prog 139 (match Tryz.t139.zero with|some z=>z.cells.toList|none=>[]):=⟨Tryz.t139,_,tm,rfl,rfl⟩
theorem qe:cM Tryz.prog 139 3 1 8:=⟨Tryz.t3,_,Tryz.underlying139,zR Tryz.typeInfo3,rfl,rfl,rfl,rfl,by decide⟩
theorem df:cM Tryz.prog 142 5 1 1:=⟨Tryz.t5,_,Tryz.underlying142,zR Tryz.typeInfo5,rfl,rfl,rfl,rfl,by decide⟩
theorem GD:Tryz.prog.info? 189=some Tryz.t189:=zR Tryz.typeInfo189
theorem FJ:cJ Tryz.prog 189:=⟨_,Tryz.t189,Tryz.underlying189,aH,aI,GD,rfl⟩
theorem GE:Tryz.prog.info? 206=some Tryz.t206:=zR Tryz.typeInfo206
theorem IX:cJ Tryz.prog 206:=⟨_,Tryz.t206,Tryz.underlying206,aH,aI,GE,rfl⟩
theorem BW:Tryz.prog.info? 235=some Tryz.t235:=zR Tryz.typeInfo235
theorem kH:cJ Tryz.prog 235:=⟨_,Tryz.t235,Tryz.underlying235,aH,aI,BW,rfl⟩
theorem nI: ∃i,Tryz.prog.info? 235=some i∧i.size=1:=⟨_,BW,rfl⟩
theorem GF:Tryz.prog.info? 246=some Tryz.t246:=zR Tryz.typeInfo246
theorem IY:fI Tryz.prog 246 (match Tryz.t246.zero with|some z=>z.cells.toList|none=>[]):=⟨Tryz.t246,_,GF,rfl,rfl⟩
theorem Dl:bz Tryz.prog 305 0 0:=⟨_,_,Tryz.t206,0,Tryz.underlying305,rfl,rfl,zR Tryz.typeInfo206,rfl⟩
theorem GG:Tryz.prog.info? 349=some Tryz.t349:=zR Tryz.typeInfo349
theorem FK:cJ Tryz.prog 349:=⟨_,Tryz.t349,Tryz.underlying349,aH,aI,GG,rfl⟩
theorem FL:cM Tryz.prog 349 214 1 8:=⟨Tryz.t214,_,Tryz.underlying349,zR Tryz.typeInfo214,rfl,rfl,rfl,rfl,by decide⟩
theorem Dm(s1:ByteArray):Tryz.prog.built 228 [(0, .string s1)]=some #[.string s1]:=by kernel_rfl
end Go.Jw

namespace Go.Jw
open Go Go.RowKit Go.Proofs
set_option maxRecDepth 8000
theorem GH:sf Tryz.prog 152:=⟨_,Tryz.func152,by kernel_rfl,rfl⟩
theorem KX(s:ByteArray)(hs:s.size≤maxLen):dP Tryz.prog 152 #[.string s, .string ⟨#[35]⟩] [] (.string ⟨(Lib.trimSuffix s.data.toList [35]).toArray⟩):=
  gF GH fun w ok h=>(Tryz.strings_TrimSuffix s ⟨#[35]⟩ w (by unfold maxLen at hs;omega)).mono (by
    rintro e w' ⟨rfl,rfl⟩
    exact⟨rfl,Chg.refl _ _⟩)
theorem IZ(u:Value)(x:Bool):CtR Tryz.prog 157 #[u] [.fv u (.sbB x)] (RN (cK dp (pk x))):=by
 refine Ct.of_run (args:=[u]) Tryz.func157 aF Z Tryz.ntmps157 Z (fun c=>?_)
 refine Di 0 Z (fun b p hu=>?_)
 subst hu
 refine rO 12 Z (zC gf Z Z ?_)
 refine zA (zH 0 da Z Z Z Z ?_)
 refine zA (yF fy Z Z ?_)
 refine oO 9 Z (zC nr Z Z ?_)
 refine zA (zH 0 eM Z Z Z Z ?_)
 refine zA (yF iD Z Z ?_)
 refine oK 1 [17,0] Z Z (rO 8 Z ?_)
 refine zC nr Z Z (zA ?_)
 refine zH 0 eM Z Z Z Z (oO 3 Z ?_)
 refine yM 1 DH Z Z Z (zA ?_)
 refine zW Z Z Z (F8 x) cF (fun u24 D24 hv24=>?_)
 obtain⟨b24,rfl,rfl⟩:=hv24
 exact oK 3 [2] Z Z (zD Tryz.results157 Z ⟨rfl,b24,rfl,rfl⟩ nS (cC 0 Z))
theorem Ia(ft:DA)(mb:Nat)(G:Gr)(u:Value)(q:Nat)(v:V)(hU:Unf G v q)(H:mf ft mb G v):CtR Tryz.prog 157 #[u] [.fv u (.sbS q), .gr mb G, .tab,ft] (fun u D'=> ∃y,dl v y∧RN y u D'):=by
 refine Ct.of_run (args:=[u]) Tryz.func157 aF Z Tryz.ntmps157 Z (fun c=>?_)
 refine Dg 0 Z (fun b hu=>?_)
 subst hu
 refine rO 12 Z (zC gf Z Z ?_)
 refine zA (zH 0 da Z Z Z Z ?_)
 refine zA (yF fy Z Z ?_)
 refine oO 9 Z (zC gf Z Z ?_)
 refine zA (zH 0 da Z Z Z Z ?_)
 refine zA (zW Z Z Z (H q hU) (cR 2 Z (cn 3 4 Z Z)) (fun u12 D12 hv12=>?_))
 obtain⟨y12,hy12,b12,rfl,rfl⟩:=hv12
 exact oK 3 [2] Z Z (zD Tryz.results157 Z ⟨rfl,y12,hy12,b12,rfl,rfl⟩ nS (cC 0 Z))
theorem Ib(ft:DA)(mb:Nat)(G:Gr)(x:Value)(bs:List Nat)(xs:List V)(hl:xs.length≤400000)(hb:All2 (fun b z=>Unf G z b) bs xs)(H: ∀ z∈xs,mf ft mb G z):CtR Tryz.prog 163 #[x] [.rowp x bs, .gr mb G, .tab,ft] (fun u D'=> ∃zs,All2 (fun z x=>dl x z) zs xs∧RN (cg 2 zs) u D'):=by
 refine Ct.of_run (args:=[x]) Tryz.func163 aF Z Tryz.ntmps163 Z (fun c=>?_)
 refine vS 0 Z (fun A1 c1 hx hk1 hk2=>?_)
 subst hx
 unfold maxLen at hk2
 have hbl:=hb.1
 refine rO 8 Z (xW cW Z Z Z (fun b6=>?_))
 refine oO 9 Z (zX d3 Z Z ?_)
 refine oK 4 [9,3,8,7] Z Z (ec ?_)
 refine yR 2 (fun(⟨i,A,ca,xs1,zs⟩:Nat×Option Addr×Nat×List Value×List Y)=>i≤bs.length∧All2 (fun z x=>dl x z) zs (xs.take i)) (fun(⟨i,A,ca,xs1,zs⟩:Nat×Option Addr×Nat×List Value×List Y)=>[(9, .int .i64 ((i:Nat):Int)),(3, .slice A i ca)]) (fun(⟨i,A,ca,xs1,zs⟩:Nat×Option Addr×Nat×List Value×List Y)=>HA.row A i ca 102 1 xs1::[]) (fun(⟨i,A,ca,xs1,zs⟩:Nat×Option Addr×Nat×List Value×List Y)=> .ptrs xs1 zs:: .rowp (.slice A1 bs.length c1) bs:: .gr mb G:: .tab::ft::[]) (fun(⟨i,A,ca,xs1,zs⟩:Nat×Option Addr×Nat×List Value×List Y)=>bs.length - i) (0,_,_,[],[]) (⟨by show 0≤_;omega,All2.nil _⟩) (eC Z (eC Z (eN _))) Z Z ?_ (eC Z (eC Z (eN _)))
 intro ⟨i,A,ca,xs1,zs⟩ hI K hK
 change Run _ _ _ _ _ [(9,_),(3,_),(8,_),(7,_)] [_] [_,_,_,_,_]
 obtain⟨hi,hall⟩:=hI
 refine rO 3 Z (yK Z Z Z ?_)
 refine oR 2 Z (zK Z (fun h10=>?_) (fun h10=>?_))
 ·refine rO 6 Z (wO 1 d3 Z Z Z Z h10 ?_)
  have hlt:i<bs.length:=h10
  have hlx:i<xs.length:=by omega
  refine zA (yE da Z Z (fun _ h=>vJ h (j:=1) Z (List.getElem?_eq_getElem hlt)) ?_)
  refine oO 9 Z (zW Z Z Z (H _ (List.getElem_mem hlx) _ (hb.2 i _ _ (List.getElem?_eq_getElem hlt) (List.getElem?_eq_getElem hlx))) (cR 2 Z (cn 3 4 Z Z)) (fun u15 D15 hv15=>?_))
  obtain⟨y15,hy15,b15,rfl,rfl⟩:=hv15
  refine zA (zM cW Z Z Z Z Z (fun b16=>?_))
  refine zA ?_
  refine cO 1 0 cW (fun A17 c17=>?_)
  refine oK 3 [3,9,8,7] Z Z (rO 3 Z ?_)
  refine yD Z Z aC (oR 3 Z ?_)
  refine vT 1 0 Z Z ?_
  exact kQ (hK (i+1,_,_,_,zs++[y15]) (⟨by show i+1≤_;omega,ej hlx hall hy15⟩) av) (eC Z (eC Z (eC Z (eC Z (eN _))))) (hD:=(cR 0 Z sQ))
 obtain rfl:i=bs.length:=by omega
 rw [hb.1,List.take_length]at hall
 refine tJ 0 0 _ Z Z aG (rO 6 Z ?_)
 refine zW Z Z Z (F9 _ _ _ _) (cC 0 Z) (fun u20 D20 hv20=>?_)
 obtain⟨b20,rfl,rfl⟩:=hv20
 exact oR 3 Z (zD Tryz.results163 Z ⟨rfl,zs,hall,b20,rfl,rfl⟩ nS (cC 0 Z))
theorem Ic(ft:DA)(mb:Nat)(G:Gr)(u:Value)(q:Nat)(v:V)(hU:Unf G v q)(H:mf ft mb G v):CtR Tryz.prog 155 #[u] [.fv u (.itS q), .gr mb G, .tab,ft] (fun u D'=> ∃y,dl v y∧RN y u D'):=by
 refine Ct.of_run (args:=[u]) Tryz.func155 aF Z Tryz.ntmps155 Z (fun c=>?_)
 refine Dh 0 Z (fun b hu=>?_)
 subst hu
 refine rO 12 Z (zC i6 Z Z ?_)
 refine zA (zH 0 da Z Z Z Z ?_)
 refine zA (yF fy Z Z ?_)
 refine oO 9 Z (zC i6 Z Z ?_)
 refine zA (zH 0 da Z Z Z Z ?_)
 refine zA (zW Z Z Z (H q hU) (cR 2 Z (cn 3 4 Z Z)) (fun u12 D12 hv12=>?_))
 obtain⟨y12,hy12,b12,rfl,rfl⟩:=hv12
 exact oK 3 [2] Z Z (zD Tryz.results155 Z ⟨rfl,y12,hy12,b12,rfl,rfl⟩ nS (cC 0 Z))
theorem Id(ft:DA)(mb:Nat)(G:Gr)(u:Value)(bs:List Nat)(xs:List V)(hl:xs.length≤400000)(hb:All2 (fun b z=>Unf G z b) bs xs)(H: ∀ z∈xs,mf ft mb G z):CtR Tryz.prog 155 #[u] [.fv u (.itL bs), .gr mb G, .tab,ft] (fun u D'=> ∃zs,All2 (fun z x=>dl x z) zs xs∧RN (cg 2 zs) u D'):=by
 refine Ct.of_run (args:=[u]) Tryz.func155 aF Z Tryz.ntmps155 Z (fun c=>?_)
 refine Dj 0 Z (fun b p sl hu=>?_)
 subst hu
 refine rO 12 Z (zC i6 Z Z ?_)
 refine zA (zH 0 da Z Z Z Z ?_)
 refine zA (yF fy Z Z ?_)
 refine oO 9 Z (zC kh Z Z ?_)
 refine zA (zH 0 dm Z Z Z Z ?_)
 refine zA (yF fm Z Z ?_)
 refine oK 1 [17,0] Z Z (rO 8 Z ?_)
 refine zC kh Z Z (zA ?_)
 refine zH 0 dm Z Z Z Z (oO 3 Z ?_)
 refine yM 1 kA Z Z Z (zA ?_)
 refine zW Z Z Z (Ib ft mb G sl bs xs hl hb H) (cR 2 Z (cR 4 Z (cn 5 6 Z Z))) (fun u24 D24 hv24=>?_)
 obtain⟨zs,hz,b24,rfl,rfl⟩:=hv24
 exact oK 3 [2] Z Z (zD Tryz.results155 Z ⟨rfl,zs,hz,b24,rfl,rfl⟩ nS (cC 0 Z))
theorem KY(ft:DA)(mb:Nat)(G:Gr)(x:Value)(l:List (ByteArray×Nat))(ps:List (ByteArray×V))(hl:ps.length≤400000)(hb:All2 (BK G) l ps)(H: ∀ p∈ps,mf ft mb G p.2):CtR Tryz.prog 158 #[x] [.fv x (.named l), .gr mb G, .tab,ft] (fun u D'=> ∃L:List (ByteArray×Y),All2 (fun q p=>q.1=p.1∧dl p.2 q.2) L ps∧RN (cg 4 (L.flatMap du)) u D'):=by
 refine Ct.of_run (args:=[x]) Tryz.func158 aF Z Tryz.ntmps158 Z (fun c=>?_)
 refine sT 0 Z (fun p sl nbs hx=>?_)
 subst hx
 refine vS 1 Z (fun A1 c1 hx hk1 hk2=>?_)
 subst hx
 refine tL 2 Z (fun hnl=>?_)
 unfold maxLen at hk2
 have hbl:=hb.1
 refine rO 8 Z (xW cW Z Z Z (fun b6=>?_))
 refine oO 11 Z (yM 0 ib Z Z Z ?_)
 refine zA (zX dh Z Z ?_)
 refine oK 4 [11,3,10,9] Z Z (ec ?_)
 refine yR 2 (fun(⟨i,m,A,ca,xs1,L⟩:Nat×Nat×Option Addr×Nat×List Value×List (ByteArray×Y))=>i≤nbs.length∧m=2*i∧All2 (fun(q:ByteArray×Y) (p:ByteArray×V)=>q.1=p.1∧dl p.2 q.2) L (ps.take i)) (fun(⟨i,m,A,ca,xs1,L⟩:Nat×Nat×Option Addr×Nat×List Value×List (ByteArray×Y))=>[(11, .int .i64 ((i:Nat):Int)),(3, .slice A m ca)]) (fun(⟨i,m,A,ca,xs1,L⟩:Nat×Nat×Option Addr×Nat×List Value×List (ByteArray×Y))=>HA.row A m ca 102 1 xs1::[]) (fun(⟨i,m,A,ca,xs1,L⟩:Nat×Nat×Option Addr×Nat×List Value×List (ByteArray×Y))=> .ptrs xs1 (L.flatMap du):: .pts p (.slice A1 nbs.length c1):: .rowp (.slice A1 nbs.length c1) nbs:: .nam nbs l:: .fv (.pointer (some p)) (.named l):: .gr mb G:: .tab::ft::[]) (fun(⟨i,m,A,ca,xs1,L⟩:Nat×Nat×Option Addr×Nat×List Value×List (ByteArray×Y))=>nbs.length - i) (0,0,_,_,[],[]) (⟨by show 0≤_;omega,rfl,All2.nil _⟩) (eC Z (eC Z (eN _))) Z Z ?_ (eC Z (eC Z (eN _)))
 intro ⟨i,m,A,ca,xs1,L⟩ hI K hK
 change Run _ _ _ _ _ [(11,_),(3,_),(10,_),(9,_)] [_] [_,_,_,_,_,_,_,_]
 obtain⟨hi,hm,hall⟩:=hI
 refine rO 3 Z (yK Z Z Z ?_)
 refine oR 2 Z (zK Z (fun h12=>?_) (fun h12=>?_))
 ·refine rO 6 Z (wO 2 dh Z Z Z Z h12 ?_)
  have hlt:i<nbs.length:=h12
  have hll:i<l.length:=by omega
  have hlx:i<ps.length:=by omega
  refine pN 3 i Z (List.getElem?_eq_getElem hll) (List.getElem?_eq_getElem hlt) (fun hks=>?_)
  refine zA (yE j9 Z Z (fun _ h=>vJ h (j:=3) Z (List.getElem?_eq_getElem hlt)) ?_)
  refine oR 3 Z (yX yI ?_)
  refine zS (tP 0 Z br (zZ Z) ?_)
  refine tP 1 Z br (zZ Z) (tP 2 Z br (yV Z) ?_)
  refine tP 3 Z br (yA i5 Z) (tP 5 Z br (zZ Z) ?_)
  refine tP 6 Z br (yV Z) (tP 7 Z br (yA pK Z) ?_)
  refine yH (tM 4 Z br (vX 0 cv Z Z Z) ?_)
  refine tM 8 Z br (vX 0 da Z Z Z) (zN 9 aD ?_)
  refine zP (I2:=[[4],[3,2,1,0],[]]) Z br aD (fun Kd hKd=>?_)
  refine zW Z Z Z (H _ (List.getElem_mem hlx) _ (hb.2 i _ _ (List.getElem?_eq_getElem hll) (List.getElem?_eq_getElem hlx)).2) (cR 6 Z (cn 7 8 Z Z)) (fun u24 D24 hv24=>?_)
  obtain⟨y24,hy24,b24,rfl,rfl⟩:=hv24
  refine hKd _ _ _ (hC (hC (zE (zQ)))) (zN 10 aD ?_)
  refine zP (I2:=[[],[],[]]) Z br aD (fun Kd hKd=>?_)
  refine xU 0 Z Z Z (me _ _ _ _ _ _ hks aC) Z cF (fun u25 M25 D25 hv25=>?_)
  obtain⟨A25,c25,b25,rfl,rfl,rfl⟩:=hv25
  refine hKd _ _ _ (zE (zE (zE (zQ)))) (zS ?_)
  refine tP 11 Z br (yZ Z) (yG aD ?_)
  refine rK 0 [3,11,10,9] Z Z (rO 3 Z ?_)
  refine yD Z Z aC (oR 3 Z ?_)
  refine uC 3 0 1 Z Z Z ?_
  exact kQ (hK (i+1,_,_,_,_,L++[((l[i]'hll).1,y24)]) (⟨by show i+1≤_;omega,by show m+2=2*(i+1);omega,ej hlx hall ⟨(hb.2 i _ _ (List.getElem?_eq_getElem hll) (List.getElem?_eq_getElem hlx)).1,hy24⟩⟩) ar) (eC Z (eC Z (eC Z (eC Z (eN _))))) (hD:=(cR 0 Z sQ))
 obtain rfl:i=nbs.length:=by omega
 rw [hnl,hb.1,List.take_length]at hall
 refine tJ 0 0 _ Z Z aG (rO 6 Z ?_)
 refine zW Z Z Z (IR _ _ _ _) (cC 0 Z) (fun u28 D28 hv28=>?_)
 obtain⟨b28,rfl,rfl⟩:=hv28
 exact oR 3 Z (zD Tryz.results158 Z ⟨rfl,L,hall,b28,rfl,rfl⟩ nS (cC 0 Z))
theorem KZ(tb:Nat)(p2:Addr)(sl2:Value)(l:List ByteArray)(hl:l.length≤1000000):CtR Tryz.prog 187 #[cD tb] [.dblk tb [.pointer none, .pointer (some p2)] 194, .pts p2 sl2, .strs sl2 l] (RN (cg 2 (l.map (cK dF)))):=by
 refine Ct.of_run (args:=[cD tb]) Tryz.func187 aF Z Tryz.ntmps187 Z (fun c=>?_)
 refine rO 12 Z (zC vk Z Z ?_)
 refine zA (zH 0 da Z Z Z Z ?_)
 refine zA (yF fy Z Z ?_)
 refine oO 9 Z (zC ns Z Z ?_)
 refine zA (zH 0 ig Z Z Z Z ?_)
 refine zA (yF p7 Z Z ?_)
 refine oK 1 [17,0] Z Z (rO 8 Z ?_)
 refine zC ns Z Z (zA ?_)
 refine zH 0 ig Z Z Z Z (oO 3 Z ?_)
 refine yM 1 dH Z Z Z (zA ?_)
 refine zW Z Z Z (GA _ l hl) (cC 2 Z) (fun u24 D24 hv24=>?_)
 obtain⟨b24,rfl,rfl⟩:=hv24
 exact oK 3 [2] Z Z (zD Tryz.results187 Z ⟨rfl,b24,rfl,rfl⟩ nS (cC 0 Z))
theorem Ka(x:Value)(l:List (ByteArray×List ByteArray))(hl:l.length≤400000)(hls: ∀ q∈l,q.2.length≤1000000):CtR Tryz.prog 159 #[x] [.fv x (.deps l)] (RN (cg 4 ((l.map (fun q=>(q.1,cg 2 (q.2.map (cK dF))))).flatMap du))):=by
 refine Ct.of_run (args:=[x]) Tryz.func159 aF Z Tryz.ntmps159 Z (fun c=>?_)
 refine qc 0 Z (fun p sl nbs hx=>?_)
 subst hx
 refine vS 1 Z (fun A1 c1 hx hk1 hk2=>?_)
 subst hx
 refine lx 2 Z (fun hnl=>?_)
 unfold maxLen at hk2
 refine rO 8 Z (xW cW Z Z Z (fun b6=>?_))
 refine oO 11 Z (yM 0 Af Z Z Z ?_)
 refine zA (zX lU Z Z ?_)
 refine oK 4 [11,3,10,9] Z Z (ec ?_)
 refine yR 2 (fun(⟨i,m,A,ca,xs1⟩:Nat×Nat×Option Addr×Nat×List Value)=>i≤nbs.length∧m=2*i) (fun(⟨i,m,A,ca,xs1⟩:Nat×Nat×Option Addr×Nat×List Value)=>[(11, .int .i64 ((i:Nat):Int)),(3, .slice A m ca)]) (fun(⟨i,m,A,ca,xs1⟩:Nat×Nat×Option Addr×Nat×List Value)=>HA.row A m ca 102 1 xs1::[]) (fun(⟨i,m,A,ca,xs1⟩:Nat×Nat×Option Addr×Nat×List Value)=> .ptrs xs1 (((l.take i).map (fun q=>(q.1,cg 2 (q.2.map (cK dF))))).flatMap du):: .pts p (.slice A1 nbs.length c1):: .rowp (.slice A1 nbs.length c1) nbs:: .dep nbs l:: .fv (.pointer (some p)) (.deps l)::[]) (fun(⟨i,m,A,ca,xs1⟩:Nat×Nat×Option Addr×Nat×List Value)=>nbs.length - i) (0,0,_,_,[]) (⟨by show 0≤_;omega,rfl⟩) (eC Z (eC Z (eN _))) Z Z ?_ (eC Z (eC Z (eN _)))
 intro ⟨i,m,A,ca,xs1⟩ hI K hK
 change Run _ _ _ _ _ [(11,_),(3,_),(10,_),(9,_)] [_] [_,_,_,_,_]
 obtain⟨hi,hm⟩:=hI
 refine rO 3 Z (yK Z Z Z ?_)
 refine oR 2 Z (zK Z (fun h12=>?_) (fun h12=>?_))
 ·refine rO 6 Z (wO 2 lU Z Z Z Z h12 ?_)
  have hlt:i<nbs.length:=h12
  have hll:i<l.length:=by omega
  refine wa 3 i Z (List.getElem?_eq_getElem hll) (List.getElem?_eq_getElem hlt) (fun tb p2 sl2 hks=>?_)
  refine zA (yE FJ Z Z (fun _ h=>vJ h (j:=6) Z (List.getElem?_eq_getElem hlt)) ?_)
  refine oR 3 Z (yX yI ?_)
  refine zS (tP 0 Z br (zZ Z) ?_)
  refine tP 1 Z br (zZ Z) (tP 2 Z br (yV Z) ?_)
  refine tP 3 Z br (yA DN Z) (tP 5 Z br (zZ Z) ?_)
  refine tP 6 Z br (yV Z) (tP 7 Z br (yA vh Z) ?_)
  refine yH (tM 4 Z br (vX 0 cv Z Z Z) ?_)
  refine tM 8 Z br (vX 0 E8 Z Z Z) (zN 9 aD ?_)
  refine zP (I2:=[[4],[3,2,1,0],[]]) Z br aD (fun Kd hKd=>?_)
  refine zW Z Z Z (KZ _ _ _ _ (hls _ (List.getElem_mem hll))) (cR 1 Z (cn 2 3 Z Z)) (fun u24 D24 hv24=>?_)
  obtain⟨b24,rfl,rfl⟩:=hv24
  refine hKd _ _ _ (hC (hC (zE (zQ)))) (zN 10 aD ?_)
  refine zP (I2:=[[],[],[]]) Z br aD (fun Kd hKd=>?_)
  refine xU 0 Z Z Z (me _ _ _ _ _ _ hks aC) Z cF (fun u25 M25 D25 hv25=>?_)
  obtain⟨A25,c25,b25,rfl,rfl,rfl⟩:=hv25
  refine hKd _ _ _ (zE (zE (zE (zQ)))) (zS ?_)
  refine tP 11 Z br (yZ Z) (yG aD ?_)
  refine rK 0 [3,11,10,9] Z Z (rO 3 Z ?_)
  refine yD Z Z aC (oR 3 Z ?_)
  refine uC 6 0 1 Z Z Z ?_
  rw [sA (f:=fun q:ByteArray×List ByteArray=>(q.1,cg 2 (q.2.map (cK dF)))) hll]
  exact kQ (hK (i+1,_,_,_,_) (⟨by show i+1≤_;omega,by show m+2=2*(i+1);omega⟩) ar) (eC Z (eC Z (eC Z (eC Z (eN _))))) (hD:=(cR 0 Z sQ))
 obtain rfl:i=nbs.length:=by omega
 rw [hnl,List.take_length]
 refine tJ 0 0 _ Z Z aG (rO 6 Z ?_)
 refine zW Z Z Z (IR _ _ _ _) (cC 0 Z) (fun u28 D28 hv28=>?_)
 obtain⟨b28,rfl,rfl⟩:=hv28
 exact oR 3 Z (zD Tryz.results159 Z ⟨rfl,b28,rfl,rfl⟩ nS (cC 0 Z))
theorem Ie(u:Value)(n:Int)(h0: -9223372036854775808≤n)(h1:n≤9223372036854775807):CtR Tryz.prog 160 #[u] [.fv u (.numI n), .tab] (RN (cK iK (dS n))):=by
 refine Ct.of_run (args:=[u]) Tryz.func160 aF Z Tryz.ntmps160 Z (fun c=>?_)
 refine BR 0 Z (fun b p hu=>?_)
 subst hu
 refine rO 12 Z (zC kk Z Z ?_)
 refine zA (zH 0 d2 Z Z Z Z ?_)
 refine zA (yF eH Z Z ?_)
 refine oO 9 Z (zC kk Z Z ?_)
 refine zA (zH 0 d2 Z Z Z Z ?_)
 refine oO 3 Z (yM 1 eJ Z Z Z ?_)
 refine zA (zW Z Z Z (IS n h0 h1) (cC 3 Z) (fun u14 D14 hv14=>?_))
 obtain⟨b14,rfl,rfl⟩:=hv14
 exact oK 3 [2] Z Z (zD Tryz.results160 Z ⟨rfl,b14,rfl,rfl⟩ nS (cC 0 Z))
theorem If(ft:DA)(u:Value)(f:Nat)(y:Y)(H:CtR Tryz.prog 188 #[.float .f64 f] [ft] (RN y)):CtR Tryz.prog 160 #[u] [.fv u (.numF f),ft] (RN y):=by
 refine Ct.of_run (args:=[u]) Tryz.func160 aF Z Tryz.ntmps160 Z (fun c=>?_)
 refine BS 0 Z (fun b p hu=>?_)
 subst hu
 refine rO 12 Z (zC kk Z Z ?_)
 refine zA (zH 0 d2 Z Z Z Z ?_)
 refine zA (yF eH Z Z ?_)
 refine oO 9 Z (zC nt Z Z ?_)
 refine zA (zH 0 FB Z Z Z Z ?_)
 refine zA (yF IT Z Z ?_)
 refine oK 1 [19,0] Z Z (rO 8 Z ?_)
 refine zC nt Z Z (zA ?_)
 refine zH 0 FB Z Z Z Z (oO 3 Z ?_)
 refine yM 1 Ah Z Z Z (zA ?_)
 refine zW Z Z Z (H) (cC 3 Z) (fun u26 D26 hv26=>?_)
 obtain⟨b26,rfl,rfl⟩:=hv26
 exact oK 3 [2] Z Z (zD Tryz.results160 Z ⟨rfl,b26,rfl,rfl⟩ nS (cC 0 Z))
theorem Ig(b:Nat)(p:Addr)(s:ByteArray)(hs:s.size≤maxLen):Ct Tryz.prog 189 #[cD b] [.blk b [.pointer (some p), .pointer none] 223] [.pts p (.string s)] (fun u M' D'=>M'=[]∧RN (cK dF s) u D'):=by
 refine Ct.of_run (args:=[cD b]) Tryz.func189 aF Z Tryz.ntmps189 Z (fun c=>?_)
 refine rO 12 Z (zC nu Z Z ?_)
 refine zA (zG 0 cy Z Z Z Z ?_)
 refine zA (yF dN Z Z ?_)
 refine oO 9 Z (zC nu Z Z ?_)
 refine zA (zG 0 cy Z Z Z Z ?_)
 refine oO 3 Z (yM 0 cv Z Z Z ?_)
 refine zA (zW Z Z Z (yj s hs) cF (fun u14 D14 hv14=>?_))
 obtain⟨b14,rfl,rfl⟩:=hv14
 exact oK 3 [2] Z Z (zD Tryz.results189 Z ⟨rfl,b14,rfl,rfl⟩ nS (cC 0 Z))
theorem FM(b:Nat)(p:Addr)(s:Bool):Ct Tryz.prog 189 #[cD b] [.blk b [.pointer none, .pointer (some p)] 223] [.pts p (.bool s)] (fun u M' D'=>M'=[]∧RN (cK dp (pk s)) u D'):=by
 refine Ct.of_run (args:=[cD b]) Tryz.func189 aF Z Tryz.ntmps189 Z (fun c=>?_)
 refine rO 12 Z (zC nu Z Z ?_)
 refine zA (zG 0 cy Z Z Z Z ?_)
 refine zA (yF dN Z Z ?_)
 refine oO 9 Z (zC vm Z Z ?_)
 refine zA (zG 0 eM Z Z Z Z ?_)
 refine zA (yF iD Z Z ?_)
 refine oK 1 [19,0] Z Z (rO 8 Z ?_)
 refine zC vm Z Z (zA ?_)
 refine zG 0 eM Z Z Z Z (oO 3 Z ?_)
 refine yM 0 DH Z Z Z (zA ?_)
 refine zW Z Z Z (F8 s) cF (fun u26 D26 hv26=>?_)
 obtain⟨b26,rfl,rfl⟩:=hv26
 exact oK 3 [2] Z Z (zD Tryz.results189 Z ⟨rfl,b26,rfl,rfl⟩ nS (cC 0 Z))
theorem Kb(b:Nat)(x:EV)(q q':Option Addr):Ct Tryz.prog 189 #[cD b] [.blk b [.pointer q, .pointer q'] 223] [.ev x (.pointer q) (.pointer q')] (fun u M' D'=>M'=[]∧RN (yb x) u D'):=by
  refine⟨(FM b ⟨0,0,none⟩ true).1,fun w ok hok hM hn hD=>?_⟩
  have h:=hD _ List.mem_cons_self
  cases x with
  |str s=>
    obtain⟨p,h1,h2,h3,h4⟩:EvP w ok (.str s) (.pointer q) (.pointer q'):=h
    cases h1;cases h2
    exact(Ig b p s h3).2 w ok hok hM hn (fun d hd=>by rw [List.mem_singleton.1 hd];exact h4)
  |bool s=>
    obtain⟨p,h1,h2,h4⟩:EvP w ok (.bool s) (.pointer q) (.pointer q'):=h
    cases h1;cases h2
    exact(FM b p s).2 w ok hok hM hn (fun d hd=>by rw [List.mem_singleton.1 hd];exact h4)
theorem Kc(x:Value)(l:List EV)(hl:l.length≤400000):CtR Tryz.prog 162 #[x] [.fv x (.enums l)] (RN (cg 2 (l.map yb))):=by
 refine Ct.of_run (args:=[x]) Tryz.func162 aF Z Tryz.ntmps162 Z (fun c=>?_)
 refine ym 0 Z (fun p A1 c1 hx hk1 hk2=>?_)
 subst hx
 unfold maxLen at hk2
 refine rO 8 Z (xW cW Z Z Z (fun b6=>?_))
 refine oO 11 Z (yM 0 Ai Z Z Z ?_)
 refine zA (zX lV Z Z ?_)
 refine oK 4 [11,3,10,9] Z Z (yO (.ptrs [] ((l.take 0).map yb)) (fun w ok h=>rfl) ?_)
 refine yR 2 (fun(⟨i,A,ca,xs1⟩:Nat×Option Addr×Nat×List Value)=>i≤l.length) (fun(⟨i,A,ca,xs1⟩:Nat×Option Addr×Nat×List Value)=>[(11, .int .i64 ((i:Nat):Int)),(3, .slice A i ca)]) (fun(⟨i,A,ca,xs1⟩:Nat×Option Addr×Nat×List Value)=>HA.row A i ca 102 1 xs1::[]) (fun(⟨i,A,ca,xs1⟩:Nat×Option Addr×Nat×List Value)=> .ptrs xs1 ((l.take i).map yb):: .pts p (.slice A1 l.length c1):: .evrow A1 c1 l:: .fv (.pointer (some p)) (.enums l)::[]) (fun(⟨i,A,ca,xs1⟩:Nat×Option Addr×Nat×List Value)=>l.length - i) (0,_,_,[]) bX (eC Z (eC Z (eN _))) Z Z ?_ (eC Z (eC Z (eN _)))
 intro ⟨i,A,ca,xs1⟩ hI K hK
 replace hI:i≤l.length:=hI
 change Run _ _ _ _ _ [(11,_),(3,_),(10,_),(9,_)] [_] [_,_,_,_]
 refine rO 3 Z (yK Z Z Z ?_)
 refine oR 2 Z (zK Z (fun h12=>?_) (fun h12=>?_))
 ·refine rO 6 Z (BT 2 lV Z Z Z Z h12 Z ?_)
  have hlt:i<l.length:=h12
  refine GC 2 i Z (List.getElem?_eq_getElem hlt) (fun q1 q2=>?_)
  refine zA (BU 0 H1 Z Z Z ?_)
  refine zA (zT H3 Z (fun b5=>?_))
  change bu _ _ _ _ _ _ _ _ (HA.blk _ [_,_] _::_) _
  refine zA (zF 0 (M':=[HA.blk _ [_,_] _,_]) Z Z Z Z H2 Z Z Z ?_)
  refine oO 5 Z (xU 0 Z Z Z (Kb _ _ _ _) Z (cC 1 Z) (fun u16 M16 D16 hv16=>?_))
  obtain⟨rfl,b16,rfl,rfl⟩:=hv16
  refine zA (zM cW Z Z Z Z Z (fun b17=>?_))
  refine zA ?_
  refine cO 1 0 cW (fun A18 c18=>?_)
  refine oO 6 Z (yD Z Z aC ?_)
  refine oK 3 [11,3,10,9] Z Z (vT 3 0 Z Z ?_)
  rw [sA]
  exact kQ (hK (i+1,_,_,_) bQ aw) (eC Z (eC Z (eC Z (eC Z (eN _))))) (hD:=(cR 0 Z sQ))
 obtain rfl:i=l.length:=by omega
 rw [List.take_length]
 refine tJ 0 0 _ Z Z aG (rO 6 Z ?_)
 refine zW Z Z Z (F9 _ _ _ _) (cC 0 Z) (fun u21 D21 hv21=>?_)
 obtain⟨b21,rfl,rfl⟩:=hv21
 exact oR 3 Z (zD Tryz.results162 Z ⟨rfl,b21,rfl,rfl⟩ nS (cC 0 Z))
structure WI(v:V)(f:Flds)(qs:List Nat)(L:List (ByteArray×Y)):Prop where
 nd:(L.map fun p=>cE p.1).Nodup
 mem: ∀ p∈L,cE p.1∈qs∧cE p.1≠0∧cE p.1≠35∧ ∃x,getV v p.1=some x∧ItemR dl (cU (cE p.1)) x p.2
 all: ∀ q∈qs,f q≠none→ ∃p∈L,cE p.1=q
 len:L.length≤qs.length
theorem WI.nil(v:V)(f:Flds):WI v f [] []:=⟨by simp,by simp,by simp,by simp⟩
theorem WI.skip{v:V}{f:Flds}{qs:List Nat}{L:List (ByteArray×Y)}{q:Nat}(h:WI v f qs L)(hq:f q=none):WI v f (q::qs) L:=
 ⟨h.nd,fun p hp=>⟨List.mem_cons_of_mem _ (h.mem p hp).1,(h.mem p hp).2⟩,fun r hr hn=>(List.mem_cons.1 hr).elim (fun e=>absurd (e▸hq) hn) (fun hr=>h.all r hr hn),Nat.le_succ_of_le h.len⟩
theorem WI.add{v:V}{f:Flds}{qs:List Nat}{L:List (ByteArray×Y)}{q:Nat}{key:ByteArray}{x:V}{z:Y}(h:WI v f qs L)(hn:qs.contains q=false)(hkw:cE key=q)(h0:q≠0)(h35:q≠35)(hx:getV v key=some x)(hi:ItemR dl (cU q) x z):WI v f (q::qs) (L++[(key,z)]):=by
 have hn':q∉qs:=by simpa using hn
 subst hkw
 refine⟨?_,?_,?_,by simp;exact h.len⟩
 ·rw [List.map_append,List.nodup_append]
  refine⟨h.nd,by simp,?_⟩
  intro a ha b hb hab
  obtain⟨p,hp,rfl⟩:=List.mem_map.1 ha
  simp only [List.map_cons,List.map_nil,List.mem_singleton]at hb
  subst hab
  exact hn' (hb▸(h.mem p hp).1)
 ·intro p hp
  rcases List.mem_append.1 hp with hp|hp
  ·exact⟨List.mem_cons_of_mem _ (h.mem p hp).1,(h.mem p hp).2⟩
  ·rw [List.mem_singleton.1 hp]
   exact⟨List.mem_cons_self,h0,h35,x,hx,hi⟩
 ·intro r hr hnn
  rcases List.mem_cons.1 hr with rfl|hr
  ·exact⟨(key,z),by simp,rfl⟩
  ·obtain⟨p,hp,e⟩:=h.all r hr hnn
   exact⟨p,List.mem_append_left _ hp,e⟩
theorem WI.out{G:Gr}{v:V}{f:Flds}{L:List (ByteArray×Y)}(h:WI v f BG L)(hU: ∀ i,1≤i→i≤36→FldRel (fun b x=>Unf G x b) v i (f i)):dl v (cg 4 (L.flatMap du)):=by
 refine(qd v _).2 ⟨L,rfl,h.nd,fun p hp=>(h.mem p hp).2,fun key x hx h0 h35=>?_⟩
 have hm:=BH h0 h35
 have hq:=pj h0
 have hf:=hU _ hq.1 hq.2
 obtain⟨p,hp,e⟩:=h.all _ hm (fun hn=>by rw [hn]at hf;have:=hf key rfl;rw [hx]at this;cases this)
 exact⟨p,hp,tg e (by rw [e];exact h0)⟩
theorem IsPlain.len60: ∀ {d:Nat} {t:V},IsPlain d t→t.items.length≤60
  |0, .mk q m s ks ts,h=>by
    obtain⟨_,h2,_⟩:=h
    simp only [V.items]at h2⊢
    subst h2;simp
  |d+1, .mk q m s ks ts,h=>by
    rcases h with ⟨_,h2,_⟩|⟨_,h2,_⟩
    · simp only [V.items]at h2⊢
      subst h2;simp
    · exact h2
theorem Pl.len{v:V}(h:Pl v):v.items.length≤60:=h.elim fun _ h=>h.len60
theorem qf{ps:List (ByteArray×V)}{x:V}(hp:ps.Perm (x.keys.zip x.items))(h:x.items.length≤60):ps.length≤400000:=by
 rw [hp.length_eq,List.length_zip];omega
structure Fld(ft:DA)(mb:Nat)(G:Gr)(sh:Int)(x:V):Prop where
 pl:Pl x
 fit:FitLoc sh x
 kid: ∀ z∈kidsOf sh x,mf ft mb G z
 num:sh=3→x.kind=6→CtR Tryz.prog 188 #[.float .f64 (ji x.num)] [ft] (RN (cK db (dU x.num)))
section
variable {ft:DA} {mb:Nat} {G:Gr} {x:V} {fv:FVal} {u:Value}
theorem Fld.int(h:x.kind=2∨x.kind=6)(hp:Pl x): -9223372036854775808≤x.num∧x.num≤9223372036854775807:=by
 have:=hp.num.num h
 omega
theorem CtR.data{P:Program}{f:FuncId}{args:Array Value}{D D2:List DA}{R:Value→List DA→Prop}(h:CtR P f args D R)(hs: ∀ d∈D,d∈D2):CtR P f args D2 R:=Ct.data h hs
theorem w3(h:Fld ft mb G 3 x)(hr:FvRel (fun b z=>Unf G z b) 3 x fv):CtR Tryz.prog 160 #[u] [.fv u fv, .gr mb G, .tab,ft] (fun u D'=> ∃z,ItemR dl 3 x z∧RN z u D'):=by
 cases fv<;>try exact absurd hr.1 aE
 case any=>exact absurd (show(3:Int)=14 from hr) aE
 case numI n=>
  obtain⟨_,hk,rfl⟩:=hr
  have hb:=Fld.int (.inl hk) h.pl
  exact((Ie u x.num hb.1 hb.2).data (cn 0 2 Z Z)).mono fun u D' hn=>⟨_, .inr (.inr (.inl ⟨rfl,hk,rfl⟩)),hn⟩
 case numF n=>
  obtain⟨_,hk,rfl⟩:=hr
  exact((If ft u _ _ (h.num Z hk)).data (cn 0 3 Z Z)).mono fun u D' hn=>⟨_, .inr (.inr (.inr (.inl ⟨rfl,hk,rfl⟩))),hn⟩
theorem w6(h:Fld ft mb G 6 x)(hr:FvRel (fun b z=>Unf G z b) 6 x fv):CtR Tryz.prog 157 #[u] [.fv u fv, .gr mb G, .tab,ft] (fun u D'=> ∃z,ItemR dl 6 x z∧RN z u D'):=by
 cases fv<;>try exact absurd hr.1 aE
 case any=>exact absurd (show(6:Int)=14 from hr) aE
 case sbS q=>
  obtain⟨_,hk,hU⟩:=hr
  refine(Ia ft mb G u q x hU (h.kid x bV)).mono fun u D' hn=>?_
  obtain⟨z,hz,hn⟩:=hn
  exact⟨z, .inr (.inr (.inr (.inr (.inr (.inr (.inr (.inl ⟨rfl,hk,hz⟩))))))),hn⟩
 case sbB b=>
  obtain⟨_,hk,rfl⟩:=hr
  exact((IZ u _).data (cC 0 Z)).mono fun u D' hn=>⟨_, .inr (.inr (.inr (.inr (.inr (.inr (.inl ⟨rfl,hk,rfl⟩)))))),hn⟩
theorem w7(h:Fld ft mb G 7 x)(hr:FvRel (fun b z=>Unf G z b) 7 x fv):CtR Tryz.prog 155 #[u] [.fv u fv, .gr mb G, .tab,ft] (fun u D'=> ∃z,ItemR dl 7 x z∧RN z u D'):=by
 cases fv<;>try exact absurd hr.1 aE
 case any=>exact absurd (show(7:Int)=14 from hr) aE
 case itS q=>
  obtain⟨_,hk,hU⟩:=hr
  refine(Ic ft mb G u q x hU (h.kid x bW)).mono fun u D' hn=>?_
  obtain⟨z,hz,hn⟩:=hn
  exact⟨z, .inr (.inr (.inr (.inr (.inr (.inr (.inr (.inr (.inl ⟨rfl,hk,hz⟩)))))))),hn⟩
 case itL bs=>
  obtain⟨_,hk,hU⟩:=hr
  have h5: ∀ y∈x.items,y.kind=5:=by
   have:=h.fit
   simp [FitLoc,hk]at this
   exact this
  refine(Id ft mb G u bs x.items (by have:=h.pl.len;omega) hU (fun z hz=>h.kid z (by rw [fS hk h5];exact hz))).mono fun u D' hn=>?_
  obtain⟨zs,hz,hn⟩:=hn
  exact⟨_, .inr (.inr (.inr (.inr (.inr (.inr (.inr (.inr (.inr (.inl ⟨rfl,hk,zs,rfl,hz⟩))))))))),hn⟩
theorem w9(h:Fld ft mb G 9 x)(hr:FvRel (fun b z=>Unf G z b) 9 x fv):CtR Tryz.prog 158 #[u] [.fv u fv, .gr mb G, .tab,ft] (fun u D'=> ∃z,ItemR dl 9 x z∧RN z u D'):=by
 cases fv<;>try exact absurd hr.1 aE
 case any=>exact absurd (show(9:Int)=14 from hr) aE
 case named l=>
  obtain⟨_,ps,hp,hU⟩:=hr
  have h5: ∀ y∈x.items,y.kind=5:=by
   have:=h.fit
   simp [FitLoc]at this
   exact this.2
  refine(KY ft mb G u l ps (qf hp h.pl.len) hU (fun p hq=>h.kid p.2 (by rw [iC h5];exact(List.of_mem_zip (hp.mem_iff.1 hq)).2))).mono fun u D' hn=>?_
  obtain⟨L,hz,hn⟩:=hn
  exact⟨_, .inr (.inr (.inr (.inr (.inr (.inr (.inr (.inr (.inr (.inr (.inr (.inl ⟨rfl,ps,L,rfl,hp,hz⟩))))))))))),hn⟩
theorem Mq(h:Fld ft mb G 10 x)(hr:FvRel (fun b z=>Unf G z b) 10 x fv):CtR Tryz.prog 159 #[u] [.fv u fv, .gr mb G, .tab,ft] (fun u D'=> ∃z,ItemR dl 10 x z∧RN z u D'):=by
 cases fv<;>try exact absurd hr.1 aE
 case any=>exact absurd (show(10:Int)=14 from hr) aE
 case deps l=>
  obtain⟨_,ps,hp,rfl⟩:=hr
  refine((Ka u _ (by rw [List.length_map];exact qf hp h.pl.len) (fun q hq=>?_)).data (cC 0 Z)).mono fun u D' hn=>?_
  ·obtain⟨p,hm,rfl⟩:=List.mem_map.1 hq
   have:=(h.pl.item p.2 (List.of_mem_zip (hp.mem_iff.1 hm)).2).len
   rw [List.length_map];omega
  ·rw [List.map_map]at hn
   exact⟨_, .inr (.inr (.inr (.inr (.inr (.inr (.inr (.inr (.inr (.inr (.inr (.inr (.inl ⟨rfl,ps,hp,rfl⟩)))))))))))),hn⟩
theorem Mr(h:Fld ft mb G 11 x)(hr:FvRel (fun b z=>Unf G z b) 11 x fv):CtR Tryz.prog 162 #[u] [.fv u fv, .gr mb G, .tab,ft] (fun u D'=> ∃z,ItemR dl 11 x z∧RN z u D'):=by
 cases fv<;>try exact absurd hr.1 aE
 case any=>exact absurd (show(11:Int)=14 from hr) aE
 case enums l=>
  obtain⟨_,rfl⟩:=hr
  exact((Kc u _ ax).data (cC 0 Z)).mono fun u D' hn=>⟨_, .inr (.inr (.inr (.inr (.inr (.inr (.inr (.inr (.inr (.inr (.inr (.inr (.inr (.inl ⟨rfl,rfl⟩))))))))))))),hn⟩
theorem Ms(h:Fld ft mb G 12 x)(hr:FvRel (fun b z=>Unf G z b) 12 x fv):CtR Tryz.prog 154 #[u] [.fv u fv, .gr mb G, .tab,ft] (fun u D'=> ∃z,ItemR dl 12 x z∧RN z u D'):=by
 cases fv<;>try exact absurd hr.1 aE
 case any=>exact absurd (show(12:Int)=14 from hr) aE
 case tyS s=>
  obtain⟨_,hk,rfl⟩:=hr
  exact((IU u _).data (cC 0 Z)).mono fun u D' hn=>⟨_, .inr (.inr (.inr (.inr (.inr (.inr (.inr (.inr (.inr (.inr (.inr (.inr (.inr (.inr (.inl ⟨rfl,hk,rfl⟩)))))))))))))),hn⟩
 case tyL s=>
  obtain⟨_,hk,rfl⟩:=hr
  exact((IV u _ ax).data (cC 0 Z)).mono fun u D' hn=>⟨_, .inr (.inr (.inr (.inr (.inr (.inr (.inr (.inr (.inr (.inr (.inr (.inr (.inr (.inr (.inr (.inl ⟨rfl,hk,rfl⟩))))))))))))))),hn⟩
theorem w8{sl:Value}{bs:List ByteArray}(h:Fld ft mb G 8 x)(hr:bs=x.items.map V.text):CtR Tryz.prog 156 #[sl] [.strs sl bs] (fun u D'=> ∃z,ItemR dl 8 x z∧RN z u D'):=by
 subst hr
 exact(GA sl _ ax).mono fun u D' hn=>⟨_, .inr (.inr (.inr (.inr (.inr (.inr (.inr (.inr (.inr (.inr (.inl ⟨rfl,rfl⟩)))))))))),hn⟩
theorem Mt{sl:Value}{bs:List Nat}(h:Fld ft mb G 13 x)(hr:All2 (fun b z=>Unf G z b) bs x.items):CtR Tryz.prog 163 #[sl] [.rowp sl bs, .gr mb G, .tab,ft] (fun u D'=> ∃z,ItemR dl 13 x z∧RN z u D'):=by
 have h5: ∀ y∈x.items,y.kind=5:=by
  have:=h.fit
  simp [FitLoc]at this
  exact this.2
 refine(Ib ft mb G sl bs x.items (by have:=h.pl.len;omega) hr (fun z hz=>h.kid z (by rw [gL h5];exact hz))).mono fun u D' hn=>?_
 obtain⟨zs,hz,hn⟩:=hn
 exact⟨_, .inr (.inr (.inr (.inr (.inr (.inr (.inr (.inr (.inr (.inr (.inr (.inr (.inr (.inr (.inr (.inr ⟨rfl,zs,rfl,hz⟩))))))))))))))),hn⟩
theorem w5{b:Nat}(h:Fld ft mb G 5 x)(hr:Unf G x b):CtR Tryz.prog 105 #[cD b] [.gr mb G, .tab,ft] (fun u D'=> ∃z,ItemR dl 5 x z∧RN z u D'):=by
 refine(h.kid x bn b hr).mono fun u D' hn=>?_
 obtain⟨z,hz,hn⟩:=hn
 exact⟨z, .inr (.inr (.inr (.inr (.inr (.inl ⟨rfl,hz⟩))))),hn⟩
end
section rules
variable {P:Program} {n:Nat} {F:List Nat} {c:Ctx F} {ops:Array Oper} {d:Nat} {T:TypeId} {l:List Oper} {k:List KI} {Q:Post} {e:cp} {M:List HA} {D:List DA}
theorem wb(j q:Nat){mb:Nat}{cs:List Value}{f:Flds}{G:Gr}{v:V}{p:Option Addr}(hj:D[j]? =some (.flds mb cs f))(h0:q≠0)(h36:q≤36)(hc:cs[q]? =some (.pointer p))(hp:p.isSome=(f q).isSome)(hb:p.isSome=true)(hU: ∀ i,1≤i→i≤36→FldRel (fun b x=>Unf G x b) v i (f i))
  (next: ∀ fv x a,p=some a→f q=some fv→getV v (kG q)=some x→cE (kG q)=q→FvRel (fun b x=>Unf G x b) (cU q) x fv→Run P n c k Q e M (.fv (.pointer (some a)) fv::D)):Run P n c k Q e M D:=by
 obtain⟨a,rfl⟩:=Option.isSome_iff_exists.1 hb
 rw [hb]at hp
 obtain⟨fv,hfv⟩:=Option.isSome_iff_exists.1 hp.symm
 have hr:=hU q aC h36
 rw [hfv]at hr
 obtain⟨key,x,hkw,hgx,hrel⟩:=hr
 have hkey:=jj hkw h0
 subst hkey
 refine yO (.fv (.pointer (some a)) fv) (fun w ok h=>?_) (next fv x a Z hfv hgx hkw hrel)
 obtain⟨u,hu,hm⟩:=(dget h j hj:(DA.flds mb cs f).p w ok).2.2 q aC h36
 rw [hc]at hu
 cases hu
 rw [hfv]at hm
 exact hm
theorem eo(j q:Nat){mb:Nat}{cs:List Value}{f:Flds}(hj:D[j]? =some (.flds mb cs f))(h1:1≤q)(h2:q≤36)(next: ∀ p,cs[q]? =some (.pointer p)→p.isSome=(f q).isSome→Run P n c k Q e M D):Run P n c k Q e M D:=by
 intro a w hf
 obtain⟨p,h3,h4⟩:=p6 (hf.toFitsW.dt hj) q h1 h2
 exact next p h3 h4 a w hf
end rules
theorem tU{p:Option Addr}{o:Option FVal}(hp:p.isSome=o.isSome)(h:p.isSome=false):o=none:=by
  rw [h]at hp
  cases o with
  |none=>rfl
  |some v=>cases hp
theorem wc{G:Gr}{v:V}{f:Flds}(hU: ∀ i,1≤i→i≤36→FldRel (fun b x=>Unf G x b) v i (f i))(q:Nat)(h1:1≤q)(h2:q≤36)(hq:(q::BG).Nodup)(h35:q≠35):f q=none:=by
  have:=hU q h1 h2
  cases hf:f q with
  |none=>rfl
  |some fv=>
    rw [hf]at this
    obtain⟨key,x,hk,_⟩:=this
    have:=BH (key:=key) aC aC
    rw [hk]at this
    exact absurd this (List.nodup_cons.1 hq).1
theorem Dn{U:Nat→V→Prop}{x:V}{fv:FVal}(h:FvRel U 2 x fv):fv= .bool (decide (x.num=1)):=by
 cases fv<;>simp_all [FvRel]
theorem GI{U:Nat→V→Prop}{x:V}{fv:FVal}(h:FvRel U 4 x fv):fv= .int x.num:=by
 cases fv<;>simp_all [FvRel]
theorem BX{U:Nat→V→Prop}{x:V}{fv:FVal}(h:FvRel U 8 x fv):fv= .texts (x.items.map V.text):=by
 cases fv<;>simp_all [FvRel]
theorem Do{U:Nat→V→Prop}{x:V}{fv:FVal}(h:FvRel U 13 x fv): ∃bs,fv= .list bs∧All2 U bs x.items:=by
 cases fv<;>simp_all [FvRel]
theorem GJ{U:Nat→V→Prop}{x:V}{fv:FVal}(h:FvRel U 5 x fv): ∃b,fv= .one b∧U b x:=by
 cases fv<;>simp_all [FvRel]
theorem vK{P:Program}{n:Nat}{F:List Nat}{c:Ctx F}{k:List KI}{Q:Post}{e:cp}{M:List HA}{D:List DA}{α:Type}{x:Code}(ts:List Nat)(I:α→Prop)(ch:α→cp)(MM:α→List HA)(DD:α→List DA)
  (h1: ∀ K:Act→World→Prop,(∀ y,I y→ ∀ a w,Fits n c (ch y++keep ts e) (MM y) (DD y) a w→K a w)→Run P n c (.code x:: .cont K::k) Q e M D)
  (h2: ∀ y,I y→Run P n c k Q (ch y++keep ts e) (MM y) (DD y)):Run P n c (.code x::k) Q e M D:=
 ia (α:={y:α//I y}) (fun y=>ch y.1++keep ts e) (fun y=>MM y.1) (fun y=>DD y.1) (fun K hK=>h1 K (fun y hy=>hK ⟨y,hy⟩)) (fun y=>h2 y.1 y.2)

end Go.Jw

