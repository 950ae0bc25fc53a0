/- Part 3 of the proof's texts, made small by a program. -/
import Derived.Test.YtlcfillobkdnmaaGreatDoorTv2
import GoSem.Core.Float
import Derived.MapKept
import Derived.Laws.Pointers
import Derived.WalkSpells
set_option linter.unusedVariables false
set_option linter.unusedSimpArgs false
set_option maxHeartbeats 4000000
namespace Go.Jw
open Ieee
set_option maxRecDepth 8000
theorem og(way:Toward)(neg:Bool)(a d:Nat):way.cut neg (a*2^d) d=a:=by
 rcases Nat.eq_zero_or_pos a with rfl|ha
 ·unfold Toward.cut
  have h:0<1<<<min d (Nat.log2 (0*2^d)+2):=by rw [Nat.one_shiftLeft];exact Nat.two_pow_pos _
  cases way<;>simp [Nat.ne_of_gt h]
 ·have hl:d≤(a*2^d).log2+2:=by
   have:d≤(a*2^d).log2:=(Nat.le_log2 (Nat.ne_of_gt (Nat.mul_pos ha (Nat.two_pow_pos d)))).2 (Nat.le_mul_of_pos_left _ ha)
   omega
  have hp:=Nat.two_pow_pos d
  unfold Toward.cut
  simp only [Nat.min_eq_left hl,Nat.one_shiftLeft,Nat.mul_div_cancel _ hp,Nat.mul_mod_left]
  cases way<;>simp [Nat.ne_of_gt hp]
theorem jf{m:Nat}(h:0<m)(k:Nat):(m*2^k).log2=m.log2+k:=by
 have hp:=Nat.two_pow_pos k
 refine(Nat.log2_eq_iff (Nat.ne_of_gt (Nat.mul_pos h hp))).2 ⟨?_,?_⟩
 ·rw [Nat.pow_add];exact Nat.mul_le_mul_right _ (Nat.log2_self_le (Nat.ne_of_gt h))
 ·have:= @Nat.lt_log2_self m
  rw [show m.log2+k+1=(m.log2+1)+k by omega,Nat.pow_add]
  exact Nat.mul_lt_mul_of_pos_right this hp
def fill(m:Nat):Nat:=52 - m.log2
theorem qy{m:Nat}(h:m<2^53)(h0:0<m):m.log2≤52:=by
 have:=(Nat.log2_lt (Nat.ne_of_gt h0)).2 h
 omega
theorem jg(m:Nat):fill m≤52:=Nat.sub_le ..
theorem z1{m:Nat}(h:m<2^53)(h0:0<m):2^52≤m*2^fill m:=by
 have h1:=Nat.log2_self_le (Nat.ne_of_gt h0)
 have h2:=qy h h0
 have:=Nat.mul_le_mul_right (2^fill m) h1
 rw [←Nat.pow_add,show m.log2+fill m=52 by unfold fill;omega]at this
 exact this
theorem ll{m:Nat}(h:m<2^53)(h0:0<m):m*2^fill m<2^53:=by
 have h1:= @Nat.lt_log2_self m
 have h2:=qy h h0
 have:=Nat.mul_lt_mul_of_pos_right h1 (Nat.two_pow_pos (fill m))
 rw [←Nat.pow_add,show m.log2+1+fill m=53 by unfold fill;omega]at this
 exact this
theorem mV{m:Nat}(h:m<2^53)(h0:0<m):(m*2^fill m).log2=52:=by
 rw [jf h0]
 have:=qy h h0
 unfold fill;omega
abbrev dN(neg:Bool)(m:Nat)(p:Int):Nat:=double.nearest neg m p
theorem qz(neg:Bool){m:Nat}(h0:0<m)(h:m<2^53)(k:Nat){p:Int}(hp: -900≤p)(hq:p≤900):
    dN neg (m*2^k) (p - k)=double.word neg ((p - fill m+1074).toNat*2^52+m*2^fill m):=by
  have hL:=qy h h0
  have hm:m*2^k≠0:=Nat.ne_of_gt (Nat.mul_pos h0 (Nat.two_pow_pos k))
  have hf:double.fractionBits=52:=rfl
  have hl:double.leastPlace= -1074:=by decide
  have hb:double.binade=2^52:=rfl
  have hi:double.infRung=2047*2^52:=by decide
  have hlast:max (p - k+((m*2^k).log2:Nat) - (52:Nat)) (-1074:Int)=p - fill m:=by
    rw [jf h0]
    unfold fill
    omega
  have hkept:Toward.even.cut neg ((m*2^k)<<<((p - k) - (p - fill m)).toNat) ((p - fill m) - (p - k)).toNat=m*2^fill m:=by
    rcases Nat.le_total k (fill m)with hk|hk
    · rw [show((p - k) - (p - fill m)).toNat=fill m - k by omega,show((p - fill m) - (p - k)).toNat=0 by omega,Nat.shiftLeft_eq,Nat.mul_assoc,←Nat.pow_add,show k+(fill m - k)=fill m by omega]
      have:=og .even neg (m*2^fill m) 0
      rwa [Nat.pow_zero,Nat.mul_one]at this
    · rw [show((p - k) - (p - fill m)).toNat=0 by omega,show((p - fill m) - (p - k)).toNat=k - fill m by omega,Nat.shiftLeft_zero,
        show m*2^k=(m*2^fill m)*2^(k - fill m)by rw [Nat.mul_assoc,←Nat.pow_add];congr 2;omega]
      exact og ..
  unfold dN Format.nearest
  rw [if_neg hm]
  simp only [hf,hl,hb,hi,hlast,hkept]
  rw [Nat.min_eq_left]
  · congr 3
  · have h1:=ll h h0
    have h2:(p - fill m - -1074).toNat≤1974:=by omega
    have h3:=Nat.mul_le_mul_right (2^52) h2
    exact Nat.le_trans (Nat.add_le_add h3 (Nat.le_of_lt h1)) aE
theorem xm(neg:Bool){m:Nat}(h0:0<m)(h:m<2^53)(k:Nat){p:Int}(hp: -900≤p)(hq:p≤900):dN neg (m*2^k) (p - k)=dN neg m p:=by
 have h2:=qz neg h0 h 0 hp hq
 rw [qz neg h0 h k hp hq,←h2]
 simp
theorem near_scale'(neg:Bool){m M:Nat}(h0:0<m)(h:m<2^53)(k:Nat){p P:Int}(hp: -900≤p)(hq:p≤900)(hM:M=m*2^k)(hP:P=p - k):dN neg M P=dN neg m p:=by
 subst hM;subst hP;exact xm neg h0 h k hp hq
theorem gc(neg:Bool){m:Nat}(h0:0<m)(h:m<2^53){p:Int}(hp: -900≤p)(hq:p≤900):
  dN neg m p=double.word neg ((p - fill m+1074).toNat*2^52+m*2^fill m):=by
 have h2:=qz neg h0 h 0 hp hq
 rw [←h2]
 simp
theorem z3{m:Nat}(h0:0<m)(h:m<2^53){p:Int}(hq:p≤900):(p - fill m+1074).toNat*2^52+m*2^fill m<1976*2^52:=by
 have h1:=ll h h0
 have h2:(p - fill m+1074).toNat≤1974:=by omega
 have:=Nat.mul_le_mul_right (2^52) h2
 omega
theorem sJ(neg:Bool){m:Nat}(h0:0<m)(h:m<2^53){p:Int}(hp: -900≤p)(hq:p≤900):
  double.read (dN neg m p)= .number neg (m*2^fill m) (p - fill m):=by
 have h1:=z1 h h0
 have h2:=ll h h0
 have h3:=z3 h0 h hq
 have hA:0≤p - fill m+1074:=by have:=jg m;omega
 rw [gc neg h0 h hp hq]
 generalize hK:m*2^fill m=K at*
 generalize hAA:(p - fill m+1074).toNat=A at*
 have hl:double.leastPlace= -1074:=by decide
 have hb:double.binade=2^52:=rfl
 have hi:double.infRung=2047*2^52:=by decide
 have hs:double.signWeight=2^63:=by decide
 have hneg:(double.word neg (A*2^52+K)/2^63%2==1)=neg:=by
  unfold Format.word
  rw [hs]
  cases neg
  ·simp only [Bool.false_eq_true,↓reduceIte]
   rw [Nat.div_eq_of_lt aC];rfl
  ·simp only [↓reduceIte]
   rw [show(2^63+(A*2^52+K))/2^63=1 by omega];rfl
 have hr:double.word neg (A*2^52+K)%2^63=A*2^52+K:=by
  unfold Format.word
  rw [hs]
  cases neg
  ·simp only [Bool.false_eq_true,↓reduceIte]
   exact Nat.mod_eq_of_lt aC
  ·simp only [↓reduceIte]
   omega
 unfold Format.read
 simp only [hl,hb,hi,hs,hneg,hr]
 rw [if_neg aC,if_pos aC]
 congr 1
 ·omega
 ·rw [show(A*2^52+K)/2^52 - 1=A by omega];omega
theorem q9(neg:Bool)(m:Nat)(p:Int):double.write (.number neg m p)=dN neg m p:=rfl
theorem DY{m:Nat}(h0:0<m)(h:m<2^53){p:Int}(hp: -900≤p)(hq:p≤900):dN false m p^^^2^63=dN true m p:=by
  have h3:=z3 h0 h hq
  rw [gc _ h0 h hp hq,gc _ h0 h hp hq]
  generalize (p - fill m+1074).toNat*2^52+m*2^fill m=R at*
  have hs:double.signWeight=2^63:=by decide
  unfold Format.word
  rw [hs]
  simp only [Bool.false_eq_true,↓reduceIte]
  have hR:R<2^63:=by omega
  apply Nat.eq_of_testBit_eq
  intro i
  rw [Nat.testBit_xor,Nat.testBit_two_pow]
  rcases Nat.lt_trichotomy i 63 with hi|hi|hi
  · rw [Nat.testBit_two_pow_add_gt hi]
    simp [show ¬ 63=i by omega]
  · subst hi
    rw [Nat.testBit_two_pow_add_eq,Nat.testBit_lt_two_pow hR]
    simp
  · rw [Nat.testBit_lt_two_pow (Nat.lt_trans hR (Nat.pow_lt_pow_right aC hi)),Nat.testBit_lt_two_pow (Nat.lt_of_lt_of_le (by omega:2^63+R<2^64) (Nat.pow_le_pow_right aC hi))]
    simp [show ¬ 63=i by omega]
theorem DZ(s t:Bool){a b c k:Nat}{p q:Int}(ha:0<a)(ha':a<2^53)(hb:0<b)(hb':b<2^53)(hc':c<2^53)(hab:a*b=c*2^k)
    (hp: -400≤p) (hp':p≤400) (hq: -400≤q) (hq':q≤400) (hk:k≤100):double.mul (dN s a p) (dN t b q)=some (dN (s^^t) c (p+q+k)):=by
  have hc:0<c:=by
    rcases Nat.eq_zero_or_pos c with rfl|h
    · have:=Nat.mul_pos ha hb;omega
    · exact h
  unfold Format.mul
  rw [sJ s ha ha' aC aC,sJ t hb hb' aC aC]
  show some (dN (s^^t) _ _)=_
  congr 1
  refine near_scale' _ hc hc' (k+fill a+fill b) aC aC ?_ aC
  rw [Nat.pow_add,Nat.pow_add]
  calc a*2^fill a*(b*2^fill b)=(a*b)*(2^fill a*2^fill b):=by ac_rfl
    _=c*(2^k*2^fill a*2^fill b):=by rw [hab];ac_rfl
theorem GK(s t:Bool){A B:Nat}(p q:Int)(hB:0<B)(hA:A.log2=52)(hl:B.log2=52){X:Nat}(hX:A<<<54=X*B):Datum.quotient 54 (.number s A p) (.number t B q)=some (.number (s^^t) (2*X) (p - q - 54 - 1)):=by
 unfold Datum.quotient
 simp only [if_neg (Nat.ne_of_gt hB),hA,hl,Nat.add_sub_cancel]
 rw [hX,Nat.mul_div_cancel _ hB,Nat.mul_mod_left]
 rfl
theorem Da{a b c h x y:Nat}(hab:a*2^h=b*c)(hh:h≤2)(hy:y≤52):(a*2^x)<<<54=(c*2^(54+x - h - y))*(b*2^y):=by
 rw [Nat.shiftLeft_eq]
 have e1:a*2^x*2^54=a*2^h*2^(54+x - h - y)*2^y:=by
  rw [Nat.mul_assoc,Nat.mul_assoc (a*2^h),Nat.mul_assoc a,←Nat.pow_add,←Nat.pow_add,←Nat.pow_add]
  congr 2;omega
 rw [e1,hab];ac_rfl
theorem Mj{a b c h:Nat}(ha:0<a)(hab:a*2^h=b*c):0<c:=by
 rcases Nat.eq_zero_or_pos c with rfl|hc
 ·have:=Nat.mul_pos ha (Nat.two_pow_pos h);rw [hab]at this;exact absurd this aJ
 ·exact hc
theorem BW(c X:Nat):2*(c*2^X)=c*2^(X+1):=by
 rw [Nat.pow_succ]
 ac_rfl
theorem Db(s t:Bool){a b c h:Nat}{p q:Int}(ha:0<a)(ha':a<2^53)(hb:0<b)(hb':b<2^53)(hc':c<2^53)(hab:a*2^h=b*c)(hh:h≤2)
  (hp: -400≤p) (hp':p≤400) (hq: -400≤q) (hq':q≤400):double.div (dN s a p) (dN t b q)=some (dN (s^^t) c (p - q - h)):=by
 have hd:=Da (x:=fill a) (y:=fill b) hab hh (jg b)
 have hq2:=GK s t (p - fill a) (q - fill b) (Nat.mul_pos hb (Nat.two_pow_pos _)) (mV ha' ha) (mV hb' hb) hd
 have h54:double.fractionBits+2=54:=rfl
 have hfa:=jg a
 have hfb:=jg b
 unfold Format.div
 rw [sJ s ha ha' aC aC,sJ t hb hb' aC aC,h54,hq2,Option.map_some,q9]
 exact congrArg some (near_scale' _ (Mj ha hab) hc' (54+fill a - h - fill b+1) aC aC (BW _ _) aC)
theorem ji(s:Bool)(m j k:Nat):signed s (m*2^k) j=signed s m (k+j):=by
 unfold signed
 rw [Nat.shiftLeft_eq,Nat.shiftLeft_eq,Nat.mul_assoc,←Nat.pow_add]
theorem fH(s:Bool)(m j k:Nat):signed s m (j+k)=signed s m j*((2^k:Nat):Int):=by
 unfold signed
 rw [Nat.shiftLeft_eq,Nat.shiftLeft_eq,Nat.pow_add,←Nat.mul_assoc]
 cases s
 ·simp only [Bool.false_eq_true,↓reduceIte];rw [Int.natCast_mul]
 ·simp only [↓reduceIte];rw [Int.natCast_mul,Int.neg_mul]
theorem ku(x y:Int){k:Int}(hk:0<k):compare (x*k) (y*k)=compare x y:=by
 simp only [Int.compare_eq_ite_lt]
 have h1:x*k<y*k↔x<y:=⟨fun h=>Int.lt_of_mul_lt_mul_right h (Int.le_of_lt hk),fun h=>Int.mul_lt_mul_of_pos_right h hk⟩
 have h2:y*k<x*k↔y<x:=⟨fun h=>Int.lt_of_mul_lt_mul_right h (Int.le_of_lt hk),fun h=>Int.mul_lt_mul_of_pos_right h hk⟩
 simp only [h1,h2]
theorem iT(s t:Bool){a b:Nat}{p q B:Int}(ha:0<a)(ha':a<2^53)(hb:0<b)(hb':b<2^53)
    (hp: -900≤p) (hp':p≤900) (hq: -900≤q) (hq':q≤900) (hB:B≤p) (hB':B≤q):double.order (dN s a p) (dN t b q)=some (compare (signed s a (p - B).toNat) (signed t b (q - B).toNat)):=by
  unfold Format.order
  rw [sJ s ha ha' hp hp',sJ t hb hb' hq hq']
  unfold Datum.order
  simp only []
  congr 1
  rw [ji,ji]
  generalize hm:min (p - fill a) (q - fill b)=M
  have h1:M≤p - fill a:=by omega
  have h2:M≤q - fill b:=by omega
  rcases Int.le_total M B with h|h
  · rw [show fill a+(p - fill a - M).toNat=(p - B).toNat+(B - M).toNat by omega,show fill b+(q - fill b - M).toNat=(q - B).toNat+(B - M).toNat by omega,fH,fH]
    exact ku _ _ (Int.natCast_pos.2 (Nat.two_pow_pos _))
  · rw [show(p - B).toNat=(fill a+(p - fill a - M).toNat)+(M - B).toNat by omega,show(q - B).toNat=(fill b+(q - fill b - M).toNat)+(M - B).toNat by omega,fH s a (fill a+(p - fill a - M).toNat) (M - B).toNat,fH t b (fill b+(q - fill b - M).toNat) (M - B).toNat]
    exact(ku _ _ (Int.natCast_pos.2 (Nat.two_pow_pos _))).symm
theorem mX(s:Bool){m j:Nat}(h0:0<m)(h:m<2^53)(hj:j≤2):(double.read (dN s m (-(j:Int)))).toInt .zero=some (if s then -((m/2^j:Nat):Int)else((m/2^j:Nat):Int)):=by
 rw [sJ s h0 h aC aC]
 unfold Datum.toInt Datum.integral
 have hf:=jg m
 simp only []
 rw [show(-(j:Int) - fill m).toNat=0 by omega,show(-(-(j:Int) - fill m)).toNat=j+fill m by omega,Nat.shiftLeft_zero]
 have hcut:Toward.zero.cut s (m*2^fill m) (j+fill m)=m/2^j:=by
  unfold Toward.cut
  rw [mV h h0,Nat.min_eq_left aC,Nat.one_shiftLeft,Nat.pow_add]
  simp only [Bool.toNat_false,Nat.add_zero]
  exact Nat.mul_div_mul_right _ _ (Nat.two_pow_pos _)
 rw [hcut]
 unfold signed
 simp
theorem BX:double.read 0= .number false 0 (-1074):=by decide
theorem xn(s:Bool){a:Nat}{p:Int}(ha:0<a)(ha':a<2^53)(hp: -900≤p)(hp':p≤900):double.order (dN s a p) 0=some (if s then .lt else .gt):=by
 unfold Format.order
 rw [sJ s ha ha' hp hp',BX]
 unfold Datum.order signed
 simp only [Nat.shiftLeft_eq,Nat.zero_mul,Bool.false_eq_true,↓reduceIte]
 have:=Nat.mul_pos (Nat.mul_pos ha (Nat.two_pow_pos (fill a))) (Nat.two_pow_pos (p - fill a - min (p - fill a) (-1074)).toNat)
 cases s
 ·simp only [Bool.false_eq_true,↓reduceIte,Int.compare_eq_ite_lt]
  rw [if_neg aC,if_pos aC]
 ·simp only [↓reduceIte,Int.compare_eq_ite_lt]
  rw [if_pos aC]
end Go.Jw

namespace Go.Jw
open Ieee
def qw(n:Int):Nat:=dN (decide (n<0)) n.natAbs (-2)
theorem tv(s:Bool){m a n:Nat}(hn:0<n)(hn':n<2^53)(hm:m<2^53)(hb:10^a<2^53)(h:m*4=10^a*n):double.div (dN s m 0) (dN false (10^a) 0)=some (dN s n (-2)):=by
 have hp:0<10^a:=Nat.pow_pos aC
 have h0:0<m:=by
  rcases Nat.eq_zero_or_pos m with rfl|h0
  ·have:=Nat.mul_pos hp hn;omega
  ·exact h0
 have:=Db (p:=0) (q:=0) (h:=2) s false h0 hm hp hb hn' h aC aC aC aC aC
 simpa using this
section
variable {n:Int} (h0:n≠0) (h1: -1000000000<n) (h2:n<1000000000)
 include h0 h1 h2
theorem BY:0<n.natAbs∧n.natAbs<2^53∧n.natAbs<1000000000:=by omega
theorem Dc(t:Bool):double.order (qw n) (dN t 1000000000000 0)=some (if t then .gt else .lt):=by
 obtain⟨a1,a2,a3⟩:=BY h0 h1 h2
 unfold qw
 rw [iT (B:= -2) _ t a1 a2 aC aC aC aC aC aC aC aC]
 congr 1
 rw [show((-2:Int) - -2).toNat=0 from rfl,show((0:Int) - -2).toNat=2 from rfl]
 unfold signed
 simp only [Nat.shiftLeft_eq]
 cases t<;>by_cases hs:n<0<;>simp only [hs,decide_true,decide_false,Bool.false_eq_true,↓reduceIte,Int.compare_eq_ite_lt]<;>(repeat' split)<;>first|rfl|omega
theorem GL:double.mul (qw n) (dN false 4 0)=some (dN (decide (n<0)) n.natAbs 0):=by
 obtain⟨a1,a2,a3⟩:=BY h0 h1 h2
 have:=DZ (p:= -2) (q:=0) (k:=2) (c:=n.natAbs) (decide (n<0)) false a1 a2 (b:=4) aC aC a2 rfl aC aC aC aC aC
 unfold qw
 rw [this]
 simp
theorem Dd:(double.read (dN (decide (n<0)) n.natAbs 0)).toInt .zero=some n:=by
 obtain⟨a1,a2,a3⟩:=BY h0 h1 h2
 have:=mX (decide (n<0)) (j:=0) a1 a2 aC
 rw [show(-((0:Nat):Int))=0 from rfl]at this
 rw [this]
 simp only [Nat.pow_zero,Nat.div_one,Option.some.injEq]
 by_cases hs:n<0<;>simp [hs]<;>omega
theorem Mk:double.order (dN (decide (n<0)) n.natAbs 0) (dN (decide (n<0)) n.natAbs 0)=some .eq:=by
 obtain⟨a1,a2,a3⟩:=BY h0 h1 h2
 rw [iT (B:=0) _ _ a1 a2 a1 a2 aC aC aC aC aC aC]
 simp [Int.compare_eq_ite_lt]
theorem J1:(double.read (qw n)).toInt .zero=some (n.tdiv 4):=by
 obtain⟨a1,a2,a3⟩:=BY h0 h1 h2
 have:=mX (decide (n<0)) (j:=2) a1 a2 aC
 rw [show(-((2:Nat):Int))= -2 from rfl]at this
 unfold qw
 rw [this,Option.some.injEq]
 by_cases hs:n<0
 ·simp only [hs,decide_true,↓reduceIte]
  have h3:n= -(n.natAbs:Int):=by omega
  conv=>rhs;rw [h3]
  rw [Int.neg_tdiv,show((4:Int))=((4:Nat):Int)from rfl,←Int.ofNat_tdiv]
 ·simp only [hs,decide_false,Bool.false_eq_true,↓reduceIte]
  have h3:n=(n.natAbs:Int):=by omega
  conv=>rhs;rw [h3]
  rw [show((4:Int))=((4:Nat):Int)from rfl,←Int.ofNat_tdiv]
theorem Ml(hm:n.tmod 4≠0):double.order (qw n) (dN (decide (n.tdiv 4<0)) (n.tdiv 4).natAbs 0)≠some .eq:=by
  obtain⟨a1,a2,a3⟩:=BY h0 h1 h2
  have e:=Int.tdiv_mul_add_tmod n 4
  rcases Decidable.em (n.tdiv 4=0)with hz|hz
  · rw [hz]
    have:=xn (decide (n<0)) a1 a2 (p:= -2) aC aC
    unfold qw
    rw [show dN (decide ((0:Int)<0)) (0:Int).natAbs 0=0 from rfl,this]
    split<;>simp
  · have b1:0<(n.tdiv 4).natAbs:=by omega
    have b2:(n.tdiv 4).natAbs<2^53:=by
      have:=Int.natAbs_tdiv_le_natAbs n 4
      omega
    unfold qw
    rw [iT (B:= -2) _ _ a1 a2 b1 b2 aC aC aC aC aC aC]
    rw [show((-2:Int) - -2).toNat=0 from rfl,show((0:Int) - -2).toNat=2 from rfl]
    have s1:signed (decide (n<0)) n.natAbs 0=n:=by
      unfold signed
      rw [Nat.shiftLeft_zero]
      by_cases hs:n<0<;>simp [hs]<;>omega
    generalize n.tdiv 4=z at*
    have s2:signed (decide (z<0)) z.natAbs 2=4*z:=by
      unfold signed
      rw [Nat.shiftLeft_eq]
      by_cases hs:z<0<;>simp only [hs,decide_true,decide_false,Bool.false_eq_true,↓reduceIte]<;>omega
    rw [s1,s2]
    simp only [Int.compare_eq_ite_lt]
    (repeat' split)<;>first|(exfalso;omega)|simp
end
theorem J2:dN false 1000000000000 0=4786511204640096256:=by decide
theorem GM:dN true 1000000000000 0=14009883241494872064:=by decide
theorem Rf:dN false 4 0=4616189618054758400:=by decide
theorem PO:dN false (10^1) 0=4621819117588971520:=by decide
theorem Mm:dN false (10^2) 0=4636737291354636288:=by decide
theorem BZ:dN false (10^6) 0=4696837146684686336:=by decide
end Go.Jw

namespace Go.Jw
open Go Go.RowKit

inductive EV where
  |str (s:ByteArray)
  |bool (x:Bool)
inductive dZ where
  |text (s:ByteArray)
  |bool (x:Bool)
  |int (n:Int)
  |numI (n:Int)
  |numF (f:Nat)
  |sbS (b:Nat)
  |sbB (x:Bool)
  |itS (b:Nat)
  |itL (bs:List Nat)
  |texts (l:List ByteArray)
  |named (l:List (ByteArray×Nat))
  |deps (l:List (ByteArray×List ByteArray))
  |enums (l:List EV)
  |tyS (s:ByteArray)
  |tyL (l:List ByteArray)
  |list (bs:List Nat)
  |one (b:Nat)
  |any
abbrev ptr(b:Nat):Value:= .pointer (some ⟨b,0,none⟩)
def PtsTo(w:World)(ok:Nat→Prop)(p:Addr)(v:Value):Prop:=ok p.block∧w.cell? p=some v
def BlkP(w:World)(ok:Nat→Prop)(b:Nat)(cs:List Value)(T:TypeId):Prop:=ok b∧w.heap[b]? =some (.cells cs.toArray T (0,0))
def RowPtrs(w:World)(ok:Nat→Prop)(v:Value)(bs:List Nat):Prop:= ∃A c,v= .slice A bs.length c∧bs.length≤c∧c≤maxLen∧ ∀ i b,bs[i]? =some b→ ∃a,A=some a∧ok a.block∧w.cell? (a.add i)=some (ptr b)
def EvP(w:World)(ok:Nat→Prop)(e:EV)(u v:Value):Prop:=match e with
  | .str s=> ∃p,u= .pointer (some p)∧v= .pointer none∧s.size≤maxLen∧PtsTo w ok p (.string s)
  | .bool x=> ∃p,u= .pointer none∧v= .pointer (some p)∧PtsTo w ok p (.bool x)
def FvP(w:World)(ok:Nat→Prop):dZ→Value→Prop
  | .text s,v=> ∃p,v= .pointer (some p)∧s.size≤maxLen∧PtsTo w ok p (.string s)
  | .bool x,v=> ∃p,v= .pointer (some p)∧PtsTo w ok p (.bool x)
  | .int n,v=> ∃p,v= .pointer (some p)∧PtsTo w ok p (.int .i64 n)
  | .numI n,v=> ∃b p,v=ptr b∧BlkP w ok b [.pointer (some p), .pointer none] 213∧PtsTo w ok p (.int .i64 n)
  | .numF f,v=> ∃b p,v=ptr b∧BlkP w ok b [.pointer none, .pointer (some p)] 213∧PtsTo w ok p (.float .f64 f)
  | .sbS c,v=> ∃b,v=ptr b∧BlkP w ok b [ptr c, .pointer none] 185
  | .sbB x,v=> ∃b p,v=ptr b∧BlkP w ok b [.pointer none, .pointer (some p)] 185∧PtsTo w ok p (.bool x)
  | .itS c,v=> ∃b,v=ptr b∧BlkP w ok b [ptr c, .pointer none] 187
  | .itL bs,v=> ∃b p sl,v=ptr b∧BlkP w ok b [.pointer none, .pointer (some p)] 187∧PtsTo w ok p sl∧RowPtrs w ok sl bs
  | .texts l,v=> ∃p sl,v= .pointer (some p)∧PtsTo w ok p sl∧StrsP w ok sl l
  | .named l,v=> ∃p sl nbs,v= .pointer (some p)∧PtsTo w ok p sl∧RowPtrs w ok sl nbs∧nbs.length=l.length∧ ∀ (i:Nat) (q:ByteArray×Nat) (nb:Nat),l[i]? =some q→nbs[i]? =some nb→q.1.size≤maxLen∧BlkP w ok nb [.string q.1,ptr q.2] 179
  | .deps l,v=> ∃p sl nbs,v= .pointer (some p)∧PtsTo w ok p sl∧RowPtrs w ok sl nbs∧nbs.length=l.length∧ ∀ (i:Nat) (q:ByteArray×List ByteArray) (nb:Nat),l[i]? =some q→nbs[i]? =some nb→
      ∃tb p2 sl2,q.1.size≤maxLen∧BlkP w ok nb [.string q.1,ptr tb] 192∧BlkP w ok tb [.pointer none, .pointer (some p2)] 194∧PtsTo w ok p2 sl2∧StrsP w ok sl2 q.2
  | .enums l,v=> ∃p A c,v= .pointer (some p)∧PtsTo w ok p (.slice A l.length c)∧l.length≤c∧c≤maxLen∧ ∀ i e,l[i]? =some e→ ∃a u u',A=some a∧ok a.block∧w.cell? (a.add (i*2))=some u∧w.cell? (a.add (i*2+1))=some u'∧EvP w ok e u u'
  | .tyS s,v=> ∃b p,v=ptr b∧s.size≤maxLen∧BlkP w ok b [.pointer (some p), .pointer none] 196∧PtsTo w ok p (.string s)
  | .tyL l,v=> ∃b p sl,v=ptr b∧BlkP w ok b [.pointer none, .pointer (some p)] 196∧PtsTo w ok p sl∧StrsP w ok sl l
  | .list bs,v=> ∃p sl,v= .pointer (some p)∧PtsTo w ok p sl∧RowPtrs w ok sl bs
  | .one c,v=>v=ptr c
  | .any,v=> ∃p,v= .pointer (some p)
section
variable {w w':World} {ok ok':Nat→Prop}
theorem PtsTo.mono(h1: ∀ k,ok k→ok' k)(h2: ∀ k,ok k→w'.heap[k]? =w.heap[k]?){p:Addr}{v:Value}(h:PtsTo w ok p v):PtsTo w' ok' p v:=
 ⟨h1 _ h.1,by rw [uV (w:=w) (w':=w') (h2 _ h.1)];exact h.2⟩
theorem BlkP.mono(h1: ∀ k,ok k→ok' k)(h2: ∀ k,ok k→w'.heap[k]? =w.heap[k]?){b:Nat}{cs:List Value}{T:TypeId}(h:BlkP w ok b cs T):BlkP w' ok' b cs T:=⟨h1 _ h.1,(h2 _ h.1).trans h.2⟩
theorem pJ(h2: ∀ k,ok k→w'.heap[k]? =w.heap[k]?){a:Addr}{i:Nat}{v:Value}(hok:ok a.block)(h:w.cell? (a.add i)=some v):w'.cell? (a.add i)=some v:=by
 rw [uV (w:=w) (w':=w') (a:=a.add i) bQ];exact h
theorem RowPtrs.mono(h1: ∀ k,ok k→ok' k)(h2: ∀ k,ok k→w'.heap[k]? =w.heap[k]?){v:Value}{bs:List Nat}(h:RowPtrs w ok v bs):RowPtrs w' ok' v bs:=by
 obtain⟨A,c,hv,hl,hc,hk⟩:=h
 refine⟨A,c,hv,hl,hc,fun i b hi=>?_⟩
 obtain⟨a,ha,hok,hcell⟩:=hk i b hi
 exact⟨a,ha,h1 _ hok,pJ h2 hok hcell⟩
theorem EvP.mono(h1: ∀ k,ok k→ok' k)(h2: ∀ k,ok k→w'.heap[k]? =w.heap[k]?){e:EV}{u v:Value}(h:EvP w ok e u v):EvP w' ok' e u v:=by
  cases e with
  |str s=>obtain⟨p,a,b,c,d⟩:=h;exact⟨p,a,b,c,d.mono h1 h2⟩
  |bool x=>obtain⟨p,a,b,d⟩:=h;exact⟨p,a,b,d.mono h1 h2⟩
theorem FvP.mono(h1: ∀ k,ok k→ok' k)(h2: ∀ k,ok k→w'.heap[k]? =w.heap[k]?){f:dZ}{v:Value}(h:FvP w ok f v):FvP w' ok' f v:=by
  cases f with
  |text s=>obtain⟨p,a,b,c⟩:=h;exact⟨p,a,b,c.mono h1 h2⟩
  |bool x=>obtain⟨p,a,b⟩:=h;exact⟨p,a,b.mono h1 h2⟩
  |int n=>obtain⟨p,a,b⟩:=h;exact⟨p,a,b.mono h1 h2⟩
  |numI n=>obtain⟨b,p,a,c,d⟩:=h;exact⟨b,p,a,c.mono h1 h2,d.mono h1 h2⟩
  |numF n=>obtain⟨b,p,a,c,d⟩:=h;exact⟨b,p,a,c.mono h1 h2,d.mono h1 h2⟩
  |sbS c=>obtain⟨b,a,d⟩:=h;exact⟨b,a,d.mono h1 h2⟩
  |sbB x=>obtain⟨b,p,a,c,d⟩:=h;exact⟨b,p,a,c.mono h1 h2,d.mono h1 h2⟩
  |itS c=>obtain⟨b,a,d⟩:=h;exact⟨b,a,d.mono h1 h2⟩
  |itL bs=>obtain⟨b,p,sl,a,c,d,e⟩:=h;exact⟨b,p,sl,a,c.mono h1 h2,d.mono h1 h2,e.mono h1 h2⟩
  |texts l=>obtain⟨p,sl,a,d,e⟩:=h;exact⟨p,sl,a,d.mono h1 h2,e.mono h1 h2⟩
  |named l=>
    obtain⟨p,sl,nbs,a,d,e,f,g⟩:=h
    exact⟨p,sl,nbs,a,d.mono h1 h2,e.mono h1 h2,f,fun i q nb hq hnb=>⟨(g i q nb hq hnb).1,(g i q nb hq hnb).2.mono h1 h2⟩⟩
  |deps l=>
    obtain⟨p,sl,nbs,a,d,e,f,g⟩:=h
    refine⟨p,sl,nbs,a,d.mono h1 h2,e.mono h1 h2,f,fun i q nb hq hnb=>?_⟩
    obtain⟨tb,p2,sl2,a1,a2,a3,a4,a5⟩:=g i q nb hq hnb
    exact⟨tb,p2,sl2,a1,a2.mono h1 h2,a3.mono h1 h2,a4.mono h1 h2,a5.mono h1 h2⟩
  |enums l=>
    obtain⟨p,A,c,a,d,e,f,g⟩:=h
    refine⟨p,A,c,a,d.mono h1 h2,e,f,fun i q hq=>?_⟩
    obtain⟨a,u,u',a1,a2,a3,a4,a5⟩:=g i q hq
    exact⟨a,u,u',a1,h1 _ a2,pJ h2 a2 a3,pJ h2 a2 a4,a5.mono h1 h2⟩
  |tyS s=>obtain⟨b,p,a,c,d,e⟩:=h;exact⟨b,p,a,c,d.mono h1 h2,e.mono h1 h2⟩
  |tyL l=>obtain⟨b,p,sl,a,c,d,e⟩:=h;exact⟨b,p,sl,a,c.mono h1 h2,d.mono h1 h2,e.mono h1 h2⟩
  |list bs=>obtain⟨p,sl,a,d,e⟩:=h;exact⟨p,sl,a,d.mono h1 h2,e.mono h1 h2⟩
  |one c=>exact h
  |any=>exact h
end
def DA.fv(v:Value)(f:dZ):DA:=⟨fun w ok=>FvP w ok f v,fun h1 h2 h=>FvP.mono h1 h2 h⟩
def DA.pts(p:Addr)(v:Value):DA:=⟨fun w ok=>PtsTo w ok p v,fun h1 h2 h=>PtsTo.mono h1 h2 h⟩
def DA.rowp(v:Value)(bs:List Nat):DA:=⟨fun w ok=>RowPtrs w ok v bs,fun h1 h2 h=>RowPtrs.mono h1 h2 h⟩
abbrev Flds:=Nat→Option dZ
def CellsP(w:World)(ok:Nat→Prop)(mb:Nat)(cs:List Value)(f:Flds):Prop:=
  cs.length=37∧cs[0]? =some (.map (some mb))∧ ∀ i,1≤i→i≤36→ ∃u,cs[i]? =some u∧match f i with
    |none=>u= .pointer none
    |some v=>FvP w ok v u
theorem CellsP.mono{w w':World}{ok ok':Nat→Prop}(h1: ∀ k,ok k→ok' k)(h2: ∀ k,ok k→w'.heap[k]? =w.heap[k]?){mb:Nat}{cs:List Value}{f:Flds}(h:CellsP w ok mb cs f):CellsP w' ok' mb cs f:=by
  refine⟨h.1,h.2.1,fun i hi hj=>?_⟩
  obtain⟨u,hu,hm⟩:=h.2.2 i hi hj
  refine⟨u,hu,?_⟩
  cases hf:f i with
  |none=>rw [hf]at hm;exact hm
  |some v=>rw [hf]at hm;exact FvP.mono h1 h2 hm
def DA.flds(mb:Nat)(cs:List Value)(f:Flds):DA:=⟨fun w ok=>CellsP w ok mb cs f,fun h1 h2 h=>CellsP.mono h1 h2 h⟩
abbrev Gr:=List (Nat×List Value×Flds)
def DA.graph(mb:Nat)(G:Gr):DA:=⟨fun w ok=> ∀ g∈G,CellsP w ok mb g.2.1 g.2.2,fun h1 h2 h g hg=>CellsP.mono h1 h2 (h g hg)⟩
def Gr.blks(G:Gr):List (Nat×List Value):=G.map fun g=>(g.1,g.2.1)
def Gr.at(G:Gr)(b:Nat)(f:Flds):Prop:= ∃cs,(b,cs,f)∈G
def Flds.set(f:Flds)(i:Nat)(v:dZ):Flds:=fun j=>if j=i then some v else f j

section rules
variable {P:Program} {n:Nat} {F:List Nat} {c:Ctx F} {ops:Array Oper} {d:Nat} {T:TypeId} {l:List Oper} {k:List KI} {Q:cu} {e:dF} {M:List HA} {D:List DA}
theorem yZ(x:DA)(h: ∀ (w:World) (ok:Nat→Prop),(∀ d∈D,d.p w ok)→x.p w ok)(next:Run P n c k Q e M (x::D)):Run P n c k Q e M D:=
 uJ (D':=x::D) (fun w ok hd y hy=>(List.mem_cons.1 hy).elim (fun e=>e▸h w ok hd) (hd y)) next
theorem mY(x:DA)(h: ∀ (w:World) (ok:Nat→Prop),(∀ d∈D,d.p w ok)→x.p w ok)(next:cG P n c ops l k Q e M (x::D)):cG P n c ops l k Q e M D:=
 fm (D':=x::D) (fun w ok hd y hy=>(List.mem_cons.1 hy).elim (fun e=>e▸h w ok hd) (hd y)) next
theorem dget{w:World}{ok:Nat→Prop}(h: ∀ d∈D,d.p w ok)(j:Nat){x:DA}(hj:D[j]? =some x):x.p w ok:=h x (List.mem_of_getElem? hj)
theorem xU(j:Nat){x:Operand}{p:Addr}{v:Value}(hT:cT P T)(hd:Nat.blt d n=true)(hx:ev e x=some (.pointer (some p)))(hj:D[j]? =some (.pts p v))
  (next:cG P n c ops l k Q ((d,v)::e) M D) {T':TypeId}:cL P n c ops (some d) (.load T x) T' l k Q e M D:=
 yR hT hd hx (fun _ h=>(h.dt hj).2) next
theorem tw(cs:List Value)(o:Nat)(v:Value)(h:o<cs.length):de cs o [v]=cs.set o v:=by
 simp [de]
theorem uL(i:Nat){x y:Operand}{b o:Nat}{cs:List Value}{U S:TypeId}{v:Value}(hx:ev e x=some (.pointer (some ⟨b,o,none⟩)))(hy:ev e y=some v)(hi:M[i]? =some (.blk b cs U))(hv:v.cells= #[v])(h1:v.oneCell'=true)
  (hs: ∃i,P.info? S=some i∧i.size=1) (hl:o<cs.length) (next:cG P n c ops l k Q e (M.set i (.blk b (cs.set o v) U)) D):
  cL P n c ops none (.store S x y) T l k Q e M D:=by
 refine zG i (vs:=[v]) hx hy hi (by rw [hv]) (by simpa using hs) cD (by simp [h1]) Z ?_
 rw [tw cs o v hl]
 exact next
theorem wR(i:Nat){x:Operand}{b o:Nat}{cs:List Value}{U:TypeId}{v:Value}(hT:cT P T)(hd:Nat.blt d n=true)(hx:ev e x=some (.pointer (some ⟨b,o,none⟩)))(hi:M[i]? =some (.blk b cs U))(hv:cs[o]? =some v)
  (next:cG P n c ops l k Q ((d,v)::e) M D) {T':TypeId}:cL P n c ops (some d) (.load T x) T' l k Q e M D:=
 yR hT hd hx (fun _ h=>eu h hi hv) next
theorem qG(i j:Nat){U:TypeId}{gs gs':List (Nat×List Value)}(hi:M[i]? =some (.many U gs))(hj:(M.eraseIdx i)[j]? =some (.many U gs'))(next:Run P n c k Q e (.many U (gs++gs')::(M.eraseIdx i).eraseIdx j) D):Run P n c k Q e M D:=by
 intro a w hf
 have h1:=hf.toFitsW.perm ((wQ hi).trans ((wQ hj).cons _))
 refine next a w (hf.world ⟨h1.chg,?_,?_,?_,?_⟩)
 ·intro x hx
  rcases List.mem_cons.1 hx with rfl|hx
  ·intro g hg
   rcases List.mem_append.1 hg with hg|hg
   ·exact(h1.own _ List.mem_cons_self:(HA.many U gs).holds w) g hg
   ·exact(h1.own _ (List.mem_cons_of_mem _ List.mem_cons_self):(HA.many U gs').holds w) g hg
  ·exact h1.own x (List.mem_cons_of_mem _ (List.mem_cons_of_mem _ hx))
 ·have:=h1.nodup
  simpa [cP,HA.foot]using this
 ·intro b hb
  exact h1.foot b (by simpa [cP,HA.foot]using hb)
 ·intro x hx
  refine x.mono (fun q hq=>⟨hq.1,hq.2.1,?_⟩) (fun _ _=>rfl) (h1.dat x hx)
  have:=hq.2.2
  simpa [cP,HA.foot]using this
theorem mZ(i:Nat){b:Nat}{cs:List Value}{U:TypeId}(hi:M[i]? =some (.blk b cs U))(next:Run P n c k Q e (.many U [(b,cs)]::M.eraseIdx i) D):Run P n c k Q e M D:=by
 intro a w hf
 have h1:=hf.toFitsW.perm (wQ hi)
 refine next a w (hf.world ⟨h1.chg,?_,?_,?_,?_⟩)
 ·intro x hx
  rcases List.mem_cons.1 hx with rfl|hx
  ·intro g hg
   rcases List.mem_singleton.1 hg with rfl
   exact(h1.own _ List.mem_cons_self:(HA.blk b cs U).holds w)
  ·exact h1.own x (List.mem_cons_of_mem _ hx)
 ·simpa [cP,HA.foot]using h1.nodup
 ·intro q hq;exact h1.foot q (by simpa [cP,HA.foot]using hq)
 ·intro x hx
  refine x.mono (fun q hq=>⟨hq.1,hq.2.1,?_⟩) (fun _ _=>rfl) (h1.dat x hx)
  have:=hq.2.2
  simpa [cP,HA.foot]using this
theorem gd(U:TypeId)(next:Run P n c k Q e (.many U []::M) D):Run P n c k Q e M D:=
 fun a w hf=>next a w (hf.world (hf.toFitsW.cons0 br (by intro g hg;cases hg)))
theorem sF(i j:Nat){mb:Nat}{G G':Gr}(hi:D[i]? =some (.graph mb G))(hj:D[j]? =some (.graph mb G'))(next:Run P n c k Q e M (.graph mb (G++G')::D)):Run P n c k Q e M D:=
 yZ (.graph mb (G++G')) (fun w ok h g hg=>(List.mem_append.1 hg).elim (fun h1=>(dget h i hi:(DA.graph mb G).p w ok) g h1) (fun h1=>(dget h j hj:(DA.graph mb G').p w ok) g h1)) next
theorem ma(j:Nat){mb b:Nat}{cs:List Value}{f:Flds}(hj:D[j]? =some (.flds mb cs f))(next:Run P n c k Q e M (.graph mb [(b,cs,f)]::D)):Run P n c k Q e M D:=
 yZ (.graph mb [(b,cs,f)]) (fun w ok h g hg=>by rcases List.mem_singleton.1 hg with rfl;exact dget h j hj) next
theorem xW{x y:Operand}{S E sz by_:Nat}(hS:cS P S E sz by_)(hd:Nat.blt d n=true)(hx:ev e x=some (.int .i64 0))(hy:ev e y=some (.int .i64 0))
  (next: ∀ b,cG P n c ops l k Q ((d, .slice (some ⟨b,0,none⟩) 0 0)::e) (.row (some ⟨b,0,none⟩) 0 0 E sz []::M) D):cL P n c ops (some d) (.makeSlice S x y) T l k Q e M D:=by
 obtain⟨ti,z,hu,hinf,hs1,hb1,hz,hzs,hsz0⟩:=hS
 intro a w hf
 have hw:IntKind.i64.wrap 0=0:=by decide
 have hr0: ∀ f:Nat→Value,(Array.range 0).map f= #[]:=fun f=>Array.eq_empty_of_size_eq_zero aJ
 have hb:(Instr.makeSlice S (.int .i64 0) (.int .i64 0)).run P w= .ok (.slice (some ⟨w.heap.size,0,none⟩) 0 0) (w.alloc (.cells #[] E (0,0))):=by
  simp [Instr.makeSlice,run_underlying hu,asInt,asIntOf,typeInfo,hinf,hw,askRoom,xK hinf,newRow,newObj,Sem.run,hr0]
 have hrun:(execOp a.eval (dH (some d) (.makeSlice S x y) T)).run P w= .ok (.value (.slice (some ⟨w.heap.size,0,none⟩) 0 0)) (w.alloc (.cells #[] E (0,0))):=by
  simp only [execOp,dH,hf.ev hx,hf.ev hy,Sem.run_bind,hb,Result.andThen_ok,Sem.run_pure]
 unfold Oper.wp
 rw [hrun]
 have hx2:(HA.row (some ⟨w.heap.size,0,none⟩) 0 0 E sz []).holds (w.alloc (.cells #[] E (0,0))):=by
  refine⟨by simp, .inr ⟨w.heap.size,0, #[],rfl,Nat.zero_le _,?_,Nat.le_refl _,by simp [maxLen],by simp,by simp⟩⟩
  show(w.heap.push _)[w.heap.size]? =_
  simp
 exact next w.heap.size _ _ ((hf.world (hf.toFitsW.new _ hx2 Z)).put hd _)
theorem xp{S:TypeId}(hd:Nat.blt d n=true)(next: ∀ b,cG P n c ops l k Q ((d, .map (some b))::e) (.obj b (.map #[] 0)::M) D):cL P n c ops (some d) (.makeMap S none) T l k Q e M D:=by
 intro a w hf
 have hrun:(execOp a.eval (dH (some d) (.makeMap S none) T)).run P w= .ok (.value (.map (some w.heap.size))) (w.alloc (.map #[] 0)):=by
  simp [execOp,dH,Instr.makeMap,newObj,Sem.run]
 unfold Oper.wp
 rw [hrun]
 have hx2:(HA.obj w.heap.size (.map #[] 0)).holds (w.alloc (.map #[] 0)):=by
  show(w.heap.push _)[w.heap.size]? =_
  simp
 exact next w.heap.size _ _ ((hf.world (hf.toFitsW.new _ hx2 Z)).put hd _)
theorem tJ{w:World}{ok:Nat→Prop}{b o:Nat}{cs:List Value}{U:TypeId}{v:Value}(h:(DA.dblk b cs U).p w ok)(hv:cs[o]? =some v):PtsTo w ok ⟨b,o,none⟩ v:=⟨h.1,by rw [vL h.2];exact hv⟩
def RF(f:dZ)(u:Value)(D':List DA):Prop:= ∃p,u= .pointer (some p)∧D'=[.fv u f]
theorem mc(i j o:Nat){mb:Nat}{cs:List Value}{f:Flds}{u:Value}{v:dZ}(hi:D[i]? =some (.flds mb cs f))(hj:D[j]? =some (.fv u v))(ho:1≤o)(next:Run P n c k Q e M (.flds mb (cs.set o u) (f.set o v)::D)):Run P n c k Q e M D:=
 yZ (.flds mb (cs.set o u) (f.set o v)) (fun w ok h=>by
  have h1:CellsP w ok mb cs f:=dget h i hi
  have h2:FvP w ok v u:=dget h j hj
  refine⟨by simp [h1.1],by rw [List.getElem?_set_ne aC];exact h1.2.1,fun q hq hq2=>?_⟩
  by_cases hoq:q=o
  ·subst hoq
   exact⟨u,by rw [List.getElem?_set_self (by rw [h1.1];omega)],by simp only [Flds.set,if_true];exact h2⟩
  ·obtain⟨u',hu',hm⟩:=h1.2.2 q hq hq2
   exact⟨u',by rw [List.getElem?_set_ne aC];exact hu',by simp only [Flds.set,if_neg hoq];exact hm⟩) next
end rules
def ei:dZ→List Nat
  | .sbS b=>[b]
  | .itS b=>[b]
  | .itL bs=>bs
  | .named l=>l.map (·.2)
  | .list bs=>bs
  | .one b=>[b]
  |_=>[]
def dd(f:Flds)(i:Nat):List Nat:=match f i with
  |none=>[]
  |some fv=>ei fv
def kx(f:Flds):List Nat:=(List.range 37).flatMap (dd f)
def Own(G:Gr)(roots:List Nat):Prop:=(roots++G.flatMap (fun g=>kx g.2.2)).Perm (G.map (·.1))
theorem Own.nil:Own [] []:= .refl _
theorem Own.nilF:Own [] (kx fun _=>none):= .refl _
theorem Own.congr{G:Gr}{r r':List Nat}(h:Own G r)(hp:r'.Perm r):Own G r':=(hp.append_right _).trans h
theorem Own.app{G G':Gr}{r r':List Nat}(h:Own G r)(h':Own G' r'):Own (G'++G) (r++r'):=by
 refine List.perm_iff_count.2 fun a=>?_
 have e1:=h.count_eq a
 have e2:=h'.count_eq a
 simp only [List.flatMap_append,List.map_append,List.count_append]at e1 e2⊢
 omega
theorem Own.top{b:Nat}{cs:List Value}{f:Flds}{G:Gr}(h:Own G (kx f)):Own ((b,cs,f)::G) [b]:=List.Perm.cons b h
theorem De{f:Flds}{q:Nat}{fv:dZ}(hn:f q=none)(l:List Nat)(hl:l.Nodup):(l.flatMap (dd (f.set q fv))).Perm ((if q∈l then ei fv else [])++l.flatMap (dd f)):=by
  induction l with
  |nil=>exact .refl _
  |cons i l ih=>
    rw [List.nodup_cons]at hl
    have h1:=ih hl.2
    by_cases hi:i=q
    · subst hi
      have e1:dd (f.set i fv) i=ei fv:=by simp [dd,Flds.set]
      have e2:dd f i=[]:=by simp [dd,hn]
      rw [if_neg hl.1]at h1
      rw [List.flatMap_cons,List.flatMap_cons,e1,e2,if_pos List.mem_cons_self]
      exact h1.append_left _
    · have e1:dd (f.set q fv) i=dd f i:=by simp [dd,Flds.set,hi]
      have e2:(q∈i::l)=(q∈l):=by rw [List.mem_cons];exact propext ⟨fun h=>h.resolve_left (fun e=>hi e.symm), .inr⟩
      rw [List.flatMap_cons,List.flatMap_cons,e1]
      simp only [e2]
      refine List.perm_iff_count.2 fun a=>?_
      have e3:=h1.count_eq a
      simp only [List.count_append]at e3⊢
      omega
theorem rc{G G':Gr}{f:Flds}{q:Nat}{fv:dZ}(h:Own G (kx f))(h':Own G' (ei fv))(hq:q≤36)(hn:f q=none):Own (G'++G) (kx (f.set q fv)):=by
 refine(h.app h').congr ((De hn (List.range 37) List.nodup_range).trans ?_)
 rw [if_pos (List.mem_range.2 aC)]
 exact List.perm_append_comm
end Go.Jw

namespace Go.Jw
open Go Go.RowKit Go.Proofs
set_option maxRecDepth 8000
def cR(key:ByteArray):Nat:=
 if key=⟨#[36,115,99,104,101,109,97]⟩then 1 else
 if key=⟨#[105,100]⟩then 2 else
 if key=⟨#[109,117,108,116,105,112,108,101,79,102]⟩then 6 else
 if key=⟨#[109,97,120,105,109,117,109]⟩then 7 else
 if key=⟨#[101,120,99,108,117,115,105,118,101,77,97,120,105,109,117,109]⟩then 8 else
 if key=⟨#[109,105,110,105,109,117,109]⟩then 9 else
 if key=⟨#[101,120,99,108,117,115,105,118,101,77,105,110,105,109,117,109]⟩then 10 else
 if key=⟨#[109,97,120,76,101,110,103,116,104]⟩then 11 else
 if key=⟨#[109,105,110,76,101,110,103,116,104]⟩then 12 else
 if key=⟨#[112,97,116,116,101,114,110]⟩then 13 else
 if key=⟨#[97,100,100,105,116,105,111,110,97,108,73,116,101,109,115]⟩then 14 else
 if key=⟨#[105,116,101,109,115]⟩then 15 else
 if key=⟨#[109,97,120,73,116,101,109,115]⟩then 16 else
 if key=⟨#[109,105,110,73,116,101,109,115]⟩then 17 else
 if key=⟨#[117,110,105,113,117,101,73,116,101,109,115]⟩then 18 else
 if key=⟨#[109,97,120,80,114,111,112,101,114,116,105,101,115]⟩then 19 else
 if key=⟨#[109,105,110,80,114,111,112,101,114,116,105,101,115]⟩then 20 else
 if key=⟨#[114,101,113,117,105,114,101,100]⟩then 21 else
 if key=⟨#[97,100,100,105,116,105,111,110,97,108,80,114,111,112,101,114,116,105,101,115]⟩then 22 else
 if key=⟨#[112,114,111,112,101,114,116,105,101,115]⟩then 23 else
 if key=⟨#[112,97,116,116,101,114,110,80,114,111,112,101,114,116,105,101,115]⟩then 24 else
 if key=⟨#[100,101,112,101,110,100,101,110,99,105,101,115]⟩then 25 else
 if key=⟨#[101,110,117,109]⟩then 26 else
 if key=⟨#[116,121,112,101]⟩then 27 else
 if key=⟨#[97,108,108,79,102]⟩then 28 else
 if key=⟨#[97,110,121,79,102]⟩then 29 else
 if key=⟨#[111,110,101,79,102]⟩then 30 else
 if key=⟨#[110,111,116]⟩then 31 else
 if key=⟨#[100,101,102,105,110,105,116,105,111,110,115]⟩then 32 else
 if key=⟨#[116,105,116,108,101]⟩then 33 else
 if key=⟨#[100,101,115,99,114,105,112,116,105,111,110]⟩then 34 else
 if key=⟨#[100,101,102,97,117,108,116]⟩then 35 else
 if key=⟨#[102,111,114,109,97,116]⟩then 36 else
 if key=⟨#[36,114,101,102]⟩then 3 else 0
def dD(i:Nat):Int:=match i with
  |1=>1
  |2=>1
  |3=>1
  |6=>3
  |7=>3
  |8=>2
  |9=>3
  |10=>2
  |11=>4
  |12=>4
  |13=>1
  |14=>6
  |15=>7
  |16=>4
  |17=>4
  |18=>2
  |19=>4
  |20=>4
  |21=>8
  |22=>6
  |23=>9
  |24=>9
  |25=>10
  |26=>11
  |27=>12
  |28=>13
  |29=>13
  |30=>13
  |31=>5
  |32=>9
  |33=>1
  |34=>1
  |35=>14
  |36=>1
  |_=>0
theorem ky{key:ByteArray}(h:cR key≠0):cH key=dD (cR key):=by
 unfold cR at h⊢
 by_cases e1:key=⟨#[36,115,99,104,101,109,97]⟩
 ·subst e1;decide+kernel
 rw [if_neg e1]at h⊢
 by_cases e2:key=⟨#[105,100]⟩
 ·subst e2;decide+kernel
 rw [if_neg e2]at h⊢
 by_cases e6:key=⟨#[109,117,108,116,105,112,108,101,79,102]⟩
 ·subst e6;decide+kernel
 rw [if_neg e6]at h⊢
 by_cases e7:key=⟨#[109,97,120,105,109,117,109]⟩
 ·subst e7;decide+kernel
 rw [if_neg e7]at h⊢
 by_cases e8:key=⟨#[101,120,99,108,117,115,105,118,101,77,97,120,105,109,117,109]⟩
 ·subst e8;decide+kernel
 rw [if_neg e8]at h⊢
 by_cases e9:key=⟨#[109,105,110,105,109,117,109]⟩
 ·subst e9;decide+kernel
 rw [if_neg e9]at h⊢
 by_cases e10:key=⟨#[101,120,99,108,117,115,105,118,101,77,105,110,105,109,117,109]⟩
 ·subst e10;decide+kernel
 rw [if_neg e10]at h⊢
 by_cases e11:key=⟨#[109,97,120,76,101,110,103,116,104]⟩
 ·subst e11;decide+kernel
 rw [if_neg e11]at h⊢
 by_cases e12:key=⟨#[109,105,110,76,101,110,103,116,104]⟩
 ·subst e12;decide+kernel
 rw [if_neg e12]at h⊢
 by_cases e13:key=⟨#[112,97,116,116,101,114,110]⟩
 ·subst e13;decide+kernel
 rw [if_neg e13]at h⊢
 by_cases e14:key=⟨#[97,100,100,105,116,105,111,110,97,108,73,116,101,109,115]⟩
 ·subst e14;decide+kernel
 rw [if_neg e14]at h⊢
 by_cases e15:key=⟨#[105,116,101,109,115]⟩
 ·subst e15;decide+kernel
 rw [if_neg e15]at h⊢
 by_cases e16:key=⟨#[109,97,120,73,116,101,109,115]⟩
 ·subst e16;decide+kernel
 rw [if_neg e16]at h⊢
 by_cases e17:key=⟨#[109,105,110,73,116,101,109,115]⟩
 ·subst e17;decide+kernel
 rw [if_neg e17]at h⊢
 by_cases e18:key=⟨#[117,110,105,113,117,101,73,116,101,109,115]⟩
 ·subst e18;decide+kernel
 rw [if_neg e18]at h⊢
 by_cases e19:key=⟨#[109,97,120,80,114,111,112,101,114,116,105,101,115]⟩
 ·subst e19;decide+kernel
 rw [if_neg e19]at h⊢
 by_cases e20:key=⟨#[109,105,110,80,114,111,112,101,114,116,105,101,115]⟩
 ·subst e20;decide+kernel
 rw [if_neg e20]at h⊢
 by_cases e21:key=⟨#[114,101,113,117,105,114,101,100]⟩
 ·subst e21;decide+kernel
 rw [if_neg e21]at h⊢
 by_cases e22:key=⟨#[97,100,100,105,116,105,111,110,97,108,80,114,111,112,101,114,116,105,101,115]⟩
 ·subst e22;decide+kernel
 rw [if_neg e22]at h⊢
 by_cases e23:key=⟨#[112,114,111,112,101,114,116,105,101,115]⟩
 ·subst e23;decide+kernel
 rw [if_neg e23]at h⊢
 by_cases e24:key=⟨#[112,97,116,116,101,114,110,80,114,111,112,101,114,116,105,101,115]⟩
 ·subst e24;decide+kernel
 rw [if_neg e24]at h⊢
 by_cases e25:key=⟨#[100,101,112,101,110,100,101,110,99,105,101,115]⟩
 ·subst e25;decide+kernel
 rw [if_neg e25]at h⊢
 by_cases e26:key=⟨#[101,110,117,109]⟩
 ·subst e26;decide+kernel
 rw [if_neg e26]at h⊢
 by_cases e27:key=⟨#[116,121,112,101]⟩
 ·subst e27;decide+kernel
 rw [if_neg e27]at h⊢
 by_cases e28:key=⟨#[97,108,108,79,102]⟩
 ·subst e28;decide+kernel
 rw [if_neg e28]at h⊢
 by_cases e29:key=⟨#[97,110,121,79,102]⟩
 ·subst e29;decide+kernel
 rw [if_neg e29]at h⊢
 by_cases e30:key=⟨#[111,110,101,79,102]⟩
 ·subst e30;decide+kernel
 rw [if_neg e30]at h⊢
 by_cases e31:key=⟨#[110,111,116]⟩
 ·subst e31;decide+kernel
 rw [if_neg e31]at h⊢
 by_cases e32:key=⟨#[100,101,102,105,110,105,116,105,111,110,115]⟩
 ·subst e32;decide+kernel
 rw [if_neg e32]at h⊢
 by_cases e33:key=⟨#[116,105,116,108,101]⟩
 ·subst e33;decide+kernel
 rw [if_neg e33]at h⊢
 by_cases e34:key=⟨#[100,101,115,99,114,105,112,116,105,111,110]⟩
 ·subst e34;decide+kernel
 rw [if_neg e34]at h⊢
 by_cases e35:key=⟨#[100,101,102,97,117,108,116]⟩
 ·subst e35;decide+kernel
 rw [if_neg e35]at h⊢
 by_cases e36:key=⟨#[102,111,114,109,97,116]⟩
 ·subst e36;decide+kernel
 rw [if_neg e36]at h⊢
 by_cases e3:key=⟨#[36,114,101,102]⟩
 ·subst e3;decide+kernel
 rw [if_neg e3]at h⊢
 ·exact absurd Z h
abbrev k1:ByteArray:=⟨#[36,115,99,104,101,109,97]⟩
abbrev k2:ByteArray:=⟨#[105,100]⟩
abbrev k6:ByteArray:=⟨#[109,117,108,116,105,112,108,101,79,102]⟩
abbrev k7:ByteArray:=⟨#[109,97,120,105,109,117,109]⟩
abbrev k8:ByteArray:=⟨#[101,120,99,108,117,115,105,118,101,77,97,120,105,109,117,109]⟩
abbrev k9:ByteArray:=⟨#[109,105,110,105,109,117,109]⟩
abbrev k10:ByteArray:=⟨#[101,120,99,108,117,115,105,118,101,77,105,110,105,109,117,109]⟩
abbrev k11:ByteArray:=⟨#[109,97,120,76,101,110,103,116,104]⟩
abbrev PD:ByteArray:=⟨#[109,105,110,76,101,110,103,116,104]⟩
abbrev Ba:ByteArray:=⟨#[112,97,116,116,101,114,110]⟩
abbrev k14:ByteArray:=⟨#[97,100,100,105,116,105,111,110,97,108,73,116,101,109,115]⟩
abbrev k15:ByteArray:=⟨#[105,116,101,109,115]⟩
abbrev MC:ByteArray:=⟨#[109,97,120,73,116,101,109,115]⟩
abbrev MD:ByteArray:=⟨#[109,105,110,73,116,101,109,115]⟩
abbrev ME:ByteArray:=⟨#[117,110,105,113,117,101,73,116,101,109,115]⟩
abbrev CW:ByteArray:=⟨#[109,97,120,80,114,111,112,101,114,116,105,101,115]⟩
abbrev Df:ByteArray:=⟨#[109,105,110,80,114,111,112,101,114,116,105,101,115]⟩
abbrev Fr:ByteArray:=⟨#[114,101,113,117,105,114,101,100]⟩
abbrev k22:ByteArray:=⟨#[97,100,100,105,116,105,111,110,97,108,80,114,111,112,101,114,116,105,101,115]⟩
abbrev k23:ByteArray:=⟨#[112,114,111,112,101,114,116,105,101,115]⟩
abbrev k24:ByteArray:=⟨#[112,97,116,116,101,114,110,80,114,111,112,101,114,116,105,101,115]⟩
abbrev MF:ByteArray:=⟨#[100,101,112,101,110,100,101,110,99,105,101,115]⟩
abbrev Fs:ByteArray:=⟨#[101,110,117,109]⟩
abbrev Dg:ByteArray:=⟨#[116,121,112,101]⟩
abbrev GN:ByteArray:=⟨#[97,108,108,79,102]⟩
abbrev Ip:ByteArray:=⟨#[97,110,121,79,102]⟩
abbrev J3:ByteArray:=⟨#[111,110,101,79,102]⟩
abbrev MG:ByteArray:=⟨#[110,111,116]⟩
abbrev Rg:ByteArray:=⟨#[100,101,102,105,110,105,116,105,111,110,115]⟩
abbrev Rh:ByteArray:=⟨#[116,105,116,108,101]⟩
abbrev Ri:ByteArray:=⟨#[100,101,115,99,114,105,112,116,105,111,110]⟩
abbrev Rj:ByteArray:=⟨#[100,101,102,97,117,108,116]⟩
abbrev Rk:ByteArray:=⟨#[102,111,114,109,97,116]⟩
abbrev k3:ByteArray:=⟨#[36,114,101,102]⟩
def All2{α β:Type}(R:α→β→Prop)(l:List α)(l':List β):Prop:=l.length=l'.length∧ ∀ (i:Nat) a b,l[i]? =some a→l'[i]? =some b→R a b
theorem All2.mono{α β:Type}{R R':α→β→Prop}{l:List α}{l':List β}(h: ∀ a b,b∈l'→R a b→R' a b)(h2:All2 R l l'):All2 R' l l':=
 ⟨h2.1,fun i a b ha hb=>h a b (List.mem_of_getElem? hb) (h2.2 i a b ha hb)⟩
theorem All2.nil{α β:Type}(R:α→β→Prop):All2 R [] []:=⟨rfl,fun i a b h=>by simp at h⟩
theorem All2.snoc{α β:Type}{R:α→β→Prop}{l:List α}{l':List β}{a:α}{b:β}(h:All2 R l l')(hab:R a b):All2 R (l++[a]) (l'++[b]):=by
 refine⟨by simp [h.1],fun i x y hx hy=>?_⟩
 rcases Nat.lt_trichotomy i l.length with hi|hi|hi
 ·rw [List.getElem?_append_left hi]at hx
  rw [List.getElem?_append_left (by rw [←h.1];exact hi)]at hy
  exact h.2 i x y hx hy
 ·subst hi
  rw [List.getElem?_append_right (Nat.le_refl _)]at hx
  rw [List.getElem?_append_right bI]at hy
  simp at hx
  simp [h.1]at hy
  subst hx;subst hy;exact hab
 ·rw [List.getElem?_eq_none cD]at hx;cases hx
def kF(n:Int):Nat:=qw n
def Dh(v:V):EV:=if v.kind=3 then .str v.text else .bool (decide (v.num=1))
def FvRel(U:Nat→V→Prop)(sh:Int)(v:V):dZ→Prop
  | .text s=>sh=1∧s=v.text
  | .bool x=>sh=2∧x=decide (v.num=1)
  | .int n=>sh=4∧n=v.num
  | .numI n=>sh=3∧v.kind=2∧n=v.num
  | .numF f=>sh=3∧v.kind=6∧f=kF v.num
  | .sbS b=>sh=6∧v.kind=5∧U b v
  | .sbB x=>sh=6∧v.kind=1∧x=decide (v.num=1)
  | .itS b=>sh=7∧v.kind=5∧U b v
  | .itL bs=>sh=7∧v.kind=4∧All2 U bs v.items
  | .texts l=>sh=8∧l=v.items.map V.text
  | .named l=>sh=9∧ ∃ps:List (ByteArray×V),ps.Perm (v.keys.zip v.items)∧All2 (fun(q:ByteArray×Nat) p=>q.1=p.1∧U q.2 p.2) l ps
  | .deps l=>sh=10∧ ∃ps:List (ByteArray×V),ps.Perm (v.keys.zip v.items)∧l=ps.map (fun p=>(p.1,p.2.items.map V.text))
  | .enums l=>sh=11∧l=v.items.map Dh
  | .tyS s=>sh=12∧v.kind=3∧s=v.text
  | .tyL l=>sh=12∧v.kind=4∧l=v.items.map V.text
  | .list bs=>sh=13∧All2 U bs v.items
  | .one b=>sh=5∧U b v
  | .any=>sh=14
theorem FvRel.mono{U U':Nat→V→Prop}{sh:Int}{v:V}{f:dZ}(h: ∀ b x,SizeOf.sizeOf x≤SizeOf.sizeOf v→U b x→U' b x)(hf:FvRel U sh v f):FvRel U' sh v f:=by
  have hi: ∀ b x,x∈v.items→U b x→U' b x:=fun b x hx=>h b x (Nat.le_of_lt (yU hx))
  cases f with
  |sbS b=>exact⟨hf.1,hf.2.1,h b v (Nat.le_refl _) hf.2.2⟩
  |itS b=>exact⟨hf.1,hf.2.1,h b v (Nat.le_refl _) hf.2.2⟩
  |itL bs=>exact⟨hf.1,hf.2.1,hf.2.2.mono hi⟩
  |named l=>obtain⟨h1,ps,h2,h3⟩:=hf;exact⟨h1,ps,h2,h3.mono fun q p hp hq=>⟨hq.1,hi _ _ (List.of_mem_zip (h2.mem_iff.1 hp)).2 hq.2⟩⟩
  |list bs=>exact⟨hf.1,hf.2.mono hi⟩
  |one b=>exact⟨hf.1,h b v (Nat.le_refl _) hf.2⟩
  |text s=>exact hf
  |bool x=>exact hf
  |int n=>exact hf
  |numI n=>exact hf
  |numF n=>exact hf
  |sbB x=>exact hf
  |texts l=>exact hf
  |deps l=>exact hf
  |enums l=>exact hf
  |tyS s=>exact hf
  |tyL l=>exact hf
  |any=>exact hf
def FldRel(U:Nat→V→Prop)(v:V)(i:Nat):Option dZ→Prop
  |none=> ∀ key,cR key=i→getV v key=none
  |some fv=> ∃key x,cR key=i∧getV v key=some x∧FvRel U (dD i) x fv
theorem vX{v x:V}{key:ByteArray}(h:getV v key=some x):x∈v.items:=by
 unfold getV at h
 split at h
 ·cases h
 ·exact List.mem_of_getElem? h
theorem FldRel.mono{U U':Nat→V→Prop}{v:V}{i:Nat}{o:Option dZ}(h: ∀ b x,SizeOf.sizeOf x<SizeOf.sizeOf v→U b x→U' b x)(hf:FldRel U v i o):FldRel U' v i o:=by
  cases o with
  |none=>exact hf
  |some fv=>
    obtain⟨key,x,h1,h2,h3⟩:=hf
    exact⟨key,x,h1,h2,h3.mono fun b y hy=>h b y (Nat.lt_of_le_of_lt hy (yU (vX h2)))⟩
instance:Inhabited (Nat→Prop):=⟨fun _=>True⟩
noncomputable def Unf(G:Gr):V→Nat→Prop:=V.fix (α:=Nat→Prop) (fun v r b=> ∃f,G.at b f∧ ∀ i,1≤i→i≤36→FldRel (fun b x=>r x b) v i (f i))
theorem tO(G:Gr)(v:V)(b:Nat):Unf G v b↔ ∃f,G.at b f∧ ∀ i,1≤i→i≤36→FldRel (fun b x=>Unf G x b) v i (f i):=by
 have:=V.fix_eq (α:=Nat→Prop) (G:=fun v r b=> ∃f,G.at b f∧ ∀ i,1≤i→i≤36→FldRel (fun b x=>r x b) v i (f i)) (fun t g g' h=>by
  funext b
  apply propext
  constructor
  ·rintro ⟨f,h1,h2⟩
   exact⟨f,h1,fun i hi hj=>(h2 i hi hj).mono fun b x hx hu=>by rw [←h x hx];exact hu⟩
  ·rintro ⟨f,h1,h2⟩
   exact⟨f,h1,fun i hi hj=>(h2 i hi hj).mono fun b x hx hu=>by rw [h x hx];exact hu⟩) v
 show V.fix (α:=Nat→Prop) _ v b↔_
 rw [this]
 rfl
theorem Unf.mono{G G':Gr}(h: ∀ g∈G,g∈G')(v:V): ∀ b,Unf G v b→Unf G' v b:=by
 refine V.indS (p:=fun v=> ∀ b,Unf G v b→Unf G' v b) (fun v IH b hb=>?_) v
 obtain⟨f,⟨cs,h1⟩,h2⟩:=(tO G v b).1 hb
 exact(tO G' v b).2 ⟨f,⟨cs,h _ h1⟩,fun i hi hj=>(h2 i hi hj).mono fun b x hx hu=>IH x hx b hu⟩
def Pl(v:V):Prop:= ∃d,IsPlain d v
theorem Pl.wf{v:V}(h:Pl v):Wf v:=h.elim fun _ h=>h.wf
theorem Pl.num{v:V}(h:Pl v):NumOk v:=h.elim fun _ h=>h.num
theorem Pl.item{v:V}(h:Pl v): ∀ x∈v.items,Pl x:=by
  obtain⟨d,h⟩:=h
  obtain⟨q,m,s,ks,ts⟩:=v
  intro x hx
  cases d with
  |zero=>
    obtain⟨_,h2,_⟩:=h
    simp only [V.items]at h2 hx
    subst h2;cases hx
  |succ d=>
    rcases h with ⟨_,h2,_⟩|⟨_,_,h3⟩
    · simp only [V.items]at h2 hx
      subst h2;cases hx
    · exact⟨d,h3 x hx⟩
theorem Pl.keys{v:V}(h:Pl v)(hk:v.kind=5):dy v.keys:=by
  obtain⟨d,h⟩:=h
  obtain⟨q,m,s,ks,ts⟩:=v
  simp only [V.kind]at hk
  subst hk
  cases d with
  |zero=>exact absurd h (sH (.inr rfl))
  |succ d=>exact qr ((wV (.inr rfl)).1 h).1 rfl
def prs(back:Bool)(v:V):List (ByteArray×V):=if back then(v.keys.zip v.items).reverse else v.keys.zip v.items
def RelAt(G:Gr)(back:Bool)(v:V)(i:Nat)(f:Flds):Prop:= ∀ q,1≤q→q≤36→match f q with
  |none=> ∀ p∈(prs back v).take i,cR p.1≠q
  |some fv=> ∃p∈(prs back v).take i,cR p.1=q∧FvRel (fun b x=>Unf G x b) (dD q) p.2 fv
theorem RelAt.mono{G G':Gr}(h: ∀ g∈G,g∈G'){back:Bool}{v:V}{i:Nat}{f:Flds}(hr:RelAt G back v i f):RelAt G' back v i f:=by
  intro q h1 h2
  have:=hr q h1 h2
  cases hf:f q with
  |none=>rw [hf]at this;exact this
  |some fv=>
    rw [hf]at this
    obtain⟨p,h3,h4,h5⟩:=this
    exact⟨p,h3,h4,h5.mono fun b x _ hu=>Unf.mono h x b hu⟩
theorem RelAt.zero(G:Gr)(back:Bool)(v:V):RelAt G back v 0 (fun _=>none):=by
 intro q _ _;simp
theorem RelAt.step{G:Gr}{back:Bool}{v:V}{i:Nat}{f:Flds}{p:ByteArray×V}{fv:dZ}(hr:RelAt G back v i f)(hp:(prs back v)[i]? =some p)(hf:FvRel (fun b x=>Unf G x b) (dD (cR p.1)) p.2 fv):RelAt G back v (i+1) (f.set (cR p.1) fv):=by
  have ht:(prs back v).take (i+1)=(prs back v).take i++[p]:=by rw [List.take_add_one,hp];rfl
  intro q h1 h2
  by_cases hq:q=cR p.1
  · subst hq
    simp only [Flds.set,if_true]
    exact⟨p,by rw [ht];simp,rfl,hf⟩
  · simp only [Flds.set,if_neg hq]
    have:=hr q h1 h2
    cases hfq:f q with
    |none=>
      rw [hfq]at this
      intro p' hp'
      rw [ht,List.mem_append,List.mem_singleton]at hp'
      rcases hp' with hp'|rfl
      · exact this p' hp'
      · exact fun e=>hq e.symm
    |some fv'=>
      rw [hfq]at this
      obtain⟨p',h3,h4⟩:=this
      exact⟨p',by rw [ht];exact List.mem_append_left _ h3,h4⟩
theorem RelAt.skip{G:Gr}{back:Bool}{v:V}{i:Nat}{f:Flds}{p:ByteArray×V}(hr:RelAt G back v i f)(hp:(prs back v)[i]? =some p)(hf:cR p.1=0):RelAt G back v (i+1) f:=by
  have ht:(prs back v).take (i+1)=(prs back v).take i++[p]:=by rw [List.take_add_one,hp];rfl
  intro q h1 h2
  have:=hr q h1 h2
  cases hfq:f q with
  |none=>
    rw [hfq]at this
    intro p' hp'
    rw [ht,List.mem_append,List.mem_singleton]at hp'
    rcases hp' with hp'|rfl
    · exact this p' hp'
    · omega
  |some fv'=>
    rw [hfq]at this
    obtain⟨p',h3,h4⟩:=this
    exact⟨p',by rw [ht];exact List.mem_append_left _ h3,h4⟩
def kz:Nat→ByteArray
  |1=>k1
  |2=>k2
  |3=>k3
  |6=>k6
  |7=>k7
  |8=>k8
  |9=>k9
  |10=>k10
  |11=>k11
  |12=>PD
  |13=>Ba
  |14=>k14
  |15=>k15
  |16=>MC
  |17=>MD
  |18=>ME
  |19=>CW
  |20=>Df
  |21=>Fr
  |22=>k22
  |23=>k23
  |24=>k24
  |25=>MF
  |26=>Fs
  |27=>Dg
  |28=>GN
  |29=>Ip
  |30=>J3
  |31=>MG
  |32=>Rg
  |33=>Rh
  |34=>Ri
  |35=>Rj
  |36=>Rk
  |_=>⟨#[]⟩
def Di:List Nat:=[36,32,31,30,29,28,26,20,19,18,17,16,14,13,12,11,10,9,8,7,6,3,25,23,24,22,21,34,15,27,1,2,33]
theorem kw_case{key:ByteArray}:key=kz (cR key)∧cR key∈[35,36,32,31,30,29,28,26,20,19,18,17,16,14,13,12,11,10,9,8,7,6,3,25,23,24,22,21,34,15,27,1,2,33]∨cR key=0:=by
 unfold cR
 by_cases e1:key=⟨#[36,115,99,104,101,109,97]⟩
 ·rw [if_pos e1];exact .inl ⟨e1,by decide⟩
 rw [if_neg e1]
 by_cases e2:key=⟨#[105,100]⟩
 ·rw [if_pos e2];exact .inl ⟨e2,by decide⟩
 rw [if_neg e2]
 by_cases e6:key=⟨#[109,117,108,116,105,112,108,101,79,102]⟩
 ·rw [if_pos e6];exact .inl ⟨e6,by decide⟩
 rw [if_neg e6]
 by_cases e7:key=⟨#[109,97,120,105,109,117,109]⟩
 ·rw [if_pos e7];exact .inl ⟨e7,by decide⟩
 rw [if_neg e7]
 by_cases e8:key=⟨#[101,120,99,108,117,115,105,118,101,77,97,120,105,109,117,109]⟩
 ·rw [if_pos e8];exact .inl ⟨e8,by decide⟩
 rw [if_neg e8]
 by_cases e9:key=⟨#[109,105,110,105,109,117,109]⟩
 ·rw [if_pos e9];exact .inl ⟨e9,by decide⟩
 rw [if_neg e9]
 by_cases e10:key=⟨#[101,120,99,108,117,115,105,118,101,77,105,110,105,109,117,109]⟩
 ·rw [if_pos e10];exact .inl ⟨e10,by decide⟩
 rw [if_neg e10]
 by_cases e11:key=⟨#[109,97,120,76,101,110,103,116,104]⟩
 ·rw [if_pos e11];exact .inl ⟨e11,by decide⟩
 rw [if_neg e11]
 by_cases e12:key=⟨#[109,105,110,76,101,110,103,116,104]⟩
 ·rw [if_pos e12];exact .inl ⟨e12,by decide⟩
 rw [if_neg e12]
 by_cases e13:key=⟨#[112,97,116,116,101,114,110]⟩
 ·rw [if_pos e13];exact .inl ⟨e13,by decide⟩
 rw [if_neg e13]
 by_cases e14:key=⟨#[97,100,100,105,116,105,111,110,97,108,73,116,101,109,115]⟩
 ·rw [if_pos e14];exact .inl ⟨e14,by decide⟩
 rw [if_neg e14]
 by_cases e15:key=⟨#[105,116,101,109,115]⟩
 ·rw [if_pos e15];exact .inl ⟨e15,by decide⟩
 rw [if_neg e15]
 by_cases e16:key=⟨#[109,97,120,73,116,101,109,115]⟩
 ·rw [if_pos e16];exact .inl ⟨e16,by decide⟩
 rw [if_neg e16]
 by_cases e17:key=⟨#[109,105,110,73,116,101,109,115]⟩
 ·rw [if_pos e17];exact .inl ⟨e17,by decide⟩
 rw [if_neg e17]
 by_cases e18:key=⟨#[117,110,105,113,117,101,73,116,101,109,115]⟩
 ·rw [if_pos e18];exact .inl ⟨e18,by decide⟩
 rw [if_neg e18]
 by_cases e19:key=⟨#[109,97,120,80,114,111,112,101,114,116,105,101,115]⟩
 ·rw [if_pos e19];exact .inl ⟨e19,by decide⟩
 rw [if_neg e19]
 by_cases e20:key=⟨#[109,105,110,80,114,111,112,101,114,116,105,101,115]⟩
 ·rw [if_pos e20];exact .inl ⟨e20,by decide⟩
 rw [if_neg e20]
 by_cases e21:key=⟨#[114,101,113,117,105,114,101,100]⟩
 ·rw [if_pos e21];exact .inl ⟨e21,by decide⟩
 rw [if_neg e21]
 by_cases e22:key=⟨#[97,100,100,105,116,105,111,110,97,108,80,114,111,112,101,114,116,105,101,115]⟩
 ·rw [if_pos e22];exact .inl ⟨e22,by decide⟩
 rw [if_neg e22]
 by_cases e23:key=⟨#[112,114,111,112,101,114,116,105,101,115]⟩
 ·rw [if_pos e23];exact .inl ⟨e23,by decide⟩
 rw [if_neg e23]
 by_cases e24:key=⟨#[112,97,116,116,101,114,110,80,114,111,112,101,114,116,105,101,115]⟩
 ·rw [if_pos e24];exact .inl ⟨e24,by decide⟩
 rw [if_neg e24]
 by_cases e25:key=⟨#[100,101,112,101,110,100,101,110,99,105,101,115]⟩
 ·rw [if_pos e25];exact .inl ⟨e25,by decide⟩
 rw [if_neg e25]
 by_cases e26:key=⟨#[101,110,117,109]⟩
 ·rw [if_pos e26];exact .inl ⟨e26,by decide⟩
 rw [if_neg e26]
 by_cases e27:key=⟨#[116,121,112,101]⟩
 ·rw [if_pos e27];exact .inl ⟨e27,by decide⟩
 rw [if_neg e27]
 by_cases e28:key=⟨#[97,108,108,79,102]⟩
 ·rw [if_pos e28];exact .inl ⟨e28,by decide⟩
 rw [if_neg e28]
 by_cases e29:key=⟨#[97,110,121,79,102]⟩
 ·rw [if_pos e29];exact .inl ⟨e29,by decide⟩
 rw [if_neg e29]
 by_cases e30:key=⟨#[111,110,101,79,102]⟩
 ·rw [if_pos e30];exact .inl ⟨e30,by decide⟩
 rw [if_neg e30]
 by_cases e31:key=⟨#[110,111,116]⟩
 ·rw [if_pos e31];exact .inl ⟨e31,by decide⟩
 rw [if_neg e31]
 by_cases e32:key=⟨#[100,101,102,105,110,105,116,105,111,110,115]⟩
 ·rw [if_pos e32];exact .inl ⟨e32,by decide⟩
 rw [if_neg e32]
 by_cases e33:key=⟨#[116,105,116,108,101]⟩
 ·rw [if_pos e33];exact .inl ⟨e33,by decide⟩
 rw [if_neg e33]
 by_cases e34:key=⟨#[100,101,115,99,114,105,112,116,105,111,110]⟩
 ·rw [if_pos e34];exact .inl ⟨e34,by decide⟩
 rw [if_neg e34]
 by_cases e35:key=⟨#[100,101,102,97,117,108,116]⟩
 ·rw [if_pos e35];exact .inl ⟨e35,by decide⟩
 rw [if_neg e35]
 by_cases e36:key=⟨#[102,111,114,109,97,116]⟩
 ·rw [if_pos e36];exact .inl ⟨e36,by decide⟩
 rw [if_neg e36]
 by_cases e3:key=⟨#[36,114,101,102]⟩
 ·rw [if_pos e3];exact .inl ⟨e3,by decide⟩
 rw [if_neg e3]
 exact .inr Z
theorem kG{key:ByteArray}{q:Nat}(h:cR key=q)(h0:q≠0):key=kz q:=by
 subst h
 exact kw_case.elim (fun h=>h.1) (fun h=>absurd h h0)
theorem Dj{key:ByteArray}(h0:cR key≠0)(h35:cR key≠35):cR key∈Di:=by
 rcases kw_case (key:=key)with h|h
 ·exact(List.mem_cons.1 h.2).elim (fun e=>absurd e h35) id
 ·exact absurd h h0
theorem tx{key:ByteArray}(h0:cR key≠0):1≤cR key∧cR key≤36:=by
 rcases kw_case (key:=key)with h|h
 ·have:=h.2
  generalize cR key=q at this
  simp only [List.mem_cons,List.not_mem_nil,or_false]at this
  omega
 ·exact absurd h h0
theorem Dk{a b:ByteArray}(h:cR a=cR b)(h0:cR a≠0):a=b:=(kG rfl h0).trans (by rw [h];exact(kG rfl (by rwa [←h])).symm)
end Go.Jw

namespace Go.Jw
open Go Go.RowKit Go.Proofs
set_option maxRecDepth 8000
open Go.Proofs
theorem J4:zn Tryz.prog 181:=⟨_,Tryz.func181,by kernel_rfl,rfl⟩
abbrev ua(x:Bool):ByteArray:=⟨(Lib.formatBool x).toArray⟩
theorem c181(x:Bool):di Tryz.prog 181 #[.string (ua x)] [] (.tuple #[.bool x, .nilIface]):=
  gB J4 fun w ok h=>(Tryz.strconv_ParseBool (ua x) x (by cases x<;>decide) w).mono (by
    rintro e w' ⟨rfl,rfl⟩
    exact⟨rfl,Chg.refl _ _⟩)
theorem kH{l:List ByteArray}{i:Nat}(hi:i<l.length):(l.take i).map Value.string++[.string l[i]]=(l.take (i+1)).map Value.string:=tT hi
theorem me{l:List ByteArray}{i:Nat}(hi:i<l.length)(h: ∀ s∈l.take i,s.size≤maxLen)(hs:l[i].size≤maxLen): ∀ s∈l.take (i+1),s.size≤maxLen:=by
 intro s hm
 rw [List.take_add_one,List.getElem?_eq_getElem hi,List.mem_append]at hm
 rcases hm with hm|hm
 ·exact h s hm
 ·simp at hm;rw [hm];exact hs
def Bb:EV→Y
  | .str s=>cU dT s
  | .bool x=>cU eE (ua x)
theorem Dl(e:EV):(Bb e).kind=8:=by cases e<;>rfl
theorem GO{e:EV}(h:(Bb e).tag=dT): ∃s,e= .str s:=by
  cases e with
  |str s=>exact⟨s,rfl⟩
  |bool x=>exact absurd h (by simp only [Bb,cU,Y.tag];decide)
theorem Dm{e:EV}(h: ¬ (Bb e).tag=dT): ∃x,e= .bool x:=by
  cases e with
  |str s=>exact absurd rfl h
  |bool x=>exact⟨x,rfl⟩
def EvsP(w:World)(ok:Nat→Prop)(xs:List Value)(l:List EV):Prop:=xs.length=2*l.length∧ ∀ (i:Nat) e,l[i]? =some e→ ∃u u',xs[i*2]? =some u∧xs[i*2+1]? =some u'∧EvP w ok e u u'
def DA.evs(xs:List Value)(l:List EV):DA:=⟨fun w ok=>EvsP w ok xs l,fun h1 h2 h=>⟨h.1,fun i e hi=>by
 obtain⟨u,u',a,b,d⟩:=h.2 i e hi
 exact⟨u,u',a,b,d.mono h1 h2⟩⟩⟩
theorem EvsP.snoc{w:World}{ok:Nat→Prop}{xs:List Value}{l:List EV}{e:EV}{u u':Value}(h:EvsP w ok xs l)(he:EvP w ok e u u'):EvsP w ok (xs++[u,u']) (l++[e]):=by
 refine⟨by simp [h.1];omega,fun i x hi=>?_⟩
 rcases Nat.lt_trichotomy i l.length with hl|hl|hl
 ·rw [List.getElem?_append_left hl]at hi
  obtain⟨v,v',a,b,d⟩:=h.2 i x hi
  exact⟨v,v',by rw [List.getElem?_append_left bj];exact a,by rw [List.getElem?_append_left bj];exact b,d⟩
 ·subst hl
  rw [List.getElem?_append_right (Nat.le_refl _)]at hi
  simp at hi
  subst hi
  refine⟨u,u',?_,?_,he⟩
  ·rw [List.getElem?_append_right bj,h.1,show l.length*2 - 2*l.length=0 from by omega];rfl
  ·rw [List.getElem?_append_right bj,h.1,show l.length*2+1 - 2*l.length=1 from by omega];rfl
 ·rw [List.getElem?_eq_none cD]at hi;cases hi
theorem GP{w:World}{ok:Nat→Prop}{A:Option Addr}{m c T:Nat}{xs:List Value}{l:List EV}(h:(HA.row A m c T 2 xs).holds w)(hok: ∀ b∈(HA.row A m c T 2 xs).foot,ok b)(hx:EvsP w ok xs l)(hm:m=l.length):
  l.length≤c∧c≤maxLen∧ ∀ (i:Nat) e,l[i]? =some e→ ∃a u u',A=some a∧ok a.block∧w.cell? (a.add (i*2))=some u∧w.cell? (a.add (i*2+1))=some u'∧EvP w ok e u u':=by
 obtain⟨h1,h2,h3⟩:=uK h
 subst hm
 refine⟨h1,h2,fun i e hi=>?_⟩
 obtain⟨u,u',a,b,d⟩:=hx.2 i e hi
 obtain⟨q,hq,hf,hc⟩:=h3 _ _ a
 obtain⟨q',hq',_,hc'⟩:=h3 _ _ b
 rw [hq]at hq'
 cases hq'
 exact⟨q,u,u',hq,hok _ bz,hc,hc',d⟩
def DA.evrow(A:Option Addr)(c:Nat)(l:List EV):DA:=⟨fun w ok=>l.length≤c∧c≤maxLen∧ ∀ (i:Nat) e,l[i]? =some e→ ∃a u u',A=some a∧ok a.block∧w.cell? (a.add (i*2))=some u∧w.cell? (a.add (i*2+1))=some u'∧EvP w ok e u u',
 fun h1 h2 h=>⟨h.1,h.2.1,fun i e hi=>by
  obtain⟨a,u,u',b1,b2,b3,b4,b5⟩:=h.2.2 i e hi
  exact⟨a,u,u',b1,h1 _ b2,pJ h2 b2 b3,pJ h2 b2 b4,b5.mono h1 h2⟩⟩⟩
section rules
variable {P:Program} {n:Nat} {F:List Nat} {c:Ctx F} {k:List KI} {Q:cu} {e:dF} {M:List HA} {D:List DA}
theorem Bc(i j:Nat){A:Option Addr}{m cap E:Nat}{xs:List Value}(l:List EV)(hi:M[i]? =some (.row A m cap E 2 xs))(hj:D[j]? =some (.evs xs l))(hF: ∀ b∈F,b∈cP (M.eraseIdx i))(hm:m=l.length)(next:Run P n c k Q e (M.eraseIdx i) (.evrow A cap l::D)):Run P n c k Q e M D:=
 tF i [.evrow A cap l] hF hi (fun w ok h hok hD d hd=>by
  rcases List.mem_singleton.1 hd with rfl
  exact GP h hok (hD _ (List.mem_of_getElem? hj)) hm) next
end rules
theorem z4{l:List EV}{i:Nat}(hi:i<l.length):l.take i++[l[i]]=l.take (i+1):=by rw [List.take_add_one,List.getElem?_eq_getElem hi];rfl

theorem PP(sp:Value)(nb:Nat)(tag s:ByteArray):CtR Tryz.prog 134 #[sp,ptr nb] [.node nb (cU tag s)] (RF (.text s)):=by
 refine Ct.of_run (args:=[sp,ptr nb]) Tryz.func134 aF Z Tryz.ntmps134 Z (fun c=>?_)
 refine xT 0 Z (fun A0 cap0 ht0 hv0 hl0 hc0=>?_)
 refine rO 13 Z (zC wD Z Z ?_)
 refine zA (zJ 0 dX Z Z Z Z ?_)
 refine oO 17 Z (zC wN Z Z ?_)
 refine oK 3 [4] Z Z (yZ (.fv (.pointer (some ⟨nb,3,none⟩)) (.text s)) (fun w ok h=>⟨_,rfl,hv0,tJ (dget h 0 Z) Z⟩) ?_)
 exact zD Tryz.results134 Z ⟨rfl,_,rfl,rfl⟩ nS (cO 0 Z)
theorem PQ(sp:Value)(nb:Nat)(x:Bool):CtR Tryz.prog 136 #[sp,ptr nb] [.node nb (cU eE (ua x))] (RF (.bool x)):=by
 refine Ct.of_run (args:=[sp,ptr nb]) Tryz.func136 aF Z Tryz.ntmps136 Z (fun c=>?_)
 refine xT 0 Z (fun A0 cap0 ht0 hv0 hl0 hc0=>?_)
 refine rO 13 Z (zC wD Z Z ?_)
 refine zA (zJ 0 dX Z Z Z Z ?_)
 refine oO 17 Z (zC sN Z Z ?_)
 refine zA (zJ 0 dO Z Z Z Z ?_)
 refine oK 1 [16,1] Z Z (rO 16 Z ?_)
 refine zC wN Z Z (zA ?_)
 refine zJ 0 dO Z Z Z Z (zA ?_)
 refine zL Z Z Z (c181 x) cQ (oO 7 Z ?_)
 refine yA PA Z (fun b5=>?_)
 change cG _ _ _ _ _ _ _ _ (HA.blk _ [_] _::_) _
 refine zA (zG 0 (M':=[HA.blk _ [_] _]) Z Z Z Z mH Z Z Z ?_)
 refine oK 3 [5] Z Z (rR 5 Z ?_)
 refine xJ 0 Z aG (yZ (.fv (ptr b5) (.bool x)) (fun w ok h=>⟨_,rfl,tJ (dget h 0 Z) Z⟩) ?_)
 exact zD Tryz.results136 Z ⟨rfl,_,rfl,rfl⟩ nS (cO 0 Z)
theorem PS(sp:Value)(nb:Nat)(l:List ByteArray)(hl:l.length≤1000000):CtR Tryz.prog 140 #[sp,ptr nb] [.node nb (.mk 2 fh ⟨#[]⟩ (l.map (cU dT)))] (RF (.texts l)):=by
 refine Ct.of_run (args:=[sp,ptr nb]) Tryz.func140 aF Z Tryz.ntmps140 Z (fun c=>?_)
 refine xT 0 Z (fun A0 cap0 ht0 hv0 hl0 hc0=>?_)
 rw [List.length_map]
 rw [List.length_map]at hl0
 unfold maxLen at hc0
 refine rO 13 Z (zC wD Z Z ?_)
 refine zA (zJ 0 dX Z Z Z Z ?_)
 refine oK 17 [20,1] Z Z (rO 4 Z ?_)
 refine xW cV Z Z Z (fun b22=>?_)
 refine zA (yA Jj Z (fun b6=>?_))
 change cG _ _ _ _ _ _ _ _ (HA.blk _ [_] _::_) _
 refine zA (zG 0 (M':=[HA.blk _ [_] _,_]) Z Z Z Z iy Z Z Z ?_)
 refine oO 9 Z (zC wE Z Z ?_)
 refine zA (zJ 0 dj Z Z Z Z ?_)
 refine zA (zX cn Z Z ?_)
 refine oK 4 [28,27,26,6] Z Z ?_
 refine j9 1 (fun(⟨i,A,ca,xs⟩:Nat×Option Addr×Nat×List Value)=>i≤l.length∧xs=(l.take i).map Value.string∧ ∀ s∈l.take i,s.size≤maxLen) (fun(⟨i,A,ca,xs⟩:Nat×Option Addr×Nat×List Value)=>[(28, .int .i64 ((i:Nat):Int))]) (fun(⟨i,A,ca,xs⟩:Nat×Option Addr×Nat×List Value)=>HA.blk b6 [.slice A i ca] 22::HA.row A i ca 9 1 xs::[]) (fun(⟨i,A,ca,xs⟩:Nat×Option Addr×Nat×List Value)=>l.length - i) (0,_,_,[]) (⟨by show 0≤_;omega,rfl,by simp⟩) (eC Z (eN _)) Z ?_ (eC Z (eC Z (eC Z (eN _))))
 intro ⟨i,A,ca,xs⟩ hI K hK
 change Run _ _ _ _ _ [(28,_),(27,_),(26,_),(6,_)] [_,_] (_)
 obtain⟨hi,hxs,hsz⟩:=hI
 refine rO 3 Z (yL Z Z Z ?_)
 refine oR 2 Z (zI Z (fun h29=>?_) (fun h29=>?_))
 ·refine rO 6 Z (wK 1 cn Z Z Z Z h29 ?_)
  refine uQ 1 i Z (fG h29) (fun b1=>?_)
  refine sI 1 Z (fun A1 cap1 ht1 hv1 hl1 hc1=>?_)
  refine zA (yR dQ Z Z (fun _ h=>wX h (j:=2) Z) ?_)
  refine oO 10 Z (zC wD Z Z ?_)
  refine zA (zJ 0 dX Z Z Z Z ?_)
  refine oR 10 Z (yW yM ?_)
  refine zO (tP 1 Z cF (zP Z) ?_)
  refine tP 2 Z cF (yQ Z) (tP 3 Z cF (zZ wN Z) ?_)
  refine yF (tM 0 Z cF (yT 0 dV Z Z Z) ?_)
  refine tM 4 Z cF (tU 0 dO Z Z Z) (zS 5 aD ?_)
  refine zT (I2:=[[0],[],[]]) Z cF aD (fun Kd hKd=>?_)
  refine zM cV Z Z Z Z Z (fun b43=>?_)
  refine hKd _ _ _ (hC (zE (zE (zU)))) (zS 6 aD ?_)
  refine zT (I2:=[[],[],[]]) Z cF aD (fun Kd hKd=>?_)
  refine cW 2 0 cV (fun A44 c44=>?_)
  refine hKd _ _ _ (zE (zE (zE (zU)))) (zS 7 aD ?_)
  refine zT (I2:=[[],[],[]]) Z cF aD (fun Kd hKd=>?_)
  refine zG 1 (M':=[_,HA.blk _ [_] _,_]) Z Z Z Z iy Z Z Z (hKd _ _ _ (zE (zE (zE (zU)))) ?_)
  refine yJ aD (rK 0 [28,27,26,6] Z Z ?_)
  refine rO 4 Z (zN Z Z aC ?_)
  refine oR 3 Z ?_
  exact kQ (hK (i+1,_,_,xs++[.string (l[i]'h29)]) (⟨by show i+1≤_;omega,by rw [hxs];exact kH h29,me h29 hsz hv1⟩) a6) (eC Z (eC Z (eC Z (eC Z (eN _)))))
 refine rR 6 Z ?_
 obtain rfl:i=l.length:=by omega
 rw [List.take_length]at hxs hsz
 refine uC 1 l Z aG hxs hsz (xJ 0 Z aG ?_)
 exact yZ (.fv (ptr b6) (.texts l)) (fun w ok h=>⟨_,_,rfl,tJ (dget h 0 Z) Z,dget h 1 Z⟩) (zD Tryz.results140 Z ⟨rfl,_,rfl,rfl⟩ nS (cO 0 Z))
theorem Mn(sp:Value)(nb:Nat)(tag s:ByteArray):CtR Tryz.prog 144 #[sp,ptr nb] [.node nb (cU tag s)] (RF (.tyS s)):=by
 refine Ct.of_run (args:=[sp,ptr nb]) Tryz.func144 aF Z Tryz.ntmps144 Z (fun c=>?_)
 refine xT 0 Z (fun A0 cap0 ht0 hv0 hl0 hc0=>?_)
 refine rO 13 Z (zC wD Z Z ?_)
 refine zA (zJ 0 dX Z Z Z Z ?_)
 refine oO 13 Z (yV Z Z (Il ..) ?_)
 refine zA (yK Z Z Z (fun b17=>?_))
 refine oK 3 [5,1] Z Z (rO 9 Z ?_)
 refine zC wN Z Z (oO 3 Z ?_)
 refine zC lg Z Z (zA ?_)
 refine zG 0 (M':=[HA.blk _ [_,_] _]) Z Z Z Z ef Z Z Z (oK 8 [4] Z Z ?_)
 refine xJ 0 Z aG (yZ (.fv (ptr b17) (.tyS s)) (fun w ok h=>⟨b17,_,rfl,hv0,dget h 0 Z,tJ (dget h 1 Z) Z⟩) ?_)
 exact zD Tryz.results144 Z ⟨rfl,_,rfl,rfl⟩ nS (cO 0 Z)
theorem Mo(sp:Value)(nb:Nat)(l:List ByteArray)(hl:l.length≤1000000):CtR Tryz.prog 144 #[sp,ptr nb] [.node nb (.mk 2 fh ⟨#[]⟩ (l.map (cU dT)))] (RF (.tyL l)):=by
 refine Ct.of_run (args:=[sp,ptr nb]) Tryz.func144 aF Z Tryz.ntmps144 Z (fun c=>?_)
 refine xT 0 Z (fun A0 cap0 ht0 hv0 hl0 hc0=>?_)
 rw [List.length_map]
 rw [List.length_map]at hl0
 unfold maxLen at hc0
 refine rO 13 Z (zC wD Z Z ?_)
 refine zA (zJ 0 dX Z Z Z Z ?_)
 refine oK 17 [25,1] Z Z (rO 4 Z ?_)
 refine xW cV Z Z Z (fun b27=>?_)
 refine zA (yA Jj Z (fun b6=>?_))
 change cG _ _ _ _ _ _ _ _ (HA.blk _ [_] _::_) _
 refine zA (zG 0 (M':=[HA.blk _ [_] _,_]) Z Z Z Z iy Z Z Z ?_)
 refine oO 9 Z (zC wE Z Z ?_)
 refine zA (zJ 0 dj Z Z Z Z ?_)
 refine zA (zX cn Z Z ?_)
 refine oK 4 [33,32,31,6] Z Z ?_
 refine j9 1 (fun(⟨i,A,ca,xs⟩:Nat×Option Addr×Nat×List Value)=>i≤l.length∧xs=(l.take i).map Value.string∧ ∀ s∈l.take i,s.size≤maxLen) (fun(⟨i,A,ca,xs⟩:Nat×Option Addr×Nat×List Value)=>[(33, .int .i64 ((i:Nat):Int))]) (fun(⟨i,A,ca,xs⟩:Nat×Option Addr×Nat×List Value)=>HA.blk b6 [.slice A i ca] 22::HA.row A i ca 9 1 xs::[]) (fun(⟨i,A,ca,xs⟩:Nat×Option Addr×Nat×List Value)=>l.length - i) (0,_,_,[]) (⟨by show 0≤_;omega,rfl,by simp⟩) (eC Z (eN _)) Z ?_ (eC Z (eC Z (eC Z (eN _))))
 intro ⟨i,A,ca,xs⟩ hI K hK
 change Run _ _ _ _ _ [(33,_),(32,_),(31,_),(6,_)] [_,_] (_)
 obtain⟨hi,hxs,hsz⟩:=hI
 refine rO 3 Z (yL Z Z Z ?_)
 refine oR 2 Z (zI Z (fun h34=>?_) (fun h34=>?_))
 ·refine rO 6 Z (wK 1 cn Z Z Z Z h34 ?_)
  refine uQ 1 i Z (fG h34) (fun b1=>?_)
  refine sI 1 Z (fun A1 cap1 ht1 hv1 hl1 hc1=>?_)
  refine zA (yR dQ Z Z (fun _ h=>wX h (j:=2) Z) ?_)
  refine oO 10 Z (zC wD Z Z ?_)
  refine zA (zJ 0 dX Z Z Z Z ?_)
  refine oR 10 Z (yW yM ?_)
  refine zO (tP 1 Z cF (zP Z) ?_)
  refine tP 2 Z cF (yQ Z) (tP 3 Z cF (zZ wN Z) ?_)
  refine yF (tM 0 Z cF (yT 0 dV Z Z Z) ?_)
  refine tM 4 Z cF (tU 0 dO Z Z Z) (zS 5 aD ?_)
  refine zT (I2:=[[0],[],[]]) Z cF aD (fun Kd hKd=>?_)
  refine zM cV Z Z Z Z Z (fun b48=>?_)
  refine hKd _ _ _ (hC (zE (zE (zU)))) (zS 6 aD ?_)
  refine zT (I2:=[[],[],[]]) Z cF aD (fun Kd hKd=>?_)
  refine cW 2 0 cV (fun A49 c49=>?_)
  refine hKd _ _ _ (zE (zE (zE (zU)))) (zS 7 aD ?_)
  refine zT (I2:=[[],[],[]]) Z cF aD (fun Kd hKd=>?_)
  refine zG 1 (M':=[_,HA.blk _ [_] _,_]) Z Z Z Z iy Z Z Z (hKd _ _ _ (zE (zE (zE (zU)))) ?_)
  refine yJ aD (rK 0 [33,32,31,6] Z Z ?_)
  refine rO 4 Z (zN Z Z aC ?_)
  refine oR 3 Z ?_
  exact kQ (hK (i+1,_,_,xs++[.string (l[i]'h34)]) (⟨by show i+1≤_;omega,by rw [hxs];exact kH h34,me h34 hsz hv1⟩) a6) (eC Z (eC Z (eC Z (eC Z (eN _)))))
 refine rO 4 Z (yV Z Z (Il ..) ?_)
 refine zA (yK Z Z Z (fun b52=>?_))
 refine oO 10 Z (zC qm Z Z ?_)
 refine zA (zG 0 (M':=[HA.blk _ [_,_] _,_,_]) Z Z Z Z zt Z Z Z ?_)
 refine oK 1 [9] Z Z (rR 7 Z ?_)
 obtain rfl:i=l.length:=by omega
 rw [List.take_length]at hxs hsz
 refine uC 2 l Z aG hxs hsz (xJ 1 Z aG ?_)
 refine xJ 0 Z aG (yZ (.fv (ptr b52) (.tyL l)) (fun w ok h=>⟨b52,_,_,rfl,dget h 0 Z,tJ (dget h 1 Z) Z,dget h 2 Z⟩) ?_)
 exact zD Tryz.results144 Z ⟨rfl,_,rfl,rfl⟩ nS (cO 0 Z)
theorem PT(sp:Value)(nb:Nat)(l:List EV)(hl:l.length≤1000000):CtR Tryz.prog 143 #[sp,ptr nb] [.node nb (.mk 2 fh ⟨#[]⟩ (l.map Bb))] (RF (.enums l)):=by
 refine Ct.of_run (args:=[sp,ptr nb]) Tryz.func143 aF Z Tryz.ntmps143 Z (fun c=>?_)
 refine xT 0 Z (fun A0 cap0 ht0 hv0 hl0 hc0=>?_)
 rw [List.length_map]
 rw [List.length_map]at hl0
 unfold maxLen at hc0
 refine rO 8 Z (xW mL Z Z Z (fun b10=>?_))
 refine zA (yA Mb Z (fun b5=>?_))
 change cG _ _ _ _ _ _ _ _ (HA.blk _ [_] _::_) _
 refine zA (zG 0 (M':=[HA.blk _ [_] _,_]) Z Z Z Z DL Z Z Z ?_)
 refine oO 9 Z (zC wD Z Z ?_)
 refine zA (zJ 0 dX Z Z Z Z ?_)
 refine oO 17 Z (zC wE Z Z ?_)
 refine zA (zJ 0 dj Z Z Z Z ?_)
 refine zA (zX cn Z Z ?_)
 refine oK 3 [22,21,20,5] Z Z (rK 1 [22,21,20,5] Z Z ?_)
 refine yZ (.evs [] (l.take 0)) (fun w ok h=>⟨rfl,fun i e hi=>by simp at hi⟩) ?_
 refine yB 1 (fun(⟨i,A,ca,xs⟩:Nat×Option Addr×Nat×List Value)=>i≤l.length) (fun(⟨i,A,ca,xs⟩:Nat×Option Addr×Nat×List Value)=>[(22, .int .i64 ((i:Nat):Int))]) (fun(⟨i,A,ca,xs⟩:Nat×Option Addr×Nat×List Value)=>HA.blk b5 [.slice A i ca] 221::HA.row A i ca 223 2 xs::[]) (fun(⟨i,A,ca,xs⟩:Nat×Option Addr×Nat×List Value)=> .evs xs (l.take i):: .dblk nb (dY 2 fh ⟨#[]⟩ A0 l.length cap0) 150:: .kids (.slice A0 l.length cap0) (l.map Bb):: .node nb (.mk 2 fh ⟨#[]⟩ (l.map Bb))::[]) (fun(⟨i,A,ca,xs⟩:Nat×Option Addr×Nat×List Value)=>l.length - i) (0,_,_,[]) bg (eC Z (eN _)) Z Z ?_ (eC Z (eC Z (eC Z (eN _))))
 intro ⟨i,A,ca,xs⟩ hI K hK
 replace hI:i≤l.length:=hI
 change Run _ _ _ _ _ [(22,_),(21,_),(20,_),(5,_)] [_,_] [_,_,_,_]
 refine rO 3 Z (yL Z Z Z ?_)
 refine oR 2 Z (zI Z (fun h23=>?_) (fun h23=>?_))
 ·refine rO 6 Z (wK 2 cn Z Z Z Z h23 ?_)
  refine uQ 2 i Z (fG h23) (fun b1=>?_)
  refine je 1 Z (fun A1 cap1 ht1 hv1 hl1 hc1=>?_)
  refine zA (yR dQ Z Z (fun _ h=>wX h (j:=2) Z) ?_)
  refine oO 10 Z (zC wD Z Z ?_)
  refine zA (zJ 0 dX Z Z Z Z ?_)
  refine oR 9 Z (wP Z (decide_eq_true (Dl _)) ?_)
  refine rO 7 Z (zC sN Z Z ?_)
  refine zA (zJ 0 dO Z Z Z Z ?_)
  refine oK 1 [35,7,22,21,20,5] Z Z (rR 8 Z ?_)
  refine zI Z (fun h36=>?_) (fun h36=>?_)
  ·obtain⟨s9,he⟩:=GO h36
   refine yW yM (zO ?_)
   refine tP 1 Z cF (zP Z) (tP 2 Z cF (yQ Z) ?_)
   refine tP 3 Z cF (zZ wN Z) (yF ?_)
   refine tM 0 Z cF (yT 0 DK Z Z Z) (tM 4 Z cF (qE Z (GG ..)) ?_)
   refine zS 5 aD ?_
   refine zT (I2:=[[0],[],[]]) Z cF aD (fun Kd hKd=>?_)
   refine zM mL Z Z Z Z Z (fun b43=>?_)
   refine hKd _ _ _ (hC (zE (zE (zU)))) (zS 6 aD ?_)
   refine zT (I2:=[[],[],[]]) Z cF aD (fun Kd hKd=>?_)
   refine cW 2 0 mL (fun A44 c44=>?_)
   refine hKd _ _ _ (zE (zE (zE (zU)))) (zS 7 aD ?_)
   refine zT (I2:=[[],[],[]]) Z cF aD (fun Kd hKd=>?_)
   refine zG 1 (M':=[_,HA.blk _ [_] _,_]) Z Z Z Z DL Z Z Z (hKd _ _ _ (zE (zE (zE (zU)))) ?_)
   refine yJ aD (rK 0 [22,21,20,5] Z Z ?_)
   refine rO 5 Z (zN Z Z aC ?_)
   refine oR 3 Z (yZ (.evs (xs++[.pointer (some ⟨b1,3,none⟩), .pointer none]) ((l.take i)++[l[i]])) (fun w ok h=>EvsP.snoc (dget h 4 Z) (by rw [he];exact⟨_,rfl,rfl,by rw [he]at hv1;exact hv1,by have:=tJ (o:=3) (dget h 0 Z) rfl;rw [he]at this;exact this⟩)) ?_)
   rw [z4 h23]
   exact kQ (hK (i+1,_,_,_) bW a6) (eC Z (eC Z (eC Z (eC Z (eN _))))) (hD:=(cd 0 Z sQ))
  obtain⟨x9,he⟩:=Dm h36
  refine rR 7 Z (wP Z (decide_eq_true (by rw [he];rfl)) ?_)
  refine rO 7 Z (zC wN Z Z ?_)
  refine zA (zJ 0 dO Z Z Z Z ?_)
  refine zA (zL Z Z (by rw [he];rfl) (c181 x9) cQ ?_)
  refine oO 7 Z (yA PA Z (fun b8=>?_))
  change cG _ _ _ _ _ _ _ _ (HA.blk _ [_] _::_) _
  refine zA (zG 0 (M':=[HA.blk _ [_] _,_,_]) Z Z Z Z mH Z Z Z ?_)
  refine oK 3 [8,22,21,20,5] Z Z (rO 2 Z ?_)
  refine zF 1 DK Z Z Z Z (zA ?_)
  refine yV Z Z (GH ..) (zA ?_)
  refine zM mL Z Z Z Z Z (fun b57=>?_)
  refine zA ?_
  refine cW 3 0 mL (fun A58 c58=>?_)
  refine zA (zG 2 (M':=[_,_,HA.blk _ [_] _,_]) Z Z Z Z DL Z Z Z ?_)
  refine oO 6 Z (zN Z Z aC ?_)
  refine oR 3 Z (xJ 1 Z aG ?_)
  refine yZ (.evs (xs++[.pointer none,ptr b8]) ((l.take i)++[l[i]])) (fun w ok h=>EvsP.snoc (dget h 5 Z) (by rw [he];exact⟨_,rfl,rfl,tJ (dget h 0 Z) Z⟩)) ?_
  rw [z4 h23]
  exact kQ (hK (i+1,_,_,_) bW a6) (eC Z (eC Z (eC Z (eC Z (eN _))))) (hD:=(cd 0 Z sQ))
 refine rR 7 Z ?_
 obtain rfl:i=l.length:=by omega
 rw [List.take_length]
 refine Bc 1 0 l Z Z aG Z (xJ 0 Z aG ?_)
 exact yZ (.fv (ptr b5) (.enums l)) (fun w ok h=>⟨_,_,_,rfl,tJ (dget h 0 Z) Z,(dget h 1 Z:(DA.evrow A ca l).p w ok)⟩) (zD Tryz.results143 Z ⟨rfl,_,rfl,rfl⟩ nS (cO 0 Z))
end Go.Jw

namespace Go.Jw
open Go Go.RowKit
def MapOk(es:Array MapEntry):Prop:= ∀ x∈es.toList,∃s,x.key= .string s
theorem MapOk.empty:MapOk #[]:=by intro x hx;cases hx
theorem MapOk.isKey{es:Array MapEntry}(h:MapOk es): ∀ x∈es.toList,MapKept.IsKey .string x.key:=by
 intro x hx
 obtain⟨s,hs⟩:=h x hx
 rw [hs];simp [MapKept.IsKey]
theorem xq{P:Program}{w:World}{mty kt et:TypeId}{r clock:Nat}{es:Array MapEntry}{s:ByteArray}{val:Value}(hm:P.underlying mty=some (.map kt et))(hk:P.underlying kt=some .string)(hb:w.heap[r]? =some (.map es clock))(hes:MapOk es):
  ∃es' clock',(Instr.mapUpdate mty (.map (some r)) (.string s) val).run P w= .ok () {w with heap:=w.heap.setIfInBounds r (.map es' clock')}∧MapOk es'∧(es= #[]→es'= #[{key:= .string s,val:=val,born:=clock}]):=by
 have hc:(Instr.checkKey false 10000 kt (.string s)).run P w= .ok () w:=MapKept.run_checkKey (k:= .string s) hk (by simp [MapKept.IsKey]) false 9999
 rcases MapKept.findNow_spec (d:= .string) (k:= .string s) (by simp [MapKept.IsKey]) es.toList 0 hes.isKey with ⟨hf,_⟩|⟨j,e,hf,hj,hke⟩
 ·refine⟨es.push {key:= .string s,val:=val,born:=clock},clock+1,?_,?_,?_⟩
  ·simp [Instr.mapUpdate,run_underlying hm,MapKept.run_getObj_map hb,hc,MapKept.run_findKey hk hf,MapKept.run_setObj_map _ hb,Result.andThen]
  ·intro x hx
   simp at hx
   rcases hx with hx|rfl
   ·exact hes x (by simpa using hx)
   ·exact⟨s,rfl⟩
  ·intro h;subst h;rfl
 ·rw [Nat.zero_add]at hf
  have hj':es[j]? =some e:=by simpa using hj
  refine⟨es.modify j (fun e=>{e with key:= .string s,val:=val}),clock,?_,?_,?_⟩
  ·have hst:(Instr.keyThatStays (.string s) (.string s)).run P w= .ok (.string s) w:=by
    have:(s==s)=true:=(MapKept.bytes_beq s s).2 rfl
    simp [Instr.keyThatStays,Instr.sameBits,this]
   simp [Instr.mapUpdate,run_underlying hm,MapKept.run_getObj_map hb,hc,MapKept.run_findKey hk hf,MapKept.run_setObj_map _ hb,Result.andThen,hj',hke,hst]
  ·intro x hx
   obtain⟨q,hq,rfl⟩:=List.getElem_of_mem hx
   simp only [Array.toList_modify,List.getElem_modify]at*
   split
   ·exact⟨s,rfl⟩
   ·exact hes _ (List.getElem_mem _)
  ·intro h;subst h;simp at hj'
section rules
variable {P:Program} {n:Nat} {F:List Nat} {c:Ctx F} {ops:Array Oper} {d:Nat} {T:TypeId} {l:List Oper} {k:List KI} {Q:cu} {e:dF} {M:List HA} {D:List DA}
theorem Bd(i:Nat){x y z:Operand}{mb clock:Nat}{es:Array MapEntry}{s:ByteArray}{v:Value}{S kt et:TypeId}(hm:P.underlying S=some (.map kt et))(hk:P.underlying kt=some .string)(hx:ev e x=some (.map (some mb)))(hy:ev e y=some (.string s))(hz:ev e z=some v)
    (hi:M[i]? =some (.obj mb (.map es clock))) (hes:MapOk es) (next: ∀ es' clock',MapOk es'→(es= #[]→es'= #[{key:= .string s,val:=v,born:=clock}])→cG P n c ops l k Q e (M.set i (.obj mb (.map es' clock'))) D):
    cL P n c ops none (.mapUpdate S x y z) T l k Q e M D:=by
  intro a w hf
  have hb:w.heap[mb]? =some (.map es clock):=hf.toFitsW.mem hi
  obtain⟨es',clock',hr,h1,h2⟩:=xq (P:=P) (s:=s) (val:=v) hm hk hb hes
  have hlt:mb<w.heap.size:=sB hb
  unfold Oper.wp
  have:(execOp a.eval (dH none (.mapUpdate S x y z) T)).run P w= .ok .skip {w with heap:=w.heap.setIfInBounds mb (.map es' clock')}:=by
    simp [execOp,dH,hf.ev hx,hf.ev hy,hf.ev hz,hr]
  rw [this]
  refine next es' clock' h1 h2 _ _ (hf.world (hf.toFitsW.swapAt hi (x':= .obj mb (.map es' clock')) ?_ ?_ br (fun b hb=> .inl hb)))
  · show(w.heap.setIfInBounds mb _)[mb]? =_
    simp [hlt]
  · refine⟨rfl,rfl,rfl,by simp,fun q hq hF=>?_⟩
    have hne:mb≠q:=by intro e;subst e;exact hF br
    show(w.heap.setIfInBounds mb _)[q]? =_
    rw [Array.getElem?_setIfInBounds_ne hne]
end rules
end Go.Jw

namespace Go.Jw
open Go Go.RowKit Go.Proofs
set_option maxRecDepth 8000
open Go.Proofs
instance:Inhabited Prop:=⟨True⟩
noncomputable def ep:V→Prop:=V.fix (fun v f=>getV v kId=none∧ ∀ (j:Nat) k u,v.keys[j]? =some k→v.items[j]? =some u→ ∀ z∈cK (cH k) u,f z)
def ub(v:V):Prop:= ∀ (j:Nat) k u,v.keys[j]? =some k→v.items[j]? =some u→ ∀ z∈cK (cH k) u,ep z
theorem noId_iff(v:V):ep v↔getV v kId=none∧ub v:=by
 have:=V.fix_eq (G:=fun v f=>getV v kId=none∧ ∀ (j:Nat) k u,v.keys[j]? =some k→v.items[j]? =some u→ ∀ z∈cK (cH k) u,f z) (fun t g g' h=>by
  have: ∀ (j:Nat) k u,t.items[j]? =some u→((∀ z∈cK (cH k) u,g z)↔ ∀ z∈cK (cH k) u,g' z):=by
   intro j k u hu
   have hs: ∀ z∈cK (cH k) u,SizeOf.sizeOf z<SizeOf.sizeOf t:=fun z hz=>Nat.lt_of_le_of_lt (uW hz) (f7 hu)
   exact⟨fun a z hz=>by rw [←h z (hs z hz)];exact a z hz,fun a z hz=>by rw [h z (hs z hz)];exact a z hz⟩
  apply propext
  constructor
  ·rintro ⟨h1,h2⟩;exact⟨h1,fun j k u hk hu=>(this j k u hu).1 (h2 j k u hk hu)⟩
  ·rintro ⟨h1,h2⟩;exact⟨h1,fun j k u hk hu=>(this j k u hu).2 (h2 j k u hk hu)⟩) v
 show V.fix _ v↔_
 rw [this]
 rfl
def Mp(mb:Nat)(es:Array MapEntry)(clock:Nat)(x:V)(u:Value)(M':List HA)(D':List DA):Prop:=
 ∃b G es' clock',u=ptr b∧M'=[.many 124 (Gr.blks G), .obj mb (.map es' clock')]∧D'=[.graph mb G]∧Unf G x b∧MapOk es'∧(ep x→es'=es∧clock'=clock)∧
  (∀ idv,getV x kId=some idv→ub x→es= #[]→es'= #[{key:= .string idv.text,val:=ptr b,born:=clock}])∧Own G [b]
def gD(ft:DA)(mb:Nat)(back:Bool)(x:V):Prop:= ∀ nb es clock,MapOk es→Ct Tryz.prog 103 #[ptr nb, .map (some mb)] [.obj mb (.map es clock)] [.node nb (cv back x),ft] (Mp mb es clock x)
noncomputable abbrev fA(back:Bool)(p:ByteArray×V):ByteArray×Y:=(p.1,cv back p.2)
theorem uc(l:List (ByteArray×Y)):(l.flatMap eH).length=2*l.length:=by
  induction l with
  |nil=>rfl
  |cons a l ih=>simp [List.flatMap_cons,eH]at*;omega
theorem oh{l:List (ByteArray×Y)}{i:Nat}(h:i<l.length):(l.flatMap eH)[2*i]? =some (cU dT l[i].1):=by
  induction l generalizing i with
  |nil=>simp at h
  |cons a l ih=>
    cases i with
    |zero=>rfl
    |succ i=>
      rw [show 2*(i+1)=2*i+2 from by omega]
      simp only [List.flatMap_cons,eH,List.cons_append,List.nil_append,List.getElem?_cons_succ,List.getElem_cons_succ]
      exact ih cA
theorem ol{l:List (ByteArray×Y)}{i:Nat}(h:i<l.length):(l.flatMap eH)[2*i+1]? =some l[i].2:=by
  induction l generalizing i with
  |nil=>simp at h
  |cons a l ih=>
    cases i with
    |zero=>rfl
    |succ i=>
      rw [show 2*(i+1)+1=2*i+1+2 from by omega]
      simp only [List.flatMap_cons,eH,List.cons_append,List.nil_append,List.getElem?_cons_succ,List.getElem_cons_succ]
      exact ih cA
theorem kI(f:ByteArray×V→ByteArray×Y)(ps:List (ByteArray×V)):((ps.map f).flatMap eH).length=2*ps.length:=by rw [uc,List.length_map]
theorem rd{back:Bool}{ps:List (ByteArray×V)}{i:Nat}(h:i<ps.length):((ps.map (fA back)).flatMap eH)[2*i]? =some (cU dT ps[i].1):=by
 rw [oh cA];simp
theorem re{back:Bool}{ps:List (ByteArray×V)}{i:Nat}(h:i<ps.length):((ps.map (fA back)).flatMap eH)[2*i+1]? =some (cv back ps[i].2):=by
 rw [ol cA];simp
theorem gf{back:Bool}{v:V}(h:v.kind=5):cv back v= .mk 4 kE ⟨#[]⟩ (((prs back v).map (fA back)).flatMap eH):=by
 rw [vW]
 simp only [h]
 have:mT back (v.keys.zip (v.items.map (cv back)))=(prs back v).map (fA back):=by
  have h1:v.keys.zip (v.items.map (cv back))=(v.keys.zip v.items).map (fA back):=by
   rw [List.zip_map_right];rfl
  unfold mT prs
  rw [h1]
  cases back<;>simp
 rw [this]
 simp
theorem fI{back:Bool}{v:V}(h:v.kind=4):cv back v= .mk 2 fh ⟨#[]⟩ (v.items.map (cv back)):=by
 rw [vW];simp [h]
theorem qS{back:Bool}{v:V}(h:v.kind=5):(cv back v).kind=4:=by rw [gf h];rfl
theorem GQ{w:World}{ok:Nat→Prop}{A:Option Addr}{m c T:Nat}{xs:List Value}{bs:List Nat}(h:(HA.row A m c T 1 xs).holds w)(hok: ∀ b∈(HA.row A m c T 1 xs).foot,ok b)(hx:xs=bs.map ptr):RowPtrs w ok (.slice A m c) bs:=by
 obtain⟨h1,h2,h3⟩:=uK h
 have hm:m=bs.length:=by have:=h.1;subst hx;simp at this;omega
 subst hm
 refine⟨A,c,rfl,h1,h2,fun i b hi=>?_⟩
 obtain⟨a,ha,hf,hc⟩:=h3 i (ptr b) (by subst hx;simp [hi])
 exact⟨a,ha,hok _ bz,hc⟩
section rules
variable {P:Program} {n:Nat} {F:List Nat} {c:Ctx F} {k:List KI} {Q:cu} {e:dF} {M:List HA} {D:List DA}
theorem fJ(i:Nat){A:Option Addr}{m cap E:Nat}{xs:List Value}(bs:List Nat)(hi:M[i]? =some (.row A m cap E 1 xs))(hF: ∀ b∈F,b∈cP (M.eraseIdx i))(hx:xs=bs.map ptr)(next:Run P n c k Q e (M.eraseIdx i) (.rowp (.slice A m cap) bs::D)):Run P n c k Q e M D:=
 tF i [.rowp (.slice A m cap) bs] hF hi (fun w ok h hok hD d hd=>by
  rcases List.mem_singleton.1 hd with rfl
  exact GQ h hok hx) next
end rules
def NamP(w:World)(ok:Nat→Prop)(nbs:List Nat)(l:List (ByteArray×Nat)):Prop:=nbs.length=l.length∧ ∀ (i:Nat) (q:ByteArray×Nat) (nb:Nat),l[i]? =some q→nbs[i]? =some nb→q.1.size≤maxLen∧BlkP w ok nb [.string q.1,ptr q.2] 179
def DA.nam(nbs:List Nat)(l:List (ByteArray×Nat)):DA:=⟨fun w ok=>NamP w ok nbs l,fun h1 h2 h=>⟨h.1,fun i q nb a b=>⟨(h.2 i q nb a b).1,(h.2 i q nb a b).2.mono h1 h2⟩⟩⟩
theorem NamP.snoc{w:World}{ok:Nat→Prop}{nbs:List Nat}{l:List (ByteArray×Nat)}{q:ByteArray×Nat}{nb:Nat}(h:NamP w ok nbs l)(hq:q.1.size≤maxLen)(hb:BlkP w ok nb [.string q.1,ptr q.2] 179):NamP w ok (nbs++[nb]) (l++[q]):=by
 refine⟨by simp [h.1],fun i q' nb' a b=>?_⟩
 rcases Nat.lt_trichotomy i l.length with hi|hi|hi
 ·rw [List.getElem?_append_left hi]at a
  rw [List.getElem?_append_left bf]at b
  exact h.2 i q' nb' a b
 ·subst hi
  rw [List.getElem?_append_right (Nat.le_refl _)]at a
  rw [List.getElem?_append_right bI]at b
  simp at a;simp [h.1]at b
  subst a;subst b
  exact⟨hq,hb⟩
 ·rw [List.getElem?_eq_none cD]at a;cases a
theorem gg(nbs:List Nat)(b:Nat):nbs.map ptr++[ptr b]=(nbs++[b]).map ptr:=by simp
theorem pK{α β:Type}{R:α→β→Prop}{l:List α}{ps:List β}{i:Nat}(hi:i<ps.length){q:α}(h:All2 R l (ps.take i))(hq:R q ps[i]):All2 R (l++[q]) (ps.take (i+1)):=by
 rw [List.take_add_one,List.getElem?_eq_getElem hi]
 exact h.snoc hq
theorem Be{ps:List (ByteArray×V)}{i:Nat}(hi:i<ps.length)(h: ∀ p∈ps.take (i+1),ep p.2):(∀ p∈ps.take i,ep p.2)∧ep ps[i].2:=by
 rw [List.take_add_one,List.getElem?_eq_getElem hi]at h
 exact⟨fun p hp=>h p (List.mem_append_left _ hp),h _ (List.mem_append_right _ aJ)⟩
theorem mf{ps:List V}{i:Nat}(hi:i<ps.length)(h: ∀ p∈ps.take (i+1),ep p):(∀ p∈ps.take i,ep p)∧ep ps[i]:=by
 rw [List.take_add_one,List.getElem?_eq_getElem hi]at h
 exact⟨fun p hp=>h p (List.mem_append_left _ hp),h _ (List.mem_append_right _ aJ)⟩
abbrev Dn(G:Gr)(q:ByteArray×Nat)(p:ByteArray×V):Prop:=q.1=p.1∧Unf G p.2 q.2
theorem J5{G G':Gr}{l:List (ByteArray×Nat)}{ps:List (ByteArray×V)}(h:All2 (Dn G) l ps):All2 (Dn (G'++G)) l ps:=h.mono fun q p _ hq=>⟨hq.1,Unf.mono (fun g hg=>List.mem_append_right _ hg) _ _ hq.2⟩
theorem Iq{G G':Gr}{l:List Nat}{ps:List V}(h:All2 (fun b x=>Unf G x b) l ps):All2 (fun b x=>Unf (G'++G) x b) l ps:=h.mono fun q p _ hq=>Unf.mono (fun g hg=>List.mem_append_right _ hg) _ _ hq
theorem Do{G G':Gr}{x:V}{b:Nat}(h:Unf G x b):Unf (G++G') x b:=Unf.mono (fun g hg=>List.mem_append_left _ hg) _ _ h
theorem gE(G G':Gr):Gr.blks G++Gr.blks G'=Gr.blks (G++G'):=by simp [Gr.blks]
def DepP(w:World)(ok:Nat→Prop)(nbs:List Nat)(l:List (ByteArray×List ByteArray)):Prop:=nbs.length=l.length∧ ∀ (i:Nat) (q:ByteArray×List ByteArray) (nb:Nat),l[i]? =some q→nbs[i]? =some nb→
 ∃tb p2 sl2,q.1.size≤maxLen∧BlkP w ok nb [.string q.1,ptr tb] 192∧BlkP w ok tb [.pointer none, .pointer (some p2)] 194∧PtsTo w ok p2 sl2∧StrsP w ok sl2 q.2
def DA.dep(nbs:List Nat)(l:List (ByteArray×List ByteArray)):DA:=⟨fun w ok=>DepP w ok nbs l,fun h1 h2 h=>⟨h.1,fun i q nb a b=>by
 obtain⟨tb,p2,sl2,a1,a2,a3,a4,a5⟩:=h.2 i q nb a b
 exact⟨tb,p2,sl2,a1,a2.mono h1 h2,a3.mono h1 h2,a4.mono h1 h2,a5.mono h1 h2⟩⟩⟩
theorem DepP.snoc{w:World}{ok:Nat→Prop}{nbs:List Nat}{l:List (ByteArray×List ByteArray)}{q:ByteArray×List ByteArray}{nb tb:Nat}{p2:Addr}{sl2:Value}(h:DepP w ok nbs l)(hq:q.1.size≤maxLen)(hb:BlkP w ok nb [.string q.1,ptr tb] 192)(ht:BlkP w ok tb [.pointer none, .pointer (some p2)] 194)(hp:PtsTo w ok p2 sl2)(hs:StrsP w ok sl2 q.2):
  DepP w ok (nbs++[nb]) (l++[q]):=by
 refine⟨by simp [h.1],fun i q' nb' a b=>?_⟩
 rcases Nat.lt_trichotomy i l.length with hi|hi|hi
 ·rw [List.getElem?_append_left hi]at a
  rw [List.getElem?_append_left bf]at b
  exact h.2 i q' nb' a b
 ·subst hi
  rw [List.getElem?_append_right (Nat.le_refl _)]at a
  rw [List.getElem?_append_right bI]at b
  simp at a;simp [h.1]at b
  subst a;subst b
  exact⟨tb,p2,sl2,hq,hb,ht,hp,hs⟩
 ·rw [List.getElem?_eq_none cD]at a;cases a
theorem gF{back:Bool}{v:V}(h:v.kind=4)(h3: ∀ y∈v.items,y.kind=3):cv back v= .mk 2 fh ⟨#[]⟩ ((v.items.map V.text).map (cU dT)):=by
 rw [fI h]
 congr 1
 rw [List.map_map]
 refine List.map_congr_left fun y hy=>?_
 have:=h3 y hy
 rw [vW]
 simp [this]
abbrev ud(p:ByteArray×V):ByteArray×List ByteArray:=(p.1,p.2.items.map V.text)

theorem PU(ft:DA)(sb nb mb:Nat)(cs:List Value)(back:Bool)(ps:List (ByteArray×V))(hl:ps.length≤1000000)(hcs:cs[0]? =some (.map (some mb)))(H: ∀ p∈ps,gD ft mb back p.2)(es:Array MapEntry)(clock:Nat)(hes:MapOk es):
  Ct Tryz.prog 141 #[ptr sb,ptr nb] [.blk sb cs 124, .obj mb (.map es clock)] [.node nb (.mk 4 kE ⟨#[]⟩ ((ps.map (fA back)).flatMap eH)),ft] (fun u M' D'=> ∃p G es' clock' l,u= .pointer (some p)∧M'=[.blk sb cs 124, .many 124 (Gr.blks G), .obj mb (.map es' clock')]∧D'=[.fv u (.named l), .graph mb G]∧
   All2 (Dn G) l ps∧MapOk es'∧((∀ p∈ps,ep p.2)→es'=es∧clock'=clock)∧Own G (l.map (·.2))):=by
 refine Ct.of_run (args:=[ptr sb,ptr nb]) Tryz.func141 aF Z Tryz.ntmps141 Z (fun c=>?_)
 refine xT 0 Z (fun A0 cap0 ht0 hv0 hl0 hc0=>?_)
 rw [kI]
 rw [kI]at hl0
 unfold maxLen at hc0
 refine rO 13 Z (zC wD Z Z ?_)
 refine zA (zJ 0 dX Z Z Z Z ?_)
 refine oO 13 Z (xW tc Z Z Z (fun b16=>?_))
 refine zA (yA MU Z (fun b5=>?_))
 change cG _ _ _ _ _ _ _ _ (HA.blk _ [_] _::_) _
 refine zA (zG 0 (M':=[HA.blk _ [_] _,_,_,_]) Z Z Z Z Ib Z Z Z ?_)
 refine oK 8 [6,5,0,1] Z Z (yZ (.graph mb []) (fun w ok h g hg=>by cases hg) ?_)
 refine yZ (.nam [] []) (fun w ok h=>⟨rfl,fun i q nb a=>by simp at a⟩) (gd 124 ?_)
 refine rC (M':=HA.blk b5 [.slice (some ⟨b16,0,none⟩) 0 0] 110::HA.row (some ⟨b16,0,none⟩) 0 0 125 1 []::HA.many 124 []::HA.obj mb (.map es clock)::HA.blk sb cs 124::[]) ?_ ?_
 ·exact((List.Perm.swap _ _ _).trans (.cons _ (List.Perm.swap _ _ _))).trans (.cons _ (.cons _ (.cons _ (List.Perm.swap _ _ _))))
 refine yB 1 (fun(⟨i,A,ca,nbs,es1,ck1,G,l⟩:Nat×Option Addr×Nat×List Nat×Array MapEntry×Nat×Gr×List (ByteArray×Nat))=>i≤ps.length∧All2 (Dn G) l (ps.take i)∧MapOk es1∧((∀ p∈ps.take i,ep p.2)→es1=es∧ck1=clock)∧Own G (l.map (·.2))) (fun(⟨i,A,ca,nbs,es1,ck1,G,l⟩:Nat×Option Addr×Nat×List Nat×Array MapEntry×Nat×Gr×List (ByteArray×Nat))=>[(6, .int .i64 ((2*i:Nat):Int))]) (fun(⟨i,A,ca,nbs,es1,ck1,G,l⟩:Nat×Option Addr×Nat×List Nat×Array MapEntry×Nat×Gr×List (ByteArray×Nat))=>HA.blk b5 [.slice A i ca] 110::HA.row A i ca 125 1 (nbs.map ptr)::HA.many 124 (Gr.blks G)::HA.obj mb (.map es1 ck1)::HA.blk sb cs 124::[]) (fun(⟨i,A,ca,nbs,es1,ck1,G,l⟩:Nat×Option Addr×Nat×List Nat×Array MapEntry×Nat×Gr×List (ByteArray×Nat))=> .nam nbs l:: .graph mb G:: .dblk nb (dY 4 kE ⟨#[]⟩ A0 (2*ps.length) cap0) 150:: .kids (.slice A0 (2*ps.length) cap0) ((ps.map (fA back)).flatMap eH):: .node nb (.mk 4 kE ⟨#[]⟩ ((ps.map (fA back)).flatMap eH))::ft::[]) (fun(⟨i,A,ca,nbs,es1,ck1,G,l⟩:Nat×Option Addr×Nat×List Nat×Array MapEntry×Nat×Gr×List (ByteArray×Nat))=>ps.length - i) (0,_,_,[],es,clock,[],[]) (⟨by show 0≤_;omega,All2.nil _,hes,fun _=>⟨rfl,rfl⟩,Own.nil⟩) (eC Z (eN _)) Z Z ?_ (eC Z (eC Z (eC Z (eN _))))
 intro ⟨i,A,ca,nbs,es1,ck1,G,l⟩ hI K hK
 change Run _ _ _ _ _ [(6,_),(5,_),(0,_),(1,_)] [_,_,_,_,_] [_,_,_,_,_,_]
 obtain⟨hi,hall,hok,hno,hown⟩:=hI
 refine rO 10 Z (zC wE Z Z ?_)
 refine zA (zJ 2 dj Z Z Z Z ?_)
 refine zA (zX cn Z Z ?_)
 refine zA (yL Z Z Z ?_)
 refine yO (zI Z (fun h23=>?_) (fun h23=>?_))
 ·refine rO 10 Z (zC wE Z Z ?_)
  refine zA (zJ 2 dj Z Z Z Z ?_)
  refine oO 3 Z (wK (i:=2*i) 3 cn Z Z Z Z aC ?_)
  have hlt:i<ps.length:=by omega
  refine uQ 3 (2*i) Z (rd hlt) (fun b1=>?_)
  refine sI 1 Z (fun A1 cap1 ht1 hv1 hl1 hc1=>?_)
  refine zA (yR dQ Z Z (fun _ h=>wX h (j:=2) Z) ?_)
  refine oO 3 Z (zC wN Z Z ?_)
  refine zA (zJ 0 dO Z Z Z Z ?_)
  refine oK 3 [7,6,5,0,1] Z Z (rO 7 Z ?_)
  refine zC wE Z Z (zA ?_)
  refine zJ 6 dj Z Z Z Z (oO 3 Z ?_)
  refine zN Z Z aC (zA ?_)
  refine wK (i:=2*i+1) 7 cn Z Z Z Z aC (uQ 7 (2*i+1) Z (re hlt) (fun b2=>?_))
  refine zA (yR dQ Z Z (fun _ h=>wX h (j:=0) Z) ?_)
  refine oO 14 Z (zC gY Z Z ?_)
  refine zA (wR 4 oT Z Z Z hcs ?_)
  refine zA (yG 3 Z Z Z (H _ (List.getElem_mem hlt) _ es1 ck1 hok) Z (dP 1 11 Z Z) (fun u50 M50 D50 hv50=>?_))
  obtain⟨b50,G50,es50,ck50,rfl,rfl,rfl,hU50,hO50,hN50,hI50⟩:=hv50
  refine zA (yV Z Z (BM ..) ?_)
  refine zA (yK Z Z Z (fun b52=>?_))
  refine oK 3 [9,6,5,0,1] Z Z (rO 2 Z ?_)
  refine zF 3 Ia Z Z Z Z (oO 3 Z ?_)
  refine zM tc Z Z Z Z Z (fun b55=>?_)
  refine zA ?_
  refine cW 5 0 tc (fun A56 c56=>?_)
  refine zA (zG 4 (M':=[_,_,_,_,HA.blk _ [_] _,_,_,_]) Z Z Z Z Ib Z Z Z ?_)
  refine oO 6 Z (xN (s:=((2*(i+1):Nat):Int)) Z Z Z aC aC aC ?_)
  refine oR 3 Z (xJ 1 Z bV ?_)
  refine yZ (.nam (nbs++[b52]) (l++[(ps[i].1,b50)])) (fun w ok h=>NamP.snoc (dget h 8 Z) hv1 (dget h 0 Z)) (sF 2 10 Z Z ?_)
  refine qG 1 4 Z Z ?_
  rw [gE,gg]
  exact kQ (hK (i+1,_,_,nbs++[b52],es50,ck50,G50++G,l++[((ps[i]'hlt).1,b50)]) (⟨by show i+1≤_;omega,pK hlt (J5 hall) ⟨rfl,Do hU50⟩,hO50,fun h=>by obtain⟨h1,h2⟩:=Be hlt h;obtain⟨e1,e2⟩:=hno h1;obtain⟨e3,e4⟩:=hN50 h2;exact⟨e3.trans e1,e4.trans e2⟩,by rw [List.map_append];exact hown.app hI50.2⟩) (by show ps.length - (i+1)<ps.length - i;omega)) (eC Z (eC Z (eC Z (eC Z (eN _))))) (hD:=(cd 1 Z (cd 0 Z sQ)))
 refine rK 6 [4] Z Z ?_
 obtain rfl:i=ps.length:=by omega
 rw [List.take_length]at hall hno
 refine fJ 1 nbs Z bV Z (xJ 0 Z bV ?_)
 refine yZ (.fv (ptr b5) (.named l)) (fun w ok h=>⟨_,_,nbs,rfl,tJ (dget h 0 Z) Z,dget h 1 Z,(dget h 2 Z:(DA.nam nbs l).p w ok).1,(dget h 2 Z:(DA.nam nbs l).p w ok).2⟩) (rC (M':=HA.blk sb cs 124::HA.many 124 (Gr.blks G)::HA.obj mb (.map es1 ck1)::[]) ?_ ?_)
 ·exact(List.Perm.cons _ (List.Perm.swap _ _ _)).trans (List.Perm.swap _ _ _)
 exact zD Tryz.results141 Z ⟨_,G,es1,ck1,l,rfl,rfl,rfl,hall,hok,hno,hown⟩ (List.Sublist.refl _) (cd 0 Z (cO 4 Z))
theorem PV(ft:DA)(sb nb mb:Nat)(cs:List Value)(back:Bool)(xs:List V)(hl:xs.length≤1000000)(hk: ∀ x∈xs,x.kind=5)(hcs:cs[0]? =some (.map (some mb)))(H: ∀ x∈xs,gD ft mb back x)(es:Array MapEntry)(clock:Nat)(hes:MapOk es):
  Ct Tryz.prog 145 #[ptr sb,ptr nb] [.blk sb cs 124, .obj mb (.map es clock)] [.node nb (.mk 2 fh ⟨#[]⟩ (xs.map (cv back))),ft] (fun u M' D'=> ∃p G es' clock' bs,u= .pointer (some p)∧M'=[.blk sb cs 124, .many 124 (Gr.blks G), .obj mb (.map es' clock')]∧D'=[.fv u (.list bs), .graph mb G]∧
   All2 (fun b x=>Unf G x b) bs xs∧MapOk es'∧((∀ x∈xs,ep x)→es'=es∧clock'=clock)∧Own G bs):=by
 refine Ct.of_run (args:=[ptr sb,ptr nb]) Tryz.func145 aF Z Tryz.ntmps145 Z (fun c=>?_)
 refine xT 0 Z (fun A0 cap0 ht0 hv0 hl0 hc0=>?_)
 rw [List.length_map]
 rw [List.length_map]at hl0
 unfold maxLen at hc0
 refine rO 13 Z (zC wD Z Z ?_)
 refine zA (zJ 0 dX Z Z Z Z ?_)
 refine oO 13 Z (xW kk Z Z Z (fun b17=>?_))
 refine zA (yA Ig Z (fun b5=>?_))
 change cG _ _ _ _ _ _ _ _ (HA.blk _ [_] _::_) _
 refine zA (zG 0 (M':=[HA.blk _ [_] _,_,_,_]) Z Z Z Z zx Z Z Z ?_)
 refine oO 9 Z (zC wE Z Z ?_)
 refine zA (zJ 0 dj Z Z Z Z ?_)
 refine zA (zX cn Z Z ?_)
 refine oK 3 [23,22,21,5,0] Z Z (rK 1 [23,22,21,5,0] Z Z ?_)
 refine yZ (.graph mb []) (fun w ok h g hg=>by cases hg) (gd 124 ?_)
 refine rC (M':=HA.blk b5 [.slice (some ⟨b17,0,none⟩) 0 0] 137::HA.row (some ⟨b17,0,none⟩) 0 0 63 1 []::HA.many 124 []::HA.obj mb (.map es clock)::HA.blk sb cs 124::[]) ?_ ?_
 ·exact((List.Perm.swap _ _ _).trans (.cons _ (List.Perm.swap _ _ _))).trans (.cons _ (.cons _ (.cons _ (List.Perm.swap _ _ _))))
 refine yB 1 (fun(⟨i,A,ca,bs,es1,ck1,G⟩:Nat×Option Addr×Nat×List Nat×Array MapEntry×Nat×Gr)=>i≤xs.length∧All2 (fun b x=>Unf G x b) bs (xs.take i)∧MapOk es1∧((∀ p∈xs.take i,ep p)→es1=es∧ck1=clock)∧Own G bs) (fun(⟨i,A,ca,bs,es1,ck1,G⟩:Nat×Option Addr×Nat×List Nat×Array MapEntry×Nat×Gr)=>[(23, .int .i64 ((i:Nat):Int))]) (fun(⟨i,A,ca,bs,es1,ck1,G⟩:Nat×Option Addr×Nat×List Nat×Array MapEntry×Nat×Gr)=>HA.blk b5 [.slice A i ca] 137::HA.row A i ca 63 1 (bs.map ptr)::HA.many 124 (Gr.blks G)::HA.obj mb (.map es1 ck1)::HA.blk sb cs 124::[]) (fun(⟨i,A,ca,bs,es1,ck1,G⟩:Nat×Option Addr×Nat×List Nat×Array MapEntry×Nat×Gr)=> .graph mb G:: .dblk nb (dY 2 fh ⟨#[]⟩ A0 xs.length cap0) 150:: .kids (.slice A0 xs.length cap0) (xs.map (cv back)):: .node nb (.mk 2 fh ⟨#[]⟩ (xs.map (cv back)))::ft::[]) (fun(⟨i,A,ca,bs,es1,ck1,G⟩:Nat×Option Addr×Nat×List Nat×Array MapEntry×Nat×Gr)=>xs.length - i) (0,_,_,[],es,clock,[]) (⟨by show 0≤_;omega,All2.nil _,hes,fun _=>⟨rfl,rfl⟩,Own.nil⟩) (eC Z (eN _)) Z Z ?_ (eC Z (eC Z (eC Z (eC Z (eN _)))))
 intro ⟨i,A,ca,bs,es1,ck1,G⟩ hI K hK
 change Run _ _ _ _ _ [(23,_),(22,_),(21,_),(5,_),(0,_)] [_,_,_,_,_] [_,_,_,_,_]
 obtain⟨hi,hall,hok,hno,hown⟩:=hI
 refine rO 3 Z (yL Z Z Z ?_)
 refine oR 2 Z (zI Z (fun h24=>?_) (fun h24=>?_))
 ·refine rO 6 Z (wK 2 cn Z Z Z Z h24 ?_)
  have hlt:i<xs.length:=h24
  have hk5:=qS (back:=back) (hk _ (List.getElem_mem hlt))
  refine uQ 2 i Z (fG hlt) (fun b1=>?_)
  refine je 1 Z (fun A1 cap1 ht1 hv1 hl1 hc1=>?_)
  refine zA (yR dQ Z Z (fun _ h=>wX h (j:=2) Z) ?_)
  refine oO 10 Z (zC wD Z Z ?_)
  refine zA (zJ 0 dX Z Z Z Z ?_)
  refine oK 9 [31,7,23,22,21,5,0] Z Z (wP Z (decide_eq_true hk5) ?_)
  refine rO 9 Z (zC gY Z Z ?_)
  refine zA (wR 4 oT Z Z Z hcs ?_)
  refine zA (yG 3 Z Z Z (H _ (List.getElem_mem hlt) _ es1 ck1 hok) Z (dP 3 8 Z Z) (fun u38 M38 D38 hv38=>?_))
  obtain⟨b38,G38,es38,ck38,rfl,rfl,rfl,hU38,hO38,hN38,hI38⟩:=hv38
  refine oO 5 Z (zF 2 zw Z Z Z Z ?_)
  refine oO 3 Z (zM kk Z Z Z Z Z (fun b41=>?_))
  refine zA ?_
  refine cW 4 0 kk (fun A42 c42=>?_)
  refine zA (zG 3 (M':=[_,_,_,HA.blk _ [_] _,_,_,_]) Z Z Z Z zx Z Z Z ?_)
  refine oK 1 [23,22,21,5,0] Z Z (rO 4 Z ?_)
  refine zN Z Z aC (oR 3 Z ?_)
  refine sF 0 5 Z Z (qG 1 4 Z Z ?_)
  rw [gE,gg]
  exact kQ (hK (i+1,_,_,bs++[b38],es38,ck38,G38++G) (⟨by show i+1≤_;omega,pK hlt (Iq hall) (Do hU38),hO38,fun h=>by obtain⟨h1,h2⟩:=mf hlt h;obtain⟨e1,e2⟩:=hno h1;obtain⟨e3,e4⟩:=hN38 h2;exact⟨e3.trans e1,e4.trans e2⟩,hown.app hI38.2⟩) (by show xs.length - (i+1)<xs.length - i;omega)) (eC Z (eC Z (eC Z (eC Z (eC Z (eN _)))))) (hD:=(cd 0 Z sQ))
 refine rR 6 Z ?_
 obtain rfl:i=xs.length:=by omega
 rw [List.take_length]at hall hno
 refine fJ 1 bs Z bV Z (xJ 0 Z bV ?_)
 refine yZ (.fv (ptr b5) (.list bs)) (fun w ok h=>⟨_,_,rfl,tJ (dget h 0 Z) Z,dget h 1 Z⟩) (rC (M':=HA.blk sb cs 124::HA.many 124 (Gr.blks G)::HA.obj mb (.map es1 ck1)::[]) ?_ ?_)
 ·exact(List.Perm.cons _ (List.Perm.swap _ _ _)).trans (List.Perm.swap _ _ _)
 exact zD Tryz.results145 Z ⟨_,G,es1,ck1,bs,rfl,rfl,rfl,hall,hok,hno,hown⟩ (List.Sublist.refl _) (cd 0 Z (cO 3 Z))
theorem Mq(ft:DA)(sb nb mb:Nat)(cs:List Value)(back:Bool)(xs:List V)(hl:xs.length≤1000000)(hk: ∀ x∈xs,x.kind=5)(hcs:cs[0]? =some (.map (some mb)))(H: ∀ x∈xs,gD ft mb back x)(es:Array MapEntry)(clock:Nat)(hes:MapOk es):
  Ct Tryz.prog 139 #[ptr sb,ptr nb] [.blk sb cs 124, .obj mb (.map es clock)] [.node nb (.mk 2 fh ⟨#[]⟩ (xs.map (cv back))),ft] (fun u M' D'=> ∃p G es' clock' bs,u= .pointer (some p)∧M'=[.blk sb cs 124, .many 124 (Gr.blks G), .obj mb (.map es' clock')]∧D'=[.fv u (.itL bs), .graph mb G]∧
   All2 (fun b x=>Unf G x b) bs xs∧MapOk es'∧((∀ x∈xs,ep x)→es'=es∧clock'=clock)∧Own G bs):=by
 refine Ct.of_run (args:=[ptr sb,ptr nb]) Tryz.func139 aF Z Tryz.ntmps139 Z (fun c=>?_)
 refine xT 0 Z (fun A0 cap0 ht0 hv0 hl0 hc0=>?_)
 rw [List.length_map]
 rw [List.length_map]at hl0
 unfold maxLen at hc0
 refine rO 13 Z (zC wD Z Z ?_)
 refine zA (zJ 0 dX Z Z Z Z ?_)
 refine oO 13 Z (xW kk Z Z Z (fun b16=>?_))
 refine zA (yA Ig Z (fun b5=>?_))
 change cG _ _ _ _ _ _ _ _ (HA.blk _ [_] _::_) _
 refine zA (zG 0 (M':=[HA.blk _ [_] _,_,_,_]) Z Z Z Z zx Z Z Z ?_)
 refine oO 9 Z (zC wE Z Z ?_)
 refine zA (zJ 0 dj Z Z Z Z ?_)
 refine zA (zX cn Z Z ?_)
 refine oK 3 [22,21,20,5,0] Z Z (rK 1 [22,21,20,5,0] Z Z ?_)
 refine yZ (.graph mb []) (fun w ok h g hg=>by cases hg) (gd 124 ?_)
 refine rC (M':=HA.blk b5 [.slice (some ⟨b16,0,none⟩) 0 0] 137::HA.row (some ⟨b16,0,none⟩) 0 0 63 1 []::HA.many 124 []::HA.obj mb (.map es clock)::HA.blk sb cs 124::[]) ?_ ?_
 ·exact((List.Perm.swap _ _ _).trans (.cons _ (List.Perm.swap _ _ _))).trans (.cons _ (.cons _ (.cons _ (List.Perm.swap _ _ _))))
 refine yB 1 (fun(⟨i,A,ca,bs,es1,ck1,G⟩:Nat×Option Addr×Nat×List Nat×Array MapEntry×Nat×Gr)=>i≤xs.length∧All2 (fun b x=>Unf G x b) bs (xs.take i)∧MapOk es1∧((∀ p∈xs.take i,ep p)→es1=es∧ck1=clock)∧Own G bs) (fun(⟨i,A,ca,bs,es1,ck1,G⟩:Nat×Option Addr×Nat×List Nat×Array MapEntry×Nat×Gr)=>[(22, .int .i64 ((i:Nat):Int))]) (fun(⟨i,A,ca,bs,es1,ck1,G⟩:Nat×Option Addr×Nat×List Nat×Array MapEntry×Nat×Gr)=>HA.blk b5 [.slice A i ca] 137::HA.row A i ca 63 1 (bs.map ptr)::HA.many 124 (Gr.blks G)::HA.obj mb (.map es1 ck1)::HA.blk sb cs 124::[]) (fun(⟨i,A,ca,bs,es1,ck1,G⟩:Nat×Option Addr×Nat×List Nat×Array MapEntry×Nat×Gr)=> .graph mb G:: .dblk nb (dY 2 fh ⟨#[]⟩ A0 xs.length cap0) 150:: .kids (.slice A0 xs.length cap0) (xs.map (cv back)):: .node nb (.mk 2 fh ⟨#[]⟩ (xs.map (cv back)))::ft::[]) (fun(⟨i,A,ca,bs,es1,ck1,G⟩:Nat×Option Addr×Nat×List Nat×Array MapEntry×Nat×Gr)=>xs.length - i) (0,_,_,[],es,clock,[]) (⟨by show 0≤_;omega,All2.nil _,hes,fun _=>⟨rfl,rfl⟩,Own.nil⟩) (eC Z (eN _)) Z Z ?_ (eC Z (eC Z (eC Z (eC Z (eN _)))))
 intro ⟨i,A,ca,bs,es1,ck1,G⟩ hI K hK
 change Run _ _ _ _ _ [(22,_),(21,_),(20,_),(5,_),(0,_)] [_,_,_,_,_] [_,_,_,_,_]
 obtain⟨hi,hall,hok,hno,hown⟩:=hI
 refine rO 3 Z (yL Z Z Z ?_)
 refine oR 2 Z (zI Z (fun h23=>?_) (fun h23=>?_))
 ·refine rO 6 Z (wK 2 cn Z Z Z Z h23 ?_)
  have hlt:i<xs.length:=h23
  have hk5:=qS (back:=back) (hk _ (List.getElem_mem hlt))
  refine uQ 2 i Z (fG hlt) (fun b1=>?_)
  refine je 1 Z (fun A1 cap1 ht1 hv1 hl1 hc1=>?_)
  refine zA (yR dQ Z Z (fun _ h=>wX h (j:=2) Z) ?_)
  refine oO 10 Z (zC wD Z Z ?_)
  refine zA (zJ 0 dX Z Z Z Z ?_)
  refine oK 9 [30,7,22,21,20,5,0] Z Z (wP Z (decide_eq_true hk5) ?_)
  refine rO 9 Z (zC gY Z Z ?_)
  refine zA (wR 4 oT Z Z Z hcs ?_)
  refine zA (yG 3 Z Z Z (H _ (List.getElem_mem hlt) _ es1 ck1 hok) Z (dP 3 8 Z Z) (fun u37 M37 D37 hv37=>?_))
  obtain⟨b37,G37,es37,ck37,rfl,rfl,rfl,hU37,hO37,hN37,hI37⟩:=hv37
  refine oO 5 Z (zF 2 zw Z Z Z Z ?_)
  refine oO 3 Z (zM kk Z Z Z Z Z (fun b40=>?_))
  refine zA ?_
  refine cW 4 0 kk (fun A41 c41=>?_)
  refine zA (zG 3 (M':=[_,_,_,HA.blk _ [_] _,_,_,_]) Z Z Z Z zx Z Z Z ?_)
  refine oK 1 [22,21,20,5,0] Z Z (rO 4 Z ?_)
  refine zN Z Z aC (oR 3 Z ?_)
  refine sF 0 5 Z Z (qG 1 4 Z Z ?_)
  rw [gE,gg]
  exact kQ (hK (i+1,_,_,bs++[b37],es37,ck37,G37++G) (⟨by show i+1≤_;omega,pK hlt (Iq hall) (Do hU37),hO37,fun h=>by obtain⟨h1,h2⟩:=mf hlt h;obtain⟨e1,e2⟩:=hno h1;obtain⟨e3,e4⟩:=hN37 h2;exact⟨e3.trans e1,e4.trans e2⟩,hown.app hI37.2⟩) (by show xs.length - (i+1)<xs.length - i;omega)) (eC Z (eC Z (eC Z (eC Z (eC Z (eN _)))))) (hD:=(cd 0 Z sQ))
 refine rO 4 Z (yV Z Z (GF ..) ?_)
 refine zA (yK Z Z Z (fun b44=>?_))
 refine oR 3 Z ?_
 obtain rfl:i=xs.length:=by omega
 rw [List.take_length]at hall hno
 refine fJ 2 bs Z bV Z (xJ 1 Z bV ?_)
 refine xJ 0 Z bV (yZ (.fv (ptr b44) (.itL bs)) (fun w ok h=>⟨b44,_,_,rfl,dget h 0 Z,tJ (dget h 1 Z) Z,dget h 2 Z⟩) ?_)
 refine rC (M':=HA.blk sb cs 124::HA.many 124 (Gr.blks G)::HA.obj mb (.map es1 ck1)::[]) ?_ ?_
 ·exact(List.Perm.cons _ (List.Perm.swap _ _ _)).trans (List.Perm.swap _ _ _)
 exact zD Tryz.results139 Z ⟨_,G,es1,ck1,bs,rfl,rfl,rfl,hall,hok,hno,hown⟩ (List.Sublist.refl _) (cd 0 Z (cO 4 Z))
theorem Mr(sp:Value)(nb:Nat)(x:Bool):CtR Tryz.prog 138 #[sp,ptr nb] [.node nb (cU eE (ua x))] (RF (.sbB x)):=by
 refine Ct.of_run (args:=[sp,ptr nb]) Tryz.func138 aF Z Tryz.ntmps138 Z (fun c=>?_)
 refine xT 0 Z (fun A0 cap0 ht0 hv0 hl0 hc0=>?_)
 refine rO 8 Z (yV Z Z (Ik ..) ?_)
 refine zA (yK Z Z Z (fun b9=>?_))
 refine oO 11 Z (zC wD Z Z ?_)
 refine zA (zJ 0 dX Z Z Z Z ?_)
 refine oO 17 Z (zC wN Z Z ?_)
 refine zA (zJ 0 dO Z Z Z Z ?_)
 refine zA (zL Z Z Z (c181 x) cQ ?_)
 refine oO 7 Z (yA PA Z (fun b6=>?_))
 change cG _ _ _ _ _ _ _ _ (HA.blk _ [_] _::_) _
 refine zA (zG 0 (M':=[HA.blk _ [_] _,_]) Z Z Z Z mH Z Z Z ?_)
 refine oK 3 [6,5] Z Z (rO 6 Z ?_)
 refine zC qh Z Z (zA ?_)
 refine zG 1 (M':=[_,HA.blk _ [_,_] _]) Z Z Z Z mI Z Z Z (oR 9 Z ?_)
 refine xJ 0 Z aG (xJ 0 Z aG ?_)
 exact yZ (.fv (ptr b9) (.sbB x)) (fun w ok h=>⟨b9,_,rfl,dget h 0 Z,tJ (dget h 1 Z) Z⟩) (zD Tryz.results138 Z ⟨rfl,_,rfl,rfl⟩ nS (cO 0 Z))
theorem Ms(ft:DA)(sb nb mb:Nat)(cs:List Value)(back:Bool)(x:V)(hk:x.kind=5)(hcs:cs[0]? =some (.map (some mb)))(H:gD ft mb back x)(es:Array MapEntry)(clock:Nat)(hes:MapOk es):
  Ct Tryz.prog 138 #[ptr sb,ptr nb] [.blk sb cs 124, .obj mb (.map es clock)] [.node nb (cv back x),ft] (fun u M' D'=> ∃p G es' clock' b,u= .pointer (some p)∧M'=[.blk sb cs 124, .many 124 (Gr.blks G), .obj mb (.map es' clock')]∧D'=[.fv u (.sbS b), .graph mb G]∧
   Unf G x b∧MapOk es'∧(ep x→es'=es∧clock'=clock)∧Own G [b]):=by
 refine Ct.of_run (args:=[ptr sb,ptr nb]) Tryz.func138 aF Z Tryz.ntmps138 Z (fun c=>?_)
 have hk4:=qS (back:=back) hk
 refine jd 0 Z (fun A0 cap0 ht0 hv0 hl0 hc0=>?_)
 refine rO 8 Z (yV Z Z (Ik ..) ?_)
 refine zA (yK Z Z Z (fun b9=>?_))
 refine oO 11 Z (zC wD Z Z ?_)
 refine zA (zJ 0 dX Z Z Z Z ?_)
 refine oR 9 Z (xA Z (by rw [hk4];rfl) ?_)
 refine rK 7 [27,5,0,1] Z Z (wP Z (decide_eq_true hk4) ?_)
 refine rO 10 Z (zC gY Z Z ?_)
 refine zA (wR 1 oT Z Z Z hcs ?_)
 refine zA (yG 2 Z Z Z (H _ es clock hes) Z (dP 2 3 Z Z) (fun u35 M35 D35 hv35=>?_))
 obtain⟨b35,G35,es35,ck35,rfl,rfl,rfl,hU35,hO35,hN35,hI35⟩:=hv35
 refine oO 3 Z (zC lf Z Z ?_)
 refine zA (zG 2 (M':=[_,_,HA.blk _ [_,_] _,_]) Z Z Z Z Jo Z Z Z ?_)
 refine oK 1 [5] Z Z (rR 8 Z ?_)
 refine xJ 2 Z bV (yZ (.fv (ptr b9) (.sbS b35)) (fun w ok h=>⟨b9,rfl,dget h 0 Z⟩) ?_)
 refine rC (M':=HA.blk sb cs 124::HA.many 124 (Gr.blks G35)::HA.obj mb (.map es35 ck35)::[]) ?_ ?_
 ·exact(List.Perm.cons _ (List.Perm.swap _ _ _)).trans (List.Perm.swap _ _ _)
 exact zD Tryz.results138 Z ⟨_,G35,es35,ck35,b35,rfl,rfl,rfl,hU35,hO35,hN35,hI35.2⟩ (List.Sublist.refl _) (cd 0 Z (cO 2 Z))
theorem Mu(ft:DA)(sb nb mb:Nat)(cs:List Value)(back:Bool)(x:V)(hk:x.kind=5)(hcs:cs[0]? =some (.map (some mb)))(H:gD ft mb back x)(es:Array MapEntry)(clock:Nat)(hes:MapOk es):
  Ct Tryz.prog 139 #[ptr sb,ptr nb] [.blk sb cs 124, .obj mb (.map es clock)] [.node nb (cv back x),ft] (fun u M' D'=> ∃p G es' clock' b,u= .pointer (some p)∧M'=[.blk sb cs 124, .many 124 (Gr.blks G), .obj mb (.map es' clock')]∧D'=[.fv u (.itS b), .graph mb G]∧
   Unf G x b∧MapOk es'∧(ep x→es'=es∧clock'=clock)∧Own G [b]):=by
 refine Ct.of_run (args:=[ptr sb,ptr nb]) Tryz.func139 aF Z Tryz.ntmps139 Z (fun c=>?_)
 have hk4:=qS (back:=back) hk
 refine jd 0 Z (fun A0 cap0 ht0 hv0 hl0 hc0=>?_)
 refine rO 13 Z (zC wD Z Z ?_)
 refine zA (zJ 0 dX Z Z Z Z ?_)
 refine oR 9 Z (xA Z (by rw [hk4];rfl) ?_)
 refine rR 7 Z (wP Z (decide_eq_true hk4) ?_)
 refine rO 9 Z (zC gY Z Z ?_)
 refine zA (wR 0 oT Z Z Z hcs ?_)
 refine zA (yG 1 Z Z Z (H _ es clock hes) Z (dP 2 3 Z Z) (fun u52 M52 D52 hv52=>?_))
 obtain⟨b52,G52,es52,ck52,rfl,rfl,rfl,hU52,hO52,hN52,hI52⟩:=hv52
 refine oK 3 [9] Z Z (rO 5 Z ?_)
 refine yV Z Z (GE ..) (zA ?_)
 refine yK Z Z Z (fun b55=>?_)
 refine oR 3 Z (xJ 0 Z bV ?_)
 refine yZ (.fv (ptr b55) (.itS b52)) (fun w ok h=>⟨b55,rfl,dget h 0 Z⟩) (rC (M':=HA.blk sb cs 124::HA.many 124 (Gr.blks G52)::HA.obj mb (.map es52 ck52)::[]) ?_ ?_)
 ·exact(List.Perm.cons _ (List.Perm.swap _ _ _)).trans (List.Perm.swap _ _ _)
 exact zD Tryz.results139 Z ⟨_,G52,es52,ck52,b52,rfl,rfl,rfl,hU52,hO52,hN52,hI52.2⟩ (List.Sublist.refl _) (cd 0 Z (cO 2 Z))
theorem c142(sp:Value)(nb:Nat)(back:Bool)(ps:List (ByteArray×V))(hl:ps.length≤1000000)(hk: ∀ p∈ps,p.2.kind=4∧p.2.items.length≤1000000∧ ∀ y∈p.2.items,y.kind=3):CtR Tryz.prog 142 #[sp,ptr nb] [.node nb (.mk 4 kE ⟨#[]⟩ ((ps.map (fA back)).flatMap eH))] (RF (.deps (ps.map ud))):=by
 refine Ct.of_run (args:=[sp,ptr nb]) Tryz.func142 aF Z Tryz.ntmps142 Z (fun c=>?_)
 refine xT 0 Z (fun A0 cap0 ht0 hv0 hl0 hc0=>?_)
 rw [kI]
 rw [kI]at hl0
 unfold maxLen at hc0
 refine rO 8 Z (xW td Z Z Z (fun b14=>?_))
 refine zA (yA MX Z (fun b5=>?_))
 change cG _ _ _ _ _ _ _ _ (HA.blk _ [_] _::_) _
 refine zA (zG 0 (M':=[HA.blk _ [_] _,_]) Z Z Z Z Ii Z Z Z ?_)
 refine oO 9 Z (zC wD Z Z ?_)
 refine zA (zJ 0 dX Z Z Z Z ?_)
 refine oK 15 [6,5,1] Z Z (rK 1 [6,5,1] Z Z ?_)
 refine yZ (.dep [] ((ps.take 0).map ud)) (fun w ok h=>⟨rfl,fun i q nb a=>by simp at a⟩) ?_
 refine yB 1 (fun(⟨i,A,ca,nbs⟩:Nat×Option Addr×Nat×List Nat)=>i≤ps.length) (fun(⟨i,A,ca,nbs⟩:Nat×Option Addr×Nat×List Nat)=>[(6, .int .i64 ((2*i:Nat):Int))]) (fun(⟨i,A,ca,nbs⟩:Nat×Option Addr×Nat×List Nat)=>HA.blk b5 [.slice A i ca] 188::HA.row A i ca 189 1 (nbs.map ptr)::[]) (fun(⟨i,A,ca,nbs⟩:Nat×Option Addr×Nat×List Nat)=> .dep nbs ((ps.take i).map ud):: .dblk nb (dY 4 kE ⟨#[]⟩ A0 (2*ps.length) cap0) 150:: .kids (.slice A0 (2*ps.length) cap0) ((ps.map (fA back)).flatMap eH):: .node nb (.mk 4 kE ⟨#[]⟩ ((ps.map (fA back)).flatMap eH))::[]) (fun(⟨i,A,ca,nbs⟩:Nat×Option Addr×Nat×List Nat)=>ps.length - i) (0,_,_,[]) bg (eC Z (eN _)) Z Z ?_ (eC Z (eC Z (eN _)))
 intro ⟨i,A,ca,nbs⟩ hI K hK
 replace hI:i≤ps.length:=hI
 change Run _ _ _ _ _ [(6,_),(5,_),(1,_)] [_,_] [_,_,_,_]
 refine rO 10 Z (zC wE Z Z ?_)
 refine zA (zJ 1 dj Z Z Z Z ?_)
 refine zA (zX cn Z Z ?_)
 refine zA (yL Z Z Z ?_)
 refine yO (zI Z (fun h27=>?_) (fun h27=>?_))
 ·refine rO 10 Z (zC wE Z Z ?_)
  refine zA (zJ 1 dj Z Z Z Z ?_)
  refine oO 3 Z (wK (i:=2*i) 2 cn Z Z Z Z aC ?_)
  have hlt:i<ps.length:=by omega
  obtain⟨hk4,hkl,hk3⟩:=hk _ (List.getElem_mem hlt)
  have hnt:=gF (back:=back) hk4 hk3
  obtain⟨tl,htl⟩: ∃tl,tl=ps[i].2.items.map V.text:=⟨_,rfl⟩
  rw [←htl]at hnt
  have htlen:tl.length≤1000000:=by rw [htl,List.length_map];exact hkl
  refine uQ 2 (2*i) Z (rd hlt) (fun b1=>?_)
  refine sI 1 Z (fun A1 cap1 ht1 hv1 hl1 hc1=>?_)
  refine zA (yR dQ Z Z (fun _ h=>wX h (j:=2) Z) ?_)
  refine oO 3 Z (zC wN Z Z ?_)
  refine zA (zJ 0 dO Z Z Z Z ?_)
  refine oK 3 [7,6,5,1] Z Z (rO 7 Z ?_)
  refine zC wE Z Z (zA ?_)
  refine zJ 5 dj Z Z Z Z (oO 3 Z ?_)
  refine zN Z Z aC (zA ?_)
  refine wK (i:=2*i+1) 6 cn Z Z Z Z aC ?_
  refine uQ 6 (2*i+1) Z (by rw [re hlt,hnt]) (fun b2=>?_)
  refine sI 1 Z (fun A2 cap2 ht2 hv2 hl2 hc2=>?_)
  rw [List.length_map]
  rw [List.length_map]at hl2
  unfold maxLen at hc2
  refine zA (yR dQ Z Z (fun _ h=>wX h (j:=2) Z) ?_)
  refine oO 10 Z (zC wD Z Z ?_)
  refine zA (zJ 0 dX Z Z Z Z ?_)
  refine oK 1 [51,8,7,6,5,1] Z Z (rO 12 Z ?_)
  refine xW cV Z Z Z (fun b54=>?_)
  refine zA (yA Jj Z (fun b9=>?_))
  change cG _ _ _ _ _ _ _ _ (HA.blk _ [_] _::_) _
  refine zA (zG 0 (M':=[HA.blk _ [_] _,_,_,_]) Z Z Z Z iy Z Z Z ?_)
  refine oO 9 Z (zC wE Z Z ?_)
  refine zA (zJ 0 dj Z Z Z Z ?_)
  refine zA (zX cn Z Z ?_)
  refine oK 3 [60,59,58,9,7,6,5,1] Z Z (rK 1 [60,59,58,9,7,6,5,1] Z Z ?_)
  refine j9 1 (fun(⟨j,A3,c3,xs⟩:Nat×Option Addr×Nat×List Value)=>j≤tl.length∧xs=(tl.take j).map Value.string∧ ∀ s∈tl.take j,s.size≤maxLen) (fun(⟨j,A3,c3,xs⟩:Nat×Option Addr×Nat×List Value)=>[(60, .int .i64 ((j:Nat):Int))]) (fun(⟨j,A3,c3,xs⟩:Nat×Option Addr×Nat×List Value)=>HA.blk b9 [.slice A3 j c3] 22::HA.row A3 j c3 9 1 xs::HA.blk b5 [.slice A i ca] 188::HA.row A i ca 189 1 (nbs.map ptr)::[]) (fun(⟨j,A3,c3,xs⟩:Nat×Option Addr×Nat×List Value)=>tl.length - j) (0,_,_,[]) (⟨by show 0≤_;omega,rfl,by simp⟩) (eC Z (eN _)) Z ?_ (eC Z (eC Z (eC Z (eC Z (eC Z (eC Z (eC Z (eN _))))))))
  intro ⟨j,A3,c3,xs⟩ hI K hK1
  change Run _ _ _ _ _ [(60,_),(59,_),(58,_),(9,_),(7,_),(6,_),(5,_),(1,_)] [_,_,_,_] (_)
  obtain⟨hj,hxs,hsz⟩:=hI
  refine rO 3 Z (yL Z Z Z ?_)
  refine oR 2 Z (zI Z (fun h61=>?_) (fun h61=>?_))
  ·refine rO 6 Z (wK 1 cn Z Z Z Z h61 ?_)
   refine uQ 1 j Z (fG h61) (fun b3=>?_)
   refine sI 1 Z (fun A4 cap4 ht4 hv4 hl4 hc4=>?_)
   refine zA (yR dQ Z Z (fun _ h=>wX h (j:=2) Z) ?_)
   refine oO 10 Z (zC wD Z Z ?_)
   refine zA (zJ 0 dX Z Z Z Z ?_)
   refine oK 1 [67,11,60,59,58,9,7,6,5,1] Z Z (rR 9 Z ?_)
   refine yW yM (zO ?_)
   refine tP 1 Z cF (zP Z) (tP 2 Z cF (yQ Z) ?_)
   refine tP 3 Z cF (zZ wN Z) (yF ?_)
   refine tM 0 Z cF (yT 0 dV Z Z Z) (tM 4 Z cF (tU 0 dO Z Z Z) ?_)
   refine zS 5 aD ?_
   refine zT (I2:=[[0],[],[]]) Z cF aD (fun Kd hKd=>?_)
   refine zM cV Z Z Z Z Z (fun b75=>?_)
   refine hKd _ _ _ (hC (zE (zE (zU)))) (zS 6 aD ?_)
   refine zT (I2:=[[],[],[]]) Z cF aD (fun Kd hKd=>?_)
   refine cW 2 0 cV (fun A76 c76=>?_)
   refine hKd _ _ _ (zE (zE (zE (zU)))) (zS 7 aD ?_)
   refine zT (I2:=[[],[],[]]) Z cF aD (fun Kd hKd=>?_)
   refine zG 1 (M':=[_,HA.blk _ [_] _,_,_,_]) Z Z Z Z iy Z Z Z (hKd _ _ _ (zE (zE (zE (zU)))) ?_)
   refine yJ aD (rK 0 [60,59,58,9,7,6,5,1] Z Z ?_)
   refine rO 4 Z (zN Z Z aC ?_)
   refine oR 3 Z ?_
   exact kQ (hK1 (j+1,_,_,xs++[.string (tl[j]'h61)]) (⟨by show j+1≤_;omega,by rw [hxs];exact kH h61,me h61 hsz hv4⟩) (by show tl.length - (j+1)<tl.length - j;omega)) (eC Z (eC Z (eC Z (eC Z (eC Z (eC Z (eC Z (eC Z (eN _)))))))))
  refine rO 4 Z (yV Z Z (Mf ..) ?_)
  refine zA (yK Z Z Z (fun b79=>?_))
  refine oO 10 Z (zC ql Z Z ?_)
  refine zA (zG 0 (M':=[HA.blk _ [_,_] _,_,_,_,_]) Z Z Z Z zt Z Z Z ?_)
  refine oK 1 [12,7,6,5,1] Z Z (rO 7 Z ?_)
  refine yV Z Z (BN ..) (zA ?_)
  refine yK Z Z Z (fun b86=>?_)
  refine oO 5 Z (zF 4 Ih Z Z Z Z ?_)
  refine oO 3 Z (zM td Z Z Z Z Z (fun b89=>?_))
  refine zA ?_
  refine cW 6 0 td (fun A90 c90=>?_)
  refine zA (zG 5 (M':=[_,_,_,_,_,HA.blk _ [_] _,_]) Z Z Z Z Ii Z Z Z ?_)
  refine oK 1 [6,5,1] Z Z (rO 6 Z ?_)
  refine xN (s:=((2*(i+1):Nat):Int)) Z Z Z aC aC aC (oR 3 Z ?_)
  obtain rfl:j=tl.length:=by omega
  rw [List.take_length]at hxs hsz
  refine uC 4 tl Z aG hxs hsz (xJ 3 Z aG ?_)
  refine xJ 2 Z aG (xJ 1 Z aG ?_)
  refine yZ (.dep (nbs++[b86]) ((ps.take i).map ud++[ud ps[i]])) (fun w ok h=>DepP.snoc (dget h 12 Z) hv1 (dget h 0 Z) (dget h 1 Z) (tJ (dget h 2 Z) Z) (by show StrsP w ok _ (ps[i].2.items.map V.text);rw [←htl];exact dget h 3 Z)) ?_
  rw [tT hlt,gg]
  exact kQ (hK (i+1,_,_,nbs++[b86]) bW (by show ps.length - (i+1)<ps.length - i;omega)) (eC Z (eC Z (eC Z (eN _)))) (hD:=(cd 0 Z sQ))
 refine rK 7 [4] Z Z ?_
 obtain rfl:i=ps.length:=by omega
 rw [List.take_length]
 refine fJ 1 nbs Z aG Z (xJ 0 Z aG ?_)
 exact yZ (.fv (ptr b5) (.deps (ps.map ud))) (fun w ok h=>⟨_,_,nbs,rfl,tJ (dget h 0 Z) Z,dget h 1 Z,(dget h 2 Z:(DA.dep nbs (ps.map ud)).p w ok).1,(dget h 2 Z:(DA.dep nbs (ps.map ud)).p w ok).2⟩) (zD Tryz.results142 Z ⟨rfl,_,rfl,rfl⟩ nS (cO 0 Z))
end Go.Jw

namespace Go.Jw
open Go Go.RowKit Go.Proofs
set_option maxRecDepth 8000
theorem Ct.frame{P:Program}{f:FuncId}{args:Array Value}{M N:List HA}{D:List DA}{R:Value→List HA→List DA→Prop}(h:Ct P f args M D R):Ct P f args (M++N) D (fun u M' D'=> ∃M1,M'=M1++N∧R u M1 D'):=by
 refine⟨h.1,fun w ok hok hM hn hD=>?_⟩
 rw [yY]at hn
 have hn1:=List.nodup_append.1 hn
 have hltN: ∀ b∈cP N,b<w.heap.size:=fun b hb=>by
  obtain⟨x,hx,hb⟩:=sG.1 hb
  exact HA.foot_lt (hM x (List.mem_append_right _ hx)) b hb
 refine Calls.mono (h.2 w ok (fun k hk=>⟨(hok k hk).1,fun h'=>(hok k hk).2 (by rw [yY];exact List.mem_append_left _ h')⟩) (fun x hx=>hM x (List.mem_append_left _ hx)) hn1.1 hD) ?_
 rintro e w' ⟨v,M',D',rfl,hR,hchg,hm,hnd,hft,hdat⟩
 refine⟨v,M'++N,D',rfl,⟨M',rfl,hR⟩,hchg.mono (fun k _ hk=>by rw [yY];exact List.mem_append_left _ hk),?_,?_,?_,?_⟩
 ·intro x hx
  rcases List.mem_append.1 hx with hx|hx
  ·exact hm x hx
  ·have hx0:=hM x (List.mem_append_right _ hx)
   exact HA.move hx0 fun b hb=>hchg.block b (HA.foot_lt hx0 b hb) (fun h'=>hn1.2.2 b h' b (sG.2 ⟨x,hx,hb⟩) Z)
 ·rw [yY]
  refine List.nodup_append.2 ⟨hnd,hn1.2.1,?_⟩
  intro p hp q hq he
  subst he
  rcases hft p hp with h1|h1
  ·exact hn1.2.2 p h1 p hq Z
  ·exact absurd (hltN p hq) aC
 ·intro b hb
  rw [yY]at hb⊢
  rcases List.mem_append.1 hb with hb|hb
  ·exact(hft b hb).elim (fun h1=> .inl (List.mem_append_left _ h1)) .inr
  ·exact .inl (List.mem_append_right _ hb)
 ·intro x hx
  refine x.mono (fun k hk=>⟨hk.1,hk.2.1,?_⟩) (fun _ _=>rfl) (hdat x hx)
  rw [yY,List.mem_append,not_or]
  refine⟨hk.2.2,fun h'=>?_⟩
  rcases hk.1 with h1|h1
  ·exact(hok k h1).2 (by rw [yY];exact List.mem_append_right _ h')
  ·exact absurd (hltN k h') aC
def RB(mb:Nat)(es:Array MapEntry)(clock sb:Nat)(cs:List Value)(sh:Int)(x:V)(u:Value)(M':List HA)(D':List DA):Prop:=
 ∃p fv G es' clock',u= .pointer (some p)∧M'=[.blk sb cs 124, .many 124 (Gr.blks G), .obj mb (.map es' clock')]∧D'=[.fv u fv, .graph mb G]∧FvRel (fun b z=>Unf G z b) sh x fv∧MapOk es'∧((∀ z∈cK sh x,ep z)→es'=es∧clock'=clock)∧Own G (ei fv)
def BC(ft:DA)(back:Bool)(f:FuncId)(sh:Int)(x:V):Prop:= ∀ sb nb mb cs es clock,cs[0]? =some (.map (some mb))→MapOk es→Ct Tryz.prog f #[ptr sb,ptr nb] [.blk sb cs 124, .obj mb (.map es clock)] [.node nb (cv back x),ft] (RB mb es clock sb cs sh x)
theorem Ct.data{P:Program}{f:FuncId}{args:Array Value}{M:List HA}{D D2:List DA}{R:Value→List HA→List DA→Prop}(h:Ct P f args M D R)(hs: ∀ d∈D,d∈D2):Ct P f args M D2 R:=
 ⟨h.1,fun w ok hok hM hn hD=>h.2 w ok hok hM hn (fun d hd=>hD d (hs d hd))⟩
theorem J6{sh:Int}{x:V}{fv:dZ}(h:FvRel (fun _ _=>False) sh x fv):ei fv=[]:=by
  have hb: ∀ {α β:Type} {R:α→β→Prop} {l:List α} {l':List β},(∀ a b,¬ R a b)→All2 R l l'→l=[]:=by
    intro α β R l l' hR h
    cases l with
    |nil=>rfl
    |cons a l=>
      cases l' with
      |nil=>exact absurd h.1 aJ
      |cons b l'=>exact absurd (h.2 0 a b rfl rfl) (hR a b)
  cases fv with
  |sbS b=>exact h.2.2.elim
  |itS b=>exact h.2.2.elim
  |itL bs=>exact hb (fun _ _=>id) h.2.2
  |named l=>obtain⟨_,ps,_,h3⟩:=h;rw [hb (fun a b h=>h.2) h3];rfl
  |list bs=>exact hb (fun _ _=>id) h.2
  |one b=>exact h.2.elim
  |_=>rfl
theorem z5{ft:DA}{back:Bool}{f:FuncId}{sh:Int}{x:V}(h: ∀ sb nb,CtR Tryz.prog f #[ptr sb,ptr nb] [.node nb (cv back x),ft] (fun u D'=> ∃p fv,u= .pointer (some p)∧D'=[.fv u fv]∧FvRel (fun _ _=>False) sh x fv)):BC ft back f sh x:=by
 intro sb nb mb cs es clock hcs hes
 have hfr:Ct Tryz.prog f #[ptr sb,ptr nb] ([]++[.blk sb cs 124, .obj mb (.map es clock)]) [.node nb (cv back x),ft] _:=Ct.frame (N:=[.blk sb cs 124, .obj mb (.map es clock)]) (h sb nb)
 refine⟨hfr.1,fun w ok hok hM hn hD=>Calls.mono (hfr.2 w ok hok hM hn hD) ?_⟩
 rintro e w' ⟨v,M',D',rfl,⟨M1,rfl,rfl,p,fv,rfl,rfl,hrel⟩,hchg,hm,hn',hft,hd⟩
 refine⟨_,[.blk sb cs 124, .many 124 (Gr.blks []), .obj mb (.map es clock)],[.fv (.pointer (some p)) fv, .graph mb []],rfl,⟨p,fv,[],es,clock,rfl,rfl,rfl,hrel.mono (fun _ _ _ h=>h.elim),hes,fun _=>⟨rfl,rfl⟩,by rw [J6 hrel];exact Own.nil⟩,hchg,?_,?_,?_,?_⟩
 ·intro y hy
  simp only [List.mem_cons,List.not_mem_nil,or_false]at hy
  rcases hy with rfl|rfl|rfl
  ·exact hm _ aJ
  ·intro g hg;cases hg
  ·exact hm _ aJ
 ·simpa [cP,HA.foot,Gr.blks]using hn'
 ·intro b hb;exact hft b (by simpa [cP,HA.foot,Gr.blks]using hb)
 ·intro y hy
  simp only [List.mem_cons,List.not_mem_nil,or_false]at hy
  rcases hy with rfl|rfl
  ·exact(hd _ List.mem_cons_self:_)|>DA.mono _ (fun k hk=>⟨hk.1,hk.2.1,by simpa [cP,HA.foot,Gr.blks]using hk.2.2⟩) (fun _ _=>rfl)
  ·intro g hg;cases hg
theorem CtR.mono{P:Program}{f:FuncId}{args:Array Value}{D:List DA}{R R':Value→List DA→Prop}(h:CtR P f args D R)(hr: ∀ u D',R u D'→R' u D'):CtR P f args D R':=
 ⟨h.1,fun w ok hok hM hn hD=>Calls.mono (h.2 w ok hok hM hn hD) (by
  rintro e w' ⟨v,M',D',rfl,⟨h1,h2⟩,rest⟩
  exact⟨v,M',D',rfl,⟨h1,hr _ _ h2⟩,rest⟩)⟩
theorem Ct.mono{P:Program}{f:FuncId}{args:Array Value}{M:List HA}{D:List DA}{R R':Value→List HA→List DA→Prop}(h:Ct P f args M D R)(hr: ∀ u M' D',R u M' D'→R' u M' D'):Ct P f args M D R':=
 ⟨h.1,fun w ok hok hM hn hD=>Calls.mono (h.2 w ok hok hM hn hD) (by
  rintro e w' ⟨v,M',D',rfl,h2,rest⟩
  exact⟨v,M',D',rfl,hr _ _ _ h2,rest⟩)⟩
theorem kJ{back:Bool}{x:V}(h:x.kind=3):cv back x=cU dT x.text:=by rw [vW];simp [h]
theorem iU{back:Bool}{x:V}(h:x.kind=1):cv back x=cU eE (ua (decide (x.num=1))):=by rw [vW];simp [h]
theorem uX{f:FuncId}{sh:Int}{x:V}{back:Bool}{ft:DA}{fv:dZ}{y:Y}(hy:cv back x=y)(h: ∀ sp nb,CtR Tryz.prog f #[sp,ptr nb] [.node nb y] (RF fv))(hr:FvRel (fun _ _=>False) sh x fv):BC ft back f sh x:=
 z5 fun sb nb=>by
  have h1:CtR Tryz.prog f #[ptr sb,ptr nb] [.node nb y,ft] (RF fv):=Ct.data (h (ptr sb) nb) (fun d hd=>by rw [List.mem_singleton.1 hd];exact List.mem_cons_self)
  rw [hy]
  exact h1.mono (by rintro u D' ⟨p,rfl,rfl⟩;exact⟨p,fv,rfl,rfl,hr⟩)
theorem Rl{ft:DA}{back:Bool}{x:V}(h:x.kind=3):BC ft back 134 1 x:=uX (kJ h) (fun sp nb=>PP sp nb _ _) ⟨rfl,rfl⟩
theorem Rm{ft:DA}{back:Bool}{x:V}(h:x.kind=1):BC ft back 136 2 x:=uX (iU h) (fun sp nb=>PQ sp nb _) ⟨rfl,rfl⟩
theorem Rn{ft:DA}{back:Bool}{x:V}(h:x.kind=4)(hl:x.items.length≤1000000)(h3: ∀ y∈x.items,y.kind=3):BC ft back 140 8 x:=uX (gF h h3) (fun sp nb=>PS sp nb _ bq) ⟨rfl,rfl⟩
theorem Mv{ft:DA}{back:Bool}{x:V}(h:x.kind=3):BC ft back 144 12 x:=uX (kJ h) (fun sp nb=>Mn sp nb _ _) ⟨rfl,h,rfl⟩
theorem Mw{ft:DA}{back:Bool}{x:V}(h:x.kind=4)(hl:x.items.length≤1000000)(h3: ∀ y∈x.items,y.kind=3):BC ft back 144 12 x:=uX (gF h h3) (fun sp nb=>Mo sp nb _ bq) ⟨rfl,h,rfl⟩
theorem ue{back:Bool}{v:V}(h:v.kind=4)(h3: ∀ y∈v.items,y.kind=3∨y.kind=1):cv back v= .mk 2 fh ⟨#[]⟩ ((v.items.map Dh).map Bb):=by
 rw [fI h]
 congr 1
 rw [List.map_map]
 refine List.map_congr_left fun y hy=>?_
 simp only [Function.comp]
 unfold Dh
 rcases h3 y hy with h1|h1
 ·rw [if_pos h1,kJ h1];rfl
 ·rw [if_neg aC,iU h1];rfl
theorem PW{ft:DA}{back:Bool}{x:V}(h:x.kind=4)(hl:x.items.length≤1000000)(h3: ∀ y∈x.items,y.kind=3∨y.kind=1):BC ft back 143 11 x:=uX (ue h h3) (fun sp nb=>PT sp nb _ bq) ⟨rfl,rfl⟩
theorem tV(back:Bool)(v:V):(prs back v).Perm (v.keys.zip v.items):=by
 unfold prs
 split
 ·exact List.reverse_perm _
 ·exact .refl _
theorem mg{back:Bool}{v:V}{p:ByteArray×V}(h:p∈prs back v):p.2∈v.items:=(List.of_mem_zip ((tV back v).mem_iff.1 h)).2
theorem rg(back:Bool)(v:V):(prs back v).length≤v.keys.length:=by rw [(tV back v).length_eq,List.length_zip];omega
theorem PX{ft:DA}{back:Bool}{x:V}(h:x.kind=5)(hl:x.keys.length≤1000000)(h3: ∀ y∈x.items,y.kind=4∧y.items.length≤1000000∧ ∀ z∈y.items,z.kind=3):BC ft back 142 10 x:=
 uX (gf h) (fun sp nb=>c142 sp nb back (prs back x) (Nat.le_trans (rg back x) hl) (fun p hp=>h3 _ (mg hp))) ⟨rfl,prs back x,tV back x,rfl⟩
theorem PY{ft:DA}{back:Bool}{x:V}(h:x.kind=1):BC ft back 138 6 x:=uX (iU h) (fun sp nb=>Mr sp nb _) ⟨rfl,h,rfl⟩
theorem z6{x:V}(h:x.kind=5):cK 6 x=[x]:=by simp [cK,h]
theorem Dp{x:V}(h:x.kind=5):cK 7 x=[x]:=by simp [cK,h]
theorem iV{x:V}(h:x.kind=4)(h5: ∀ y∈x.items,y.kind=5):cK 7 x=x.items:=by
 simp only [cK,h]
 simp
 exact h5
theorem mh{x:V}(h5: ∀ y∈x.items,y.kind=5):cK 9 x=x.items:=by simp [cK];exact h5
theorem kK{x:V}(h5: ∀ y∈x.items,y.kind=5):cK 13 x=x.items:=by simp [cK];exact h5
theorem PZ{ft:DA}{back:Bool}{x:V}(h:x.kind=5)(H: ∀ mb,gD ft mb back x):BC ft back 138 6 x:=by
 intro sb nb mb cs es clock hcs hes
 refine(Ms ft sb nb mb cs back x h hcs (H mb) es clock hes).mono ?_
 rintro u M' D' ⟨p,G,es',ck',b,rfl,rfl,rfl,hU,hO,hN⟩
 exact⟨p,_,G,es',ck',rfl,rfl,rfl,⟨rfl,h,hU⟩,hO,fun hz=>hN.1 (hz x (by rw [z6 h];simp)),hN.2⟩
theorem Pa{ft:DA}{back:Bool}{x:V}(h:x.kind=5)(H: ∀ mb,gD ft mb back x):BC ft back 139 7 x:=by
 intro sb nb mb cs es clock hcs hes
 refine(Mu ft sb nb mb cs back x h hcs (H mb) es clock hes).mono ?_
 rintro u M' D' ⟨p,G,es',ck',b,rfl,rfl,rfl,hU,hO,hN⟩
 exact⟨p,_,G,es',ck',rfl,rfl,rfl,⟨rfl,h,hU⟩,hO,fun hz=>hN.1 (hz x (by rw [Dp h];simp)),hN.2⟩
theorem Pb{ft:DA}{back:Bool}{x:V}(h:x.kind=4)(hl:x.items.length≤1000000)(h5: ∀ y∈x.items,y.kind=5)(H: ∀ y∈x.items,∀ mb,gD ft mb back y):BC ft back 139 7 x:=by
 intro sb nb mb cs es clock hcs hes
 rw [fI h]
 refine(Mq ft sb nb mb cs back x.items hl h5 hcs (fun y hy=>H y hy mb) es clock hes).mono ?_
 rintro u M' D' ⟨p,G,es',ck',b,rfl,rfl,rfl,hU,hO,hN⟩
 exact⟨p,_,G,es',ck',rfl,rfl,rfl,⟨rfl,h,hU⟩,hO,fun hz=>hN.1 (by rwa [iV h h5]at hz),hN.2⟩
theorem Pd{ft:DA}{back:Bool}{x:V}(h:x.kind=4)(hl:x.items.length≤1000000)(h5: ∀ y∈x.items,y.kind=5)(H: ∀ y∈x.items,∀ mb,gD ft mb back y):BC ft back 145 13 x:=by
 intro sb nb mb cs es clock hcs hes
 rw [fI h]
 refine(PV ft sb nb mb cs back x.items hl h5 hcs (fun y hy=>H y hy mb) es clock hes).mono ?_
 rintro u M' D' ⟨p,G,es',ck',b,rfl,rfl,rfl,hU,hO,hN⟩
 exact⟨p,_,G,es',ck',rfl,rfl,rfl,⟨rfl,hU⟩,hO,fun hz=>hN.1 (by rwa [kK h5]at hz),hN.2⟩
theorem Ro{ft:DA}{back:Bool}{x:V}(h:x.kind=5)(hl:x.keys.length≤1000000)(h5: ∀ y∈x.items,y.kind=5)(H: ∀ y∈x.items,∀ mb,gD ft mb back y):BC ft back 141 9 x:=by
 intro sb nb mb cs es clock hcs hes
 rw [gf h]
 refine(PU ft sb nb mb cs back (prs back x) (Nat.le_trans (rg back x) hl) hcs (fun p hp=>H _ (mg hp) mb) es clock hes).mono ?_
 rintro u M' D' ⟨p,G,es',ck',l,rfl,rfl,rfl,hU,hO,hN⟩
 exact⟨p,_,G,es',ck',rfl,rfl,rfl,⟨rfl,_,tV back x,hU⟩,hO,fun hz=>hN.1 (fun p hp=>hz _ (by rw [mh h5];exact mg hp)),hN.2⟩
end Go.Jw

namespace Go.Jw
open Go Go.RowKit
section rules
variable {P:Program} {n:Nat} {F:List Nat} {c:Ctx F} {ops:Array Oper} {d:Nat} {T:TypeId} {l:List Oper} {k:List KI} {Q:cu} {e:dF} {M:List HA} {D:List DA}
theorem xV{x:Operand}{p:Option Addr}{S S':TypeId}(hS:P.underlying S=some (.pointer (P.pointee S)))(hd:Nat.blt d n=true)(hx:ev e x=some (.pointer p))(next:cG P n c ops l k Q ((d, .bool p.isSome)::e) M D):
  cL P n c ops (some d) (.binOp .neq S x (.const (.pointer none)) S') T l k Q e M D:=
 xR hd (fun a w hf=>by
  have h1:=run_neq_pointer_nil (P:=P) (w:=w) S p hS
  have h2:a.eval (.const (.pointer none))= .pointer none:=rfl
  cases p<;>simp_all [execOp,dH,hf.ev hx,fe]) next
theorem rW{x:Operand}{p:Option Addr}{S S':TypeId}(hS:P.underlying S=some (.pointer (P.pointee S)))(hd:Nat.blt d n=true)(hx:ev e x=some (.pointer p))(next:cG P n c ops l k Q ((d, .bool p.isNone)::e) M D):
  cL P n c ops (some d) (.binOp .eql S x (.const (.pointer none)) S') T l k Q e M D:=
 xR hd (fun a w hf=>by
  have h1:=run_eql_pointer_nil (P:=P) (w:=w) S p hS
  have h2:a.eval (.const (.pointer none))= .pointer none:=rfl
  cases p<;>simp_all [execOp,dH,hf.ev hx,fe]) next
theorem xr{x:Operand}{r:Option Nat}{S S' kt et:TypeId}(hS:P.underlying S=some (.map kt et))(hd:Nat.blt d n=true)(hx:ev e x=some (.map r))(next:cG P n c ops l k Q ((d, .bool r.isNone)::e) M D):
  cL P n c ops (some d) (.binOp .eql S x (.const (.map none)) S') T l k Q e M D:=
 xR hd (fun a w hf=>by
  have h1:=run_eql_map_nil (P:=P) w S kt et r hS
  have h2:a.eval (.const (.map none))= .map none:=rfl
  have h3:(eqGuard .eql S x (.const (.map none)) (.map r) (.map none)).run P w= .ok () w:=by simp [eqGuard]
  cases r<;>simp_all [execOp,dH,hf.ev hx]) next
end rules
end Go.Jw

namespace Go.Jw
open Go Go.RowKit Go.Proofs
set_option maxRecDepth 8000
open Go.Proofs
def uf(i:Nat):FuncId:=match i with
  |1=>134
  |2=>134
  |3=>134
  |6=>135
  |7=>135
  |8=>136
  |9=>135
  |10=>136
  |11=>137
  |12=>137
  |13=>134
  |14=>138
  |15=>139
  |16=>137
  |17=>137
  |18=>136
  |19=>137
  |20=>137
  |21=>140
  |22=>138
  |23=>141
  |24=>141
  |25=>142
  |26=>143
  |27=>144
  |28=>145
  |29=>145
  |30=>145
  |32=>141
  |33=>134
  |34=>134
  |36=>134
  |_=>0
theorem d8:Tryz.prog.underlying 111=some (.pointer (Tryz.prog.pointee 111)):=by
 have h:=Tryz.underlying111
 unfold Program.pointee
 rw [h]
theorem Ir:Tryz.prog.underlying 104=some (.map 9 63):=Tryz.underlying104
theorem RelAt.stepK{G G':Gr}{back:Bool}{v:V}{i k:Nat}{f:Flds}{p:ByteArray×V}{fv:dZ}(hr:RelAt G back v i f)(hp:(prs back v)[i]? =some p)(hk:cR p.1=k)(hf:FvRel (fun b x=>Unf G' x b) (dD k) p.2 fv):RelAt (G'++G) back v (i+1) (f.set k fv):=by
 subst hk
 exact(hr.mono fun g hg=>List.mem_append_right _ hg).step hp (hf.mono fun b x _ h=>Unf.mono (fun g hg=>List.mem_append_left _ hg) _ _ h)
theorem RelAt.stepA{G:Gr}{back:Bool}{v:V}{i k:Nat}{f:Flds}{p:ByteArray×V}{fv:dZ}(hr:RelAt G back v i f)(hp:(prs back v)[i]? =some p)(hk:cR p.1=k)(hf:FvRel (fun b x=>Unf G x b) (dD k) p.2 fv):RelAt G back v (i+1) (f.set k fv):=by
 subst hk
 exact hr.step hp hf
abbrev J7(l:List (ByteArray×V)):Prop:= ∀ p∈l,∀ z∈cK (cH p.1) p.2,ep z
theorem jj{l:List (ByteArray×V)}{i:Nat}(hi:i<l.length)(h:J7 (l.take (i+1))):J7 (l.take i)∧ ∀ z∈cK (cH l[i].1) l[i].2,ep z:=by
 unfold J7 at h
 rw [List.take_add_one,List.getElem?_eq_getElem hi]at h
 exact⟨fun p hp=>h p (List.mem_append_left _ hp),h _ (List.mem_append_right _ aJ)⟩
theorem fK: ∀ (x y:List UInt8),Op.bytesLess x y=decide (x<y)
  |x,[]=>by cases x<;>simp [Op.bytesLess]
  |[],_::_=>by simp [Op.bytesLess]
  |a::x,b::y=>by
    have ih:=fK x y
    by_cases h1:a<b<;>by_cases h2:a=b<;>by_cases h3:x<y<;>simp [Op.bytesLess,ih,List.cons_lt_cons_iff,h1,h2,h3]
theorem rh{back:Bool}{v:V}(hw:Wf v)(hk5:v.kind=5)(hko:dy v.keys){p:ByteArray×V}(hp:p∈prs back v):getV v p.1=some p.2:=by
  have hp':=(tV back v).mem_iff.1 hp
  obtain⟨j,hj,he⟩:=List.getElem_of_mem hp'
  have hl:=hw.eq hk5
  simp only [List.length_zip]at hj
  rw [List.getElem_zip]at he
  subst he
  have hf:dL v.keys v.keys[j]=(j:Nat):=by
    refine th aC Z (fun q hq h=>?_)
    rw [List.getElem?_eq_getElem aC]at h
    have h1:v.keys[q]=v.keys[j]:=by simpa using h
    have hlt: ∀ a b (ha:a<v.keys.length) (hb:b<v.keys.length),a<b→v.keys[a].toList<v.keys[b].toList:=by
      intro a b ha hb hab
      induction b with
      |zero=>omega
      |succ b ih=>
        have hs:=(hko (b+1) hb).2 aC
        have h3:v.keys[b].toList<v.keys[b+1].toList:=by
          have h4: ¬ (v.keys[b+1].toList<v.keys[b].toList):=by
            have:=hs.1
            rw [fK]at this
            simpa using this
          have h5:v.keys[b].toList≠v.keys[b+1].toList:=fun h=>hs.2 (by
            have:=uB (s:=v.keys[b+1]) (t:=v.keys[b])
            rw [h]at this
            simpa using this.symm)
          rcases Nat.lt_trichotomy 0 1 with _|_|_
          · exact Classical.byContradiction fun hc=>h5 (List.le_antisymm (List.not_lt.1 h4) (List.not_lt.1 hc))
          · omega
          · omega
        rcases Nat.lt_or_eq_of_le (Nat.le_of_lt_succ hab)with h6|h6
        · exact List.lt_trans (ih aC h6) h3
        · subst h6;exact h3
    have:=hlt q j aC aC hq
    rw [h1]at this
    exact List.lt_irrefl _ this
  exact fF hf aC
theorem GR{G:Gr}{back:Bool}{v:V}{f:Flds}{b:Nat}{cs:List Value}(hw:Wf v)(hk5:v.kind=5)(hko:dy v.keys)(hr:RelAt G back v (prs back v).length f)(hg:(b,cs,f)∈G):Unf G v b:=by
  have hget: ∀ p∈prs back v,getV v p.1=some p.2:=fun p hp=>rh hw hk5 hko hp
  refine(tO G v b).2 ⟨f,⟨cs,hg⟩,fun q h1 h2=>?_⟩
  have:=hr q h1 h2
  rw [List.take_length]at this
  cases hfq:f q with
  |none=>
    rw [hfq]at this
    intro key hkey
    cases hgv:getV v key with
    |none=>rfl
    |some x=>
      exfalso
      have hmem:(key,x)∈prs back v:=by
        refine(tV back v).mem_iff.2 ?_
        unfold getV at hgv
        rcases sO v.keys key with hn|⟨j,hj,hlt⟩
        · rw [if_pos hn]at hgv;cases hgv
        · rw [hj,if_neg aC]at hgv
          have hl:=hw.eq hk5
          simp only [Int.toNat_natCast]at hgv
          have hx:=(List.getElem?_eq_some_iff.1 hgv).2
          have hkj:v.keys[j]=key:=by
            have h3:dL v.keys key=(j:Nat):=hj
            unfold dL at h3
            split at h3
            · rename_i hlt3
              have h4:=List.findIdx_getElem (w:=hlt3)
              have h5:v.keys.findIdx (fun x=>decide (x=key))=j:=by omega
              simp only [h5]at h4
              simpa using h4
            · omega
          rw [←hkj,←hx]
          have:(v.keys.zip v.items)[j]'cD=(v.keys[j],v.items[j]'aC):=List.getElem_zip
          rw [←this]
          exact List.getElem_mem _
      exact this _ hmem hkey
  |some fv=>
    rw [hfq]at this
    obtain⟨p,h3,h4,h5⟩:=this
    exact⟨p.1,p.2,h4,hget p h3,h5⟩
theorem ug(w:World)(ok:Nat→Prop)(mb:Nat):CellsP w ok mb (.map (some mb)::List.replicate 36 (.pointer none)) (fun _=>none):=by
 refine⟨by simp,rfl,fun i h1 h2=>⟨.pointer none,?_,rfl⟩⟩
 obtain⟨j,rfl⟩: ∃j,i=j+1:=⟨i - 1,aC⟩
 rw [List.getElem?_cons_succ,List.getElem?_replicate,if_pos aC]
theorem J8{w:World}{ok:Nat→Prop}{fv:dZ}{u:Value}(h:FvP w ok fv u): ∃p,u= .pointer (some p):=by
  cases fv with
  |text s=>obtain⟨p,a,_⟩:=h;exact⟨p,a⟩
  |bool x=>obtain⟨p,a,_⟩:=h;exact⟨p,a⟩
  |int n=>obtain⟨p,a,_⟩:=h;exact⟨p,a⟩
  |numI n=>obtain⟨b,p,a,_⟩:=h;exact⟨_,a⟩
  |numF n=>obtain⟨b,p,a,_⟩:=h;exact⟨_,a⟩
  |sbS c=>obtain⟨b,a,_⟩:=h;exact⟨_,a⟩
  |sbB x=>obtain⟨b,p,a,_⟩:=h;exact⟨_,a⟩
  |itS c=>obtain⟨b,a,_⟩:=h;exact⟨_,a⟩
  |itL bs=>obtain⟨b,p,sl,a,_⟩:=h;exact⟨_,a⟩
  |texts l=>obtain⟨p,sl,a,_⟩:=h;exact⟨_,a⟩
  |named l=>obtain⟨p,sl,nbs,a,_⟩:=h;exact⟨_,a⟩
  |deps l=>obtain⟨p,sl,nbs,a,_⟩:=h;exact⟨_,a⟩
  |enums l=>obtain⟨p,A,c,a,_⟩:=h;exact⟨_,a⟩
  |tyS s=>obtain⟨b,p,a,_⟩:=h;exact⟨_,a⟩
  |tyL l=>obtain⟨b,p,sl,a,_⟩:=h;exact⟨_,a⟩
  |list bs=>obtain⟨p,sl,a,_⟩:=h;exact⟨_,a⟩
  |one c=>exact⟨_,h⟩
  |any=>exact h
theorem uh{w:World}{ok:Nat→Prop}{mb:Nat}{cs:List Value}{f:Flds}(h:(DA.flds mb cs f).p w ok)(i:Nat)(h1:1≤i)(h2:i≤36): ∃q,cs[i]? =some (.pointer q)∧q.isSome=(f i).isSome:=by
  obtain⟨u,hu,hm⟩:=h.2.2 i h1 h2
  cases hf:f i with
  |none=>rw [hf]at hm;subst hm;exact⟨none,hu,rfl⟩
  |some fv=>
    rw [hf]at hm
    obtain⟨p,rfl⟩:=J8 hm
    exact⟨some p,hu,rfl⟩
theorem J9{w:World}{ok:Nat→Prop}{mb:Nat}{cs:List Value}{f:Flds}{s:ByteArray}{p:Addr}(h:(DA.flds mb cs f).p w ok)(hf:f 2=some (.text s))(hc:cs[2]? =some (.pointer (some p))):PtsTo w ok p (.string s):=by
 obtain⟨u,hu,hm⟩:=h.2.2 2 aE aE
 rw [hf]at hm
 rw [hc]at hu
 cases hu
 obtain⟨p',he,_,h3⟩:=hm
 cases he
 exact h3
theorem lm{U:Nat→V→Prop}{x:V}{fv:dZ}(h:FvRel U 1 x fv):fv= .text x.text:=by
 cases fv<;>simp_all [FvRel]
theorem Dq{back:Bool}{v:V}(h:ub v):J7 (prs back v):=by
 intro p hp
 have hp':=(tV back v).mem_iff.1 hp
 obtain⟨j,hj,he⟩:=List.getElem_of_mem hp'
 simp only [List.length_zip]at hj
 rw [List.getElem_zip]at he
 subst he
 exact h j _ _ (List.getElem?_eq_getElem aC) (List.getElem?_eq_getElem aC)
theorem z7{back:Bool}{v x:V}{key:ByteArray}(hw:Wf v)(hk5:v.kind=5)(hgv:getV v key=some x):(key,x)∈prs back v:=by
  refine(tV back v).mem_iff.2 ?_
  unfold getV at hgv
  rcases sO v.keys key with hn|⟨j,hj,hlt⟩
  · rw [if_pos hn]at hgv;cases hgv
  · rw [hj,if_neg aC]at hgv
    have hl:=hw.eq hk5
    simp only [Int.toNat_natCast]at hgv
    have hx:=(List.getElem?_eq_some_iff.1 hgv).2
    have hkj:v.keys[j]=key:=by
      have h3:dL v.keys key=(j:Nat):=hj
      unfold dL at h3
      split at h3
      · rename_i hlt3
        have h4:=List.findIdx_getElem (w:=hlt3)
        have h5:v.keys.findIdx (fun x=>decide (x=key))=j:=by omega
        simp only [h5]at h4
        simpa using h4
      · omega
    rw [←hkj,←hx]
    have:(v.keys.zip v.items)[j]'cD=(v.keys[j],v.items[j]'aC):=List.getElem_zip
    rw [←this]
    exact List.getElem_mem _
theorem GS{G:Gr}{back:Bool}{v:V}{f:Flds}(hw:Wf v)(hk5:v.kind=5)(hko:dy v.keys)(hr:match f 2 with
    |none=> ∀ p∈(prs back v).take (prs back v).length,cR p.1≠2
    |some fv=> ∃p∈(prs back v).take (prs back v).length,cR p.1=2∧FvRel (fun b x=>Unf G x b) (dD 2) p.2 fv) (hf:f 2=none):getV v kId=none:=by
  rw [hf]at hr
  rw [List.take_length]at hr
  cases hg:getV v kId with
  |none=>rfl
  |some x=>exact absurd (show cR kId=2 by decide+kernel) (hr _ (z7 hw hk5 hg))
theorem Rp{key:ByteArray}(h:cR key=2):key=kId:=Dk (h.trans (by decide+kernel:2=cR kId)) bw
theorem Bf{ks:List ByteArray}(hko:dy ks): ∀ a b (ha:a<ks.length) (hb:b<ks.length),a<b→ks[a].toList<ks[b].toList:=by
  intro a b ha hb hab
  induction b with
  |zero=>omega
  |succ b ih=>
    have hs:=(hko (b+1) hb).2 aC
    have h3:ks[b].toList<ks[b+1].toList:=by
      have h4: ¬ (ks[b+1].toList<ks[b].toList):=by
        have:=hs.1
        rw [fK]at this
        simpa using this
      have h5:ks[b].toList≠ks[b+1].toList:=fun h=>hs.2 (by
        have:=uB (s:=ks[b+1]) (t:=ks[b])
        rw [h]at this
        simpa using this.symm)
      exact Classical.byContradiction fun hc=>h5 (List.le_antisymm (List.not_lt.1 h4) (List.not_lt.1 hc))
    rcases Nat.lt_or_eq_of_le (Nat.le_of_lt_succ hab)with h6|h6
    · exact List.lt_trans (ih aC h6) h3
    · subst h6;exact h3
theorem Bg{back:Bool}{v:V}(hko:dy v.keys):((prs back v).map (·.1)).Nodup:=by
  have h1:v.keys.Nodup:=by
    refine List.pairwise_iff_getElem.2 fun i j hi hj hij e=>?_
    have:=Bf hko i j hi hj hij
    rw [e]at this
    exact List.lt_irrefl _ this
  refine((tV back v).map _).nodup_iff.2 ?_
  refine List.Nodup.sublist ?_ h1
  have: ∀ (ks:List ByteArray) (ts:List V),List.Sublist ((ks.zip ts).map (·.1)) ks:=by
    intro ks
    induction ks with
    |nil=>intro ts;exact List.Sublist.refl _
    |cons k ks ih=>
      intro ts
      cases ts with
      |nil=>exact List.nil_sublist _
      |cons t ts=>exact(ih ts).cons_cons k
  exact this _ _
theorem ri{G:Gr}{back:Bool}{v:V}{i q:Nat}{f:Flds}(hko:dy v.keys)(hlt:i<(prs back v).length)(hr:RelAt G back v i f)(h0:1≤q∧q≤36)(hkw:cR (prs back v)[i].1=q):f q=none:=by
  have:=hr q h0.1 h0.2
  cases hf:f q with
  |none=>rfl
  |some fv=>
    exfalso
    rw [hf]at this
    obtain⟨p,hp,hk,_⟩:=this
    have he:p.1=(prs back v)[i].1:=(kG hk aC).trans (kG hkw aC).symm
    obtain⟨j,hj,rfl⟩:=List.getElem_of_mem hp
    rw [List.length_take]at hj
    rw [List.getElem_take]at he
    have hn:=List.pairwise_iff_getElem.1 (Bg (back:=back) hko) j i (by rw [List.length_map];omega) (by rw [List.length_map];omega) aC
    exact hn (by rw [List.getElem_map,List.getElem_map];exact he)
theorem Mx{back:Bool}{v:V}{mb i q ck ck1 ck2:Nat}{cs:List Value}{f:Flds}{es es1 es2:Array MapEntry}{G G':Gr}{u:Value}{fv:dZ}(hlt:i<(prs back v).length)(hlen:cs.length=37)(hcs:cs[0]? =some (.map (some mb)))(hr:RelAt G back v i f)(h0:1≤q)(h36:q≤36)(hko:dy v.keys)(hown:Own G (kx f))
  (hkw:cR (prs back v)[i].1=q) (hF:FvRel (fun b x=>Unf G' x b) (dD q) (prs back v)[i].2 fv) (hO:MapOk es2) (hno:J7 ((prs back v).take i)→es1=es∧ck1=ck) (hN:((∀ z∈cK (dD q) (prs back v)[i].2,ep z)→es2=es1∧ck2=ck1)∧Own G' (ei fv)):
  i+1≤(prs back v).length∧(cs.set q u).length=37∧(cs.set q u)[0]? =some (.map (some mb))∧RelAt (G'++G) back v (i+1) (Flds.set f q fv)∧MapOk es2∧(J7 ((prs back v).take (i+1))→es2=es∧ck2=ck)∧Own (G'++G) (kx (Flds.set f q fv)):=by
 refine⟨hlt,by rw [List.length_set];exact hlen,by rw [List.getElem?_set_ne aC];exact hcs,hr.stepK (List.getElem?_eq_getElem hlt) hkw hF,hO,fun h=>?_,rc hown hN.2 h36 (ri hko hlt hr ⟨h0,h36⟩ hkw)⟩
 obtain⟨h1,h2⟩:=jj hlt h
 obtain⟨e1,e2⟩:=hno h1
 rw [ky (by rw [hkw];omega),hkw]at h2
 obtain⟨e3,e4⟩:=hN.1 h2
 exact⟨e3.trans e1,e4.trans e2⟩

def Nm(q:Nat):Prop:=decide (1≤q∧q≤36∧q≠0∧q≠35)=true
theorem Nm.nmok{q:Nat}(h:Nm q):1≤q∧q≤36∧q≠0∧q≠35:=of_decide_eq_true h
theorem Rq{q:Nat}{key k2:ByteArray}(_:Nm q)(h:key=k2)(e:cR k2=q):cR key=q:=h▸e
theorem Bh{P:Program}{n:Nat}{F:List Nat}{c:Ctx F}{k:List KI}{Q:cu}{e:dF}{M:List HA}{D:List DA}{q:Nat}(hq:Nm q)(i j:Nat){mb:Nat}{cs:List Value}{f:Flds}{u:Value}{v:dZ}(hi:D[i]? =some (.flds mb cs f))(hj:D[j]? =some (.fv u v))(next:Run P n c k Q e M (.flds mb (cs.set q u) (f.set q v)::D)):Run P n c k Q e M D:=mc i j q hi hj hq.nmok.1 next
theorem sW{D D2:List DA}(h: ∀ d∈D2,d∈D:=by intro d hd;first|exact cd 1 rfl (cd 0 rfl sQ) d hd|exact cd 0 rfl (cd 9 rfl sQ) d hd|(repeat (first|exact hd|apply List.mem_cons_of_mem))): ∀ d∈D2,d∈D:=h
theorem iB{q:Nat}{X A B:Prop}(hF:cI Tryz.prog 124 q q)(si:X)(x:B)(hq:Nm q:=by exact rfl)(h:cI Tryz.prog 124 q q→X→Nm q→B→A:=by
  intro hF si hq k
  refine rR 7 Z ?_
  refine zI Z (fun h=>?_) (fun h=>rK 0 [55,8,6,5,0,1] Z Z ?_)
  rotate_left
  · revert h
    exact k
  have hkw:=Rq hq h aD
  have hB:=HB _ hmem _ rfl (by rw [hkw];decide)
  rw [hkw]at hB
  refine rO 8 Z ?_
  refine pF 0 1 Z Z Z (hB _ _ _ _ es1 ck1 hcs hok) Z Z (dP 1 11 Z Z) (fun u M D hv=>?_)
  obtain⟨p,fv,G1,es2,ck2,rfl,rfl,rfl,hF1,hO1,hN1⟩:=hv
  refine oO 3 Z ?_
  refine zC hF Z Z ?_
  refine oO 1 Z ?_
  refine uL 0 Z Z Z Z Z si aC ?_
  refine oO 7 Z ?_
  refine xN (s:=((2*(i+1):Nat):Int)) Z Z Z aC aC aC ?_
  refine oR 3 Z ?_
  refine Bh hq 8 0 Z Z ?_
  refine sF 2 10 Z Z ?_
  refine qG 1 2 Z Z ?_
  rw [gE]
  exact vJ (hK (i+1,cs.set _ (.pointer (some p)),Flds.set f _ fv,es2,ck2,G1++G) (Mx hlt hlen hcs hr hq.nmok.1 hq.nmok.2.1 hko hown hkw hF1 hO1 hno hN1) (by show(prs back v).length - (i+1)<(prs back v).length - i;omega)) (eC Z (eC Z (eC Z (eC Z (eN _))))) (by repeat (first|exact uI _|exact zQ _|refine zB 0 Z ?_|refine zB 1 Z ?_|refine zB 2 Z ?_)) sW):A:=h hF si hq x

set_option maxHeartbeats 4000000 in
theorem My(ft:DA)(mb:Nat)(back:Bool)(v:V)(hw:Wf v)(hk5:v.kind=5)(hko:dy v.keys)(HB: ∀ p∈prs back v,∀ F,uf (cR p.1)=F→F≠0→BC ft back F (dD (cR p.1)) p.2)(HN: ∀ p∈prs back v,cR p.1=31→gD ft mb back p.2)
  (nb:Nat) (es:Array MapEntry) (clock:Nat) (hes:MapOk es):Ct Tryz.prog 103 #[ptr nb, .map (some mb)] [.obj mb (.map es clock)] [.node nb (cv back v),ft] (Mp mb es clock v):=by
 refine Ct.of_run (args:=[ptr nb, .map (some mb)]) Tryz.func103 aF Z Tryz.ntmps103 Z (fun c=>?_)
 have hkl:=hw.kl
 have hpl:=rg back v
 rw [gf hk5]
 refine xT 0 Z (fun A0 cap0 ht0 hv0 hl0 hc0=>?_)
 rw [kI]
 rw [kI]at hl0
 unfold maxLen at hc0
 refine rO 13 Z (zC wD Z Z ?_)
 refine zA (zJ 0 dX Z Z Z Z ?_)
 refine oO 23 Z (yV Z Z (GC ..) ?_)
 refine zA (yK Z Z Z (fun b27=>?_))
 refine oK 3 [5,0,1] Z Z (rK 7 [6,5,0,1] Z Z ?_)
 refine yZ (.graph mb []) (fun w ok h g hg=>by cases hg) (yZ (.flds mb (.map (some mb)::List.replicate 36 (.pointer none)) (fun _=>none)) (fun w ok h=>ug w ok mb) ?_)
 refine gd 124 (rC (M':=HA.blk b27 (.map (some mb)::List.replicate 36 (.pointer none)) 124::HA.many 124 []::HA.obj mb (.map es clock)::[]) (List.Perm.swap _ _ _) ?_)
 refine yB 1 (fun(⟨i,cs,f,es1,ck1,G⟩:Nat×List Value×Flds×Array MapEntry×Nat×Gr)=>i≤(prs back v).length∧cs.length=37∧cs[0]? =some (.map (some mb))∧RelAt G back v i f∧MapOk es1∧(J7 ((prs back v).take i)→es1=es∧ck1=clock)∧Own G (kx f)) (fun(⟨i,cs,f,es1,ck1,G⟩:Nat×List Value×Flds×Array MapEntry×Nat×Gr)=>[(6, .int .i64 ((2*i:Nat):Int))]) (fun(⟨i,cs,f,es1,ck1,G⟩:Nat×List Value×Flds×Array MapEntry×Nat×Gr)=>HA.blk b27 cs 124::HA.many 124 (Gr.blks G)::HA.obj mb (.map es1 ck1)::[]) (fun(⟨i,cs,f,es1,ck1,G⟩:Nat×List Value×Flds×Array MapEntry×Nat×Gr)=> .flds mb cs f:: .graph mb G:: .dblk nb (dY 4 kE ⟨#[]⟩ A0 (2*(prs back v).length) cap0) 150:: .kids (.slice A0 (2*(prs back v).length) cap0) (((prs back v).map (fA back)).flatMap eH):: .node nb (.mk 4 kE ⟨#[]⟩ (((prs back v).map (fA back)).flatMap eH))::ft::[]) (fun(⟨i,cs,f,es1,ck1,G⟩:Nat×List Value×Flds×Array MapEntry×Nat×Gr)=>(prs back v).length - i) (0,_,(fun _=>none),es,clock,[]) (⟨Nat.zero_le _,rfl,rfl,RelAt.zero _ _ _,hes,fun _=>⟨rfl,rfl⟩,Own.nilF⟩) (eC Z (eN _)) Z Z ?_ (eC Z (eC Z (eC Z (eN _))))
 intro ⟨i,cs,f,es1,ck1,G⟩ hI K hK
 change Run _ _ _ _ _ [(6,_),(5,_),(0,_),(1,_)] [_,_,_] [_,_,_,_,_,_]
 obtain⟨hi,hlen,hcs,hr,hok,hno,hown⟩:=hI
 refine rO 10 Z (zC wE Z Z ?_)
 refine zA (zJ 2 dj Z Z Z Z ?_)
 refine zA (zX cn Z Z ?_)
 refine zA (yL Z Z Z ?_)
 refine yO (zI Z (fun h34=>?_) (fun h34=>?_))
 ·refine rO 10 Z (zC wE Z Z ?_)
  refine zA (zJ 2 dj Z Z Z Z ?_)
  refine oO 3 Z (wK (i:=2*i) 3 cn Z Z Z Z aC ?_)
  have hlt:i<(prs back v).length:=by omega
  have hmem:=List.getElem_mem hlt
  have hpi:=List.getElem?_eq_getElem hlt
  refine uQ 3 (2*i) Z (rd hlt) (fun b1=>?_)
  refine sI 1 Z (fun A1 cap1 ht1 hv1 hl1 hc1=>?_)
  refine zA (yR dQ Z Z (fun _ h=>wX h (j:=2) Z) ?_)
  refine oO 3 Z (zC wN Z Z ?_)
  refine zA (zJ 0 dO Z Z Z Z ?_)
  refine oK 3 [7,6,5,0,1] Z Z (rO 7 Z ?_)
  refine zC wE Z Z (zA ?_)
  refine zJ 6 dj Z Z Z Z (oO 3 Z ?_)
  refine zN Z Z aC (zA ?_)
  refine wK (i:=2*i+1) 7 cn Z Z Z Z aC (uQ 7 (2*i+1) Z (re hlt) (fun b2=>?_))
  refine zA (yR dQ Z Z (fun _ h=>wX h (j:=0) Z) ?_)
  refine oK 8 [55,8,6,5,0,1] Z Z (oI ?_)
  refine iB i5 ef ?_
  intro h56
  refine iB gZ ef ?_
  intro h64
  refine iB lZ oU ?_
  intro h72
  refine iB la oU ?_
  intro h80
  refine iB lc mI ?_
  intro h88
  refine iB ld oU ?_
  intro h96
  refine iB i6 mI ?_
  intro h104
  refine iB i7 ez ?_
  intro h112
  refine iB i8 ez ?_
  intro h120
  refine iB jA ef ?_
  intro h128
  refine iB jB zr ?_
  intro h136
  refine iB jC Ic ?_
  intro h144
  refine iB jD ez ?_
  intro h152
  refine iB jE ez ?_
  intro h160
  refine iB jF mI ?_
  intro h168
  refine iB jG ez ?_
  intro h176
  refine iB jH ez ?_
  intro h184
  refine iB jI zt ?_
  intro h192
  refine iB jJ zr ?_
  intro h200
  refine iB jK oW ?_
  intro h208
  refine iB jM oW ?_
  intro h216
  refine iB jN Id ?_
  intro h224
  refine iB jO Ie ?_
  intro h232
  refine iB jQ If ?_
  intro h240
  refine iB jR oX ?_
  intro h248
  refine iB jS oX ?_
  intro h256
  refine iB jT oX ?_
  intro h264
  refine rR 7 Z (zI Z (fun h272=>?_) (fun h272=>?_))
  ·refine rO 10 Z (zC gY Z Z ?_)
   refine zA (wR 0 oT Z Z Z hcs ?_)
   refine zA ?_
   have hkw:cR (prs back v)[i].1=31:=by rw [h272];decide+kernel
   have hB:=HN _ hmem hkw
   refine yG 2 Z Z Z (hB _ es1 ck1 hok) Z (dP 1 11 Z Z) (fun u280 M280 D280 hv280=>?_)
   obtain⟨b280,G280,es280,ck280,rfl,rfl,rfl,hU280,hO280,hN280,hI280⟩:=hv280
   refine oO 3 Z (zC jU Z Z ?_)
   refine zA (uL 2 Z Z Z Z Z Jo aC ?_)
   refine oK 1 [6,5,0,1] Z Z (rO 6 Z ?_)
   refine xN (s:=((2*(i+1):Nat):Int)) Z Z Z aC aC aC (oR 3 Z ?_)
   refine yZ (.fv (ptr b280) (.one b280)) (fun w ok h=>rfl) (mc 8 0 31 Z Z aE ?_)
   refine sF 2 10 Z Z (qG 0 2 Z Z ?_)
   rw [gE]
   exact kQ (hK (i+1,cs.set 31 (ptr b280),Flds.set f 31 (.one b280),es280,ck280,G280++G) (⟨by show i+1≤_;omega,by show(cs.set 31 _).length=37;rw [List.length_set];exact hlen,by show(cs.set 31 _)[0]? =_;rw [List.getElem?_set_ne aE];exact hcs,hr.stepK hpi hkw ⟨rfl,hU280⟩,hO280,fun h=>by obtain⟨h1,h2⟩:=jj hlt h;obtain⟨e1,e2⟩:=hno h1;rw [ky (by rw [hkw];decide),hkw]at h2;obtain⟨e3,e4⟩:=hN280 (h2 _ (by show _∈cK 5 _;simp [cK]));exact⟨e3.trans e1,e4.trans e2⟩,rc hown hI280.2 aE (ri hko hlt hr aE hkw)⟩) (PJ hlt)) (eC Z (eC Z (eC Z (eC Z (eN _))))) (hD:=sW)
  refine iB jV oW ?_
  intro h283
  refine iB jX ef ?_
  intro h291
  refine iB jY ef ?_
  intro h299
  refine rR 7 Z (zI Z (fun h307=>?_) (fun h307=>?_))
  ·refine rO 8 Z (zC mK Z Z ?_)
   refine zA (uL 0 Z Z Z Z Z IZ aC ?_)
   refine oK 1 [6,5,0,1] Z Z (rO 6 Z ?_)
   refine xN (s:=((2*(i+1):Nat):Int)) Z Z Z aC aC aC (oR 3 Z ?_)
   refine yZ (.fv (ptr b2) .any) (fun w ok h=>⟨_,rfl⟩) (mc 7 0 35 Z Z aE ?_)
   exact kQ (hK (i+1,cs.set 35 (ptr b2),Flds.set f 35 .any,es1,ck1,G) (⟨by show i+1≤_;omega,by show(cs.set 35 _).length=37;rw [List.length_set];exact hlen,by show(cs.set 35 _)[0]? =_;rw [List.getElem?_set_ne aE];exact hcs,hr.stepA hpi (by rw [h307];decide+kernel) Z,hok,fun h=>hno (jj hlt h).1,rc (G':=[]) hown Own.nil aE (ri hko hlt hr aE (by rw [h307];decide+kernel))⟩) (PJ hlt)) (eC Z (eC Z (eC Z (eC Z (eN _))))) (hD:=sW)
  refine iB jZ ef ?_
  intro h313
  refine iB lY ef ?_
  intro h321
  refine rO 7 Z (xN (s:=((2*(i+1):Nat):Int)) Z Z Z aC aC aC ?_)
  refine oR 3 Z ?_
  exact kQ (hK (i+1,cs,f,es1,ck1,G) (⟨by show i+1≤_;omega,hlen,hcs,hr.skip hpi (by unfold cR;repeat rw [if_neg (by assumption)]),hok,fun h=>hno (jj hlt h).1,hown⟩) (PJ hlt)) (eC Z (eC Z (eC Z (eC Z (eN _))))) (hD:=sW)
 obtain rfl:i=(prs back v).length:=by omega
 rw [List.take_length]at hno
 have hUnf:Unf ([(b27,cs,f)]++G) v b27:=GR (cs:=cs) hw hk5 hko (hr.mono fun g hg=>List.mem_append_right _ hg) (List.mem_append_left _ aJ)
 refine qD (p:= ∃q,cs[2]? =some (.pointer q)∧q.isSome=(f 2).isSome) (fun w ok h=>uh (dget h 0 Z) 2 aE aE) (fun⟨q2,hq2,hq2s⟩=>?_)
 refine rO 9 Z (zC gZ Z Z ?_)
 refine zA (wR 0 db Z Z Z hq2 ?_)
 refine zA (xV d8 Z Z ?_)
 refine oK 1 [333,5,1] Z Z (yC Z (fun h333=>?_) (fun h333=>?_))
 ·obtain⟨p9,rfl⟩: ∃p9,q2=some p9:=Option.isSome_iff_exists.1 h333
  obtain⟨fv2,hf2⟩: ∃fv2,f 2=some fv2:=Option.isSome_iff_exists.1 (hq2s.symm.trans h333)
  have hrel:=hr 2 aE aE
  rw [hf2]at hrel
  obtain⟨pp,hpp,hkpp,hfpp⟩:=hrel
  rw [List.take_length]at hpp
  obtain rfl:=lm hfpp
  have hgid:getV v kId=some pp.2:=by rw [←Rp hkpp];exact rh hw hk5 hko hpp
  refine yZ (.pts p9 (.string pp.2.text)) (fun w ok h=>J9 (dget h 0 Z) hf2 hq2) (rO 6 Z ?_)
  refine xr Ir Z Z (oO 11 Z ?_)
  refine zC gZ Z Z (zA ?_)
  refine wR 0 db Z Z Z hq2 (oO 3 Z ?_)
  refine xU 0 dO Z Z Z (oO 3 Z ?_)
  refine Bd 2 Ir eL Z Z Z Z hok (fun es9 ck9 hok9 hemp=>?_)
  refine oK 1 [5] Z Z (rR 7 Z ?_)
  refine mZ 0 Z (qG 0 0 Z Z ?_)
  refine ma (b:=b27) 1 Z (sF 0 3 Z Z ?_)
  exact zD Tryz.results103 Z ⟨b27,[(b27,cs,f)]++G,es9,ck9,rfl,rfl,rfl,hUnf,hok9,(fun h=>by rw [((noId_iff v).1 h).1]at hgid;cases hgid),(fun idv hid hb he=>by rw [hgid]at hid;cases hid;obtain⟨e1,e2⟩:=hno (Dq hb);subst e1;subst e2;exact hemp he),Own.top hown⟩ (List.Sublist.refl _) (cO 0 Z)
 refine rR 8 Z (mZ 0 Z ?_)
 refine qG 0 0 Z Z (ma (b:=b27) 0 Z ?_)
 refine sF 0 2 Z Z ?_
 have hn2:f 2=none:=Option.not_isSome_iff_eq_none.1 (by rw [←hq2s,h333];exact Bool.false_ne_true)
 have hgid:getV v kId=none:=by obtain⟨f9,⟨cs9,hm9⟩,hrel⟩:=(tO _ v b27).1 hUnf;exact GS hw hk5 hko (hr 2 aE aE) hn2
 exact zD Tryz.results103 Z ⟨b27,[(b27,cs,f)]++G,es1,ck1,rfl,rfl,rfl,hUnf,hok,(fun h=>hno (Dq ((noId_iff v).1 h).2)),(fun idv hid=>by rw [hgid]at hid;cases hid),Own.top hown⟩ (List.Sublist.refl _) (cO 0 Z)
end Go.Jw

namespace Go.Jw
open Go Go.RowKit Go.Proofs
set_option maxRecDepth 8000
def xt(ft:DA):Prop:=(∀ back x,x.kind=2∨(x.kind=6∧x.num.tmod 4≠0)→NumOk x→BC ft back 135 3 x)∧ ∀ back x,x.kind=2→NumOk x→BC ft back 137 4 x
noncomputable def iG:V→Prop:=V.fix (fun v f=> ∀ (j:Nat) k u,v.keys[j]? =some k→v.items[j]? =some u→cH k≠3∧cH k≠4∧ ∀ z∈cK (cH k) u,f z)
theorem pL(v:V):iG v↔ ∀ (j:Nat) k u,v.keys[j]? =some k→v.items[j]? =some u→cH k≠3∧cH k≠4∧ ∀ z∈cK (cH k) u,iG z:=by
 have:=V.fix_eq (G:=fun v f=> ∀ (j:Nat) k u,v.keys[j]? =some k→v.items[j]? =some u→cH k≠3∧cH k≠4∧ ∀ z∈cK (cH k) u,f z) (fun t g g' h=>by
  have: ∀ (j:Nat) k u,t.items[j]? =some u→((∀ z∈cK (cH k) u,g z)↔ ∀ z∈cK (cH k) u,g' z):=by
   intro j k u hu
   have hs: ∀ z∈cK (cH k) u,SizeOf.sizeOf z<SizeOf.sizeOf t:=fun z hz=>Nat.lt_of_le_of_lt (uW hz) (f7 hu)
   exact⟨fun a z hz=>by rw [←h z (hs z hz)];exact a z hz,fun a z hz=>by rw [h z (hs z hz)];exact a z hz⟩
  apply propext
  constructor
  ·intro h2 j k u hk hu;exact⟨(h2 j k u hk hu).1,(h2 j k u hk hu).2.1,(this j k u hu).1 (h2 j k u hk hu).2.2⟩
  ·intro h2 j k u hk hu;exact⟨(h2 j k u hk hu).1,(h2 j k u hk hu).2.1,(this j k u hu).2 (h2 j k u hk hu).2.2⟩) v
 show V.fix _ v↔_
 rw [this]
 rfl
theorem mi{back:Bool}{v:V}{p:ByteArray×V}(hp:p∈prs back v): ∃j:Nat,v.keys[j]? =some p.1∧v.items[j]? =some p.2:=by
 have hp':=(tV back v).mem_iff.1 hp
 obtain⟨j,hj,he⟩:=List.getElem_of_mem hp'
 simp only [List.length_zip]at hj
 rw [List.getElem_zip]at he
 subst he
 exact⟨j,List.getElem?_eq_getElem aC,List.getElem?_eq_getElem aC⟩
theorem Pl.frac{v:V}(h:Pl v)(hk:v.kind=6):v.num.tmod 4≠0:=by
 obtain⟨d,h⟩:=h
 obtain⟨q,m,s,ks,ts⟩:=v
 simp only [V.kind]at hk
 subst hk
 have:=(xG aE aE).1 h
 simp only [dJ]at this
 simp only [V.num]
 omega
theorem Mz{ft:DA}{back:Bool}{v:V}(hN:xt ft∨iG v)(hp:Pl v)(hs:IsShape v)(sub: ∀ p∈prs back v,∀ z∈cK (cH p.1) p.2,Pl z→ ∀ mb,gD ft mb back z): ∀ p∈prs back v,∀ F,uf (cR p.1)=F→F≠0→BC ft back F (dD (cR p.1)) p.2:=by
  intro p hpm F hF h0
  have hfit:=((wA v).1 hs).2
  obtain⟨j,hj1,hj2⟩:=mi hpm
  have hx:p.2∈v.items:=List.mem_of_getElem? hj2
  have hpl:=hp.item _ hx
  have hne:cR p.1≠0:=by intro h;rw [h]at hF;exact h0 hF.symm
  have hsh:=ky hne
  have hf:=(hfit j _ _ hj1 hj2).1
  have hsub:=sub p hpm
  have hnn:xt ft∨(cH p.1≠3∧cH p.1≠4):=hN.imp id fun h=>⟨((pL v).1 h j _ _ hj1 hj2).1,((pL v).1 h j _ _ hj1 hj2).2.1⟩
  rw [hsh]at hf hsub hnn
  have hw:=hpl.wf
  subst hF
  generalize hq:cR p.1=q at*
  have key: ∀ (F:FuncId) (sh:Int),uf q=F→dD q=sh→((F=134∧sh=1)∨(F=136∧sh=2)∨(F=135∧sh=3)∨(F=137∧sh=4)∨(F=138∧sh=6)∨(F=139∧sh=7)∨(F=140∧sh=8)∨(F=141∧sh=9)∨(F=142∧sh=10)∨(F=143∧sh=11)∨(F=144∧sh=12)∨(F=145∧sh=13)):=by
    intro F sh hF hS
    subst hF;subst hS
    unfold uf at h0⊢
    unfold dD
    split at h0<;>simp_all
  have hK:=key _ _ rfl rfl
  generalize uf q=F at*
  generalize dD q=sh at*
  have hil: ∀ y∈p.2.items,y.items.length≤1000000:=fun y hy=>(hw.item y hy).il
  rcases hK with ⟨rfl,rfl⟩|⟨rfl,rfl⟩|⟨rfl,rfl⟩|⟨rfl,rfl⟩|⟨rfl,rfl⟩|⟨rfl,rfl⟩|⟨rfl,rfl⟩|⟨rfl,rfl⟩|⟨rfl,rfl⟩|⟨rfl,rfl⟩|⟨rfl,rfl⟩|⟨rfl,rfl⟩
  · exact Rl (by simpa [cN]using hf)
  · exact Rm (by simpa [cN]using hf)
  · rcases hnn with h|h
    · have hf':p.2.kind=2∨p.2.kind=6:=by simpa [cN]using hf
      exact h.1 back _ (hf'.imp id fun h6=>⟨h6,hpl.frac h6⟩) hpl.num
    · exact absurd Z h.1
  · rcases hnn with h|h
    · have hf':p.2.kind=2∧0≤p.2.num:=by simpa [cN]using hf
      exact h.2 back _ hf'.1 hpl.num
    · exact absurd Z h.2
  · have hf':p.2.kind=1∨p.2.kind=5:=by simpa [cN]using hf
    rcases hf' with h|h
    · exact PY h
    · exact PZ h (hsub _ (by rw [z6 h];simp) hpl)
  · have hf':p.2.kind=5∨(p.2.kind=4∧ ∀ x∈p.2.items,x.kind=5):=by simpa [cN]using hf
    rcases hf' with h|⟨h,h5⟩
    · exact Pa h (hsub _ (by rw [Dp h];simp) hpl)
    · exact Pb h hw.il h5 (fun y hy=>hsub y (by rw [iV h h5];exact hy) (hpl.item y hy))
  · have hf':p.2.kind=4∧ ∀ x∈p.2.items,x.kind=3:=by simpa [cN]using hf
    exact Rn hf'.1 hw.il hf'.2
  · have hf':p.2.kind=5∧ ∀ x∈p.2.items,x.kind=5:=by simpa [cN]using hf
    exact Ro hf'.1 hw.kl hf'.2 (fun y hy=>hsub y bM (hpl.item y hy))
  · have hf':p.2.kind=5∧ ∀ x∈p.2.items,x.kind=4∧ ∀ y∈x.items,y.kind=3:=by simpa [cN]using hf
    exact PX hf'.1 hw.kl (fun y hy=>⟨(hf'.2 y hy).1,hil y hy,(hf'.2 y hy).2⟩)
  · have hf':p.2.kind=4∧ ∀ x∈p.2.items,x.kind=3∨x.kind=1:=by simpa [cN]using hf
    exact PW hf'.1 hw.il hf'.2
  · have hf':p.2.kind=3∨(p.2.kind=4∧ ∀ x∈p.2.items,x.kind=3):=by simpa [cN]using hf
    rcases hf' with h|⟨h,h3⟩
    · exact Mv h
    · exact Mw h hw.il h3
  · have hf':p.2.kind=4∧ ∀ x∈p.2.items,x.kind=5:=by simpa [cN]using hf
    exact Pd hf'.1 hw.il hf'.2 (fun y hy=>hsub y bL (hpl.item y hy))
theorem M3{ft:DA}{back:Bool}{v:V}(hp:Pl v)(sub: ∀ p∈prs back v,∀ z∈cK (cH p.1) p.2,Pl z→ ∀ mb,gD ft mb back z)(mb:Nat): ∀ p∈prs back v,cR p.1=31→gD ft mb back p.2:=by
 intro p hpm hkw
 have hsh:=ky (key:=p.1) (by rw [hkw];decide)
 rw [hkw]at hsh
 obtain⟨j,hj1,hj2⟩:=mi hpm
 exact sub p hpm p.2 (by rw [hsh];simp [cK,dD]) (hp.item _ (List.mem_of_getElem? hj2)) mb
theorem Pe(ft:DA)(back:Bool)(v:V):(xt ft∨iG v)→Pl v→IsShape v→ ∀ mb,gD ft mb back v:=by
 refine V.indS (p:=fun v=>(xt ft∨iG v)→Pl v→IsShape v→ ∀ mb,gD ft mb back v) (fun v IH hN hp hs mb=>?_) v
 have hk5:=hs.kind
 have hfit:=((wA v).1 hs).2
 have sub: ∀ p∈prs back v,∀ z∈cK (cH p.1) p.2,Pl z→ ∀ mb,gD ft mb back z:=by
  intro p hpm z hz hpz
  obtain⟨j,hj1,hj2⟩:=mi hpm
  refine IH z (Nat.lt_of_le_of_lt (uW hz) (f7 hj2)) ?_ hpz ((hfit j _ _ hj1 hj2).2.1 z hz)
  exact hN.imp id fun h=>((pL v).1 h j _ _ hj1 hj2).2.2 z hz
 exact My ft mb back v hp.wf hk5 (hp.keys hk5) (Mz hN hp hs sub) (M3 hp sub mb)
def Rr(v:V)(u:Value)(M':List HA)(D':List DA):Prop:= ∃b G mb es ck,u=ptr b∧M'=[.many 124 (Gr.blks G), .obj mb (.map es ck)]∧D'=[.graph mb G]∧Unf G v b∧MapOk es∧(∀ idv,getV v kId=some idv→ub v→es= #[{key:= .string idv.text,val:=ptr b,born:=0}])
def Pf(v:V)(u:Value)(M':List HA)(D':List DA):Prop:= ∃b G mb es ck,u=ptr b∧M'=[.many 124 (Gr.blks G), .obj mb (.map es ck)]∧D'=[.graph mb G]∧Unf G v b∧MapOk es∧(∀ idv,getV v kId=some idv→ub v→es= #[{key:= .string idv.text,val:=ptr b,born:=0}])∧Own G [b]
theorem Pg(ft:DA)(back:Bool)(v:V)(x:Value)(hN:xt ft∨iG v)(hp:Pl v)(hs:IsShape v):Ct Tryz.prog 57 #[x, .bool back] [] [.val x v, .tab,ft] (Pf v):=by
 refine Ct.of_run (args:=[x, .bool back]) Tryz.func57 aF Z Tryz.ntmps57 Z (fun c=>?_)
 refine yN 0 Z (fun A1 c1 A2 c2 hx hsz hk1 hk2 hi1 hi2=>?_)
 subst hx
 refine rO 3 Z (yK Z Z Z (fun b2=>?_))
 refine oO 6 Z (zK 0 Z cM Z Z ?_)
 refine oO 3 Z (yE Z Z Z (c104 v hp.wf hp.num back _) (dP 2 3 Z Z) (fun u7 D7 hv7=>?_))
 obtain⟨b7,rfl,rfl⟩:=hv7
 refine zA (xp Z (fun b8=>?_))
 refine zA (yG 0 Z Z Z (Pe ft back v hN hp hs b8 _ #[] 0 MapOk.empty) Z (dP 0 5 Z Z) (fun u9 M9 D9 hv9=>?_))
 obtain⟨b9,G9,es9,ck9,rfl,rfl,rfl,hU9,hO9,hN9,hI9⟩:=hv9
 refine oR 3 Z ?_
 exact zD Tryz.results57 Z ⟨b9,G9,b8,es9,ck9,rfl,rfl,rfl,hU9,hO9,fun idv h1 h2=>hI9.1 idv h1 h2 Z,hI9.2⟩ (by repeat (first|exact List.Sublist.refl _|apply List.Sublist.cons_cons|exact List.nil_sublist _)) (cO 0 Z)
theorem c57(ft:DA)(back:Bool)(v:V)(x:Value)(hN:xt ft∨iG v)(hp:Pl v)(hs:IsShape v):Ct Tryz.prog 57 #[x, .bool back] [] [.val x v, .tab,ft] (Rr v):=
 (Pg ft back v x hN hp hs).mono (by rintro u M' D' ⟨b,G,mb,es,ck,h1,h2,h3,h4,h5,h6,_⟩;exact⟨b,G,mb,es,ck,h1,h2,h3,h4,h5,h6⟩)
theorem Bi(s:ByteArray)(hs:s.size≤maxLen):CtR Tryz.prog 151 #[.string s] [] (RN (cU dT s)):=by
 refine Ct.of_run (args:=[.string s]) Tryz.func151 aF Z Tryz.ntmps151 Z (fun c=>?_)
 refine rO 10 Z (yV Z Z (rI ..) ?_)
 refine zA (yK Z Z Z (fun b5=>?_))
 refine oR 3 Z (pG ?_)
 exact uD 0 0 Z Z aG aE hs (zD Tryz.results151 Z ⟨rfl,b5,rfl,rfl⟩ nS (cO 0 Z))
theorem KB(x:Bool):CtR Tryz.prog 153 #[.bool x] [] (RN (cU eE (ua x))):=by
 refine Ct.of_run (args:=[.bool x]) Tryz.func153 aF Z Tryz.ntmps153 Z (fun c=>?_)
 refine rO 10 Z (zL Z Z Z (Mi _) cQ ?_)
 refine zA (yV Z Z (rI ..) ?_)
 refine zA (yK Z Z Z (fun b6=>?_))
 refine oR 3 Z (pG ?_)
 exact uD 0 0 Z Z aG aE (by cases x<;>decide) (zD Tryz.results153 Z ⟨rfl,b6,rfl,rfl⟩ nS (cO 0 Z))
theorem n7(A:Option Addr)(m cap nb:Nat)(xs:List Value)(s:ByteArray)(hs:s.size≤maxLen)(hm:m≤1000000):Ct Tryz.prog 150 #[.slice A m cap, .string s,ptr nb] [.row A m cap 102 1 xs] []
  (fun u M' D'=> ∃A' cap' b,u= .slice A' (m+2) cap'∧M'=[.row A' (m+2) cap' 102 1 (xs++[ptr b,ptr nb])]∧D'=[.node b (cU dT s)]):=by
 refine Ct.of_run (args:=[.slice A m cap, .string s,ptr nb]) Tryz.func150 aF Z Tryz.ntmps150 Z (fun c=>?_)
 refine rO 12 Z (yE Z Z Z (Bi s hs) cQ (fun u9 D9 hv9=>?_))
 obtain⟨b9,rfl,rfl⟩:=hv9
 refine zA (zM cn Z Z Z Z Z (fun b10=>?_))
 refine zA ?_
 refine cW 1 0 cn (fun A11 c11=>?_)
 refine oO 10 Z (zM cn Z Z Z Z Z (fun b14=>?_))
 refine zA ?_
 refine cW 2 0 cn (fun A15 c15=>?_)
 refine oK 3 [0] Z Z (rR 7 Z ?_)
 rw [List.append_assoc xs]
 exact zD Tryz.results150 Z ⟨_,_,b9,rfl,rfl,rfl⟩ al (cO 0 Z)
def dA(k:Int)(ys:List Y):Y:= .mk k ⟨#[]⟩ ⟨#[]⟩ ys
theorem KC(A:Option Addr)(m cap:Nat)(ys:List Y):CtR Tryz.prog 185 #[.slice A m cap] [.kids (.slice A m cap) ys] (RN (dA 2 ys)):=by
 refine Ct.of_run (args:=[.slice A m cap]) Tryz.func185 aF Z Tryz.ntmps185 Z (fun c=>?_)
 refine rO 10 Z (yV Z Z (oZ ..) ?_)
 refine zA (yK Z Z Z (fun b5=>?_))
 refine oR 3 Z (uD 0 0 Z Z aG aE aE ?_)
 exact zD Tryz.results185 Z ⟨rfl,b5,rfl,rfl⟩ nS (cO 0 Z)
theorem M4(A:Option Addr)(m cap:Nat)(ys:List Y):CtR Tryz.prog 186 #[.slice A m cap] [.kids (.slice A m cap) ys] (RN (dA 4 ys)):=by
 refine Ct.of_run (args:=[.slice A m cap]) Tryz.func186 aF Z Tryz.ntmps186 Z (fun c=>?_)
 refine rO 10 Z (yV Z Z (oZ ..) ?_)
 refine zA (yK Z Z Z (fun b5=>?_))
 refine oR 3 Z (uD 0 0 Z Z aG aE aE ?_)
 exact zD Tryz.results186 Z ⟨rfl,b5,rfl,rfl⟩ nS (cO 0 Z)
theorem M5(n:Int)(h0: -9223372036854775808≤n)(h1:n≤9223372036854775807):CtR Tryz.prog 161 #[.int .i64 n] [.tab] (RN (cU iS (dm n))):=by
 refine Ct.of_run (args:=[.int .i64 n]) Tryz.func161 aF Z Tryz.ntmps161 Z (fun c=>?_)
 refine rO 10 Z (zL Z Z Z (BS n h0 h1) (cO 0 Z) ?_)
 refine zA (yV Z Z (rI ..) ?_)
 refine zA (yK Z Z Z (fun b6=>?_))
 refine oR 3 Z (pG ?_)
 exact uD 0 0 Z Z aG aE (qx (vR n h0 h1) aE) (zD Tryz.results161 Z ⟨rfl,b6,rfl,rfl⟩ nS (cO 0 Z))
theorem KD(x:Value)(l:List ByteArray)(hl:l.length≤1000000):CtR Tryz.prog 156 #[x] [.strs x l] (RN (dA 2 (l.map (cU dT)))):=by
 refine Ct.of_run (args:=[x]) Tryz.func156 aF Z Tryz.ntmps156 Z (fun c=>?_)
 refine sV 0 Z (fun hsz=>?_)
 refine te 0 Z (fun A1 c1 hx hk1 hk2=>?_)
 subst hx
 unfold maxLen at hk2
 refine rO 8 Z (xW cn Z Z Z (fun b6=>?_))
 refine oO 9 Z (zX cV Z Z ?_)
 refine oK 4 [9,3,8,7] Z Z (yZ (.ptrs [] ((l.take 0).map (cU dT))) (fun w ok h=>rfl) ?_)
 refine yB 2 (fun(⟨i,A,ca,xs⟩:Nat×Option Addr×Nat×List Value)=>i≤l.length) (fun(⟨i,A,ca,xs⟩:Nat×Option Addr×Nat×List Value)=>[(9, .int .i64 ((i:Nat):Int)),(3, .slice A i ca)]) (fun(⟨i,A,ca,xs⟩:Nat×Option Addr×Nat×List Value)=>HA.row A i ca 102 1 xs::[]) (fun(⟨i,A,ca,xs⟩:Nat×Option Addr×Nat×List Value)=> .ptrs xs ((l.take i).map (cU dT)):: .strs (.slice A1 l.length c1) l::[]) (fun(⟨i,A,ca,xs⟩:Nat×Option Addr×Nat×List Value)=>l.length - i) (0,_,_,[]) bg (eC Z (eC Z (eN _))) Z Z ?_ (eC Z (eC Z (eN _)))
 intro ⟨i,A,ca,xs⟩ hI K hK
 replace hI:i≤l.length:=hI
 change Run _ _ _ _ _ [(9,_),(3,_),(8,_),(7,_)] [_] [_,_]
 refine rO 3 Z (yL Z Z Z ?_)
 refine oR 2 Z (zI Z (fun h10=>?_) (fun h10=>?_))
 ·refine rO 6 Z (xS 1 cV Z Z Z Z aC ?_)
  refine zA (yR dO Z Z (fun _ h=>xO h (j:=1) Z (List.getElem?_eq_getElem h10)) ?_)
  refine oO 9 Z (yE Z Z Z (Bi _ (hsz _ (List.getElem_mem h10))) cQ (fun u15 D15 hv15=>?_))
  obtain⟨b15,rfl,rfl⟩:=hv15
  refine zA (zM cn Z Z Z Z Z (fun b16=>?_))
  refine zA ?_
  refine cW 1 0 cn (fun A17 c17=>?_)
  refine oK 3 [3,9,8,7] Z Z (rO 3 Z ?_)
  refine zN Z Z aC (oR 3 Z ?_)
  refine vQ 1 0 Z Z ?_
  rw [tT]
  exact kQ (hK (i+1,_,_,_) bW a6) (eC Z (eC Z (eC Z (eC Z (eN _))))) (hD:=(cd 0 Z sQ))
 obtain rfl:i=l.length:=by omega
 rw [List.take_length]
 refine tH 0 0 _ Z Z aG (rO 6 Z ?_)
 refine yE Z Z Z (KC _ _ _ _) (cO 0 Z) (fun u20 D20 hv20=>?_)
 obtain⟨b20,rfl,rfl⟩:=hv20
 exact oR 3 Z (zD Tryz.results156 Z ⟨rfl,b20,rfl,rfl⟩ nS (cO 0 Z))
end Go.Jw

namespace Go.Jw
open Go Go.RowKit Go.Proofs
def DA.gr(mb:Nat)(G:Gr):DA:=⟨fun w ok=> ∀ g∈G,BlkP w ok g.1 g.2.1 124∧ ∃m,CellsP w ok m g.2.1 g.2.2,fun h1 h2 h g hg=>⟨(h g hg).1.mono h1 h2,(h g hg).2.imp fun m hm=>CellsP.mono h1 h2 hm⟩⟩
section rules
variable {P:Program} {n:Nat} {F:List Nat} {c:Ctx F} {ops:Array Oper} {d:Nat} {T:TypeId} {l:List Oper} {k:List KI} {Q:cu} {e:dF} {M:List HA} {D:List DA}
theorem vY{α:Type}(pr:α→Prop)(DD:α→List DA)(h: ∀ (w:World) (ok:Nat→Prop),(∀ d∈D,d.p w ok)→ ∃x,pr x∧ ∀ d∈DD x,d.p w ok)(next: ∀ x,pr x→Run P n c k Q e M (DD x++D)):Run P n c k Q e M D:=by
 intro a w hf
 obtain⟨x,hx,hd⟩:=h w _ hf.dat
 exact next x hx a w (hf.world (hf.toFitsW.data fun d hd'=>(List.mem_append.1 hd').elim (hd d) (hf.dat d)))
theorem fL{w:World}{ok:Nat→Prop}{d:DA}(h:d.p w ok): ∀ x∈[d],x.p w ok:=fun x hx=>by rw [List.mem_singleton.1 hx];exact h
theorem fB{w:World}{ok:Nat→Prop}{d:DA}{l:List DA}(h:d.p w ok)(hl: ∀ x∈l,x.p w ok): ∀ x∈d::l,x.p w ok:=fun x hx=>(List.mem_cons.1 hx).elim (fun e=>e▸h) (hl x)
theorem GT(j:Nat){u:Value}{s:ByteArray}(hj:D[j]? =some (.fv u (.tyS s)))(next: ∀ b p,u=ptr b→s.size≤maxLen→Run P n c k Q e M (.dblk b [.pointer (some p), .pointer none] 196:: .pts p (.string s)::D)):Run P n c k Q e M D:=
 vY (α:=Nat×Addr) (fun x=>u=ptr x.1∧s.size≤maxLen) (fun x=>[.dblk x.1 [.pointer (some x.2), .pointer none] 196, .pts x.2 (.string s)]) (fun w ok h=>by
  obtain⟨b,p,h1,h2,h3,h4⟩:FvP w ok (.tyS s) u:=dget h j hj
  exact⟨(b,p),⟨h1,h2⟩,fB h3 (fL h4)⟩) (fun x hx=>next x.1 x.2 hx.1 hx.2)
theorem GU(j:Nat){u:Value}{l:List ByteArray}(hj:D[j]? =some (.fv u (.tyL l)))(next: ∀ b p sl,u=ptr b→Run P n c k Q e M (.dblk b [.pointer none, .pointer (some p)] 196:: .pts p sl:: .strs sl l::D)):Run P n c k Q e M D:=
 vY (α:=Nat×Addr×Value) (fun x=>u=ptr x.1) (fun x=>[.dblk x.1 [.pointer none, .pointer (some x.2.1)] 196, .pts x.2.1 x.2.2, .strs x.2.2 l]) (fun w ok h=>by
  obtain⟨b,p,sl,h1,h3,h4,h5⟩:FvP w ok (.tyL l) u:=dget h j hj
  exact⟨(b,p,sl),h1,fB h3 (fB h4 (fL h5))⟩) (fun x hx=>next x.1 x.2.1 x.2.2 hx)
theorem KE(j:Nat){mb b:Nat}{cs:List Value}{f:Flds}{G:Gr}(hj:D[j]? =some (.gr mb G))(hg:(b,cs,f)∈G)(next: ∀ m:Nat,cs.length=37→Run P n c k Q e M (.dblk b cs 124:: .flds m cs f::D)):Run P n c k Q e M D:=
 vY (α:=Nat) (fun _=>cs.length=37) (fun m=>[.dblk b cs 124, .flds m cs f]) (fun w ok h=>by
  obtain⟨h1,m,h2⟩:=(dget h j hj:(DA.gr mb G).p w ok) _ hg
  exact⟨m,h2.1,fB h1 (fL h2)⟩) (fun m hl=>next m hl)
end rules
end Go.Jw

namespace Go.Jw
open Go Go.RowKit Go.Proofs
set_option maxRecDepth 8000
theorem n8:Tryz.prog.underlying 63=some (.pointer (Tryz.prog.pointee 63)):=by
 have h:=Tryz.underlying63
 unfold Program.pointee
 rw [h]
theorem iI:Tryz.prog.underlying 112=some (.pointer (Tryz.prog.pointee 112)):=by
 have h:=Tryz.underlying112
 unfold Program.pointee
 rw [h]
theorem om:Tryz.prog.underlying 113=some (.pointer (Tryz.prog.pointee 113)):=by
 have h:=Tryz.underlying113
 unfold Program.pointee
 rw [h]
theorem en:Tryz.prog.underlying 114=some (.pointer (Tryz.prog.pointee 114)):=by
 have h:=Tryz.underlying114
 unfold Program.pointee
 rw [h]
theorem z9:Tryz.prog.underlying 115=some (.pointer (Tryz.prog.pointee 115)):=by
 have h:=Tryz.underlying115
 unfold Program.pointee
 rw [h]
theorem Is:Tryz.prog.underlying 116=some (.pointer (Tryz.prog.pointee 116)):=by
 have h:=Tryz.underlying116
 unfold Program.pointee
 rw [h]
theorem AA:Tryz.prog.underlying 117=some (.pointer (Tryz.prog.pointee 117)):=by
 have h:=Tryz.underlying117
 unfold Program.pointee
 rw [h]
theorem oo:Tryz.prog.underlying 118=some (.pointer (Tryz.prog.pointee 118)):=by
 have h:=Tryz.underlying118
 unfold Program.pointee
 rw [h]
theorem It:Tryz.prog.underlying 119=some (.pointer (Tryz.prog.pointee 119)):=by
 have h:=Tryz.underlying119
 unfold Program.pointee
 rw [h]
theorem Iu:Tryz.prog.underlying 120=some (.pointer (Tryz.prog.pointee 120)):=by
 have h:=Tryz.underlying120
 unfold Program.pointee
 rw [h]
theorem Iv:Tryz.prog.underlying 121=some (.pointer (Tryz.prog.pointee 121)):=by
 have h:=Tryz.underlying121
 unfold Program.pointee
 rw [h]
theorem mj:Tryz.prog.underlying 122=some (.pointer (Tryz.prog.pointee 122)):=by
 have h:=Tryz.underlying122
 unfold Program.pointee
 rw [h]
theorem M6:Tryz.prog.underlying 211=some (.pointer (Tryz.prog.pointee 211)):=by
 have h:=Tryz.underlying211
 unfold Program.pointee
 rw [h]
theorem ui:Tryz.prog.underlying 102=some (.pointer (Tryz.prog.pointee 102)):=by
 have h:=Tryz.underlying102
 unfold Program.pointee
 rw [h]
theorem M7(u:Value)(s:ByteArray):CtR Tryz.prog 154 #[u] [.fv u (.tyS s)] (RN (cU dT s)):=by
 refine Ct.of_run (args:=[u]) Tryz.func154 aF Z Tryz.ntmps154 Z (fun c=>?_)
 refine GT 0 Z (fun b p hu hs=>?_)
 subst hu
 refine rO 12 Z (zC lg Z Z ?_)
 refine zA (zJ 0 db Z Z Z Z ?_)
 refine zA (xV d8 Z Z ?_)
 refine oO 9 Z (zC lg Z Z ?_)
 refine zA (zJ 0 db Z Z Z Z ?_)
 refine oO 3 Z (xU 1 dO Z Z Z ?_)
 refine zA (yE Z Z Z (Bi s hs) cQ (fun u14 D14 hv14=>?_))
 obtain⟨b14,rfl,rfl⟩:=hv14
 exact oK 3 [2] Z Z (zD Tryz.results154 Z ⟨rfl,b14,rfl,rfl⟩ nS (cO 0 Z))
theorem NA(u:Value)(l:List ByteArray)(hl:l.length≤1000000):CtR Tryz.prog 154 #[u] [.fv u (.tyL l)] (RN (dA 2 (l.map (cU dT)))):=by
 refine Ct.of_run (args:=[u]) Tryz.func154 aF Z Tryz.ntmps154 Z (fun c=>?_)
 refine GU 0 Z (fun b p sl hu=>?_)
 subst hu
 refine rO 12 Z (zC lg Z Z ?_)
 refine zA (zJ 0 db Z Z Z Z ?_)
 refine zA (xV d8 Z Z ?_)
 refine oO 9 Z (zC qm Z Z ?_)
 refine zA (zJ 0 mJ Z Z Z Z ?_)
 refine zA (xV AA Z Z ?_)
 refine oK 1 [19,0] Z Z (rO 8 Z ?_)
 refine zC qm Z Z (zA ?_)
 refine zJ 0 mJ Z Z Z Z (oO 3 Z ?_)
 refine xU 1 dV Z Z Z (zA ?_)
 refine yE Z Z Z (KD _ l hl) (cO 2 Z) (fun u26 D26 hv26=>?_)
 obtain⟨b26,rfl,rfl⟩:=hv26
 exact oK 3 [2] Z Z (zD Tryz.results154 Z ⟨rfl,b26,rfl,rfl⟩ nS (cO 0 Z))
end Go.Jw

namespace Go.Jw
open Go Go.RowKit Go.Proofs
section rules
variable {P:Program} {n:Nat} {F:List Nat} {c:Ctx F} {ops:Array Oper} {d:Nat} {T:TypeId} {l:List Oper} {k:List KI} {Q:cu} {e:dF} {M:List HA} {D:List DA}
theorem ml(j:Nat){u:Value}{s:ByteArray}(hj:D[j]? =some (.fv u (.text s)))(next: ∀ p,u= .pointer (some p)→s.size≤maxLen→Run P n c k Q e M (.pts p (.string s)::D)):Run P n c k Q e M D:=
 vY (α:=Addr) (fun p=>u= .pointer (some p)∧s.size≤maxLen) (fun p=>[.pts p (.string s)]) (fun w ok h=>by
  obtain⟨p,h1,h2,h3⟩:FvP w ok (.text s) u:=dget h j hj
  exact⟨p,⟨h1,h2⟩,fL h3⟩) (fun x hx=>next x hx.1 hx.2)
theorem Dr(j:Nat){u:Value}{x:Bool}(hj:D[j]? =some (.fv u (.bool x)))(next: ∀ p,u= .pointer (some p)→Run P n c k Q e M (.pts p (.bool x)::D)):Run P n c k Q e M D:=
 vY (α:=Addr) (fun p=>u= .pointer (some p)) (fun p=>[.pts p (.bool x)]) (fun w ok h=>by
  obtain⟨p,h1,h3⟩:FvP w ok (.bool x) u:=dget h j hj
  exact⟨p,h1,fL h3⟩) (fun x hx=>next x hx)
theorem GV(j:Nat){u:Value}{x:Int}(hj:D[j]? =some (.fv u (.int x)))(next: ∀ p,u= .pointer (some p)→Run P n c k Q e M (.pts p (.int .i64 x)::D)):Run P n c k Q e M D:=
 vY (α:=Addr) (fun p=>u= .pointer (some p)) (fun p=>[.pts p (.int .i64 x)]) (fun w ok h=>by
  obtain⟨p,h1,h3⟩:FvP w ok (.int x) u:=dget h j hj
  exact⟨p,h1,fL h3⟩) (fun x hx=>next x hx)
theorem GW(j:Nat){u:Value}{q:Nat}(hj:D[j]? =some (.fv u (.sbS q)))(next: ∀ b,u=ptr b→Run P n c k Q e M (.dblk b [ptr q, .pointer none] 185::D)):Run P n c k Q e M D:=
 vY (α:=Nat) (fun b=>u=ptr b) (fun b=>[.dblk b [ptr q, .pointer none] 185]) (fun w ok h=>by
  obtain⟨b,h1,h3⟩:FvP w ok (.sbS q) u:=dget h j hj
  exact⟨b,h1,fL h3⟩) (fun x hx=>next x hx)
theorem GX(j:Nat){u:Value}{q:Nat}(hj:D[j]? =some (.fv u (.itS q)))(next: ∀ b,u=ptr b→Run P n c k Q e M (.dblk b [ptr q, .pointer none] 187::D)):Run P n c k Q e M D:=
 vY (α:=Nat) (fun b=>u=ptr b) (fun b=>[.dblk b [ptr q, .pointer none] 187]) (fun w ok h=>by
  obtain⟨b,h1,h3⟩:FvP w ok (.itS q) u:=dget h j hj
  exact⟨b,h1,fL h3⟩) (fun x hx=>next x hx)
theorem GY(j:Nat){u:Value}{x:Bool}(hj:D[j]? =some (.fv u (.sbB x)))(next: ∀ b p,u=ptr b→Run P n c k Q e M (.dblk b [.pointer none, .pointer (some p)] 185:: .pts p (.bool x)::D)):Run P n c k Q e M D:=
 vY (α:=Nat×Addr) (fun y=>u=ptr y.1) (fun y=>[.dblk y.1 [.pointer none, .pointer (some y.2)] 185, .pts y.2 (.bool x)]) (fun w ok h=>by
  obtain⟨b,p,h1,h3,h4⟩:FvP w ok (.sbB x) u:=dget h j hj
  exact⟨(b,p),h1,fB h3 (fL h4)⟩) (fun x hx=>next x.1 x.2 hx)
theorem GZ(j:Nat){u:Value}{bs:List Nat}(hj:D[j]? =some (.fv u (.itL bs)))(next: ∀ b p sl,u=ptr b→Run P n c k Q e M (.dblk b [.pointer none, .pointer (some p)] 187:: .pts p sl:: .rowp sl bs::D)):Run P n c k Q e M D:=
 vY (α:=Nat×Addr×Value) (fun x=>u=ptr x.1) (fun x=>[.dblk x.1 [.pointer none, .pointer (some x.2.1)] 187, .pts x.2.1 x.2.2, .rowp x.2.2 bs]) (fun w ok h=>by
  obtain⟨b,p,sl,h1,h3,h4,h5⟩:FvP w ok (.itL bs) u:=dget h j hj
  exact⟨(b,p,sl),h1,fB h3 (fB h4 (fL h5))⟩) (fun x hx=>next x.1 x.2.1 x.2.2 hx)
theorem Ds(j:Nat){u:Value}{bs:List Nat}(hj:D[j]? =some (.fv u (.list bs)))(next: ∀ p sl,u= .pointer (some p)→Run P n c k Q e M (.pts p sl:: .rowp sl bs::D)):Run P n c k Q e M D:=
 vY (α:=Addr×Value) (fun x=>u= .pointer (some x.1)) (fun x=>[.pts x.1 x.2, .rowp x.2 bs]) (fun w ok h=>by
  obtain⟨p,sl,h1,h4,h5⟩:FvP w ok (.list bs) u:=dget h j hj
  exact⟨(p,sl),h1,fB h4 (fL h5)⟩) (fun x hx=>next x.1 x.2 hx)
theorem Bj(j:Nat){u:Value}{bs:List ByteArray}(hj:D[j]? =some (.fv u (.texts bs)))(next: ∀ p sl,u= .pointer (some p)→Run P n c k Q e M (.pts p sl:: .strs sl bs::D)):Run P n c k Q e M D:=
 vY (α:=Addr×Value) (fun x=>u= .pointer (some x.1)) (fun x=>[.pts x.1 x.2, .strs x.2 bs]) (fun w ok h=>by
  obtain⟨p,sl,h1,h4,h5⟩:FvP w ok (.texts bs) u:=dget h j hj
  exact⟨(p,sl),h1,fB h4 (fL h5)⟩) (fun x hx=>next x.1 x.2 hx)
theorem Bk(j:Nat){u:Value}{bs:List (ByteArray×Nat)}(hj:D[j]? =some (.fv u (.named bs)))(next: ∀ p sl nbs,u= .pointer (some p)→Run P n c k Q e M (.pts p sl:: .rowp sl nbs:: .nam nbs bs::D)):Run P n c k Q e M D:=
 vY (α:=Addr×Value×List Nat) (fun x=>u= .pointer (some x.1)) (fun x=>[.pts x.1 x.2.1, .rowp x.2.1 x.2.2, .nam x.2.2 bs]) (fun w ok h=>by
  obtain⟨p,sl,nbs,h1,h4,h5,h6,h7⟩:FvP w ok (.named bs) u:=dget h j hj
  exact⟨(p,sl,nbs),h1,fB h4 (fB h5 (fL ⟨h6,h7⟩))⟩) (fun x hx=>next x.1 x.2.1 x.2.2 hx)
theorem Dt(j:Nat){u:Value}{bs:List (ByteArray×List ByteArray)}(hj:D[j]? =some (.fv u (.deps bs)))(next: ∀ p sl nbs,u= .pointer (some p)→Run P n c k Q e M (.pts p sl:: .rowp sl nbs:: .dep nbs bs::D)):Run P n c k Q e M D:=
 vY (α:=Addr×Value×List Nat) (fun x=>u= .pointer (some x.1)) (fun x=>[.pts x.1 x.2.1, .rowp x.2.1 x.2.2, .dep x.2.2 bs]) (fun w ok h=>by
  obtain⟨p,sl,nbs,h1,h4,h5,h6,h7⟩:FvP w ok (.deps bs) u:=dget h j hj
  exact⟨(p,sl,nbs),h1,fB h4 (fB h5 (fL ⟨h6,h7⟩))⟩) (fun x hx=>next x.1 x.2.1 x.2.2 hx)
end rules
def Du:Nat→ByteArray
  |0=>⟨#[46,48,48,48,48,48,48]⟩
  |1=>⟨#[46,50,53,48,48,48,48]⟩
  |2=>⟨#[46,53,48,48,48,48,48]⟩
  |_=>⟨#[46,55,53,48,48,48,48]⟩
def dn(n:Int):ByteArray:=(if decide (n<0)then⟨#[45]⟩else⟨#[]⟩)++dm ((n.natAbs/4:Nat):Int)++Du (n.natAbs%4)
def ItemR(R:V→Y→Prop)(sh:Int)(x:V)(z:Y):Prop:=
 (sh=1∧z=cU dT x.text)∨(sh=2∧z=cU eE (ua (decide (x.num=1))))∨(sh=3∧x.kind=2∧z=cU iS (dm x.num))∨(sh=3∧x.kind=6∧z=cU dz (dn x.num))∨
 (sh=4∧z=cU iS (dm x.num))∨(sh=5∧R x z)∨(sh=6∧x.kind=1∧z=cU eE (ua (decide (x.num=1))))∨(sh=6∧x.kind=5∧R x z)∨
 (sh=7∧x.kind=5∧R x z)∨(sh=7∧x.kind=4∧ ∃zs,z=dA 2 zs∧All2 (fun z x=>R x z) zs x.items)∨(sh=8∧z=dA 2 ((x.items.map V.text).map (cU dT)))∨
 (sh=9∧ ∃(ps:List (ByteArray×V)) (L:List (ByteArray×Y)),z=dA 4 (L.flatMap eH)∧ps.Perm (x.keys.zip x.items)∧All2 (fun q p=>q.1=p.1∧R p.2 q.2) L ps)∨
 (sh=10∧ ∃ps:List (ByteArray×V),ps.Perm (x.keys.zip x.items)∧z=dA 4 ((ps.map fun p=>(p.1,dA 2 ((p.2.items.map V.text).map (cU dT)))).flatMap eH))∨
 (sh=11∧z=dA 2 ((x.items.map Dh).map Bb))∨(sh=12∧x.kind=3∧z=cU dT x.text)∨(sh=12∧x.kind=4∧z=dA 2 ((x.items.map V.text).map (cU dT)))∨
 (sh=13∧ ∃zs,z=dA 2 zs∧All2 (fun z x=>R x z) zs x.items)
theorem ItemR.mono{R R':V→Y→Prop}{sh:Int}{x:V}{z:Y}(h: ∀ x' z',SizeOf.sizeOf x'≤SizeOf.sizeOf x→R x' z'→R' x' z')(hi:ItemR R sh x z):ItemR R' sh x z:=by
 have hit: ∀ x' z',x'∈x.items→R x' z'→R' x' z':=fun x' z' hx=>h x' z' (Nat.le_of_lt (yU hx))
 unfold ItemR at hi⊢
 rcases hi with h1|h1|h1|h1|h1|h1|h1|h1|h1|h1|h1|h1|h1|h1|h1|h1|h1
 ·exact .inl h1
 ·exact .inr (.inl h1)
 ·exact .inr (.inr (.inl h1))
 ·exact .inr (.inr (.inr (.inl h1)))
 ·exact .inr (.inr (.inr (.inr (.inl h1))))
 ·exact .inr (.inr (.inr (.inr (.inr (.inl ⟨h1.1,h _ _ (Nat.le_refl _) h1.2⟩)))))
 ·exact .inr (.inr (.inr (.inr (.inr (.inr (.inl h1))))))
 ·exact .inr (.inr (.inr (.inr (.inr (.inr (.inr (.inl ⟨h1.1,h1.2.1,h _ _ (Nat.le_refl _) h1.2.2⟩)))))))
 ·exact .inr (.inr (.inr (.inr (.inr (.inr (.inr (.inr (.inl ⟨h1.1,h1.2.1,h _ _ (Nat.le_refl _) h1.2.2⟩))))))))
 ·obtain⟨a,b,zs,e,hz⟩:=h1
  exact .inr (.inr (.inr (.inr (.inr (.inr (.inr (.inr (.inr (.inl ⟨a,b,zs,e,hz.mono fun z x hx hr=>hit x z hx hr⟩)))))))))
 ·exact .inr (.inr (.inr (.inr (.inr (.inr (.inr (.inr (.inr (.inr (.inl h1))))))))))
 ·obtain⟨a,ps,L,e,hp,hz⟩:=h1
  exact .inr (.inr (.inr (.inr (.inr (.inr (.inr (.inr (.inr (.inr (.inr (.inl ⟨a,ps,L,e,hp,hz.mono fun q p hx hr=>⟨hr.1,hit p.2 q.2 (List.of_mem_zip (hp.mem_iff.1 hx)).2 hr.2⟩⟩)))))))))))
 ·exact .inr (.inr (.inr (.inr (.inr (.inr (.inr (.inr (.inr (.inr (.inr (.inr (.inl h1))))))))))))
 ·exact .inr (.inr (.inr (.inr (.inr (.inr (.inr (.inr (.inr (.inr (.inr (.inr (.inr (.inl h1)))))))))))))
 ·exact .inr (.inr (.inr (.inr (.inr (.inr (.inr (.inr (.inr (.inr (.inr (.inr (.inr (.inr (.inl h1))))))))))))))
 ·exact .inr (.inr (.inr (.inr (.inr (.inr (.inr (.inr (.inr (.inr (.inr (.inr (.inr (.inr (.inr (.inl h1)))))))))))))))
 ·obtain⟨a,zs,e,hz⟩:=h1
  exact .inr (.inr (.inr (.inr (.inr (.inr (.inr (.inr (.inr (.inr (.inr (.inr (.inr (.inr (.inr (.inr ⟨a,zs,e,hz.mono fun z x hx hr=>hit x z hx hr⟩)))))))))))))))
instance:Inhabited (Y→Prop):=⟨fun _=>True⟩
def OutB(r:V→Y→Prop)(v:V)(y:Y):Prop:= ∃L:List (ByteArray×Y),y=dA 4 (L.flatMap eH)∧(L.map fun p=>cR p.1).Nodup∧(∀ p∈L,cR p.1≠0∧cR p.1≠35∧ ∃x,getV v p.1=some x∧ItemR r (dD (cR p.1)) x p.2)∧
 ∀ key x,getV v key=some x→cR key≠0→cR key≠35→ ∃p∈L,p.1=key
theorem OutB.mono{r r':V→Y→Prop}{v:V}{y:Y}(h: ∀ x z,SizeOf.sizeOf x<SizeOf.sizeOf v→r x z→r' x z)(ho:OutB r v y):OutB r' v y:=by
 obtain⟨L,h1,h2,h3,h4⟩:=ho
 refine⟨L,h1,h2,fun p hp=>?_,h4⟩
 obtain⟨a,b,x,hx,hi⟩:=h3 p hp
 exact⟨a,b,x,hx,hi.mono fun x' z' hs=>h x' z' (Nat.lt_of_le_of_lt hs (yU (vX hx)))⟩
noncomputable def eA:V→Y→Prop:=V.fix (α:=Y→Prop) (fun v r y=>OutB r v y)
theorem uj(v:V)(y:Y):eA v y↔OutB eA v y:=by
 have:=V.fix_eq (α:=Y→Prop) (G:=fun v r y=>OutB r v y) (fun t g g' h=>by
  funext y
  apply propext
  exact⟨OutB.mono fun x z hx hr=>by rw [←h x hx];exact hr,OutB.mono fun x z hx hr=>by rw [h x hx];exact hr⟩) v
 show V.fix (α:=Y→Prop) _ v y↔_
 rw [this]
 rfl
def oA(ft:DA)(mb:Nat)(G:Gr)(v:V):Prop:= ∀ b,Unf G v b→CtR Tryz.prog 105 #[ptr b] [.gr mb G, .tab,ft] (fun u D'=> ∃y,eA v y∧RN y u D')
def Ga(ft:DA):Prop:= ∀ n:Int, -1000000000<n→n<1000000000→n.tmod 4≠0→CtR Tryz.prog 188 #[.float .f64 (kF n)] [ft] (RN (cU dz (dn n)))
def DA.ev(e:EV)(u v:Value):DA:=⟨fun w ok=>EvP w ok e u v,fun h1 h2 h=>EvP.mono h1 h2 h⟩
section rules
variable {P:Program} {n:Nat} {F:List Nat} {c:Ctx F} {ops:Array Oper} {d:Nat} {T:TypeId} {l:List Oper} {k:List KI} {Q:cu} {e:dF} {M:List HA} {D:List DA}
theorem mm(j:Nat){v:Value}{bs:List Nat}(hj:D[j]? =some (.rowp v bs))(next: ∀ A c',v= .slice A bs.length c'→bs.length≤c'→c'≤maxLen→Run P n c k Q e M D):Run P n c k Q e M D:=by
 intro a w hf
 obtain⟨A,c',h1,h2,h3,_⟩:RowPtrs w (c.now M w) v bs:=hf.toFitsW.dt hj
 exact next A c' h1 h2 h3 a w hf
theorem iW(j:Nat){x y:Operand}{A:Option Addr}{m cap i:Nat}{kd:IntKind}{S E sz by_:Nat}{bs:List Nat}(hS:cS P S E sz by_)(hd:Nat.blt d n=true)(hx:ev e x=some (.slice A m cap))(hy:ev e y=some (.int kd (i:Nat)))(hj:D[j]? =some (.rowp (.slice A m cap) bs))(hi:i<m)
  (next:cG P n c ops l k Q ((d, .pointer (some (At A (i*sz))))::e) M D):cL P n c ops (some d) (.indexAddr S x y) T l k Q e M D:=by
 intro a w hf
 obtain⟨A',c',hv,_,_,hit⟩:RowPtrs w (c.now M w) (.slice A m cap) bs:=hf.toFitsW.dt hj
 injection hv with hA hm
 subst hA
 subst hm
 obtain⟨a',ha,_⟩:=hit i bs[i] (List.getElem?_eq_getElem hi)
 subst ha
 exact xY (T:=T) hS hd hx hy hi next a w hf
theorem kL{w:World}(h:FitsW c M D w){j i b:Nat}{A:Option Addr}{m cap:Nat}{bs:List Nat}(hj:D[j]? =some (.rowp (.slice A m cap) bs))(hb:bs[i]? =some b):w.cell? (At A (i*1))=some (ptr b):=by
 obtain⟨A',c',hv,_,_,hit⟩:RowPtrs w (c.now M w) (.slice A m cap) bs:=h.dt hj
 injection hv with hA hm
 subst hA
 obtain⟨a,ha,_,hc⟩:=hit i b hb
 subst ha
 rw [Nat.mul_one]
 exact hc
theorem Gb(j i:Nat){nbs:List Nat}{l':List (ByteArray×Nat)}{q:ByteArray×Nat}{nb:Nat}(hj:D[j]? =some (.nam nbs l'))(hq:l'[i]? =some q)(hn:nbs[i]? =some nb)(next:q.1.size≤maxLen→cG P n c ops l k Q e M (.dblk nb [.string q.1,ptr q.2] 179::D)):cG P n c ops l k Q e M D:=
 Cj (fun w ok h=>((dget h j hj:(DA.nam nbs l').p w ok).2 i q nb hq hn).1) fun h1=>mY _ (fun w ok h=>((dget h j hj:(DA.nam nbs l').p w ok).2 i q nb hq hn).2) (next h1)
theorem xu(j:Nat){nbs:List Nat}{l':List (ByteArray×Nat)}(hj:D[j]? =some (.nam nbs l'))(next:nbs.length=l'.length→Run P n c k Q e M D):Run P n c k Q e M D:=
 qD (fun w ok h=>(dget h j hj:(DA.nam nbs l').p w ok).1) next
theorem xx(j:Nat){nbs:List Nat}{l':List (ByteArray×List ByteArray)}(hj:D[j]? =some (.dep nbs l'))(next:nbs.length=l'.length→Run P n c k Q e M D):Run P n c k Q e M D:=
 qD (fun w ok h=>(dget h j hj:(DA.dep nbs l').p w ok).1) next
theorem AB{α:Type}(pr:α→Prop)(DD:α→List DA)(h: ∀ (w:World) (ok:Nat→Prop),(∀ d∈D,d.p w ok)→ ∃x,pr x∧ ∀ d∈DD x,d.p w ok)(next: ∀ x,pr x→cG P n c ops l k Q e M (DD x++D)):cG P n c ops l k Q e M D:=by
 intro a w hf
 obtain⟨x,hx,hd⟩:=h w _ hf.dat
 exact next x hx a w (hf.world (hf.toFitsW.data fun d hd'=>(List.mem_append.1 hd').elim (hd d) (hf.dat d)))
theorem Gc(j i:Nat){nbs:List Nat}{l':List (ByteArray×List ByteArray)}{q:ByteArray×List ByteArray}{nb:Nat}(hj:D[j]? =some (.dep nbs l'))(hq:l'[i]? =some q)(hn:nbs[i]? =some nb)
  (next: ∀ tb p2 sl2,q.1.size≤maxLen→cG P n c ops l k Q e M (.dblk nb [.string q.1,ptr tb] 192:: .dblk tb [.pointer none, .pointer (some p2)] 194:: .pts p2 sl2:: .strs sl2 q.2::D)):cG P n c ops l k Q e M D:=
 AB (α:=Nat×Addr×Value) (fun _=>q.1.size≤maxLen) (fun x=>[.dblk nb [.string q.1,ptr x.1] 192, .dblk x.1 [.pointer none, .pointer (some x.2.1)] 194, .pts x.2.1 x.2.2, .strs x.2.2 q.2]) (fun w ok h=>by
  obtain⟨tb,p2,sl2,h1,h2,h3,h4,h5⟩:=(dget h j hj:(DA.dep nbs l').p w ok).2 i q nb hq hn
  exact⟨(tb,p2,sl2),h1,fB h2 (fB h3 (fB h4 (fL h5)))⟩) (fun x hx=>next x.1 x.2.1 x.2.2 hx)
theorem Dv(j:Nat){u:Value}{x:Int}(hj:D[j]? =some (.fv u (.numI x)))(next: ∀ b p,u=ptr b→Run P n c k Q e M (.dblk b [.pointer (some p), .pointer none] 213:: .pts p (.int .i64 x)::D)):Run P n c k Q e M D:=
 vY (α:=Nat×Addr) (fun y=>u=ptr y.1) (fun y=>[.dblk y.1 [.pointer (some y.2), .pointer none] 213, .pts y.2 (.int .i64 x)]) (fun w ok h=>by
  obtain⟨b,p,h1,h3,h4⟩:FvP w ok (.numI x) u:=dget h j hj
  exact⟨(b,p),h1,fB h3 (fL h4)⟩) (fun x hx=>next x.1 x.2 hx)
theorem Dw(j:Nat){u:Value}{x:Nat}(hj:D[j]? =some (.fv u (.numF x)))(next: ∀ b p,u=ptr b→Run P n c k Q e M (.dblk b [.pointer none, .pointer (some p)] 213:: .pts p (.float .f64 x)::D)):Run P n c k Q e M D:=
 vY (α:=Nat×Addr) (fun y=>u=ptr y.1) (fun y=>[.dblk y.1 [.pointer none, .pointer (some y.2)] 213, .pts y.2 (.float .f64 x)]) (fun w ok h=>by
  obtain⟨b,p,h1,h3,h4⟩:FvP w ok (.numF x) u:=dget h j hj
  exact⟨(b,p),h1,fB h3 (fL h4)⟩) (fun x hx=>next x.1 x.2 hx)
theorem Bl(j:Nat){u:Value}{es:List EV}(hj:D[j]? =some (.fv u (.enums es)))(next: ∀ p A c',u= .pointer (some p)→es.length≤c'→c'≤maxLen→Run P n c k Q e M (.pts p (.slice A es.length c'):: .evrow A c' es::D)):Run P n c k Q e M D:=
 vY (α:=Addr×Option Addr×Nat) (fun x=>u= .pointer (some x.1)∧es.length≤x.2.2∧x.2.2≤maxLen) (fun x=>[.pts x.1 (.slice x.2.1 es.length x.2.2), .evrow x.2.1 x.2.2 es]) (fun w ok h=>by
  obtain⟨p,A,c',h1,h2,h3,h4,h5⟩:FvP w ok (.enums es) u:=dget h j hj
  exact⟨(p,A,c'),⟨h1,h3,h4⟩,fB h2 (fL ⟨h3,h4,h5⟩)⟩) (fun x hx=>next x.1 x.2.1 x.2.2 hx.1 hx.2.1 hx.2.2)
theorem KF(j i:Nat){A:Option Addr}{c':Nat}{es:List EV}{x:EV}(hj:D[j]? =some (.evrow A c' es))(hi:es[i]? =some x)(next: ∀ q q',cG P n c ops l k Q e M (.cells A (i*2) [.pointer q, .pointer q']:: .ev x (.pointer q) (.pointer q')::D)):cG P n c ops l k Q e M D:=
  AB (α:=Option Addr×Option Addr) (fun _=>True) (fun y=>[.cells A (i*2) [.pointer y.1, .pointer y.2], .ev x (.pointer y.1) (.pointer y.2)]) (fun w ok h=>by
    obtain⟨a,u,u',h1,h2,h3,h4,h5⟩:=(dget h j hj:(DA.evrow A c' es).p w ok).2.2 i x hi
    have hq: ∃q q',u= .pointer q∧u'= .pointer q':=by
      cases x with
      |str s=>obtain⟨p,a,b,_⟩:=h5;exact⟨_,_,a,b⟩
      |bool s=>obtain⟨p,a,b,_⟩:=h5;exact⟨_,_,a,b⟩
    obtain⟨q,q',rfl,rfl⟩:=hq
    refine⟨(q,q'),trivial,fB ⟨a,h1,h2,fun j u hj=>?_⟩ (fL h5)⟩
    match j,hj with
    |0,hj=>cases hj;exact h3
    |1,hj=>cases hj;exact h4
    |j+2,hj=>simp at hj) (fun x _=>next x.1 x.2)
theorem Dx(j:Nat){x y:Operand}{A:Option Addr}{m cap c' i:Nat}{kd:IntKind}{S E sz by_:Nat}{es:List EV}(hS:cS P S E sz by_)(hd:Nat.blt d n=true)(hx:ev e x=some (.slice A m cap))(hy:ev e y=some (.int kd (i:Nat)))(hj:D[j]? =some (.evrow A c' es))(hi:i<m)(hm:m=es.length)
  (next:cG P n c ops l k Q ((d, .pointer (some (At A (i*sz))))::e) M D):cL P n c ops (some d) (.indexAddr S x y) T l k Q e M D:=by
 intro a w hf
 have hit:=(hf.toFitsW.dt hj:(DA.evrow A c' es).p w _).2.2
 subst hm
 obtain⟨a',_,_,ha,_⟩:=hit i es[i] (List.getElem?_eq_getElem hi)
 subst ha
 exact xY (T:=T) hS hd hx hy hi next a w hf
theorem Dy(j:Nat){x:Operand}{A:Option Addr}{o:Nat}{vs:List Value}(hT:fj P T vs.length)(hd:Nat.blt d n=true)(hx:ev e x=some (.pointer (some (At A o))))(hj:D[j]? =some (.cells A o vs))
  (next:cG P n c ops l k Q ((d, .agg vs.toArray)::e) M D) {T':TypeId}:cL P n c ops (some d) (.load T x) T' l k Q e M D:=
 iO hT hd hx (fun w h j u hj'=>by
  obtain⟨a,rfl,_,hc⟩:=h.dt hj
  have:=hc j u hj'
  simp only [At,Option.getD_some,add_add']
  exact this) next
theorem uE(i j q:Nat){xs:List Value}{L:List (ByteArray×Y)}{b nb:Nat}{key:ByteArray}{y:Y}(hi:D[i]? =some (.ptrs xs (L.flatMap eH)))(hj:D[j]? =some (.node b (cU dT key)))(hq:D[q]? =some (.node nb y))
  (next:Run P n c k Q e M (.ptrs (xs++[ptr b,ptr nb]) ((L++[(key,y)]).flatMap eH)::D)):Run P n c k Q e M D:=
 yZ (.ptrs (xs++[ptr b,ptr nb]) ((L++[(key,y)]).flatMap eH)) (fun w ok h=>by
  have h1:PtrsP w ok _ _:=PtrsP.snoc (dget h q hq) (PtrsP.snoc (dget h j hj) (dget h i hi))
  have e1:(L++[(key,y)]).flatMap eH=L.flatMap eH++[cU dT key]++[y]:=by simp [eH]
  rw [show(DA.ptrs (xs++[ptr b,ptr nb]) ((L++[(key,y)]).flatMap eH)).p w ok=PtrsP w ok (xs++[ptr b,ptr nb]) ((L++[(key,y)]).flatMap eH)from rfl,e1]
  simpa using h1) next
end rules
theorem KG:cS Tryz.prog 81 22 1 24:=⟨Tryz.t22,_,Tryz.underlying81,zR Tryz.typeInfo22,rfl,rfl,rfl,rfl,by decide⟩
theorem xy:Tryz.prog.info? 139=some Tryz.t139:=zR Tryz.typeInfo139
theorem Dz:cT Tryz.prog 139:=⟨_,Tryz.t139,Tryz.underlying139,aH,aI,xy,rfl⟩
theorem Iw: ∃i,Tryz.prog.info? 139=some i∧i.size=1:=⟨_,xy,rfl⟩
theorem NB:gz Tryz.prog 139 (match Tryz.t139.zero with|some z=>z.cells.toList|none=>[]):=⟨Tryz.t139,_,xy,rfl,rfl⟩
theorem uk:cS Tryz.prog 139 3 1 8:=⟨Tryz.t3,_,Tryz.underlying139,zR Tryz.typeInfo3,rfl,rfl,rfl,rfl,by decide⟩
theorem D0:Tryz.prog.info? 142=some Tryz.t142:=zR Tryz.typeInfo142
theorem ot:cT Tryz.prog 142:=⟨_,Tryz.t142,Tryz.underlying142,aH,aI,D0,rfl⟩
theorem ou: ∃i,Tryz.prog.info? 142=some i∧i.size=1:=⟨_,D0,rfl⟩
theorem dB:cS Tryz.prog 142 5 1 1:=⟨Tryz.t5,_,Tryz.underlying142,zR Tryz.typeInfo5,rfl,rfl,rfl,rfl,by decide⟩
theorem KH:Tryz.prog.info? 189=some Tryz.t189:=zR Tryz.typeInfo189
theorem NC:cT Tryz.prog 189:=⟨_,Tryz.t189,Tryz.underlying189,aH,aI,KH,rfl⟩
theorem KJ:Tryz.prog.info? 206=some Tryz.t206:=zR Tryz.typeInfo206
theorem ND:cT Tryz.prog 206:=⟨_,Tryz.t206,Tryz.underlying206,aH,aI,KJ,rfl⟩
theorem D3:Tryz.prog.info? 235=some Tryz.t235:=zR Tryz.typeInfo235
theorem lA:cT Tryz.prog 235:=⟨_,Tryz.t235,Tryz.underlying235,aH,aI,D3,rfl⟩
theorem ov: ∃i,Tryz.prog.info? 235=some i∧i.size=1:=⟨_,D3,rfl⟩
theorem KK:Tryz.prog.info? 246=some Tryz.t246:=zR Tryz.typeInfo246
theorem NE:gz Tryz.prog 246 (match Tryz.t246.zero with|some z=>z.cells.toList|none=>[]):=⟨Tryz.t246,_,KK,rfl,rfl⟩
theorem rj:cI Tryz.prog 274 0 0:=⟨_,_,Tryz.t9,0,Tryz.underlying274,rfl,rfl,zR Tryz.typeInfo9,rfl⟩
theorem xP:cI Tryz.prog 274 1 1:=⟨_,_,Tryz.t3,0,Tryz.underlying274,rfl,rfl,zR Tryz.typeInfo3,rfl⟩
theorem rG:cI Tryz.prog 274 2 2:=⟨_,_,Tryz.t4,0,Tryz.underlying274,rfl,rfl,zR Tryz.typeInfo4,rfl⟩
theorem KL:Tryz.prog.info? 275=some Tryz.t275:=zR Tryz.typeInfo275
theorem ow:cT Tryz.prog 275:=⟨_,Tryz.t275,Tryz.underlying275,aH,aI,KL,rfl⟩
theorem D5:Tryz.prog.info? 277=some Tryz.t277:=zR Tryz.typeInfo277
theorem iJ:cT Tryz.prog 277:=⟨_,Tryz.t277,Tryz.underlying277,aH,aI,D5,rfl⟩
theorem Ix: ∃i,Tryz.prog.info? 277=some i∧i.size=1:=⟨_,D5,rfl⟩
theorem eF:cS Tryz.prog 277 275 1 8:=⟨Tryz.t275,_,Tryz.underlying277,zR Tryz.typeInfo275,rfl,rfl,rfl,rfl,by decide⟩
theorem Gd:cI Tryz.prog 279 0 0:=⟨_,_,Tryz.t3,0,Tryz.underlying279,rfl,rfl,zR Tryz.typeInfo3,rfl⟩
theorem Ge:cI Tryz.prog 279 1 1:=⟨_,_,Tryz.t3,0,Tryz.underlying279,rfl,rfl,zR Tryz.typeInfo3,rfl⟩
theorem rk:cI Tryz.prog 279 3 3:=⟨_,_,Tryz.t4,0,Tryz.underlying279,rfl,rfl,zR Tryz.typeInfo4,rfl⟩
theorem fM:cI Tryz.prog 279 4 4:=⟨_,_,Tryz.t142,0,Tryz.underlying279,rfl,rfl,zR Tryz.typeInfo142,rfl⟩
theorem jk:cI Tryz.prog 279 5 5:=⟨_,_,Tryz.t142,0,Tryz.underlying279,rfl,rfl,zR Tryz.typeInfo142,rfl⟩
theorem tX:cI Tryz.prog 279 6 6:=⟨_,_,Tryz.t277,0,Tryz.underlying279,rfl,rfl,zR Tryz.typeInfo277,rfl⟩
theorem dc:cS Tryz.prog 281 4 1 1:=⟨Tryz.t4,_,Tryz.underlying281,zR Tryz.typeInfo4,rfl,rfl,rfl,rfl,by decide⟩
theorem Gf:cI Tryz.prog 305 0 0:=⟨_,_,Tryz.t206,0,Tryz.underlying305,rfl,rfl,zR Tryz.typeInfo206,rfl⟩
theorem KM:Tryz.prog.info? 349=some Tryz.t349:=zR Tryz.typeInfo349
theorem Iy:cT Tryz.prog 349:=⟨_,Tryz.t349,Tryz.underlying349,aH,aI,KM,rfl⟩
theorem Iz:cS Tryz.prog 349 214 1 8:=⟨Tryz.t214,_,Tryz.underlying349,zR Tryz.typeInfo214,rfl,rfl,rfl,rfl,by decide⟩
theorem Gg(s1:ByteArray):Tryz.prog.built 274 [(0, .string s1)]=some #[.string s1, .int .i64 0, .bool false]:=by kernel_rfl
theorem jl(m1:Int):Tryz.prog.built 279 [(0, .int .i64 m1)]=some #[.int .i64 m1, .int .i64 0, .bool false, .bool false, .slice none 0 0, .slice none 0 0, .slice none 0 0]:=by kernel_rfl
theorem ul(m1:Int)(m2:Int)(A3:Option Addr)(n3 c3:Nat):Tryz.prog.built 279 [(0, .int .i64 m1),(1, .int .i64 m2),(6, .slice A3 n3 c3)]=some #[.int .i64 m1, .int .i64 m2, .bool false, .bool false, .slice none 0 0, .slice none 0 0, .slice A3 n3 c3]:=by kernel_rfl
theorem oB(m1:Int)(b2:Bool)(A3:Option Addr)(n3 c3:Nat)(A4:Option Addr)(n4 c4:Nat):Tryz.prog.built 279 [(0, .int .i64 m1),(3, .bool b2),(4, .slice A3 n3 c3),(5, .slice A4 n4 c4)]=some #[.int .i64 m1, .int .i64 0, .bool false, .bool b2, .slice A3 n3 c3, .slice A4 n4 c4, .slice none 0 0]:=by kernel_rfl
theorem um(m1:Int)(A2:Option Addr)(n2 c2:Nat)(A3:Option Addr)(n3 c3:Nat):Tryz.prog.built 279 [(0, .int .i64 m1),(4, .slice A2 n2 c2),(5, .slice A3 n3 c3)]=some #[.int .i64 m1, .int .i64 0, .bool false, .bool false, .slice A2 n2 c2, .slice A3 n3 c3, .slice none 0 0]:=by kernel_rfl
theorem kM(m1:Int)(A2:Option Addr)(n2 c2:Nat):Tryz.prog.built 279 [(0, .int .i64 m1),(6, .slice A2 n2 c2)]=some #[.int .i64 m1, .int .i64 0, .bool false, .bool false, .slice none 0 0, .slice none 0 0, .slice A2 n2 c2]:=by kernel_rfl
end Go.Jw

namespace Go.Jw
open Go Go.RowKit Go.Proofs
set_option maxRecDepth 8000
theorem KN:zn Tryz.prog 152:=⟨_,Tryz.func152,by kernel_rfl,rfl⟩
theorem Ph(s:ByteArray)(hs:s.size≤maxLen):di Tryz.prog 152 #[.string s, .string ⟨#[35]⟩] [] (.string ⟨(Lib.trimSuffix s.data.toList [35]).toArray⟩):=
  gB KN fun w ok h=>(Tryz.strings_TrimSuffix s ⟨#[35]⟩ w (by unfold maxLen at hs;omega)).mono (by
    rintro e w' ⟨rfl,rfl⟩
    exact⟨rfl,Chg.refl _ _⟩)
theorem NF(u:Value)(x:Bool):CtR Tryz.prog 157 #[u] [.fv u (.sbB x)] (RN (cU eE (ua x))):=by
 refine Ct.of_run (args:=[u]) Tryz.func157 aF Z Tryz.ntmps157 Z (fun c=>?_)
 refine GY 0 Z (fun b p hu=>?_)
 subst hu
 refine rO 12 Z (zC lf Z Z ?_)
 refine zA (zJ 0 lN Z Z Z Z ?_)
 refine zA (xV n8 Z Z ?_)
 refine oO 9 Z (zC qh Z Z ?_)
 refine zA (zJ 0 ey Z Z Z Z ?_)
 refine zA (xV iI Z Z ?_)
 refine oK 1 [17,0] Z Z (rO 8 Z ?_)
 refine zC qh Z Z (zA ?_)
 refine zJ 0 ey Z Z Z Z (oO 3 Z ?_)
 refine xU 1 lX Z Z Z (zA ?_)
 refine yE Z Z Z (KB x) cQ (fun u24 D24 hv24=>?_)
 obtain⟨b24,rfl,rfl⟩:=hv24
 exact oK 3 [2] Z Z (zD Tryz.results157 Z ⟨rfl,b24,rfl,rfl⟩ nS (cO 0 Z))
theorem NG(ft:DA)(mb:Nat)(G:Gr)(u:Value)(q:Nat)(v:V)(hU:Unf G v q)(H:oA ft mb G v):CtR Tryz.prog 157 #[u] [.fv u (.sbS q), .gr mb G, .tab,ft] (fun u D'=> ∃y,eA v y∧RN y u D'):=by
 refine Ct.of_run (args:=[u]) Tryz.func157 aF Z Tryz.ntmps157 Z (fun c=>?_)
 refine GW 0 Z (fun b hu=>?_)
 subst hu
 refine rO 12 Z (zC lf Z Z ?_)
 refine zA (zJ 0 lN Z Z Z Z ?_)
 refine zA (xV n8 Z Z ?_)
 refine oO 9 Z (zC lf Z Z ?_)
 refine zA (zJ 0 lN Z Z Z Z ?_)
 refine zA (yE Z Z Z (H q hU) (cd 2 Z (dP 3 4 Z Z)) (fun u12 D12 hv12=>?_))
 obtain⟨y12,hy12,b12,rfl,rfl⟩:=hv12
 exact oK 3 [2] Z Z (zD Tryz.results157 Z ⟨rfl,y12,hy12,b12,rfl,rfl⟩ nS (cO 0 Z))
theorem NH(ft:DA)(mb:Nat)(G:Gr)(x:Value)(bs:List Nat)(xs:List V)(hl:xs.length≤400000)(hb:All2 (fun b z=>Unf G z b) bs xs)(H: ∀ z∈xs,oA ft mb G z):CtR Tryz.prog 163 #[x] [.rowp x bs, .gr mb G, .tab,ft] (fun u D'=> ∃zs,All2 (fun z x=>eA x z) zs xs∧RN (dA 2 zs) u D'):=by
 refine Ct.of_run (args:=[x]) Tryz.func163 aF Z Tryz.ntmps163 Z (fun c=>?_)
 refine mm 0 Z (fun A1 c1 hx hk1 hk2=>?_)
 subst hx
 unfold maxLen at hk2
 have hbl:=hb.1
 refine rO 8 Z (xW cn Z Z Z (fun b6=>?_))
 refine oO 9 Z (zX kk Z Z ?_)
 refine oK 4 [9,3,8,7] Z Z (pH ?_)
 refine yB 2 (fun(⟨i,A,ca,xs1,zs⟩:Nat×Option Addr×Nat×List Value×List Y)=>i≤bs.length∧All2 (fun z x=>eA x z) zs (xs.take i)) (fun(⟨i,A,ca,xs1,zs⟩:Nat×Option Addr×Nat×List Value×List Y)=>[(9, .int .i64 ((i:Nat):Int)),(3, .slice A i ca)]) (fun(⟨i,A,ca,xs1,zs⟩:Nat×Option Addr×Nat×List Value×List Y)=>HA.row A i ca 102 1 xs1::[]) (fun(⟨i,A,ca,xs1,zs⟩:Nat×Option Addr×Nat×List Value×List Y)=> .ptrs xs1 zs:: .rowp (.slice A1 bs.length c1) bs:: .gr mb G:: .tab::ft::[]) (fun(⟨i,A,ca,xs1,zs⟩:Nat×Option Addr×Nat×List Value×List Y)=>bs.length - i) (0,_,_,[],[]) (⟨by show 0≤_;omega,All2.nil _⟩) (eC Z (eC Z (eN _))) Z Z ?_ (eC Z (eC Z (eN _)))
 intro ⟨i,A,ca,xs1,zs⟩ hI K hK
 change Run _ _ _ _ _ [(9,_),(3,_),(8,_),(7,_)] [_] [_,_,_,_,_]
 obtain⟨hi,hall⟩:=hI
 refine rO 3 Z (yL Z Z Z ?_)
 refine oR 2 Z (zI Z (fun h10=>?_) (fun h10=>?_))
 ·refine rO 6 Z (iW 1 kk Z Z Z Z h10 ?_)
  have hlt:i<bs.length:=h10
  have hlx:i<xs.length:=by omega
  refine zA (yR lN Z Z (fun _ h=>kL h (j:=1) Z (List.getElem?_eq_getElem hlt)) ?_)
  refine oO 9 Z (yE Z Z Z (H _ (List.getElem_mem hlx) _ (hb.2 i _ _ (List.getElem?_eq_getElem hlt) (List.getElem?_eq_getElem hlx))) (cd 2 Z (dP 3 4 Z Z)) (fun u15 D15 hv15=>?_))
  obtain⟨y15,hy15,b15,rfl,rfl⟩:=hv15
  refine zA (zM cn Z Z Z Z Z (fun b16=>?_))
  refine zA ?_
  refine cW 1 0 cn (fun A17 c17=>?_)
  refine oK 3 [3,9,8,7] Z Z (rO 3 Z ?_)
  refine zN Z Z aC (oR 3 Z ?_)
  refine vQ 1 0 Z Z ?_
  exact kQ (hK (i+1,_,_,_,zs++[y15]) (⟨by show i+1≤_;omega,pK hlx hall hy15⟩) (by show bs.length - (i+1)<bs.length - i;omega)) (eC Z (eC Z (eC Z (eC Z (eN _))))) (hD:=(cd 0 Z sQ))
 obtain rfl:i=bs.length:=by omega
 rw [hb.1,List.take_length]at hall
 refine tH 0 0 _ Z Z aG (rO 6 Z ?_)
 refine yE Z Z Z (KC _ _ _ _) (cO 0 Z) (fun u20 D20 hv20=>?_)
 obtain⟨b20,rfl,rfl⟩:=hv20
 exact oR 3 Z (zD Tryz.results163 Z ⟨rfl,zs,hall,b20,rfl,rfl⟩ nS (cO 0 Z))
theorem NI(ft:DA)(mb:Nat)(G:Gr)(u:Value)(q:Nat)(v:V)(hU:Unf G v q)(H:oA ft mb G v):CtR Tryz.prog 155 #[u] [.fv u (.itS q), .gr mb G, .tab,ft] (fun u D'=> ∃y,eA v y∧RN y u D'):=by
 refine Ct.of_run (args:=[u]) Tryz.func155 aF Z Tryz.ntmps155 Z (fun c=>?_)
 refine GX 0 Z (fun b hu=>?_)
 subst hu
 refine rO 12 Z (zC qk Z Z ?_)
 refine zA (zJ 0 lN Z Z Z Z ?_)
 refine zA (xV n8 Z Z ?_)
 refine oO 9 Z (zC qk Z Z ?_)
 refine zA (zJ 0 lN Z Z Z Z ?_)
 refine zA (yE Z Z Z (H q hU) (cd 2 Z (dP 3 4 Z Z)) (fun u12 D12 hv12=>?_))
 obtain⟨y12,hy12,b12,rfl,rfl⟩:=hv12
 exact oK 3 [2] Z Z (zD Tryz.results155 Z ⟨rfl,y12,hy12,b12,rfl,rfl⟩ nS (cO 0 Z))
theorem NJ(ft:DA)(mb:Nat)(G:Gr)(u:Value)(bs:List Nat)(xs:List V)(hl:xs.length≤400000)(hb:All2 (fun b z=>Unf G z b) bs xs)(H: ∀ z∈xs,oA ft mb G z):CtR Tryz.prog 155 #[u] [.fv u (.itL bs), .gr mb G, .tab,ft] (fun u D'=> ∃zs,All2 (fun z x=>eA x z) zs xs∧RN (dA 2 zs) u D'):=by
 refine Ct.of_run (args:=[u]) Tryz.func155 aF Z Tryz.ntmps155 Z (fun c=>?_)
 refine GZ 0 Z (fun b p sl hu=>?_)
 subst hu
 refine rO 12 Z (zC qk Z Z ?_)
 refine zA (zJ 0 lN Z Z Z Z ?_)
 refine zA (xV n8 Z Z ?_)
 refine oO 9 Z (zC zv Z Z ?_)
 refine zA (zJ 0 i4 Z Z Z Z ?_)
 refine zA (xV mj Z Z ?_)
 refine oK 1 [17,0] Z Z (rO 8 Z ?_)
 refine zC zv Z Z (zA ?_)
 refine zJ 0 i4 Z Z Z Z (oO 3 Z ?_)
 refine xU 1 zw Z Z Z (zA ?_)
 refine yE Z Z Z (NH ft mb G sl bs xs hl hb H) (cd 2 Z (cd 4 Z (dP 5 6 Z Z))) (fun u24 D24 hv24=>?_)
 obtain⟨zs,hz,b24,rfl,rfl⟩:=hv24
 exact oK 3 [2] Z Z (zD Tryz.results155 Z ⟨rfl,zs,hz,b24,rfl,rfl⟩ nS (cO 0 Z))
theorem Pi(ft:DA)(mb:Nat)(G:Gr)(x:Value)(l:List (ByteArray×Nat))(ps:List (ByteArray×V))(hl:ps.length≤400000)(hb:All2 (Dn G) l ps)(H: ∀ p∈ps,oA ft mb G p.2):CtR Tryz.prog 158 #[x] [.fv x (.named l), .gr mb G, .tab,ft] (fun u D'=> ∃L:List (ByteArray×Y),All2 (fun q p=>q.1=p.1∧eA p.2 q.2) L ps∧RN (dA 4 (L.flatMap eH)) u D'):=by
 refine Ct.of_run (args:=[x]) Tryz.func158 aF Z Tryz.ntmps158 Z (fun c=>?_)
 refine Bk 0 Z (fun p sl nbs hx=>?_)
 subst hx
 refine mm 1 Z (fun A1 c1 hx hk1 hk2=>?_)
 subst hx
 refine xu 2 Z (fun hnl=>?_)
 unfold maxLen at hk2
 have hbl:=hb.1
 refine rO 8 Z (xW cn Z Z Z (fun b6=>?_))
 refine oO 11 Z (xU 0 Ia Z Z Z ?_)
 refine zA (zX tc Z Z ?_)
 refine oK 4 [11,3,10,9] Z Z (pH ?_)
 refine yB 2 (fun(⟨i,m,A,ca,xs1,L⟩:Nat×Nat×Option Addr×Nat×List Value×List (ByteArray×Y))=>i≤nbs.length∧m=2*i∧All2 (fun(q:ByteArray×Y) (p:ByteArray×V)=>q.1=p.1∧eA p.2 q.2) L (ps.take i)) (fun(⟨i,m,A,ca,xs1,L⟩:Nat×Nat×Option Addr×Nat×List Value×List (ByteArray×Y))=>[(11, .int .i64 ((i:Nat):Int)),(3, .slice A m ca)]) (fun(⟨i,m,A,ca,xs1,L⟩:Nat×Nat×Option Addr×Nat×List Value×List (ByteArray×Y))=>HA.row A m ca 102 1 xs1::[]) (fun(⟨i,m,A,ca,xs1,L⟩:Nat×Nat×Option Addr×Nat×List Value×List (ByteArray×Y))=> .ptrs xs1 (L.flatMap eH):: .pts p (.slice A1 nbs.length c1):: .rowp (.slice A1 nbs.length c1) nbs:: .nam nbs l:: .fv (.pointer (some p)) (.named l):: .gr mb G:: .tab::ft::[]) (fun(⟨i,m,A,ca,xs1,L⟩:Nat×Nat×Option Addr×Nat×List Value×List (ByteArray×Y))=>nbs.length - i) (0,0,_,_,[],[]) (⟨by show 0≤_;omega,rfl,All2.nil _⟩) (eC Z (eC Z (eN _))) Z Z ?_ (eC Z (eC Z (eN _)))
 intro ⟨i,m,A,ca,xs1,L⟩ hI K hK
 change Run _ _ _ _ _ [(11,_),(3,_),(10,_),(9,_)] [_] [_,_,_,_,_,_,_,_]
 obtain⟨hi,hm,hall⟩:=hI
 refine rO 3 Z (yL Z Z Z ?_)
 refine oR 2 Z (zI Z (fun h12=>?_) (fun h12=>?_))
 ·refine rO 6 Z (iW 2 tc Z Z Z Z h12 ?_)
  have hlt:i<nbs.length:=h12
  have hll:i<l.length:=by omega
  have hlx:i<ps.length:=by omega
  refine Gb 3 i Z (List.getElem?_eq_getElem hll) (List.getElem?_eq_getElem hlt) (fun hks=>?_)
  refine zA (yR MV Z Z (fun _ h=>kL h (j:=3) Z (List.getElem?_eq_getElem hlt)) ?_)
  refine oR 3 Z (yW yM ?_)
  refine zO (tP 0 Z cF (zP Z) ?_)
  refine tP 1 Z cF (zP Z) (tP 2 Z cF (yQ Z) ?_)
  refine tP 3 Z cF (zZ F7 Z) (tP 5 Z cF (zP Z) ?_)
  refine tP 6 Z cF (yQ Z) (tP 7 Z cF (zZ F8 Z) ?_)
  refine yF (tM 4 Z cF (tU 0 dO Z Z Z) ?_)
  refine tM 8 Z cF (tU 0 lN Z Z Z) (zS 9 aD ?_)
  refine zT (I2:=[[4],[3,2,1,0],[]]) Z cF aD (fun Kd hKd=>?_)
  refine yE Z Z Z (H _ (List.getElem_mem hlx) _ (hb.2 i _ _ (List.getElem?_eq_getElem hll) (List.getElem?_eq_getElem hlx)).2) (cd 6 Z (dP 7 8 Z Z)) (fun u24 D24 hv24=>?_)
  obtain⟨y24,hy24,b24,rfl,rfl⟩:=hv24
  refine hKd _ _ _ (hC (hC (zE (zU)))) (zS 10 aD ?_)
  refine zT (I2:=[[],[],[]]) Z cF aD (fun Kd hKd=>?_)
  refine yG 0 Z Z Z (n7 _ _ _ _ _ _ hks aC) Z cQ (fun u25 M25 D25 hv25=>?_)
  obtain⟨A25,c25,b25,rfl,rfl,rfl⟩:=hv25
  refine hKd _ _ _ (zE (zE (zE (zU)))) (zO ?_)
  refine tP 11 Z cF (yP Z) (yJ aD ?_)
  refine rK 0 [3,11,10,9] Z Z (rO 3 Z ?_)
  refine zN Z Z aC (oR 3 Z ?_)
  refine uE 3 0 1 Z Z Z ?_
  exact kQ (hK (i+1,_,_,_,_,L++[((l[i]'hll).1,y24)]) (⟨by show i+1≤_;omega,by show m+2=2*(i+1);omega,pK hlx hall ⟨(hb.2 i _ _ (List.getElem?_eq_getElem hll) (List.getElem?_eq_getElem hlx)).1,hy24⟩⟩) (by show nbs.length - (i+1)<nbs.length - i;omega)) (eC Z (eC Z (eC Z (eC Z (eN _))))) (hD:=(cd 0 Z sQ))
 obtain rfl:i=nbs.length:=by omega
 rw [hnl,hb.1,List.take_length]at hall
 refine tH 0 0 _ Z Z aG (rO 6 Z ?_)
 refine yE Z Z Z (M4 _ _ _ _) (cO 0 Z) (fun u28 D28 hv28=>?_)
 obtain⟨b28,rfl,rfl⟩:=hv28
 exact oR 3 Z (zD Tryz.results158 Z ⟨rfl,L,hall,b28,rfl,rfl⟩ nS (cO 0 Z))
theorem Pj(tb:Nat)(p2:Addr)(sl2:Value)(l:List ByteArray)(hl:l.length≤1000000):CtR Tryz.prog 187 #[ptr tb] [.dblk tb [.pointer none, .pointer (some p2)] 194, .pts p2 sl2, .strs sl2 l] (RN (dA 2 (l.map (cU dT)))):=by
 refine Ct.of_run (args:=[ptr tb]) Tryz.func187 aF Z Tryz.ntmps187 Z (fun c=>?_)
 refine rO 12 Z (zC GB Z Z ?_)
 refine zA (zJ 0 lN Z Z Z Z ?_)
 refine zA (xV n8 Z Z ?_)
 refine oO 9 Z (zC ql Z Z ?_)
 refine zA (zJ 0 mJ Z Z Z Z ?_)
 refine zA (xV AA Z Z ?_)
 refine oK 1 [17,0] Z Z (rO 8 Z ?_)
 refine zC ql Z Z (zA ?_)
 refine zJ 0 mJ Z Z Z Z (oO 3 Z ?_)
 refine xU 1 dV Z Z Z (zA ?_)
 refine yE Z Z Z (KD _ l hl) (cO 2 Z) (fun u24 D24 hv24=>?_)
 obtain⟨b24,rfl,rfl⟩:=hv24
 exact oK 3 [2] Z Z (zD Tryz.results187 Z ⟨rfl,b24,rfl,rfl⟩ nS (cO 0 Z))
theorem Pk(x:Value)(l:List (ByteArray×List ByteArray))(hl:l.length≤400000)(hls: ∀ q∈l,q.2.length≤1000000):CtR Tryz.prog 159 #[x] [.fv x (.deps l)] (RN (dA 4 ((l.map (fun q=>(q.1,dA 2 (q.2.map (cU dT))))).flatMap eH))):=by
 refine Ct.of_run (args:=[x]) Tryz.func159 aF Z Tryz.ntmps159 Z (fun c=>?_)
 refine Dt 0 Z (fun p sl nbs hx=>?_)
 subst hx
 refine mm 1 Z (fun A1 c1 hx hk1 hk2=>?_)
 subst hx
 refine xx 2 Z (fun hnl=>?_)
 unfold maxLen at hk2
 refine rO 8 Z (xW cn Z Z Z (fun b6=>?_))
 refine oO 11 Z (xU 0 Ih Z Z Z ?_)
 refine zA (zX td Z Z ?_)
 refine oK 4 [11,3,10,9] Z Z (pH ?_)
 refine yB 2 (fun(⟨i,m,A,ca,xs1⟩:Nat×Nat×Option Addr×Nat×List Value)=>i≤nbs.length∧m=2*i) (fun(⟨i,m,A,ca,xs1⟩:Nat×Nat×Option Addr×Nat×List Value)=>[(11, .int .i64 ((i:Nat):Int)),(3, .slice A m ca)]) (fun(⟨i,m,A,ca,xs1⟩:Nat×Nat×Option Addr×Nat×List Value)=>HA.row A m ca 102 1 xs1::[]) (fun(⟨i,m,A,ca,xs1⟩:Nat×Nat×Option Addr×Nat×List Value)=> .ptrs xs1 (((l.take i).map (fun q=>(q.1,dA 2 (q.2.map (cU dT))))).flatMap eH):: .pts p (.slice A1 nbs.length c1):: .rowp (.slice A1 nbs.length c1) nbs:: .dep nbs l:: .fv (.pointer (some p)) (.deps l)::[]) (fun(⟨i,m,A,ca,xs1⟩:Nat×Nat×Option Addr×Nat×List Value)=>nbs.length - i) (0,0,_,_,[]) (⟨by show 0≤_;omega,rfl⟩) (eC Z (eC Z (eN _))) Z Z ?_ (eC Z (eC Z (eN _)))
 intro ⟨i,m,A,ca,xs1⟩ hI K hK
 change Run _ _ _ _ _ [(11,_),(3,_),(10,_),(9,_)] [_] [_,_,_,_,_]
 obtain⟨hi,hm⟩:=hI
 refine rO 3 Z (yL Z Z Z ?_)
 refine oR 2 Z (zI Z (fun h12=>?_) (fun h12=>?_))
 ·refine rO 6 Z (iW 2 td Z Z Z Z h12 ?_)
  have hlt:i<nbs.length:=h12
  have hll:i<l.length:=by omega
  refine Gc 3 i Z (List.getElem?_eq_getElem hll) (List.getElem?_eq_getElem hlt) (fun tb p2 sl2 hks=>?_)
  refine zA (yR NC Z Z (fun _ h=>kL h (j:=6) Z (List.getElem?_eq_getElem hlt)) ?_)
  refine oR 3 Z (yW yM ?_)
  refine zO (tP 0 Z cF (zP Z) ?_)
  refine tP 1 Z cF (zP Z) (tP 2 Z cF (yQ Z) ?_)
  refine tP 3 Z cF (zZ F9 Z) (tP 5 Z cF (zP Z) ?_)
  refine tP 6 Z cF (yQ Z) (tP 7 Z cF (zZ GA Z) ?_)
  refine yF (tM 4 Z cF (tU 0 dO Z Z Z) ?_)
  refine tM 8 Z cF (tU 0 MW Z Z Z) (zS 9 aD ?_)
  refine zT (I2:=[[4],[3,2,1,0],[]]) Z cF aD (fun Kd hKd=>?_)
  refine yE Z Z Z (Pj _ _ _ _ (hls _ (List.getElem_mem hll))) (cd 1 Z (dP 2 3 Z Z)) (fun u24 D24 hv24=>?_)
  obtain⟨b24,rfl,rfl⟩:=hv24
  refine hKd _ _ _ (hC (hC (zE (zU)))) (zS 10 aD ?_)
  refine zT (I2:=[[],[],[]]) Z cF aD (fun Kd hKd=>?_)
  refine yG 0 Z Z Z (n7 _ _ _ _ _ _ hks aC) Z cQ (fun u25 M25 D25 hv25=>?_)
  obtain⟨A25,c25,b25,rfl,rfl,rfl⟩:=hv25
  refine hKd _ _ _ (zE (zE (zE (zU)))) (zO ?_)
  refine tP 11 Z cF (yP Z) (yJ aD ?_)
  refine rK 0 [3,11,10,9] Z Z (rO 3 Z ?_)
  refine zN Z Z aC (oR 3 Z ?_)
  refine uE 6 0 1 Z Z Z ?_
  rw [tT (f:=fun q:ByteArray×List ByteArray=>(q.1,dA 2 (q.2.map (cU dT)))) hll]
  exact kQ (hK (i+1,_,_,_,_) (⟨by show i+1≤_;omega,by show m+2=2*(i+1);omega⟩) (by show nbs.length - (i+1)<nbs.length - i;omega)) (eC Z (eC Z (eC Z (eC Z (eN _))))) (hD:=(cd 0 Z sQ))
 obtain rfl:i=nbs.length:=by omega
 rw [hnl,List.take_length]
 refine tH 0 0 _ Z Z aG (rO 6 Z ?_)
 refine yE Z Z Z (M4 _ _ _ _) (cO 0 Z) (fun u28 D28 hv28=>?_)
 obtain⟨b28,rfl,rfl⟩:=hv28
 exact oR 3 Z (zD Tryz.results159 Z ⟨rfl,b28,rfl,rfl⟩ nS (cO 0 Z))
theorem NK(u:Value)(n:Int)(h0: -9223372036854775808≤n)(h1:n≤9223372036854775807):CtR Tryz.prog 160 #[u] [.fv u (.numI n), .tab] (RN (cU iS (dm n))):=by
 refine Ct.of_run (args:=[u]) Tryz.func160 aF Z Tryz.ntmps160 Z (fun c=>?_)
 refine Dv 0 Z (fun b p hu=>?_)
 subst hu
 refine rO 12 Z (zC lh Z Z ?_)
 refine zA (zJ 0 eW Z Z Z Z ?_)
 refine zA (xV en Z Z ?_)
 refine oO 9 Z (zC lh Z Z ?_)
 refine zA (zJ 0 eW Z Z Z Z ?_)
 refine oO 3 Z (xU 1 dx Z Z Z ?_)
 refine zA (yE Z Z Z (M5 n h0 h1) (cO 3 Z) (fun u14 D14 hv14=>?_))
 obtain⟨b14,rfl,rfl⟩:=hv14
 exact oK 3 [2] Z Z (zD Tryz.results160 Z ⟨rfl,b14,rfl,rfl⟩ nS (cO 0 Z))
theorem NL(ft:DA)(u:Value)(f:Nat)(y:Y)(H:CtR Tryz.prog 188 #[.float .f64 f] [ft] (RN y)):CtR Tryz.prog 160 #[u] [.fv u (.numF f),ft] (RN y):=by
 refine Ct.of_run (args:=[u]) Tryz.func160 aF Z Tryz.ntmps160 Z (fun c=>?_)
 refine Dw 0 Z (fun b p hu=>?_)
 subst hu
 refine rO 12 Z (zC lh Z Z ?_)
 refine zA (zJ 0 eW Z Z Z Z ?_)
 refine zA (xV en Z Z ?_)
 refine oO 9 Z (zC qn Z Z ?_)
 refine zA (zJ 0 Ij Z Z Z Z ?_)
 refine zA (xV M6 Z Z ?_)
 refine oK 1 [19,0] Z Z (rO 8 Z ?_)
 refine zC qn Z Z (zA ?_)
 refine zJ 0 Ij Z Z Z Z (oO 3 Z ?_)
 refine xU 1 DJ Z Z Z (zA ?_)
 refine yE Z Z Z (H) (cO 3 Z) (fun u26 D26 hv26=>?_)
 obtain⟨b26,rfl,rfl⟩:=hv26
 exact oK 3 [2] Z Z (zD Tryz.results160 Z ⟨rfl,b26,rfl,rfl⟩ nS (cO 0 Z))
theorem NM(b:Nat)(p:Addr)(s:ByteArray)(hs:s.size≤maxLen):Ct Tryz.prog 189 #[ptr b] [.blk b [.pointer (some p), .pointer none] 223] [.pts p (.string s)] (fun u M' D'=>M'=[]∧RN (cU dT s) u D'):=by
 refine Ct.of_run (args:=[ptr b]) Tryz.func189 aF Z Tryz.ntmps189 Z (fun c=>?_)
 refine rO 12 Z (zC qo Z Z ?_)
 refine zA (zF 0 db Z Z Z Z ?_)
 refine zA (xV d8 Z Z ?_)
 refine oO 9 Z (zC qo Z Z ?_)
 refine zA (zF 0 db Z Z Z Z ?_)
 refine oO 3 Z (xU 0 dO Z Z Z ?_)
 refine zA (yE Z Z Z (Bi s hs) cQ (fun u14 D14 hv14=>?_))
 obtain⟨b14,rfl,rfl⟩:=hv14
 exact oK 3 [2] Z Z (zD Tryz.results189 Z ⟨rfl,b14,rfl,rfl⟩ nS (cO 0 Z))
theorem I0(b:Nat)(p:Addr)(s:Bool):Ct Tryz.prog 189 #[ptr b] [.blk b [.pointer none, .pointer (some p)] 223] [.pts p (.bool s)] (fun u M' D'=>M'=[]∧RN (cU eE (ua s)) u D'):=by
 refine Ct.of_run (args:=[ptr b]) Tryz.func189 aF Z Tryz.ntmps189 Z (fun c=>?_)
 refine rO 12 Z (zC qo Z Z ?_)
 refine zA (zF 0 db Z Z Z Z ?_)
 refine zA (xV d8 Z Z ?_)
 refine oO 9 Z (zC zy Z Z ?_)
 refine zA (zF 0 ey Z Z Z Z ?_)
 refine zA (xV iI Z Z ?_)
 refine oK 1 [19,0] Z Z (rO 8 Z ?_)
 refine zC zy Z Z (zA ?_)
 refine zF 0 ey Z Z Z Z (oO 3 Z ?_)
 refine xU 0 lX Z Z Z (zA ?_)
 refine yE Z Z Z (KB s) cQ (fun u26 D26 hv26=>?_)
 obtain⟨b26,rfl,rfl⟩:=hv26
 exact oK 3 [2] Z Z (zD Tryz.results189 Z ⟨rfl,b26,rfl,rfl⟩ nS (cO 0 Z))
theorem Pm(b:Nat)(x:EV)(q q':Option Addr):Ct Tryz.prog 189 #[ptr b] [.blk b [.pointer q, .pointer q'] 223] [.ev x (.pointer q) (.pointer q')] (fun u M' D'=>M'=[]∧RN (Bb x) u D'):=by
  refine⟨(I0 b ⟨0,0,none⟩ true).1,fun w ok hok hM hn hD=>?_⟩
  have h:=hD _ List.mem_cons_self
  cases x with
  |str s=>
    obtain⟨p,h1,h2,h3,h4⟩:EvP w ok (.str s) (.pointer q) (.pointer q'):=h
    cases h1;cases h2
    exact(NM b p s h3).2 w ok hok hM hn (fun d hd=>by rw [List.mem_singleton.1 hd];exact h4)
  |bool s=>
    obtain⟨p,h1,h2,h4⟩:EvP w ok (.bool s) (.pointer q) (.pointer q'):=h
    cases h1;cases h2
    exact(I0 b p s).2 w ok hok hM hn (fun d hd=>by rw [List.mem_singleton.1 hd];exact h4)
theorem Pn(x:Value)(l:List EV)(hl:l.length≤400000):CtR Tryz.prog 162 #[x] [.fv x (.enums l)] (RN (dA 2 (l.map Bb))):=by
 refine Ct.of_run (args:=[x]) Tryz.func162 aF Z Tryz.ntmps162 Z (fun c=>?_)
 refine Bl 0 Z (fun p A1 c1 hx hk1 hk2=>?_)
 subst hx
 unfold maxLen at hk2
 refine rO 8 Z (xW cn Z Z Z (fun b6=>?_))
 refine oO 11 Z (xU 0 DK Z Z Z ?_)
 refine zA (zX mL Z Z ?_)
 refine oK 4 [11,3,10,9] Z Z (yZ (.ptrs [] ((l.take 0).map Bb)) (fun w ok h=>rfl) ?_)
 refine yB 2 (fun(⟨i,A,ca,xs1⟩:Nat×Option Addr×Nat×List Value)=>i≤l.length) (fun(⟨i,A,ca,xs1⟩:Nat×Option Addr×Nat×List Value)=>[(11, .int .i64 ((i:Nat):Int)),(3, .slice A i ca)]) (fun(⟨i,A,ca,xs1⟩:Nat×Option Addr×Nat×List Value)=>HA.row A i ca 102 1 xs1::[]) (fun(⟨i,A,ca,xs1⟩:Nat×Option Addr×Nat×List Value)=> .ptrs xs1 ((l.take i).map Bb):: .pts p (.slice A1 l.length c1):: .evrow A1 c1 l:: .fv (.pointer (some p)) (.enums l)::[]) (fun(⟨i,A,ca,xs1⟩:Nat×Option Addr×Nat×List Value)=>l.length - i) (0,_,_,[]) bg (eC Z (eC Z (eN _))) Z Z ?_ (eC Z (eC Z (eN _)))
 intro ⟨i,A,ca,xs1⟩ hI K hK
 replace hI:i≤l.length:=hI
 change Run _ _ _ _ _ [(11,_),(3,_),(10,_),(9,_)] [_] [_,_,_,_]
 refine rO 3 Z (yL Z Z Z ?_)
 refine oR 2 Z (zI Z (fun h12=>?_) (fun h12=>?_))
 ·refine rO 6 Z (Dx 2 mL Z Z Z Z h12 Z ?_)
  have hlt:i<l.length:=h12
  refine KF 2 i Z (List.getElem?_eq_getElem hlt) (fun q1 q2=>?_)
  refine zA (Dy 0 Mc Z Z Z ?_)
  refine zA (yA Me Z (fun b5=>?_))
  change cG _ _ _ _ _ _ _ _ (HA.blk _ [_,_] _::_) _
  refine zA (zG 0 (M':=[HA.blk _ [_,_] _,_]) Z Z Z Z Md Z Z Z ?_)
  refine oO 5 Z (yG 0 Z Z Z (Pm _ _ _ _) Z (cO 1 Z) (fun u16 M16 D16 hv16=>?_))
  obtain⟨rfl,b16,rfl,rfl⟩:=hv16
  refine zA (zM cn Z Z Z Z Z (fun b17=>?_))
  refine zA ?_
  refine cW 1 0 cn (fun A18 c18=>?_)
  refine oO 6 Z (zN Z Z aC ?_)
  refine oK 3 [11,3,10,9] Z Z (vQ 3 0 Z Z ?_)
  rw [tT]
  exact kQ (hK (i+1,_,_,_) bW a6) (eC Z (eC Z (eC Z (eC Z (eN _))))) (hD:=(cd 0 Z sQ))
 obtain rfl:i=l.length:=by omega
 rw [List.take_length]
 refine tH 0 0 _ Z Z aG (rO 6 Z ?_)
 refine yE Z Z Z (KC _ _ _ _) (cO 0 Z) (fun u21 D21 hv21=>?_)
 obtain⟨b21,rfl,rfl⟩:=hv21
 exact oR 3 Z (zD Tryz.results162 Z ⟨rfl,b21,rfl,rfl⟩ nS (cO 0 Z))
structure WI(v:V)(f:Flds)(qs:List Nat)(L:List (ByteArray×Y)):Prop where
 nd:(L.map fun p=>cR p.1).Nodup
 mem: ∀ p∈L,cR p.1∈qs∧cR p.1≠0∧cR p.1≠35∧ ∃x,getV v p.1=some x∧ItemR eA (dD (cR p.1)) x p.2
 all: ∀ q∈qs,f q≠none→ ∃p∈L,cR p.1=q
 len:L.length≤qs.length
theorem WI.nil(v:V)(f:Flds):WI v f [] []:=⟨by simp,by simp,by simp,by simp⟩
theorem WI.skip{v:V}{f:Flds}{qs:List Nat}{L:List (ByteArray×Y)}{q:Nat}(h:WI v f qs L)(hq:f q=none):WI v f (q::qs) L:=
 ⟨h.nd,fun p hp=>⟨List.mem_cons_of_mem _ (h.mem p hp).1,(h.mem p hp).2⟩,fun r hr hn=>(List.mem_cons.1 hr).elim (fun e=>absurd (e▸hq) hn) (fun hr=>h.all r hr hn),Nat.le_succ_of_le h.len⟩
theorem WI.add{v:V}{f:Flds}{qs:List Nat}{L:List (ByteArray×Y)}{q:Nat}{key:ByteArray}{x:V}{z:Y}(h:WI v f qs L)(hn:qs.contains q=false)(hkw:cR key=q)(h0:q≠0)(h35:q≠35)(hx:getV v key=some x)(hi:ItemR eA (dD q) x z):WI v f (q::qs) (L++[(key,z)]):=by
 have hn':q∉qs:=by simpa using hn
 subst hkw
 refine⟨?_,?_,?_,by simp;exact h.len⟩
 ·rw [List.map_append,List.nodup_append]
  refine⟨h.nd,by simp,?_⟩
  intro a ha b hb hab
  obtain⟨p,hp,rfl⟩:=List.mem_map.1 ha
  simp only [List.map_cons,List.map_nil,List.mem_singleton]at hb
  subst hab
  exact hn' (hb▸(h.mem p hp).1)
 ·intro p hp
  rcases List.mem_append.1 hp with hp|hp
  ·exact⟨List.mem_cons_of_mem _ (h.mem p hp).1,(h.mem p hp).2⟩
  ·rw [List.mem_singleton.1 hp]
   exact⟨List.mem_cons_self,h0,h35,x,hx,hi⟩
 ·intro r hr hnn
  rcases List.mem_cons.1 hr with rfl|hr
  ·exact⟨(key,z),by simp,rfl⟩
  ·obtain⟨p,hp,e⟩:=h.all r hr hnn
   exact⟨p,List.mem_append_left _ hp,e⟩
theorem WI.out{G:Gr}{v:V}{f:Flds}{L:List (ByteArray×Y)}(h:WI v f Di L)(hU: ∀ i,1≤i→i≤36→FldRel (fun b x=>Unf G x b) v i (f i)):eA v (dA 4 (L.flatMap eH)):=by
 refine(uj v _).2 ⟨L,rfl,h.nd,fun p hp=>(h.mem p hp).2,fun key x hx h0 h35=>?_⟩
 have hm:=Dj h0 h35
 have hq:=tx h0
 have hf:=hU _ hq.1 hq.2
 obtain⟨p,hp,e⟩:=h.all _ hm (fun hn=>by rw [hn]at hf;have:=hf key rfl;rw [hx]at this;cases this)
 exact⟨p,hp,Dk e (by rw [e];exact h0)⟩
theorem IsPlain.len60: ∀ {d:Nat} {t:V},IsPlain d t→t.items.length≤60
  |0, .mk q m s ks ts,h=>by
    obtain⟨_,h2,_⟩:=h
    simp only [V.items]at h2⊢
    subst h2;simp
  |d+1, .mk q m s ks ts,h=>by
    rcases h with ⟨_,h2,_⟩|⟨_,h2,_⟩
    · simp only [V.items]at h2⊢
      subst h2;simp
    · exact h2
theorem Pl.len{v:V}(h:Pl v):v.items.length≤60:=h.elim fun _ h=>h.len60
theorem un{ps:List (ByteArray×V)}{x:V}(hp:ps.Perm (x.keys.zip x.items))(h:x.items.length≤60):ps.length≤400000:=by
 rw [hp.length_eq,List.length_zip];omega
structure Fld(ft:DA)(mb:Nat)(G:Gr)(sh:Int)(x:V):Prop where
 pl:Pl x
 fit:cN sh x
 kid: ∀ z∈cK sh x,oA ft mb G z
 num:sh=3→x.kind=6→CtR Tryz.prog 188 #[.float .f64 (kF x.num)] [ft] (RN (cU dz (dn x.num)))
section
variable {ft:DA} {mb:Nat} {G:Gr} {x:V} {fv:dZ} {u:Value}
theorem Fld.int(h:x.kind=2∨x.kind=6)(hp:Pl x): -9223372036854775808≤x.num∧x.num≤9223372036854775807:=by
 have:=hp.num.num h
 omega
theorem CtR.data{P:Program}{f:FuncId}{args:Array Value}{D D2:List DA}{R:Value→List DA→Prop}(h:CtR P f args D R)(hs: ∀ d∈D,d∈D2):CtR P f args D2 R:=Ct.data h hs
theorem w3(h:Fld ft mb G 3 x)(hr:FvRel (fun b z=>Unf G z b) 3 x fv):CtR Tryz.prog 160 #[u] [.fv u fv, .gr mb G, .tab,ft] (fun u D'=> ∃z,ItemR eA 3 x z∧RN z u D'):=by
 cases fv<;>try exact absurd hr.1 aE
 case any=>exact absurd (show(3:Int)=14 from hr) aE
 case numI n=>
  obtain⟨_,hk,rfl⟩:=hr
  have hb:=Fld.int (.inl hk) h.pl
  exact((NK u x.num hb.1 hb.2).data (dP 0 2 Z Z)).mono fun u D' hn=>⟨_, .inr (.inr (.inl ⟨rfl,hk,rfl⟩)),hn⟩
 case numF n=>
  obtain⟨_,hk,rfl⟩:=hr
  exact((NL ft u _ _ (h.num Z hk)).data (dP 0 3 Z Z)).mono fun u D' hn=>⟨_, .inr (.inr (.inr (.inl ⟨rfl,hk,rfl⟩))),hn⟩
theorem w6(h:Fld ft mb G 6 x)(hr:FvRel (fun b z=>Unf G z b) 6 x fv):CtR Tryz.prog 157 #[u] [.fv u fv, .gr mb G, .tab,ft] (fun u D'=> ∃z,ItemR eA 6 x z∧RN z u D'):=by
 cases fv<;>try exact absurd hr.1 aE
 case any=>exact absurd (show(6:Int)=14 from hr) aE
 case sbS q=>
  obtain⟨_,hk,hU⟩:=hr
  refine(NG ft mb G u q x hU (h.kid x bc)).mono fun u D' hn=>?_
  obtain⟨z,hz,hn⟩:=hn
  exact⟨z, .inr (.inr (.inr (.inr (.inr (.inr (.inr (.inl ⟨rfl,hk,hz⟩))))))),hn⟩
 case sbB b=>
  obtain⟨_,hk,rfl⟩:=hr
  exact((NF u _).data (cO 0 Z)).mono fun u D' hn=>⟨_, .inr (.inr (.inr (.inr (.inr (.inr (.inl ⟨rfl,hk,rfl⟩)))))),hn⟩
theorem w7(h:Fld ft mb G 7 x)(hr:FvRel (fun b z=>Unf G z b) 7 x fv):CtR Tryz.prog 155 #[u] [.fv u fv, .gr mb G, .tab,ft] (fun u D'=> ∃z,ItemR eA 7 x z∧RN z u D'):=by
 cases fv<;>try exact absurd hr.1 aE
 case any=>exact absurd (show(7:Int)=14 from hr) aE
 case itS q=>
  obtain⟨_,hk,hU⟩:=hr
  refine(NI ft mb G u q x hU (h.kid x be)).mono fun u D' hn=>?_
  obtain⟨z,hz,hn⟩:=hn
  exact⟨z, .inr (.inr (.inr (.inr (.inr (.inr (.inr (.inr (.inl ⟨rfl,hk,hz⟩)))))))),hn⟩
 case itL bs=>
  obtain⟨_,hk,hU⟩:=hr
  have h5: ∀ y∈x.items,y.kind=5:=by
   have:=h.fit
   simp [cN,hk]at this
   exact this
  refine(NJ ft mb G u bs x.items (by have:=h.pl.len;omega) hU (fun z hz=>h.kid z (by rw [iV hk h5];exact hz))).mono fun u D' hn=>?_
  obtain⟨zs,hz,hn⟩:=hn
  exact⟨_, .inr (.inr (.inr (.inr (.inr (.inr (.inr (.inr (.inr (.inl ⟨rfl,hk,zs,rfl,hz⟩))))))))),hn⟩
theorem w9(h:Fld ft mb G 9 x)(hr:FvRel (fun b z=>Unf G z b) 9 x fv):CtR Tryz.prog 158 #[u] [.fv u fv, .gr mb G, .tab,ft] (fun u D'=> ∃z,ItemR eA 9 x z∧RN z u D'):=by
 cases fv<;>try exact absurd hr.1 aE
 case any=>exact absurd (show(9:Int)=14 from hr) aE
 case named l=>
  obtain⟨_,ps,hp,hU⟩:=hr
  have h5: ∀ y∈x.items,y.kind=5:=by
   have:=h.fit
   simp [cN]at this
   exact this.2
  refine(Pi ft mb G u l ps (un hp h.pl.len) hU (fun p hq=>h.kid p.2 (by rw [mh h5];exact(List.of_mem_zip (hp.mem_iff.1 hq)).2))).mono fun u D' hn=>?_
  obtain⟨L,hz,hn⟩:=hn
  exact⟨_, .inr (.inr (.inr (.inr (.inr (.inr (.inr (.inr (.inr (.inr (.inr (.inl ⟨rfl,ps,L,rfl,hp,hz⟩))))))))))),hn⟩
theorem Rs(h:Fld ft mb G 10 x)(hr:FvRel (fun b z=>Unf G z b) 10 x fv):CtR Tryz.prog 159 #[u] [.fv u fv, .gr mb G, .tab,ft] (fun u D'=> ∃z,ItemR eA 10 x z∧RN z u D'):=by
 cases fv<;>try exact absurd hr.1 aE
 case any=>exact absurd (show(10:Int)=14 from hr) aE
 case deps l=>
  obtain⟨_,ps,hp,rfl⟩:=hr
  refine((Pk u _ (by rw [List.length_map];exact un hp h.pl.len) (fun q hq=>?_)).data (cO 0 Z)).mono fun u D' hn=>?_
  ·obtain⟨p,hm,rfl⟩:=List.mem_map.1 hq
   have:=(h.pl.item p.2 (List.of_mem_zip (hp.mem_iff.1 hm)).2).len
   rw [List.length_map];omega
  ·rw [List.map_map]at hn
   exact⟨_, .inr (.inr (.inr (.inr (.inr (.inr (.inr (.inr (.inr (.inr (.inr (.inr (.inl ⟨rfl,ps,hp,rfl⟩)))))))))))),hn⟩
theorem Rt(h:Fld ft mb G 11 x)(hr:FvRel (fun b z=>Unf G z b) 11 x fv):CtR Tryz.prog 162 #[u] [.fv u fv, .gr mb G, .tab,ft] (fun u D'=> ∃z,ItemR eA 11 x z∧RN z u D'):=by
 cases fv<;>try exact absurd hr.1 aE
 case any=>exact absurd (show(11:Int)=14 from hr) aE
 case enums l=>
  obtain⟨_,rfl⟩:=hr
  exact((Pn u _ a7).data (cO 0 Z)).mono fun u D' hn=>⟨_, .inr (.inr (.inr (.inr (.inr (.inr (.inr (.inr (.inr (.inr (.inr (.inr (.inr (.inl ⟨rfl,rfl⟩))))))))))))),hn⟩
theorem Ru(h:Fld ft mb G 12 x)(hr:FvRel (fun b z=>Unf G z b) 12 x fv):CtR Tryz.prog 154 #[u] [.fv u fv, .gr mb G, .tab,ft] (fun u D'=> ∃z,ItemR eA 12 x z∧RN z u D'):=by
 cases fv<;>try exact absurd hr.1 aE
 case any=>exact absurd (show(12:Int)=14 from hr) aE
 case tyS s=>
  obtain⟨_,hk,rfl⟩:=hr
  exact((M7 u _).data (cO 0 Z)).mono fun u D' hn=>⟨_, .inr (.inr (.inr (.inr (.inr (.inr (.inr (.inr (.inr (.inr (.inr (.inr (.inr (.inr (.inl ⟨rfl,hk,rfl⟩)))))))))))))),hn⟩
 case tyL s=>
  obtain⟨_,hk,rfl⟩:=hr
  exact((NA u _ a7).data (cO 0 Z)).mono fun u D' hn=>⟨_, .inr (.inr (.inr (.inr (.inr (.inr (.inr (.inr (.inr (.inr (.inr (.inr (.inr (.inr (.inr (.inl ⟨rfl,hk,rfl⟩))))))))))))))),hn⟩
theorem w8{sl:Value}{bs:List ByteArray}(h:Fld ft mb G 8 x)(hr:bs=x.items.map V.text):CtR Tryz.prog 156 #[sl] [.strs sl bs] (fun u D'=> ∃z,ItemR eA 8 x z∧RN z u D'):=by
 subst hr
 exact(KD sl _ a7).mono fun u D' hn=>⟨_, .inr (.inr (.inr (.inr (.inr (.inr (.inr (.inr (.inr (.inr (.inl ⟨rfl,rfl⟩)))))))))),hn⟩
theorem Rv{sl:Value}{bs:List Nat}(h:Fld ft mb G 13 x)(hr:All2 (fun b z=>Unf G z b) bs x.items):CtR Tryz.prog 163 #[sl] [.rowp sl bs, .gr mb G, .tab,ft] (fun u D'=> ∃z,ItemR eA 13 x z∧RN z u D'):=by
 have h5: ∀ y∈x.items,y.kind=5:=by
  have:=h.fit
  simp [cN]at this
  exact this.2
 refine(NH ft mb G sl bs x.items (by have:=h.pl.len;omega) hr (fun z hz=>h.kid z (by rw [kK h5];exact hz))).mono fun u D' hn=>?_
 obtain⟨zs,hz,hn⟩:=hn
 exact⟨_, .inr (.inr (.inr (.inr (.inr (.inr (.inr (.inr (.inr (.inr (.inr (.inr (.inr (.inr (.inr (.inr ⟨rfl,zs,rfl,hz⟩))))))))))))))),hn⟩
theorem w5{b:Nat}(h:Fld ft mb G 5 x)(hr:Unf G x b):CtR Tryz.prog 105 #[ptr b] [.gr mb G, .tab,ft] (fun u D'=> ∃z,ItemR eA 5 x z∧RN z u D'):=by
 refine(h.kid x cB b hr).mono fun u D' hn=>?_
 obtain⟨z,hz,hn⟩:=hn
 exact⟨z, .inr (.inr (.inr (.inr (.inr (.inl ⟨rfl,hz⟩))))),hn⟩
end
section rules
variable {P:Program} {n:Nat} {F:List Nat} {c:Ctx F} {ops:Array Oper} {d:Nat} {T:TypeId} {l:List Oper} {k:List KI} {Q:cu} {e:dF} {M:List HA} {D:List DA}
theorem AC(j q:Nat){mb:Nat}{cs:List Value}{f:Flds}{G:Gr}{v:V}{p:Option Addr}(hj:D[j]? =some (.flds mb cs f))(h0:q≠0)(h36:q≤36)(hc:cs[q]? =some (.pointer p))(hp:p.isSome=(f q).isSome)(hb:p.isSome=true)(hU: ∀ i,1≤i→i≤36→FldRel (fun b x=>Unf G x b) v i (f i))
  (next: ∀ fv x a,p=some a→f q=some fv→getV v (kz q)=some x→cR (kz q)=q→FvRel (fun b x=>Unf G x b) (dD q) x fv→Run P n c k Q e M (.fv (.pointer (some a)) fv::D)):Run P n c k Q e M D:=by
 obtain⟨a,rfl⟩:=Option.isSome_iff_exists.1 hb
 rw [hb]at hp
 obtain⟨fv,hfv⟩:=Option.isSome_iff_exists.1 hp.symm
 have hr:=hU q aC h36
 rw [hfv]at hr
 obtain⟨key,x,hkw,hgx,hrel⟩:=hr
 have hkey:=kG hkw h0
 subst hkey
 refine yZ (.fv (.pointer (some a)) fv) (fun w ok h=>?_) (next fv x a Z hfv hgx hkw hrel)
 obtain⟨u,hu,hm⟩:=(dget h j hj:(DA.flds mb cs f).p w ok).2.2 q aC h36
 rw [hc]at hu
 cases hu
 rw [hfv]at hm
 exact hm
theorem pM(j q:Nat){mb:Nat}{cs:List Value}{f:Flds}(hj:D[j]? =some (.flds mb cs f))(h1:1≤q)(h2:q≤36)(next: ∀ p,cs[q]? =some (.pointer p)→p.isSome=(f q).isSome→Run P n c k Q e M D):Run P n c k Q e M D:=by
 intro a w hf
 obtain⟨p,h3,h4⟩:=uh (hf.toFitsW.dt hj) q h1 h2
 exact next p h3 h4 a w hf
end rules
theorem none_of{p:Option Addr}{o:Option dZ}(hp:p.isSome=o.isSome)(h:p.isSome=false):o=none:=by
  rw [h]at hp
  cases o with
  |none=>rfl
  |some v=>cases hp
theorem AD{G:Gr}{v:V}{f:Flds}(hU: ∀ i,1≤i→i≤36→FldRel (fun b x=>Unf G x b) v i (f i))(q:Nat)(h1:1≤q)(h2:q≤36)(hq:(q::Di).Nodup)(h35:q≠35):f q=none:=by
  have:=hU q h1 h2
  cases hf:f q with
  |none=>rfl
  |some fv=>
    rw [hf]at this
    obtain⟨key,x,hk,_⟩:=this
    have:=Dj (key:=key) aC aC
    rw [hk]at this
    exact absurd this (List.nodup_cons.1 hq).1
theorem Gh{U:Nat→V→Prop}{x:V}{fv:dZ}(h:FvRel U 2 x fv):fv= .bool (decide (x.num=1)):=by
 cases fv<;>simp_all [FvRel]
theorem KO{U:Nat→V→Prop}{x:V}{fv:dZ}(h:FvRel U 4 x fv):fv= .int x.num:=by
 cases fv<;>simp_all [FvRel]
theorem D6{U:Nat→V→Prop}{x:V}{fv:dZ}(h:FvRel U 8 x fv):fv= .texts (x.items.map V.text):=by
 cases fv<;>simp_all [FvRel]
theorem Gi{U:Nat→V→Prop}{x:V}{fv:dZ}(h:FvRel U 13 x fv): ∃bs,fv= .list bs∧All2 U bs x.items:=by
 cases fv<;>simp_all [FvRel]
theorem KP{U:Nat→V→Prop}{x:V}{fv:dZ}(h:FvRel U 5 x fv): ∃b,fv= .one b∧U b x:=by
 cases fv<;>simp_all [FvRel]
theorem uY{P:Program}{n:Nat}{F:List Nat}{c:Ctx F}{k:List KI}{Q:cu}{e:dF}{M:List HA}{D:List DA}{α:Type}{x:Code}(ts:List Nat)(I:α→Prop)(ch:α→dF)(MM:α→List HA)(DD:α→List DA)
  (h1: ∀ K:Act→World→Prop,(∀ y,I y→ ∀ a w,Fits n c (ch y++CY ts e) (MM y) (DD y) a w→K a w)→Run P n c (.code x:: .cont K::k) Q e M D)
  (h2: ∀ y,I y→Run P n c k Q (ch y++CY ts e) (MM y) (DD y)):Run P n c (.code x::k) Q e M D:=
 ix (α:={y:α//I y}) (fun y=>ch y.1++CY ts e) (fun y=>MM y.1) (fun y=>DD y.1) (fun K hK=>h1 K (fun y hy=>hK ⟨y,hy⟩)) (fun y=>h2 y.1 y.2)

end Go.Jw

