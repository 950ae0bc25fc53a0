/- Part 3 of the proof's texts, made small by a program. -/
import Derived.Test.YtlcfillobkdnmaaGreatDoorTu2
import GoSem.Core.Float
import Derived.MapKept
import Derived.Laws.Pointers
import Derived.WalkSpells
set_option linter.unusedVariables false
set_option linter.unusedSimpArgs false
set_option maxHeartbeats 4000000
namespace Go.Jw
open Ieee
set_option maxRecDepth 8000
theorem pY(way:Toward)(neg:Bool)(a d:Nat):way.cut neg (a*2^d) d=a:=by
 rcases Nat.eq_zero_or_pos a with rfl|ha
 ·unfold Toward.cut
  have h:0<1<<<min d (Nat.log2 (0*2^d)+2):=by rw [Nat.one_shiftLeft];exact Nat.two_pow_pos _
  cases way<;>simp [Nat.ne_of_gt h]
 ·have hl:d≤(a*2^d).log2+2:=by
   have:d≤(a*2^d).log2:=(Nat.le_log2 (Nat.ne_of_gt (Nat.mul_pos ha (Nat.two_pow_pos d)))).2 (Nat.le_mul_of_pos_left _ ha)
   omega
  have hp:=Nat.two_pow_pos d
  unfold Toward.cut
  simp only [Nat.min_eq_left hl,Nat.one_shiftLeft,Nat.mul_div_cancel _ hp,Nat.mul_mod_left]
  cases way<;>simp [Nat.ne_of_gt hp]
theorem kR{m:Nat}(h:0<m)(k:Nat):(m*2^k).log2=m.log2+k:=by
 have hp:=Nat.two_pow_pos k
 refine(Nat.log2_eq_iff (Nat.ne_of_gt (Nat.mul_pos h hp))).2 ⟨?_,?_⟩
 ·rw [Nat.pow_add];exact Nat.mul_le_mul_right _ (Nat.log2_self_le (Nat.ne_of_gt h))
 ·have:= @Nat.lt_log2_self m
  rw [show m.log2+k+1=(m.log2+1)+k by omega,Nat.pow_add]
  exact Nat.mul_lt_mul_of_pos_right this hp
def fill(m:Nat):Nat:=52 - m.log2
theorem re{m:Nat}(h:m<2^53)(h0:0<m):m.log2≤52:=by
 have:=(Nat.log2_lt (Nat.ne_of_gt h0)).2 h
 omega
theorem kS(m:Nat):fill m≤52:=Nat.sub_le ..
theorem zv{m:Nat}(h:m<2^53)(h0:0<m):2^52≤m*2^fill m:=by
 have h1:=Nat.log2_self_le (Nat.ne_of_gt h0)
 have h2:=re h h0
 have:=Nat.mul_le_mul_right (2^fill m) h1
 rw [←Nat.pow_add,show m.log2+fill m=52 by unfold fill;omega]at this
 exact this
theorem mP{m:Nat}(h:m<2^53)(h0:0<m):m*2^fill m<2^53:=by
 have h1:= @Nat.lt_log2_self m
 have h2:=re h h0
 have:=Nat.mul_lt_mul_of_pos_right h1 (Nat.two_pow_pos (fill m))
 rw [←Nat.pow_add,show m.log2+1+fill m=53 by unfold fill;omega]at this
 exact this
theorem nM{m:Nat}(h:m<2^53)(h0:0<m):(m*2^fill m).log2=52:=by
 rw [kR h0]
 have:=re h h0
 unfold fill;omega
abbrev dT(neg:Bool)(m:Nat)(p:Int):Nat:=double.nearest neg m p
theorem rg(neg:Bool){m:Nat}(h0:0<m)(h:m<2^53)(k:Nat){p:Int}(hp: -900≤p)(hq:p≤900):
    dT neg (m*2^k) (p - k)=double.word neg ((p - fill m+1074).toNat*2^52+m*2^fill m):=by
  have hL:=re h h0
  have hm:m*2^k≠0:=Nat.ne_of_gt (Nat.mul_pos h0 (Nat.two_pow_pos k))
  have hf:double.fractionBits=52:=rfl
  have hl:double.leastPlace= -1074:=by decide
  have hb:double.binade=2^52:=rfl
  have hi:double.infRung=2047*2^52:=by decide
  have hlast:max (p - k+((m*2^k).log2:Nat) - (52:Nat)) (-1074:Int)=p - fill m:=by
    rw [kR h0]
    unfold fill
    omega
  have hkept:Toward.even.cut neg ((m*2^k)<<<((p - k) - (p - fill m)).toNat) ((p - fill m) - (p - k)).toNat=m*2^fill m:=by
    rcases Nat.le_total k (fill m)with hk|hk
    · rw [show((p - k) - (p - fill m)).toNat=fill m - k by omega,show((p - fill m) - (p - k)).toNat=0 by omega,Nat.shiftLeft_eq,Nat.mul_assoc,←Nat.pow_add,show k+(fill m - k)=fill m by omega]
      have:=pY .even neg (m*2^fill m) 0
      rwa [Nat.pow_zero,Nat.mul_one]at this
    · rw [show((p - k) - (p - fill m)).toNat=0 by omega,show((p - fill m) - (p - k)).toNat=k - fill m by omega,Nat.shiftLeft_zero,
        show m*2^k=(m*2^fill m)*2^(k - fill m)by rw [Nat.mul_assoc,←Nat.pow_add];congr 2;omega]
      exact pY ..
  unfold dT Format.nearest
  rw [if_neg hm]
  simp only [hf,hl,hb,hi,hlast,hkept]
  rw [Nat.min_eq_left]
  · congr 3
  · have h1:=mP h h0
    have h2:(p - fill m - -1074).toNat≤1974:=by omega
    have h3:=Nat.mul_le_mul_right (2^52) h2
    exact Nat.le_trans (Nat.add_le_add h3 (Nat.le_of_lt h1)) aE
theorem xp(neg:Bool){m:Nat}(h0:0<m)(h:m<2^53)(k:Nat){p:Int}(hp: -900≤p)(hq:p≤900):dT neg (m*2^k) (p - k)=dT neg m p:=by
 have h2:=rg neg h0 h 0 hp hq
 rw [rg neg h0 h k hp hq,←h2]
 simp
theorem near_scale'(neg:Bool){m M:Nat}(h0:0<m)(h:m<2^53)(k:Nat){p P:Int}(hp: -900≤p)(hq:p≤900)(hM:M=m*2^k)(hP:P=p - k):dT neg M P=dT neg m p:=by
 subst hM;subst hP;exact xp neg h0 h k hp hq
theorem i6(neg:Bool){m:Nat}(h0:0<m)(h:m<2^53){p:Int}(hp: -900≤p)(hq:p≤900):
  dT neg m p=double.word neg ((p - fill m+1074).toNat*2^52+m*2^fill m):=by
 have h2:=rg neg h0 h 0 hp hq
 rw [←h2]
 simp
theorem zw{m:Nat}(h0:0<m)(h:m<2^53){p:Int}(hq:p≤900):(p - fill m+1074).toNat*2^52+m*2^fill m<1976*2^52:=by
 have h1:=mP h h0
 have h2:(p - fill m+1074).toNat≤1974:=by omega
 have:=Nat.mul_le_mul_right (2^52) h2
 omega
theorem rM(neg:Bool){m:Nat}(h0:0<m)(h:m<2^53){p:Int}(hp: -900≤p)(hq:p≤900):
  double.read (dT neg m p)= .number neg (m*2^fill m) (p - fill m):=by
 have h1:=zv h h0
 have h2:=mP h h0
 have h3:=zw h0 h hq
 have hA:0≤p - fill m+1074:=by have:=kS m;omega
 rw [i6 neg h0 h hp hq]
 generalize hK:m*2^fill m=K at*
 generalize hAA:(p - fill m+1074).toNat=A at*
 have hl:double.leastPlace= -1074:=by decide
 have hb:double.binade=2^52:=rfl
 have hi:double.infRung=2047*2^52:=by decide
 have hs:double.signWeight=2^63:=by decide
 have hneg:(double.word neg (A*2^52+K)/2^63%2==1)=neg:=by
  unfold Format.word
  rw [hs]
  cases neg
  ·simp only [Bool.false_eq_true,↓reduceIte]
   rw [Nat.div_eq_of_lt aC];rfl
  ·simp only [↓reduceIte]
   rw [show(2^63+(A*2^52+K))/2^63=1 by omega];rfl
 have hr:double.word neg (A*2^52+K)%2^63=A*2^52+K:=by
  unfold Format.word
  rw [hs]
  cases neg
  ·simp only [Bool.false_eq_true,↓reduceIte]
   exact Nat.mod_eq_of_lt aC
  ·simp only [↓reduceIte]
   omega
 unfold Format.read
 simp only [hl,hb,hi,hs,hneg,hr]
 rw [if_neg aC,if_pos aC]
 congr 1
 ·omega
 ·rw [show(A*2^52+K)/2^52 - 1=A by omega];omega
theorem rh(neg:Bool)(m:Nat)(p:Int):double.write (.number neg m p)=dT neg m p:=rfl
theorem DI{m:Nat}(h0:0<m)(h:m<2^53){p:Int}(hp: -900≤p)(hq:p≤900):dT false m p^^^2^63=dT true m p:=by
  have h3:=zw h0 h hq
  rw [i6 _ h0 h hp hq,i6 _ h0 h hp hq]
  generalize (p - fill m+1074).toNat*2^52+m*2^fill m=R at*
  have hs:double.signWeight=2^63:=by decide
  unfold Format.word
  rw [hs]
  simp only [Bool.false_eq_true,↓reduceIte]
  have hR:R<2^63:=by omega
  apply Nat.eq_of_testBit_eq
  intro i
  rw [Nat.testBit_xor,Nat.testBit_two_pow]
  rcases Nat.lt_trichotomy i 63 with hi|hi|hi
  · rw [Nat.testBit_two_pow_add_gt hi]
    simp [show ¬ 63=i by omega]
  · subst hi
    rw [Nat.testBit_two_pow_add_eq,Nat.testBit_lt_two_pow hR]
    simp
  · rw [Nat.testBit_lt_two_pow (Nat.lt_trans hR (Nat.pow_lt_pow_right aC hi)),Nat.testBit_lt_two_pow (Nat.lt_of_lt_of_le (by omega:2^63+R<2^64) (Nat.pow_le_pow_right aC hi))]
    simp [show ¬ 63=i by omega]
theorem DJ(s t:Bool){a b c k:Nat}{p q:Int}(ha:0<a)(ha':a<2^53)(hb:0<b)(hb':b<2^53)(hc':c<2^53)(hab:a*b=c*2^k)
    (hp: -400≤p) (hp':p≤400) (hq: -400≤q) (hq':q≤400) (hk:k≤100):double.mul (dT s a p) (dT t b q)=some (dT (s^^t) c (p+q+k)):=by
  have hc:0<c:=by
    rcases Nat.eq_zero_or_pos c with rfl|h
    · have:=Nat.mul_pos ha hb;omega
    · exact h
  unfold Format.mul
  rw [rM s ha ha' aC aC,rM t hb hb' aC aC]
  show some (dT (s^^t) _ _)=_
  congr 1
  refine near_scale' _ hc hc' (k+fill a+fill b) aC aC ?_ aC
  rw [Nat.pow_add,Nat.pow_add]
  calc a*2^fill a*(b*2^fill b)=(a*b)*(2^fill a*2^fill b):=by ac_rfl
    _=c*(2^k*2^fill a*2^fill b):=by rw [hab];ac_rfl
theorem Ft(s t:Bool){A B:Nat}(p q:Int)(hB:0<B)(hA:A.log2=52)(hl:B.log2=52){X:Nat}(hX:A<<<54=X*B):Datum.quotient 54 (.number s A p) (.number t B q)=some (.number (s^^t) (2*X) (p - q - 54 - 1)):=by
 unfold Datum.quotient
 simp only [if_neg (Nat.ne_of_gt hB),hA,hl,Nat.add_sub_cancel]
 rw [hX,Nat.mul_div_cancel _ hB,Nat.mul_mod_left]
 rfl
theorem DL{a b c h x y:Nat}(hab:a*2^h=b*c)(hh:h≤2)(hy:y≤52):(a*2^x)<<<54=(c*2^(54+x - h - y))*(b*2^y):=by
 rw [Nat.shiftLeft_eq]
 have e1:a*2^x*2^54=a*2^h*2^(54+x - h - y)*2^y:=by
  rw [Nat.mul_assoc,Nat.mul_assoc (a*2^h),Nat.mul_assoc a,←Nat.pow_add,←Nat.pow_add,←Nat.pow_add]
  congr 2;omega
 rw [e1,hab];ac_rfl
theorem Kh{a b c h:Nat}(ha:0<a)(hab:a*2^h=b*c):0<c:=by
 rcases Nat.eq_zero_or_pos c with rfl|hc
 ·have:=Nat.mul_pos ha (Nat.two_pow_pos h);rw [hab]at this;exact absurd this aJ
 ·exact hc
theorem BE(c X:Nat):2*(c*2^X)=c*2^(X+1):=by
 rw [Nat.pow_succ]
 ac_rfl
theorem DN(s t:Bool){a b c h:Nat}{p q:Int}(ha:0<a)(ha':a<2^53)(hb:0<b)(hb':b<2^53)(hc':c<2^53)(hab:a*2^h=b*c)(hh:h≤2)
  (hp: -400≤p) (hp':p≤400) (hq: -400≤q) (hq':q≤400):double.div (dT s a p) (dT t b q)=some (dT (s^^t) c (p - q - h)):=by
 have hd:=DL (x:=fill a) (y:=fill b) hab hh (kS b)
 have hq2:=Ft s t (p - fill a) (q - fill b) (Nat.mul_pos hb (Nat.two_pow_pos _)) (nM ha' ha) (nM hb' hb) hd
 have h54:double.fractionBits+2=54:=rfl
 have hfa:=kS a
 have hfb:=kS b
 unfold Format.div
 rw [rM s ha ha' aC aC,rM t hb hb' aC aC,h54,hq2,Option.map_some,rh]
 exact congrArg some (near_scale' _ (Kh ha hab) hc' (54+fill a - h - fill b+1) aC aC (BE _ _) aC)
theorem kT(s:Bool)(m j k:Nat):signed s (m*2^k) j=signed s m (k+j):=by
 unfold signed
 rw [Nat.shiftLeft_eq,Nat.shiftLeft_eq,Nat.mul_assoc,←Nat.pow_add]
theorem gb(s:Bool)(m j k:Nat):signed s m (j+k)=signed s m j*((2^k:Nat):Int):=by
 unfold signed
 rw [Nat.shiftLeft_eq,Nat.shiftLeft_eq,Nat.pow_add,←Nat.mul_assoc]
 cases s
 ·simp only [Bool.false_eq_true,↓reduceIte];rw [Int.natCast_mul]
 ·simp only [↓reduceIte];rw [Int.natCast_mul,Int.neg_mul]
theorem lv(x y:Int){k:Int}(hk:0<k):compare (x*k) (y*k)=compare x y:=by
 simp only [Int.compare_eq_ite_lt]
 have h1:x*k<y*k↔x<y:=⟨fun h=>Int.lt_of_mul_lt_mul_right h (Int.le_of_lt hk),fun h=>Int.mul_lt_mul_of_pos_right h hk⟩
 have h2:y*k<x*k↔y<x:=⟨fun h=>Int.lt_of_mul_lt_mul_right h (Int.le_of_lt hk),fun h=>Int.mul_lt_mul_of_pos_right h hk⟩
 simp only [h1,h2]
theorem jY(s t:Bool){a b:Nat}{p q B:Int}(ha:0<a)(ha':a<2^53)(hb:0<b)(hb':b<2^53)
    (hp: -900≤p) (hp':p≤900) (hq: -900≤q) (hq':q≤900) (hB:B≤p) (hB':B≤q):double.order (dT s a p) (dT t b q)=some (compare (signed s a (p - B).toNat) (signed t b (q - B).toNat)):=by
  unfold Format.order
  rw [rM s ha ha' hp hp',rM t hb hb' hq hq']
  unfold Datum.order
  simp only []
  congr 1
  rw [kT,kT]
  generalize hm:min (p - fill a) (q - fill b)=M
  have h1:M≤p - fill a:=by omega
  have h2:M≤q - fill b:=by omega
  rcases Int.le_total M B with h|h
  · rw [show fill a+(p - fill a - M).toNat=(p - B).toNat+(B - M).toNat by omega,show fill b+(q - fill b - M).toNat=(q - B).toNat+(B - M).toNat by omega,gb,gb]
    exact lv _ _ (Int.natCast_pos.2 (Nat.two_pow_pos _))
  · rw [show(p - B).toNat=(fill a+(p - fill a - M).toNat)+(M - B).toNat by omega,show(q - B).toNat=(fill b+(q - fill b - M).toNat)+(M - B).toNat by omega,gb s a (fill a+(p - fill a - M).toNat) (M - B).toNat,gb t b (fill b+(q - fill b - M).toNat) (M - B).toNat]
    exact(lv _ _ (Int.natCast_pos.2 (Nat.two_pow_pos _))).symm
theorem nN(s:Bool){m j:Nat}(h0:0<m)(h:m<2^53)(hj:j≤2):(double.read (dT s m (-(j:Int)))).toInt .zero=some (if s then -((m/2^j:Nat):Int)else((m/2^j:Nat):Int)):=by
 rw [rM s h0 h aC aC]
 unfold Datum.toInt Datum.integral
 have hf:=kS m
 simp only []
 rw [show(-(j:Int) - fill m).toNat=0 by omega,show(-(-(j:Int) - fill m)).toNat=j+fill m by omega,Nat.shiftLeft_zero]
 have hcut:Toward.zero.cut s (m*2^fill m) (j+fill m)=m/2^j:=by
  unfold Toward.cut
  rw [nM h h0,Nat.min_eq_left aC,Nat.one_shiftLeft,Nat.pow_add]
  simp only [Bool.toNat_false,Nat.add_zero]
  exact Nat.mul_div_mul_right _ _ (Nat.two_pow_pos _)
 rw [hcut]
 unfold signed
 simp
theorem BF:double.read 0= .number false 0 (-1074):=by decide
theorem xq(s:Bool){a:Nat}{p:Int}(ha:0<a)(ha':a<2^53)(hp: -900≤p)(hp':p≤900):double.order (dT s a p) 0=some (if s then .lt else .gt):=by
 unfold Format.order
 rw [rM s ha ha' hp hp',BF]
 unfold Datum.order signed
 simp only [Nat.shiftLeft_eq,Nat.zero_mul,Bool.false_eq_true,↓reduceIte]
 have:=Nat.mul_pos (Nat.mul_pos ha (Nat.two_pow_pos (fill a))) (Nat.two_pow_pos (p - fill a - min (p - fill a) (-1074)).toNat)
 cases s
 ·simp only [Bool.false_eq_true,↓reduceIte,Int.compare_eq_ite_lt]
  rw [if_neg aC,if_pos aC]
 ·simp only [↓reduceIte,Int.compare_eq_ite_lt]
  rw [if_pos aC]
end Go.Jw

namespace Go.Jw
open Ieee
def qw(n:Int):Nat:=dT (decide (n<0)) n.natAbs (-2)
theorem tp(s:Bool){m a n:Nat}(hn:0<n)(hn':n<2^53)(hm:m<2^53)(hb:10^a<2^53)(h:m*4=10^a*n):double.div (dT s m 0) (dT false (10^a) 0)=some (dT s n (-2)):=by
 have hp:0<10^a:=Nat.pow_pos aC
 have h0:0<m:=by
  rcases Nat.eq_zero_or_pos m with rfl|h0
  ·have:=Nat.mul_pos hp hn;omega
  ·exact h0
 have:=DN (p:=0) (q:=0) (h:=2) s false h0 hm hp hb hn' h aC aC aC aC aC
 simpa using this
section
variable {n:Int} (h0:n≠0) (h1: -1000000000<n) (h2:n<1000000000)
 include h0 h1 h2
theorem BG:0<n.natAbs∧n.natAbs<2^53∧n.natAbs<1000000000:=by omega
theorem DO(t:Bool):double.order (qw n) (dT t 1000000000000 0)=some (if t then .gt else .lt):=by
 obtain⟨a1,a2,a3⟩:=BG h0 h1 h2
 unfold qw
 rw [jY (B:= -2) _ t a1 a2 aC aC aC aC aC aC aC aC]
 congr 1
 rw [show((-2:Int) - -2).toNat=0 from rfl,show((0:Int) - -2).toNat=2 from rfl]
 unfold signed
 simp only [Nat.shiftLeft_eq]
 cases t<;>by_cases hs:n<0<;>simp only [hs,decide_true,decide_false,Bool.false_eq_true,↓reduceIte,Int.compare_eq_ite_lt]<;>(repeat' split)<;>first|rfl|omega
theorem Fu:double.mul (qw n) (dT false 4 0)=some (dT (decide (n<0)) n.natAbs 0):=by
 obtain⟨a1,a2,a3⟩:=BG h0 h1 h2
 have:=DJ (p:= -2) (q:=0) (k:=2) (c:=n.natAbs) (decide (n<0)) false a1 a2 (b:=4) aC aC a2 rfl aC aC aC aC aC
 unfold qw
 rw [this]
 simp
theorem DP:(double.read (dT (decide (n<0)) n.natAbs 0)).toInt .zero=some n:=by
 obtain⟨a1,a2,a3⟩:=BG h0 h1 h2
 have:=nN (decide (n<0)) (j:=0) a1 a2 aC
 rw [show(-((0:Nat):Int))=0 from rfl]at this
 rw [this]
 simp only [Nat.pow_zero,Nat.div_one,Option.some.injEq]
 by_cases hs:n<0<;>simp [hs]<;>omega
theorem Ki:double.order (dT (decide (n<0)) n.natAbs 0) (dT (decide (n<0)) n.natAbs 0)=some .eq:=by
 obtain⟨a1,a2,a3⟩:=BG h0 h1 h2
 rw [jY (B:=0) _ _ a1 a2 a1 a2 aC aC aC aC aC aC]
 simp [Int.compare_eq_ite_lt]
theorem IW:(double.read (qw n)).toInt .zero=some (n.tdiv 4):=by
 obtain⟨a1,a2,a3⟩:=BG h0 h1 h2
 have:=nN (decide (n<0)) (j:=2) a1 a2 aC
 rw [show(-((2:Nat):Int))= -2 from rfl]at this
 unfold qw
 rw [this,Option.some.injEq]
 by_cases hs:n<0
 ·simp only [hs,decide_true,↓reduceIte]
  have h3:n= -(n.natAbs:Int):=by omega
  conv=>rhs;rw [h3]
  rw [Int.neg_tdiv,show((4:Int))=((4:Nat):Int)from rfl,←Int.ofNat_tdiv]
 ·simp only [hs,decide_false,Bool.false_eq_true,↓reduceIte]
  have h3:n=(n.natAbs:Int):=by omega
  conv=>rhs;rw [h3]
  rw [show((4:Int))=((4:Nat):Int)from rfl,←Int.ofNat_tdiv]
theorem Kj(hm:n.tmod 4≠0):double.order (qw n) (dT (decide (n.tdiv 4<0)) (n.tdiv 4).natAbs 0)≠some .eq:=by
  obtain⟨a1,a2,a3⟩:=BG h0 h1 h2
  have e:=Int.tdiv_mul_add_tmod n 4
  rcases Decidable.em (n.tdiv 4=0)with hz|hz
  · rw [hz]
    have:=xq (decide (n<0)) a1 a2 (p:= -2) aC aC
    unfold qw
    rw [show dT (decide ((0:Int)<0)) (0:Int).natAbs 0=0 from rfl,this]
    split<;>simp
  · have b1:0<(n.tdiv 4).natAbs:=by omega
    have b2:(n.tdiv 4).natAbs<2^53:=by
      have:=Int.natAbs_tdiv_le_natAbs n 4
      omega
    unfold qw
    rw [jY (B:= -2) _ _ a1 a2 b1 b2 aC aC aC aC aC aC]
    rw [show((-2:Int) - -2).toNat=0 from rfl,show((0:Int) - -2).toNat=2 from rfl]
    have s1:signed (decide (n<0)) n.natAbs 0=n:=by
      unfold signed
      rw [Nat.shiftLeft_zero]
      by_cases hs:n<0<;>simp [hs]<;>omega
    generalize n.tdiv 4=z at*
    have s2:signed (decide (z<0)) z.natAbs 2=4*z:=by
      unfold signed
      rw [Nat.shiftLeft_eq]
      by_cases hs:z<0<;>simp only [hs,decide_true,decide_false,Bool.false_eq_true,↓reduceIte]<;>omega
    rw [s1,s2]
    simp only [Int.compare_eq_ite_lt]
    (repeat' split)<;>first|(exfalso;omega)|simp
end
theorem IX:dT false 1000000000000 0=4786511204640096256:=by decide
theorem Fv:dT true 1000000000000 0=14009883241494872064:=by decide
theorem PF:dT false 4 0=4616189618054758400:=by decide
theorem M4:dT false (10^1) 0=4621819117588971520:=by decide
theorem Kk:dT false (10^2) 0=4636737291354636288:=by decide
theorem BH:dT false (10^6) 0=4696837146684686336:=by decide
end Go.Jw

namespace Go.Jw
open Go Go.RowKit

inductive EV where
  |str (s:ByteArray)
  |bool (x:Bool)
inductive FVal where
  |text (s:ByteArray)
  |bool (x:Bool)
  |int (n:Int)
  |numI (n:Int)
  |numF (f:Nat)
  |sbS (b:Nat)
  |sbB (x:Bool)
  |itS (b:Nat)
  |itL (bs:List Nat)
  |texts (l:List ByteArray)
  |named (l:List (ByteArray×Nat))
  |deps (l:List (ByteArray×List ByteArray))
  |enums (l:List EV)
  |tyS (s:ByteArray)
  |tyL (l:List ByteArray)
  |list (bs:List Nat)
  |one (b:Nat)
  |any
abbrev cW(b:Nat):Value:= .pointer (some ⟨b,0,none⟩)
def PtsTo(w:World)(ok:Nat→Prop)(p:Addr)(v:Value):Prop:=ok p.block∧w.cell? p=some v
def BlkP(w:World)(ok:Nat→Prop)(b:Nat)(cs:List Value)(T:TypeId):Prop:=ok b∧w.heap[b]? =some (.cells cs.toArray T (0,0))
def RowPtrs(w:World)(ok:Nat→Prop)(v:Value)(bs:List Nat):Prop:= ∃A c,v= .slice A bs.length c∧bs.length≤c∧c≤maxLen∧ ∀ i b,bs[i]? =some b→ ∃a,A=some a∧ok a.block∧w.cell? (a.add i)=some (cW b)
def EvP(w:World)(ok:Nat→Prop)(e:EV)(u v:Value):Prop:=match e with
  | .str s=> ∃p,u= .pointer (some p)∧v= .pointer none∧s.size≤maxLen∧PtsTo w ok p (.string s)
  | .bool x=> ∃p,u= .pointer none∧v= .pointer (some p)∧PtsTo w ok p (.bool x)
def FvP(w:World)(ok:Nat→Prop):FVal→Value→Prop
  | .text s,v=> ∃p,v= .pointer (some p)∧s.size≤maxLen∧PtsTo w ok p (.string s)
  | .bool x,v=> ∃p,v= .pointer (some p)∧PtsTo w ok p (.bool x)
  | .int n,v=> ∃p,v= .pointer (some p)∧PtsTo w ok p (.int .i64 n)
  | .numI n,v=> ∃b p,v=cW b∧BlkP w ok b [.pointer (some p), .pointer none] 213∧PtsTo w ok p (.int .i64 n)
  | .numF f,v=> ∃b p,v=cW b∧BlkP w ok b [.pointer none, .pointer (some p)] 213∧PtsTo w ok p (.float .f64 f)
  | .sbS c,v=> ∃b,v=cW b∧BlkP w ok b [cW c, .pointer none] 185
  | .sbB x,v=> ∃b p,v=cW b∧BlkP w ok b [.pointer none, .pointer (some p)] 185∧PtsTo w ok p (.bool x)
  | .itS c,v=> ∃b,v=cW b∧BlkP w ok b [cW c, .pointer none] 187
  | .itL bs,v=> ∃b p sl,v=cW b∧BlkP w ok b [.pointer none, .pointer (some p)] 187∧PtsTo w ok p sl∧RowPtrs w ok sl bs
  | .texts l,v=> ∃p sl,v= .pointer (some p)∧PtsTo w ok p sl∧StrsP w ok sl l
  | .named l,v=> ∃p sl nbs,v= .pointer (some p)∧PtsTo w ok p sl∧RowPtrs w ok sl nbs∧nbs.length=l.length∧ ∀ (i:Nat) (q:ByteArray×Nat) (nb:Nat),l[i]? =some q→nbs[i]? =some nb→q.1.size≤maxLen∧BlkP w ok nb [.string q.1,cW q.2] 179
  | .deps l,v=> ∃p sl nbs,v= .pointer (some p)∧PtsTo w ok p sl∧RowPtrs w ok sl nbs∧nbs.length=l.length∧ ∀ (i:Nat) (q:ByteArray×List ByteArray) (nb:Nat),l[i]? =some q→nbs[i]? =some nb→
      ∃tb p2 sl2,q.1.size≤maxLen∧BlkP w ok nb [.string q.1,cW tb] 192∧BlkP w ok tb [.pointer none, .pointer (some p2)] 194∧PtsTo w ok p2 sl2∧StrsP w ok sl2 q.2
  | .enums l,v=> ∃p A c,v= .pointer (some p)∧PtsTo w ok p (.slice A l.length c)∧l.length≤c∧c≤maxLen∧ ∀ i e,l[i]? =some e→ ∃a u u',A=some a∧ok a.block∧w.cell? (a.add (i*2))=some u∧w.cell? (a.add (i*2+1))=some u'∧EvP w ok e u u'
  | .tyS s,v=> ∃b p,v=cW b∧s.size≤maxLen∧BlkP w ok b [.pointer (some p), .pointer none] 196∧PtsTo w ok p (.string s)
  | .tyL l,v=> ∃b p sl,v=cW b∧BlkP w ok b [.pointer none, .pointer (some p)] 196∧PtsTo w ok p sl∧StrsP w ok sl l
  | .list bs,v=> ∃p sl,v= .pointer (some p)∧PtsTo w ok p sl∧RowPtrs w ok sl bs
  | .one c,v=>v=cW c
  | .any,v=> ∃p,v= .pointer (some p)
section
variable {w w':World} {ok ok':Nat→Prop}
theorem PtsTo.mono(h1: ∀ k,ok k→ok' k)(h2: ∀ k,ok k→w'.heap[k]? =w.heap[k]?){p:Addr}{v:Value}(h:PtsTo w ok p v):PtsTo w' ok' p v:=
 ⟨h1 _ h.1,by rw [rJ (w:=w) (w':=w') (h2 _ h.1)];exact h.2⟩
theorem BlkP.mono(h1: ∀ k,ok k→ok' k)(h2: ∀ k,ok k→w'.heap[k]? =w.heap[k]?){b:Nat}{cs:List Value}{T:TypeId}(h:BlkP w ok b cs T):BlkP w' ok' b cs T:=⟨h1 _ h.1,(h2 _ h.1).trans h.2⟩
theorem gD(h2: ∀ k,ok k→w'.heap[k]? =w.heap[k]?){a:Addr}{i:Nat}{v:Value}(hok:ok a.block)(h:w.cell? (a.add i)=some v):w'.cell? (a.add i)=some v:=by
 rw [rJ (w:=w) (w':=w') (a:=a.add i) bY];exact h
theorem RowPtrs.mono(h1: ∀ k,ok k→ok' k)(h2: ∀ k,ok k→w'.heap[k]? =w.heap[k]?){v:Value}{bs:List Nat}(h:RowPtrs w ok v bs):RowPtrs w' ok' v bs:=by
 obtain⟨A,c,hv,hl,hc,hk⟩:=h
 refine⟨A,c,hv,hl,hc,fun i b hi=>?_⟩
 obtain⟨a,ha,hok,hcell⟩:=hk i b hi
 exact⟨a,ha,h1 _ hok,gD h2 hok hcell⟩
theorem EvP.mono(h1: ∀ k,ok k→ok' k)(h2: ∀ k,ok k→w'.heap[k]? =w.heap[k]?){e:EV}{u v:Value}(h:EvP w ok e u v):EvP w' ok' e u v:=by
  cases e with
  |str s=>obtain⟨p,a,b,c,d⟩:=h;exact⟨p,a,b,c,d.mono h1 h2⟩
  |bool x=>obtain⟨p,a,b,d⟩:=h;exact⟨p,a,b,d.mono h1 h2⟩
theorem FvP.mono(h1: ∀ k,ok k→ok' k)(h2: ∀ k,ok k→w'.heap[k]? =w.heap[k]?){f:FVal}{v:Value}(h:FvP w ok f v):FvP w' ok' f v:=by
  cases f with
  |text s=>obtain⟨p,a,b,c⟩:=h;exact⟨p,a,b,c.mono h1 h2⟩
  |bool x=>obtain⟨p,a,b⟩:=h;exact⟨p,a,b.mono h1 h2⟩
  |int n=>obtain⟨p,a,b⟩:=h;exact⟨p,a,b.mono h1 h2⟩
  |numI n=>obtain⟨b,p,a,c,d⟩:=h;exact⟨b,p,a,c.mono h1 h2,d.mono h1 h2⟩
  |numF n=>obtain⟨b,p,a,c,d⟩:=h;exact⟨b,p,a,c.mono h1 h2,d.mono h1 h2⟩
  |sbS c=>obtain⟨b,a,d⟩:=h;exact⟨b,a,d.mono h1 h2⟩
  |sbB x=>obtain⟨b,p,a,c,d⟩:=h;exact⟨b,p,a,c.mono h1 h2,d.mono h1 h2⟩
  |itS c=>obtain⟨b,a,d⟩:=h;exact⟨b,a,d.mono h1 h2⟩
  |itL bs=>obtain⟨b,p,sl,a,c,d,e⟩:=h;exact⟨b,p,sl,a,c.mono h1 h2,d.mono h1 h2,e.mono h1 h2⟩
  |texts l=>obtain⟨p,sl,a,d,e⟩:=h;exact⟨p,sl,a,d.mono h1 h2,e.mono h1 h2⟩
  |named l=>
    obtain⟨p,sl,nbs,a,d,e,f,g⟩:=h
    exact⟨p,sl,nbs,a,d.mono h1 h2,e.mono h1 h2,f,fun i q nb hq hnb=>⟨(g i q nb hq hnb).1,(g i q nb hq hnb).2.mono h1 h2⟩⟩
  |deps l=>
    obtain⟨p,sl,nbs,a,d,e,f,g⟩:=h
    refine⟨p,sl,nbs,a,d.mono h1 h2,e.mono h1 h2,f,fun i q nb hq hnb=>?_⟩
    obtain⟨tb,p2,sl2,a1,a2,a3,a4,a5⟩:=g i q nb hq hnb
    exact⟨tb,p2,sl2,a1,a2.mono h1 h2,a3.mono h1 h2,a4.mono h1 h2,a5.mono h1 h2⟩
  |enums l=>
    obtain⟨p,A,c,a,d,e,f,g⟩:=h
    refine⟨p,A,c,a,d.mono h1 h2,e,f,fun i q hq=>?_⟩
    obtain⟨a,u,u',a1,a2,a3,a4,a5⟩:=g i q hq
    exact⟨a,u,u',a1,h1 _ a2,gD h2 a2 a3,gD h2 a2 a4,a5.mono h1 h2⟩
  |tyS s=>obtain⟨b,p,a,c,d,e⟩:=h;exact⟨b,p,a,c,d.mono h1 h2,e.mono h1 h2⟩
  |tyL l=>obtain⟨b,p,sl,a,c,d,e⟩:=h;exact⟨b,p,sl,a,c.mono h1 h2,d.mono h1 h2,e.mono h1 h2⟩
  |list bs=>obtain⟨p,sl,a,d,e⟩:=h;exact⟨p,sl,a,d.mono h1 h2,e.mono h1 h2⟩
  |one c=>exact h
  |any=>exact h
end
def DA.fv(v:Value)(f:FVal):DA:=⟨fun w ok=>FvP w ok f v,fun h1 h2 h=>FvP.mono h1 h2 h⟩
def DA.pts(p:Addr)(v:Value):DA:=⟨fun w ok=>PtsTo w ok p v,fun h1 h2 h=>PtsTo.mono h1 h2 h⟩
def DA.rowp(v:Value)(bs:List Nat):DA:=⟨fun w ok=>RowPtrs w ok v bs,fun h1 h2 h=>RowPtrs.mono h1 h2 h⟩
abbrev Flds:=Nat→Option FVal
def CellsP(w:World)(ok:Nat→Prop)(mb:Nat)(cs:List Value)(f:Flds):Prop:=
  cs.length=37∧cs[0]? =some (.map (some mb))∧ ∀ i,1≤i→i≤36→ ∃u,cs[i]? =some u∧match f i with
    |none=>u= .pointer none
    |some v=>FvP w ok v u
theorem CellsP.mono{w w':World}{ok ok':Nat→Prop}(h1: ∀ k,ok k→ok' k)(h2: ∀ k,ok k→w'.heap[k]? =w.heap[k]?){mb:Nat}{cs:List Value}{f:Flds}(h:CellsP w ok mb cs f):CellsP w' ok' mb cs f:=by
  refine⟨h.1,h.2.1,fun i hi hj=>?_⟩
  obtain⟨u,hu,hm⟩:=h.2.2 i hi hj
  refine⟨u,hu,?_⟩
  cases hf:f i with
  |none=>rw [hf]at hm;exact hm
  |some v=>rw [hf]at hm;exact FvP.mono h1 h2 hm
def DA.flds(mb:Nat)(cs:List Value)(f:Flds):DA:=⟨fun w ok=>CellsP w ok mb cs f,fun h1 h2 h=>CellsP.mono h1 h2 h⟩
abbrev Gr:=List (Nat×List Value×Flds)
def DA.graph(mb:Nat)(G:Gr):DA:=⟨fun w ok=> ∀ g∈G,CellsP w ok mb g.2.1 g.2.2,fun h1 h2 h g hg=>CellsP.mono h1 h2 (h g hg)⟩
def Gr.blks(G:Gr):List (Nat×List Value):=G.map fun g=>(g.1,g.2.1)
def Gr.at(G:Gr)(b:Nat)(f:Flds):Prop:= ∃cs,(b,cs,f)∈G
def Flds.set(f:Flds)(i:Nat)(v:FVal):Flds:=fun j=>if j=i then some v else f j

section rules
variable {P:Program} {n:Nat} {F:List Nat} {c:Ctx F} {ops:Array Oper} {d:Nat} {T:TypeId} {l:List Oper} {k:List KI} {Q:Post} {e:dI} {M:List HA} {D:List DA}
theorem yM(x:DA)(h: ∀ (w:World) (ok:Nat→Prop),(∀ d∈D,d.p w ok)→x.p w ok)(next:Run P n c k Q e M (x::D)):Run P n c k Q e M D:=
 uR (D':=x::D) (fun w ok hd y hy=>(List.mem_cons.1 hy).elim (fun e=>e▸h w ok hd) (hd y)) next
theorem iQ(x:DA)(h: ∀ (w:World) (ok:Nat→Prop),(∀ d∈D,d.p w ok)→x.p w ok)(next:cL P n c ops l k Q e M (x::D)):cL P n c ops l k Q e M D:=
 CT (D':=x::D) (fun w ok hd y hy=>(List.mem_cons.1 hy).elim (fun e=>e▸h w ok hd) (hd y)) next
theorem dget{w:World}{ok:Nat→Prop}(h: ∀ d∈D,d.p w ok)(j:Nat){x:DA}(hj:D[j]? =some x):x.p w ok:=h x (List.mem_of_getElem? hj)
theorem yW(j:Nat){x:Operand}{p:Addr}{v:Value}(hT:cb P T)(hd:Nat.blt d n=true)(hx:ev e x=some (.pointer (some p)))(hj:D[j]? =some (.pts p v))
  (next:cL P n c ops l k Q ((d,v)::e) M D) {T':TypeId}:cR P n c ops (some d) (.load T x) T' l k Q e M D:=
 yH hT hd hx (fun _ h=>(h.dt hj).2) next
theorem xr(j:Nat){x:Operand}{p:Addr}{v:Value}(hT:cb P T)(hx:ev e x=some (.pointer (some p)))(hj:D[j]? =some (.pts p v)){T':TypeId}:St P n c (.load T x) T' e M D v:=
 wV hT hx (fun _ h=>(h.dt hj).2)
theorem tq(cs:List Value)(o:Nat)(v:Value)(h:o<cs.length):d2 cs o [v]=cs.set o v:=by
 simp [d2]
theorem rN(i:Nat){x y:Operand}{b o:Nat}{cs:List Value}{U S:TypeId}{v:Value}(hx:ev e x=some (.pointer (some ⟨b,o,none⟩)))(hy:ev e y=some v)(hi:M[i]? =some (.blk b cs U))(hv:v.cells= #[v])(h1:v.oneCell'=true)
  (hs: ∃i,P.info? S=some i∧i.size=1) (hl:o<cs.length) (next:cL P n c ops l k Q e (M.set i (.blk b (cs.set o v) U)) D):
  cR P n c ops none (.store S x y) T l k Q e M D:=by
 refine zF i (vs:=[v]) hx hy hi (by rw [hv]) (by simpa using hs) cI (by simp [h1]) Z ?_
 rw [tq cs o v hl]
 exact next
theorem tO(i:Nat){x:Operand}{b o:Nat}{cs:List Value}{U:TypeId}{v:Value}(hT:cb P T)(hd:Nat.blt d n=true)(hx:ev e x=some (.pointer (some ⟨b,o,none⟩)))(hi:M[i]? =some (.blk b cs U))(hv:cs[o]? =some v)
  (next:cL P n c ops l k Q ((d,v)::e) M D) {T':TypeId}:cR P n c ops (some d) (.load T x) T' l k Q e M D:=
 yH hT hd hx (fun _ h=>df h hi hv) next
theorem pZ{w:World}(h:FitsW c M D w){i b o:Nat}{U:TypeId}{gs:List (Nat×List Value)}{cs:List Value}{v:Value}(hi:M[i]? =some (.many U gs))(hb:(b,cs)∈gs)(hv:cs[o]? =some v):w.cell? ⟨b,o,none⟩=some v:=by
 have:=(h.mem hi:(HA.many U gs).holds w) _ hb
 rw [tI this];exact hv
theorem yY(i:Nat){x:Operand}{b o:Nat}{U:TypeId}{gs:List (Nat×List Value)}{cs:List Value}{v:Value}(hT:cb P T)(hd:Nat.blt d n=true)(hx:ev e x=some (.pointer (some ⟨b,o,none⟩)))(hi:M[i]? =some (.many U gs))(hb:(b,cs)∈gs)(hv:cs[o]? =some v)
  (next:cL P n c ops l k Q ((d,v)::e) M D) {T':TypeId}:cR P n c ops (some d) (.load T x) T' l k Q e M D:=
 yH hT hd hx (fun _ h=>pZ h hi hb hv) next
theorem ep(i j:Nat){U:TypeId}{gs gs':List (Nat×List Value)}(hi:M[i]? =some (.many U gs))(hj:(M.eraseIdx i)[j]? =some (.many U gs'))(next:Run P n c k Q e (.many U (gs++gs')::(M.eraseIdx i).eraseIdx j) D):Run P n c k Q e M D:=by
 intro a w hf
 have h1:=hf.toFitsW.perm ((vN hi).trans ((vN hj).cons _))
 refine next a w (hf.world ⟨h1.chg,?_,?_,?_,?_⟩)
 ·intro x hx
  rcases List.mem_cons.1 hx with rfl|hx
  ·intro g hg
   rcases List.mem_append.1 hg with hg|hg
   ·exact(h1.own _ List.mem_cons_self:(HA.many U gs).holds w) g hg
   ·exact(h1.own _ (List.mem_cons_of_mem _ List.mem_cons_self):(HA.many U gs').holds w) g hg
  ·exact h1.own x (List.mem_cons_of_mem _ (List.mem_cons_of_mem _ hx))
 ·have:=h1.nodup
  simpa [foots,HA.foot]using this
 ·intro b hb
  exact h1.foot b (by simpa [foots,HA.foot]using hb)
 ·intro x hx
  refine x.mono (fun q hq=>⟨hq.1,hq.2.1,?_⟩) (fun _ _=>rfl) (h1.dat x hx)
  have:=hq.2.2
  simpa [foots,HA.foot]using this
theorem nO(i:Nat){b:Nat}{cs:List Value}{U:TypeId}(hi:M[i]? =some (.blk b cs U))(next:Run P n c k Q e (.many U [(b,cs)]::M.eraseIdx i) D):Run P n c k Q e M D:=by
 intro a w hf
 have h1:=hf.toFitsW.perm (vN hi)
 refine next a w (hf.world ⟨h1.chg,?_,?_,?_,?_⟩)
 ·intro x hx
  rcases List.mem_cons.1 hx with rfl|hx
  ·intro g hg
   rcases List.mem_singleton.1 hg with rfl
   exact(h1.own _ List.mem_cons_self:(HA.blk b cs U).holds w)
  ·exact h1.own x (List.mem_cons_of_mem _ hx)
 ·simpa [foots,HA.foot]using h1.nodup
 ·intro q hq;exact h1.foot q (by simpa [foots,HA.foot]using hq)
 ·intro x hx
  refine x.mono (fun q hq=>⟨hq.1,hq.2.1,?_⟩) (fun _ _=>rfl) (h1.dat x hx)
  have:=hq.2.2
  simpa [foots,HA.foot]using this
theorem i7(U:TypeId)(next:Run P n c k Q e (.many U []::M) D):Run P n c k Q e M D:=
 fun a w hf=>next a w (hf.world (hf.toFitsW.cons0 cB (by intro g hg;cases hg)))
theorem rE(i j:Nat){mb:Nat}{G G':Gr}(hi:D[i]? =some (.graph mb G))(hj:D[j]? =some (.graph mb G'))(next:Run P n c k Q e M (.graph mb (G++G')::D)):Run P n c k Q e M D:=
 yM (.graph mb (G++G')) (fun w ok h g hg=>(List.mem_append.1 hg).elim (fun h1=>(dget h i hi:(DA.graph mb G).p w ok) g h1) (fun h1=>(dget h j hj:(DA.graph mb G').p w ok) g h1)) next
theorem nP(j:Nat){mb b:Nat}{cs:List Value}{f:Flds}(hj:D[j]? =some (.flds mb cs f))(next:Run P n c k Q e M (.graph mb [(b,cs,f)]::D)):Run P n c k Q e M D:=
 yM (.graph mb [(b,cs,f)]) (fun w ok h g hg=>by rcases List.mem_singleton.1 hg with rfl;exact dget h j hj) next
theorem wI{x y:Operand}{S E sz by_:Nat}(hS:cd P S E sz by_)(hd:Nat.blt d n=true)(hx:ev e x=some (.int .i64 0))(hy:ev e y=some (.int .i64 0))
  (next: ∀ b,cL P n c ops l k Q ((d, .slice (some ⟨b,0,none⟩) 0 0)::e) (.row (some ⟨b,0,none⟩) 0 0 E sz []::M) D):cR P n c ops (some d) (.makeSlice S x y) T l k Q e M D:=by
 obtain⟨ti,z,hu,hinf,hs1,hb1,hz,hzs,hsz0⟩:=hS
 intro a w hf
 have hw:IntKind.i64.wrap 0=0:=by decide
 have hr0: ∀ f:Nat→Value,(Array.range 0).map f= #[]:=fun f=>Array.eq_empty_of_size_eq_zero aJ
 have hb:(Instr.makeSlice S (.int .i64 0) (.int .i64 0)).run P w= .ok (.slice (some ⟨w.heap.size,0,none⟩) 0 0) (w.alloc (.cells #[] E (0,0))):=by
  simp [Instr.makeSlice,run_underlying hu,asInt,asIntOf,typeInfo,hinf,hw,askRoom,wB hinf,newRow,newObj,Sem.run,hr0]
 have hrun:(execOp a.eval (dM (some d) (.makeSlice S x y) T)).run P w= .ok (.value (.slice (some ⟨w.heap.size,0,none⟩) 0 0)) (w.alloc (.cells #[] E (0,0))):=by
  simp only [execOp,dM,hf.ev hx,hf.ev hy,Sem.run_bind,hb,Result.andThen_ok,Sem.run_pure]
 unfold Oper.wp
 rw [hrun]
 have hx2:(HA.row (some ⟨w.heap.size,0,none⟩) 0 0 E sz []).holds (w.alloc (.cells #[] E (0,0))):=by
  refine⟨by simp, .inr ⟨w.heap.size,0, #[],rfl,Nat.zero_le _,?_,Nat.le_refl _,by simp [maxLen],by simp,by simp⟩⟩
  show(w.heap.push _)[w.heap.size]? =_
  simp
 exact next w.heap.size _ _ ((hf.world (hf.toFitsW.new _ hx2 Z)).put hd _)
theorem xt{S:TypeId}(hd:Nat.blt d n=true)(next: ∀ b,cL P n c ops l k Q ((d, .map (some b))::e) (.obj b (.map #[] 0)::M) D):cR P n c ops (some d) (.makeMap S none) T l k Q e M D:=by
 intro a w hf
 have hrun:(execOp a.eval (dM (some d) (.makeMap S none) T)).run P w= .ok (.value (.map (some w.heap.size))) (w.alloc (.map #[] 0)):=by
  simp [execOp,dM,Instr.makeMap,newObj,Sem.run]
 unfold Oper.wp
 rw [hrun]
 have hx2:(HA.obj w.heap.size (.map #[] 0)).holds (w.alloc (.map #[] 0)):=by
  show(w.heap.push _)[w.heap.size]? =_
  simp
 exact next w.heap.size _ _ ((hf.world (hf.toFitsW.new _ hx2 Z)).put hd _)
theorem sG{w:World}{ok:Nat→Prop}{b o:Nat}{cs:List Value}{U:TypeId}{v:Value}(h:(DA.dblk b cs U).p w ok)(hv:cs[o]? =some v):PtsTo w ok ⟨b,o,none⟩ v:=⟨h.1,by rw [tI h.2];exact hv⟩
def RF(f:FVal)(u:Value)(D':List DA):Prop:= ∃p,u= .pointer (some p)∧D'=[.fv u f]
theorem nQ(i j o:Nat){mb:Nat}{cs:List Value}{f:Flds}{u:Value}{v:FVal}(hi:D[i]? =some (.flds mb cs f))(hj:D[j]? =some (.fv u v))(ho:1≤o)(next:Run P n c k Q e M (.flds mb (cs.set o u) (f.set o v)::D)):Run P n c k Q e M D:=
 yM (.flds mb (cs.set o u) (f.set o v)) (fun w ok h=>by
  have h1:CellsP w ok mb cs f:=dget h i hi
  have h2:FvP w ok v u:=dget h j hj
  refine⟨by simp [h1.1],by rw [List.getElem?_set_ne aC];exact h1.2.1,fun q hq hq2=>?_⟩
  by_cases hoq:q=o
  ·subst hoq
   exact⟨u,by rw [List.getElem?_set_self (by rw [h1.1];omega)],by simp only [Flds.set,if_true];exact h2⟩
  ·obtain⟨u',hu',hm⟩:=h1.2.2 q hq hq2
   exact⟨u',by rw [List.getElem?_set_ne aC];exact hu',by simp only [Flds.set,if_neg hoq];exact hm⟩) next
end rules
def db:FVal→List Nat
  | .sbS b=>[b]
  | .itS b=>[b]
  | .itL bs=>bs
  | .named l=>l.map (·.2)
  | .list bs=>bs
  | .one b=>[b]
  |_=>[]
def cU(f:Flds)(i:Nat):List Nat:=match f i with
  |none=>[]
  |some fv=>db fv
def iR(f:Flds):List Nat:=(List.range 37).flatMap (cU f)
def Own(G:Gr)(roots:List Nat):Prop:=(roots++G.flatMap (fun g=>iR g.2.2)).Perm (G.map (·.1))
theorem Own.nil:Own [] []:= .refl _
theorem Own.nilF:Own [] (iR fun _=>none):= .refl _
theorem Own.congr{G:Gr}{r r':List Nat}(h:Own G r)(hp:r'.Perm r):Own G r':=(hp.append_right _).trans h
theorem Own.app{G G':Gr}{r r':List Nat}(h:Own G r)(h':Own G' r'):Own (G'++G) (r++r'):=by
 refine List.perm_iff_count.2 fun a=>?_
 have e1:=h.count_eq a
 have e2:=h'.count_eq a
 simp only [List.flatMap_append,List.map_append,List.count_append]at e1 e2⊢
 omega
theorem Own.top{b:Nat}{cs:List Value}{f:Flds}{G:Gr}(h:Own G (iR f)):Own ((b,cs,f)::G) [b]:=List.Perm.cons b h
theorem DQ{f:Flds}{q:Nat}{fv:FVal}(hn:f q=none)(l:List Nat)(hl:l.Nodup):(l.flatMap (cU (f.set q fv))).Perm ((if q∈l then db fv else [])++l.flatMap (cU f)):=by
  induction l with
  |nil=>exact .refl _
  |cons i l ih=>
    rw [List.nodup_cons]at hl
    have h1:=ih hl.2
    by_cases hi:i=q
    · subst hi
      have e1:cU (f.set i fv) i=db fv:=by simp [cU,Flds.set]
      have e2:cU f i=[]:=by simp [cU,hn]
      rw [if_neg hl.1]at h1
      rw [List.flatMap_cons,List.flatMap_cons,e1,e2,if_pos List.mem_cons_self]
      exact h1.append_left _
    · have e1:cU (f.set q fv) i=cU f i:=by simp [cU,Flds.set,hi]
      have e2:(q∈i::l)=(q∈l):=by rw [List.mem_cons];exact propext ⟨fun h=>h.resolve_left (fun e=>hi e.symm), .inr⟩
      rw [List.flatMap_cons,List.flatMap_cons,e1]
      simp only [e2]
      refine List.perm_iff_count.2 fun a=>?_
      have e3:=h1.count_eq a
      simp only [List.count_append]at e3⊢
      omega
theorem ri{G G':Gr}{f:Flds}{q:Nat}{fv:FVal}(h:Own G (iR f))(h':Own G' (db fv))(hq:q≤36)(hn:f q=none):Own (G'++G) (iR (f.set q fv)):=by
 refine(h.app h').congr ((DQ hn (List.range 37) List.nodup_range).trans ?_)
 rw [if_pos (List.mem_range.2 aC)]
 exact List.perm_append_comm
theorem Own.nodup{G:Gr}{r:List Nat}(h:Own G r)(hn:(G.map (·.1)).Nodup):(r++G.flatMap (fun g=>iR g.2.2)).Nodup:=h.nodup_iff.2 hn
end Go.Jw

namespace Go.Jw
open Go Go.RowKit Go.Proofs
set_option maxRecDepth 8000
def kwIdx(key:ByteArray):Nat:=
 if key=⟨#[36,115,99,104,101,109,97]⟩then 1 else
 if key=⟨#[105,100]⟩then 2 else
 if key=⟨#[109,117,108,116,105,112,108,101,79,102]⟩then 6 else
 if key=⟨#[109,97,120,105,109,117,109]⟩then 7 else
 if key=⟨#[101,120,99,108,117,115,105,118,101,77,97,120,105,109,117,109]⟩then 8 else
 if key=⟨#[109,105,110,105,109,117,109]⟩then 9 else
 if key=⟨#[101,120,99,108,117,115,105,118,101,77,105,110,105,109,117,109]⟩then 10 else
 if key=⟨#[109,97,120,76,101,110,103,116,104]⟩then 11 else
 if key=⟨#[109,105,110,76,101,110,103,116,104]⟩then 12 else
 if key=⟨#[112,97,116,116,101,114,110]⟩then 13 else
 if key=⟨#[97,100,100,105,116,105,111,110,97,108,73,116,101,109,115]⟩then 14 else
 if key=⟨#[105,116,101,109,115]⟩then 15 else
 if key=⟨#[109,97,120,73,116,101,109,115]⟩then 16 else
 if key=⟨#[109,105,110,73,116,101,109,115]⟩then 17 else
 if key=⟨#[117,110,105,113,117,101,73,116,101,109,115]⟩then 18 else
 if key=⟨#[109,97,120,80,114,111,112,101,114,116,105,101,115]⟩then 19 else
 if key=⟨#[109,105,110,80,114,111,112,101,114,116,105,101,115]⟩then 20 else
 if key=⟨#[114,101,113,117,105,114,101,100]⟩then 21 else
 if key=⟨#[97,100,100,105,116,105,111,110,97,108,80,114,111,112,101,114,116,105,101,115]⟩then 22 else
 if key=⟨#[112,114,111,112,101,114,116,105,101,115]⟩then 23 else
 if key=⟨#[112,97,116,116,101,114,110,80,114,111,112,101,114,116,105,101,115]⟩then 24 else
 if key=⟨#[100,101,112,101,110,100,101,110,99,105,101,115]⟩then 25 else
 if key=⟨#[101,110,117,109]⟩then 26 else
 if key=⟨#[116,121,112,101]⟩then 27 else
 if key=⟨#[97,108,108,79,102]⟩then 28 else
 if key=⟨#[97,110,121,79,102]⟩then 29 else
 if key=⟨#[111,110,101,79,102]⟩then 30 else
 if key=⟨#[110,111,116]⟩then 31 else
 if key=⟨#[100,101,102,105,110,105,116,105,111,110,115]⟩then 32 else
 if key=⟨#[116,105,116,108,101]⟩then 33 else
 if key=⟨#[100,101,115,99,114,105,112,116,105,111,110]⟩then 34 else
 if key=⟨#[100,101,102,97,117,108,116]⟩then 35 else
 if key=⟨#[102,111,114,109,97,116]⟩then 36 else
 if key=⟨#[36,114,101,102]⟩then 3 else 0
def shIdx(i:Nat):Int:=match i with
  |1=>1
  |2=>1
  |3=>1
  |6=>3
  |7=>3
  |8=>2
  |9=>3
  |10=>2
  |11=>4
  |12=>4
  |13=>1
  |14=>6
  |15=>7
  |16=>4
  |17=>4
  |18=>2
  |19=>4
  |20=>4
  |21=>8
  |22=>6
  |23=>9
  |24=>9
  |25=>10
  |26=>11
  |27=>12
  |28=>13
  |29=>13
  |30=>13
  |31=>5
  |32=>9
  |33=>1
  |34=>1
  |35=>14
  |36=>1
  |_=>0
theorem iS{key:ByteArray}(h:kwIdx key≠0):cM key=shIdx (kwIdx key):=by
 unfold kwIdx at h⊢
 by_cases e1:key=⟨#[36,115,99,104,101,109,97]⟩
 ·subst e1;decide+kernel
 rw [if_neg e1]at h⊢
 by_cases e2:key=⟨#[105,100]⟩
 ·subst e2;decide+kernel
 rw [if_neg e2]at h⊢
 by_cases e6:key=⟨#[109,117,108,116,105,112,108,101,79,102]⟩
 ·subst e6;decide+kernel
 rw [if_neg e6]at h⊢
 by_cases e7:key=⟨#[109,97,120,105,109,117,109]⟩
 ·subst e7;decide+kernel
 rw [if_neg e7]at h⊢
 by_cases e8:key=⟨#[101,120,99,108,117,115,105,118,101,77,97,120,105,109,117,109]⟩
 ·subst e8;decide+kernel
 rw [if_neg e8]at h⊢
 by_cases e9:key=⟨#[109,105,110,105,109,117,109]⟩
 ·subst e9;decide+kernel
 rw [if_neg e9]at h⊢
 by_cases e10:key=⟨#[101,120,99,108,117,115,105,118,101,77,105,110,105,109,117,109]⟩
 ·subst e10;decide+kernel
 rw [if_neg e10]at h⊢
 by_cases e11:key=⟨#[109,97,120,76,101,110,103,116,104]⟩
 ·subst e11;decide+kernel
 rw [if_neg e11]at h⊢
 by_cases e12:key=⟨#[109,105,110,76,101,110,103,116,104]⟩
 ·subst e12;decide+kernel
 rw [if_neg e12]at h⊢
 by_cases e13:key=⟨#[112,97,116,116,101,114,110]⟩
 ·subst e13;decide+kernel
 rw [if_neg e13]at h⊢
 by_cases e14:key=⟨#[97,100,100,105,116,105,111,110,97,108,73,116,101,109,115]⟩
 ·subst e14;decide+kernel
 rw [if_neg e14]at h⊢
 by_cases e15:key=⟨#[105,116,101,109,115]⟩
 ·subst e15;decide+kernel
 rw [if_neg e15]at h⊢
 by_cases e16:key=⟨#[109,97,120,73,116,101,109,115]⟩
 ·subst e16;decide+kernel
 rw [if_neg e16]at h⊢
 by_cases e17:key=⟨#[109,105,110,73,116,101,109,115]⟩
 ·subst e17;decide+kernel
 rw [if_neg e17]at h⊢
 by_cases e18:key=⟨#[117,110,105,113,117,101,73,116,101,109,115]⟩
 ·subst e18;decide+kernel
 rw [if_neg e18]at h⊢
 by_cases e19:key=⟨#[109,97,120,80,114,111,112,101,114,116,105,101,115]⟩
 ·subst e19;decide+kernel
 rw [if_neg e19]at h⊢
 by_cases e20:key=⟨#[109,105,110,80,114,111,112,101,114,116,105,101,115]⟩
 ·subst e20;decide+kernel
 rw [if_neg e20]at h⊢
 by_cases e21:key=⟨#[114,101,113,117,105,114,101,100]⟩
 ·subst e21;decide+kernel
 rw [if_neg e21]at h⊢
 by_cases e22:key=⟨#[97,100,100,105,116,105,111,110,97,108,80,114,111,112,101,114,116,105,101,115]⟩
 ·subst e22;decide+kernel
 rw [if_neg e22]at h⊢
 by_cases e23:key=⟨#[112,114,111,112,101,114,116,105,101,115]⟩
 ·subst e23;decide+kernel
 rw [if_neg e23]at h⊢
 by_cases e24:key=⟨#[112,97,116,116,101,114,110,80,114,111,112,101,114,116,105,101,115]⟩
 ·subst e24;decide+kernel
 rw [if_neg e24]at h⊢
 by_cases e25:key=⟨#[100,101,112,101,110,100,101,110,99,105,101,115]⟩
 ·subst e25;decide+kernel
 rw [if_neg e25]at h⊢
 by_cases e26:key=⟨#[101,110,117,109]⟩
 ·subst e26;decide+kernel
 rw [if_neg e26]at h⊢
 by_cases e27:key=⟨#[116,121,112,101]⟩
 ·subst e27;decide+kernel
 rw [if_neg e27]at h⊢
 by_cases e28:key=⟨#[97,108,108,79,102]⟩
 ·subst e28;decide+kernel
 rw [if_neg e28]at h⊢
 by_cases e29:key=⟨#[97,110,121,79,102]⟩
 ·subst e29;decide+kernel
 rw [if_neg e29]at h⊢
 by_cases e30:key=⟨#[111,110,101,79,102]⟩
 ·subst e30;decide+kernel
 rw [if_neg e30]at h⊢
 by_cases e31:key=⟨#[110,111,116]⟩
 ·subst e31;decide+kernel
 rw [if_neg e31]at h⊢
 by_cases e32:key=⟨#[100,101,102,105,110,105,116,105,111,110,115]⟩
 ·subst e32;decide+kernel
 rw [if_neg e32]at h⊢
 by_cases e33:key=⟨#[116,105,116,108,101]⟩
 ·subst e33;decide+kernel
 rw [if_neg e33]at h⊢
 by_cases e34:key=⟨#[100,101,115,99,114,105,112,116,105,111,110]⟩
 ·subst e34;decide+kernel
 rw [if_neg e34]at h⊢
 by_cases e35:key=⟨#[100,101,102,97,117,108,116]⟩
 ·subst e35;decide+kernel
 rw [if_neg e35]at h⊢
 by_cases e36:key=⟨#[102,111,114,109,97,116]⟩
 ·subst e36;decide+kernel
 rw [if_neg e36]at h⊢
 by_cases e3:key=⟨#[36,114,101,102]⟩
 ·subst e3;decide+kernel
 rw [if_neg e3]at h⊢
 ·exact absurd Z h
abbrev k1:ByteArray:=⟨#[36,115,99,104,101,109,97]⟩
abbrev k2:ByteArray:=⟨#[105,100]⟩
abbrev k6:ByteArray:=⟨#[109,117,108,116,105,112,108,101,79,102]⟩
abbrev k7:ByteArray:=⟨#[109,97,120,105,109,117,109]⟩
abbrev k8:ByteArray:=⟨#[101,120,99,108,117,115,105,118,101,77,97,120,105,109,117,109]⟩
abbrev k9:ByteArray:=⟨#[109,105,110,105,109,117,109]⟩
abbrev k10:ByteArray:=⟨#[101,120,99,108,117,115,105,118,101,77,105,110,105,109,117,109]⟩
abbrev k11:ByteArray:=⟨#[109,97,120,76,101,110,103,116,104]⟩
abbrev PG:ByteArray:=⟨#[109,105,110,76,101,110,103,116,104]⟩
abbrev PH:ByteArray:=⟨#[112,97,116,116,101,114,110]⟩
abbrev PI:ByteArray:=⟨#[97,100,100,105,116,105,111,110,97,108,73,116,101,109,115]⟩
abbrev PJ:ByteArray:=⟨#[105,116,101,109,115]⟩
abbrev PK:ByteArray:=⟨#[109,97,120,73,116,101,109,115]⟩
abbrev PL:ByteArray:=⟨#[109,105,110,73,116,101,109,115]⟩
abbrev PM:ByteArray:=⟨#[117,110,105,113,117,101,73,116,101,109,115]⟩
abbrev PN:ByteArray:=⟨#[109,97,120,80,114,111,112,101,114,116,105,101,115]⟩
abbrev PO:ByteArray:=⟨#[109,105,110,80,114,111,112,101,114,116,105,101,115]⟩
abbrev PP:ByteArray:=⟨#[114,101,113,117,105,114,101,100]⟩
abbrev Kl:ByteArray:=⟨#[97,100,100,105,116,105,111,110,97,108,80,114,111,112,101,114,116,105,101,115]⟩
abbrev PQ:ByteArray:=⟨#[112,114,111,112,101,114,116,105,101,115]⟩
abbrev PR:ByteArray:=⟨#[112,97,116,116,101,114,110,80,114,111,112,101,114,116,105,101,115]⟩
abbrev PS:ByteArray:=⟨#[100,101,112,101,110,100,101,110,99,105,101,115]⟩
abbrev PT:ByteArray:=⟨#[101,110,117,109]⟩
abbrev k27:ByteArray:=⟨#[116,121,112,101]⟩
abbrev k28:ByteArray:=⟨#[97,108,108,79,102]⟩
abbrev iT:ByteArray:=⟨#[97,110,121,79,102]⟩
abbrev eY:ByteArray:=⟨#[111,110,101,79,102]⟩
abbrev PU:ByteArray:=⟨#[110,111,116]⟩
abbrev PV:ByteArray:=⟨#[100,101,102,105,110,105,116,105,111,110,115]⟩
abbrev PW:ByteArray:=⟨#[116,105,116,108,101]⟩
abbrev PX:ByteArray:=⟨#[100,101,115,99,114,105,112,116,105,111,110]⟩
abbrev PY:ByteArray:=⟨#[100,101,102,97,117,108,116]⟩
abbrev PZ:ByteArray:=⟨#[102,111,114,109,97,116]⟩
abbrev k3:ByteArray:=⟨#[36,114,101,102]⟩
def All2{α β:Type}(R:α→β→Prop)(l:List α)(l':List β):Prop:=l.length=l'.length∧ ∀ (i:Nat) a b,l[i]? =some a→l'[i]? =some b→R a b
theorem All2.mono{α β:Type}{R R':α→β→Prop}{l:List α}{l':List β}(h: ∀ a b,b∈l'→R a b→R' a b)(h2:All2 R l l'):All2 R' l l':=
 ⟨h2.1,fun i a b ha hb=>h a b (List.mem_of_getElem? hb) (h2.2 i a b ha hb)⟩
theorem All2.nil{α β:Type}(R:α→β→Prop):All2 R [] []:=⟨rfl,fun i a b h=>by simp at h⟩
theorem All2.snoc{α β:Type}{R:α→β→Prop}{l:List α}{l':List β}{a:α}{b:β}(h:All2 R l l')(hab:R a b):All2 R (l++[a]) (l'++[b]):=by
 refine⟨by simp [h.1],fun i x y hx hy=>?_⟩
 rcases Nat.lt_trichotomy i l.length with hi|hi|hi
 ·rw [List.getElem?_append_left hi]at hx
  rw [List.getElem?_append_left (by rw [←h.1];exact hi)]at hy
  exact h.2 i x y hx hy
 ·subst hi
  rw [List.getElem?_append_right (Nat.le_refl _)]at hx
  rw [List.getElem?_append_right bI]at hy
  simp at hx
  simp [h.1]at hy
  subst hx;subst hy;exact hab
 ·rw [List.getElem?_eq_none cI]at hx;cases hx
def lH(n:Int):Nat:=qw n
def DR(v:V):EV:=if v.kind=3 then .str v.text else .bool (decide (v.num=1))
def FvRel(U:Nat→V→Prop)(sh:Int)(v:V):FVal→Prop
  | .text s=>sh=1∧s=v.text
  | .bool x=>sh=2∧x=decide (v.num=1)
  | .int n=>sh=4∧n=v.num
  | .numI n=>sh=3∧v.kind=2∧n=v.num
  | .numF f=>sh=3∧v.kind=6∧f=lH v.num
  | .sbS b=>sh=6∧v.kind=5∧U b v
  | .sbB x=>sh=6∧v.kind=1∧x=decide (v.num=1)
  | .itS b=>sh=7∧v.kind=5∧U b v
  | .itL bs=>sh=7∧v.kind=4∧All2 U bs v.items
  | .texts l=>sh=8∧l=v.items.map V.text
  | .named l=>sh=9∧ ∃ps:List (ByteArray×V),ps.Perm (v.keys.zip v.items)∧All2 (fun(q:ByteArray×Nat) p=>q.1=p.1∧U q.2 p.2) l ps
  | .deps l=>sh=10∧ ∃ps:List (ByteArray×V),ps.Perm (v.keys.zip v.items)∧l=ps.map (fun p=>(p.1,p.2.items.map V.text))
  | .enums l=>sh=11∧l=v.items.map DR
  | .tyS s=>sh=12∧v.kind=3∧s=v.text
  | .tyL l=>sh=12∧v.kind=4∧l=v.items.map V.text
  | .list bs=>sh=13∧All2 U bs v.items
  | .one b=>sh=5∧U b v
  | .any=>sh=14
theorem FvRel.mono{U U':Nat→V→Prop}{sh:Int}{v:V}{f:FVal}(h: ∀ b x,SizeOf.sizeOf x≤SizeOf.sizeOf v→U b x→U' b x)(hf:FvRel U sh v f):FvRel U' sh v f:=by
  have hi: ∀ b x,x∈v.items→U b x→U' b x:=fun b x hx=>h b x (Nat.le_of_lt (xB hx))
  cases f with
  |sbS b=>exact⟨hf.1,hf.2.1,h b v (Nat.le_refl _) hf.2.2⟩
  |itS b=>exact⟨hf.1,hf.2.1,h b v (Nat.le_refl _) hf.2.2⟩
  |itL bs=>exact⟨hf.1,hf.2.1,hf.2.2.mono hi⟩
  |named l=>obtain⟨h1,ps,h2,h3⟩:=hf;exact⟨h1,ps,h2,h3.mono fun q p hp hq=>⟨hq.1,hi _ _ (List.of_mem_zip (h2.mem_iff.1 hp)).2 hq.2⟩⟩
  |list bs=>exact⟨hf.1,hf.2.mono hi⟩
  |one b=>exact⟨hf.1,h b v (Nat.le_refl _) hf.2⟩
  |text s=>exact hf
  |bool x=>exact hf
  |int n=>exact hf
  |numI n=>exact hf
  |numF n=>exact hf
  |sbB x=>exact hf
  |texts l=>exact hf
  |deps l=>exact hf
  |enums l=>exact hf
  |tyS s=>exact hf
  |tyL l=>exact hf
  |any=>exact hf
def FldRel(U:Nat→V→Prop)(v:V)(i:Nat):Option FVal→Prop
  |none=> ∀ key,kwIdx key=i→getV v key=none
  |some fv=> ∃key x,kwIdx key=i∧getV v key=some x∧FvRel U (shIdx i) x fv
theorem uU{v x:V}{key:ByteArray}(h:getV v key=some x):x∈v.items:=by
 unfold getV at h
 split at h
 ·cases h
 ·exact List.mem_of_getElem? h
theorem FldRel.mono{U U':Nat→V→Prop}{v:V}{i:Nat}{o:Option FVal}(h: ∀ b x,SizeOf.sizeOf x<SizeOf.sizeOf v→U b x→U' b x)(hf:FldRel U v i o):FldRel U' v i o:=by
  cases o with
  |none=>exact hf
  |some fv=>
    obtain⟨key,x,h1,h2,h3⟩:=hf
    exact⟨key,x,h1,h2,h3.mono fun b y hy=>h b y (Nat.lt_of_le_of_lt hy (xB (uU h2)))⟩
instance:Inhabited (Nat→Prop):=⟨fun _=>True⟩
noncomputable def Unf(G:Gr):V→Nat→Prop:=V.fix (α:=Nat→Prop) (fun v r b=> ∃f,G.at b f∧ ∀ i,1≤i→i≤36→FldRel (fun b x=>r x b) v i (f i))
theorem qT(G:Gr)(v:V)(b:Nat):Unf G v b↔ ∃f,G.at b f∧ ∀ i,1≤i→i≤36→FldRel (fun b x=>Unf G x b) v i (f i):=by
 have:=V.fix_eq (α:=Nat→Prop) (G:=fun v r b=> ∃f,G.at b f∧ ∀ i,1≤i→i≤36→FldRel (fun b x=>r x b) v i (f i)) (fun t g g' h=>by
  funext b
  apply propext
  constructor
  ·rintro ⟨f,h1,h2⟩
   exact⟨f,h1,fun i hi hj=>(h2 i hi hj).mono fun b x hx hu=>by rw [←h x hx];exact hu⟩
  ·rintro ⟨f,h1,h2⟩
   exact⟨f,h1,fun i hi hj=>(h2 i hi hj).mono fun b x hx hu=>by rw [h x hx];exact hu⟩) v
 show V.fix (α:=Nat→Prop) _ v b↔_
 rw [this]
 rfl
theorem Unf.mono{G G':Gr}(h: ∀ g∈G,g∈G')(v:V): ∀ b,Unf G v b→Unf G' v b:=by
 refine V.indS (p:=fun v=> ∀ b,Unf G v b→Unf G' v b) (fun v IH b hb=>?_) v
 obtain⟨f,⟨cs,h1⟩,h2⟩:=(qT G v b).1 hb
 exact(qT G' v b).2 ⟨f,⟨cs,h _ h1⟩,fun i hi hj=>(h2 i hi hj).mono fun b x hx hu=>IH x hx b hu⟩
def Pl(v:V):Prop:= ∃d,IsPlain d v
theorem Pl.wf{v:V}(h:Pl v):Wf v:=h.elim fun _ h=>h.wf
theorem Pl.num{v:V}(h:Pl v):NumOk v:=h.elim fun _ h=>h.num
theorem Pl.item{v:V}(h:Pl v): ∀ x∈v.items,Pl x:=by
  obtain⟨d,h⟩:=h
  obtain⟨q,m,s,ks,ts⟩:=v
  intro x hx
  cases d with
  |zero=>
    obtain⟨_,h2,_⟩:=h
    simp only [V.items]at h2 hx
    subst h2;cases hx
  |succ d=>
    rcases h with ⟨_,h2,_⟩|⟨_,_,h3⟩
    · simp only [V.items]at h2 hx
      subst h2;cases hx
    · exact⟨d,h3 x hx⟩
theorem Pl.keys{v:V}(h:Pl v)(hk:v.kind=5):di v.keys:=by
  obtain⟨d,h⟩:=h
  obtain⟨q,m,s,ks,ts⟩:=v
  simp only [V.kind]at hk
  subst hk
  cases d with
  |zero=>exact absurd h (uY (.inr rfl))
  |succ d=>exact ra ((wX (.inr rfl)).1 h).1 rfl
def prs(back:Bool)(v:V):List (ByteArray×V):=if back then(v.keys.zip v.items).reverse else v.keys.zip v.items
def RelAt(G:Gr)(back:Bool)(v:V)(i:Nat)(f:Flds):Prop:= ∀ q,1≤q→q≤36→match f q with
  |none=> ∀ p∈(prs back v).take i,kwIdx p.1≠q
  |some fv=> ∃p∈(prs back v).take i,kwIdx p.1=q∧FvRel (fun b x=>Unf G x b) (shIdx q) p.2 fv
theorem RelAt.mono{G G':Gr}(h: ∀ g∈G,g∈G'){back:Bool}{v:V}{i:Nat}{f:Flds}(hr:RelAt G back v i f):RelAt G' back v i f:=by
  intro q h1 h2
  have:=hr q h1 h2
  cases hf:f q with
  |none=>rw [hf]at this;exact this
  |some fv=>
    rw [hf]at this
    obtain⟨p,h3,h4,h5⟩:=this
    exact⟨p,h3,h4,h5.mono fun b x _ hu=>Unf.mono h x b hu⟩
theorem RelAt.zero(G:Gr)(back:Bool)(v:V):RelAt G back v 0 (fun _=>none):=by
 intro q _ _;simp
theorem RelAt.step{G:Gr}{back:Bool}{v:V}{i:Nat}{f:Flds}{p:ByteArray×V}{fv:FVal}(hr:RelAt G back v i f)(hp:(prs back v)[i]? =some p)(hf:FvRel (fun b x=>Unf G x b) (shIdx (kwIdx p.1)) p.2 fv):RelAt G back v (i+1) (f.set (kwIdx p.1) fv):=by
  have ht:(prs back v).take (i+1)=(prs back v).take i++[p]:=by rw [List.take_add_one,hp];rfl
  intro q h1 h2
  by_cases hq:q=kwIdx p.1
  · subst hq
    simp only [Flds.set,if_true]
    exact⟨p,by rw [ht];simp,rfl,hf⟩
  · simp only [Flds.set,if_neg hq]
    have:=hr q h1 h2
    cases hfq:f q with
    |none=>
      rw [hfq]at this
      intro p' hp'
      rw [ht,List.mem_append,List.mem_singleton]at hp'
      rcases hp' with hp'|rfl
      · exact this p' hp'
      · exact fun e=>hq e.symm
    |some fv'=>
      rw [hfq]at this
      obtain⟨p',h3,h4⟩:=this
      exact⟨p',by rw [ht];exact List.mem_append_left _ h3,h4⟩
theorem RelAt.skip{G:Gr}{back:Bool}{v:V}{i:Nat}{f:Flds}{p:ByteArray×V}(hr:RelAt G back v i f)(hp:(prs back v)[i]? =some p)(hf:kwIdx p.1=0):RelAt G back v (i+1) f:=by
  have ht:(prs back v).take (i+1)=(prs back v).take i++[p]:=by rw [List.take_add_one,hp];rfl
  intro q h1 h2
  have:=hr q h1 h2
  cases hfq:f q with
  |none=>
    rw [hfq]at this
    intro p' hp'
    rw [ht,List.mem_append,List.mem_singleton]at hp'
    rcases hp' with hp'|rfl
    · exact this p' hp'
    · omega
  |some fv'=>
    rw [hfq]at this
    obtain⟨p',h3,h4⟩:=this
    exact⟨p',by rw [ht];exact List.mem_append_left _ h3,h4⟩
def lw:Nat→ByteArray
  |1=>k1
  |2=>k2
  |3=>k3
  |6=>k6
  |7=>k7
  |8=>k8
  |9=>k9
  |10=>k10
  |11=>k11
  |12=>PG
  |13=>PH
  |14=>PI
  |15=>PJ
  |16=>PK
  |17=>PL
  |18=>PM
  |19=>PN
  |20=>PO
  |21=>PP
  |22=>Kl
  |23=>PQ
  |24=>PR
  |25=>PS
  |26=>PT
  |27=>k27
  |28=>k28
  |29=>iT
  |30=>eY
  |31=>PU
  |32=>PV
  |33=>PW
  |34=>PX
  |35=>PY
  |36=>PZ
  |_=>⟨#[]⟩
def DT:List Nat:=[36,32,31,30,29,28,26,20,19,18,17,16,14,13,12,11,10,9,8,7,6,3,25,23,24,22,21,34,15,27,1,2,33]
theorem kw_case{key:ByteArray}:key=lw (kwIdx key)∧kwIdx key∈[35,36,32,31,30,29,28,26,20,19,18,17,16,14,13,12,11,10,9,8,7,6,3,25,23,24,22,21,34,15,27,1,2,33]∨kwIdx key=0:=by
 unfold kwIdx
 by_cases e1:key=⟨#[36,115,99,104,101,109,97]⟩
 ·rw [if_pos e1];exact .inl ⟨e1,by decide⟩
 rw [if_neg e1]
 by_cases e2:key=⟨#[105,100]⟩
 ·rw [if_pos e2];exact .inl ⟨e2,by decide⟩
 rw [if_neg e2]
 by_cases e6:key=⟨#[109,117,108,116,105,112,108,101,79,102]⟩
 ·rw [if_pos e6];exact .inl ⟨e6,by decide⟩
 rw [if_neg e6]
 by_cases e7:key=⟨#[109,97,120,105,109,117,109]⟩
 ·rw [if_pos e7];exact .inl ⟨e7,by decide⟩
 rw [if_neg e7]
 by_cases e8:key=⟨#[101,120,99,108,117,115,105,118,101,77,97,120,105,109,117,109]⟩
 ·rw [if_pos e8];exact .inl ⟨e8,by decide⟩
 rw [if_neg e8]
 by_cases e9:key=⟨#[109,105,110,105,109,117,109]⟩
 ·rw [if_pos e9];exact .inl ⟨e9,by decide⟩
 rw [if_neg e9]
 by_cases e10:key=⟨#[101,120,99,108,117,115,105,118,101,77,105,110,105,109,117,109]⟩
 ·rw [if_pos e10];exact .inl ⟨e10,by decide⟩
 rw [if_neg e10]
 by_cases e11:key=⟨#[109,97,120,76,101,110,103,116,104]⟩
 ·rw [if_pos e11];exact .inl ⟨e11,by decide⟩
 rw [if_neg e11]
 by_cases e12:key=⟨#[109,105,110,76,101,110,103,116,104]⟩
 ·rw [if_pos e12];exact .inl ⟨e12,by decide⟩
 rw [if_neg e12]
 by_cases e13:key=⟨#[112,97,116,116,101,114,110]⟩
 ·rw [if_pos e13];exact .inl ⟨e13,by decide⟩
 rw [if_neg e13]
 by_cases e14:key=⟨#[97,100,100,105,116,105,111,110,97,108,73,116,101,109,115]⟩
 ·rw [if_pos e14];exact .inl ⟨e14,by decide⟩
 rw [if_neg e14]
 by_cases e15:key=⟨#[105,116,101,109,115]⟩
 ·rw [if_pos e15];exact .inl ⟨e15,by decide⟩
 rw [if_neg e15]
 by_cases e16:key=⟨#[109,97,120,73,116,101,109,115]⟩
 ·rw [if_pos e16];exact .inl ⟨e16,by decide⟩
 rw [if_neg e16]
 by_cases e17:key=⟨#[109,105,110,73,116,101,109,115]⟩
 ·rw [if_pos e17];exact .inl ⟨e17,by decide⟩
 rw [if_neg e17]
 by_cases e18:key=⟨#[117,110,105,113,117,101,73,116,101,109,115]⟩
 ·rw [if_pos e18];exact .inl ⟨e18,by decide⟩
 rw [if_neg e18]
 by_cases e19:key=⟨#[109,97,120,80,114,111,112,101,114,116,105,101,115]⟩
 ·rw [if_pos e19];exact .inl ⟨e19,by decide⟩
 rw [if_neg e19]
 by_cases e20:key=⟨#[109,105,110,80,114,111,112,101,114,116,105,101,115]⟩
 ·rw [if_pos e20];exact .inl ⟨e20,by decide⟩
 rw [if_neg e20]
 by_cases e21:key=⟨#[114,101,113,117,105,114,101,100]⟩
 ·rw [if_pos e21];exact .inl ⟨e21,by decide⟩
 rw [if_neg e21]
 by_cases e22:key=⟨#[97,100,100,105,116,105,111,110,97,108,80,114,111,112,101,114,116,105,101,115]⟩
 ·rw [if_pos e22];exact .inl ⟨e22,by decide⟩
 rw [if_neg e22]
 by_cases e23:key=⟨#[112,114,111,112,101,114,116,105,101,115]⟩
 ·rw [if_pos e23];exact .inl ⟨e23,by decide⟩
 rw [if_neg e23]
 by_cases e24:key=⟨#[112,97,116,116,101,114,110,80,114,111,112,101,114,116,105,101,115]⟩
 ·rw [if_pos e24];exact .inl ⟨e24,by decide⟩
 rw [if_neg e24]
 by_cases e25:key=⟨#[100,101,112,101,110,100,101,110,99,105,101,115]⟩
 ·rw [if_pos e25];exact .inl ⟨e25,by decide⟩
 rw [if_neg e25]
 by_cases e26:key=⟨#[101,110,117,109]⟩
 ·rw [if_pos e26];exact .inl ⟨e26,by decide⟩
 rw [if_neg e26]
 by_cases e27:key=⟨#[116,121,112,101]⟩
 ·rw [if_pos e27];exact .inl ⟨e27,by decide⟩
 rw [if_neg e27]
 by_cases e28:key=⟨#[97,108,108,79,102]⟩
 ·rw [if_pos e28];exact .inl ⟨e28,by decide⟩
 rw [if_neg e28]
 by_cases e29:key=⟨#[97,110,121,79,102]⟩
 ·rw [if_pos e29];exact .inl ⟨e29,by decide⟩
 rw [if_neg e29]
 by_cases e30:key=⟨#[111,110,101,79,102]⟩
 ·rw [if_pos e30];exact .inl ⟨e30,by decide⟩
 rw [if_neg e30]
 by_cases e31:key=⟨#[110,111,116]⟩
 ·rw [if_pos e31];exact .inl ⟨e31,by decide⟩
 rw [if_neg e31]
 by_cases e32:key=⟨#[100,101,102,105,110,105,116,105,111,110,115]⟩
 ·rw [if_pos e32];exact .inl ⟨e32,by decide⟩
 rw [if_neg e32]
 by_cases e33:key=⟨#[116,105,116,108,101]⟩
 ·rw [if_pos e33];exact .inl ⟨e33,by decide⟩
 rw [if_neg e33]
 by_cases e34:key=⟨#[100,101,115,99,114,105,112,116,105,111,110]⟩
 ·rw [if_pos e34];exact .inl ⟨e34,by decide⟩
 rw [if_neg e34]
 by_cases e35:key=⟨#[100,101,102,97,117,108,116]⟩
 ·rw [if_pos e35];exact .inl ⟨e35,by decide⟩
 rw [if_neg e35]
 by_cases e36:key=⟨#[102,111,114,109,97,116]⟩
 ·rw [if_pos e36];exact .inl ⟨e36,by decide⟩
 rw [if_neg e36]
 by_cases e3:key=⟨#[36,114,101,102]⟩
 ·rw [if_pos e3];exact .inl ⟨e3,by decide⟩
 rw [if_neg e3]
 exact .inr Z
theorem lI{key:ByteArray}{q:Nat}(h:kwIdx key=q)(h0:q≠0):key=lw q:=by
 subst h
 exact kw_case.elim (fun h=>h.1) (fun h=>absurd h h0)
theorem DU{key:ByteArray}(h0:kwIdx key≠0)(h35:kwIdx key≠35):kwIdx key∈DT:=by
 rcases kw_case (key:=key)with h|h
 ·exact(List.mem_cons.1 h.2).elim (fun e=>absurd e h35) id
 ·exact absurd h h0
theorem tr{key:ByteArray}(h0:kwIdx key≠0):1≤kwIdx key∧kwIdx key≤36:=by
 rcases kw_case (key:=key)with h|h
 ·have:=h.2
  generalize kwIdx key=q at this
  simp only [List.mem_cons,List.not_mem_nil,or_false]at this
  omega
 ·exact absurd h h0
theorem xu{a b:ByteArray}(h:kwIdx a=kwIdx b)(h0:kwIdx a≠0):a=b:=(lI rfl h0).trans (by rw [h];exact(lI rfl (by rwa [←h])).symm)
end Go.Jw

namespace Go.Jw
open Go Go.RowKit Go.Proofs
set_option maxRecDepth 8000
open Go.Proofs
theorem IY:ww Tryz.prog 181:=⟨_,Tryz.func181,by kernel_rfl,rfl⟩
abbrev tu(x:Bool):ByteArray:=⟨(Lib.formatBool x).toArray⟩
theorem c181(x:Bool):dd Tryz.prog 181 #[.string (tu x)] [] (.tuple #[.bool x, .nilIface]):=
  iO IY fun w ok h=>(Tryz.strconv_ParseBool (tu x) x (by cases x<;>decide) w).mono (by
    rintro e w' ⟨rfl,rfl⟩
    exact⟨rfl,Chg.refl _ _⟩)
theorem lJ{l:List ByteArray}{i:Nat}(hi:i<l.length):(l.take i).map Value.string++[.string l[i]]=(l.take (i+1)).map Value.string:=sX hi
theorem nR{l:List ByteArray}{i:Nat}(hi:i<l.length)(h: ∀ s∈l.take i,s.size≤maxLen)(hs:l[i].size≤maxLen): ∀ s∈l.take (i+1),s.size≤maxLen:=by
 intro s hm
 rw [List.take_add_one,List.getElem?_eq_getElem hi,List.mem_append]at hm
 rcases hm with hm|hm
 ·exact h s hm
 ·simp at hm;rw [hm];exact hs
def BI:EV→Y
  | .str s=>cc dV s
  | .bool x=>cc eJ (tu x)
theorem DV(e:EV):(BI e).kind=8:=by cases e<;>rfl
theorem Fx{e:EV}(h:(BI e).tag=dV): ∃s,e= .str s:=by
  cases e with
  |str s=>exact⟨s,rfl⟩
  |bool x=>exact absurd h (by simp only [BI,cc,Y.tag];decide)
theorem DW{e:EV}(h: ¬ (BI e).tag=dV): ∃x,e= .bool x:=by
  cases e with
  |str s=>exact absurd rfl h
  |bool x=>exact⟨x,rfl⟩
def EvsP(w:World)(ok:Nat→Prop)(xs:List Value)(l:List EV):Prop:=xs.length=2*l.length∧ ∀ (i:Nat) e,l[i]? =some e→ ∃u u',xs[i*2]? =some u∧xs[i*2+1]? =some u'∧EvP w ok e u u'
def DA.evs(xs:List Value)(l:List EV):DA:=⟨fun w ok=>EvsP w ok xs l,fun h1 h2 h=>⟨h.1,fun i e hi=>by
 obtain⟨u,u',a,b,d⟩:=h.2 i e hi
 exact⟨u,u',a,b,d.mono h1 h2⟩⟩⟩
theorem EvsP.snoc{w:World}{ok:Nat→Prop}{xs:List Value}{l:List EV}{e:EV}{u u':Value}(h:EvsP w ok xs l)(he:EvP w ok e u u'):EvsP w ok (xs++[u,u']) (l++[e]):=by
 refine⟨by simp [h.1];omega,fun i x hi=>?_⟩
 rcases Nat.lt_trichotomy i l.length with hl|hl|hl
 ·rw [List.getElem?_append_left hl]at hi
  obtain⟨v,v',a,b,d⟩:=h.2 i x hi
  exact⟨v,v',by rw [List.getElem?_append_left bx];exact a,by rw [List.getElem?_append_left bx];exact b,d⟩
 ·subst hl
  rw [List.getElem?_append_right (Nat.le_refl _)]at hi
  simp at hi
  subst hi
  refine⟨u,u',?_,?_,he⟩
  ·rw [List.getElem?_append_right bx,h.1,show l.length*2 - 2*l.length=0 from by omega];rfl
  ·rw [List.getElem?_append_right bx,h.1,show l.length*2+1 - 2*l.length=1 from by omega];rfl
 ·rw [List.getElem?_eq_none cI]at hi;cases hi
theorem Fy{w:World}{ok:Nat→Prop}{A:Option Addr}{m c T:Nat}{xs:List Value}{l:List EV}(h:(HA.row A m c T 2 xs).holds w)(hok: ∀ b∈(HA.row A m c T 2 xs).foot,ok b)(hx:EvsP w ok xs l)(hm:m=l.length):
  l.length≤c∧c≤maxLen∧ ∀ (i:Nat) e,l[i]? =some e→ ∃a u u',A=some a∧ok a.block∧w.cell? (a.add (i*2))=some u∧w.cell? (a.add (i*2+1))=some u'∧EvP w ok e u u':=by
 obtain⟨h1,h2,h3⟩:=tR h
 subst hm
 refine⟨h1,h2,fun i e hi=>?_⟩
 obtain⟨u,u',a,b,d⟩:=hx.2 i e hi
 obtain⟨q,hq,hf,hc⟩:=h3 _ _ a
 obtain⟨q',hq',_,hc'⟩:=h3 _ _ b
 rw [hq]at hq'
 cases hq'
 exact⟨q,u,u',hq,hok _ cE,hc,hc',d⟩
def DA.evrow(A:Option Addr)(c:Nat)(l:List EV):DA:=⟨fun w ok=>l.length≤c∧c≤maxLen∧ ∀ (i:Nat) e,l[i]? =some e→ ∃a u u',A=some a∧ok a.block∧w.cell? (a.add (i*2))=some u∧w.cell? (a.add (i*2+1))=some u'∧EvP w ok e u u',
 fun h1 h2 h=>⟨h.1,h.2.1,fun i e hi=>by
  obtain⟨a,u,u',b1,b2,b3,b4,b5⟩:=h.2.2 i e hi
  exact⟨a,u,u',b1,h1 _ b2,gD h2 b2 b3,gD h2 b2 b4,b5.mono h1 h2⟩⟩⟩
section rules
variable {P:Program} {n:Nat} {F:List Nat} {c:Ctx F} {k:List KI} {Q:Post} {e:dI} {M:List HA} {D:List DA}
theorem BJ(i j:Nat){A:Option Addr}{m cap E:Nat}{xs:List Value}(l:List EV)(hi:M[i]? =some (.row A m cap E 2 xs))(hj:D[j]? =some (.evs xs l))(hF: ∀ b∈F,b∈foots (M.eraseIdx i))(hm:m=l.length)(next:Run P n c k Q e (M.eraseIdx i) (.evrow A cap l::D)):Run P n c k Q e M D:=
 sD i [.evrow A cap l] hF hi (fun w ok h hok hD d hd=>by
  rcases List.mem_singleton.1 hd with rfl
  exact Fy h hok (hD _ (List.mem_of_getElem? hj)) hm) next
end rules
theorem zx{l:List EV}{i:Nat}(hi:i<l.length):l.take i++[l[i]]=l.take (i+1):=by rw [List.take_add_one,List.getElem?_eq_getElem hi];rfl

theorem M5(sp:Value)(nb:Nat)(tag s:ByteArray):CtR Tryz.prog 134 #[sp,cW nb] [.node nb (cc tag s)] (RF (.text s)):=by
 refine Ct.of_run (args:=[sp,cW nb]) Tryz.func134 aF Z Tryz.ntmps134 Z (fun c=>?_)
 refine wF 0 Z (fun A0 cap0 ht0 hv0 hl0 hc0=>?_)
 refine rO 13 Z (zC wR Z Z ?_)
 refine zA (zH 0 dZ Z Z Z Z ?_)
 refine oO 17 Z (zC vB Z Z ?_)
 refine oK 3 [4] Z Z (yM (.fv (.pointer (some ⟨nb,3,none⟩)) (.text s)) (fun w ok h=>⟨_,rfl,hv0,sG (dget h 0 Z) Z⟩) ?_)
 exact zE Tryz.results134 Z ⟨rfl,_,rfl,rfl⟩ nS (cS 0 Z)
theorem M6(sp:Value)(nb:Nat)(x:Bool):CtR Tryz.prog 136 #[sp,cW nb] [.node nb (cc eJ (tu x))] (RF (.bool x)):=by
 refine Ct.of_run (args:=[sp,cW nb]) Tryz.func136 aF Z Tryz.ntmps136 Z (fun c=>?_)
 refine wF 0 Z (fun A0 cap0 ht0 hv0 hl0 hc0=>?_)
 refine rO 13 Z (zC wR Z Z ?_)
 refine zA (zH 0 dZ Z Z Z Z ?_)
 refine oO 17 Z (zC qA Z Z ?_)
 refine zA (zH 0 dK Z Z Z Z ?_)
 refine oK 1 [16,1] Z Z (rO 16 Z ?_)
 refine zC vB Z Z (zA ?_)
 refine zH 0 dK Z Z Z Z (zA ?_)
 refine zK Z Z Z (c181 x) cZ (oO 7 Z ?_)
 refine zS Mm Z (fun b5=>?_)
 change cL _ _ _ _ _ _ _ _ (HA.blk _ [_] _::_) _
 refine zA (zF 0 (M':=[HA.blk _ [_] _]) Z Z Z Z zi Z Z Z ?_)
 refine oK 3 [5] Z Z (rR 5 Z ?_)
 refine xT 0 Z aG (yM (.fv (cW b5) (.bool x)) (fun w ok h=>⟨_,rfl,sG (dget h 0 Z) Z⟩) ?_)
 exact zE Tryz.results136 Z ⟨rfl,_,rfl,rfl⟩ nS (cS 0 Z)
theorem M7(sp:Value)(nb:Nat)(l:List ByteArray)(hl:l.length≤1000000):CtR Tryz.prog 140 #[sp,cW nb] [.node nb (.mk 2 iA ⟨#[]⟩ (l.map (cc dV)))] (RF (.texts l)):=by
 refine Ct.of_run (args:=[sp,cW nb]) Tryz.func140 aF Z Tryz.ntmps140 Z (fun c=>?_)
 refine wF 0 Z (fun A0 cap0 ht0 hv0 hl0 hc0=>?_)
 rw [List.length_map]
 rw [List.length_map]at hl0
 unfold maxLen at hc0
 refine rO 13 Z (zC wR Z Z ?_)
 refine zA (zH 0 dZ Z Z Z Z ?_)
 refine oK 17 [20,1] Z Z (rO 4 Z ?_)
 refine wI cX Z Z Z (fun b22=>?_)
 refine zA (zS IG Z (fun b6=>?_))
 change cL _ _ _ _ _ _ _ _ (HA.blk _ [_] _::_) _
 refine zA (zF 0 (M':=[HA.blk _ [_] _,_]) Z Z Z Z fF Z Z Z ?_)
 refine oO 9 Z (zC wS Z Z ?_)
 refine zA (zH 0 dg Z Z Z Z ?_)
 refine zA (yA cy Z Z ?_)
 refine oK 4 [28,27,26,6] Z Z ?_
 refine iy 1 (fun(⟨i,A,ca,xs⟩:Nat×Option Addr×Nat×List Value)=>i≤l.length∧xs=(l.take i).map Value.string∧ ∀ s∈l.take i,s.size≤maxLen) (fun(⟨i,A,ca,xs⟩:Nat×Option Addr×Nat×List Value)=>[(28, .int .i64 ((i:Nat):Int))]) (fun(⟨i,A,ca,xs⟩:Nat×Option Addr×Nat×List Value)=>HA.blk b6 [.slice A i ca] 22::HA.row A i ca 9 1 xs::[]) (fun(⟨i,A,ca,xs⟩:Nat×Option Addr×Nat×List Value)=>l.length - i) (0,_,_,[]) (⟨by show 0≤_;omega,rfl,by simp⟩) (eC Z (eN _)) Z ?_ (eC Z (eC Z (eC Z (eN _))))
 intro ⟨i,A,ca,xs⟩ hI K hK
 change Run _ _ _ _ _ [(28,_),(27,_),(26,_),(6,_)] [_,_] (_)
 obtain⟨hi,hxs,hsz⟩:=hI
 refine rO 3 Z (yJ Z Z Z ?_)
 refine oR 2 Z (zN Z (fun h29=>?_) (fun h29=>?_))
 ·refine rO 6 Z (wY 1 cy Z Z Z Z h29 ?_)
  refine tE 1 i Z (ga h29) (fun b1=>?_)
  refine rL 1 Z (fun A1 cap1 ht1 hv1 hl1 hc1=>?_)
  refine zA (yH dU Z Z (fun _ h=>tF h (j:=2) Z) ?_)
  refine oO 10 Z (zC wR Z Z ?_)
  refine zA (zH 0 dZ Z Z Z Z ?_)
  refine oR 10 Z (yO yE ?_)
  refine zR (tP 1 Z cK (zZ Z) ?_)
  refine tP 2 Z cK (xA Z) (tP 3 Z cK (zY vB Z) ?_)
  refine yF (tM 0 Z cK (yR 0 dN Z Z Z) ?_)
  refine tM 4 Z cK (uI 0 dK Z Z Z) (zL 5 aD ?_)
  refine zO (I2:=[[0],[],[]]) Z cK aD (fun Kd hKd=>?_)
  refine zM cX Z Z Z Z Z (fun b43=>?_)
  refine hKd _ _ _ (hC (zD (zD (zP)))) (zL 6 aD ?_)
  refine zO (I2:=[[],[],[]]) Z cK aD (fun Kd hKd=>?_)
  refine cf 2 0 cX (fun A44 c44=>?_)
  refine hKd _ _ _ (zD (zD (zD (zP)))) (zL 7 aD ?_)
  refine zO (I2:=[[],[],[]]) Z cK aD (fun Kd hKd=>?_)
  refine zF 1 (M':=[_,HA.blk _ [_] _,_]) Z Z Z Z fF Z Z Z (hKd _ _ _ (zD (zD (zD (zP)))) ?_)
  refine yG aD (rK 0 [28,27,26,6] Z Z ?_)
  refine rO 4 Z (yB Z Z aC ?_)
  refine oR 3 Z ?_
  exact kQ (hK (i+1,_,_,xs++[.string (l[i]'h29)]) (⟨by show i+1≤_;omega,by rw [hxs];exact lJ h29,nR h29 hsz hv1⟩) ay) (eC Z (eC Z (eC Z (eC Z (eN _)))))
 refine rR 6 Z ?_
 obtain rfl:i=l.length:=by omega
 rw [List.take_length]at hxs hsz
 refine wP 1 l Z aG hxs hsz (xT 0 Z aG ?_)
 exact yM (.fv (cW b6) (.texts l)) (fun w ok h=>⟨_,_,rfl,sG (dget h 0 Z) Z,dget h 1 Z⟩) (zE Tryz.results140 Z ⟨rfl,_,rfl,rfl⟩ nS (cS 0 Z))
theorem Km(sp:Value)(nb:Nat)(tag s:ByteArray):CtR Tryz.prog 144 #[sp,cW nb] [.node nb (cc tag s)] (RF (.tyS s)):=by
 refine Ct.of_run (args:=[sp,cW nb]) Tryz.func144 aF Z Tryz.ntmps144 Z (fun c=>?_)
 refine wF 0 Z (fun A0 cap0 ht0 hv0 hl0 hc0=>?_)
 refine rO 13 Z (zC wR Z Z ?_)
 refine zA (zH 0 dZ Z Z Z Z ?_)
 refine oO 13 Z (yX Z Z (Hh ..) ?_)
 refine zA (yK Z Z Z (fun b17=>?_))
 refine oK 3 [5,1] Z Z (rO 9 Z ?_)
 refine zC vB Z Z (oO 3 Z ?_)
 refine zC gX Z Z (zA ?_)
 refine zF 0 (M':=[HA.blk _ [_,_] _]) Z Z Z Z eU Z Z Z (oK 8 [4] Z Z ?_)
 refine xT 0 Z aG (yM (.fv (cW b17) (.tyS s)) (fun w ok h=>⟨b17,_,rfl,hv0,dget h 0 Z,sG (dget h 1 Z) Z⟩) ?_)
 exact zE Tryz.results144 Z ⟨rfl,_,rfl,rfl⟩ nS (cS 0 Z)
theorem Kn(sp:Value)(nb:Nat)(l:List ByteArray)(hl:l.length≤1000000):CtR Tryz.prog 144 #[sp,cW nb] [.node nb (.mk 2 iA ⟨#[]⟩ (l.map (cc dV)))] (RF (.tyL l)):=by
 refine Ct.of_run (args:=[sp,cW nb]) Tryz.func144 aF Z Tryz.ntmps144 Z (fun c=>?_)
 refine wF 0 Z (fun A0 cap0 ht0 hv0 hl0 hc0=>?_)
 rw [List.length_map]
 rw [List.length_map]at hl0
 unfold maxLen at hc0
 refine rO 13 Z (zC wR Z Z ?_)
 refine zA (zH 0 dZ Z Z Z Z ?_)
 refine oK 17 [25,1] Z Z (rO 4 Z ?_)
 refine wI cX Z Z Z (fun b27=>?_)
 refine zA (zS IG Z (fun b6=>?_))
 change cL _ _ _ _ _ _ _ _ (HA.blk _ [_] _::_) _
 refine zA (zF 0 (M':=[HA.blk _ [_] _,_]) Z Z Z Z fF Z Z Z ?_)
 refine oO 9 Z (zC wS Z Z ?_)
 refine zA (zH 0 dg Z Z Z Z ?_)
 refine zA (yA cy Z Z ?_)
 refine oK 4 [33,32,31,6] Z Z ?_
 refine iy 1 (fun(⟨i,A,ca,xs⟩:Nat×Option Addr×Nat×List Value)=>i≤l.length∧xs=(l.take i).map Value.string∧ ∀ s∈l.take i,s.size≤maxLen) (fun(⟨i,A,ca,xs⟩:Nat×Option Addr×Nat×List Value)=>[(33, .int .i64 ((i:Nat):Int))]) (fun(⟨i,A,ca,xs⟩:Nat×Option Addr×Nat×List Value)=>HA.blk b6 [.slice A i ca] 22::HA.row A i ca 9 1 xs::[]) (fun(⟨i,A,ca,xs⟩:Nat×Option Addr×Nat×List Value)=>l.length - i) (0,_,_,[]) (⟨by show 0≤_;omega,rfl,by simp⟩) (eC Z (eN _)) Z ?_ (eC Z (eC Z (eC Z (eN _))))
 intro ⟨i,A,ca,xs⟩ hI K hK
 change Run _ _ _ _ _ [(33,_),(32,_),(31,_),(6,_)] [_,_] (_)
 obtain⟨hi,hxs,hsz⟩:=hI
 refine rO 3 Z (yJ Z Z Z ?_)
 refine oR 2 Z (zN Z (fun h34=>?_) (fun h34=>?_))
 ·refine rO 6 Z (wY 1 cy Z Z Z Z h34 ?_)
  refine tE 1 i Z (ga h34) (fun b1=>?_)
  refine rL 1 Z (fun A1 cap1 ht1 hv1 hl1 hc1=>?_)
  refine zA (yH dU Z Z (fun _ h=>tF h (j:=2) Z) ?_)
  refine oO 10 Z (zC wR Z Z ?_)
  refine zA (zH 0 dZ Z Z Z Z ?_)
  refine oR 10 Z (yO yE ?_)
  refine zR (tP 1 Z cK (zZ Z) ?_)
  refine tP 2 Z cK (xA Z) (tP 3 Z cK (zY vB Z) ?_)
  refine yF (tM 0 Z cK (yR 0 dN Z Z Z) ?_)
  refine tM 4 Z cK (uI 0 dK Z Z Z) (zL 5 aD ?_)
  refine zO (I2:=[[0],[],[]]) Z cK aD (fun Kd hKd=>?_)
  refine zM cX Z Z Z Z Z (fun b48=>?_)
  refine hKd _ _ _ (hC (zD (zD (zP)))) (zL 6 aD ?_)
  refine zO (I2:=[[],[],[]]) Z cK aD (fun Kd hKd=>?_)
  refine cf 2 0 cX (fun A49 c49=>?_)
  refine hKd _ _ _ (zD (zD (zD (zP)))) (zL 7 aD ?_)
  refine zO (I2:=[[],[],[]]) Z cK aD (fun Kd hKd=>?_)
  refine zF 1 (M':=[_,HA.blk _ [_] _,_]) Z Z Z Z fF Z Z Z (hKd _ _ _ (zD (zD (zD (zP)))) ?_)
  refine yG aD (rK 0 [33,32,31,6] Z Z ?_)
  refine rO 4 Z (yB Z Z aC ?_)
  refine oR 3 Z ?_
  exact kQ (hK (i+1,_,_,xs++[.string (l[i]'h34)]) (⟨by show i+1≤_;omega,by rw [hxs];exact lJ h34,nR h34 hsz hv1⟩) ay) (eC Z (eC Z (eC Z (eC Z (eN _)))))
 refine rO 4 Z (yX Z Z (Hh ..) ?_)
 refine zA (yK Z Z Z (fun b52=>?_))
 refine oO 10 Z (zC kJ Z Z ?_)
 refine zA (zF 0 (M':=[HA.blk _ [_,_] _,_,_]) Z Z Z Z zk Z Z Z ?_)
 refine oK 1 [9] Z Z (rR 7 Z ?_)
 obtain rfl:i=l.length:=by omega
 rw [List.take_length]at hxs hsz
 refine wP 2 l Z aG hxs hsz (xT 1 Z aG ?_)
 refine xT 0 Z aG (yM (.fv (cW b52) (.tyL l)) (fun w ok h=>⟨b52,_,_,rfl,dget h 0 Z,sG (dget h 1 Z) Z,dget h 2 Z⟩) ?_)
 exact zE Tryz.results144 Z ⟨rfl,_,rfl,rfl⟩ nS (cS 0 Z)
theorem M8(sp:Value)(nb:Nat)(l:List EV)(hl:l.length≤1000000):CtR Tryz.prog 143 #[sp,cW nb] [.node nb (.mk 2 iA ⟨#[]⟩ (l.map BI))] (RF (.enums l)):=by
 refine Ct.of_run (args:=[sp,cW nb]) Tryz.func143 aF Z Tryz.ntmps143 Z (fun c=>?_)
 refine wF 0 Z (fun A0 cap0 ht0 hv0 hl0 hc0=>?_)
 rw [List.length_map]
 rw [List.length_map]at hl0
 unfold maxLen at hc0
 refine rO 8 Z (wI mz Z Z Z (fun b10=>?_))
 refine zA (zS KZ Z (fun b5=>?_))
 change cL _ _ _ _ _ _ _ _ (HA.blk _ [_] _::_) _
 refine zA (zF 0 (M':=[HA.blk _ [_] _,_]) Z Z Z Z C5 Z Z Z ?_)
 refine oO 9 Z (zC wR Z Z ?_)
 refine zA (zH 0 dZ Z Z Z Z ?_)
 refine oO 17 Z (zC wS Z Z ?_)
 refine zA (zH 0 dg Z Z Z Z ?_)
 refine zA (yA cy Z Z ?_)
 refine oK 3 [22,21,20,5] Z Z (rK 1 [22,21,20,5] Z Z ?_)
 refine yM (.evs [] (l.take 0)) (fun w ok h=>⟨rfl,fun i e hi=>by simp at hi⟩) ?_
 refine yL 1 (fun(⟨i,A,ca,xs⟩:Nat×Option Addr×Nat×List Value)=>i≤l.length) (fun(⟨i,A,ca,xs⟩:Nat×Option Addr×Nat×List Value)=>[(22, .int .i64 ((i:Nat):Int))]) (fun(⟨i,A,ca,xs⟩:Nat×Option Addr×Nat×List Value)=>HA.blk b5 [.slice A i ca] 221::HA.row A i ca 223 2 xs::[]) (fun(⟨i,A,ca,xs⟩:Nat×Option Addr×Nat×List Value)=> .evs xs (l.take i):: .dblk nb (da 2 iA ⟨#[]⟩ A0 l.length cap0) 150:: .kids (.slice A0 l.length cap0) (l.map BI):: .node nb (.mk 2 iA ⟨#[]⟩ (l.map BI))::[]) (fun(⟨i,A,ca,xs⟩:Nat×Option Addr×Nat×List Value)=>l.length - i) (0,_,_,[]) bq (eC Z (eN _)) Z Z ?_ (eC Z (eC Z (eC Z (eN _))))
 intro ⟨i,A,ca,xs⟩ hI K hK
 replace hI:i≤l.length:=hI
 change Run _ _ _ _ _ [(22,_),(21,_),(20,_),(5,_)] [_,_] [_,_,_,_]
 refine rO 3 Z (yJ Z Z Z ?_)
 refine oR 2 Z (zN Z (fun h23=>?_) (fun h23=>?_))
 ·refine rO 6 Z (wY 2 cy Z Z Z Z h23 ?_)
  refine tE 2 i Z (ga h23) (fun b1=>?_)
  refine kP 1 Z (fun A1 cap1 ht1 hv1 hl1 hc1=>?_)
  refine zA (yH dU Z Z (fun _ h=>tF h (j:=2) Z) ?_)
  refine oO 10 Z (zC wR Z Z ?_)
  refine zA (zH 0 dZ Z Z Z Z ?_)
  refine oR 9 Z (vF Z (decide_eq_true (DV _)) ?_)
  refine rO 7 Z (zC qA Z Z ?_)
  refine zA (zH 0 dK Z Z Z Z ?_)
  refine oK 1 [35,7,22,21,20,5] Z Z (rR 8 Z ?_)
  refine zN Z (fun h36=>?_) (fun h36=>?_)
  ·obtain⟨s9,he⟩:=Fx h36
   refine yO yE (zR ?_)
   refine tP 1 Z cK (zZ Z) (tP 2 Z cK (xA Z) ?_)
   refine tP 3 Z cK (zY vB Z) (yF ?_)
   refine tM 0 Z cK (yR 0 C4 Z Z Z) (tM 4 Z cK (sU Z (Fq ..)) ?_)
   refine zL 5 aD ?_
   refine zO (I2:=[[0],[],[]]) Z cK aD (fun Kd hKd=>?_)
   refine zM mz Z Z Z Z Z (fun b43=>?_)
   refine hKd _ _ _ (hC (zD (zD (zP)))) (zL 6 aD ?_)
   refine zO (I2:=[[],[],[]]) Z cK aD (fun Kd hKd=>?_)
   refine cf 2 0 mz (fun A44 c44=>?_)
   refine hKd _ _ _ (zD (zD (zD (zP)))) (zL 7 aD ?_)
   refine zO (I2:=[[],[],[]]) Z cK aD (fun Kd hKd=>?_)
   refine zF 1 (M':=[_,HA.blk _ [_] _,_]) Z Z Z Z C5 Z Z Z (hKd _ _ _ (zD (zD (zD (zP)))) ?_)
   refine yG aD (rK 0 [22,21,20,5] Z Z ?_)
   refine rO 5 Z (yB Z Z aC ?_)
   refine oR 3 Z (yM (.evs (xs++[.pointer (some ⟨b1,3,none⟩), .pointer none]) ((l.take i)++[l[i]])) (fun w ok h=>EvsP.snoc (dget h 4 Z) (by rw [he];exact⟨_,rfl,rfl,by rw [he]at hv1;exact hv1,by have:=sG (o:=3) (dget h 0 Z) rfl;rw [he]at this;exact this⟩)) ?_)
   rw [zx h23]
   exact kQ (hK (i+1,_,_,_) bc ay) (eC Z (eC Z (eC Z (eC Z (eN _))))) (hD:=(cl 0 Z sQ))
  obtain⟨x9,he⟩:=DW h36
  refine rR 7 Z (vF Z (decide_eq_true (by rw [he];rfl)) ?_)
  refine rO 7 Z (zC vB Z Z ?_)
  refine zA (zH 0 dK Z Z Z Z ?_)
  refine zA (zK Z Z (by rw [he];rfl) (c181 x9) cZ ?_)
  refine oO 7 Z (zS Mm Z (fun b8=>?_))
  change cL _ _ _ _ _ _ _ _ (HA.blk _ [_] _::_) _
  refine zA (zF 0 (M':=[HA.blk _ [_] _,_,_]) Z Z Z Z zi Z Z Z ?_)
  refine oK 3 [8,22,21,20,5] Z Z (rO 2 Z ?_)
  refine zG 1 C4 Z Z Z Z (zA ?_)
  refine yX Z Z (Fr ..) (zA ?_)
  refine zM mz Z Z Z Z Z (fun b57=>?_)
  refine zA ?_
  refine cf 3 0 mz (fun A58 c58=>?_)
  refine zA (zF 2 (M':=[_,_,HA.blk _ [_] _,_]) Z Z Z Z C5 Z Z Z ?_)
  refine oO 6 Z (yB Z Z aC ?_)
  refine oR 3 Z (xT 1 Z aG ?_)
  refine yM (.evs (xs++[.pointer none,cW b8]) ((l.take i)++[l[i]])) (fun w ok h=>EvsP.snoc (dget h 5 Z) (by rw [he];exact⟨_,rfl,rfl,sG (dget h 0 Z) Z⟩)) ?_
  rw [zx h23]
  exact kQ (hK (i+1,_,_,_) bc ay) (eC Z (eC Z (eC Z (eC Z (eN _))))) (hD:=(cl 0 Z sQ))
 refine rR 7 Z ?_
 obtain rfl:i=l.length:=by omega
 rw [List.take_length]
 refine BJ 1 0 l Z Z aG Z (xT 0 Z aG ?_)
 exact yM (.fv (cW b5) (.enums l)) (fun w ok h=>⟨_,_,_,rfl,sG (dget h 0 Z) Z,(dget h 1 Z:(DA.evrow A ca l).p w ok)⟩) (zE Tryz.results143 Z ⟨rfl,_,rfl,rfl⟩ nS (cS 0 Z))
end Go.Jw

namespace Go.Jw
open Go Go.RowKit
def MapOk(es:Array MapEntry):Prop:= ∀ x∈es.toList,∃s,x.key= .string s
theorem MapOk.empty:MapOk #[]:=by intro x hx;cases hx
theorem MapOk.isKey{es:Array MapEntry}(h:MapOk es): ∀ x∈es.toList,MapKept.IsKey .string x.key:=by
 intro x hx
 obtain⟨s,hs⟩:=h x hx
 rw [hs];simp [MapKept.IsKey]
theorem xw{P:Program}{w:World}{mty kt et:TypeId}{r clock:Nat}{es:Array MapEntry}{s:ByteArray}{val:Value}(hm:P.underlying mty=some (.map kt et))(hk:P.underlying kt=some .string)(hb:w.heap[r]? =some (.map es clock))(hes:MapOk es):
  ∃es' clock',(Instr.mapUpdate mty (.map (some r)) (.string s) val).run P w= .ok () {w with heap:=w.heap.setIfInBounds r (.map es' clock')}∧MapOk es'∧(es= #[]→es'= #[{key:= .string s,val:=val,born:=clock}]):=by
 have hc:(Instr.checkKey false 10000 kt (.string s)).run P w= .ok () w:=MapKept.run_checkKey (k:= .string s) hk (by simp [MapKept.IsKey]) false 9999
 rcases MapKept.findNow_spec (d:= .string) (k:= .string s) (by simp [MapKept.IsKey]) es.toList 0 hes.isKey with ⟨hf,_⟩|⟨j,e,hf,hj,hke⟩
 ·refine⟨es.push {key:= .string s,val:=val,born:=clock},clock+1,?_,?_,?_⟩
  ·simp [Instr.mapUpdate,run_underlying hm,MapKept.run_getObj_map hb,hc,MapKept.run_findKey hk hf,MapKept.run_setObj_map _ hb,Result.andThen]
  ·intro x hx
   simp at hx
   rcases hx with hx|rfl
   ·exact hes x (by simpa using hx)
   ·exact⟨s,rfl⟩
  ·intro h;subst h;rfl
 ·rw [Nat.zero_add]at hf
  have hj':es[j]? =some e:=by simpa using hj
  refine⟨es.modify j (fun e=>{e with key:= .string s,val:=val}),clock,?_,?_,?_⟩
  ·have hst:(Instr.keyThatStays (.string s) (.string s)).run P w= .ok (.string s) w:=by
    have:(s==s)=true:=(MapKept.bytes_beq s s).2 rfl
    simp [Instr.keyThatStays,Instr.sameBits,this]
   simp [Instr.mapUpdate,run_underlying hm,MapKept.run_getObj_map hb,hc,MapKept.run_findKey hk hf,MapKept.run_setObj_map _ hb,Result.andThen,hj',hke,hst]
  ·intro x hx
   obtain⟨q,hq,rfl⟩:=List.getElem_of_mem hx
   simp only [Array.toList_modify,List.getElem_modify]at*
   split
   ·exact⟨s,rfl⟩
   ·exact hes _ (List.getElem_mem _)
  ·intro h;subst h;simp at hj'
section rules
variable {P:Program} {n:Nat} {F:List Nat} {c:Ctx F} {ops:Array Oper} {d:Nat} {T:TypeId} {l:List Oper} {k:List KI} {Q:Post} {e:dI} {M:List HA} {D:List DA}
theorem BK(i:Nat){x y z:Operand}{mb clock:Nat}{es:Array MapEntry}{s:ByteArray}{v:Value}{S kt et:TypeId}(hm:P.underlying S=some (.map kt et))(hk:P.underlying kt=some .string)(hx:ev e x=some (.map (some mb)))(hy:ev e y=some (.string s))(hz:ev e z=some v)
    (hi:M[i]? =some (.obj mb (.map es clock))) (hes:MapOk es) (next: ∀ es' clock',MapOk es'→(es= #[]→es'= #[{key:= .string s,val:=v,born:=clock}])→cL P n c ops l k Q e (M.set i (.obj mb (.map es' clock'))) D):
    cR P n c ops none (.mapUpdate S x y z) T l k Q e M D:=by
  intro a w hf
  have hb:w.heap[mb]? =some (.map es clock):=hf.toFitsW.mem hi
  obtain⟨es',clock',hr,h1,h2⟩:=xw (P:=P) (s:=s) (val:=v) hm hk hb hes
  have hlt:mb<w.heap.size:=rA hb
  unfold Oper.wp
  have:(execOp a.eval (dM none (.mapUpdate S x y z) T)).run P w= .ok .skip {w with heap:=w.heap.setIfInBounds mb (.map es' clock')}:=by
    simp [execOp,dM,hf.ev hx,hf.ev hy,hf.ev hz,hr]
  rw [this]
  refine next es' clock' h1 h2 _ _ (hf.world (hf.toFitsW.swapAt hi (x':= .obj mb (.map es' clock')) ?_ ?_ cB (fun b hb=> .inl hb)))
  · show(w.heap.setIfInBounds mb _)[mb]? =_
    simp [hlt]
  · refine⟨rfl,rfl,rfl,by simp,fun q hq hF=>?_⟩
    have hne:mb≠q:=by intro e;subst e;exact hF cB
    show(w.heap.setIfInBounds mb _)[q]? =_
    rw [Array.getElem?_setIfInBounds_ne hne]
end rules
end Go.Jw

namespace Go.Jw
open Go Go.RowKit Go.Proofs
set_option maxRecDepth 8000
open Go.Proofs
instance:Inhabited Prop:=⟨True⟩
noncomputable def eW:V→Prop:=V.fix (fun v f=>getV v kId=none∧ ∀ (j:Nat) k u,v.keys[j]? =some k→v.items[j]? =some u→ ∀ z∈kidsOf (cM k) u,f z)
def pc(v:V):Prop:= ∀ (j:Nat) k u,v.keys[j]? =some k→v.items[j]? =some u→ ∀ z∈kidsOf (cM k) u,eW z
theorem noId_iff(v:V):eW v↔getV v kId=none∧pc v:=by
 have:=V.fix_eq (G:=fun v f=>getV v kId=none∧ ∀ (j:Nat) k u,v.keys[j]? =some k→v.items[j]? =some u→ ∀ z∈kidsOf (cM k) u,f z) (fun t g g' h=>by
  have: ∀ (j:Nat) k u,t.items[j]? =some u→((∀ z∈kidsOf (cM k) u,g z)↔ ∀ z∈kidsOf (cM k) u,g' z):=by
   intro j k u hu
   have hs: ∀ z∈kidsOf (cM k) u,SizeOf.sizeOf z<SizeOf.sizeOf t:=fun z hz=>Nat.lt_of_le_of_lt (sO hz) (iN hu)
   exact⟨fun a z hz=>by rw [←h z (hs z hz)];exact a z hz,fun a z hz=>by rw [h z (hs z hz)];exact a z hz⟩
  apply propext
  constructor
  ·rintro ⟨h1,h2⟩;exact⟨h1,fun j k u hk hu=>(this j k u hu).1 (h2 j k u hk hu)⟩
  ·rintro ⟨h1,h2⟩;exact⟨h1,fun j k u hk hu=>(this j k u hu).2 (h2 j k u hk hu)⟩) v
 show V.fix _ v↔_
 rw [this]
 rfl
def Ko(mb:Nat)(es:Array MapEntry)(clock:Nat)(x:V)(u:Value)(M':List HA)(D':List DA):Prop:=
 ∃b G es' clock',u=cW b∧M'=[.many 124 (Gr.blks G), .obj mb (.map es' clock')]∧D'=[.graph mb G]∧Unf G x b∧MapOk es'∧(eW x→es'=es∧clock'=clock)∧
  (∀ idv,getV x kId=some idv→pc x→es= #[]→es'= #[{key:= .string idv.text,val:=cW b,born:=clock}])∧Own G [b]
def iU(ft:DA)(mb:Nat)(back:Bool)(x:V):Prop:= ∀ nb es clock,MapOk es→Ct Tryz.prog 103 #[cW nb, .map (some mb)] [.obj mb (.map es clock)] [.node nb (dA back x),ft] (Ko mb es clock x)
noncomputable abbrev gE(back:Bool)(p:ByteArray×V):ByteArray×Y:=(p.1,dA back p.2)
theorem tv(l:List (ByteArray×Y)):(l.flatMap eM).length=2*l.length:=by
  induction l with
  |nil=>rfl
  |cons a l ih=>simp [List.flatMap_cons,eM]at*;omega
theorem pd{l:List (ByteArray×Y)}{i:Nat}(h:i<l.length):(l.flatMap eM)[2*i]? =some (cc dV l[i].1):=by
  induction l generalizing i with
  |nil=>simp at h
  |cons a l ih=>
    cases i with
    |zero=>rfl
    |succ i=>
      rw [show 2*(i+1)=2*i+2 from by omega]
      simp only [List.flatMap_cons,eM,List.cons_append,List.nil_append,List.getElem?_cons_succ,List.getElem_cons_succ]
      exact ih cF
theorem pe{l:List (ByteArray×Y)}{i:Nat}(h:i<l.length):(l.flatMap eM)[2*i+1]? =some l[i].2:=by
  induction l generalizing i with
  |nil=>simp at h
  |cons a l ih=>
    cases i with
    |zero=>rfl
    |succ i=>
      rw [show 2*(i+1)+1=2*i+1+2 from by omega]
      simp only [List.flatMap_cons,eM,List.cons_append,List.nil_append,List.getElem?_cons_succ,List.getElem_cons_succ]
      exact ih cF
theorem lK(f:ByteArray×V→ByteArray×Y)(ps:List (ByteArray×V)):((ps.map f).flatMap eM).length=2*ps.length:=by rw [tv,List.length_map]
theorem rj{back:Bool}{ps:List (ByteArray×V)}{i:Nat}(h:i<ps.length):((ps.map (gE back)).flatMap eM)[2*i]? =some (cc dV ps[i].1):=by
 rw [pd cF];simp
theorem rk{back:Bool}{ps:List (ByteArray×V)}{i:Nat}(h:i<ps.length):((ps.map (gE back)).flatMap eM)[2*i+1]? =some (dA back ps[i].2):=by
 rw [pe cF];simp
theorem i8{back:Bool}{v:V}(h:v.kind=5):dA back v= .mk 4 lG ⟨#[]⟩ (((prs back v).map (gE back)).flatMap eM):=by
 rw [uJ]
 simp only [h]
 have:nK back (v.keys.zip (v.items.map (dA back)))=(prs back v).map (gE back):=by
  have h1:v.keys.zip (v.items.map (dA back))=(v.keys.zip v.items).map (gE back):=by
   rw [List.zip_map_right];rfl
  unfold nK prs
  rw [h1]
  cases back<;>simp
 rw [this]
 simp
theorem gc{back:Bool}{v:V}(h:v.kind=4):dA back v= .mk 2 iA ⟨#[]⟩ (v.items.map (dA back)):=by
 rw [uJ];simp [h]
theorem fR{back:Bool}{v:V}(h:v.kind=5):(dA back v).kind=4:=by rw [i8 h];rfl
theorem Fz{w:World}{ok:Nat→Prop}{A:Option Addr}{m c T:Nat}{xs:List Value}{bs:List Nat}(h:(HA.row A m c T 1 xs).holds w)(hok: ∀ b∈(HA.row A m c T 1 xs).foot,ok b)(hx:xs=bs.map cW):RowPtrs w ok (.slice A m c) bs:=by
 obtain⟨h1,h2,h3⟩:=tR h
 have hm:m=bs.length:=by have:=h.1;subst hx;simp at this;omega
 subst hm
 refine⟨A,c,rfl,h1,h2,fun i b hi=>?_⟩
 obtain⟨a,ha,hf,hc⟩:=h3 i (cW b) (by subst hx;simp [hi])
 exact⟨a,ha,hok _ cE,hc⟩
section rules
variable {P:Program} {n:Nat} {F:List Nat} {c:Ctx F} {k:List KI} {Q:Post} {e:dI} {M:List HA} {D:List DA}
theorem gd(i:Nat){A:Option Addr}{m cap E:Nat}{xs:List Value}(bs:List Nat)(hi:M[i]? =some (.row A m cap E 1 xs))(hF: ∀ b∈F,b∈foots (M.eraseIdx i))(hx:xs=bs.map cW)(next:Run P n c k Q e (M.eraseIdx i) (.rowp (.slice A m cap) bs::D)):Run P n c k Q e M D:=
 sD i [.rowp (.slice A m cap) bs] hF hi (fun w ok h hok hD d hd=>by
  rcases List.mem_singleton.1 hd with rfl
  exact Fz h hok hx) next
end rules
def NamP(w:World)(ok:Nat→Prop)(nbs:List Nat)(l:List (ByteArray×Nat)):Prop:=nbs.length=l.length∧ ∀ (i:Nat) (q:ByteArray×Nat) (nb:Nat),l[i]? =some q→nbs[i]? =some nb→q.1.size≤maxLen∧BlkP w ok nb [.string q.1,cW q.2] 179
def DA.nam(nbs:List Nat)(l:List (ByteArray×Nat)):DA:=⟨fun w ok=>NamP w ok nbs l,fun h1 h2 h=>⟨h.1,fun i q nb a b=>⟨(h.2 i q nb a b).1,(h.2 i q nb a b).2.mono h1 h2⟩⟩⟩
theorem NamP.snoc{w:World}{ok:Nat→Prop}{nbs:List Nat}{l:List (ByteArray×Nat)}{q:ByteArray×Nat}{nb:Nat}(h:NamP w ok nbs l)(hq:q.1.size≤maxLen)(hb:BlkP w ok nb [.string q.1,cW q.2] 179):NamP w ok (nbs++[nb]) (l++[q]):=by
 refine⟨by simp [h.1],fun i q' nb' a b=>?_⟩
 rcases Nat.lt_trichotomy i l.length with hi|hi|hi
 ·rw [List.getElem?_append_left hi]at a
  rw [List.getElem?_append_left (by rw [h.1];exact hi)]at b
  exact h.2 i q' nb' a b
 ·subst hi
  rw [List.getElem?_append_right (Nat.le_refl _)]at a
  rw [List.getElem?_append_right bI]at b
  simp at a;simp [h.1]at b
  subst a;subst b
  exact⟨hq,hb⟩
 ·rw [List.getElem?_eq_none cI]at a;cases a
theorem jA(nbs:List Nat)(b:Nat):nbs.map cW++[cW b]=(nbs++[b]).map cW:=by simp
theorem gF{α β:Type}{R:α→β→Prop}{l:List α}{ps:List β}{i:Nat}(hi:i<ps.length){q:α}(h:All2 R l (ps.take i))(hq:R q ps[i]):All2 R (l++[q]) (ps.take (i+1)):=by
 rw [List.take_add_one,List.getElem?_eq_getElem hi]
 exact h.snoc hq
theorem BL{ps:List (ByteArray×V)}{i:Nat}(hi:i<ps.length)(h: ∀ p∈ps.take (i+1),eW p.2):(∀ p∈ps.take i,eW p.2)∧eW ps[i].2:=by
 rw [List.take_add_one,List.getElem?_eq_getElem hi]at h
 exact⟨fun p hp=>h p (List.mem_append_left _ hp),h _ (List.mem_append_right _ aJ)⟩
theorem nT{ps:List V}{i:Nat}(hi:i<ps.length)(h: ∀ p∈ps.take (i+1),eW p):(∀ p∈ps.take i,eW p)∧eW ps[i]:=by
 rw [List.take_add_one,List.getElem?_eq_getElem hi]at h
 exact⟨fun p hp=>h p (List.mem_append_left _ hp),h _ (List.mem_append_right _ aJ)⟩
abbrev DY(G:Gr)(q:ByteArray×Nat)(p:ByteArray×V):Prop:=q.1=p.1∧Unf G p.2 q.2
theorem IZ{G G':Gr}{l:List (ByteArray×Nat)}{ps:List (ByteArray×V)}(h:All2 (DY G) l ps):All2 (DY (G'++G)) l ps:=h.mono fun q p _ hq=>⟨hq.1,Unf.mono (fun g hg=>List.mem_append_right _ hg) _ _ hq.2⟩
theorem Hk{G G':Gr}{l:List Nat}{ps:List V}(h:All2 (fun b x=>Unf G x b) l ps):All2 (fun b x=>Unf (G'++G) x b) l ps:=h.mono fun q p _ hq=>Unf.mono (fun g hg=>List.mem_append_right _ hg) _ _ hq
theorem DZ{G G':Gr}{x:V}{b:Nat}(h:Unf G x b):Unf (G++G') x b:=Unf.mono (fun g hg=>List.mem_append_left _ hg) _ _ h
theorem iV(G G':Gr):Gr.blks G++Gr.blks G'=Gr.blks (G++G'):=by simp [Gr.blks]
def DepP(w:World)(ok:Nat→Prop)(nbs:List Nat)(l:List (ByteArray×List ByteArray)):Prop:=nbs.length=l.length∧ ∀ (i:Nat) (q:ByteArray×List ByteArray) (nb:Nat),l[i]? =some q→nbs[i]? =some nb→
 ∃tb p2 sl2,q.1.size≤maxLen∧BlkP w ok nb [.string q.1,cW tb] 192∧BlkP w ok tb [.pointer none, .pointer (some p2)] 194∧PtsTo w ok p2 sl2∧StrsP w ok sl2 q.2
def DA.dep(nbs:List Nat)(l:List (ByteArray×List ByteArray)):DA:=⟨fun w ok=>DepP w ok nbs l,fun h1 h2 h=>⟨h.1,fun i q nb a b=>by
 obtain⟨tb,p2,sl2,a1,a2,a3,a4,a5⟩:=h.2 i q nb a b
 exact⟨tb,p2,sl2,a1,a2.mono h1 h2,a3.mono h1 h2,a4.mono h1 h2,a5.mono h1 h2⟩⟩⟩
theorem DepP.snoc{w:World}{ok:Nat→Prop}{nbs:List Nat}{l:List (ByteArray×List ByteArray)}{q:ByteArray×List ByteArray}{nb tb:Nat}{p2:Addr}{sl2:Value}(h:DepP w ok nbs l)(hq:q.1.size≤maxLen)(hb:BlkP w ok nb [.string q.1,cW tb] 192)(ht:BlkP w ok tb [.pointer none, .pointer (some p2)] 194)(hp:PtsTo w ok p2 sl2)(hs:StrsP w ok sl2 q.2):
  DepP w ok (nbs++[nb]) (l++[q]):=by
 refine⟨by simp [h.1],fun i q' nb' a b=>?_⟩
 rcases Nat.lt_trichotomy i l.length with hi|hi|hi
 ·rw [List.getElem?_append_left hi]at a
  rw [List.getElem?_append_left (by rw [h.1];exact hi)]at b
  exact h.2 i q' nb' a b
 ·subst hi
  rw [List.getElem?_append_right (Nat.le_refl _)]at a
  rw [List.getElem?_append_right bI]at b
  simp at a;simp [h.1]at b
  subst a;subst b
  exact⟨tb,p2,sl2,hq,hb,ht,hp,hs⟩
 ·rw [List.getElem?_eq_none cI]at a;cases a
theorem iW{back:Bool}{v:V}(h:v.kind=4)(h3: ∀ y∈v.items,y.kind=3):dA back v= .mk 2 iA ⟨#[]⟩ ((v.items.map V.text).map (cc dV)):=by
 rw [gc h]
 congr 1
 rw [List.map_map]
 refine List.map_congr_left fun y hy=>?_
 have:=h3 y hy
 rw [uJ]
 simp [this]
abbrev tw(p:ByteArray×V):ByteArray×List ByteArray:=(p.1,p.2.items.map V.text)

theorem NA(ft:DA)(sb nb mb:Nat)(cs:List Value)(back:Bool)(ps:List (ByteArray×V))(hl:ps.length≤1000000)(hcs:cs[0]? =some (.map (some mb)))(H: ∀ p∈ps,iU ft mb back p.2)(es:Array MapEntry)(clock:Nat)(hes:MapOk es):
  Ct Tryz.prog 141 #[cW sb,cW nb] [.blk sb cs 124, .obj mb (.map es clock)] [.node nb (.mk 4 lG ⟨#[]⟩ ((ps.map (gE back)).flatMap eM)),ft] (fun u M' D'=> ∃p G es' clock' l,u= .pointer (some p)∧M'=[.blk sb cs 124, .many 124 (Gr.blks G), .obj mb (.map es' clock')]∧D'=[.fv u (.named l), .graph mb G]∧
   All2 (DY G) l ps∧MapOk es'∧((∀ p∈ps,eW p.2)→es'=es∧clock'=clock)∧Own G (l.map (·.2))):=by
 refine Ct.of_run (args:=[cW sb,cW nb]) Tryz.func141 aF Z Tryz.ntmps141 Z (fun c=>?_)
 refine wF 0 Z (fun A0 cap0 ht0 hv0 hl0 hc0=>?_)
 rw [lK]
 rw [lK]at hl0
 unfold maxLen at hc0
 refine rO 13 Z (zC wR Z Z ?_)
 refine zA (zH 0 dZ Z Z Z Z ?_)
 refine oO 13 Z (wI eA Z Z Z (fun b16=>?_))
 refine zA (zS KU Z (fun b5=>?_))
 change cL _ _ _ _ _ _ _ _ (HA.blk _ [_] _::_) _
 refine zA (zF 0 (M':=[HA.blk _ [_] _,_,_,_]) Z Z Z Z HX Z Z Z ?_)
 refine oK 8 [6,5,0,1] Z Z (yM (.graph mb []) (fun w ok h g hg=>by cases hg) ?_)
 refine yM (.nam [] []) (fun w ok h=>⟨rfl,fun i q nb a=>by simp at a⟩) (i7 124 ?_)
 refine qQ (M':=HA.blk b5 [.slice (some ⟨b16,0,none⟩) 0 0] 110::HA.row (some ⟨b16,0,none⟩) 0 0 125 1 []::HA.many 124 []::HA.obj mb (.map es clock)::HA.blk sb cs 124::[]) ?_ ?_
 ·exact((List.Perm.swap _ _ _).trans (.cons _ (List.Perm.swap _ _ _))).trans (.cons _ (.cons _ (.cons _ (List.Perm.swap _ _ _))))
 refine yL 1 (fun(⟨i,A,ca,nbs,es1,ck1,G,l⟩:Nat×Option Addr×Nat×List Nat×Array MapEntry×Nat×Gr×List (ByteArray×Nat))=>i≤ps.length∧All2 (DY G) l (ps.take i)∧MapOk es1∧((∀ p∈ps.take i,eW p.2)→es1=es∧ck1=clock)∧Own G (l.map (·.2))) (fun(⟨i,A,ca,nbs,es1,ck1,G,l⟩:Nat×Option Addr×Nat×List Nat×Array MapEntry×Nat×Gr×List (ByteArray×Nat))=>[(6, .int .i64 ((2*i:Nat):Int))]) (fun(⟨i,A,ca,nbs,es1,ck1,G,l⟩:Nat×Option Addr×Nat×List Nat×Array MapEntry×Nat×Gr×List (ByteArray×Nat))=>HA.blk b5 [.slice A i ca] 110::HA.row A i ca 125 1 (nbs.map cW)::HA.many 124 (Gr.blks G)::HA.obj mb (.map es1 ck1)::HA.blk sb cs 124::[]) (fun(⟨i,A,ca,nbs,es1,ck1,G,l⟩:Nat×Option Addr×Nat×List Nat×Array MapEntry×Nat×Gr×List (ByteArray×Nat))=> .nam nbs l:: .graph mb G:: .dblk nb (da 4 lG ⟨#[]⟩ A0 (2*ps.length) cap0) 150:: .kids (.slice A0 (2*ps.length) cap0) ((ps.map (gE back)).flatMap eM):: .node nb (.mk 4 lG ⟨#[]⟩ ((ps.map (gE back)).flatMap eM))::ft::[]) (fun(⟨i,A,ca,nbs,es1,ck1,G,l⟩:Nat×Option Addr×Nat×List Nat×Array MapEntry×Nat×Gr×List (ByteArray×Nat))=>ps.length - i) (0,_,_,[],es,clock,[],[]) (⟨by show 0≤_;omega,All2.nil _,hes,fun _=>⟨rfl,rfl⟩,Own.nil⟩) (eC Z (eN _)) Z Z ?_ (eC Z (eC Z (eC Z (eN _))))
 intro ⟨i,A,ca,nbs,es1,ck1,G,l⟩ hI K hK
 change Run _ _ _ _ _ [(6,_),(5,_),(0,_),(1,_)] [_,_,_,_,_] [_,_,_,_,_,_]
 obtain⟨hi,hall,hok,hno,hown⟩:=hI
 refine rO 10 Z (zC wS Z Z ?_)
 refine zA (zH 2 dg Z Z Z Z ?_)
 refine zA (yA cy Z Z ?_)
 refine zA (yJ Z Z Z ?_)
 refine zX (zN Z (fun h23=>?_) (fun h23=>?_))
 ·refine rO 10 Z (zC wS Z Z ?_)
  refine zA (zH 2 dg Z Z Z Z ?_)
  refine oO 3 Z (wY (i:=2*i) 3 cy Z Z Z Z aC ?_)
  have hlt:i<ps.length:=by omega
  refine tE 3 (2*i) Z (rj hlt) (fun b1=>?_)
  refine rL 1 Z (fun A1 cap1 ht1 hv1 hl1 hc1=>?_)
  refine zA (yH dU Z Z (fun _ h=>tF h (j:=2) Z) ?_)
  refine oO 3 Z (zC vB Z Z ?_)
  refine zA (zH 0 dK Z Z Z Z ?_)
  refine oK 3 [7,6,5,0,1] Z Z (rO 7 Z ?_)
  refine zC wS Z Z (zA ?_)
  refine zH 6 dg Z Z Z Z (oO 3 Z ?_)
  refine yB Z Z aC (zA ?_)
  refine wY (i:=2*i+1) 7 cy Z Z Z Z aC (tE 7 (2*i+1) Z (rk hlt) (fun b2=>?_))
  refine zA (yH dU Z Z (fun _ h=>tF h (j:=0) Z) ?_)
  refine oO 14 Z (zC fN Z Z ?_)
  refine zA (tO 4 lm Z Z Z hcs ?_)
  refine zA (wE 3 Z Z Z (H _ (List.getElem_mem hlt) _ es1 ck1 hok) Z (dC 1 11 Z Z) (fun u50 M50 D50 hv50=>?_))
  obtain⟨b50,G50,es50,ck50,rfl,rfl,rfl,hU50,hO50,hN50,hI50⟩:=hv50
  refine zA (yX Z Z (As ..) ?_)
  refine zA (yK Z Z Z (fun b52=>?_))
  refine oK 3 [9,6,5,0,1] Z Z (rO 2 Z ?_)
  refine zG 3 ju Z Z Z Z (oO 3 Z ?_)
  refine zM eA Z Z Z Z Z (fun b55=>?_)
  refine zA ?_
  refine cf 5 0 eA (fun A56 c56=>?_)
  refine zA (zF 4 (M':=[_,_,_,_,HA.blk _ [_] _,_,_,_]) Z Z Z Z HX Z Z Z ?_)
  refine oO 6 Z (xQ (s:=((2*(i+1):Nat):Int)) Z Z Z aC aC aC ?_)
  refine oR 3 Z (xT 1 Z ba ?_)
  refine yM (.nam (nbs++[b52]) (l++[(ps[i].1,b50)])) (fun w ok h=>NamP.snoc (dget h 8 Z) hv1 (dget h 0 Z)) (rE 2 10 Z Z ?_)
  refine ep 1 4 Z Z ?_
  rw [iV,jA]
  exact kQ (hK (i+1,_,_,nbs++[b52],es50,ck50,G50++G,l++[((ps[i]'hlt).1,b50)]) (⟨by show i+1≤_;omega,gF hlt (IZ hall) ⟨rfl,DZ hU50⟩,hO50,fun h=>by obtain⟨h1,h2⟩:=BL hlt h;obtain⟨e1,e2⟩:=hno h1;obtain⟨e3,e4⟩:=hN50 h2;exact⟨e3.trans e1,e4.trans e2⟩,by rw [List.map_append];exact hown.app hI50.2⟩) (by show ps.length - (i+1)<ps.length - i;omega)) (eC Z (eC Z (eC Z (eC Z (eN _))))) (hD:=(cl 1 Z (cl 0 Z sQ)))
 refine rK 6 [4] Z Z ?_
 obtain rfl:i=ps.length:=by omega
 rw [List.take_length]at hall hno
 refine gd 1 nbs Z ba Z (xT 0 Z ba ?_)
 refine yM (.fv (cW b5) (.named l)) (fun w ok h=>⟨_,_,nbs,rfl,sG (dget h 0 Z) Z,dget h 1 Z,(dget h 2 Z:(DA.nam nbs l).p w ok).1,(dget h 2 Z:(DA.nam nbs l).p w ok).2⟩) (qQ (M':=HA.blk sb cs 124::HA.many 124 (Gr.blks G)::HA.obj mb (.map es1 ck1)::[]) ?_ ?_)
 ·exact(List.Perm.cons _ (List.Perm.swap _ _ _)).trans (List.Perm.swap _ _ _)
 exact zE Tryz.results141 Z ⟨_,G,es1,ck1,l,rfl,rfl,rfl,hall,hok,hno,hown⟩ (List.Sublist.refl _) (cl 0 Z (cS 4 Z))
theorem NB(ft:DA)(sb nb mb:Nat)(cs:List Value)(back:Bool)(xs:List V)(hl:xs.length≤1000000)(hk: ∀ x∈xs,x.kind=5)(hcs:cs[0]? =some (.map (some mb)))(H: ∀ x∈xs,iU ft mb back x)(es:Array MapEntry)(clock:Nat)(hes:MapOk es):
  Ct Tryz.prog 145 #[cW sb,cW nb] [.blk sb cs 124, .obj mb (.map es clock)] [.node nb (.mk 2 iA ⟨#[]⟩ (xs.map (dA back))),ft] (fun u M' D'=> ∃p G es' clock' bs,u= .pointer (some p)∧M'=[.blk sb cs 124, .many 124 (Gr.blks G), .obj mb (.map es' clock')]∧D'=[.fv u (.list bs), .graph mb G]∧
   All2 (fun b x=>Unf G x b) bs xs∧MapOk es'∧((∀ x∈xs,eW x)→es'=es∧clock'=clock)∧Own G bs):=by
 refine Ct.of_run (args:=[cW sb,cW nb]) Tryz.func145 aF Z Tryz.ntmps145 Z (fun c=>?_)
 refine wF 0 Z (fun A0 cap0 ht0 hv0 hl0 hc0=>?_)
 rw [List.length_map]
 rw [List.length_map]at hl0
 unfold maxLen at hc0
 refine rO 13 Z (zC wR Z Z ?_)
 refine zA (zH 0 dZ Z Z Z Z ?_)
 refine oO 13 Z (wI eH Z Z Z (fun b17=>?_))
 refine zA (zS Hd Z (fun b5=>?_))
 change cL _ _ _ _ _ _ _ _ (HA.blk _ [_] _::_) _
 refine zA (zF 0 (M':=[HA.blk _ [_] _,_,_,_]) Z Z Z Z zp Z Z Z ?_)
 refine oO 9 Z (zC wS Z Z ?_)
 refine zA (zH 0 dg Z Z Z Z ?_)
 refine zA (yA cy Z Z ?_)
 refine oK 3 [23,22,21,5,0] Z Z (rK 1 [23,22,21,5,0] Z Z ?_)
 refine yM (.graph mb []) (fun w ok h g hg=>by cases hg) (i7 124 ?_)
 refine qQ (M':=HA.blk b5 [.slice (some ⟨b17,0,none⟩) 0 0] 137::HA.row (some ⟨b17,0,none⟩) 0 0 63 1 []::HA.many 124 []::HA.obj mb (.map es clock)::HA.blk sb cs 124::[]) ?_ ?_
 ·exact((List.Perm.swap _ _ _).trans (.cons _ (List.Perm.swap _ _ _))).trans (.cons _ (.cons _ (.cons _ (List.Perm.swap _ _ _))))
 refine yL 1 (fun(⟨i,A,ca,bs,es1,ck1,G⟩:Nat×Option Addr×Nat×List Nat×Array MapEntry×Nat×Gr)=>i≤xs.length∧All2 (fun b x=>Unf G x b) bs (xs.take i)∧MapOk es1∧((∀ p∈xs.take i,eW p)→es1=es∧ck1=clock)∧Own G bs) (fun(⟨i,A,ca,bs,es1,ck1,G⟩:Nat×Option Addr×Nat×List Nat×Array MapEntry×Nat×Gr)=>[(23, .int .i64 ((i:Nat):Int))]) (fun(⟨i,A,ca,bs,es1,ck1,G⟩:Nat×Option Addr×Nat×List Nat×Array MapEntry×Nat×Gr)=>HA.blk b5 [.slice A i ca] 137::HA.row A i ca 63 1 (bs.map cW)::HA.many 124 (Gr.blks G)::HA.obj mb (.map es1 ck1)::HA.blk sb cs 124::[]) (fun(⟨i,A,ca,bs,es1,ck1,G⟩:Nat×Option Addr×Nat×List Nat×Array MapEntry×Nat×Gr)=> .graph mb G:: .dblk nb (da 2 iA ⟨#[]⟩ A0 xs.length cap0) 150:: .kids (.slice A0 xs.length cap0) (xs.map (dA back)):: .node nb (.mk 2 iA ⟨#[]⟩ (xs.map (dA back)))::ft::[]) (fun(⟨i,A,ca,bs,es1,ck1,G⟩:Nat×Option Addr×Nat×List Nat×Array MapEntry×Nat×Gr)=>xs.length - i) (0,_,_,[],es,clock,[]) (⟨by show 0≤_;omega,All2.nil _,hes,fun _=>⟨rfl,rfl⟩,Own.nil⟩) (eC Z (eN _)) Z Z ?_ (eC Z (eC Z (eC Z (eC Z (eN _)))))
 intro ⟨i,A,ca,bs,es1,ck1,G⟩ hI K hK
 change Run _ _ _ _ _ [(23,_),(22,_),(21,_),(5,_),(0,_)] [_,_,_,_,_] [_,_,_,_,_]
 obtain⟨hi,hall,hok,hno,hown⟩:=hI
 refine rO 3 Z (yJ Z Z Z ?_)
 refine oR 2 Z (zN Z (fun h24=>?_) (fun h24=>?_))
 ·refine rO 6 Z (wY 2 cy Z Z Z Z h24 ?_)
  have hlt:i<xs.length:=h24
  have hk5:=fR (back:=back) (hk _ (List.getElem_mem hlt))
  refine tE 2 i Z (ga hlt) (fun b1=>?_)
  refine kP 1 Z (fun A1 cap1 ht1 hv1 hl1 hc1=>?_)
  refine zA (yH dU Z Z (fun _ h=>tF h (j:=2) Z) ?_)
  refine oO 10 Z (zC wR Z Z ?_)
  refine zA (zH 0 dZ Z Z Z Z ?_)
  refine oK 9 [31,7,23,22,21,5,0] Z Z (vF Z (decide_eq_true hk5) ?_)
  refine rO 9 Z (zC fN Z Z ?_)
  refine zA (tO 4 lm Z Z Z hcs ?_)
  refine zA (wE 3 Z Z Z (H _ (List.getElem_mem hlt) _ es1 ck1 hok) Z (dC 3 8 Z Z) (fun u38 M38 D38 hv38=>?_))
  obtain⟨b38,G38,es38,ck38,rfl,rfl,rfl,hU38,hO38,hN38,hI38⟩:=hv38
  refine oO 5 Z (zG 2 kK Z Z Z Z ?_)
  refine oO 3 Z (zM eH Z Z Z Z Z (fun b41=>?_))
  refine zA ?_
  refine cf 4 0 eH (fun A42 c42=>?_)
  refine zA (zF 3 (M':=[_,_,_,HA.blk _ [_] _,_,_,_]) Z Z Z Z zp Z Z Z ?_)
  refine oK 1 [23,22,21,5,0] Z Z (rO 4 Z ?_)
  refine yB Z Z aC (oR 3 Z ?_)
  refine rE 0 5 Z Z (ep 1 4 Z Z ?_)
  rw [iV,jA]
  exact kQ (hK (i+1,_,_,bs++[b38],es38,ck38,G38++G) (⟨by show i+1≤_;omega,gF hlt (Hk hall) (DZ hU38),hO38,fun h=>by obtain⟨h1,h2⟩:=nT hlt h;obtain⟨e1,e2⟩:=hno h1;obtain⟨e3,e4⟩:=hN38 h2;exact⟨e3.trans e1,e4.trans e2⟩,hown.app hI38.2⟩) (by show xs.length - (i+1)<xs.length - i;omega)) (eC Z (eC Z (eC Z (eC Z (eC Z (eN _)))))) (hD:=(cl 0 Z sQ))
 refine rR 6 Z ?_
 obtain rfl:i=xs.length:=by omega
 rw [List.take_length]at hall hno
 refine gd 1 bs Z ba Z (xT 0 Z ba ?_)
 refine yM (.fv (cW b5) (.list bs)) (fun w ok h=>⟨_,_,rfl,sG (dget h 0 Z) Z,dget h 1 Z⟩) (qQ (M':=HA.blk sb cs 124::HA.many 124 (Gr.blks G)::HA.obj mb (.map es1 ck1)::[]) ?_ ?_)
 ·exact(List.Perm.cons _ (List.Perm.swap _ _ _)).trans (List.Perm.swap _ _ _)
 exact zE Tryz.results145 Z ⟨_,G,es1,ck1,bs,rfl,rfl,rfl,hall,hok,hno,hown⟩ (List.Sublist.refl _) (cl 0 Z (cS 3 Z))
theorem Kq(ft:DA)(sb nb mb:Nat)(cs:List Value)(back:Bool)(xs:List V)(hl:xs.length≤1000000)(hk: ∀ x∈xs,x.kind=5)(hcs:cs[0]? =some (.map (some mb)))(H: ∀ x∈xs,iU ft mb back x)(es:Array MapEntry)(clock:Nat)(hes:MapOk es):
  Ct Tryz.prog 139 #[cW sb,cW nb] [.blk sb cs 124, .obj mb (.map es clock)] [.node nb (.mk 2 iA ⟨#[]⟩ (xs.map (dA back))),ft] (fun u M' D'=> ∃p G es' clock' bs,u= .pointer (some p)∧M'=[.blk sb cs 124, .many 124 (Gr.blks G), .obj mb (.map es' clock')]∧D'=[.fv u (.itL bs), .graph mb G]∧
   All2 (fun b x=>Unf G x b) bs xs∧MapOk es'∧((∀ x∈xs,eW x)→es'=es∧clock'=clock)∧Own G bs):=by
 refine Ct.of_run (args:=[cW sb,cW nb]) Tryz.func139 aF Z Tryz.ntmps139 Z (fun c=>?_)
 refine wF 0 Z (fun A0 cap0 ht0 hv0 hl0 hc0=>?_)
 rw [List.length_map]
 rw [List.length_map]at hl0
 unfold maxLen at hc0
 refine rO 13 Z (zC wR Z Z ?_)
 refine zA (zH 0 dZ Z Z Z Z ?_)
 refine oO 13 Z (wI eH Z Z Z (fun b16=>?_))
 refine zA (zS Hd Z (fun b5=>?_))
 change cL _ _ _ _ _ _ _ _ (HA.blk _ [_] _::_) _
 refine zA (zF 0 (M':=[HA.blk _ [_] _,_,_,_]) Z Z Z Z zp Z Z Z ?_)
 refine oO 9 Z (zC wS Z Z ?_)
 refine zA (zH 0 dg Z Z Z Z ?_)
 refine zA (yA cy Z Z ?_)
 refine oK 3 [22,21,20,5,0] Z Z (rK 1 [22,21,20,5,0] Z Z ?_)
 refine yM (.graph mb []) (fun w ok h g hg=>by cases hg) (i7 124 ?_)
 refine qQ (M':=HA.blk b5 [.slice (some ⟨b16,0,none⟩) 0 0] 137::HA.row (some ⟨b16,0,none⟩) 0 0 63 1 []::HA.many 124 []::HA.obj mb (.map es clock)::HA.blk sb cs 124::[]) ?_ ?_
 ·exact((List.Perm.swap _ _ _).trans (.cons _ (List.Perm.swap _ _ _))).trans (.cons _ (.cons _ (.cons _ (List.Perm.swap _ _ _))))
 refine yL 1 (fun(⟨i,A,ca,bs,es1,ck1,G⟩:Nat×Option Addr×Nat×List Nat×Array MapEntry×Nat×Gr)=>i≤xs.length∧All2 (fun b x=>Unf G x b) bs (xs.take i)∧MapOk es1∧((∀ p∈xs.take i,eW p)→es1=es∧ck1=clock)∧Own G bs) (fun(⟨i,A,ca,bs,es1,ck1,G⟩:Nat×Option Addr×Nat×List Nat×Array MapEntry×Nat×Gr)=>[(22, .int .i64 ((i:Nat):Int))]) (fun(⟨i,A,ca,bs,es1,ck1,G⟩:Nat×Option Addr×Nat×List Nat×Array MapEntry×Nat×Gr)=>HA.blk b5 [.slice A i ca] 137::HA.row A i ca 63 1 (bs.map cW)::HA.many 124 (Gr.blks G)::HA.obj mb (.map es1 ck1)::HA.blk sb cs 124::[]) (fun(⟨i,A,ca,bs,es1,ck1,G⟩:Nat×Option Addr×Nat×List Nat×Array MapEntry×Nat×Gr)=> .graph mb G:: .dblk nb (da 2 iA ⟨#[]⟩ A0 xs.length cap0) 150:: .kids (.slice A0 xs.length cap0) (xs.map (dA back)):: .node nb (.mk 2 iA ⟨#[]⟩ (xs.map (dA back)))::ft::[]) (fun(⟨i,A,ca,bs,es1,ck1,G⟩:Nat×Option Addr×Nat×List Nat×Array MapEntry×Nat×Gr)=>xs.length - i) (0,_,_,[],es,clock,[]) (⟨by show 0≤_;omega,All2.nil _,hes,fun _=>⟨rfl,rfl⟩,Own.nil⟩) (eC Z (eN _)) Z Z ?_ (eC Z (eC Z (eC Z (eC Z (eN _)))))
 intro ⟨i,A,ca,bs,es1,ck1,G⟩ hI K hK
 change Run _ _ _ _ _ [(22,_),(21,_),(20,_),(5,_),(0,_)] [_,_,_,_,_] [_,_,_,_,_]
 obtain⟨hi,hall,hok,hno,hown⟩:=hI
 refine rO 3 Z (yJ Z Z Z ?_)
 refine oR 2 Z (zN Z (fun h23=>?_) (fun h23=>?_))
 ·refine rO 6 Z (wY 2 cy Z Z Z Z h23 ?_)
  have hlt:i<xs.length:=h23
  have hk5:=fR (back:=back) (hk _ (List.getElem_mem hlt))
  refine tE 2 i Z (ga hlt) (fun b1=>?_)
  refine kP 1 Z (fun A1 cap1 ht1 hv1 hl1 hc1=>?_)
  refine zA (yH dU Z Z (fun _ h=>tF h (j:=2) Z) ?_)
  refine oO 10 Z (zC wR Z Z ?_)
  refine zA (zH 0 dZ Z Z Z Z ?_)
  refine oK 9 [30,7,22,21,20,5,0] Z Z (vF Z (decide_eq_true hk5) ?_)
  refine rO 9 Z (zC fN Z Z ?_)
  refine zA (tO 4 lm Z Z Z hcs ?_)
  refine zA (wE 3 Z Z Z (H _ (List.getElem_mem hlt) _ es1 ck1 hok) Z (dC 3 8 Z Z) (fun u37 M37 D37 hv37=>?_))
  obtain⟨b37,G37,es37,ck37,rfl,rfl,rfl,hU37,hO37,hN37,hI37⟩:=hv37
  refine oO 5 Z (zG 2 kK Z Z Z Z ?_)
  refine oO 3 Z (zM eH Z Z Z Z Z (fun b40=>?_))
  refine zA ?_
  refine cf 4 0 eH (fun A41 c41=>?_)
  refine zA (zF 3 (M':=[_,_,_,HA.blk _ [_] _,_,_,_]) Z Z Z Z zp Z Z Z ?_)
  refine oK 1 [22,21,20,5,0] Z Z (rO 4 Z ?_)
  refine yB Z Z aC (oR 3 Z ?_)
  refine rE 0 5 Z Z (ep 1 4 Z Z ?_)
  rw [iV,jA]
  exact kQ (hK (i+1,_,_,bs++[b37],es37,ck37,G37++G) (⟨by show i+1≤_;omega,gF hlt (Hk hall) (DZ hU37),hO37,fun h=>by obtain⟨h1,h2⟩:=nT hlt h;obtain⟨e1,e2⟩:=hno h1;obtain⟨e3,e4⟩:=hN37 h2;exact⟨e3.trans e1,e4.trans e2⟩,hown.app hI37.2⟩) (by show xs.length - (i+1)<xs.length - i;omega)) (eC Z (eC Z (eC Z (eC Z (eC Z (eN _)))))) (hD:=(cl 0 Z sQ))
 refine rO 4 Z (yX Z Z (Fp ..) ?_)
 refine zA (yK Z Z Z (fun b44=>?_))
 refine oR 3 Z ?_
 obtain rfl:i=xs.length:=by omega
 rw [List.take_length]at hall hno
 refine gd 2 bs Z ba Z (xT 1 Z ba ?_)
 refine xT 0 Z ba (yM (.fv (cW b44) (.itL bs)) (fun w ok h=>⟨b44,_,_,rfl,dget h 0 Z,sG (dget h 1 Z) Z,dget h 2 Z⟩) ?_)
 refine qQ (M':=HA.blk sb cs 124::HA.many 124 (Gr.blks G)::HA.obj mb (.map es1 ck1)::[]) ?_ ?_
 ·exact(List.Perm.cons _ (List.Perm.swap _ _ _)).trans (List.Perm.swap _ _ _)
 exact zE Tryz.results139 Z ⟨_,G,es1,ck1,bs,rfl,rfl,rfl,hall,hok,hno,hown⟩ (List.Sublist.refl _) (cl 0 Z (cS 4 Z))
theorem Kr(sp:Value)(nb:Nat)(x:Bool):CtR Tryz.prog 138 #[sp,cW nb] [.node nb (cc eJ (tu x))] (RF (.sbB x)):=by
 refine Ct.of_run (args:=[sp,cW nb]) Tryz.func138 aF Z Tryz.ntmps138 Z (fun c=>?_)
 refine wF 0 Z (fun A0 cap0 ht0 hv0 hl0 hc0=>?_)
 refine rO 8 Z (yX Z Z (Hg ..) ?_)
 refine zA (yK Z Z Z (fun b9=>?_))
 refine oO 11 Z (zC wR Z Z ?_)
 refine zA (zH 0 dZ Z Z Z Z ?_)
 refine oO 17 Z (zC vB Z Z ?_)
 refine zA (zH 0 dK Z Z Z Z ?_)
 refine zA (zK Z Z Z (c181 x) cZ ?_)
 refine oO 7 Z (zS Mm Z (fun b6=>?_))
 change cL _ _ _ _ _ _ _ _ (HA.blk _ [_] _::_) _
 refine zA (zF 0 (M':=[HA.blk _ [_] _,_]) Z Z Z Z zi Z Z Z ?_)
 refine oK 3 [6,5] Z Z (rO 6 Z ?_)
 refine zC qx Z Z (zA ?_)
 refine zF 1 (M':=[_,HA.blk _ [_,_] _]) Z Z Z Z mw Z Z Z (oR 9 Z ?_)
 refine xT 0 Z aG (xT 0 Z aG ?_)
 exact yM (.fv (cW b9) (.sbB x)) (fun w ok h=>⟨b9,_,rfl,dget h 0 Z,sG (dget h 1 Z) Z⟩) (zE Tryz.results138 Z ⟨rfl,_,rfl,rfl⟩ nS (cS 0 Z))
theorem Ks(ft:DA)(sb nb mb:Nat)(cs:List Value)(back:Bool)(x:V)(hk:x.kind=5)(hcs:cs[0]? =some (.map (some mb)))(H:iU ft mb back x)(es:Array MapEntry)(clock:Nat)(hes:MapOk es):
  Ct Tryz.prog 138 #[cW sb,cW nb] [.blk sb cs 124, .obj mb (.map es clock)] [.node nb (dA back x),ft] (fun u M' D'=> ∃p G es' clock' b,u= .pointer (some p)∧M'=[.blk sb cs 124, .many 124 (Gr.blks G), .obj mb (.map es' clock')]∧D'=[.fv u (.sbS b), .graph mb G]∧
   Unf G x b∧MapOk es'∧(eW x→es'=es∧clock'=clock)∧Own G [b]):=by
 refine Ct.of_run (args:=[cW sb,cW nb]) Tryz.func138 aF Z Tryz.ntmps138 Z (fun c=>?_)
 have hk4:=fR (back:=back) hk
 refine kO 0 Z (fun A0 cap0 ht0 hv0 hl0 hc0=>?_)
 refine rO 8 Z (yX Z Z (Hg ..) ?_)
 refine zA (yK Z Z Z (fun b9=>?_))
 refine oO 11 Z (zC wR Z Z ?_)
 refine zA (zH 0 dZ Z Z Z Z ?_)
 refine oR 9 Z (xL Z (by rw [hk4];rfl) ?_)
 refine rK 7 [27,5,0,1] Z Z (vF Z (decide_eq_true hk4) ?_)
 refine rO 10 Z (zC fN Z Z ?_)
 refine zA (tO 1 lm Z Z Z hcs ?_)
 refine zA (wE 2 Z Z Z (H _ es clock hes) Z (dC 2 3 Z Z) (fun u35 M35 D35 hv35=>?_))
 obtain⟨b35,G35,es35,ck35,rfl,rfl,rfl,hU35,hO35,hN35,hI35⟩:=hv35
 refine oO 3 Z (zC i0 Z Z ?_)
 refine zA (zF 2 (M':=[_,_,HA.blk _ [_,_] _,_]) Z Z Z Z Fh Z Z Z ?_)
 refine oK 1 [5] Z Z (rR 8 Z ?_)
 refine xT 2 Z ba (yM (.fv (cW b9) (.sbS b35)) (fun w ok h=>⟨b9,rfl,dget h 0 Z⟩) ?_)
 refine qQ (M':=HA.blk sb cs 124::HA.many 124 (Gr.blks G35)::HA.obj mb (.map es35 ck35)::[]) ?_ ?_
 ·exact(List.Perm.cons _ (List.Perm.swap _ _ _)).trans (List.Perm.swap _ _ _)
 exact zE Tryz.results138 Z ⟨_,G35,es35,ck35,b35,rfl,rfl,rfl,hU35,hO35,hN35,hI35.2⟩ (List.Sublist.refl _) (cl 0 Z (cS 2 Z))
theorem Kt(ft:DA)(sb nb mb:Nat)(cs:List Value)(back:Bool)(x:V)(hk:x.kind=5)(hcs:cs[0]? =some (.map (some mb)))(H:iU ft mb back x)(es:Array MapEntry)(clock:Nat)(hes:MapOk es):
  Ct Tryz.prog 139 #[cW sb,cW nb] [.blk sb cs 124, .obj mb (.map es clock)] [.node nb (dA back x),ft] (fun u M' D'=> ∃p G es' clock' b,u= .pointer (some p)∧M'=[.blk sb cs 124, .many 124 (Gr.blks G), .obj mb (.map es' clock')]∧D'=[.fv u (.itS b), .graph mb G]∧
   Unf G x b∧MapOk es'∧(eW x→es'=es∧clock'=clock)∧Own G [b]):=by
 refine Ct.of_run (args:=[cW sb,cW nb]) Tryz.func139 aF Z Tryz.ntmps139 Z (fun c=>?_)
 have hk4:=fR (back:=back) hk
 refine kO 0 Z (fun A0 cap0 ht0 hv0 hl0 hc0=>?_)
 refine rO 13 Z (zC wR Z Z ?_)
 refine zA (zH 0 dZ Z Z Z Z ?_)
 refine oR 9 Z (xL Z (by rw [hk4];rfl) ?_)
 refine rR 7 Z (vF Z (decide_eq_true hk4) ?_)
 refine rO 9 Z (zC fN Z Z ?_)
 refine zA (tO 0 lm Z Z Z hcs ?_)
 refine zA (wE 1 Z Z Z (H _ es clock hes) Z (dC 2 3 Z Z) (fun u52 M52 D52 hv52=>?_))
 obtain⟨b52,G52,es52,ck52,rfl,rfl,rfl,hU52,hO52,hN52,hI52⟩:=hv52
 refine oK 3 [9] Z Z (rO 5 Z ?_)
 refine yX Z Z (Fo ..) (zA ?_)
 refine yK Z Z Z (fun b55=>?_)
 refine oR 3 Z (xT 0 Z ba ?_)
 refine yM (.fv (cW b55) (.itS b52)) (fun w ok h=>⟨b55,rfl,dget h 0 Z⟩) (qQ (M':=HA.blk sb cs 124::HA.many 124 (Gr.blks G52)::HA.obj mb (.map es52 ck52)::[]) ?_ ?_)
 ·exact(List.Perm.cons _ (List.Perm.swap _ _ _)).trans (List.Perm.swap _ _ _)
 exact zE Tryz.results139 Z ⟨_,G52,es52,ck52,b52,rfl,rfl,rfl,hU52,hO52,hN52,hI52.2⟩ (List.Sublist.refl _) (cl 0 Z (cS 2 Z))
theorem c142(sp:Value)(nb:Nat)(back:Bool)(ps:List (ByteArray×V))(hl:ps.length≤1000000)(hk: ∀ p∈ps,p.2.kind=4∧p.2.items.length≤1000000∧ ∀ y∈p.2.items,y.kind=3):CtR Tryz.prog 142 #[sp,cW nb] [.node nb (.mk 4 lG ⟨#[]⟩ ((ps.map (gE back)).flatMap eM))] (RF (.deps (ps.map tw))):=by
 refine Ct.of_run (args:=[sp,cW nb]) Tryz.func142 aF Z Tryz.ntmps142 Z (fun c=>?_)
 refine wF 0 Z (fun A0 cap0 ht0 hv0 hl0 hc0=>?_)
 rw [lK]
 rw [lK]at hl0
 unfold maxLen at hc0
 refine rO 8 Z (wI my Z Z Z (fun b14=>?_))
 refine zA (zS KV Z (fun b5=>?_))
 change cL _ _ _ _ _ _ _ _ (HA.blk _ [_] _::_) _
 refine zA (zF 0 (M':=[HA.blk _ [_] _,_]) Z Z Z Z He Z Z Z ?_)
 refine oO 9 Z (zC wR Z Z ?_)
 refine zA (zH 0 dZ Z Z Z Z ?_)
 refine oK 15 [6,5,1] Z Z (rK 1 [6,5,1] Z Z ?_)
 refine yM (.dep [] ((ps.take 0).map tw)) (fun w ok h=>⟨rfl,fun i q nb a=>by simp at a⟩) ?_
 refine yL 1 (fun(⟨i,A,ca,nbs⟩:Nat×Option Addr×Nat×List Nat)=>i≤ps.length) (fun(⟨i,A,ca,nbs⟩:Nat×Option Addr×Nat×List Nat)=>[(6, .int .i64 ((2*i:Nat):Int))]) (fun(⟨i,A,ca,nbs⟩:Nat×Option Addr×Nat×List Nat)=>HA.blk b5 [.slice A i ca] 188::HA.row A i ca 189 1 (nbs.map cW)::[]) (fun(⟨i,A,ca,nbs⟩:Nat×Option Addr×Nat×List Nat)=> .dep nbs ((ps.take i).map tw):: .dblk nb (da 4 lG ⟨#[]⟩ A0 (2*ps.length) cap0) 150:: .kids (.slice A0 (2*ps.length) cap0) ((ps.map (gE back)).flatMap eM):: .node nb (.mk 4 lG ⟨#[]⟩ ((ps.map (gE back)).flatMap eM))::[]) (fun(⟨i,A,ca,nbs⟩:Nat×Option Addr×Nat×List Nat)=>ps.length - i) (0,_,_,[]) bq (eC Z (eN _)) Z Z ?_ (eC Z (eC Z (eN _)))
 intro ⟨i,A,ca,nbs⟩ hI K hK
 replace hI:i≤ps.length:=hI
 change Run _ _ _ _ _ [(6,_),(5,_),(1,_)] [_,_] [_,_,_,_]
 refine rO 10 Z (zC wS Z Z ?_)
 refine zA (zH 1 dg Z Z Z Z ?_)
 refine zA (yA cy Z Z ?_)
 refine zA (yJ Z Z Z ?_)
 refine zX (zN Z (fun h27=>?_) (fun h27=>?_))
 ·refine rO 10 Z (zC wS Z Z ?_)
  refine zA (zH 1 dg Z Z Z Z ?_)
  refine oO 3 Z (wY (i:=2*i) 2 cy Z Z Z Z aC ?_)
  have hlt:i<ps.length:=by omega
  obtain⟨hk4,hkl,hk3⟩:=hk _ (List.getElem_mem hlt)
  have hnt:=iW (back:=back) hk4 hk3
  obtain⟨tl,htl⟩: ∃tl,tl=ps[i].2.items.map V.text:=⟨_,rfl⟩
  rw [←htl]at hnt
  have htlen:tl.length≤1000000:=by rw [htl,List.length_map];exact hkl
  refine tE 2 (2*i) Z (rj hlt) (fun b1=>?_)
  refine rL 1 Z (fun A1 cap1 ht1 hv1 hl1 hc1=>?_)
  refine zA (yH dU Z Z (fun _ h=>tF h (j:=2) Z) ?_)
  refine oO 3 Z (zC vB Z Z ?_)
  refine zA (zH 0 dK Z Z Z Z ?_)
  refine oK 3 [7,6,5,1] Z Z (rO 7 Z ?_)
  refine zC wS Z Z (zA ?_)
  refine zH 5 dg Z Z Z Z (oO 3 Z ?_)
  refine yB Z Z aC (zA ?_)
  refine wY (i:=2*i+1) 6 cy Z Z Z Z aC ?_
  refine tE 6 (2*i+1) Z (by rw [rk hlt,hnt]) (fun b2=>?_)
  refine rL 1 Z (fun A2 cap2 ht2 hv2 hl2 hc2=>?_)
  rw [List.length_map]
  rw [List.length_map]at hl2
  unfold maxLen at hc2
  refine zA (yH dU Z Z (fun _ h=>tF h (j:=2) Z) ?_)
  refine oO 10 Z (zC wR Z Z ?_)
  refine zA (zH 0 dZ Z Z Z Z ?_)
  refine oK 1 [51,8,7,6,5,1] Z Z (rO 12 Z ?_)
  refine wI cX Z Z Z (fun b54=>?_)
  refine zA (zS IG Z (fun b9=>?_))
  change cL _ _ _ _ _ _ _ _ (HA.blk _ [_] _::_) _
  refine zA (zF 0 (M':=[HA.blk _ [_] _,_,_,_]) Z Z Z Z fF Z Z Z ?_)
  refine oO 9 Z (zC wS Z Z ?_)
  refine zA (zH 0 dg Z Z Z Z ?_)
  refine zA (yA cy Z Z ?_)
  refine oK 3 [60,59,58,9,7,6,5,1] Z Z (rK 1 [60,59,58,9,7,6,5,1] Z Z ?_)
  refine iy 1 (fun(⟨j,A3,c3,xs⟩:Nat×Option Addr×Nat×List Value)=>j≤tl.length∧xs=(tl.take j).map Value.string∧ ∀ s∈tl.take j,s.size≤maxLen) (fun(⟨j,A3,c3,xs⟩:Nat×Option Addr×Nat×List Value)=>[(60, .int .i64 ((j:Nat):Int))]) (fun(⟨j,A3,c3,xs⟩:Nat×Option Addr×Nat×List Value)=>HA.blk b9 [.slice A3 j c3] 22::HA.row A3 j c3 9 1 xs::HA.blk b5 [.slice A i ca] 188::HA.row A i ca 189 1 (nbs.map cW)::[]) (fun(⟨j,A3,c3,xs⟩:Nat×Option Addr×Nat×List Value)=>tl.length - j) (0,_,_,[]) (⟨by show 0≤_;omega,rfl,by simp⟩) (eC Z (eN _)) Z ?_ (eC Z (eC Z (eC Z (eC Z (eC Z (eC Z (eC Z (eN _))))))))
  intro ⟨j,A3,c3,xs⟩ hI K hK1
  change Run _ _ _ _ _ [(60,_),(59,_),(58,_),(9,_),(7,_),(6,_),(5,_),(1,_)] [_,_,_,_] (_)
  obtain⟨hj,hxs,hsz⟩:=hI
  refine rO 3 Z (yJ Z Z Z ?_)
  refine oR 2 Z (zN Z (fun h61=>?_) (fun h61=>?_))
  ·refine rO 6 Z (wY 1 cy Z Z Z Z h61 ?_)
   refine tE 1 j Z (ga h61) (fun b3=>?_)
   refine rL 1 Z (fun A4 cap4 ht4 hv4 hl4 hc4=>?_)
   refine zA (yH dU Z Z (fun _ h=>tF h (j:=2) Z) ?_)
   refine oO 10 Z (zC wR Z Z ?_)
   refine zA (zH 0 dZ Z Z Z Z ?_)
   refine oK 1 [67,11,60,59,58,9,7,6,5,1] Z Z (rR 9 Z ?_)
   refine yO yE (zR ?_)
   refine tP 1 Z cK (zZ Z) (tP 2 Z cK (xA Z) ?_)
   refine tP 3 Z cK (zY vB Z) (yF ?_)
   refine tM 0 Z cK (yR 0 dN Z Z Z) (tM 4 Z cK (uI 0 dK Z Z Z) ?_)
   refine zL 5 aD ?_
   refine zO (I2:=[[0],[],[]]) Z cK aD (fun Kd hKd=>?_)
   refine zM cX Z Z Z Z Z (fun b75=>?_)
   refine hKd _ _ _ (hC (zD (zD (zP)))) (zL 6 aD ?_)
   refine zO (I2:=[[],[],[]]) Z cK aD (fun Kd hKd=>?_)
   refine cf 2 0 cX (fun A76 c76=>?_)
   refine hKd _ _ _ (zD (zD (zD (zP)))) (zL 7 aD ?_)
   refine zO (I2:=[[],[],[]]) Z cK aD (fun Kd hKd=>?_)
   refine zF 1 (M':=[_,HA.blk _ [_] _,_,_,_]) Z Z Z Z fF Z Z Z (hKd _ _ _ (zD (zD (zD (zP)))) ?_)
   refine yG aD (rK 0 [60,59,58,9,7,6,5,1] Z Z ?_)
   refine rO 4 Z (yB Z Z aC ?_)
   refine oR 3 Z ?_
   exact kQ (hK1 (j+1,_,_,xs++[.string (tl[j]'h61)]) (⟨by show j+1≤_;omega,by rw [hxs];exact lJ h61,nR h61 hsz hv4⟩) (by show tl.length - (j+1)<tl.length - j;omega)) (eC Z (eC Z (eC Z (eC Z (eC Z (eC Z (eC Z (eC Z (eN _)))))))))
  refine rO 4 Z (yX Z Z (Ke ..) ?_)
  refine zA (yK Z Z Z (fun b79=>?_))
  refine oO 10 Z (zC qy Z Z ?_)
  refine zA (zF 0 (M':=[HA.blk _ [_,_] _,_,_,_,_]) Z Z Z Z zk Z Z Z ?_)
  refine oK 1 [12,7,6,5,1] Z Z (rO 7 Z ?_)
  refine yX Z Z (Au ..) (zA ?_)
  refine yK Z Z Z (fun b86=>?_)
  refine oO 5 Z (zG 4 C0 Z Z Z Z ?_)
  refine oO 3 Z (zM my Z Z Z Z Z (fun b89=>?_))
  refine zA ?_
  refine cf 6 0 my (fun A90 c90=>?_)
  refine zA (zF 5 (M':=[_,_,_,_,_,HA.blk _ [_] _,_]) Z Z Z Z He Z Z Z ?_)
  refine oK 1 [6,5,1] Z Z (rO 6 Z ?_)
  refine xQ (s:=((2*(i+1):Nat):Int)) Z Z Z aC aC aC (oR 3 Z ?_)
  obtain rfl:j=tl.length:=by omega
  rw [List.take_length]at hxs hsz
  refine wP 4 tl Z aG hxs hsz (xT 3 Z aG ?_)
  refine xT 2 Z aG (xT 1 Z aG ?_)
  refine yM (.dep (nbs++[b86]) ((ps.take i).map tw++[tw ps[i]])) (fun w ok h=>DepP.snoc (dget h 12 Z) hv1 (dget h 0 Z) (dget h 1 Z) (sG (dget h 2 Z) Z) (by show StrsP w ok _ (ps[i].2.items.map V.text);rw [←htl];exact dget h 3 Z)) ?_
  rw [sX hlt,jA]
  exact kQ (hK (i+1,_,_,nbs++[b86]) bc (by show ps.length - (i+1)<ps.length - i;omega)) (eC Z (eC Z (eC Z (eN _)))) (hD:=(cl 0 Z sQ))
 refine rK 7 [4] Z Z ?_
 obtain rfl:i=ps.length:=by omega
 rw [List.take_length]
 refine gd 1 nbs Z aG Z (xT 0 Z aG ?_)
 exact yM (.fv (cW b5) (.deps (ps.map tw))) (fun w ok h=>⟨_,_,nbs,rfl,sG (dget h 0 Z) Z,dget h 1 Z,(dget h 2 Z:(DA.dep nbs (ps.map tw)).p w ok).1,(dget h 2 Z:(DA.dep nbs (ps.map tw)).p w ok).2⟩) (zE Tryz.results142 Z ⟨rfl,_,rfl,rfl⟩ nS (cS 0 Z))
end Go.Jw

namespace Go.Jw
open Go Go.RowKit Go.Proofs
set_option maxRecDepth 8000
theorem Ct.frame{P:Program}{f:FuncId}{args:Array Value}{M N:List HA}{D:List DA}{R:Value→List HA→List DA→Prop}(h:Ct P f args M D R):Ct P f args (M++N) D (fun u M' D'=> ∃M1,M'=M1++N∧R u M1 D'):=by
 refine⟨h.1,fun w ok hok hM hn hD=>?_⟩
 rw [yS]at hn
 have hn1:=List.nodup_append.1 hn
 have hltN: ∀ b∈foots N,b<w.heap.size:=fun b hb=>by
  obtain⟨x,hx,hb⟩:=rG.1 hb
  exact HA.foot_lt (hM x (List.mem_append_right _ hx)) b hb
 refine Calls.mono (h.2 w ok (fun k hk=>⟨(hok k hk).1,fun h'=>(hok k hk).2 bB⟩) (fun x hx=>hM x (List.mem_append_left _ hx)) hn1.1 hD) ?_
 rintro e w' ⟨v,M',D',rfl,hR,hchg,hm,hnd,hft,hdat⟩
 refine⟨v,M'++N,D',rfl,⟨M',rfl,hR⟩,hchg.mono (fun k _ hk=>by rw [yS];exact List.mem_append_left _ hk),?_,?_,?_,?_⟩
 ·intro x hx
  rcases List.mem_append.1 hx with hx|hx
  ·exact hm x hx
  ·have hx0:=hM x (List.mem_append_right _ hx)
   exact HA.move hx0 fun b hb=>hchg.block b (HA.foot_lt hx0 b hb) (fun h'=>hn1.2.2 b h' b (rG.2 ⟨x,hx,hb⟩) Z)
 ·rw [yS]
  refine List.nodup_append.2 ⟨hnd,hn1.2.1,?_⟩
  intro p hp q hq he
  subst he
  rcases hft p hp with h1|h1
  ·exact hn1.2.2 p h1 p hq Z
  ·exact absurd (hltN p hq) aC
 ·intro b hb
  rw [yS]at hb⊢
  rcases List.mem_append.1 hb with hb|hb
  ·exact(hft b hb).elim (fun h1=> .inl (List.mem_append_left _ h1)) .inr
  ·exact .inl (List.mem_append_right _ hb)
 ·intro x hx
  refine x.mono (fun k hk=>⟨hk.1,hk.2.1,?_⟩) (fun _ _=>rfl) (hdat x hx)
  rw [yS,List.mem_append,not_or]
  refine⟨hk.2.2,fun h'=>?_⟩
  rcases hk.1 with h1|h1
  ·exact(hok k h1).2 (by rw [yS];exact List.mem_append_right _ h')
  ·exact absurd (hltN k h') aC
def RB(mb:Nat)(es:Array MapEntry)(clock sb:Nat)(cs:List Value)(sh:Int)(x:V)(u:Value)(M':List HA)(D':List DA):Prop:=
 ∃p fv G es' clock',u= .pointer (some p)∧M'=[.blk sb cs 124, .many 124 (Gr.blks G), .obj mb (.map es' clock')]∧D'=[.fv u fv, .graph mb G]∧FvRel (fun b z=>Unf G z b) sh x fv∧MapOk es'∧((∀ z∈kidsOf sh x,eW z)→es'=es∧clock'=clock)∧Own G (db fv)
def BC(ft:DA)(back:Bool)(f:FuncId)(sh:Int)(x:V):Prop:= ∀ sb nb mb cs es clock,cs[0]? =some (.map (some mb))→MapOk es→Ct Tryz.prog f #[cW sb,cW nb] [.blk sb cs 124, .obj mb (.map es clock)] [.node nb (dA back x),ft] (RB mb es clock sb cs sh x)
theorem Ct.data{P:Program}{f:FuncId}{args:Array Value}{M:List HA}{D D2:List DA}{R:Value→List HA→List DA→Prop}(h:Ct P f args M D R)(hs: ∀ d∈D,d∈D2):Ct P f args M D2 R:=
 ⟨h.1,fun w ok hok hM hn hD=>h.2 w ok hok hM hn (fun d hd=>hD d (hs d hd))⟩
theorem Ia{sh:Int}{x:V}{fv:FVal}(h:FvRel (fun _ _=>False) sh x fv):db fv=[]:=by
  have hb: ∀ {α β:Type} {R:α→β→Prop} {l:List α} {l':List β},(∀ a b,¬ R a b)→All2 R l l'→l=[]:=by
    intro α β R l l' hR h
    cases l with
    |nil=>rfl
    |cons a l=>
      cases l' with
      |nil=>exact absurd h.1 aJ
      |cons b l'=>exact absurd (h.2 0 a b rfl rfl) (hR a b)
  cases fv with
  |sbS b=>exact h.2.2.elim
  |itS b=>exact h.2.2.elim
  |itL bs=>exact hb (fun _ _=>id) h.2.2
  |named l=>obtain⟨_,ps,_,h3⟩:=h;rw [hb (fun a b h=>h.2) h3];rfl
  |list bs=>exact hb (fun _ _=>id) h.2
  |one b=>exact h.2.elim
  |_=>rfl
theorem zy{ft:DA}{back:Bool}{f:FuncId}{sh:Int}{x:V}(h: ∀ sb nb,CtR Tryz.prog f #[cW sb,cW nb] [.node nb (dA back x),ft] (fun u D'=> ∃p fv,u= .pointer (some p)∧D'=[.fv u fv]∧FvRel (fun _ _=>False) sh x fv)):BC ft back f sh x:=by
 intro sb nb mb cs es clock hcs hes
 have hfr:Ct Tryz.prog f #[cW sb,cW nb] ([]++[.blk sb cs 124, .obj mb (.map es clock)]) [.node nb (dA back x),ft] _:=Ct.frame (N:=[.blk sb cs 124, .obj mb (.map es clock)]) (h sb nb)
 refine⟨hfr.1,fun w ok hok hM hn hD=>Calls.mono (hfr.2 w ok hok hM hn hD) ?_⟩
 rintro e w' ⟨v,M',D',rfl,⟨M1,rfl,rfl,p,fv,rfl,rfl,hrel⟩,hchg,hm,hn',hft,hd⟩
 refine⟨_,[.blk sb cs 124, .many 124 (Gr.blks []), .obj mb (.map es clock)],[.fv (.pointer (some p)) fv, .graph mb []],rfl,⟨p,fv,[],es,clock,rfl,rfl,rfl,hrel.mono (fun _ _ _ h=>h.elim),hes,fun _=>⟨rfl,rfl⟩,by rw [Ia hrel];exact Own.nil⟩,hchg,?_,?_,?_,?_⟩
 ·intro y hy
  simp only [List.mem_cons,List.not_mem_nil,or_false]at hy
  rcases hy with rfl|rfl|rfl
  ·exact hm _ aJ
  ·intro g hg;cases hg
  ·exact hm _ aJ
 ·simpa [foots,HA.foot,Gr.blks]using hn'
 ·intro b hb;exact hft b (by simpa [foots,HA.foot,Gr.blks]using hb)
 ·intro y hy
  simp only [List.mem_cons,List.not_mem_nil,or_false]at hy
  rcases hy with rfl|rfl
  ·exact(hd _ List.mem_cons_self:_)|>DA.mono _ (fun k hk=>⟨hk.1,hk.2.1,by simpa [foots,HA.foot,Gr.blks]using hk.2.2⟩) (fun _ _=>rfl)
  ·intro g hg;cases hg
theorem CtR.mono{P:Program}{f:FuncId}{args:Array Value}{D:List DA}{R R':Value→List DA→Prop}(h:CtR P f args D R)(hr: ∀ u D',R u D'→R' u D'):CtR P f args D R':=
 ⟨h.1,fun w ok hok hM hn hD=>Calls.mono (h.2 w ok hok hM hn hD) (by
  rintro e w' ⟨v,M',D',rfl,⟨h1,h2⟩,rest⟩
  exact⟨v,M',D',rfl,⟨h1,hr _ _ h2⟩,rest⟩)⟩
theorem Ct.mono{P:Program}{f:FuncId}{args:Array Value}{M:List HA}{D:List DA}{R R':Value→List HA→List DA→Prop}(h:Ct P f args M D R)(hr: ∀ u M' D',R u M' D'→R' u M' D'):Ct P f args M D R':=
 ⟨h.1,fun w ok hok hM hn hD=>Calls.mono (h.2 w ok hok hM hn hD) (by
  rintro e w' ⟨v,M',D',rfl,h2,rest⟩
  exact⟨v,M',D',rfl,hr _ _ _ h2,rest⟩)⟩
theorem lL{back:Bool}{x:V}(h:x.kind=3):dA back x=cc dV x.text:=by rw [uJ];simp [h]
theorem jZ{back:Bool}{x:V}(h:x.kind=1):dA back x=cc eJ (tu (decide (x.num=1))):=by rw [uJ];simp [h]
theorem tU{f:FuncId}{sh:Int}{x:V}{back:Bool}{ft:DA}{fv:FVal}{y:Y}(hy:dA back x=y)(h: ∀ sp nb,CtR Tryz.prog f #[sp,cW nb] [.node nb y] (RF fv))(hr:FvRel (fun _ _=>False) sh x fv):BC ft back f sh x:=
 zy fun sb nb=>by
  have h1:CtR Tryz.prog f #[cW sb,cW nb] [.node nb y,ft] (RF fv):=Ct.data (h (cW sb) nb) (fun d hd=>by rw [List.mem_singleton.1 hd];exact List.mem_cons_self)
  rw [hy]
  exact h1.mono (by rintro u D' ⟨p,rfl,rfl⟩;exact⟨p,fv,rfl,rfl,hr⟩)
theorem Pa{ft:DA}{back:Bool}{x:V}(h:x.kind=3):BC ft back 134 1 x:=tU (lL h) (fun sp nb=>M5 sp nb _ _) ⟨rfl,rfl⟩
theorem Pb{ft:DA}{back:Bool}{x:V}(h:x.kind=1):BC ft back 136 2 x:=tU (jZ h) (fun sp nb=>M6 sp nb _) ⟨rfl,rfl⟩
theorem Pc{ft:DA}{back:Bool}{x:V}(h:x.kind=4)(hl:x.items.length≤1000000)(h3: ∀ y∈x.items,y.kind=3):BC ft back 140 8 x:=tU (iW h h3) (fun sp nb=>M7 sp nb _ cA) ⟨rfl,rfl⟩
theorem Ku{ft:DA}{back:Bool}{x:V}(h:x.kind=3):BC ft back 144 12 x:=tU (lL h) (fun sp nb=>Km sp nb _ _) ⟨rfl,h,rfl⟩
theorem Kv{ft:DA}{back:Bool}{x:V}(h:x.kind=4)(hl:x.items.length≤1000000)(h3: ∀ y∈x.items,y.kind=3):BC ft back 144 12 x:=tU (iW h h3) (fun sp nb=>Kn sp nb _ cA) ⟨rfl,h,rfl⟩
theorem tx{back:Bool}{v:V}(h:v.kind=4)(h3: ∀ y∈v.items,y.kind=3∨y.kind=1):dA back v= .mk 2 iA ⟨#[]⟩ ((v.items.map DR).map BI):=by
 rw [gc h]
 congr 1
 rw [List.map_map]
 refine List.map_congr_left fun y hy=>?_
 simp only [Function.comp]
 unfold DR
 rcases h3 y hy with h1|h1
 ·rw [if_pos h1,lL h1];rfl
 ·rw [if_neg aC,jZ h1];rfl
theorem NC{ft:DA}{back:Bool}{x:V}(h:x.kind=4)(hl:x.items.length≤1000000)(h3: ∀ y∈x.items,y.kind=3∨y.kind=1):BC ft back 143 11 x:=tU (tx h h3) (fun sp nb=>M8 sp nb _ cA) ⟨rfl,rfl⟩
theorem sY(back:Bool)(v:V):(prs back v).Perm (v.keys.zip v.items):=by
 unfold prs
 split
 ·exact List.reverse_perm _
 ·exact .refl _
theorem nU{back:Bool}{v:V}{p:ByteArray×V}(h:p∈prs back v):p.2∈v.items:=(List.of_mem_zip ((sY back v).mem_iff.1 h)).2
theorem rm(back:Bool)(v:V):(prs back v).length≤v.keys.length:=by rw [(sY back v).length_eq,List.length_zip];omega
theorem ND{ft:DA}{back:Bool}{x:V}(h:x.kind=5)(hl:x.keys.length≤1000000)(h3: ∀ y∈x.items,y.kind=4∧y.items.length≤1000000∧ ∀ z∈y.items,z.kind=3):BC ft back 142 10 x:=
 tU (i8 h) (fun sp nb=>c142 sp nb back (prs back x) (Nat.le_trans (rm back x) hl) (fun p hp=>h3 _ (nU hp))) ⟨rfl,prs back x,sY back x,rfl⟩
theorem NE{ft:DA}{back:Bool}{x:V}(h:x.kind=1):BC ft back 138 6 x:=tU (jZ h) (fun sp nb=>Kr sp nb _) ⟨rfl,h,rfl⟩
theorem pf{x:V}(h:x.kind=5):kidsOf 6 x=[x]:=by simp [kidsOf,h]
theorem t8{x:V}(h:x.kind=5):kidsOf 7 x=[x]:=by simp [kidsOf,h]
theorem gf{x:V}(h:x.kind=4)(h5: ∀ y∈x.items,y.kind=5):kidsOf 7 x=x.items:=by
 simp only [kidsOf,h]
 simp
 exact h5
theorem kU{x:V}(h5: ∀ y∈x.items,y.kind=5):kidsOf 9 x=x.items:=by simp [kidsOf];exact h5
theorem eO{x:V}(h5: ∀ y∈x.items,y.kind=5):kidsOf 13 x=x.items:=by simp [kidsOf];exact h5
theorem NF{ft:DA}{back:Bool}{x:V}(h:x.kind=5)(H: ∀ mb,iU ft mb back x):BC ft back 138 6 x:=by
 intro sb nb mb cs es clock hcs hes
 refine(Ks ft sb nb mb cs back x h hcs (H mb) es clock hes).mono ?_
 rintro u M' D' ⟨p,G,es',ck',b,rfl,rfl,rfl,hU,hO,hN⟩
 exact⟨p,_,G,es',ck',rfl,rfl,rfl,⟨rfl,h,hU⟩,hO,fun hz=>hN.1 (hz x (by rw [pf h];simp)),hN.2⟩
theorem NG{ft:DA}{back:Bool}{x:V}(h:x.kind=5)(H: ∀ mb,iU ft mb back x):BC ft back 139 7 x:=by
 intro sb nb mb cs es clock hcs hes
 refine(Kt ft sb nb mb cs back x h hcs (H mb) es clock hes).mono ?_
 rintro u M' D' ⟨p,G,es',ck',b,rfl,rfl,rfl,hU,hO,hN⟩
 exact⟨p,_,G,es',ck',rfl,rfl,rfl,⟨rfl,h,hU⟩,hO,fun hz=>hN.1 (hz x (by rw [t8 h];simp)),hN.2⟩
theorem NH{ft:DA}{back:Bool}{x:V}(h:x.kind=4)(hl:x.items.length≤1000000)(h5: ∀ y∈x.items,y.kind=5)(H: ∀ y∈x.items,∀ mb,iU ft mb back y):BC ft back 139 7 x:=by
 intro sb nb mb cs es clock hcs hes
 rw [gc h]
 refine(Kq ft sb nb mb cs back x.items hl h5 hcs (fun y hy=>H y hy mb) es clock hes).mono ?_
 rintro u M' D' ⟨p,G,es',ck',b,rfl,rfl,rfl,hU,hO,hN⟩
 exact⟨p,_,G,es',ck',rfl,rfl,rfl,⟨rfl,h,hU⟩,hO,fun hz=>hN.1 (by rwa [gf h h5]at hz),hN.2⟩
theorem NI{ft:DA}{back:Bool}{x:V}(h:x.kind=4)(hl:x.items.length≤1000000)(h5: ∀ y∈x.items,y.kind=5)(H: ∀ y∈x.items,∀ mb,iU ft mb back y):BC ft back 145 13 x:=by
 intro sb nb mb cs es clock hcs hes
 rw [gc h]
 refine(NB ft sb nb mb cs back x.items hl h5 hcs (fun y hy=>H y hy mb) es clock hes).mono ?_
 rintro u M' D' ⟨p,G,es',ck',b,rfl,rfl,rfl,hU,hO,hN⟩
 exact⟨p,_,G,es',ck',rfl,rfl,rfl,⟨rfl,hU⟩,hO,fun hz=>hN.1 (by rwa [eO h5]at hz),hN.2⟩
theorem Pd{ft:DA}{back:Bool}{x:V}(h:x.kind=5)(hl:x.keys.length≤1000000)(h5: ∀ y∈x.items,y.kind=5)(H: ∀ y∈x.items,∀ mb,iU ft mb back y):BC ft back 141 9 x:=by
 intro sb nb mb cs es clock hcs hes
 rw [i8 h]
 refine(NA ft sb nb mb cs back (prs back x) (Nat.le_trans (rm back x) hl) hcs (fun p hp=>H _ (nU hp) mb) es clock hes).mono ?_
 rintro u M' D' ⟨p,G,es',ck',l,rfl,rfl,rfl,hU,hO,hN⟩
 exact⟨p,_,G,es',ck',rfl,rfl,rfl,⟨rfl,_,sY back x,hU⟩,hO,fun hz=>hN.1 (fun p hp=>hz _ (by rw [kU h5];exact nU hp)),hN.2⟩
end Go.Jw

namespace Go.Jw
open Go Go.RowKit
section rules
variable {P:Program} {n:Nat} {F:List Nat} {c:Ctx F} {ops:Array Oper} {d:Nat} {T:TypeId} {l:List Oper} {k:List KI} {Q:Post} {e:dI} {M:List HA} {D:List DA}
theorem yI{x:Operand}{p:Option Addr}{S S':TypeId}(hS:P.underlying S=some (.pointer (P.pointee S)))(hd:Nat.blt d n=true)(hx:ev e x=some (.pointer p))(next:cL P n c ops l k Q ((d, .bool p.isSome)::e) M D):
  cR P n c ops (some d) (.binOp .neq S x (.const (.pointer none)) S') T l k Q e M D:=
 xW hd (fun a w hf=>by
  have h1:=run_neq_pointer_nil (P:=P) (w:=w) S p hS
  have h2:a.eval (.const (.pointer none))= .pointer none:=rfl
  cases p<;>simp_all [execOp,dM,hf.ev hx,hZ]) next
theorem sP{x:Operand}{p:Option Addr}{S S':TypeId}(hS:P.underlying S=some (.pointer (P.pointee S)))(hd:Nat.blt d n=true)(hx:ev e x=some (.pointer p))(next:cL P n c ops l k Q ((d, .bool p.isNone)::e) M D):
  cR P n c ops (some d) (.binOp .eql S x (.const (.pointer none)) S') T l k Q e M D:=
 xW hd (fun a w hf=>by
  have h1:=run_eql_pointer_nil (P:=P) (w:=w) S p hS
  have h2:a.eval (.const (.pointer none))= .pointer none:=rfl
  cases p<;>simp_all [execOp,dM,hf.ev hx,hZ]) next
theorem xx{x:Operand}{r:Option Nat}{S S' kt et:TypeId}(hS:P.underlying S=some (.map kt et))(hd:Nat.blt d n=true)(hx:ev e x=some (.map r))(next:cL P n c ops l k Q ((d, .bool r.isNone)::e) M D):
  cR P n c ops (some d) (.binOp .eql S x (.const (.map none)) S') T l k Q e M D:=
 xW hd (fun a w hf=>by
  have h1:=run_eql_map_nil (P:=P) w S kt et r hS
  have h2:a.eval (.const (.map none))= .map none:=rfl
  have h3:(eqGuard .eql S x (.const (.map none)) (.map r) (.map none)).run P w= .ok () w:=by simp [eqGuard]
  cases r<;>simp_all [execOp,dM,hf.ev hx]) next
end rules
end Go.Jw

namespace Go.Jw
open Go Go.RowKit Go.Proofs
set_option maxRecDepth 8000
open Go.Proofs
def ua(i:Nat):FuncId:=match i with
  |1=>134
  |2=>134
  |3=>134
  |6=>135
  |7=>135
  |8=>136
  |9=>135
  |10=>136
  |11=>137
  |12=>137
  |13=>134
  |14=>138
  |15=>139
  |16=>137
  |17=>137
  |18=>136
  |19=>137
  |20=>137
  |21=>140
  |22=>138
  |23=>141
  |24=>141
  |25=>142
  |26=>143
  |27=>144
  |28=>145
  |29=>145
  |30=>145
  |32=>141
  |33=>134
  |34=>134
  |36=>134
  |_=>0
theorem dc:Tryz.prog.underlying 111=some (.pointer (Tryz.prog.pointee 111)):=by
 have h:=Tryz.underlying111
 unfold Program.pointee
 rw [h]
theorem zz:Tryz.prog.underlying 104=some (.map 9 63):=Tryz.underlying104
theorem RelAt.stepK{G G':Gr}{back:Bool}{v:V}{i k:Nat}{f:Flds}{p:ByteArray×V}{fv:FVal}(hr:RelAt G back v i f)(hp:(prs back v)[i]? =some p)(hk:kwIdx p.1=k)(hf:FvRel (fun b x=>Unf G' x b) (shIdx k) p.2 fv):RelAt (G'++G) back v (i+1) (f.set k fv):=by
 subst hk
 exact(hr.mono fun g hg=>List.mem_append_right _ hg).step hp (hf.mono fun b x _ h=>Unf.mono (fun g hg=>List.mem_append_left _ hg) _ _ h)
theorem RelAt.stepA{G:Gr}{back:Bool}{v:V}{i k:Nat}{f:Flds}{p:ByteArray×V}{fv:FVal}(hr:RelAt G back v i f)(hp:(prs back v)[i]? =some p)(hk:kwIdx p.1=k)(hf:FvRel (fun b x=>Unf G x b) (shIdx k) p.2 fv):RelAt G back v (i+1) (f.set k fv):=by
 subst hk
 exact hr.step hp hf
abbrev Ib(l:List (ByteArray×V)):Prop:= ∀ p∈l,∀ z∈kidsOf (cM p.1) p.2,eW z
theorem kV{l:List (ByteArray×V)}{i:Nat}(hi:i<l.length)(h:Ib (l.take (i+1))):Ib (l.take i)∧ ∀ z∈kidsOf (cM l[i].1) l[i].2,eW z:=by
 unfold Ib at h
 rw [List.take_add_one,List.getElem?_eq_getElem hi]at h
 exact⟨fun p hp=>h p (List.mem_append_left _ hp),h _ (List.mem_append_right _ aJ)⟩
theorem fS: ∀ (x y:List UInt8),Op.bytesLess x y=decide (x<y)
  |x,[]=>by cases x<;>simp [Op.bytesLess]
  |[],_::_=>by simp [Op.bytesLess]
  |a::x,b::y=>by
    have ih:=fS x y
    by_cases h1:a<b<;>by_cases h2:a=b<;>by_cases h3:x<y<;>simp [Op.bytesLess,ih,List.cons_lt_cons_iff,h1,h2,h3]
theorem rn{back:Bool}{v:V}(hw:Wf v)(hk5:v.kind=5)(hko:di v.keys){p:ByteArray×V}(hp:p∈prs back v):getV v p.1=some p.2:=by
  have hp':=(sY back v).mem_iff.1 hp
  obtain⟨j,hj,he⟩:=List.getElem_of_mem hp'
  have hl:=hw.eq hk5
  simp only [List.length_zip]at hj
  rw [List.getElem_zip]at he
  subst he
  have hf:dh v.keys v.keys[j]=(j:Nat):=by
    refine tc aC Z (fun q hq h=>?_)
    rw [List.getElem?_eq_getElem aC]at h
    have h1:v.keys[q]=v.keys[j]:=by simpa using h
    have hlt: ∀ a b (ha:a<v.keys.length) (hb:b<v.keys.length),a<b→v.keys[a].toList<v.keys[b].toList:=by
      intro a b ha hb hab
      induction b with
      |zero=>omega
      |succ b ih=>
        have hs:=(hko (b+1) hb).2 aC
        have h3:v.keys[b].toList<v.keys[b+1].toList:=by
          have h4: ¬ (v.keys[b+1].toList<v.keys[b].toList):=by
            have:=hs.1
            rw [fS]at this
            simpa using this
          have h5:v.keys[b].toList≠v.keys[b+1].toList:=fun h=>hs.2 (by
            have:=tC (s:=v.keys[b+1]) (t:=v.keys[b])
            rw [h]at this
            simpa using this.symm)
          rcases Nat.lt_trichotomy 0 1 with _|_|_
          · exact Classical.byContradiction fun hc=>h5 (List.le_antisymm (List.not_lt.1 h4) (List.not_lt.1 hc))
          · omega
          · omega
        rcases Nat.lt_or_eq_of_le (Nat.le_of_lt_succ hab)with h6|h6
        · exact List.lt_trans (ih aC h6) h3
        · subst h6;exact h3
    have:=hlt q j aC aC hq
    rw [h1]at this
    exact List.lt_irrefl _ this
  exact gY hf aC
theorem F0{G:Gr}{back:Bool}{v:V}{f:Flds}{b:Nat}{cs:List Value}(hw:Wf v)(hk5:v.kind=5)(hko:di v.keys)(hr:RelAt G back v (prs back v).length f)(hg:(b,cs,f)∈G):Unf G v b:=by
  have hget: ∀ p∈prs back v,getV v p.1=some p.2:=fun p hp=>rn hw hk5 hko hp
  refine(qT G v b).2 ⟨f,⟨cs,hg⟩,fun q h1 h2=>?_⟩
  have:=hr q h1 h2
  rw [List.take_length]at this
  cases hfq:f q with
  |none=>
    rw [hfq]at this
    intro key hkey
    cases hgv:getV v key with
    |none=>rfl
    |some x=>
      exfalso
      have hmem:(key,x)∈prs back v:=by
        refine(sY back v).mem_iff.2 ?_
        unfold getV at hgv
        rcases eo v.keys key with hn|⟨j,hj,hlt⟩
        · rw [if_pos hn]at hgv;cases hgv
        · rw [hj,if_neg aC]at hgv
          have hl:=hw.eq hk5
          simp only [Int.toNat_natCast]at hgv
          have hx:=(List.getElem?_eq_some_iff.1 hgv).2
          have hkj:v.keys[j]=key:=by
            have h3:dh v.keys key=(j:Nat):=hj
            unfold dh at h3
            split at h3
            · rename_i hlt3
              have h4:=List.findIdx_getElem (w:=hlt3)
              have h5:v.keys.findIdx (fun x=>decide (x=key))=j:=by omega
              simp only [h5]at h4
              simpa using h4
            · omega
          rw [←hkj,←hx]
          have:(v.keys.zip v.items)[j]'cI=(v.keys[j],v.items[j]'aC):=List.getElem_zip
          rw [←this]
          exact List.getElem_mem _
      exact this _ hmem hkey
  |some fv=>
    rw [hfq]at this
    obtain⟨p,h3,h4,h5⟩:=this
    exact⟨p.1,p.2,h4,hget p h3,h5⟩
theorem ub(w:World)(ok:Nat→Prop)(mb:Nat):CellsP w ok mb (.map (some mb)::List.replicate 36 (.pointer none)) (fun _=>none):=by
 refine⟨by simp,rfl,fun i h1 h2=>⟨.pointer none,?_,rfl⟩⟩
 obtain⟨j,rfl⟩: ∃j,i=j+1:=⟨i - 1,aC⟩
 rw [List.getElem?_cons_succ,List.getElem?_replicate,if_pos aC]
theorem Ic{w:World}{ok:Nat→Prop}{fv:FVal}{u:Value}(h:FvP w ok fv u): ∃p,u= .pointer (some p):=by
  cases fv with
  |text s=>obtain⟨p,a,_⟩:=h;exact⟨p,a⟩
  |bool x=>obtain⟨p,a,_⟩:=h;exact⟨p,a⟩
  |int n=>obtain⟨p,a,_⟩:=h;exact⟨p,a⟩
  |numI n=>obtain⟨b,p,a,_⟩:=h;exact⟨_,a⟩
  |numF n=>obtain⟨b,p,a,_⟩:=h;exact⟨_,a⟩
  |sbS c=>obtain⟨b,a,_⟩:=h;exact⟨_,a⟩
  |sbB x=>obtain⟨b,p,a,_⟩:=h;exact⟨_,a⟩
  |itS c=>obtain⟨b,a,_⟩:=h;exact⟨_,a⟩
  |itL bs=>obtain⟨b,p,sl,a,_⟩:=h;exact⟨_,a⟩
  |texts l=>obtain⟨p,sl,a,_⟩:=h;exact⟨_,a⟩
  |named l=>obtain⟨p,sl,nbs,a,_⟩:=h;exact⟨_,a⟩
  |deps l=>obtain⟨p,sl,nbs,a,_⟩:=h;exact⟨_,a⟩
  |enums l=>obtain⟨p,A,c,a,_⟩:=h;exact⟨_,a⟩
  |tyS s=>obtain⟨b,p,a,_⟩:=h;exact⟨_,a⟩
  |tyL l=>obtain⟨b,p,sl,a,_⟩:=h;exact⟨_,a⟩
  |list bs=>obtain⟨p,sl,a,_⟩:=h;exact⟨_,a⟩
  |one c=>exact⟨_,h⟩
  |any=>exact h
theorem uc{w:World}{ok:Nat→Prop}{mb:Nat}{cs:List Value}{f:Flds}(h:(DA.flds mb cs f).p w ok)(i:Nat)(h1:1≤i)(h2:i≤36): ∃q,cs[i]? =some (.pointer q)∧q.isSome=(f i).isSome:=by
  obtain⟨u,hu,hm⟩:=h.2.2 i h1 h2
  cases hf:f i with
  |none=>rw [hf]at hm;subst hm;exact⟨none,hu,rfl⟩
  |some fv=>
    rw [hf]at hm
    obtain⟨p,rfl⟩:=Ic hm
    exact⟨some p,hu,rfl⟩
theorem Id{w:World}{ok:Nat→Prop}{mb:Nat}{cs:List Value}{f:Flds}{s:ByteArray}{p:Addr}(h:(DA.flds mb cs f).p w ok)(hf:f 2=some (.text s))(hc:cs[2]? =some (.pointer (some p))):PtsTo w ok p (.string s):=by
 obtain⟨u,hu,hm⟩:=h.2.2 2 aE aE
 rw [hf]at hm
 rw [hc]at hu
 cases hu
 obtain⟨p',he,_,h3⟩:=hm
 cases he
 exact h3
theorem jB{U:Nat→V→Prop}{x:V}{fv:FVal}(h:FvRel U 1 x fv):fv= .text x.text:=by
 cases fv<;>simp_all [FvRel]
theorem Da{back:Bool}{v:V}(h:pc v):Ib (prs back v):=by
 intro p hp
 have hp':=(sY back v).mem_iff.1 hp
 obtain⟨j,hj,he⟩:=List.getElem_of_mem hp'
 simp only [List.length_zip]at hj
 rw [List.getElem_zip]at he
 subst he
 exact h j _ _ (List.getElem?_eq_getElem aC) (List.getElem?_eq_getElem aC)
theorem z0{back:Bool}{v x:V}{key:ByteArray}(hw:Wf v)(hk5:v.kind=5)(hgv:getV v key=some x):(key,x)∈prs back v:=by
  refine(sY back v).mem_iff.2 ?_
  unfold getV at hgv
  rcases eo v.keys key with hn|⟨j,hj,hlt⟩
  · rw [if_pos hn]at hgv;cases hgv
  · rw [hj,if_neg aC]at hgv
    have hl:=hw.eq hk5
    simp only [Int.toNat_natCast]at hgv
    have hx:=(List.getElem?_eq_some_iff.1 hgv).2
    have hkj:v.keys[j]=key:=by
      have h3:dh v.keys key=(j:Nat):=hj
      unfold dh at h3
      split at h3
      · rename_i hlt3
        have h4:=List.findIdx_getElem (w:=hlt3)
        have h5:v.keys.findIdx (fun x=>decide (x=key))=j:=by omega
        simp only [h5]at h4
        simpa using h4
      · omega
    rw [←hkj,←hx]
    have:(v.keys.zip v.items)[j]'cI=(v.keys[j],v.items[j]'aC):=List.getElem_zip
    rw [←this]
    exact List.getElem_mem _
theorem F1{G:Gr}{back:Bool}{v:V}{f:Flds}(hw:Wf v)(hk5:v.kind=5)(hko:di v.keys)(hr:match f 2 with
    |none=> ∀ p∈(prs back v).take (prs back v).length,kwIdx p.1≠2
    |some fv=> ∃p∈(prs back v).take (prs back v).length,kwIdx p.1=2∧FvRel (fun b x=>Unf G x b) (shIdx 2) p.2 fv) (hf:f 2=none):getV v kId=none:=by
  rw [hf]at hr
  rw [List.take_length]at hr
  cases hg:getV v kId with
  |none=>rfl
  |some x=>exact absurd (show kwIdx kId=2 by decide+kernel) (hr _ (z0 hw hk5 hg))
theorem Pe{key:ByteArray}(h:kwIdx key=2):key=kId:=xu (h.trans (by decide+kernel:2=kwIdx kId)) (by rw [h];decide)
theorem BM{ks:List ByteArray}(hko:di ks): ∀ a b (ha:a<ks.length) (hb:b<ks.length),a<b→ks[a].toList<ks[b].toList:=by
  intro a b ha hb hab
  induction b with
  |zero=>omega
  |succ b ih=>
    have hs:=(hko (b+1) hb).2 aC
    have h3:ks[b].toList<ks[b+1].toList:=by
      have h4: ¬ (ks[b+1].toList<ks[b].toList):=by
        have:=hs.1
        rw [fS]at this
        simpa using this
      have h5:ks[b].toList≠ks[b+1].toList:=fun h=>hs.2 (by
        have:=tC (s:=ks[b+1]) (t:=ks[b])
        rw [h]at this
        simpa using this.symm)
      exact Classical.byContradiction fun hc=>h5 (List.le_antisymm (List.not_lt.1 h4) (List.not_lt.1 hc))
    rcases Nat.lt_or_eq_of_le (Nat.le_of_lt_succ hab)with h6|h6
    · exact List.lt_trans (ih aC h6) h3
    · subst h6;exact h3
theorem BN{back:Bool}{v:V}(hko:di v.keys):((prs back v).map (·.1)).Nodup:=by
  have h1:v.keys.Nodup:=by
    refine List.pairwise_iff_getElem.2 fun i j hi hj hij e=>?_
    have:=BM hko i j hi hj hij
    rw [e]at this
    exact List.lt_irrefl _ this
  refine((sY back v).map _).nodup_iff.2 ?_
  refine List.Nodup.sublist ?_ h1
  have: ∀ (ks:List ByteArray) (ts:List V),List.Sublist ((ks.zip ts).map (·.1)) ks:=by
    intro ks
    induction ks with
    |nil=>intro ts;exact List.Sublist.refl _
    |cons k ks ih=>
      intro ts
      cases ts with
      |nil=>exact List.nil_sublist _
      |cons t ts=>exact(ih ts).cons_cons k
  exact this _ _
theorem ro{G:Gr}{back:Bool}{v:V}{i q:Nat}{f:Flds}(hko:di v.keys)(hlt:i<(prs back v).length)(hr:RelAt G back v i f)(h0:1≤q∧q≤36)(hkw:kwIdx (prs back v)[i].1=q):f q=none:=by
  have:=hr q h0.1 h0.2
  cases hf:f q with
  |none=>rfl
  |some fv=>
    exfalso
    rw [hf]at this
    obtain⟨p,hp,hk,_⟩:=this
    have he:p.1=(prs back v)[i].1:=(lI hk aC).trans (lI hkw aC).symm
    obtain⟨j,hj,rfl⟩:=List.getElem_of_mem hp
    rw [List.length_take]at hj
    rw [List.getElem_take]at he
    have hn:=List.pairwise_iff_getElem.1 (BN (back:=back) hko) j i bR bR aC
    exact hn (by rw [List.getElem_map,List.getElem_map];exact he)
theorem Kw{back:Bool}{v:V}{mb i q ck ck1 ck2:Nat}{cs:List Value}{f:Flds}{es es1 es2:Array MapEntry}{G G':Gr}{u:Value}{fv:FVal}(hlt:i<(prs back v).length)(hlen:cs.length=37)(hcs:cs[0]? =some (.map (some mb)))(hr:RelAt G back v i f)(h0:1≤q)(h36:q≤36)(hko:di v.keys)(hown:Own G (iR f))
  (hkw:kwIdx (prs back v)[i].1=q) (hF:FvRel (fun b x=>Unf G' x b) (shIdx q) (prs back v)[i].2 fv) (hO:MapOk es2) (hno:Ib ((prs back v).take i)→es1=es∧ck1=ck) (hN:((∀ z∈kidsOf (shIdx q) (prs back v)[i].2,eW z)→es2=es1∧ck2=ck1)∧Own G' (db fv)):
  i+1≤(prs back v).length∧(cs.set q u).length=37∧(cs.set q u)[0]? =some (.map (some mb))∧RelAt (G'++G) back v (i+1) (Flds.set f q fv)∧MapOk es2∧(Ib ((prs back v).take (i+1))→es2=es∧ck2=ck)∧Own (G'++G) (iR (Flds.set f q fv)):=by
 refine⟨hlt,by rw [List.length_set];exact hlen,by rw [List.getElem?_set_ne aC];exact hcs,hr.stepK (List.getElem?_eq_getElem hlt) hkw hF,hO,fun h=>?_,ri hown hN.2 h36 (ro hko hlt hr ⟨h0,h36⟩ hkw)⟩
 obtain⟨h1,h2⟩:=kV hlt h
 obtain⟨e1,e2⟩:=hno h1
 rw [iS bz,hkw]at h2
 obtain⟨e3,e4⟩:=hN.1 h2
 exact⟨e3.trans e1,e4.trans e2⟩

def Nm(q:Nat):Prop:=decide (1≤q∧q≤36∧q≠0∧q≠35)=true
theorem Nm.nmok{q:Nat}(h:Nm q):1≤q∧q≤36∧q≠0∧q≠35:=of_decide_eq_true h
theorem Pf{q:Nat}{key k2:ByteArray}(_:Nm q)(h:key=k2)(e:kwIdx k2=q):kwIdx key=q:=h▸e
theorem BO{P:Program}{n:Nat}{F:List Nat}{c:Ctx F}{k:List KI}{Q:Post}{e:dI}{M:List HA}{D:List DA}{q:Nat}(hq:Nm q)(i j:Nat){mb:Nat}{cs:List Value}{f:Flds}{u:Value}{v:FVal}(hi:D[i]? =some (.flds mb cs f))(hj:D[j]? =some (.fv u v))(next:Run P n c k Q e M (.flds mb (cs.set q u) (f.set q v)::D)):Run P n c k Q e M D:=nQ i j q hi hj hq.nmok.1 next
theorem sW{D D2:List DA}(h: ∀ d∈D2,d∈D:=by intro d hd;first|exact cl 1 rfl (cl 0 rfl sQ) d hd|exact cl 0 rfl (cl 9 rfl sQ) d hd|(repeat (first|exact hd|apply List.mem_cons_of_mem))): ∀ d∈D2,d∈D:=h
theorem iB{q:Nat}{X A B:Prop}(hF:cN Tryz.prog 124 q q)(si:X)(x:B)(hq:Nm q:=by exact rfl)(h:cN Tryz.prog 124 q q→X→Nm q→B→A:=by
  intro hF si hq k
  refine rR 7 Z ?_
  refine zN Z (fun h=>?_) (fun h=>rK 0 [55,8,6,5,0,1] Z Z ?_)
  rotate_left
  · revert h
    exact k
  have hkw:=Pf hq h aD
  have hB:=HB _ hmem _ rfl (by rw [hkw];decide)
  rw [hkw]at hB
  refine rO 8 Z ?_
  refine qB 0 1 Z Z Z (hB _ _ _ _ es1 ck1 hcs hok) Z Z (dC 1 11 Z Z) (fun u M D hv=>?_)
  obtain⟨p,fv,G1,es2,ck2,rfl,rfl,rfl,hF1,hO1,hN1⟩:=hv
  refine oO 3 Z ?_
  refine zC hF Z Z ?_
  refine oO 1 Z ?_
  refine rN 0 Z Z Z Z Z si aC ?_
  refine oO 7 Z ?_
  refine xQ (s:=((2*(i+1):Nat):Int)) Z Z Z aC aC aC ?_
  refine oR 3 Z ?_
  refine BO hq 8 0 Z Z ?_
  refine rE 2 10 Z Z ?_
  refine ep 1 2 Z Z ?_
  rw [iV]
  exact vX (hK (i+1,cs.set _ (.pointer (some p)),Flds.set f _ fv,es2,ck2,G1++G) (Kw hlt hlen hcs hr hq.nmok.1 hq.nmok.2.1 hko hown hkw hF1 hO1 hno hN1) (by show(prs back v).length - (i+1)<(prs back v).length - i;omega)) (eC Z (eC Z (eC Z (eC Z (eN _))))) (by repeat (first|exact wO _|exact zQ _|refine zB 0 Z ?_|refine zB 1 Z ?_|refine zB 2 Z ?_)) sW):A:=h hF si hq x

set_option maxHeartbeats 4000000 in
theorem Kx(ft:DA)(mb:Nat)(back:Bool)(v:V)(hw:Wf v)(hk5:v.kind=5)(hko:di v.keys)(HB: ∀ p∈prs back v,∀ F,ua (kwIdx p.1)=F→F≠0→BC ft back F (shIdx (kwIdx p.1)) p.2)(HN: ∀ p∈prs back v,kwIdx p.1=31→iU ft mb back p.2)
  (nb:Nat) (es:Array MapEntry) (clock:Nat) (hes:MapOk es):Ct Tryz.prog 103 #[cW nb, .map (some mb)] [.obj mb (.map es clock)] [.node nb (dA back v),ft] (Ko mb es clock v):=by
 refine Ct.of_run (args:=[cW nb, .map (some mb)]) Tryz.func103 aF Z Tryz.ntmps103 Z (fun c=>?_)
 have hkl:=hw.kl
 have hpl:=rm back v
 rw [i8 hk5]
 refine wF 0 Z (fun A0 cap0 ht0 hv0 hl0 hc0=>?_)
 rw [lK]
 rw [lK]at hl0
 unfold maxLen at hc0
 refine rO 13 Z (zC wR Z Z ?_)
 refine zA (zH 0 dZ Z Z Z Z ?_)
 refine oO 23 Z (yX Z Z (Fl ..) ?_)
 refine zA (yK Z Z Z (fun b27=>?_))
 refine oK 3 [5,0,1] Z Z (rK 7 [6,5,0,1] Z Z ?_)
 refine yM (.graph mb []) (fun w ok h g hg=>by cases hg) (yM (.flds mb (.map (some mb)::List.replicate 36 (.pointer none)) (fun _=>none)) (fun w ok h=>ub w ok mb) ?_)
 refine i7 124 (qQ (M':=HA.blk b27 (.map (some mb)::List.replicate 36 (.pointer none)) 124::HA.many 124 []::HA.obj mb (.map es clock)::[]) (List.Perm.swap _ _ _) ?_)
 refine yL 1 (fun(⟨i,cs,f,es1,ck1,G⟩:Nat×List Value×Flds×Array MapEntry×Nat×Gr)=>i≤(prs back v).length∧cs.length=37∧cs[0]? =some (.map (some mb))∧RelAt G back v i f∧MapOk es1∧(Ib ((prs back v).take i)→es1=es∧ck1=clock)∧Own G (iR f)) (fun(⟨i,cs,f,es1,ck1,G⟩:Nat×List Value×Flds×Array MapEntry×Nat×Gr)=>[(6, .int .i64 ((2*i:Nat):Int))]) (fun(⟨i,cs,f,es1,ck1,G⟩:Nat×List Value×Flds×Array MapEntry×Nat×Gr)=>HA.blk b27 cs 124::HA.many 124 (Gr.blks G)::HA.obj mb (.map es1 ck1)::[]) (fun(⟨i,cs,f,es1,ck1,G⟩:Nat×List Value×Flds×Array MapEntry×Nat×Gr)=> .flds mb cs f:: .graph mb G:: .dblk nb (da 4 lG ⟨#[]⟩ A0 (2*(prs back v).length) cap0) 150:: .kids (.slice A0 (2*(prs back v).length) cap0) (((prs back v).map (gE back)).flatMap eM):: .node nb (.mk 4 lG ⟨#[]⟩ (((prs back v).map (gE back)).flatMap eM))::ft::[]) (fun(⟨i,cs,f,es1,ck1,G⟩:Nat×List Value×Flds×Array MapEntry×Nat×Gr)=>(prs back v).length - i) (0,_,(fun _=>none),es,clock,[]) (⟨Nat.zero_le _,rfl,rfl,RelAt.zero _ _ _,hes,fun _=>⟨rfl,rfl⟩,Own.nilF⟩) (eC Z (eN _)) Z Z ?_ (eC Z (eC Z (eC Z (eN _))))
 intro ⟨i,cs,f,es1,ck1,G⟩ hI K hK
 change Run _ _ _ _ _ [(6,_),(5,_),(0,_),(1,_)] [_,_,_] [_,_,_,_,_,_]
 obtain⟨hi,hlen,hcs,hr,hok,hno,hown⟩:=hI
 refine rO 10 Z (zC wS Z Z ?_)
 refine zA (zH 2 dg Z Z Z Z ?_)
 refine zA (yA cy Z Z ?_)
 refine zA (yJ Z Z Z ?_)
 refine zX (zN Z (fun h34=>?_) (fun h34=>?_))
 ·refine rO 10 Z (zC wS Z Z ?_)
  refine zA (zH 2 dg Z Z Z Z ?_)
  refine oO 3 Z (wY (i:=2*i) 3 cy Z Z Z Z aC ?_)
  have hlt:i<(prs back v).length:=by omega
  have hmem:=List.getElem_mem hlt
  have hpi:=List.getElem?_eq_getElem hlt
  refine tE 3 (2*i) Z (rj hlt) (fun b1=>?_)
  refine rL 1 Z (fun A1 cap1 ht1 hv1 hl1 hc1=>?_)
  refine zA (yH dU Z Z (fun _ h=>tF h (j:=2) Z) ?_)
  refine oO 3 Z (zC vB Z Z ?_)
  refine zA (zH 0 dK Z Z Z Z ?_)
  refine oK 3 [7,6,5,0,1] Z Z (rO 7 Z ?_)
  refine zC wS Z Z (zA ?_)
  refine zH 6 dg Z Z Z Z (oO 3 Z ?_)
  refine yB Z Z aC (zA ?_)
  refine wY (i:=2*i+1) 7 cy Z Z Z Z aC (tE 7 (2*i+1) Z (rk hlt) (fun b2=>?_))
  refine zA (yH dU Z Z (fun _ h=>tF h (j:=0) Z) ?_)
  refine oK 8 [55,8,6,5,0,1] Z Z (ou ?_)
  refine iB jy eU ?_
  intro h56
  refine iB fO eU ?_
  intro h64
  refine iB mH o2 ?_
  intro h72
  refine iB mI o2 ?_
  intro h80
  refine iB mJ mw ?_
  intro h88
  refine iB mK o2 ?_
  intro h96
  refine iB jz mw ?_
  intro h104
  refine iB j0 fu ?_
  intro h112
  refine iB j3 fu ?_
  intro h120
  refine iB j4 eU ?_
  intro h128
  refine iB fx zj ?_
  intro h136
  refine iB rX HY ?_
  intro h144
  refine iB j5 fu ?_
  intro h152
  refine iB j7 fu ?_
  intro h160
  refine iB j9 mw ?_
  intro h168
  refine iB kA fu ?_
  intro h176
  refine iB kB fu ?_
  intro h184
  refine iB kC zk ?_
  intro h192
  refine iB en zj ?_
  intro h200
  refine iB qX o4 ?_
  intro h208
  refine iB fy o4 ?_
  intro h216
  refine iB f3 HZ ?_
  intro h224
  refine iB kD Ha ?_
  intro h232
  refine iB tK Hb ?_
  intro h240
  refine iB rY jx ?_
  intro h248
  refine iB rZ jx ?_
  intro h256
  refine iB qY jx ?_
  intro h264
  refine rR 7 Z (zN Z (fun h272=>?_) (fun h272=>?_))
  ·refine rO 10 Z (zC fN Z Z ?_)
   refine zA (tO 0 lm Z Z Z hcs ?_)
   refine zA ?_
   have hkw:kwIdx (prs back v)[i].1=31:=by rw [h272];decide+kernel
   have hB:=HN _ hmem hkw
   refine wE 2 Z Z Z (hB _ es1 ck1 hok) Z (dC 1 11 Z Z) (fun u280 M280 D280 hv280=>?_)
   obtain⟨b280,G280,es280,ck280,rfl,rfl,rfl,hU280,hO280,hN280,hI280⟩:=hv280
   refine oO 3 Z (zC f6 Z Z ?_)
   refine zA (rN 2 Z Z Z Z Z Fh aC ?_)
   refine oK 1 [6,5,0,1] Z Z (rO 6 Z ?_)
   refine xQ (s:=((2*(i+1):Nat):Int)) Z Z Z aC aC aC (oR 3 Z ?_)
   refine yM (.fv (cW b280) (.one b280)) (fun w ok h=>rfl) (nQ 8 0 31 Z Z aE ?_)
   refine rE 2 10 Z Z (ep 0 2 Z Z ?_)
   rw [iV]
   exact kQ (hK (i+1,cs.set 31 (cW b280),Flds.set f 31 (.one b280),es280,ck280,G280++G) (⟨by show i+1≤_;omega,by show(cs.set 31 _).length=37;rw [List.length_set];exact hlen,by show(cs.set 31 _)[0]? =_;rw [List.getElem?_set_ne aE];exact hcs,hr.stepK hpi hkw ⟨rfl,hU280⟩,hO280,fun h=>by obtain⟨h1,h2⟩:=kV hlt h;obtain⟨e1,e2⟩:=hno h1;rw [iS (by rw [hkw];decide),hkw]at h2;obtain⟨e3,e4⟩:=hN280 (h2 _ (by show _∈kidsOf 5 _;simp [kidsOf]));exact⟨e3.trans e1,e4.trans e2⟩,ri hown hI280.2 aE (ro hko hlt hr aE hkw)⟩) (Mr hlt)) (eC Z (eC Z (eC Z (eC Z (eN _))))) (hD:=sW)
  refine iB qZ o4 ?_
  intro h283
  refine iB kE eU ?_
  intro h291
  refine iB kF eU ?_
  intro h299
  refine rR 7 Z (zN Z (fun h307=>?_) (fun h307=>?_))
  ·refine rO 8 Z (zC mx Z Z ?_)
   refine zA (rN 0 Z Z Z Z Z HW aC ?_)
   refine oK 1 [6,5,0,1] Z Z (rO 6 Z ?_)
   refine xQ (s:=((2*(i+1):Nat):Int)) Z Z Z aC aC aC (oR 3 Z ?_)
   refine yM (.fv (cW b2) .any) (fun w ok h=>⟨_,rfl⟩) (nQ 7 0 35 Z Z aE ?_)
   exact kQ (hK (i+1,cs.set 35 (cW b2),Flds.set f 35 .any,es1,ck1,G) (⟨by show i+1≤_;omega,by show(cs.set 35 _).length=37;rw [List.length_set];exact hlen,by show(cs.set 35 _)[0]? =_;rw [List.getElem?_set_ne aE];exact hcs,hr.stepA hpi (by rw [h307];decide+kernel) Z,hok,fun h=>hno (kV hlt h).1,ri (G':=[]) hown Own.nil aE (ro hko hlt hr aE (by rw [h307];decide+kernel))⟩) (Mr hlt)) (eC Z (eC Z (eC Z (eC Z (eN _))))) (hD:=sW)
  refine iB kG eU ?_
  intro h313
  refine iB fP eU ?_
  intro h321
  refine rO 7 Z (xQ (s:=((2*(i+1):Nat):Int)) Z Z Z aC aC aC ?_)
  refine oR 3 Z ?_
  exact kQ (hK (i+1,cs,f,es1,ck1,G) (⟨by show i+1≤_;omega,hlen,hcs,hr.skip hpi (by unfold kwIdx;repeat rw [if_neg (by assumption)]),hok,fun h=>hno (kV hlt h).1,hown⟩) (Mr hlt)) (eC Z (eC Z (eC Z (eC Z (eN _))))) (hD:=sW)
 obtain rfl:i=(prs back v).length:=by omega
 rw [List.take_length]at hno
 have hUnf:Unf ([(b27,cs,f)]++G) v b27:=F0 (cs:=cs) hw hk5 hko (hr.mono fun g hg=>List.mem_append_right _ hg) (List.mem_append_left _ aJ)
 refine vY (p:= ∃q,cs[2]? =some (.pointer q)∧q.isSome=(f 2).isSome) (fun w ok h=>uc (dget h 0 Z) 2 aE aE) (fun⟨q2,hq2,hq2s⟩=>?_)
 refine rO 9 Z (zC fO Z Z ?_)
 refine zA (tO 0 dP Z Z Z hq2 ?_)
 refine zA (yI dc Z Z ?_)
 refine oK 1 [333,5,1] Z Z (zW Z (fun h333=>?_) (fun h333=>?_))
 ·obtain⟨p9,rfl⟩: ∃p9,q2=some p9:=Option.isSome_iff_exists.1 h333
  obtain⟨fv2,hf2⟩: ∃fv2,f 2=some fv2:=Option.isSome_iff_exists.1 (hq2s.symm.trans h333)
  have hrel:=hr 2 aE aE
  rw [hf2]at hrel
  obtain⟨pp,hpp,hkpp,hfpp⟩:=hrel
  rw [List.take_length]at hpp
  obtain rfl:=jB hfpp
  have hgid:getV v kId=some pp.2:=by rw [←Pe hkpp];exact rn hw hk5 hko hpp
  refine yM (.pts p9 (.string pp.2.text)) (fun w ok h=>Id (dget h 0 Z) hf2 hq2) (rO 6 Z ?_)
  refine xx zz Z Z (oO 11 Z ?_)
  refine zC fO Z Z (zA ?_)
  refine tO 0 dP Z Z Z hq2 (oO 3 Z ?_)
  refine yW 0 dK Z Z Z (oO 3 Z ?_)
  refine BK 2 zz eh Z Z Z Z hok (fun es9 ck9 hok9 hemp=>?_)
  refine oK 1 [5] Z Z (rR 7 Z ?_)
  refine nO 0 Z (ep 0 0 Z Z ?_)
  refine nP (b:=b27) 1 Z (rE 0 3 Z Z ?_)
  exact zE Tryz.results103 Z ⟨b27,[(b27,cs,f)]++G,es9,ck9,rfl,rfl,rfl,hUnf,hok9,(fun h=>by rw [((noId_iff v).1 h).1]at hgid;cases hgid),(fun idv hid hb he=>by rw [hgid]at hid;cases hid;obtain⟨e1,e2⟩:=hno (Da hb);subst e1;subst e2;exact hemp he),Own.top hown⟩ (List.Sublist.refl _) (cS 0 Z)
 refine rR 8 Z (nO 0 Z ?_)
 refine ep 0 0 Z Z (nP (b:=b27) 0 Z ?_)
 refine rE 0 2 Z Z ?_
 have hn2:f 2=none:=Option.not_isSome_iff_eq_none.1 (by rw [←hq2s,h333];exact Bool.false_ne_true)
 have hgid:getV v kId=none:=by obtain⟨f9,⟨cs9,hm9⟩,hrel⟩:=(qT _ v b27).1 hUnf;exact F1 hw hk5 hko (hr 2 aE aE) hn2
 exact zE Tryz.results103 Z ⟨b27,[(b27,cs,f)]++G,es1,ck1,rfl,rfl,rfl,hUnf,hok,(fun h=>hno (Da ((noId_iff v).1 h).2)),(fun idv hid=>by rw [hgid]at hid;cases hid),Own.top hown⟩ (List.Sublist.refl _) (cS 0 Z)
end Go.Jw

namespace Go.Jw
open Go Go.RowKit Go.Proofs
set_option maxRecDepth 8000
def BP(ft:DA):Prop:=(∀ back x,x.kind=2∨(x.kind=6∧x.num.tmod 4≠0)→NumOk x→BC ft back 135 3 x)∧ ∀ back x,x.kind=2→NumOk x→BC ft back 137 4 x
noncomputable def kW:V→Prop:=V.fix (fun v f=> ∀ (j:Nat) k u,v.keys[j]? =some k→v.items[j]? =some u→cM k≠3∧cM k≠4∧ ∀ z∈kidsOf (cM k) u,f z)
theorem gG(v:V):kW v↔ ∀ (j:Nat) k u,v.keys[j]? =some k→v.items[j]? =some u→cM k≠3∧cM k≠4∧ ∀ z∈kidsOf (cM k) u,kW z:=by
 have:=V.fix_eq (G:=fun v f=> ∀ (j:Nat) k u,v.keys[j]? =some k→v.items[j]? =some u→cM k≠3∧cM k≠4∧ ∀ z∈kidsOf (cM k) u,f z) (fun t g g' h=>by
  have: ∀ (j:Nat) k u,t.items[j]? =some u→((∀ z∈kidsOf (cM k) u,g z)↔ ∀ z∈kidsOf (cM k) u,g' z):=by
   intro j k u hu
   have hs: ∀ z∈kidsOf (cM k) u,SizeOf.sizeOf z<SizeOf.sizeOf t:=fun z hz=>Nat.lt_of_le_of_lt (sO hz) (iN hu)
   exact⟨fun a z hz=>by rw [←h z (hs z hz)];exact a z hz,fun a z hz=>by rw [h z (hs z hz)];exact a z hz⟩
  apply propext
  constructor
  ·intro h2 j k u hk hu;exact⟨(h2 j k u hk hu).1,(h2 j k u hk hu).2.1,(this j k u hu).1 (h2 j k u hk hu).2.2⟩
  ·intro h2 j k u hk hu;exact⟨(h2 j k u hk hu).1,(h2 j k u hk hu).2.1,(this j k u hu).2 (h2 j k u hk hu).2.2⟩) v
 show V.fix _ v↔_
 rw [this]
 rfl
theorem nV{back:Bool}{v:V}{p:ByteArray×V}(hp:p∈prs back v): ∃j:Nat,v.keys[j]? =some p.1∧v.items[j]? =some p.2:=by
 have hp':=(sY back v).mem_iff.1 hp
 obtain⟨j,hj,he⟩:=List.getElem_of_mem hp'
 simp only [List.length_zip]at hj
 rw [List.getElem_zip]at he
 subst he
 exact⟨j,List.getElem?_eq_getElem aC,List.getElem?_eq_getElem aC⟩
theorem Pl.frac{v:V}(h:Pl v)(hk:v.kind=6):v.num.tmod 4≠0:=by
 obtain⟨d,h⟩:=h
 obtain⟨q,m,s,ks,ts⟩:=v
 simp only [V.kind]at hk
 subst hk
 have:=(xR aE aE).1 h
 simp only [dR]at this
 simp only [V.num]
 omega
theorem Ky{ft:DA}{back:Bool}{v:V}(hN:BP ft∨kW v)(hp:Pl v)(hs:IsShape v)(sub: ∀ p∈prs back v,∀ z∈kidsOf (cM p.1) p.2,Pl z→ ∀ mb,iU ft mb back z): ∀ p∈prs back v,∀ F,ua (kwIdx p.1)=F→F≠0→BC ft back F (shIdx (kwIdx p.1)) p.2:=by
  intro p hpm F hF h0
  have hfit:=((wQ v).1 hs).2
  obtain⟨j,hj1,hj2⟩:=nV hpm
  have hx:p.2∈v.items:=List.mem_of_getElem? hj2
  have hpl:=hp.item _ hx
  have hne:kwIdx p.1≠0:=by intro h;rw [h]at hF;exact h0 hF.symm
  have hsh:=iS hne
  have hf:=(hfit j _ _ hj1 hj2).1
  have hsub:=sub p hpm
  have hnn:BP ft∨(cM p.1≠3∧cM p.1≠4):=hN.imp id fun h=>⟨((gG v).1 h j _ _ hj1 hj2).1,((gG v).1 h j _ _ hj1 hj2).2.1⟩
  rw [hsh]at hf hsub hnn
  have hw:=hpl.wf
  subst hF
  generalize hq:kwIdx p.1=q at*
  have key: ∀ (F:FuncId) (sh:Int),ua q=F→shIdx q=sh→((F=134∧sh=1)∨(F=136∧sh=2)∨(F=135∧sh=3)∨(F=137∧sh=4)∨(F=138∧sh=6)∨(F=139∧sh=7)∨(F=140∧sh=8)∨(F=141∧sh=9)∨(F=142∧sh=10)∨(F=143∧sh=11)∨(F=144∧sh=12)∨(F=145∧sh=13)):=by
    intro F sh hF hS
    subst hF;subst hS
    unfold ua at h0⊢
    unfold shIdx
    split at h0<;>simp_all
  have hK:=key _ _ rfl rfl
  generalize ua q=F at*
  generalize shIdx q=sh at*
  have hil: ∀ y∈p.2.items,y.items.length≤1000000:=fun y hy=>(hw.item y hy).il
  rcases hK with ⟨rfl,rfl⟩|⟨rfl,rfl⟩|⟨rfl,rfl⟩|⟨rfl,rfl⟩|⟨rfl,rfl⟩|⟨rfl,rfl⟩|⟨rfl,rfl⟩|⟨rfl,rfl⟩|⟨rfl,rfl⟩|⟨rfl,rfl⟩|⟨rfl,rfl⟩|⟨rfl,rfl⟩
  · exact Pa (by simpa [cT]using hf)
  · exact Pb (by simpa [cT]using hf)
  · rcases hnn with h|h
    · have hf':p.2.kind=2∨p.2.kind=6:=by simpa [cT]using hf
      exact h.1 back _ (hf'.imp id fun h6=>⟨h6,hpl.frac h6⟩) hpl.num
    · exact absurd Z h.1
  · rcases hnn with h|h
    · have hf':p.2.kind=2∧0≤p.2.num:=by simpa [cT]using hf
      exact h.2 back _ hf'.1 hpl.num
    · exact absurd Z h.2
  · have hf':p.2.kind=1∨p.2.kind=5:=by simpa [cT]using hf
    rcases hf' with h|h
    · exact NE h
    · exact NF h (hsub _ (by rw [pf h];simp) hpl)
  · have hf':p.2.kind=5∨(p.2.kind=4∧ ∀ x∈p.2.items,x.kind=5):=by simpa [cT]using hf
    rcases hf' with h|⟨h,h5⟩
    · exact NG h (hsub _ (by rw [t8 h];simp) hpl)
    · exact NH h hw.il h5 (fun y hy=>hsub y (by rw [gf h h5];exact hy) (hpl.item y hy))
  · have hf':p.2.kind=4∧ ∀ x∈p.2.items,x.kind=3:=by simpa [cT]using hf
    exact Pc hf'.1 hw.il hf'.2
  · have hf':p.2.kind=5∧ ∀ x∈p.2.items,x.kind=5:=by simpa [cT]using hf
    exact Pd hf'.1 hw.kl hf'.2 (fun y hy=>hsub y bU (hpl.item y hy))
  · have hf':p.2.kind=5∧ ∀ x∈p.2.items,x.kind=4∧ ∀ y∈x.items,y.kind=3:=by simpa [cT]using hf
    exact ND hf'.1 hw.kl (fun y hy=>⟨(hf'.2 y hy).1,hil y hy,(hf'.2 y hy).2⟩)
  · have hf':p.2.kind=4∧ ∀ x∈p.2.items,x.kind=3∨x.kind=1:=by simpa [cT]using hf
    exact NC hf'.1 hw.il hf'.2
  · have hf':p.2.kind=3∨(p.2.kind=4∧ ∀ x∈p.2.items,x.kind=3):=by simpa [cT]using hf
    rcases hf' with h|⟨h,h3⟩
    · exact Ku h
    · exact Kv h hw.il h3
  · have hf':p.2.kind=4∧ ∀ x∈p.2.items,x.kind=5:=by simpa [cT]using hf
    exact NI hf'.1 hw.il hf'.2 (fun y hy=>hsub y bS (hpl.item y hy))
theorem Kz{ft:DA}{back:Bool}{v:V}(hp:Pl v)(sub: ∀ p∈prs back v,∀ z∈kidsOf (cM p.1) p.2,Pl z→ ∀ mb,iU ft mb back z)(mb:Nat): ∀ p∈prs back v,kwIdx p.1=31→iU ft mb back p.2:=by
 intro p hpm hkw
 have hsh:=iS (key:=p.1) (by rw [hkw];decide)
 rw [hkw]at hsh
 obtain⟨j,hj1,hj2⟩:=nV hpm
 exact sub p hpm p.2 (by rw [hsh];simp [kidsOf,shIdx]) (hp.item _ (List.mem_of_getElem? hj2)) mb
theorem NJ(ft:DA)(back:Bool)(v:V):(BP ft∨kW v)→Pl v→IsShape v→ ∀ mb,iU ft mb back v:=by
 refine V.indS (p:=fun v=>(BP ft∨kW v)→Pl v→IsShape v→ ∀ mb,iU ft mb back v) (fun v IH hN hp hs mb=>?_) v
 have hk5:=hs.kind
 have hfit:=((wQ v).1 hs).2
 have sub: ∀ p∈prs back v,∀ z∈kidsOf (cM p.1) p.2,Pl z→ ∀ mb,iU ft mb back z:=by
  intro p hpm z hz hpz
  obtain⟨j,hj1,hj2⟩:=nV hpm
  refine IH z (Nat.lt_of_le_of_lt (sO hz) (iN hj2)) ?_ hpz ((hfit j _ _ hj1 hj2).2.1 z hz)
  exact hN.imp id fun h=>((gG v).1 h j _ _ hj1 hj2).2.2 z hz
 exact Kx ft mb back v hp.wf hk5 (hp.keys hk5) (Ky hN hp hs sub) (Kz hp sub mb)
def NK(v:V)(u:Value)(M':List HA)(D':List DA):Prop:= ∃b G mb es ck,u=cW b∧M'=[.many 124 (Gr.blks G), .obj mb (.map es ck)]∧D'=[.graph mb G]∧Unf G v b∧MapOk es∧(∀ idv,getV v kId=some idv→pc v→es= #[{key:= .string idv.text,val:=cW b,born:=0}])∧Own G [b]
theorem NL(ft:DA)(back:Bool)(v:V)(x:Value)(hN:BP ft∨kW v)(hp:Pl v)(hs:IsShape v):Ct Tryz.prog 57 #[x, .bool back] [] [.val x v, .tab,ft] (NK v):=by
 refine Ct.of_run (args:=[x, .bool back]) Tryz.func57 aF Z Tryz.ntmps57 Z (fun c=>?_)
 refine yP 0 Z (fun A1 c1 A2 c2 hx hsz hk1 hk2 hi1 hi2=>?_)
 subst hx
 refine rO 3 Z (yK Z Z Z (fun b2=>?_))
 refine oO 6 Z (zJ 0 Z cP Z Z ?_)
 refine oO 3 Z (zT Z Z Z (Mz v hp.wf hp.num back _) (dC 2 3 Z Z) (fun u7 D7 hv7=>?_))
 obtain⟨b7,rfl,rfl⟩:=hv7
 refine zA (xt Z (fun b8=>?_))
 refine zA (wE 0 Z Z Z (NJ ft back v hN hp hs b8 _ #[] 0 MapOk.empty) Z (dC 0 5 Z Z) (fun u9 M9 D9 hv9=>?_))
 obtain⟨b9,G9,es9,ck9,rfl,rfl,rfl,hU9,hO9,hN9,hI9⟩:=hv9
 refine oR 3 Z ?_
 exact zE Tryz.results57 Z ⟨b9,G9,b8,es9,ck9,rfl,rfl,rfl,hU9,hO9,fun idv h1 h2=>hI9.1 idv h1 h2 Z,hI9.2⟩ (by repeat (first|exact List.Sublist.refl _|apply List.Sublist.cons_cons|exact List.nil_sublist _)) (cS 0 Z)
theorem BQ(s:ByteArray)(hs:s.size≤maxLen):CtR Tryz.prog 151 #[.string s] [] (RN (cc dV s)):=by
 refine Ct.of_run (args:=[.string s]) Tryz.func151 aF Z Tryz.ntmps151 Z (fun c=>?_)
 refine rO 10 Z (yX Z Z (pA ..) ?_)
 refine zA (yK Z Z Z (fun b5=>?_))
 refine oR 3 Z (gA ?_)
 exact uN 0 0 Z Z aG aE hs (zE Tryz.results151 Z ⟨rfl,b5,rfl,rfl⟩ nS (cS 0 Z))
theorem Ie(x:Bool):CtR Tryz.prog 153 #[.bool x] [] (RN (cc eJ (tu x))):=by
 refine Ct.of_run (args:=[.bool x]) Tryz.func153 aF Z Tryz.ntmps153 Z (fun c=>?_)
 refine rO 10 Z (zK Z Z Z (Kg _) cZ ?_)
 refine zA (yX Z Z (pA ..) ?_)
 refine zA (yK Z Z Z (fun b6=>?_))
 refine oR 3 Z (gA ?_)
 exact uN 0 0 Z Z aG aE (by cases x<;>decide) (zE Tryz.results153 Z ⟨rfl,b6,rfl,rfl⟩ nS (cS 0 Z))
theorem od(A:Option Addr)(m cap nb:Nat)(xs:List Value)(s:ByteArray)(hs:s.size≤maxLen)(hm:m≤1000000):Ct Tryz.prog 150 #[.slice A m cap, .string s,cW nb] [.row A m cap 102 1 xs] []
  (fun u M' D'=> ∃A' cap' b,u= .slice A' (m+2) cap'∧M'=[.row A' (m+2) cap' 102 1 (xs++[cW b,cW nb])]∧D'=[.node b (cc dV s)]):=by
 refine Ct.of_run (args:=[.slice A m cap, .string s,cW nb]) Tryz.func150 aF Z Tryz.ntmps150 Z (fun c=>?_)
 refine rO 12 Z (zT Z Z Z (BQ s hs) cZ (fun u9 D9 hv9=>?_))
 obtain⟨b9,rfl,rfl⟩:=hv9
 refine zA (zM cy Z Z Z Z Z (fun b10=>?_))
 refine zA ?_
 refine cf 1 0 cy (fun A11 c11=>?_)
 refine oO 10 Z (zM cy Z Z Z Z Z (fun b14=>?_))
 refine zA ?_
 refine cf 2 0 cy (fun A15 c15=>?_)
 refine oK 3 [0] Z Z (rR 7 Z ?_)
 rw [List.append_assoc xs]
 exact zE Tryz.results150 Z ⟨_,_,b9,rfl,rfl,rfl⟩ ak (cS 0 Z)
def dG(k:Int)(ys:List Y):Y:= .mk k ⟨#[]⟩ ⟨#[]⟩ ys
theorem If(A:Option Addr)(m cap:Nat)(ys:List Y):CtR Tryz.prog 185 #[.slice A m cap] [.kids (.slice A m cap) ys] (RN (dG 2 ys)):=by
 refine Ct.of_run (args:=[.slice A m cap]) Tryz.func185 aF Z Tryz.ntmps185 Z (fun c=>?_)
 refine rO 10 Z (yX Z Z (o7 ..) ?_)
 refine zA (yK Z Z Z (fun b5=>?_))
 refine oR 3 Z (uN 0 0 Z Z aG aE aE ?_)
 exact zE Tryz.results185 Z ⟨rfl,b5,rfl,rfl⟩ nS (cS 0 Z)
theorem K0(A:Option Addr)(m cap:Nat)(ys:List Y):CtR Tryz.prog 186 #[.slice A m cap] [.kids (.slice A m cap) ys] (RN (dG 4 ys)):=by
 refine Ct.of_run (args:=[.slice A m cap]) Tryz.func186 aF Z Tryz.ntmps186 Z (fun c=>?_)
 refine rO 10 Z (yX Z Z (o7 ..) ?_)
 refine zA (yK Z Z Z (fun b5=>?_))
 refine oR 3 Z (uN 0 0 Z Z aG aE aE ?_)
 exact zE Tryz.results186 Z ⟨rfl,b5,rfl,rfl⟩ nS (cS 0 Z)
theorem K1(n:Int)(h0: -9223372036854775808≤n)(h1:n≤9223372036854775807):CtR Tryz.prog 161 #[.int .i64 n] [.tab] (RN (cc jX (dj n))):=by
 refine Ct.of_run (args:=[.int .i64 n]) Tryz.func161 aF Z Tryz.ntmps161 Z (fun c=>?_)
 refine rO 10 Z (zK Z Z Z (c148 n h0 h1) (cS 0 Z) ?_)
 refine zA (yX Z Z (pA ..) ?_)
 refine zA (yK Z Z Z (fun b6=>?_))
 refine oR 3 Z (gA ?_)
 exact uN 0 0 Z Z aG aE (rd (uD n h0 h1) aE) (zE Tryz.results161 Z ⟨rfl,b6,rfl,rfl⟩ nS (cS 0 Z))
theorem Ig(x:Value)(l:List ByteArray)(hl:l.length≤1000000):CtR Tryz.prog 156 #[x] [.strs x l] (RN (dG 2 (l.map (cc dV)))):=by
 refine Ct.of_run (args:=[x]) Tryz.func156 aF Z Tryz.ntmps156 Z (fun c=>?_)
 refine uB 0 Z (fun hsz=>?_)
 refine nA 0 Z (fun A1 c1 hx hk1 hk2=>?_)
 subst hx
 unfold maxLen at hk2
 refine rO 8 Z (wI cy Z Z Z (fun b6=>?_))
 refine oO 9 Z (yA cX Z Z ?_)
 refine oK 4 [9,3,8,7] Z Z (yM (.ptrs [] ((l.take 0).map (cc dV))) (fun w ok h=>rfl) ?_)
 refine yL 2 (fun(⟨i,A,ca,xs⟩:Nat×Option Addr×Nat×List Value)=>i≤l.length) (fun(⟨i,A,ca,xs⟩:Nat×Option Addr×Nat×List Value)=>[(9, .int .i64 ((i:Nat):Int)),(3, .slice A i ca)]) (fun(⟨i,A,ca,xs⟩:Nat×Option Addr×Nat×List Value)=>HA.row A i ca 102 1 xs::[]) (fun(⟨i,A,ca,xs⟩:Nat×Option Addr×Nat×List Value)=> .ptrs xs ((l.take i).map (cc dV)):: .strs (.slice A1 l.length c1) l::[]) (fun(⟨i,A,ca,xs⟩:Nat×Option Addr×Nat×List Value)=>l.length - i) (0,_,_,[]) bq (eC Z (eC Z (eN _))) Z Z ?_ (eC Z (eC Z (eN _)))
 intro ⟨i,A,ca,xs⟩ hI K hK
 replace hI:i≤l.length:=hI
 change Run _ _ _ _ _ [(9,_),(3,_),(8,_),(7,_)] [_] [_,_]
 refine rO 3 Z (yJ Z Z Z ?_)
 refine oR 2 Z (zN Z (fun h10=>?_) (fun h10=>?_))
 ·refine rO 6 Z (xP 1 cX Z Z Z Z aC ?_)
  refine zA (yH dK Z Z (fun _ h=>xF h (j:=1) Z (List.getElem?_eq_getElem h10)) ?_)
  refine oO 9 Z (zT Z Z Z (BQ _ (hsz _ (List.getElem_mem h10))) cZ (fun u15 D15 hv15=>?_))
  obtain⟨b15,rfl,rfl⟩:=hv15
  refine zA (zM cy Z Z Z Z Z (fun b16=>?_))
  refine zA ?_
  refine cf 1 0 cy (fun A17 c17=>?_)
  refine oK 3 [3,9,8,7] Z Z (rO 3 Z ?_)
  refine yB Z Z aC (oR 3 Z ?_)
  refine uC 1 0 Z Z ?_
  rw [sX]
  exact kQ (hK (i+1,_,_,_) bc ay) (eC Z (eC Z (eC Z (eC Z (eN _))))) (hD:=(cl 0 Z sQ))
 obtain rfl:i=l.length:=by omega
 rw [List.take_length]
 refine sF 0 0 _ Z Z aG (rO 6 Z ?_)
 refine zT Z Z Z (If _ _ _ _) (cS 0 Z) (fun u20 D20 hv20=>?_)
 obtain⟨b20,rfl,rfl⟩:=hv20
 exact oR 3 Z (zE Tryz.results156 Z ⟨rfl,b20,rfl,rfl⟩ nS (cS 0 Z))
end Go.Jw

namespace Go.Jw
open Go Go.RowKit Go.Proofs
def DA.gr(mb:Nat)(G:Gr):DA:=⟨fun w ok=> ∀ g∈G,BlkP w ok g.1 g.2.1 124∧ ∃m,CellsP w ok m g.2.1 g.2.2,fun h1 h2 h g hg=>⟨(h g hg).1.mono h1 h2,(h g hg).2.imp fun m hm=>CellsP.mono h1 h2 hm⟩⟩
section rules
variable {P:Program} {n:Nat} {F:List Nat} {c:Ctx F} {ops:Array Oper} {d:Nat} {T:TypeId} {l:List Oper} {k:List KI} {Q:Post} {e:dI} {M:List HA} {D:List DA}
theorem vK{α:Type}(pr:α→Prop)(DD:α→List DA)(h: ∀ (w:World) (ok:Nat→Prop),(∀ d∈D,d.p w ok)→ ∃x,pr x∧ ∀ d∈DD x,d.p w ok)(next: ∀ x,pr x→Run P n c k Q e M (DD x++D)):Run P n c k Q e M D:=by
 intro a w hf
 obtain⟨x,hx,hd⟩:=h w _ hf.dat
 exact next x hx a w (hf.world (hf.toFitsW.data fun d hd'=>(List.mem_append.1 hd').elim (hd d) (hf.dat d)))
theorem eX{w:World}{ok:Nat→Prop}{d:DA}(h:d.p w ok): ∀ x∈[d],x.p w ok:=fun x hx=>by rw [List.mem_singleton.1 hx];exact h
theorem eu{w:World}{ok:Nat→Prop}{d:DA}{l:List DA}(h:d.p w ok)(hl: ∀ x∈l,x.p w ok): ∀ x∈d::l,x.p w ok:=fun x hx=>(List.mem_cons.1 hx).elim (fun e=>e▸h) (hl x)
theorem z4(j:Nat){u:Value}{s:ByteArray}(hj:D[j]? =some (.fv u (.tyS s)))(next: ∀ b p,u=cW b→s.size≤maxLen→Run P n c k Q e M (.dblk b [.pointer (some p), .pointer none] 196:: .pts p (.string s)::D)):Run P n c k Q e M D:=
 vK (α:=Nat×Addr) (fun x=>u=cW x.1∧s.size≤maxLen) (fun x=>[.dblk x.1 [.pointer (some x.2), .pointer none] 196, .pts x.2 (.string s)]) (fun w ok h=>by
  obtain⟨b,p,h1,h2,h3,h4⟩:FvP w ok (.tyS s) u:=dget h j hj
  exact⟨(b,p),⟨h1,h2⟩,eu h3 (eX h4)⟩) (fun x hx=>next x.1 x.2 hx.1 hx.2)
theorem z5(j:Nat){u:Value}{l:List ByteArray}(hj:D[j]? =some (.fv u (.tyL l)))(next: ∀ b p sl,u=cW b→Run P n c k Q e M (.dblk b [.pointer none, .pointer (some p)] 196:: .pts p sl:: .strs sl l::D)):Run P n c k Q e M D:=
 vK (α:=Nat×Addr×Value) (fun x=>u=cW x.1) (fun x=>[.dblk x.1 [.pointer none, .pointer (some x.2.1)] 196, .pts x.2.1 x.2.2, .strs x.2.2 l]) (fun w ok h=>by
  obtain⟨b,p,sl,h1,h3,h4,h5⟩:FvP w ok (.tyL l) u:=dget h j hj
  exact⟨(b,p,sl),h1,eu h3 (eu h4 (eX h5))⟩) (fun x hx=>next x.1 x.2.1 x.2.2 hx)
theorem Ih(j:Nat){mb b:Nat}{cs:List Value}{f:Flds}{G:Gr}(hj:D[j]? =some (.gr mb G))(hg:(b,cs,f)∈G)(next: ∀ m:Nat,cs.length=37→Run P n c k Q e M (.dblk b cs 124:: .flds m cs f::D)):Run P n c k Q e M D:=
 vK (α:=Nat) (fun _=>cs.length=37) (fun m=>[.dblk b cs 124, .flds m cs f]) (fun w ok h=>by
  obtain⟨h1,m,h2⟩:=(dget h j hj:(DA.gr mb G).p w ok) _ hg
  exact⟨m,h2.1,eu h1 (eX h2)⟩) (fun m hl=>next m hl)
end rules
end Go.Jw

namespace Go.Jw
open Go Go.RowKit Go.Proofs
set_option maxRecDepth 8000
theorem iC:Tryz.prog.underlying 63=some (.pointer (Tryz.prog.pointee 63)):=by
 have h:=Tryz.underlying63
 unfold Program.pointee
 rw [h]
theorem jR:Tryz.prog.underlying 112=some (.pointer (Tryz.prog.pointee 112)):=by
 have h:=Tryz.underlying112
 unfold Program.pointee
 rw [h]
theorem pg:Tryz.prog.underlying 113=some (.pointer (Tryz.prog.pointee 113)):=by
 have h:=Tryz.underlying113
 unfold Program.pointee
 rw [h]
theorem fT:Tryz.prog.underlying 114=some (.pointer (Tryz.prog.pointee 114)):=by
 have h:=Tryz.underlying114
 unfold Program.pointee
 rw [h]
theorem nW:Tryz.prog.underlying 115=some (.pointer (Tryz.prog.pointee 115)):=by
 have h:=Tryz.underlying115
 unfold Program.pointee
 rw [h]
theorem Db:Tryz.prog.underlying 116=some (.pointer (Tryz.prog.pointee 116)):=by
 have h:=Tryz.underlying116
 unfold Program.pointee
 rw [h]
theorem ud:Tryz.prog.underlying 117=some (.pointer (Tryz.prog.pointee 117)):=by
 have h:=Tryz.underlying117
 unfold Program.pointee
 rw [h]
theorem kX:Tryz.prog.underlying 118=some (.pointer (Tryz.prog.pointee 118)):=by
 have h:=Tryz.underlying118
 unfold Program.pointee
 rw [h]
theorem Dc:Tryz.prog.underlying 119=some (.pointer (Tryz.prog.pointee 119)):=by
 have h:=Tryz.underlying119
 unfold Program.pointee
 rw [h]
theorem Hl:Tryz.prog.underlying 120=some (.pointer (Tryz.prog.pointee 120)):=by
 have h:=Tryz.underlying120
 unfold Program.pointee
 rw [h]
theorem ue:Tryz.prog.underlying 121=some (.pointer (Tryz.prog.pointee 121)):=by
 have h:=Tryz.underlying121
 unfold Program.pointee
 rw [h]
theorem fU:Tryz.prog.underlying 122=some (.pointer (Tryz.prog.pointee 122)):=by
 have h:=Tryz.underlying122
 unfold Program.pointee
 rw [h]
theorem K2:Tryz.prog.underlying 211=some (.pointer (Tryz.prog.pointee 211)):=by
 have h:=Tryz.underlying211
 unfold Program.pointee
 rw [h]
theorem uf:Tryz.prog.underlying 102=some (.pointer (Tryz.prog.pointee 102)):=by
 have h:=Tryz.underlying102
 unfold Program.pointee
 rw [h]
theorem K3(u:Value)(s:ByteArray):CtR Tryz.prog 154 #[u] [.fv u (.tyS s)] (RN (cc dV s)):=by
 refine Ct.of_run (args:=[u]) Tryz.func154 aF Z Tryz.ntmps154 Z (fun c=>?_)
 refine z4 0 Z (fun b p hu hs=>?_)
 subst hu
 refine rO 12 Z (zC gX Z Z ?_)
 refine zA (zH 0 dP Z Z Z Z ?_)
 refine zA (yI dc Z Z ?_)
 refine oO 9 Z (zC gX Z Z ?_)
 refine zA (zH 0 dP Z Z Z Z ?_)
 refine oO 3 Z (yW 1 dK Z Z Z ?_)
 refine zA (zT Z Z Z (BQ s hs) cZ (fun u14 D14 hv14=>?_))
 obtain⟨b14,rfl,rfl⟩:=hv14
 exact oK 3 [2] Z Z (zE Tryz.results154 Z ⟨rfl,b14,rfl,rfl⟩ nS (cS 0 Z))
theorem K4(u:Value)(l:List ByteArray)(hl:l.length≤1000000):CtR Tryz.prog 154 #[u] [.fv u (.tyL l)] (RN (dG 2 (l.map (cc dV)))):=by
 refine Ct.of_run (args:=[u]) Tryz.func154 aF Z Tryz.ntmps154 Z (fun c=>?_)
 refine z5 0 Z (fun b p sl hu=>?_)
 subst hu
 refine rO 12 Z (zC gX Z Z ?_)
 refine zA (zH 0 dP Z Z Z Z ?_)
 refine zA (yI dc Z Z ?_)
 refine oO 9 Z (zC kJ Z Z ?_)
 refine zA (zH 0 jw Z Z Z Z ?_)
 refine zA (yI ud Z Z ?_)
 refine oK 1 [19,0] Z Z (rO 8 Z ?_)
 refine zC kJ Z Z (zA ?_)
 refine zH 0 jw Z Z Z Z (oO 3 Z ?_)
 refine yW 1 dN Z Z Z (zA ?_)
 refine zT Z Z Z (Ig _ l hl) (cS 2 Z) (fun u26 D26 hv26=>?_)
 obtain⟨b26,rfl,rfl⟩:=hv26
 exact oK 3 [2] Z Z (zE Tryz.results154 Z ⟨rfl,b26,rfl,rfl⟩ nS (cS 0 Z))
end Go.Jw

namespace Go.Jw
open Go Go.RowKit Go.Proofs
section rules
variable {P:Program} {n:Nat} {F:List Nat} {c:Ctx F} {ops:Array Oper} {d:Nat} {T:TypeId} {l:List Oper} {k:List KI} {Q:Post} {e:dI} {M:List HA} {D:List DA}
theorem gH(j:Nat){u:Value}{s:ByteArray}(hj:D[j]? =some (.fv u (.text s)))(next: ∀ p,u= .pointer (some p)→s.size≤maxLen→Run P n c k Q e M (.pts p (.string s)::D)):Run P n c k Q e M D:=
 vK (α:=Addr) (fun p=>u= .pointer (some p)∧s.size≤maxLen) (fun p=>[.pts p (.string s)]) (fun w ok h=>by
  obtain⟨p,h1,h2,h3⟩:FvP w ok (.text s) u:=dget h j hj
  exact⟨p,⟨h1,h2⟩,eX h3⟩) (fun x hx=>next x hx.1 hx.2)
theorem Dd(j:Nat){u:Value}{x:Bool}(hj:D[j]? =some (.fv u (.bool x)))(next: ∀ p,u= .pointer (some p)→Run P n c k Q e M (.pts p (.bool x)::D)):Run P n c k Q e M D:=
 vK (α:=Addr) (fun p=>u= .pointer (some p)) (fun p=>[.pts p (.bool x)]) (fun w ok h=>by
  obtain⟨p,h1,h3⟩:FvP w ok (.bool x) u:=dget h j hj
  exact⟨p,h1,eX h3⟩) (fun x hx=>next x hx)
theorem F2(j:Nat){u:Value}{x:Int}(hj:D[j]? =some (.fv u (.int x)))(next: ∀ p,u= .pointer (some p)→Run P n c k Q e M (.pts p (.int .i64 x)::D)):Run P n c k Q e M D:=
 vK (α:=Addr) (fun p=>u= .pointer (some p)) (fun p=>[.pts p (.int .i64 x)]) (fun w ok h=>by
  obtain⟨p,h1,h3⟩:FvP w ok (.int x) u:=dget h j hj
  exact⟨p,h1,eX h3⟩) (fun x hx=>next x hx)
theorem F3(j:Nat){u:Value}{q:Nat}(hj:D[j]? =some (.fv u (.sbS q)))(next: ∀ b,u=cW b→Run P n c k Q e M (.dblk b [cW q, .pointer none] 185::D)):Run P n c k Q e M D:=
 vK (α:=Nat) (fun b=>u=cW b) (fun b=>[.dblk b [cW q, .pointer none] 185]) (fun w ok h=>by
  obtain⟨b,h1,h3⟩:FvP w ok (.sbS q) u:=dget h j hj
  exact⟨b,h1,eX h3⟩) (fun x hx=>next x hx)
theorem F4(j:Nat){u:Value}{q:Nat}(hj:D[j]? =some (.fv u (.itS q)))(next: ∀ b,u=cW b→Run P n c k Q e M (.dblk b [cW q, .pointer none] 187::D)):Run P n c k Q e M D:=
 vK (α:=Nat) (fun b=>u=cW b) (fun b=>[.dblk b [cW q, .pointer none] 187]) (fun w ok h=>by
  obtain⟨b,h1,h3⟩:FvP w ok (.itS q) u:=dget h j hj
  exact⟨b,h1,eX h3⟩) (fun x hx=>next x hx)
theorem F5(j:Nat){u:Value}{x:Bool}(hj:D[j]? =some (.fv u (.sbB x)))(next: ∀ b p,u=cW b→Run P n c k Q e M (.dblk b [.pointer none, .pointer (some p)] 185:: .pts p (.bool x)::D)):Run P n c k Q e M D:=
 vK (α:=Nat×Addr) (fun y=>u=cW y.1) (fun y=>[.dblk y.1 [.pointer none, .pointer (some y.2)] 185, .pts y.2 (.bool x)]) (fun w ok h=>by
  obtain⟨b,p,h1,h3,h4⟩:FvP w ok (.sbB x) u:=dget h j hj
  exact⟨(b,p),h1,eu h3 (eX h4)⟩) (fun x hx=>next x.1 x.2 hx)
theorem F6(j:Nat){u:Value}{bs:List Nat}(hj:D[j]? =some (.fv u (.itL bs)))(next: ∀ b p sl,u=cW b→Run P n c k Q e M (.dblk b [.pointer none, .pointer (some p)] 187:: .pts p sl:: .rowp sl bs::D)):Run P n c k Q e M D:=
 vK (α:=Nat×Addr×Value) (fun x=>u=cW x.1) (fun x=>[.dblk x.1 [.pointer none, .pointer (some x.2.1)] 187, .pts x.2.1 x.2.2, .rowp x.2.2 bs]) (fun w ok h=>by
  obtain⟨b,p,sl,h1,h3,h4,h5⟩:FvP w ok (.itL bs) u:=dget h j hj
  exact⟨(b,p,sl),h1,eu h3 (eu h4 (eX h5))⟩) (fun x hx=>next x.1 x.2.1 x.2.2 hx)
theorem iX(j:Nat){u:Value}{bs:List Nat}(hj:D[j]? =some (.fv u (.list bs)))(next: ∀ p sl,u= .pointer (some p)→Run P n c k Q e M (.pts p sl:: .rowp sl bs::D)):Run P n c k Q e M D:=
 vK (α:=Addr×Value) (fun x=>u= .pointer (some x.1)) (fun x=>[.pts x.1 x.2, .rowp x.2 bs]) (fun w ok h=>by
  obtain⟨p,sl,h1,h4,h5⟩:FvP w ok (.list bs) u:=dget h j hj
  exact⟨(p,sl),h1,eu h4 (eX h5)⟩) (fun x hx=>next x.1 x.2 hx)
theorem BR(j:Nat){u:Value}{bs:List ByteArray}(hj:D[j]? =some (.fv u (.texts bs)))(next: ∀ p sl,u= .pointer (some p)→Run P n c k Q e M (.pts p sl:: .strs sl bs::D)):Run P n c k Q e M D:=
 vK (α:=Addr×Value) (fun x=>u= .pointer (some x.1)) (fun x=>[.pts x.1 x.2, .strs x.2 bs]) (fun w ok h=>by
  obtain⟨p,sl,h1,h4,h5⟩:FvP w ok (.texts bs) u:=dget h j hj
  exact⟨(p,sl),h1,eu h4 (eX h5)⟩) (fun x hx=>next x.1 x.2 hx)
theorem rP(j:Nat){u:Value}{bs:List (ByteArray×Nat)}(hj:D[j]? =some (.fv u (.named bs)))(next: ∀ p sl nbs,u= .pointer (some p)→Run P n c k Q e M (.pts p sl:: .rowp sl nbs:: .nam nbs bs::D)):Run P n c k Q e M D:=
 vK (α:=Addr×Value×List Nat) (fun x=>u= .pointer (some x.1)) (fun x=>[.pts x.1 x.2.1, .rowp x.2.1 x.2.2, .nam x.2.2 bs]) (fun w ok h=>by
  obtain⟨p,sl,nbs,h1,h4,h5,h6,h7⟩:FvP w ok (.named bs) u:=dget h j hj
  exact⟨(p,sl,nbs),h1,eu h4 (eu h5 (eX ⟨h6,h7⟩))⟩) (fun x hx=>next x.1 x.2.1 x.2.2 hx)
theorem ug(j:Nat){u:Value}{bs:List (ByteArray×List ByteArray)}(hj:D[j]? =some (.fv u (.deps bs)))(next: ∀ p sl nbs,u= .pointer (some p)→Run P n c k Q e M (.pts p sl:: .rowp sl nbs:: .dep nbs bs::D)):Run P n c k Q e M D:=
 vK (α:=Addr×Value×List Nat) (fun x=>u= .pointer (some x.1)) (fun x=>[.pts x.1 x.2.1, .rowp x.2.1 x.2.2, .dep x.2.2 bs]) (fun w ok h=>by
  obtain⟨p,sl,nbs,h1,h4,h5,h6,h7⟩:FvP w ok (.deps bs) u:=dget h j hj
  exact⟨(p,sl,nbs),h1,eu h4 (eu h5 (eX ⟨h6,h7⟩))⟩) (fun x hx=>next x.1 x.2.1 x.2.2 hx)
end rules
def De:Nat→ByteArray
  |0=>⟨#[46,48,48,48,48,48,48]⟩
  |1=>⟨#[46,50,53,48,48,48,48]⟩
  |2=>⟨#[46,53,48,48,48,48,48]⟩
  |_=>⟨#[46,55,53,48,48,48,48]⟩
def dl(n:Int):ByteArray:=(if decide (n<0)then⟨#[45]⟩else⟨#[]⟩)++dj ((n.natAbs/4:Nat):Int)++De (n.natAbs%4)
def ItemR(R:V→Y→Prop)(sh:Int)(x:V)(z:Y):Prop:=
 (sh=1∧z=cc dV x.text)∨(sh=2∧z=cc eJ (tu (decide (x.num=1))))∨(sh=3∧x.kind=2∧z=cc jX (dj x.num))∨(sh=3∧x.kind=6∧z=cc d3 (dl x.num))∨
 (sh=4∧z=cc jX (dj x.num))∨(sh=5∧R x z)∨(sh=6∧x.kind=1∧z=cc eJ (tu (decide (x.num=1))))∨(sh=6∧x.kind=5∧R x z)∨
 (sh=7∧x.kind=5∧R x z)∨(sh=7∧x.kind=4∧ ∃zs,z=dG 2 zs∧All2 (fun z x=>R x z) zs x.items)∨(sh=8∧z=dG 2 ((x.items.map V.text).map (cc dV)))∨
 (sh=9∧ ∃(ps:List (ByteArray×V)) (L:List (ByteArray×Y)),z=dG 4 (L.flatMap eM)∧ps.Perm (x.keys.zip x.items)∧All2 (fun q p=>q.1=p.1∧R p.2 q.2) L ps)∨
 (sh=10∧ ∃ps:List (ByteArray×V),ps.Perm (x.keys.zip x.items)∧z=dG 4 ((ps.map fun p=>(p.1,dG 2 ((p.2.items.map V.text).map (cc dV)))).flatMap eM))∨
 (sh=11∧z=dG 2 ((x.items.map DR).map BI))∨(sh=12∧x.kind=3∧z=cc dV x.text)∨(sh=12∧x.kind=4∧z=dG 2 ((x.items.map V.text).map (cc dV)))∨
 (sh=13∧ ∃zs,z=dG 2 zs∧All2 (fun z x=>R x z) zs x.items)
theorem ItemR.mono{R R':V→Y→Prop}{sh:Int}{x:V}{z:Y}(h: ∀ x' z',SizeOf.sizeOf x'≤SizeOf.sizeOf x→R x' z'→R' x' z')(hi:ItemR R sh x z):ItemR R' sh x z:=by
 have hit: ∀ x' z',x'∈x.items→R x' z'→R' x' z':=fun x' z' hx=>h x' z' (Nat.le_of_lt (xB hx))
 unfold ItemR at hi⊢
 rcases hi with h1|h1|h1|h1|h1|h1|h1|h1|h1|h1|h1|h1|h1|h1|h1|h1|h1
 ·exact .inl h1
 ·exact .inr (.inl h1)
 ·exact .inr (.inr (.inl h1))
 ·exact .inr (.inr (.inr (.inl h1)))
 ·exact .inr (.inr (.inr (.inr (.inl h1))))
 ·exact .inr (.inr (.inr (.inr (.inr (.inl ⟨h1.1,h _ _ (Nat.le_refl _) h1.2⟩)))))
 ·exact .inr (.inr (.inr (.inr (.inr (.inr (.inl h1))))))
 ·exact .inr (.inr (.inr (.inr (.inr (.inr (.inr (.inl ⟨h1.1,h1.2.1,h _ _ (Nat.le_refl _) h1.2.2⟩)))))))
 ·exact .inr (.inr (.inr (.inr (.inr (.inr (.inr (.inr (.inl ⟨h1.1,h1.2.1,h _ _ (Nat.le_refl _) h1.2.2⟩))))))))
 ·obtain⟨a,b,zs,e,hz⟩:=h1
  exact .inr (.inr (.inr (.inr (.inr (.inr (.inr (.inr (.inr (.inl ⟨a,b,zs,e,hz.mono fun z x hx hr=>hit x z hx hr⟩)))))))))
 ·exact .inr (.inr (.inr (.inr (.inr (.inr (.inr (.inr (.inr (.inr (.inl h1))))))))))
 ·obtain⟨a,ps,L,e,hp,hz⟩:=h1
  exact .inr (.inr (.inr (.inr (.inr (.inr (.inr (.inr (.inr (.inr (.inr (.inl ⟨a,ps,L,e,hp,hz.mono fun q p hx hr=>⟨hr.1,hit p.2 q.2 (List.of_mem_zip (hp.mem_iff.1 hx)).2 hr.2⟩⟩)))))))))))
 ·exact .inr (.inr (.inr (.inr (.inr (.inr (.inr (.inr (.inr (.inr (.inr (.inr (.inl h1))))))))))))
 ·exact .inr (.inr (.inr (.inr (.inr (.inr (.inr (.inr (.inr (.inr (.inr (.inr (.inr (.inl h1)))))))))))))
 ·exact .inr (.inr (.inr (.inr (.inr (.inr (.inr (.inr (.inr (.inr (.inr (.inr (.inr (.inr (.inl h1))))))))))))))
 ·exact .inr (.inr (.inr (.inr (.inr (.inr (.inr (.inr (.inr (.inr (.inr (.inr (.inr (.inr (.inr (.inl h1)))))))))))))))
 ·obtain⟨a,zs,e,hz⟩:=h1
  exact .inr (.inr (.inr (.inr (.inr (.inr (.inr (.inr (.inr (.inr (.inr (.inr (.inr (.inr (.inr (.inr ⟨a,zs,e,hz.mono fun z x hx hr=>hit x z hx hr⟩)))))))))))))))
instance:Inhabited (Y→Prop):=⟨fun _=>True⟩
def OutB(r:V→Y→Prop)(v:V)(y:Y):Prop:= ∃L:List (ByteArray×Y),y=dG 4 (L.flatMap eM)∧(L.map fun p=>kwIdx p.1).Nodup∧(∀ p∈L,kwIdx p.1≠0∧kwIdx p.1≠35∧ ∃x,getV v p.1=some x∧ItemR r (shIdx (kwIdx p.1)) x p.2)∧
 ∀ key x,getV v key=some x→kwIdx key≠0→kwIdx key≠35→ ∃p∈L,p.1=key
theorem OutB.mono{r r':V→Y→Prop}{v:V}{y:Y}(h: ∀ x z,SizeOf.sizeOf x<SizeOf.sizeOf v→r x z→r' x z)(ho:OutB r v y):OutB r' v y:=by
 obtain⟨L,h1,h2,h3,h4⟩:=ho
 refine⟨L,h1,h2,fun p hp=>?_,h4⟩
 obtain⟨a,b,x,hx,hi⟩:=h3 p hp
 exact⟨a,b,x,hx,hi.mono fun x' z' hs=>h x' z' (Nat.lt_of_le_of_lt hs (xB (uU hx)))⟩
noncomputable def eE:V→Y→Prop:=V.fix (α:=Y→Prop) (fun v r y=>OutB r v y)
theorem uh(v:V)(y:Y):eE v y↔OutB eE v y:=by
 have:=V.fix_eq (α:=Y→Prop) (G:=fun v r y=>OutB r v y) (fun t g g' h=>by
  funext y
  apply propext
  exact⟨OutB.mono fun x z hx hr=>by rw [←h x hx];exact hr,OutB.mono fun x z hx hr=>by rw [h x hx];exact hr⟩) v
 show V.fix (α:=Y→Prop) _ v y↔_
 rw [this]
 rfl
def oe(ft:DA)(mb:Nat)(G:Gr)(v:V):Prop:= ∀ b,Unf G v b→CtR Tryz.prog 105 #[cW b] [.gr mb G, .tab,ft] (fun u D'=> ∃y,eE v y∧RN y u D')
def F7(ft:DA):Prop:= ∀ n:Int, -1000000000<n→n<1000000000→n.tmod 4≠0→CtR Tryz.prog 188 #[.float .f64 (lH n)] [ft] (RN (cc d3 (dl n)))
def DA.ev(e:EV)(u v:Value):DA:=⟨fun w ok=>EvP w ok e u v,fun h1 h2 h=>EvP.mono h1 h2 h⟩
section rules
variable {P:Program} {n:Nat} {F:List Nat} {c:Ctx F} {ops:Array Oper} {d:Nat} {T:TypeId} {l:List Oper} {k:List KI} {Q:Post} {e:dI} {M:List HA} {D:List DA}
theorem vU(j:Nat){v:Value}{bs:List Nat}(hj:D[j]? =some (.rowp v bs))(next: ∀ A c',v= .slice A bs.length c'→bs.length≤c'→c'≤maxLen→Run P n c k Q e M D):Run P n c k Q e M D:=by
 intro a w hf
 obtain⟨A,c',h1,h2,h3,_⟩:RowPtrs w (c.now M w) v bs:=hf.toFitsW.dt hj
 exact next A c' h1 h2 h3 a w hf
theorem wT(j:Nat){x y:Operand}{A:Option Addr}{m cap i:Nat}{kd:IntKind}{S E sz by_:Nat}{bs:List Nat}(hS:cd P S E sz by_)(hd:Nat.blt d n=true)(hx:ev e x=some (.slice A m cap))(hy:ev e y=some (.int kd (i:Nat)))(hj:D[j]? =some (.rowp (.slice A m cap) bs))(hi:i<m)
  (next:cL P n c ops l k Q ((d, .pointer (some (At A (i*sz))))::e) M D):cR P n c ops (some d) (.indexAddr S x y) T l k Q e M D:=by
 intro a w hf
 obtain⟨A',c',hv,_,_,hit⟩:RowPtrs w (c.now M w) (.slice A m cap) bs:=hf.toFitsW.dt hj
 injection hv with hA hm
 subst hA
 subst hm
 obtain⟨a',ha,_⟩:=hit i bs[i] (List.getElem?_eq_getElem hi)
 subst ha
 exact wJ (T:=T) hS hd hx hy hi next a w hf
theorem vJ{w:World}(h:FitsW c M D w){j i b:Nat}{A:Option Addr}{m cap:Nat}{bs:List Nat}(hj:D[j]? =some (.rowp (.slice A m cap) bs))(hb:bs[i]? =some b):w.cell? (At A (i*1))=some (cW b):=by
 obtain⟨A',c',hv,_,_,hit⟩:RowPtrs w (c.now M w) (.slice A m cap) bs:=h.dt hj
 injection hv with hA hm
 subst hA
 obtain⟨a,ha,_,hc⟩:=hit i b hb
 subst ha
 rw [Nat.mul_one]
 exact hc
theorem fV(j i:Nat){nbs:List Nat}{l':List (ByteArray×Nat)}{q:ByteArray×Nat}{nb:Nat}(hj:D[j]? =some (.nam nbs l'))(hq:l'[i]? =some q)(hn:nbs[i]? =some nb)(next:q.1.size≤maxLen→cL P n c ops l k Q e M (.dblk nb [.string q.1,cW q.2] 179::D)):cL P n c ops l k Q e M D:=
 s6 (fun w ok h=>((dget h j hj:(DA.nam nbs l').p w ok).2 i q nb hq hn).1) fun h1=>iQ _ (fun w ok h=>((dget h j hj:(DA.nam nbs l').p w ok).2 i q nb hq hn).2) (next h1)
theorem sH(j:Nat){nbs:List Nat}{l':List (ByteArray×Nat)}(hj:D[j]? =some (.nam nbs l'))(next:nbs.length=l'.length→Run P n c k Q e M D):Run P n c k Q e M D:=
 vY (fun w ok h=>(dget h j hj:(DA.nam nbs l').p w ok).1) next
theorem nX(j:Nat){nbs:List Nat}{l':List (ByteArray×List ByteArray)}(hj:D[j]? =some (.dep nbs l'))(next:nbs.length=l'.length→Run P n c k Q e M D):Run P n c k Q e M D:=
 vY (fun w ok h=>(dget h j hj:(DA.dep nbs l').p w ok).1) next
theorem z6{α:Type}(pr:α→Prop)(DD:α→List DA)(h: ∀ (w:World) (ok:Nat→Prop),(∀ d∈D,d.p w ok)→ ∃x,pr x∧ ∀ d∈DD x,d.p w ok)(next: ∀ x,pr x→cL P n c ops l k Q e M (DD x++D)):cL P n c ops l k Q e M D:=by
 intro a w hf
 obtain⟨x,hx,hd⟩:=h w _ hf.dat
 exact next x hx a w (hf.world (hf.toFitsW.data fun d hd'=>(List.mem_append.1 hd').elim (hd d) (hf.dat d)))
theorem z7(j i:Nat){nbs:List Nat}{l':List (ByteArray×List ByteArray)}{q:ByteArray×List ByteArray}{nb:Nat}(hj:D[j]? =some (.dep nbs l'))(hq:l'[i]? =some q)(hn:nbs[i]? =some nb)
  (next: ∀ tb p2 sl2,q.1.size≤maxLen→cL P n c ops l k Q e M (.dblk nb [.string q.1,cW tb] 192:: .dblk tb [.pointer none, .pointer (some p2)] 194:: .pts p2 sl2:: .strs sl2 q.2::D)):cL P n c ops l k Q e M D:=
 z6 (α:=Nat×Addr×Value) (fun _=>q.1.size≤maxLen) (fun x=>[.dblk nb [.string q.1,cW x.1] 192, .dblk x.1 [.pointer none, .pointer (some x.2.1)] 194, .pts x.2.1 x.2.2, .strs x.2.2 q.2]) (fun w ok h=>by
  obtain⟨tb,p2,sl2,h1,h2,h3,h4,h5⟩:=(dget h j hj:(DA.dep nbs l').p w ok).2 i q nb hq hn
  exact⟨(tb,p2,sl2),h1,eu h2 (eu h3 (eu h4 (eX h5)))⟩) (fun x hx=>next x.1 x.2.1 x.2.2 hx)
theorem Df(j:Nat){u:Value}{x:Int}(hj:D[j]? =some (.fv u (.numI x)))(next: ∀ b p,u=cW b→Run P n c k Q e M (.dblk b [.pointer (some p), .pointer none] 213:: .pts p (.int .i64 x)::D)):Run P n c k Q e M D:=
 vK (α:=Nat×Addr) (fun y=>u=cW y.1) (fun y=>[.dblk y.1 [.pointer (some y.2), .pointer none] 213, .pts y.2 (.int .i64 x)]) (fun w ok h=>by
  obtain⟨b,p,h1,h3,h4⟩:FvP w ok (.numI x) u:=dget h j hj
  exact⟨(b,p),h1,eu h3 (eX h4)⟩) (fun x hx=>next x.1 x.2 hx)
theorem Dg(j:Nat){u:Value}{x:Nat}(hj:D[j]? =some (.fv u (.numF x)))(next: ∀ b p,u=cW b→Run P n c k Q e M (.dblk b [.pointer none, .pointer (some p)] 213:: .pts p (.float .f64 x)::D)):Run P n c k Q e M D:=
 vK (α:=Nat×Addr) (fun y=>u=cW y.1) (fun y=>[.dblk y.1 [.pointer none, .pointer (some y.2)] 213, .pts y.2 (.float .f64 x)]) (fun w ok h=>by
  obtain⟨b,p,h1,h3,h4⟩:FvP w ok (.numF x) u:=dget h j hj
  exact⟨(b,p),h1,eu h3 (eX h4)⟩) (fun x hx=>next x.1 x.2 hx)
theorem BS(j:Nat){u:Value}{es:List EV}(hj:D[j]? =some (.fv u (.enums es)))(next: ∀ p A c',u= .pointer (some p)→es.length≤c'→c'≤maxLen→Run P n c k Q e M (.pts p (.slice A es.length c'):: .evrow A c' es::D)):Run P n c k Q e M D:=
 vK (α:=Addr×Option Addr×Nat) (fun x=>u= .pointer (some x.1)∧es.length≤x.2.2∧x.2.2≤maxLen) (fun x=>[.pts x.1 (.slice x.2.1 es.length x.2.2), .evrow x.2.1 x.2.2 es]) (fun w ok h=>by
  obtain⟨p,A,c',h1,h2,h3,h4,h5⟩:FvP w ok (.enums es) u:=dget h j hj
  exact⟨(p,A,c'),⟨h1,h3,h4⟩,eu h2 (eX ⟨h3,h4,h5⟩)⟩) (fun x hx=>next x.1 x.2.1 x.2.2 hx.1 hx.2.1 hx.2.2)
theorem Ii(j i:Nat){A:Option Addr}{c':Nat}{es:List EV}{x:EV}(hj:D[j]? =some (.evrow A c' es))(hi:es[i]? =some x)(next: ∀ q q',cL P n c ops l k Q e M (.cells A (i*2) [.pointer q, .pointer q']:: .ev x (.pointer q) (.pointer q')::D)):cL P n c ops l k Q e M D:=
  z6 (α:=Option Addr×Option Addr) (fun _=>True) (fun y=>[.cells A (i*2) [.pointer y.1, .pointer y.2], .ev x (.pointer y.1) (.pointer y.2)]) (fun w ok h=>by
    obtain⟨a,u,u',h1,h2,h3,h4,h5⟩:=(dget h j hj:(DA.evrow A c' es).p w ok).2.2 i x hi
    have hq: ∃q q',u= .pointer q∧u'= .pointer q':=by
      cases x with
      |str s=>obtain⟨p,a,b,_⟩:=h5;exact⟨_,_,a,b⟩
      |bool s=>obtain⟨p,a,b,_⟩:=h5;exact⟨_,_,a,b⟩
    obtain⟨q,q',rfl,rfl⟩:=hq
    refine⟨(q,q'),trivial,eu ⟨a,h1,h2,fun j u hj=>?_⟩ (eX h5)⟩
    match j,hj with
    |0,hj=>cases hj;exact h3
    |1,hj=>cases hj;exact h4
    |j+2,hj=>simp at hj) (fun x _=>next x.1 x.2)
theorem Dh(j:Nat){x y:Operand}{A:Option Addr}{m cap c' i:Nat}{kd:IntKind}{S E sz by_:Nat}{es:List EV}(hS:cd P S E sz by_)(hd:Nat.blt d n=true)(hx:ev e x=some (.slice A m cap))(hy:ev e y=some (.int kd (i:Nat)))(hj:D[j]? =some (.evrow A c' es))(hi:i<m)(hm:m=es.length)
  (next:cL P n c ops l k Q ((d, .pointer (some (At A (i*sz))))::e) M D):cR P n c ops (some d) (.indexAddr S x y) T l k Q e M D:=by
 intro a w hf
 have hit:=(hf.toFitsW.dt hj:(DA.evrow A c' es).p w _).2.2
 subst hm
 obtain⟨a',_,_,ha,_⟩:=hit i es[i] (List.getElem?_eq_getElem hi)
 subst ha
 exact wJ (T:=T) hS hd hx hy hi next a w hf
theorem Di(j:Nat){x:Operand}{A:Option Addr}{o:Nat}{vs:List Value}(hT:iF P T vs.length)(hd:Nat.blt d n=true)(hx:ev e x=some (.pointer (some (At A o))))(hj:D[j]? =some (.cells A o vs))
  (next:cL P n c ops l k Q ((d, .agg vs.toArray)::e) M D) {T':TypeId}:cR P n c ops (some d) (.load T x) T' l k Q e M D:=
 jT hT hd hx (fun w h j u hj'=>by
  obtain⟨a,rfl,_,hc⟩:=h.dt hj
  have:=hc j u hj'
  simp only [At,Option.getD_some,add_add']
  exact this) next
theorem uO(i j q:Nat){xs:List Value}{L:List (ByteArray×Y)}{b nb:Nat}{key:ByteArray}{y:Y}(hi:D[i]? =some (.ptrs xs (L.flatMap eM)))(hj:D[j]? =some (.node b (cc dV key)))(hq:D[q]? =some (.node nb y))
  (next:Run P n c k Q e M (.ptrs (xs++[cW b,cW nb]) ((L++[(key,y)]).flatMap eM)::D)):Run P n c k Q e M D:=
 yM (.ptrs (xs++[cW b,cW nb]) ((L++[(key,y)]).flatMap eM)) (fun w ok h=>by
  have h1:PtrsP w ok _ _:=PtrsP.snoc (dget h q hq) (PtrsP.snoc (dget h j hj) (dget h i hi))
  have e1:(L++[(key,y)]).flatMap eM=L.flatMap eM++[cc dV key]++[y]:=by simp [eM]
  rw [show(DA.ptrs (xs++[cW b,cW nb]) ((L++[(key,y)]).flatMap eM)).p w ok=PtrsP w ok (xs++[cW b,cW nb]) ((L++[(key,y)]).flatMap eM)from rfl,e1]
  simpa using h1) next
end rules
theorem xy:Tryz.prog.info? 139=some Tryz.t139:=zU Tryz.typeInfo139
theorem Dj:cb Tryz.prog 139:=⟨_,Tryz.t139,Tryz.underlying139,aH,aI,xy,rfl⟩
theorem Hm: ∃i,Tryz.prog.info? 139=some i∧i.size=1:=⟨_,xy,rfl⟩
theorem K5:gT Tryz.prog 139 (match Tryz.t139.zero with|some z=>z.cells.toList|none=>[]):=⟨Tryz.t139,_,xy,rfl,rfl⟩
theorem ui:cd Tryz.prog 139 3 1 8:=⟨Tryz.t3,_,Tryz.underlying139,zU Tryz.typeInfo3,rfl,rfl,rfl,rfl,by decide⟩
theorem d4:cd Tryz.prog 142 5 1 1:=⟨Tryz.t5,_,Tryz.underlying142,zU Tryz.typeInfo5,rfl,rfl,rfl,rfl,by decide⟩
theorem Ij:Tryz.prog.info? 189=some Tryz.t189:=zU Tryz.typeInfo189
theorem Hn:cb Tryz.prog 189:=⟨_,Tryz.t189,Tryz.underlying189,aH,aI,Ij,rfl⟩
theorem Ik:Tryz.prog.info? 206=some Tryz.t206:=zU Tryz.typeInfo206
theorem K6:cb Tryz.prog 206:=⟨_,Tryz.t206,Tryz.underlying206,aH,aI,Ik,rfl⟩
theorem Dk:Tryz.prog.info? 235=some Tryz.t235:=zU Tryz.typeInfo235
theorem lx:cb Tryz.prog 235:=⟨_,Tryz.t235,Tryz.underlying235,aH,aI,Dk,rfl⟩
theorem ph: ∃i,Tryz.prog.info? 235=some i∧i.size=1:=⟨_,Dk,rfl⟩
theorem Il:Tryz.prog.info? 246=some Tryz.t246:=zU Tryz.typeInfo246
theorem K7:gT Tryz.prog 246 (match Tryz.t246.zero with|some z=>z.cells.toList|none=>[]):=⟨Tryz.t246,_,Il,rfl,rfl⟩
theorem F8:cN Tryz.prog 305 0 0:=⟨_,_,Tryz.t206,0,Tryz.underlying305,rfl,rfl,zU Tryz.typeInfo206,rfl⟩
theorem Im:Tryz.prog.info? 349=some Tryz.t349:=zU Tryz.typeInfo349
theorem Ho:cb Tryz.prog 349:=⟨_,Tryz.t349,Tryz.underlying349,aH,aI,Im,rfl⟩
theorem Hp:cd Tryz.prog 349 214 1 8:=⟨Tryz.t214,_,Tryz.underlying349,zU Tryz.typeInfo214,rfl,rfl,rfl,rfl,by decide⟩
theorem F9(s1:ByteArray):Tryz.prog.built 228 [(0, .string s1)]=some #[.string s1]:=by kernel_rfl
end Go.Jw

namespace Go.Jw
open Go Go.RowKit Go.Proofs
set_option maxRecDepth 8000
theorem In:ww Tryz.prog 152:=⟨_,Tryz.func152,by kernel_rfl,rfl⟩
theorem NM(s:ByteArray)(hs:s.size≤maxLen):dd Tryz.prog 152 #[.string s, .string ⟨#[35]⟩] [] (.string ⟨(Lib.trimSuffix s.data.toList [35]).toArray⟩):=
  iO In fun w ok h=>(Tryz.strings_TrimSuffix s ⟨#[35]⟩ w (by unfold maxLen at hs;omega)).mono (by
    rintro e w' ⟨rfl,rfl⟩
    exact⟨rfl,Chg.refl _ _⟩)
theorem K8(u:Value)(x:Bool):CtR Tryz.prog 157 #[u] [.fv u (.sbB x)] (RN (cc eJ (tu x))):=by
 refine Ct.of_run (args:=[u]) Tryz.func157 aF Z Tryz.ntmps157 Z (fun c=>?_)
 refine F5 0 Z (fun b p hu=>?_)
 subst hu
 refine rO 12 Z (zC i0 Z Z ?_)
 refine zA (zH 0 dx Z Z Z Z ?_)
 refine zA (yI iC Z Z ?_)
 refine oO 9 Z (zC qx Z Z ?_)
 refine zA (zH 0 fp Z Z Z Z ?_)
 refine zA (yI jR Z Z ?_)
 refine oK 1 [17,0] Z Z (rO 8 Z ?_)
 refine zC qx Z Z (zA ?_)
 refine zH 0 fp Z Z Z Z (oO 3 Z ?_)
 refine yW 1 FX Z Z Z (zA ?_)
 refine zT Z Z Z (Ie x) cZ (fun u24 D24 hv24=>?_)
 obtain⟨b24,rfl,rfl⟩:=hv24
 exact oK 3 [2] Z Z (zE Tryz.results157 Z ⟨rfl,b24,rfl,rfl⟩ nS (cS 0 Z))
theorem K9(ft:DA)(mb:Nat)(G:Gr)(u:Value)(q:Nat)(v:V)(hU:Unf G v q)(H:oe ft mb G v):CtR Tryz.prog 157 #[u] [.fv u (.sbS q), .gr mb G, .tab,ft] (fun u D'=> ∃y,eE v y∧RN y u D'):=by
 refine Ct.of_run (args:=[u]) Tryz.func157 aF Z Tryz.ntmps157 Z (fun c=>?_)
 refine F3 0 Z (fun b hu=>?_)
 subst hu
 refine rO 12 Z (zC i0 Z Z ?_)
 refine zA (zH 0 dx Z Z Z Z ?_)
 refine zA (yI iC Z Z ?_)
 refine oO 9 Z (zC i0 Z Z ?_)
 refine zA (zH 0 dx Z Z Z Z ?_)
 refine zA (zT Z Z Z (H q hU) (cl 2 Z (dC 3 4 Z Z)) (fun u12 D12 hv12=>?_))
 obtain⟨y12,hy12,b12,rfl,rfl⟩:=hv12
 exact oK 3 [2] Z Z (zE Tryz.results157 Z ⟨rfl,y12,hy12,b12,rfl,rfl⟩ nS (cS 0 Z))
theorem LA(ft:DA)(mb:Nat)(G:Gr)(x:Value)(bs:List Nat)(xs:List V)(hl:xs.length≤400000)(hb:All2 (fun b z=>Unf G z b) bs xs)(H: ∀ z∈xs,oe ft mb G z):CtR Tryz.prog 163 #[x] [.rowp x bs, .gr mb G, .tab,ft] (fun u D'=> ∃zs,All2 (fun z x=>eE x z) zs xs∧RN (dG 2 zs) u D'):=by
 refine Ct.of_run (args:=[x]) Tryz.func163 aF Z Tryz.ntmps163 Z (fun c=>?_)
 refine vU 0 Z (fun A1 c1 hx hk1 hk2=>?_)
 subst hx
 unfold maxLen at hk2
 have hbl:=hb.1
 refine rO 8 Z (wI cy Z Z Z (fun b6=>?_))
 refine oO 9 Z (yA eH Z Z ?_)
 refine oK 4 [9,3,8,7] Z Z (gB ?_)
 refine yL 2 (fun(⟨i,A,ca,xs1,zs⟩:Nat×Option Addr×Nat×List Value×List Y)=>i≤bs.length∧All2 (fun z x=>eE x z) zs (xs.take i)) (fun(⟨i,A,ca,xs1,zs⟩:Nat×Option Addr×Nat×List Value×List Y)=>[(9, .int .i64 ((i:Nat):Int)),(3, .slice A i ca)]) (fun(⟨i,A,ca,xs1,zs⟩:Nat×Option Addr×Nat×List Value×List Y)=>HA.row A i ca 102 1 xs1::[]) (fun(⟨i,A,ca,xs1,zs⟩:Nat×Option Addr×Nat×List Value×List Y)=> .ptrs xs1 zs:: .rowp (.slice A1 bs.length c1) bs:: .gr mb G:: .tab::ft::[]) (fun(⟨i,A,ca,xs1,zs⟩:Nat×Option Addr×Nat×List Value×List Y)=>bs.length - i) (0,_,_,[],[]) (⟨by show 0≤_;omega,All2.nil _⟩) (eC Z (eC Z (eN _))) Z Z ?_ (eC Z (eC Z (eN _)))
 intro ⟨i,A,ca,xs1,zs⟩ hI K hK
 change Run _ _ _ _ _ [(9,_),(3,_),(8,_),(7,_)] [_] [_,_,_,_,_]
 obtain⟨hi,hall⟩:=hI
 refine rO 3 Z (yJ Z Z Z ?_)
 refine oR 2 Z (zN Z (fun h10=>?_) (fun h10=>?_))
 ·refine rO 6 Z (wT 1 eH Z Z Z Z h10 ?_)
  have hlt:i<bs.length:=h10
  have hlx:i<xs.length:=by omega
  refine zA (yH dx Z Z (fun _ h=>vJ h (j:=1) Z (List.getElem?_eq_getElem hlt)) ?_)
  refine oO 9 Z (zT Z Z Z (H _ (List.getElem_mem hlx) _ (hb.2 i _ _ (List.getElem?_eq_getElem hlt) (List.getElem?_eq_getElem hlx))) (cl 2 Z (dC 3 4 Z Z)) (fun u15 D15 hv15=>?_))
  obtain⟨y15,hy15,b15,rfl,rfl⟩:=hv15
  refine zA (zM cy Z Z Z Z Z (fun b16=>?_))
  refine zA ?_
  refine cf 1 0 cy (fun A17 c17=>?_)
  refine oK 3 [3,9,8,7] Z Z (rO 3 Z ?_)
  refine yB Z Z aC (oR 3 Z ?_)
  refine uC 1 0 Z Z ?_
  exact kQ (hK (i+1,_,_,_,zs++[y15]) (⟨by show i+1≤_;omega,gF hlx hall hy15⟩) ax) (eC Z (eC Z (eC Z (eC Z (eN _))))) (hD:=(cl 0 Z sQ))
 obtain rfl:i=bs.length:=by omega
 rw [hb.1,List.take_length]at hall
 refine sF 0 0 _ Z Z aG (rO 6 Z ?_)
 refine zT Z Z Z (If _ _ _ _) (cS 0 Z) (fun u20 D20 hv20=>?_)
 obtain⟨b20,rfl,rfl⟩:=hv20
 exact oR 3 Z (zE Tryz.results163 Z ⟨rfl,zs,hall,b20,rfl,rfl⟩ nS (cS 0 Z))
theorem LB(ft:DA)(mb:Nat)(G:Gr)(u:Value)(q:Nat)(v:V)(hU:Unf G v q)(H:oe ft mb G v):CtR Tryz.prog 155 #[u] [.fv u (.itS q), .gr mb G, .tab,ft] (fun u D'=> ∃y,eE v y∧RN y u D'):=by
 refine Ct.of_run (args:=[u]) Tryz.func155 aF Z Tryz.ntmps155 Z (fun c=>?_)
 refine F4 0 Z (fun b hu=>?_)
 subst hu
 refine rO 12 Z (zC kI Z Z ?_)
 refine zA (zH 0 dx Z Z Z Z ?_)
 refine zA (yI iC Z Z ?_)
 refine oO 9 Z (zC kI Z Z ?_)
 refine zA (zH 0 dx Z Z Z Z ?_)
 refine zA (zT Z Z Z (H q hU) (cl 2 Z (dC 3 4 Z Z)) (fun u12 D12 hv12=>?_))
 obtain⟨y12,hy12,b12,rfl,rfl⟩:=hv12
 exact oK 3 [2] Z Z (zE Tryz.results155 Z ⟨rfl,y12,hy12,b12,rfl,rfl⟩ nS (cS 0 Z))
theorem LC(ft:DA)(mb:Nat)(G:Gr)(u:Value)(bs:List Nat)(xs:List V)(hl:xs.length≤400000)(hb:All2 (fun b z=>Unf G z b) bs xs)(H: ∀ z∈xs,oe ft mb G z):CtR Tryz.prog 155 #[u] [.fv u (.itL bs), .gr mb G, .tab,ft] (fun u D'=> ∃zs,All2 (fun z x=>eE x z) zs xs∧RN (dG 2 zs) u D'):=by
 refine Ct.of_run (args:=[u]) Tryz.func155 aF Z Tryz.ntmps155 Z (fun c=>?_)
 refine F6 0 Z (fun b p sl hu=>?_)
 subst hu
 refine rO 12 Z (zC kI Z Z ?_)
 refine zA (zH 0 dx Z Z Z Z ?_)
 refine zA (yI iC Z Z ?_)
 refine oO 9 Z (zC mL Z Z ?_)
 refine zA (zH 0 dm Z Z Z Z ?_)
 refine zA (yI fU Z Z ?_)
 refine oK 1 [17,0] Z Z (rO 8 Z ?_)
 refine zC mL Z Z (zA ?_)
 refine zH 0 dm Z Z Z Z (oO 3 Z ?_)
 refine yW 1 kK Z Z Z (zA ?_)
 refine zT Z Z Z (LA ft mb G sl bs xs hl hb H) (cl 2 Z (cl 4 Z (dC 5 6 Z Z))) (fun u24 D24 hv24=>?_)
 obtain⟨zs,hz,b24,rfl,rfl⟩:=hv24
 exact oK 3 [2] Z Z (zE Tryz.results155 Z ⟨rfl,zs,hz,b24,rfl,rfl⟩ nS (cS 0 Z))
theorem NN(ft:DA)(mb:Nat)(G:Gr)(x:Value)(l:List (ByteArray×Nat))(ps:List (ByteArray×V))(hl:ps.length≤400000)(hb:All2 (DY G) l ps)(H: ∀ p∈ps,oe ft mb G p.2):CtR Tryz.prog 158 #[x] [.fv x (.named l), .gr mb G, .tab,ft] (fun u D'=> ∃L:List (ByteArray×Y),All2 (fun q p=>q.1=p.1∧eE p.2 q.2) L ps∧RN (dG 4 (L.flatMap eM)) u D'):=by
 refine Ct.of_run (args:=[x]) Tryz.func158 aF Z Tryz.ntmps158 Z (fun c=>?_)
 refine rP 0 Z (fun p sl nbs hx=>?_)
 subst hx
 refine vU 1 Z (fun A1 c1 hx hk1 hk2=>?_)
 subst hx
 refine sH 2 Z (fun hnl=>?_)
 unfold maxLen at hk2
 have hbl:=hb.1
 refine rO 8 Z (wI cy Z Z Z (fun b6=>?_))
 refine oO 11 Z (yW 0 ju Z Z Z ?_)
 refine zA (yA eA Z Z ?_)
 refine oK 4 [11,3,10,9] Z Z (gB ?_)
 refine yL 2 (fun(⟨i,m,A,ca,xs1,L⟩:Nat×Nat×Option Addr×Nat×List Value×List (ByteArray×Y))=>i≤nbs.length∧m=2*i∧All2 (fun(q:ByteArray×Y) (p:ByteArray×V)=>q.1=p.1∧eE p.2 q.2) L (ps.take i)) (fun(⟨i,m,A,ca,xs1,L⟩:Nat×Nat×Option Addr×Nat×List Value×List (ByteArray×Y))=>[(11, .int .i64 ((i:Nat):Int)),(3, .slice A m ca)]) (fun(⟨i,m,A,ca,xs1,L⟩:Nat×Nat×Option Addr×Nat×List Value×List (ByteArray×Y))=>HA.row A m ca 102 1 xs1::[]) (fun(⟨i,m,A,ca,xs1,L⟩:Nat×Nat×Option Addr×Nat×List Value×List (ByteArray×Y))=> .ptrs xs1 (L.flatMap eM):: .pts p (.slice A1 nbs.length c1):: .rowp (.slice A1 nbs.length c1) nbs:: .nam nbs l:: .fv (.pointer (some p)) (.named l):: .gr mb G:: .tab::ft::[]) (fun(⟨i,m,A,ca,xs1,L⟩:Nat×Nat×Option Addr×Nat×List Value×List (ByteArray×Y))=>nbs.length - i) (0,0,_,_,[],[]) (⟨by show 0≤_;omega,rfl,All2.nil _⟩) (eC Z (eC Z (eN _))) Z Z ?_ (eC Z (eC Z (eN _)))
 intro ⟨i,m,A,ca,xs1,L⟩ hI K hK
 change Run _ _ _ _ _ [(11,_),(3,_),(10,_),(9,_)] [_] [_,_,_,_,_,_,_,_]
 obtain⟨hi,hm,hall⟩:=hI
 refine rO 3 Z (yJ Z Z Z ?_)
 refine oR 2 Z (zN Z (fun h12=>?_) (fun h12=>?_))
 ·refine rO 6 Z (wT 2 eA Z Z Z Z h12 ?_)
  have hlt:i<nbs.length:=h12
  have hll:i<l.length:=by omega
  have hlx:i<ps.length:=by omega
  refine fV 3 i Z (List.getElem?_eq_getElem hll) (List.getElem?_eq_getElem hlt) (fun hks=>?_)
  refine zA (yH lq Z Z (fun _ h=>vJ h (j:=3) Z (List.getElem?_eq_getElem hlt)) ?_)
  refine oR 3 Z (yO yE ?_)
  refine zR (tP 0 Z cK (zZ Z) ?_)
  refine tP 1 Z cK (zZ Z) (tP 2 Z cK (xA Z) ?_)
  refine tP 3 Z cK (zY kH Z) (tP 5 Z cK (zZ Z) ?_)
  refine tP 6 Z cK (xA Z) (tP 7 Z cK (zY fQ Z) ?_)
  refine yF (tM 4 Z cK (uI 0 dK Z Z Z) ?_)
  refine tM 8 Z cK (uI 0 dx Z Z Z) (zL 9 aD ?_)
  refine zO (I2:=[[4],[3,2,1,0],[]]) Z cK aD (fun Kd hKd=>?_)
  refine zT Z Z Z (H _ (List.getElem_mem hlx) _ (hb.2 i _ _ (List.getElem?_eq_getElem hll) (List.getElem?_eq_getElem hlx)).2) (cl 6 Z (dC 7 8 Z Z)) (fun u24 D24 hv24=>?_)
  obtain⟨y24,hy24,b24,rfl,rfl⟩:=hv24
  refine hKd _ _ _ (hC (hC (zD (zP)))) (zL 10 aD ?_)
  refine zO (I2:=[[],[],[]]) Z cK aD (fun Kd hKd=>?_)
  refine wE 0 Z Z Z (od _ _ _ _ _ _ hks aC) Z cZ (fun u25 M25 D25 hv25=>?_)
  obtain⟨A25,c25,b25,rfl,rfl,rfl⟩:=hv25
  refine hKd _ _ _ (zD (zD (zD (zP)))) (zR ?_)
  refine tP 11 Z cK (xC Z) (yG aD ?_)
  refine rK 0 [3,11,10,9] Z Z (rO 3 Z ?_)
  refine yB Z Z aC (oR 3 Z ?_)
  refine uO 3 0 1 Z Z Z ?_
  exact kQ (hK (i+1,_,_,_,_,L++[((l[i]'hll).1,y24)]) (⟨by show i+1≤_;omega,by show m+2=2*(i+1);omega,gF hlx hall ⟨(hb.2 i _ _ (List.getElem?_eq_getElem hll) (List.getElem?_eq_getElem hlx)).1,hy24⟩⟩) av) (eC Z (eC Z (eC Z (eC Z (eN _))))) (hD:=(cl 0 Z sQ))
 obtain rfl:i=nbs.length:=by omega
 rw [hnl,hb.1,List.take_length]at hall
 refine sF 0 0 _ Z Z aG (rO 6 Z ?_)
 refine zT Z Z Z (K0 _ _ _ _) (cS 0 Z) (fun u28 D28 hv28=>?_)
 obtain⟨b28,rfl,rfl⟩:=hv28
 exact oR 3 Z (zE Tryz.results158 Z ⟨rfl,L,hall,b28,rfl,rfl⟩ nS (cS 0 Z))
theorem NO(tb:Nat)(p2:Addr)(sl2:Value)(l:List ByteArray)(hl:l.length≤1000000):CtR Tryz.prog 187 #[cW tb] [.dblk tb [.pointer none, .pointer (some p2)] 194, .pts p2 sl2, .strs sl2 l] (RN (dG 2 (l.map (cc dV)))):=by
 refine Ct.of_run (args:=[cW tb]) Tryz.func187 aF Z Tryz.ntmps187 Z (fun c=>?_)
 refine rO 12 Z (zC zo Z Z ?_)
 refine zA (zH 0 dx Z Z Z Z ?_)
 refine zA (yI iC Z Z ?_)
 refine oO 9 Z (zC qy Z Z ?_)
 refine zA (zH 0 jw Z Z Z Z ?_)
 refine zA (yI ud Z Z ?_)
 refine oK 1 [17,0] Z Z (rO 8 Z ?_)
 refine zC qy Z Z (zA ?_)
 refine zH 0 jw Z Z Z Z (oO 3 Z ?_)
 refine yW 1 dN Z Z Z (zA ?_)
 refine zT Z Z Z (Ig _ l hl) (cS 2 Z) (fun u24 D24 hv24=>?_)
 obtain⟨b24,rfl,rfl⟩:=hv24
 exact oK 3 [2] Z Z (zE Tryz.results187 Z ⟨rfl,b24,rfl,rfl⟩ nS (cS 0 Z))
theorem NP(x:Value)(l:List (ByteArray×List ByteArray))(hl:l.length≤400000)(hls: ∀ q∈l,q.2.length≤1000000):CtR Tryz.prog 159 #[x] [.fv x (.deps l)] (RN (dG 4 ((l.map (fun q=>(q.1,dG 2 (q.2.map (cc dV))))).flatMap eM))):=by
 refine Ct.of_run (args:=[x]) Tryz.func159 aF Z Tryz.ntmps159 Z (fun c=>?_)
 refine ug 0 Z (fun p sl nbs hx=>?_)
 subst hx
 refine vU 1 Z (fun A1 c1 hx hk1 hk2=>?_)
 subst hx
 refine nX 2 Z (fun hnl=>?_)
 unfold maxLen at hk2
 refine rO 8 Z (wI cy Z Z Z (fun b6=>?_))
 refine oO 11 Z (yW 0 C0 Z Z Z ?_)
 refine zA (yA my Z Z ?_)
 refine oK 4 [11,3,10,9] Z Z (gB ?_)
 refine yL 2 (fun(⟨i,m,A,ca,xs1⟩:Nat×Nat×Option Addr×Nat×List Value)=>i≤nbs.length∧m=2*i) (fun(⟨i,m,A,ca,xs1⟩:Nat×Nat×Option Addr×Nat×List Value)=>[(11, .int .i64 ((i:Nat):Int)),(3, .slice A m ca)]) (fun(⟨i,m,A,ca,xs1⟩:Nat×Nat×Option Addr×Nat×List Value)=>HA.row A m ca 102 1 xs1::[]) (fun(⟨i,m,A,ca,xs1⟩:Nat×Nat×Option Addr×Nat×List Value)=> .ptrs xs1 (((l.take i).map (fun q=>(q.1,dG 2 (q.2.map (cc dV))))).flatMap eM):: .pts p (.slice A1 nbs.length c1):: .rowp (.slice A1 nbs.length c1) nbs:: .dep nbs l:: .fv (.pointer (some p)) (.deps l)::[]) (fun(⟨i,m,A,ca,xs1⟩:Nat×Nat×Option Addr×Nat×List Value)=>nbs.length - i) (0,0,_,_,[]) (⟨by show 0≤_;omega,rfl⟩) (eC Z (eC Z (eN _))) Z Z ?_ (eC Z (eC Z (eN _)))
 intro ⟨i,m,A,ca,xs1⟩ hI K hK
 change Run _ _ _ _ _ [(11,_),(3,_),(10,_),(9,_)] [_] [_,_,_,_,_]
 obtain⟨hi,hm⟩:=hI
 refine rO 3 Z (yJ Z Z Z ?_)
 refine oR 2 Z (zN Z (fun h12=>?_) (fun h12=>?_))
 ·refine rO 6 Z (wT 2 my Z Z Z Z h12 ?_)
  have hlt:i<nbs.length:=h12
  have hll:i<l.length:=by omega
  refine z7 3 i Z (List.getElem?_eq_getElem hll) (List.getElem?_eq_getElem hlt) (fun tb p2 sl2 hks=>?_)
  refine zA (yH Hn Z Z (fun _ h=>vJ h (j:=6) Z (List.getElem?_eq_getElem hlt)) ?_)
  refine oR 3 Z (yO yE ?_)
  refine zR (tP 0 Z cK (zZ Z) ?_)
  refine tP 1 Z cK (zZ Z) (tP 2 Z cK (xA Z) ?_)
  refine tP 3 Z cK (zY Fk Z) (tP 5 Z cK (zZ Z) ?_)
  refine tP 6 Z cK (xA Z) (tP 7 Z cK (zY zn Z) ?_)
  refine yF (tM 4 Z cK (uI 0 dK Z Z Z) ?_)
  refine tM 8 Z cK (uI 0 Hc Z Z Z) (zL 9 aD ?_)
  refine zO (I2:=[[4],[3,2,1,0],[]]) Z cK aD (fun Kd hKd=>?_)
  refine zT Z Z Z (NO _ _ _ _ (hls _ (List.getElem_mem hll))) (cl 1 Z (dC 2 3 Z Z)) (fun u24 D24 hv24=>?_)
  obtain⟨b24,rfl,rfl⟩:=hv24
  refine hKd _ _ _ (hC (hC (zD (zP)))) (zL 10 aD ?_)
  refine zO (I2:=[[],[],[]]) Z cK aD (fun Kd hKd=>?_)
  refine wE 0 Z Z Z (od _ _ _ _ _ _ hks aC) Z cZ (fun u25 M25 D25 hv25=>?_)
  obtain⟨A25,c25,b25,rfl,rfl,rfl⟩:=hv25
  refine hKd _ _ _ (zD (zD (zD (zP)))) (zR ?_)
  refine tP 11 Z cK (xC Z) (yG aD ?_)
  refine rK 0 [3,11,10,9] Z Z (rO 3 Z ?_)
  refine yB Z Z aC (oR 3 Z ?_)
  refine uO 6 0 1 Z Z Z ?_
  rw [sX (f:=fun q:ByteArray×List ByteArray=>(q.1,dG 2 (q.2.map (cc dV)))) hll]
  exact kQ (hK (i+1,_,_,_,_) (⟨by show i+1≤_;omega,by show m+2=2*(i+1);omega⟩) av) (eC Z (eC Z (eC Z (eC Z (eN _))))) (hD:=(cl 0 Z sQ))
 obtain rfl:i=nbs.length:=by omega
 rw [hnl,List.take_length]
 refine sF 0 0 _ Z Z aG (rO 6 Z ?_)
 refine zT Z Z Z (K0 _ _ _ _) (cS 0 Z) (fun u28 D28 hv28=>?_)
 obtain⟨b28,rfl,rfl⟩:=hv28
 exact oR 3 Z (zE Tryz.results159 Z ⟨rfl,b28,rfl,rfl⟩ nS (cS 0 Z))
theorem LD(u:Value)(n:Int)(h0: -9223372036854775808≤n)(h1:n≤9223372036854775807):CtR Tryz.prog 160 #[u] [.fv u (.numI n), .tab] (RN (cc jX (dj n))):=by
 refine Ct.of_run (args:=[u]) Tryz.func160 aF Z Tryz.ntmps160 Z (fun c=>?_)
 refine Df 0 Z (fun b p hu=>?_)
 subst hu
 refine rO 12 Z (zC mM Z Z ?_)
 refine zA (zH 0 eV Z Z Z Z ?_)
 refine zA (yI fT Z Z ?_)
 refine oO 9 Z (zC mM Z Z ?_)
 refine zA (zH 0 eV Z Z Z Z ?_)
 refine oO 3 Z (yW 1 fM Z Z Z ?_)
 refine zA (zT Z Z Z (K1 n h0 h1) (cS 3 Z) (fun u14 D14 hv14=>?_))
 obtain⟨b14,rfl,rfl⟩:=hv14
 exact oK 3 [2] Z Z (zE Tryz.results160 Z ⟨rfl,b14,rfl,rfl⟩ nS (cS 0 Z))
theorem LE(ft:DA)(u:Value)(f:Nat)(y:Y)(H:CtR Tryz.prog 188 #[.float .f64 f] [ft] (RN y)):CtR Tryz.prog 160 #[u] [.fv u (.numF f),ft] (RN y):=by
 refine Ct.of_run (args:=[u]) Tryz.func160 aF Z Tryz.ntmps160 Z (fun c=>?_)
 refine Dg 0 Z (fun b p hu=>?_)
 subst hu
 refine rO 12 Z (zC mM Z Z ?_)
 refine zA (zH 0 eV Z Z Z Z ?_)
 refine zA (yI fT Z Z ?_)
 refine oO 9 Z (zC qz Z Z ?_)
 refine zA (zH 0 Hf Z Z Z Z ?_)
 refine zA (yI K2 Z Z ?_)
 refine oK 1 [19,0] Z Z (rO 8 Z ?_)
 refine zC qz Z Z (zA ?_)
 refine zH 0 Hf Z Z Z Z (oO 3 Z ?_)
 refine yW 1 C3 Z Z Z (zA ?_)
 refine zT Z Z Z (H) (cS 3 Z) (fun u26 D26 hv26=>?_)
 obtain⟨b26,rfl,rfl⟩:=hv26
 exact oK 3 [2] Z Z (zE Tryz.results160 Z ⟨rfl,b26,rfl,rfl⟩ nS (cS 0 Z))
theorem LF(b:Nat)(p:Addr)(s:ByteArray)(hs:s.size≤maxLen):Ct Tryz.prog 189 #[cW b] [.blk b [.pointer (some p), .pointer none] 223] [.pts p (.string s)] (fun u M' D'=>M'=[]∧RN (cc dV s) u D'):=by
 refine Ct.of_run (args:=[cW b]) Tryz.func189 aF Z Tryz.ntmps189 Z (fun c=>?_)
 refine rO 12 Z (zC q0 Z Z ?_)
 refine zA (zG 0 dP Z Z Z Z ?_)
 refine zA (yI dc Z Z ?_)
 refine oO 9 Z (zC q0 Z Z ?_)
 refine zA (zG 0 dP Z Z Z Z ?_)
 refine oO 3 Z (yW 0 dK Z Z Z ?_)
 refine zA (zT Z Z Z (BQ s hs) cZ (fun u14 D14 hv14=>?_))
 obtain⟨b14,rfl,rfl⟩:=hv14
 exact oK 3 [2] Z Z (zE Tryz.results189 Z ⟨rfl,b14,rfl,rfl⟩ nS (cS 0 Z))
theorem Hq(b:Nat)(p:Addr)(s:Bool):Ct Tryz.prog 189 #[cW b] [.blk b [.pointer none, .pointer (some p)] 223] [.pts p (.bool s)] (fun u M' D'=>M'=[]∧RN (cc eJ (tu s)) u D'):=by
 refine Ct.of_run (args:=[cW b]) Tryz.func189 aF Z Tryz.ntmps189 Z (fun c=>?_)
 refine rO 12 Z (zC q0 Z Z ?_)
 refine zA (zG 0 dP Z Z Z Z ?_)
 refine zA (yI dc Z Z ?_)
 refine oO 9 Z (zC zq Z Z ?_)
 refine zA (zG 0 fp Z Z Z Z ?_)
 refine zA (yI jR Z Z ?_)
 refine oK 1 [19,0] Z Z (rO 8 Z ?_)
 refine zC zq Z Z (zA ?_)
 refine zG 0 fp Z Z Z Z (oO 3 Z ?_)
 refine yW 0 FX Z Z Z (zA ?_)
 refine zT Z Z Z (Ie s) cZ (fun u26 D26 hv26=>?_)
 obtain⟨b26,rfl,rfl⟩:=hv26
 exact oK 3 [2] Z Z (zE Tryz.results189 Z ⟨rfl,b26,rfl,rfl⟩ nS (cS 0 Z))
theorem NQ(b:Nat)(x:EV)(q q':Option Addr):Ct Tryz.prog 189 #[cW b] [.blk b [.pointer q, .pointer q'] 223] [.ev x (.pointer q) (.pointer q')] (fun u M' D'=>M'=[]∧RN (BI x) u D'):=by
  refine⟨(Hq b ⟨0,0,none⟩ true).1,fun w ok hok hM hn hD=>?_⟩
  have h:=hD _ List.mem_cons_self
  cases x with
  |str s=>
    obtain⟨p,h1,h2,h3,h4⟩:EvP w ok (.str s) (.pointer q) (.pointer q'):=h
    cases h1;cases h2
    exact(LF b p s h3).2 w ok hok hM hn (fun d hd=>by rw [List.mem_singleton.1 hd];exact h4)
  |bool s=>
    obtain⟨p,h1,h2,h4⟩:EvP w ok (.bool s) (.pointer q) (.pointer q'):=h
    cases h1;cases h2
    exact(Hq b p s).2 w ok hok hM hn (fun d hd=>by rw [List.mem_singleton.1 hd];exact h4)
theorem NR(x:Value)(l:List EV)(hl:l.length≤400000):CtR Tryz.prog 162 #[x] [.fv x (.enums l)] (RN (dG 2 (l.map BI))):=by
 refine Ct.of_run (args:=[x]) Tryz.func162 aF Z Tryz.ntmps162 Z (fun c=>?_)
 refine BS 0 Z (fun p A1 c1 hx hk1 hk2=>?_)
 subst hx
 unfold maxLen at hk2
 refine rO 8 Z (wI cy Z Z Z (fun b6=>?_))
 refine oO 11 Z (yW 0 C4 Z Z Z ?_)
 refine zA (yA mz Z Z ?_)
 refine oK 4 [11,3,10,9] Z Z (yM (.ptrs [] ((l.take 0).map BI)) (fun w ok h=>rfl) ?_)
 refine yL 2 (fun(⟨i,A,ca,xs1⟩:Nat×Option Addr×Nat×List Value)=>i≤l.length) (fun(⟨i,A,ca,xs1⟩:Nat×Option Addr×Nat×List Value)=>[(11, .int .i64 ((i:Nat):Int)),(3, .slice A i ca)]) (fun(⟨i,A,ca,xs1⟩:Nat×Option Addr×Nat×List Value)=>HA.row A i ca 102 1 xs1::[]) (fun(⟨i,A,ca,xs1⟩:Nat×Option Addr×Nat×List Value)=> .ptrs xs1 ((l.take i).map BI):: .pts p (.slice A1 l.length c1):: .evrow A1 c1 l:: .fv (.pointer (some p)) (.enums l)::[]) (fun(⟨i,A,ca,xs1⟩:Nat×Option Addr×Nat×List Value)=>l.length - i) (0,_,_,[]) bq (eC Z (eC Z (eN _))) Z Z ?_ (eC Z (eC Z (eN _)))
 intro ⟨i,A,ca,xs1⟩ hI K hK
 replace hI:i≤l.length:=hI
 change Run _ _ _ _ _ [(11,_),(3,_),(10,_),(9,_)] [_] [_,_,_,_]
 refine rO 3 Z (yJ Z Z Z ?_)
 refine oR 2 Z (zN Z (fun h12=>?_) (fun h12=>?_))
 ·refine rO 6 Z (Dh 2 mz Z Z Z Z h12 Z ?_)
  have hlt:i<l.length:=h12
  refine Ii 2 i Z (List.getElem?_eq_getElem hlt) (fun q1 q2=>?_)
  refine zA (Di 0 Ka Z Z Z ?_)
  refine zA (zS Kc Z (fun b5=>?_))
  change cL _ _ _ _ _ _ _ _ (HA.blk _ [_,_] _::_) _
  refine zA (zF 0 (M':=[HA.blk _ [_,_] _,_]) Z Z Z Z Kb Z Z Z ?_)
  refine oO 5 Z (wE 0 Z Z Z (NQ _ _ _ _) Z (cS 1 Z) (fun u16 M16 D16 hv16=>?_))
  obtain⟨rfl,b16,rfl,rfl⟩:=hv16
  refine zA (zM cy Z Z Z Z Z (fun b17=>?_))
  refine zA ?_
  refine cf 1 0 cy (fun A18 c18=>?_)
  refine oO 6 Z (yB Z Z aC ?_)
  refine oK 3 [11,3,10,9] Z Z (uC 3 0 Z Z ?_)
  rw [sX]
  exact kQ (hK (i+1,_,_,_) bc ay) (eC Z (eC Z (eC Z (eC Z (eN _))))) (hD:=(cl 0 Z sQ))
 obtain rfl:i=l.length:=by omega
 rw [List.take_length]
 refine sF 0 0 _ Z Z aG (rO 6 Z ?_)
 refine zT Z Z Z (If _ _ _ _) (cS 0 Z) (fun u21 D21 hv21=>?_)
 obtain⟨b21,rfl,rfl⟩:=hv21
 exact oR 3 Z (zE Tryz.results162 Z ⟨rfl,b21,rfl,rfl⟩ nS (cS 0 Z))
structure WI(v:V)(f:Flds)(qs:List Nat)(L:List (ByteArray×Y)):Prop where
 nd:(L.map fun p=>kwIdx p.1).Nodup
 mem: ∀ p∈L,kwIdx p.1∈qs∧kwIdx p.1≠0∧kwIdx p.1≠35∧ ∃x,getV v p.1=some x∧ItemR eE (shIdx (kwIdx p.1)) x p.2
 all: ∀ q∈qs,f q≠none→ ∃p∈L,kwIdx p.1=q
 len:L.length≤qs.length
theorem WI.nil(v:V)(f:Flds):WI v f [] []:=⟨by simp,by simp,by simp,by simp⟩
theorem WI.skip{v:V}{f:Flds}{qs:List Nat}{L:List (ByteArray×Y)}{q:Nat}(h:WI v f qs L)(hq:f q=none):WI v f (q::qs) L:=
 ⟨h.nd,fun p hp=>⟨List.mem_cons_of_mem _ (h.mem p hp).1,(h.mem p hp).2⟩,fun r hr hn=>(List.mem_cons.1 hr).elim (fun e=>absurd (e▸hq) hn) (fun hr=>h.all r hr hn),Nat.le_succ_of_le h.len⟩
theorem WI.add{v:V}{f:Flds}{qs:List Nat}{L:List (ByteArray×Y)}{q:Nat}{key:ByteArray}{x:V}{z:Y}(h:WI v f qs L)(hn:qs.contains q=false)(hkw:kwIdx key=q)(h0:q≠0)(h35:q≠35)(hx:getV v key=some x)(hi:ItemR eE (shIdx q) x z):WI v f (q::qs) (L++[(key,z)]):=by
 have hn':q∉qs:=by simpa using hn
 subst hkw
 refine⟨?_,?_,?_,by simp;exact h.len⟩
 ·rw [List.map_append,List.nodup_append]
  refine⟨h.nd,by simp,?_⟩
  intro a ha b hb hab
  obtain⟨p,hp,rfl⟩:=List.mem_map.1 ha
  simp only [List.map_cons,List.map_nil,List.mem_singleton]at hb
  subst hab
  exact hn' (hb▸(h.mem p hp).1)
 ·intro p hp
  rcases List.mem_append.1 hp with hp|hp
  ·exact⟨List.mem_cons_of_mem _ (h.mem p hp).1,(h.mem p hp).2⟩
  ·rw [List.mem_singleton.1 hp]
   exact⟨List.mem_cons_self,h0,h35,x,hx,hi⟩
 ·intro r hr hnn
  rcases List.mem_cons.1 hr with rfl|hr
  ·exact⟨(key,z),by simp,rfl⟩
  ·obtain⟨p,hp,e⟩:=h.all r hr hnn
   exact⟨p,List.mem_append_left _ hp,e⟩
theorem WI.out{G:Gr}{v:V}{f:Flds}{L:List (ByteArray×Y)}(h:WI v f DT L)(hU: ∀ i,1≤i→i≤36→FldRel (fun b x=>Unf G x b) v i (f i)):eE v (dG 4 (L.flatMap eM)):=by
 refine(uh v _).2 ⟨L,rfl,h.nd,fun p hp=>(h.mem p hp).2,fun key x hx h0 h35=>?_⟩
 have hm:=DU h0 h35
 have hq:=tr h0
 have hf:=hU _ hq.1 hq.2
 obtain⟨p,hp,e⟩:=h.all _ hm (fun hn=>by rw [hn]at hf;have:=hf key rfl;rw [hx]at this;cases this)
 exact⟨p,hp,xu e (by rw [e];exact h0)⟩
theorem IsPlain.len60: ∀ {d:Nat} {t:V},IsPlain d t→t.items.length≤60
  |0, .mk q m s ks ts,h=>by
    obtain⟨_,h2,_⟩:=h
    simp only [V.items]at h2⊢
    subst h2;simp
  |d+1, .mk q m s ks ts,h=>by
    rcases h with ⟨_,h2,_⟩|⟨_,h2,_⟩
    · simp only [V.items]at h2⊢
      subst h2;simp
    · exact h2
theorem Pl.len{v:V}(h:Pl v):v.items.length≤60:=h.elim fun _ h=>h.len60
theorem uj{ps:List (ByteArray×V)}{x:V}(hp:ps.Perm (x.keys.zip x.items))(h:x.items.length≤60):ps.length≤400000:=by
 rw [hp.length_eq,List.length_zip];omega
structure Fld(ft:DA)(mb:Nat)(G:Gr)(sh:Int)(x:V):Prop where
 pl:Pl x
 fit:cT sh x
 kid: ∀ z∈kidsOf sh x,oe ft mb G z
 num:sh=3→x.kind=6→CtR Tryz.prog 188 #[.float .f64 (lH x.num)] [ft] (RN (cc d3 (dl x.num)))
section
variable {ft:DA} {mb:Nat} {G:Gr} {x:V} {fv:FVal} {u:Value}
theorem Fld.int(h:x.kind=2∨x.kind=6)(hp:Pl x): -9223372036854775808≤x.num∧x.num≤9223372036854775807:=by
 have:=hp.num.num h
 omega
theorem CtR.data{P:Program}{f:FuncId}{args:Array Value}{D D2:List DA}{R:Value→List DA→Prop}(h:CtR P f args D R)(hs: ∀ d∈D,d∈D2):CtR P f args D2 R:=Ct.data h hs
theorem w3(h:Fld ft mb G 3 x)(hr:FvRel (fun b z=>Unf G z b) 3 x fv):CtR Tryz.prog 160 #[u] [.fv u fv, .gr mb G, .tab,ft] (fun u D'=> ∃z,ItemR eE 3 x z∧RN z u D'):=by
 cases fv<;>try exact absurd hr.1 aE
 case any=>exact absurd (show(3:Int)=14 from hr) aE
 case numI n=>
  obtain⟨_,hk,rfl⟩:=hr
  have hb:=Fld.int (.inl hk) h.pl
  exact((LD u x.num hb.1 hb.2).data (dC 0 2 Z Z)).mono fun u D' hn=>⟨_, .inr (.inr (.inl ⟨rfl,hk,rfl⟩)),hn⟩
 case numF n=>
  obtain⟨_,hk,rfl⟩:=hr
  exact((LE ft u _ _ (h.num Z hk)).data (dC 0 3 Z Z)).mono fun u D' hn=>⟨_, .inr (.inr (.inr (.inl ⟨rfl,hk,rfl⟩))),hn⟩
theorem w6(h:Fld ft mb G 6 x)(hr:FvRel (fun b z=>Unf G z b) 6 x fv):CtR Tryz.prog 157 #[u] [.fv u fv, .gr mb G, .tab,ft] (fun u D'=> ∃z,ItemR eE 6 x z∧RN z u D'):=by
 cases fv<;>try exact absurd hr.1 aE
 case any=>exact absurd (show(6:Int)=14 from hr) aE
 case sbS q=>
  obtain⟨_,hk,hU⟩:=hr
  refine(K9 ft mb G u q x hU (h.kid x bi)).mono fun u D' hn=>?_
  obtain⟨z,hz,hn⟩:=hn
  exact⟨z, .inr (.inr (.inr (.inr (.inr (.inr (.inr (.inl ⟨rfl,hk,hz⟩))))))),hn⟩
 case sbB b=>
  obtain⟨_,hk,rfl⟩:=hr
  exact((K8 u _).data (cS 0 Z)).mono fun u D' hn=>⟨_, .inr (.inr (.inr (.inr (.inr (.inr (.inl ⟨rfl,hk,rfl⟩)))))),hn⟩
theorem w7(h:Fld ft mb G 7 x)(hr:FvRel (fun b z=>Unf G z b) 7 x fv):CtR Tryz.prog 155 #[u] [.fv u fv, .gr mb G, .tab,ft] (fun u D'=> ∃z,ItemR eE 7 x z∧RN z u D'):=by
 cases fv<;>try exact absurd hr.1 aE
 case any=>exact absurd (show(7:Int)=14 from hr) aE
 case itS q=>
  obtain⟨_,hk,hU⟩:=hr
  refine(LB ft mb G u q x hU (h.kid x bj)).mono fun u D' hn=>?_
  obtain⟨z,hz,hn⟩:=hn
  exact⟨z, .inr (.inr (.inr (.inr (.inr (.inr (.inr (.inr (.inl ⟨rfl,hk,hz⟩)))))))),hn⟩
 case itL bs=>
  obtain⟨_,hk,hU⟩:=hr
  have h5: ∀ y∈x.items,y.kind=5:=by
   have:=h.fit
   simp [cT,hk]at this
   exact this
  refine(LC ft mb G u bs x.items (by have:=h.pl.len;omega) hU (fun z hz=>h.kid z (by rw [gf hk h5];exact hz))).mono fun u D' hn=>?_
  obtain⟨zs,hz,hn⟩:=hn
  exact⟨_, .inr (.inr (.inr (.inr (.inr (.inr (.inr (.inr (.inr (.inl ⟨rfl,hk,zs,rfl,hz⟩))))))))),hn⟩
theorem w9(h:Fld ft mb G 9 x)(hr:FvRel (fun b z=>Unf G z b) 9 x fv):CtR Tryz.prog 158 #[u] [.fv u fv, .gr mb G, .tab,ft] (fun u D'=> ∃z,ItemR eE 9 x z∧RN z u D'):=by
 cases fv<;>try exact absurd hr.1 aE
 case any=>exact absurd (show(9:Int)=14 from hr) aE
 case named l=>
  obtain⟨_,ps,hp,hU⟩:=hr
  have h5: ∀ y∈x.items,y.kind=5:=by
   have:=h.fit
   simp [cT]at this
   exact this.2
  refine(NN ft mb G u l ps (uj hp h.pl.len) hU (fun p hq=>h.kid p.2 (by rw [kU h5];exact(List.of_mem_zip (hp.mem_iff.1 hq)).2))).mono fun u D' hn=>?_
  obtain⟨L,hz,hn⟩:=hn
  exact⟨_, .inr (.inr (.inr (.inr (.inr (.inr (.inr (.inr (.inr (.inr (.inr (.inl ⟨rfl,ps,L,rfl,hp,hz⟩))))))))))),hn⟩
theorem Pg(h:Fld ft mb G 10 x)(hr:FvRel (fun b z=>Unf G z b) 10 x fv):CtR Tryz.prog 159 #[u] [.fv u fv, .gr mb G, .tab,ft] (fun u D'=> ∃z,ItemR eE 10 x z∧RN z u D'):=by
 cases fv<;>try exact absurd hr.1 aE
 case any=>exact absurd (show(10:Int)=14 from hr) aE
 case deps l=>
  obtain⟨_,ps,hp,rfl⟩:=hr
  refine((NP u _ (by rw [List.length_map];exact uj hp h.pl.len) (fun q hq=>?_)).data (cS 0 Z)).mono fun u D' hn=>?_
  ·obtain⟨p,hm,rfl⟩:=List.mem_map.1 hq
   have:=(h.pl.item p.2 (List.of_mem_zip (hp.mem_iff.1 hm)).2).len
   rw [List.length_map];omega
  ·rw [List.map_map]at hn
   exact⟨_, .inr (.inr (.inr (.inr (.inr (.inr (.inr (.inr (.inr (.inr (.inr (.inr (.inl ⟨rfl,ps,hp,rfl⟩)))))))))))),hn⟩
theorem Ph(h:Fld ft mb G 11 x)(hr:FvRel (fun b z=>Unf G z b) 11 x fv):CtR Tryz.prog 162 #[u] [.fv u fv, .gr mb G, .tab,ft] (fun u D'=> ∃z,ItemR eE 11 x z∧RN z u D'):=by
 cases fv<;>try exact absurd hr.1 aE
 case any=>exact absurd (show(11:Int)=14 from hr) aE
 case enums l=>
  obtain⟨_,rfl⟩:=hr
  exact((NR u _ az).data (cS 0 Z)).mono fun u D' hn=>⟨_, .inr (.inr (.inr (.inr (.inr (.inr (.inr (.inr (.inr (.inr (.inr (.inr (.inr (.inl ⟨rfl,rfl⟩))))))))))))),hn⟩
theorem Pi(h:Fld ft mb G 12 x)(hr:FvRel (fun b z=>Unf G z b) 12 x fv):CtR Tryz.prog 154 #[u] [.fv u fv, .gr mb G, .tab,ft] (fun u D'=> ∃z,ItemR eE 12 x z∧RN z u D'):=by
 cases fv<;>try exact absurd hr.1 aE
 case any=>exact absurd (show(12:Int)=14 from hr) aE
 case tyS s=>
  obtain⟨_,hk,rfl⟩:=hr
  exact((K3 u _).data (cS 0 Z)).mono fun u D' hn=>⟨_, .inr (.inr (.inr (.inr (.inr (.inr (.inr (.inr (.inr (.inr (.inr (.inr (.inr (.inr (.inl ⟨rfl,hk,rfl⟩)))))))))))))),hn⟩
 case tyL s=>
  obtain⟨_,hk,rfl⟩:=hr
  exact((K4 u _ az).data (cS 0 Z)).mono fun u D' hn=>⟨_, .inr (.inr (.inr (.inr (.inr (.inr (.inr (.inr (.inr (.inr (.inr (.inr (.inr (.inr (.inr (.inl ⟨rfl,hk,rfl⟩))))))))))))))),hn⟩
theorem w8{sl:Value}{bs:List ByteArray}(h:Fld ft mb G 8 x)(hr:bs=x.items.map V.text):CtR Tryz.prog 156 #[sl] [.strs sl bs] (fun u D'=> ∃z,ItemR eE 8 x z∧RN z u D'):=by
 subst hr
 exact(Ig sl _ az).mono fun u D' hn=>⟨_, .inr (.inr (.inr (.inr (.inr (.inr (.inr (.inr (.inr (.inr (.inl ⟨rfl,rfl⟩)))))))))),hn⟩
theorem Pj{sl:Value}{bs:List Nat}(h:Fld ft mb G 13 x)(hr:All2 (fun b z=>Unf G z b) bs x.items):CtR Tryz.prog 163 #[sl] [.rowp sl bs, .gr mb G, .tab,ft] (fun u D'=> ∃z,ItemR eE 13 x z∧RN z u D'):=by
 have h5: ∀ y∈x.items,y.kind=5:=by
  have:=h.fit
  simp [cT]at this
  exact this.2
 refine(LA ft mb G sl bs x.items (by have:=h.pl.len;omega) hr (fun z hz=>h.kid z (by rw [eO h5];exact hz))).mono fun u D' hn=>?_
 obtain⟨zs,hz,hn⟩:=hn
 exact⟨_, .inr (.inr (.inr (.inr (.inr (.inr (.inr (.inr (.inr (.inr (.inr (.inr (.inr (.inr (.inr (.inr ⟨rfl,zs,rfl,hz⟩))))))))))))))),hn⟩
theorem w5{b:Nat}(h:Fld ft mb G 5 x)(hr:Unf G x b):CtR Tryz.prog 105 #[cW b] [.gr mb G, .tab,ft] (fun u D'=> ∃z,ItemR eE 5 x z∧RN z u D'):=by
 refine(h.kid x cG b hr).mono fun u D' hn=>?_
 obtain⟨z,hz,hn⟩:=hn
 exact⟨z, .inr (.inr (.inr (.inr (.inr (.inl ⟨rfl,hz⟩))))),hn⟩
end
section rules
variable {P:Program} {n:Nat} {F:List Nat} {c:Ctx F} {ops:Array Oper} {d:Nat} {T:TypeId} {l:List Oper} {k:List KI} {Q:Post} {e:dI} {M:List HA} {D:List DA}
theorem z9(j q:Nat){mb:Nat}{cs:List Value}{f:Flds}{G:Gr}{v:V}{p:Option Addr}(hj:D[j]? =some (.flds mb cs f))(h0:q≠0)(h36:q≤36)(hc:cs[q]? =some (.pointer p))(hp:p.isSome=(f q).isSome)(hb:p.isSome=true)(hU: ∀ i,1≤i→i≤36→FldRel (fun b x=>Unf G x b) v i (f i))
  (next: ∀ fv x a,p=some a→f q=some fv→getV v (lw q)=some x→kwIdx (lw q)=q→FvRel (fun b x=>Unf G x b) (shIdx q) x fv→Run P n c k Q e M (.fv (.pointer (some a)) fv::D)):Run P n c k Q e M D:=by
 obtain⟨a,rfl⟩:=Option.isSome_iff_exists.1 hb
 rw [hb]at hp
 obtain⟨fv,hfv⟩:=Option.isSome_iff_exists.1 hp.symm
 have hr:=hU q aC h36
 rw [hfv]at hr
 obtain⟨key,x,hkw,hgx,hrel⟩:=hr
 have hkey:=lI hkw h0
 subst hkey
 refine yM (.fv (.pointer (some a)) fv) (fun w ok h=>?_) (next fv x a Z hfv hgx hkw hrel)
 obtain⟨u,hu,hm⟩:=(dget h j hj:(DA.flds mb cs f).p w ok).2.2 q aC h36
 rw [hc]at hu
 cases hu
 rw [hfv]at hm
 exact hm
theorem gI(j q:Nat){mb:Nat}{cs:List Value}{f:Flds}(hj:D[j]? =some (.flds mb cs f))(h1:1≤q)(h2:q≤36)(next: ∀ p,cs[q]? =some (.pointer p)→p.isSome=(f q).isSome→Run P n c k Q e M D):Run P n c k Q e M D:=by
 intro a w hf
 obtain⟨p,h3,h4⟩:=uc (hf.toFitsW.dt hj) q h1 h2
 exact next p h3 h4 a w hf
end rules
theorem tY{p:Option Addr}{o:Option FVal}(hp:p.isSome=o.isSome)(h:p.isSome=false):o=none:=by
  rw [h]at hp
  cases o with
  |none=>rfl
  |some v=>cases hp
theorem AA{G:Gr}{v:V}{f:Flds}(hU: ∀ i,1≤i→i≤36→FldRel (fun b x=>Unf G x b) v i (f i))(q:Nat)(h1:1≤q)(h2:q≤36)(hq:(q::DT).Nodup)(h35:q≠35):f q=none:=by
  have:=hU q h1 h2
  cases hf:f q with
  |none=>rfl
  |some fv=>
    rw [hf]at this
    obtain⟨key,x,hk,_⟩:=this
    have:=DU (key:=key) aC aC
    rw [hk]at this
    exact absurd this (List.nodup_cons.1 hq).1
theorem GA{U:Nat→V→Prop}{x:V}{fv:FVal}(h:FvRel U 2 x fv):fv= .bool (decide (x.num=1)):=by
 cases fv<;>simp_all [FvRel]
theorem Io{U:Nat→V→Prop}{x:V}{fv:FVal}(h:FvRel U 4 x fv):fv= .int x.num:=by
 cases fv<;>simp_all [FvRel]
theorem Dl{U:Nat→V→Prop}{x:V}{fv:FVal}(h:FvRel U 8 x fv):fv= .texts (x.items.map V.text):=by
 cases fv<;>simp_all [FvRel]
theorem GB{U:Nat→V→Prop}{x:V}{fv:FVal}(h:FvRel U 13 x fv): ∃bs,fv= .list bs∧All2 U bs x.items:=by
 cases fv<;>simp_all [FvRel]
theorem Ip{U:Nat→V→Prop}{x:V}{fv:FVal}(h:FvRel U 5 x fv): ∃b,fv= .one b∧U b x:=by
 cases fv<;>simp_all [FvRel]
theorem vO{P:Program}{n:Nat}{F:List Nat}{c:Ctx F}{k:List KI}{Q:Post}{e:dI}{M:List HA}{D:List DA}{α:Type}{x:Code}(ts:List Nat)(I:α→Prop)(ch:α→dI)(MM:α→List HA)(DD:α→List DA)
  (h1: ∀ K:Act→World→Prop,(∀ y,I y→ ∀ a w,Fits n c (ch y++keep ts e) (MM y) (DD y) a w→K a w)→Run P n c (.code x:: .cont K::k) Q e M D)
  (h2: ∀ y,I y→Run P n c k Q (ch y++keep ts e) (MM y) (DD y)):Run P n c (.code x::k) Q e M D:=
 jt (α:={y:α//I y}) (fun y=>ch y.1++keep ts e) (fun y=>MM y.1) (fun y=>DD y.1) (fun K hK=>h1 K (fun y hy=>hK ⟨y,hy⟩)) (fun y=>h2 y.1 y.2)

end Go.Jw

