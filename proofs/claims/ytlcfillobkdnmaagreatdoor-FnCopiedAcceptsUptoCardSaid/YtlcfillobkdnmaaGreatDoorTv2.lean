/- Part 2 of the proof's texts, made small by a program. -/
import Derived.Test.YtlcfillobkdnmaaGreatDoorTv1
import Derived.Test.YtlcfillobkdnmaaGreatDoorProg
import Derived.Shelf.Small.Bits
import Derived.Shelf.Small.Wraps
import Derived.Shelf.Strconv.ParseBool
import Derived.Shelf.Strconv.Itoa0
import Derived.Shelf.Strconv.Itoa1
import Derived.Shelf.LaysM
import Derived.Shelf.Strconv.Itoa2
import Derived.Shelf.Strconv.Itoa3
import Derived.Shelf.Strconv.Itoa4
import Derived.Shelf.Strconv.ParseIntEmpty
import Derived.Shelf.Strconv.Clone
import Derived.Shelf.Strconv.SyntaxError
import Derived.Shelf.LaysC
import Derived.Shelf.Strconv.ToError
import Derived.Shelf.Strconv.Lower
import Derived.Shelf.Strconv.ParseUint10Any
import Derived.Shelf.Strconv.ParseInt10
import Derived.Shelf.Strconv.ParseUint10At
import Derived.Shelf.Strconv.ParseInt10At64
import Derived.Shelf.Strconv.ParseIntPublic10
import Derived.Ground.GgsProg
import Derived.Shelf.GgSortFunc.Insertion
import Derived.Shelf.GgSortFunc.Small
import Derived.Shelf.GgSortFunc.Tiny
import Derived.Shelf.GgSortFunc.Compose
import Derived.Shelf.GgSortFunc.LotD
import Derived.Shelf.GgSortFunc.Pivot
import Derived.Shelf.GgSortFunc.Partition
import Derived.Shelf.GgSortFunc.Pdq
import Derived.Shelf.GgSortFunc.Whole
import Derived.Shelf.Strings.Prefix
import Derived.Shelf.Bits.Mul64
import Derived.Lib.ItoaLen
set_option linter.unusedVariables false
set_option linter.unusedSimpArgs false
set_option maxHeartbeats 4000000
namespace Go.Jw
open Go Go.RowKit Go.Proofs
theorem zR{P:Program}{k:Nat}{t:TypeInfo}(h: ∀ w,(typeInfo k).run P w= .ok t w):P.info? k=some t:=by
  have h1:=h default
  cases hq:P.info? k with
  |none=>simp [typeInfo,hq,stuck]at h1
  |some i=>simp [typeInfo,hq]at h1;rw [h1]
theorem yM:Tryz.prog.follows .mixedOrders=true:=by kernel_rfl
theorem Jh:Tryz.prog.info? 2=some Tryz.t2:=zR Tryz.typeInfo2
theorem dx:cT Tryz.prog 2:=⟨_,Tryz.t2,Tryz.underlying2,aH,aI,Jh,rfl⟩
theorem Q9: ∃i,Tryz.prog.info? 2=some i∧i.size=1:=⟨_,Jh,rfl⟩
theorem RA:gz Tryz.prog 2 (match Tryz.t2.zero with|some z=>z.cells.toList|none=>[]):=⟨Tryz.t2,_,Jh,rfl,rfl⟩
theorem MP:Tryz.prog.info? 3=some Tryz.t3:=zR Tryz.typeInfo3
theorem lL:cT Tryz.prog 3:=⟨_,Tryz.t3,Tryz.underlying3,aH,aI,MP,rfl⟩
theorem s6: ∃i,Tryz.prog.info? 3=some i∧i.size=1:=⟨_,MP,rfl⟩
theorem Ji:Tryz.prog.info? 4=some Tryz.t4:=zR Tryz.typeInfo4
theorem lX:cT Tryz.prog 4:=⟨_,Tryz.t4,Tryz.underlying4,aH,aI,Ji,rfl⟩
theorem mH: ∃i,Tryz.prog.info? 4=some i∧i.size=1:=⟨_,Ji,rfl⟩
theorem PA:gz Tryz.prog 4 (match Tryz.t4.zero with|some z=>z.cells.toList|none=>[]):=⟨Tryz.t4,_,Ji,rfl,rfl⟩
theorem MQ:Tryz.prog.info? 5=some Tryz.t5:=zR Tryz.typeInfo5
theorem MR:cT Tryz.prog 5:=⟨_,Tryz.t5,Tryz.underlying5,aH,aI,MQ,rfl⟩
theorem RC: ∃i,Tryz.prog.info? 5=some i∧i.size=1:=⟨_,MQ,rfl⟩
theorem PI:Tryz.prog.info? 9=some Tryz.t9:=zR Tryz.typeInfo9
theorem dO:cT Tryz.prog 9:=⟨_,Tryz.t9,Tryz.underlying9,aH,aI,PI,rfl⟩
theorem eL:Tryz.prog.underlying 9=some .string:=Tryz.underlying9
theorem Cu:Tryz.prog.info? 22=some Tryz.t22:=zR Tryz.typeInfo22
theorem dV:cT Tryz.prog 22:=⟨_,Tryz.t22,Tryz.underlying22,aH,aI,Cu,rfl⟩
theorem iy: ∃i,Tryz.prog.info? 22=some i∧i.size=1:=⟨_,Cu,rfl⟩
theorem Jj:gz Tryz.prog 22 (match Tryz.t22.zero with|some z=>z.cells.toList|none=>[]):=⟨Tryz.t22,_,Cu,rfl,rfl⟩
theorem cV:cS Tryz.prog 22 9 1 16:=⟨Tryz.t9,_,Tryz.underlying22,zR Tryz.typeInfo9,rfl,rfl,rfl,rfl,by decide⟩
theorem IX:Tryz.prog.info? 23=some Tryz.t23:=zR Tryz.typeInfo23
theorem c7:cT Tryz.prog 23:=⟨_,Tryz.t23,Tryz.underlying23,aH,aI,IX,rfl⟩
theorem lM: ∃i,Tryz.prog.info? 23=some i∧i.size=1:=⟨_,IX,rfl⟩
theorem cX:cS Tryz.prog 23 25 5 80:=⟨Tryz.t25,_,Tryz.underlying23,zR Tryz.typeInfo25,rfl,rfl,rfl,rfl,by decide⟩
theorem Cv:Tryz.prog.info? 25=some Tryz.t25:=zR Tryz.typeInfo25
theorem cM:fj Tryz.prog 25 5:=⟨_,Tryz.t25,Tryz.underlying25, .inl ⟨_,rfl⟩,Cv,rfl⟩
theorem co: ∃i,Tryz.prog.info? 25=some i∧i.size=5:=⟨_,Cv,rfl⟩
theorem dE:gz Tryz.prog 25 (match Tryz.t25.zero with|some z=>z.cells.toList|none=>[]):=⟨Tryz.t25,_,Cv,rfl,rfl⟩
theorem wC:cI Tryz.prog 25 0 0:=⟨_,_,Tryz.t2,0,Tryz.underlying25,rfl,rfl,zR Tryz.typeInfo2,rfl⟩
theorem wZ:cI Tryz.prog 25 1 1:=⟨_,_,Tryz.t2,0,Tryz.underlying25,rfl,rfl,zR Tryz.typeInfo2,rfl⟩
theorem tE:cI Tryz.prog 25 2 2:=⟨_,_,Tryz.t9,0,Tryz.underlying25,rfl,rfl,zR Tryz.typeInfo9,rfl⟩
theorem xM:cI Tryz.prog 25 3 3:=⟨_,_,Tryz.t22,0,Tryz.underlying25,rfl,rfl,zR Tryz.typeInfo22,rfl⟩
theorem yX:cI Tryz.prog 25 4 4:=⟨_,_,Tryz.t23,0,Tryz.underlying25,rfl,rfl,zR Tryz.typeInfo23,rfl⟩
theorem MS:Tryz.prog.info? 27=some Tryz.t27:=zR Tryz.typeInfo27
theorem F3:cT Tryz.prog 27:=⟨_,Tryz.t27,Tryz.underlying27,aH,aI,MS,rfl⟩
theorem Cw:Tryz.prog.info? 34=some Tryz.t34:=zR Tryz.typeInfo34
theorem MT:fj Tryz.prog 34 6:=⟨_,Tryz.t34,Tryz.underlying34, .inl ⟨_,rfl⟩,Cw,rfl⟩
theorem Jk: ∃i,Tryz.prog.info? 34=some i∧i.size=6:=⟨_,Cw,rfl⟩
theorem Jl:gz Tryz.prog 34 (match Tryz.t34.zero with|some z=>z.cells.toList|none=>[]):=⟨Tryz.t34,_,Cw,rfl,rfl⟩
theorem Jm:cI Tryz.prog 34 0 0:=⟨_,_,Tryz.t2,0,Tryz.underlying34,rfl,rfl,zR Tryz.typeInfo2,rfl⟩
theorem Jn:cI Tryz.prog 34 1 1:=⟨_,_,Tryz.t25,4,Tryz.underlying34,rfl,rfl,zR Tryz.typeInfo25,rfl⟩
theorem IY:Tryz.prog.info? 63=some Tryz.t63:=zR Tryz.typeInfo63
theorem lN:cT Tryz.prog 63:=⟨_,Tryz.t63,Tryz.underlying63,aH,aI,IY,rfl⟩
theorem Jo: ∃i,Tryz.prog.info? 63=some i∧i.size=1:=⟨_,IY,rfl⟩
theorem Cx:Tryz.prog.info? 102=some Tryz.t102:=zR Tryz.typeInfo102
theorem dQ:cT Tryz.prog 102:=⟨_,Tryz.t102,Tryz.underlying102,aH,aI,Cx,rfl⟩
theorem IZ: ∃i,Tryz.prog.info? 102=some i∧i.size=1:=⟨_,Cx,rfl⟩
theorem Jp:Tryz.prog.info? 104=some Tryz.t104:=zR Tryz.typeInfo104
theorem oT:cT Tryz.prog 104:=⟨_,Tryz.t104,Tryz.underlying104,aH,aI,Jp,rfl⟩
theorem xb:Tryz.prog.info? 110=some Tryz.t110:=zR Tryz.typeInfo110
theorem Ia:cT Tryz.prog 110:=⟨_,Tryz.t110,Tryz.underlying110,aH,aI,xb,rfl⟩
theorem Ib: ∃i,Tryz.prog.info? 110=some i∧i.size=1:=⟨_,xb,rfl⟩
theorem MU:gz Tryz.prog 110 (match Tryz.t110.zero with|some z=>z.cells.toList|none=>[]):=⟨Tryz.t110,_,xb,rfl,rfl⟩
theorem tc:cS Tryz.prog 110 125 1 8:=⟨Tryz.t125,_,Tryz.underlying110,zR Tryz.typeInfo125,rfl,rfl,rfl,rfl,by decide⟩
theorem Cy:Tryz.prog.info? 111=some Tryz.t111:=zR Tryz.typeInfo111
theorem db:cT Tryz.prog 111:=⟨_,Tryz.t111,Tryz.underlying111,aH,aI,Cy,rfl⟩
theorem ef: ∃i,Tryz.prog.info? 111=some i∧i.size=1:=⟨_,Cy,rfl⟩
theorem Cz:Tryz.prog.info? 112=some Tryz.t112:=zR Tryz.typeInfo112
theorem ey:cT Tryz.prog 112:=⟨_,Tryz.t112,Tryz.underlying112,aH,aI,Cz,rfl⟩
theorem mI: ∃i,Tryz.prog.info? 112=some i∧i.size=1:=⟨_,Cz,rfl⟩
theorem C0:Tryz.prog.info? 113=some Tryz.t113:=zR Tryz.typeInfo113
theorem iz:cT Tryz.prog 113:=⟨_,Tryz.t113,Tryz.underlying113,aH,aI,C0,rfl⟩
theorem oU: ∃i,Tryz.prog.info? 113=some i∧i.size=1:=⟨_,C0,rfl⟩
theorem C2:Tryz.prog.info? 114=some Tryz.t114:=zR Tryz.typeInfo114
theorem eW:cT Tryz.prog 114:=⟨_,Tryz.t114,Tryz.underlying114,aH,aI,C2,rfl⟩
theorem ez: ∃i,Tryz.prog.info? 114=some i∧i.size=1:=⟨_,C2,rfl⟩
theorem C3:Tryz.prog.info? 115=some Tryz.t115:=zR Tryz.typeInfo115
theorem oV:cT Tryz.prog 115:=⟨_,Tryz.t115,Tryz.underlying115,aH,aI,C3,rfl⟩
theorem zr: ∃i,Tryz.prog.info? 115=some i∧i.size=1:=⟨_,C3,rfl⟩
theorem C4:Tryz.prog.info? 116=some Tryz.t116:=zR Tryz.typeInfo116
theorem C5:cT Tryz.prog 116:=⟨_,Tryz.t116,Tryz.underlying116,aH,aI,C4,rfl⟩
theorem Ic: ∃i,Tryz.prog.info? 116=some i∧i.size=1:=⟨_,C4,rfl⟩
theorem C6:Tryz.prog.info? 117=some Tryz.t117:=zR Tryz.typeInfo117
theorem mJ:cT Tryz.prog 117:=⟨_,Tryz.t117,Tryz.underlying117,aH,aI,C6,rfl⟩
theorem zt: ∃i,Tryz.prog.info? 117=some i∧i.size=1:=⟨_,C6,rfl⟩
theorem C7:Tryz.prog.info? 118=some Tryz.t118:=zR Tryz.typeInfo118
theorem i0:cT Tryz.prog 118:=⟨_,Tryz.t118,Tryz.underlying118,aH,aI,C7,rfl⟩
theorem oW: ∃i,Tryz.prog.info? 118=some i∧i.size=1:=⟨_,C7,rfl⟩
theorem C8:Tryz.prog.info? 119=some Tryz.t119:=zR Tryz.typeInfo119
theorem C9:cT Tryz.prog 119:=⟨_,Tryz.t119,Tryz.underlying119,aH,aI,C8,rfl⟩
theorem Id: ∃i,Tryz.prog.info? 119=some i∧i.size=1:=⟨_,C8,rfl⟩
theorem DB:Tryz.prog.info? 120=some Tryz.t120:=zR Tryz.typeInfo120
theorem DC:cT Tryz.prog 120:=⟨_,Tryz.t120,Tryz.underlying120,aH,aI,DB,rfl⟩
theorem Ie: ∃i,Tryz.prog.info? 120=some i∧i.size=1:=⟨_,DB,rfl⟩
theorem DE:Tryz.prog.info? 121=some Tryz.t121:=zR Tryz.typeInfo121
theorem DF:cT Tryz.prog 121:=⟨_,Tryz.t121,Tryz.underlying121,aH,aI,DE,rfl⟩
theorem If: ∃i,Tryz.prog.info? 121=some i∧i.size=1:=⟨_,DE,rfl⟩
theorem DG:Tryz.prog.info? 122=some Tryz.t122:=zR Tryz.typeInfo122
theorem i4:cT Tryz.prog 122:=⟨_,Tryz.t122,Tryz.underlying122,aH,aI,DG,rfl⟩
theorem oX: ∃i,Tryz.prog.info? 122=some i∧i.size=1:=⟨_,DG,rfl⟩
theorem gY:cI Tryz.prog 124 0 0:=⟨_,_,Tryz.t104,0,Tryz.underlying124,rfl,rfl,zR Tryz.typeInfo104,rfl⟩
theorem i5:cI Tryz.prog 124 1 1:=⟨_,_,Tryz.t111,0,Tryz.underlying124,rfl,rfl,zR Tryz.typeInfo111,rfl⟩
theorem gZ:cI Tryz.prog 124 2 2:=⟨_,_,Tryz.t111,0,Tryz.underlying124,rfl,rfl,zR Tryz.typeInfo111,rfl⟩
theorem lY:cI Tryz.prog 124 3 3:=⟨_,_,Tryz.t111,0,Tryz.underlying124,rfl,rfl,zR Tryz.typeInfo111,rfl⟩
theorem F4:cI Tryz.prog 124 4 4:=⟨_,_,Tryz.t112,0,Tryz.underlying124,rfl,rfl,zR Tryz.typeInfo112,rfl⟩
theorem F5:cI Tryz.prog 124 5 5:=⟨_,_,Tryz.t112,0,Tryz.underlying124,rfl,rfl,zR Tryz.typeInfo112,rfl⟩
theorem lZ:cI Tryz.prog 124 6 6:=⟨_,_,Tryz.t113,0,Tryz.underlying124,rfl,rfl,zR Tryz.typeInfo113,rfl⟩
theorem la:cI Tryz.prog 124 7 7:=⟨_,_,Tryz.t113,0,Tryz.underlying124,rfl,rfl,zR Tryz.typeInfo113,rfl⟩
theorem lc:cI Tryz.prog 124 8 8:=⟨_,_,Tryz.t112,0,Tryz.underlying124,rfl,rfl,zR Tryz.typeInfo112,rfl⟩
theorem ld:cI Tryz.prog 124 9 9:=⟨_,_,Tryz.t113,0,Tryz.underlying124,rfl,rfl,zR Tryz.typeInfo113,rfl⟩
theorem i6:cI Tryz.prog 124 10 10:=⟨_,_,Tryz.t112,0,Tryz.underlying124,rfl,rfl,zR Tryz.typeInfo112,rfl⟩
theorem i7:cI Tryz.prog 124 11 11:=⟨_,_,Tryz.t114,0,Tryz.underlying124,rfl,rfl,zR Tryz.typeInfo114,rfl⟩
theorem i8:cI Tryz.prog 124 12 12:=⟨_,_,Tryz.t114,0,Tryz.underlying124,rfl,rfl,zR Tryz.typeInfo114,rfl⟩
theorem jA:cI Tryz.prog 124 13 13:=⟨_,_,Tryz.t111,0,Tryz.underlying124,rfl,rfl,zR Tryz.typeInfo111,rfl⟩
theorem jB:cI Tryz.prog 124 14 14:=⟨_,_,Tryz.t115,0,Tryz.underlying124,rfl,rfl,zR Tryz.typeInfo115,rfl⟩
theorem jC:cI Tryz.prog 124 15 15:=⟨_,_,Tryz.t116,0,Tryz.underlying124,rfl,rfl,zR Tryz.typeInfo116,rfl⟩
theorem jD:cI Tryz.prog 124 16 16:=⟨_,_,Tryz.t114,0,Tryz.underlying124,rfl,rfl,zR Tryz.typeInfo114,rfl⟩
theorem jE:cI Tryz.prog 124 17 17:=⟨_,_,Tryz.t114,0,Tryz.underlying124,rfl,rfl,zR Tryz.typeInfo114,rfl⟩
theorem jF:cI Tryz.prog 124 18 18:=⟨_,_,Tryz.t112,0,Tryz.underlying124,rfl,rfl,zR Tryz.typeInfo112,rfl⟩
theorem jG:cI Tryz.prog 124 19 19:=⟨_,_,Tryz.t114,0,Tryz.underlying124,rfl,rfl,zR Tryz.typeInfo114,rfl⟩
theorem jH:cI Tryz.prog 124 20 20:=⟨_,_,Tryz.t114,0,Tryz.underlying124,rfl,rfl,zR Tryz.typeInfo114,rfl⟩
theorem jI:cI Tryz.prog 124 21 21:=⟨_,_,Tryz.t117,0,Tryz.underlying124,rfl,rfl,zR Tryz.typeInfo117,rfl⟩
theorem jJ:cI Tryz.prog 124 22 22:=⟨_,_,Tryz.t115,0,Tryz.underlying124,rfl,rfl,zR Tryz.typeInfo115,rfl⟩
theorem jK:cI Tryz.prog 124 23 23:=⟨_,_,Tryz.t118,0,Tryz.underlying124,rfl,rfl,zR Tryz.typeInfo118,rfl⟩
theorem jM:cI Tryz.prog 124 24 24:=⟨_,_,Tryz.t118,0,Tryz.underlying124,rfl,rfl,zR Tryz.typeInfo118,rfl⟩
theorem jN:cI Tryz.prog 124 25 25:=⟨_,_,Tryz.t119,0,Tryz.underlying124,rfl,rfl,zR Tryz.typeInfo119,rfl⟩
theorem jO:cI Tryz.prog 124 26 26:=⟨_,_,Tryz.t120,0,Tryz.underlying124,rfl,rfl,zR Tryz.typeInfo120,rfl⟩
theorem jQ:cI Tryz.prog 124 27 27:=⟨_,_,Tryz.t121,0,Tryz.underlying124,rfl,rfl,zR Tryz.typeInfo121,rfl⟩
theorem jR:cI Tryz.prog 124 28 28:=⟨_,_,Tryz.t122,0,Tryz.underlying124,rfl,rfl,zR Tryz.typeInfo122,rfl⟩
theorem jS:cI Tryz.prog 124 29 29:=⟨_,_,Tryz.t122,0,Tryz.underlying124,rfl,rfl,zR Tryz.typeInfo122,rfl⟩
theorem jT:cI Tryz.prog 124 30 30:=⟨_,_,Tryz.t122,0,Tryz.underlying124,rfl,rfl,zR Tryz.typeInfo122,rfl⟩
theorem jU:cI Tryz.prog 124 31 31:=⟨_,_,Tryz.t63,0,Tryz.underlying124,rfl,rfl,zR Tryz.typeInfo63,rfl⟩
theorem jV:cI Tryz.prog 124 32 32:=⟨_,_,Tryz.t118,0,Tryz.underlying124,rfl,rfl,zR Tryz.typeInfo118,rfl⟩
theorem jX:cI Tryz.prog 124 33 33:=⟨_,_,Tryz.t111,0,Tryz.underlying124,rfl,rfl,zR Tryz.typeInfo111,rfl⟩
theorem jY:cI Tryz.prog 124 34 34:=⟨_,_,Tryz.t111,0,Tryz.underlying124,rfl,rfl,zR Tryz.typeInfo111,rfl⟩
theorem mK:cI Tryz.prog 124 35 35:=⟨_,_,Tryz.t102,0,Tryz.underlying124,rfl,rfl,zR Tryz.typeInfo102,rfl⟩
theorem jZ:cI Tryz.prog 124 36 36:=⟨_,_,Tryz.t111,0,Tryz.underlying124,rfl,rfl,zR Tryz.typeInfo111,rfl⟩
theorem Jq:Tryz.prog.info? 125=some Tryz.t125:=zR Tryz.typeInfo125
theorem MV:cT Tryz.prog 125:=⟨_,Tryz.t125,Tryz.underlying125,aH,aI,Jq,rfl⟩
theorem F6:cI Tryz.prog 131 0 0:=⟨_,_,Tryz.t25,4,Tryz.underlying131,rfl,rfl,zR Tryz.typeInfo25,rfl⟩
theorem rE:cI Tryz.prog 131 1 5:=⟨_,_,Tryz.t4,0,Tryz.underlying131,rfl,rfl,zR Tryz.typeInfo4,rfl⟩
theorem qg:cI Tryz.prog 131 2 6:=⟨_,_,Tryz.t3,0,Tryz.underlying131,rfl,rfl,zR Tryz.typeInfo3,rfl⟩
theorem Jr:Tryz.prog.info? 146=some Tryz.t146:=zR Tryz.typeInfo146
theorem dX:cT Tryz.prog 146:=⟨_,Tryz.t146,Tryz.underlying146,aH,aI,Jr,rfl⟩
theorem DH:Tryz.prog.info? 148=some Tryz.t148:=zR Tryz.typeInfo148
theorem dj:cT Tryz.prog 148:=⟨_,Tryz.t148,Tryz.underlying148,aH,aI,DH,rfl⟩
theorem zu: ∃i,Tryz.prog.info? 148=some i∧i.size=1:=⟨_,DH,rfl⟩
theorem cn:cS Tryz.prog 148 102 1 8:=⟨Tryz.t102,_,Tryz.underlying148,zR Tryz.typeInfo102,rfl,rfl,rfl,rfl,by decide⟩
theorem wD:cI Tryz.prog 150 0 0:=⟨_,_,Tryz.t146,0,Tryz.underlying150,rfl,rfl,zR Tryz.typeInfo146,rfl⟩
theorem sN:cI Tryz.prog 150 2 2:=⟨_,_,Tryz.t9,0,Tryz.underlying150,rfl,rfl,zR Tryz.typeInfo9,rfl⟩
theorem wN:cI Tryz.prog 150 3 3:=⟨_,_,Tryz.t9,0,Tryz.underlying150,rfl,rfl,zR Tryz.typeInfo9,rfl⟩
theorem wE:cI Tryz.prog 150 6 6:=⟨_,_,Tryz.t148,0,Tryz.underlying150,rfl,rfl,zR Tryz.typeInfo148,rfl⟩
theorem F7:cI Tryz.prog 179 0 0:=⟨_,_,Tryz.t9,0,Tryz.underlying179,rfl,rfl,zR Tryz.typeInfo9,rfl⟩
theorem F8:cI Tryz.prog 179 1 1:=⟨_,_,Tryz.t63,0,Tryz.underlying179,rfl,rfl,zR Tryz.typeInfo63,rfl⟩
theorem lf:cI Tryz.prog 185 0 0:=⟨_,_,Tryz.t63,0,Tryz.underlying185,rfl,rfl,zR Tryz.typeInfo63,rfl⟩
theorem qh:cI Tryz.prog 185 1 1:=⟨_,_,Tryz.t112,0,Tryz.underlying185,rfl,rfl,zR Tryz.typeInfo112,rfl⟩
theorem qk:cI Tryz.prog 187 0 0:=⟨_,_,Tryz.t63,0,Tryz.underlying187,rfl,rfl,zR Tryz.typeInfo63,rfl⟩
theorem zv:cI Tryz.prog 187 1 1:=⟨_,_,Tryz.t122,0,Tryz.underlying187,rfl,rfl,zR Tryz.typeInfo122,rfl⟩
theorem Js:Tryz.prog.info? 190=some Tryz.t190:=zR Tryz.typeInfo190
theorem MW:cT Tryz.prog 190:=⟨_,Tryz.t190,Tryz.underlying190,aH,aI,Js,rfl⟩
theorem F9:cI Tryz.prog 192 0 0:=⟨_,_,Tryz.t9,0,Tryz.underlying192,rfl,rfl,zR Tryz.typeInfo9,rfl⟩
theorem GA:cI Tryz.prog 192 1 1:=⟨_,_,Tryz.t190,0,Tryz.underlying192,rfl,rfl,zR Tryz.typeInfo190,rfl⟩
theorem GB:cI Tryz.prog 194 0 0:=⟨_,_,Tryz.t63,0,Tryz.underlying194,rfl,rfl,zR Tryz.typeInfo63,rfl⟩
theorem ql:cI Tryz.prog 194 1 1:=⟨_,_,Tryz.t117,0,Tryz.underlying194,rfl,rfl,zR Tryz.typeInfo117,rfl⟩
theorem lg:cI Tryz.prog 196 0 0:=⟨_,_,Tryz.t111,0,Tryz.underlying196,rfl,rfl,zR Tryz.typeInfo111,rfl⟩
theorem qm:cI Tryz.prog 196 1 1:=⟨_,_,Tryz.t117,0,Tryz.underlying196,rfl,rfl,zR Tryz.typeInfo117,rfl⟩
theorem xc:Tryz.prog.info? 137=some Tryz.t137:=zR Tryz.typeInfo137
theorem zw:cT Tryz.prog 137:=⟨_,Tryz.t137,Tryz.underlying137,aH,aI,xc,rfl⟩
theorem zx: ∃i,Tryz.prog.info? 137=some i∧i.size=1:=⟨_,xc,rfl⟩
theorem Ig:gz Tryz.prog 137 (match Tryz.t137.zero with|some z=>z.cells.toList|none=>[]):=⟨Tryz.t137,_,xc,rfl,rfl⟩
theorem kk:cS Tryz.prog 137 63 1 8:=⟨Tryz.t63,_,Tryz.underlying137,zR Tryz.typeInfo63,rfl,rfl,rfl,rfl,by decide⟩
theorem xd:Tryz.prog.info? 188=some Tryz.t188:=zR Tryz.typeInfo188
theorem Ih:cT Tryz.prog 188:=⟨_,Tryz.t188,Tryz.underlying188,aH,aI,xd,rfl⟩
theorem Ii: ∃i,Tryz.prog.info? 188=some i∧i.size=1:=⟨_,xd,rfl⟩
theorem MX:gz Tryz.prog 188 (match Tryz.t188.zero with|some z=>z.cells.toList|none=>[]):=⟨Tryz.t188,_,xd,rfl,rfl⟩
theorem td:cS Tryz.prog 188 189 1 8:=⟨Tryz.t189,_,Tryz.underlying188,zR Tryz.typeInfo189,rfl,rfl,rfl,rfl,by decide⟩
theorem DI:Tryz.prog.info? 211=some Tryz.t211:=zR Tryz.typeInfo211
theorem Ij:cT Tryz.prog 211:=⟨_,Tryz.t211,Tryz.underlying211,aH,aI,DI,rfl⟩
theorem MY: ∃i,Tryz.prog.info? 211=some i∧i.size=1:=⟨_,DI,rfl⟩
theorem lh:cI Tryz.prog 213 0 0:=⟨_,_,Tryz.t114,0,Tryz.underlying213,rfl,rfl,zR Tryz.typeInfo114,rfl⟩
theorem qn:cI Tryz.prog 213 1 1:=⟨_,_,Tryz.t211,0,Tryz.underlying213,rfl,rfl,zR Tryz.typeInfo211,rfl⟩
theorem xe:Tryz.prog.info? 214=some Tryz.t214:=zR Tryz.typeInfo214
theorem DJ:cT Tryz.prog 214:=⟨_,Tryz.t214,Tryz.underlying214,aH,aI,xe,rfl⟩
theorem MZ: ∃i,Tryz.prog.info? 214=some i∧i.size=1:=⟨_,xe,rfl⟩
theorem Ma:gz Tryz.prog 214 (match Tryz.t214.zero with|some z=>z.cells.toList|none=>[]):=⟨Tryz.t214,_,xe,rfl,rfl⟩
theorem xf:Tryz.prog.info? 221=some Tryz.t221:=zR Tryz.typeInfo221
theorem DK:cT Tryz.prog 221:=⟨_,Tryz.t221,Tryz.underlying221,aH,aI,xf,rfl⟩
theorem DL: ∃i,Tryz.prog.info? 221=some i∧i.size=1:=⟨_,xf,rfl⟩
theorem Mb:gz Tryz.prog 221 (match Tryz.t221.zero with|some z=>z.cells.toList|none=>[]):=⟨Tryz.t221,_,xf,rfl,rfl⟩
theorem mL:cS Tryz.prog 221 223 2 16:=⟨Tryz.t223,_,Tryz.underlying221,zR Tryz.typeInfo223,rfl,rfl,rfl,rfl,by decide⟩
theorem xg:Tryz.prog.info? 223=some Tryz.t223:=zR Tryz.typeInfo223
theorem Mc:fj Tryz.prog 223 2:=⟨_,Tryz.t223,Tryz.underlying223, .inl ⟨_,rfl⟩,xg,rfl⟩
theorem Md: ∃i,Tryz.prog.info? 223=some i∧i.size=2:=⟨_,xg,rfl⟩
theorem Me:gz Tryz.prog 223 (match Tryz.t223.zero with|some z=>z.cells.toList|none=>[]):=⟨Tryz.t223,_,xg,rfl,rfl⟩
theorem qo:cI Tryz.prog 223 0 0:=⟨_,_,Tryz.t111,0,Tryz.underlying223,rfl,rfl,zR Tryz.typeInfo111,rfl⟩
theorem zy:cI Tryz.prog 223 1 1:=⟨_,_,Tryz.t112,0,Tryz.underlying223,rfl,rfl,zR Tryz.typeInfo112,rfl⟩
theorem Jt:Tryz.prog.built 25 []=some #[.int .i64 0, .int .i64 0, .string ⟨#[]⟩, .slice none 0 0, .slice none 0 0]:=by kernel_rfl
theorem qp(m1:Int):Tryz.prog.built 25 [(0, .int .i64 m1)]=some #[.int .i64 m1, .int .i64 0, .string ⟨#[]⟩, .slice none 0 0, .slice none 0 0]:=by kernel_rfl
theorem ja(m1:Int)(m2:Int):Tryz.prog.built 25 [(0, .int .i64 m1),(1, .int .i64 m2)]=some #[.int .i64 m1, .int .i64 m2, .string ⟨#[]⟩, .slice none 0 0, .slice none 0 0]:=by kernel_rfl
theorem DM(m1:Int)(s2:ByteArray):Tryz.prog.built 25 [(0, .int .i64 m1),(2, .string s2)]=some #[.int .i64 m1, .int .i64 0, .string s2, .slice none 0 0, .slice none 0 0]:=by kernel_rfl
theorem mM(m1:Int)(A2:Option Addr)(n2 c2:Nat):Tryz.prog.built 25 [(0, .int .i64 m1),(3, .slice A2 n2 c2)]=some #[.int .i64 m1, .int .i64 0, .string ⟨#[]⟩, .slice A2 n2 c2, .slice none 0 0]:=by kernel_rfl
theorem Ju(m2:Int)(m3:Int)(s4:ByteArray)(A5:Option Addr)(n5 c5:Nat)(A6:Option Addr)(n6 c6:Nat):Tryz.prog.built 34 [(1, .agg #[.int .i64 m2, .int .i64 m3, .string s4, .slice A5 n5 c5, .slice A6 n6 c6])]=some #[.int .i64 0, .int .i64 m2, .int .i64 m3, .string s4, .slice A5 n5 c5, .slice A6 n6 c6]:=by kernel_rfl
theorem GC(p1:Option Nat):Tryz.prog.built 124 [(0, .map p1)]=some #[.map p1, .pointer none, .pointer none, .pointer none, .pointer none, .pointer none, .pointer none, .pointer none, .pointer none, .pointer none, .pointer none, .pointer none, .pointer none, .pointer none, .pointer none, .pointer none, .pointer none, .pointer none, .pointer none, .pointer none, .pointer none, .pointer none, .pointer none, .pointer none, .pointer none, .pointer none, .pointer none, .pointer none, .pointer none, .pointer none, .pointer none, .pointer none, .pointer none, .pointer none, .pointer none, .pointer none, .pointer none]:=by kernel_rfl
theorem BL(m2:Int)(m3:Int)(s4:ByteArray)(A5:Option Addr)(n5 c5:Nat)(A6:Option Addr)(n6 c6:Nat)(m7:Int):Tryz.prog.built 131 [(0, .agg #[.int .i64 m2, .int .i64 m3, .string s4, .slice A5 n5 c5, .slice A6 n6 c6]),(2, .int .i64 m7)]=some #[.int .i64 m2, .int .i64 m3, .string s4, .slice A5 n5 c5, .slice A6 n6 c6, .bool false, .int .i64 m7]:=by kernel_rfl
theorem GD(m1:Int):Tryz.prog.built 150 [(0, .int .u32 m1)]=some #[.int .u32 m1, .int .u32 0, .string ⟨#[]⟩, .string ⟨#[]⟩, .string ⟨#[]⟩, .pointer none, .slice none 0 0, .string ⟨#[]⟩, .string ⟨#[]⟩, .string ⟨#[]⟩, .int .i64 0, .int .i64 0]:=by kernel_rfl
theorem oY(m1:Int)(s2:ByteArray):Tryz.prog.built 150 [(0, .int .u32 m1),(2, .string s2)]=some #[.int .u32 m1, .int .u32 0, .string s2, .string ⟨#[]⟩, .string ⟨#[]⟩, .pointer none, .slice none 0 0, .string ⟨#[]⟩, .string ⟨#[]⟩, .string ⟨#[]⟩, .int .i64 0, .int .i64 0]:=by kernel_rfl
theorem rI(m1:Int)(s2:ByteArray)(s3:ByteArray):Tryz.prog.built 150 [(0, .int .u32 m1),(2, .string s2),(3, .string s3)]=some #[.int .u32 m1, .int .u32 0, .string s2, .string s3, .string ⟨#[]⟩, .pointer none, .slice none 0 0, .string ⟨#[]⟩, .string ⟨#[]⟩, .string ⟨#[]⟩, .int .i64 0, .int .i64 0]:=by kernel_rfl
theorem oZ(m1:Int)(A2:Option Addr)(n2 c2:Nat):Tryz.prog.built 150 [(0, .int .u32 m1),(6, .slice A2 n2 c2)]=some #[.int .u32 m1, .int .u32 0, .string ⟨#[]⟩, .string ⟨#[]⟩, .string ⟨#[]⟩, .pointer none, .slice A2 n2 c2, .string ⟨#[]⟩, .string ⟨#[]⟩, .string ⟨#[]⟩, .int .i64 0, .int .i64 0]:=by kernel_rfl
theorem BM(s1:ByteArray)(p2:Option Addr):Tryz.prog.built 179 [(0, .string s1),(1, .pointer p2)]=some #[.string s1, .pointer p2]:=by kernel_rfl
theorem Ik:Tryz.prog.built 185 []=some #[.pointer none, .pointer none]:=by kernel_rfl
theorem GE(p1:Option Addr):Tryz.prog.built 187 [(0, .pointer p1)]=some #[.pointer p1, .pointer none]:=by kernel_rfl
theorem GF(p1:Option Addr):Tryz.prog.built 187 [(1, .pointer p1)]=some #[.pointer none, .pointer p1]:=by kernel_rfl
theorem BN(s1:ByteArray)(p2:Option Addr):Tryz.prog.built 192 [(0, .string s1),(1, .pointer p2)]=some #[.string s1, .pointer p2]:=by kernel_rfl
theorem Mf:Tryz.prog.built 194 []=some #[.pointer none, .pointer none]:=by kernel_rfl
theorem Il:Tryz.prog.built 196 []=some #[.pointer none, .pointer none]:=by kernel_rfl
theorem Im:Tryz.prog.built 213 []=some #[.pointer none, .pointer none]:=by kernel_rfl
theorem GG(p1:Option Addr):Tryz.prog.built 223 [(0, .pointer p1)]=some #[.pointer p1, .pointer none]:=by kernel_rfl
theorem GH(p1:Option Addr):Tryz.prog.built 223 [(1, .pointer p1)]=some #[.pointer none, .pointer p1]:=by kernel_rfl
end Go.Jw

namespace Go.Jw
open Go Go.RowKit

inductive V where
  |mk (kind num:Int) (text:ByteArray) (keys:List ByteArray) (items:List V)
def V.kind:V→Int| .mk k _ _ _ _=>k
def V.num:V→Int| .mk _ m _ _ _=>m
def V.text:V→ByteArray| .mk _ _ s _ _=>s
def V.keys:V→List ByteArray| .mk _ _ _ ks _=>ks
def V.items:V→List V| .mk _ _ _ _ ts=>ts

def StrsP(w:World)(ok:Nat→Prop)(v:Value)(ks:List ByteArray):Prop:=
 ∃A c,v= .slice A ks.length c∧ks.length≤c∧c≤maxLen∧(∀ s∈ks,s.size≤maxLen)∧ ∀ i s,ks[i]? =some s→ ∃a,A=some a∧ok a.block∧w.cell? (a.add (i*1))=some (.string s)
 mutual
def ValP(w:World)(ok:Nat→Prop):V→Value→Prop
  | .mk k m s ks ts,v=> ∃kv iv,v= .agg #[.int .i64 k, .int .i64 m, .string s,kv,iv]∧s.size≤maxLen∧StrsP w ok kv ks∧ ∃A c,iv= .slice A ts.length c∧ts.length≤c∧c≤maxLen∧ItemsP w ok A 0 ts
def ItemsP(w:World)(ok:Nat→Prop)(A:Option Addr):Nat→List V→Prop
  |_,[]=>True
  |i,t::ts=>(∃a x,A=some a∧ok a.block∧(∀ (j:Nat) u,x.cells[j]? =some u→w.cell? (a.add (i*5+j))=some u)∧ValP w ok t x)∧ItemsP w ok A (i+1) ts
end
def ValsP(w:World)(ok:Nat→Prop)(v:Value)(ts:List V):Prop:= ∃A c,v= .slice A ts.length c∧ts.length≤c∧c≤maxLen∧ItemsP w ok A 0 ts

section
variable {w w':World} {ok ok':Nat→Prop}
theorem uV{a:Addr}(h:w'.heap[a.block]? =w.heap[a.block]?):w'.cell? a=w.cell? a:=World.cell?_of_block (w:=w) h
theorem StrsP.mono(h1: ∀ k,ok k→ok' k)(h2: ∀ k,ok k→w'.heap[k]? =w.heap[k]?){v:Value}{ks:List ByteArray}(h:StrsP w ok v ks):StrsP w' ok' v ks:=by
 obtain⟨A,c,hv,hl,hc,hs,hk⟩:=h
 refine⟨A,c,hv,hl,hc,hs,fun i s hi=>?_⟩
 obtain⟨a,ha,hok,hcell⟩:=hk i s hi
 exact⟨a,ha,h1 _ hok,by rw [uV (w:=w) (w':=w') (a:=a.add (i*1)) bQ];exact hcell⟩
 mutual
theorem ValP.mono(h1: ∀ k,ok k→ok' k)(h2: ∀ k,ok k→w'.heap[k]? =w.heap[k]?): ∀ (t:V) {v:Value},ValP w ok t v→ValP w' ok' t v
  | .mk k m s ks ts,v,h=>by
    simp only [ValP]at h⊢
    obtain⟨kv,iv,hv,hs,hk,A,c,hi,hl,hc,hit⟩:=h
    exact⟨kv,iv,hv,hs,hk.mono h1 h2,A,c,hi,hl,hc,ItemsP.mono h1 h2 A ts 0 hit⟩
theorem ItemsP.mono(h1: ∀ k,ok k→ok' k)(h2: ∀ k,ok k→w'.heap[k]? =w.heap[k]?)(A:Option Addr): ∀ (ts:List V) (i:Nat),ItemsP w ok A i ts→ItemsP w' ok' A i ts
  |[],_,_=>by simp [ItemsP]
  |t::ts,i,h=>by
    simp only [ItemsP]at h⊢
    obtain⟨⟨a,x,ha,hok,hc,hx⟩,hr⟩:=h
    exact⟨⟨a,x,ha,h1 _ hok,fun j u hj=>by rw [uV (w:=w) (w':=w') (a:=a.add (i*5+j)) bQ];exact hc j u hj,ValP.mono h1 h2 t hx⟩,ItemsP.mono h1 h2 A ts (i+1) hr⟩
end
theorem ItemsP.get{A:Option Addr}: ∀ {ts:List V} {i:Nat},ItemsP w ok A i ts→ ∀ {j:Nat} {t:V},ts[j]? =some t→
    ∃a x,A=some a∧ok a.block∧(∀ (q:Nat) u,x.cells[q]? =some u→w.cell? (a.add ((i+j)*5+q))=some u)∧ValP w ok t x
  |[],i,_,j,t,hj=>by simp at hj
  |t'::ts,i,h,0,t,hj=>by
    simp only [ItemsP]at h
    simp at hj
    subst hj
    exact h.1
  |t'::ts,i,h,j+1,t,hj=>by
    simp only [ItemsP]at h
    have:=ItemsP.get h.2 (j:=j) (t:=t) bu
    rwa [show i+1+j=i+(j+1)from by omega]at this
theorem ItemsP.of_get{A:Option Addr}: ∀ {ts:List V} {i:Nat},(∀ j t,ts[j]? =some t→ ∃a x,A=some a∧ok a.block∧(∀ (q:Nat) u,x.cells[q]? =some u→w.cell? (a.add ((i+j)*5+q))=some u)∧ValP w ok t x)→ItemsP w ok A i ts
  |[],i,_=>by simp [ItemsP]
  |t::ts,i,h=>by
    simp only [ItemsP]
    refine⟨h 0 t Z,ItemsP.of_get fun j t' hj=>?_⟩
    have:=h (j+1) t' bu
    rwa [show i+(j+1)=i+1+j from by omega]at this
end
def DA.val(v:Value)(t:V):DA:=⟨fun w ok=>ValP w ok t v,fun h1 h2 h=>ValP.mono h1 h2 t h⟩
def DA.strs(v:Value)(ks:List ByteArray):DA:=⟨fun w ok=>StrsP w ok v ks,fun h1 h2 h=>h.mono h1 h2⟩
def DA.vals(v:Value)(ts:List V):DA:=⟨fun w ok=>ValsP w ok v ts,fun h1 h2 h=>by
 obtain⟨A,c,a1,a2,a3,h⟩:=h
 exact⟨A,c,a1,a2,a3,ItemsP.mono h1 h2 A ts 0 h⟩⟩

def At(A:Option Addr)(k:Nat):Addr:=(A.getD ⟨0,0,none⟩).add k

section rules
variable {P:Program} {n:Nat} {F:List Nat} {c:Ctx F} {ops:Array Oper} {d:Nat} {T:TypeId} {l:List Oper} {k:List KI} {Q:cu} {e:dF} {M:List HA} {D:List DA}
theorem jc(j:Nat){v:Value}{q m:Int}{s:ByteArray}{ks:List ByteArray}{ts:List V}(hj:D[j]? =some (.val v (.mk q m s ks ts)))
  (next: ∀ A1 c1 A2 c2,v= .agg #[.int .i64 q, .int .i64 m, .string s, .slice A1 ks.length c1, .slice A2 ts.length c2]→s.size≤maxLen→ks.length≤c1→c1≤maxLen→ts.length≤c2→c2≤maxLen→
   Run P n c k Q e M (.strs (.slice A1 ks.length c1) ks:: .vals (.slice A2 ts.length c2) ts::D)):Run P n c k Q e M D:=by
 intro a w hf
 have h:ValP w (c.now M w) (.mk q m s ks ts) v:=hf.toFitsW.dt hj
 simp only [ValP]at h
 obtain⟨kv,iv,hv,hs,⟨A1,c1,hk1,hk2,hk3,hk4,hk5⟩,A2,c2,hi1,hi2,hi3,hi4⟩:=h
 subst hk1
 subst hi1
 refine next A1 c1 A2 c2 hv hs hk2 hk3 hi2 hi3 a w (hf.world (hf.toFitsW.data fun d hd=>?_))
 rcases List.mem_cons.1 hd with rfl|hd
 ·exact⟨A1,c1,rfl,hk2,hk3,hk4,hk5⟩
 rcases List.mem_cons.1 hd with rfl|hd
 ·exact⟨A2,c2,rfl,hi2,hi3,hi4⟩
 ·exact hf.dat d hd
theorem yN(j:Nat){v:Value}{t:V}(hj:D[j]? =some (.val v t))
  (next: ∀ A1 c1 A2 c2,v= .agg #[.int .i64 t.kind, .int .i64 t.num, .string t.text, .slice A1 t.keys.length c1, .slice A2 t.items.length c2]→t.text.size≤maxLen→t.keys.length≤c1→c1≤maxLen→t.items.length≤c2→c2≤maxLen→
   Run P n c k Q e M (.strs (.slice A1 t.keys.length c1) t.keys:: .vals (.slice A2 t.items.length c2) t.items::D)):Run P n c k Q e M D:=by
 obtain⟨q,m,s,ks,ts⟩:=t
 exact jc j hj next

theorem te(j:Nat){v:Value}{ks:List ByteArray}(hj:D[j]? =some (.strs v ks))(next: ∀ A1 c1,v= .slice A1 ks.length c1→ks.length≤c1→c1≤maxLen→Run P n c k Q e M D):Run P n c k Q e M D:=by
 intro a w hf
 obtain⟨A,c1,hv,h1,h2,_⟩:StrsP w (c.now M w) v ks:=hf.toFitsW.dt hj
 exact next A c1 hv h1 h2 a w hf
theorem xO{w:World}(h:FitsW c M D w){j:Nat}{A:Option Addr}{m cap:Nat}{ks:List ByteArray}{i:Nat}{s:ByteArray}(hj:D[j]? =some (.strs (.slice A m cap) ks))(hi:ks[i]? =some s):w.cell? (At A (i*1))=some (.string s):=by
 obtain⟨A',c',hv,_,_,_,hk⟩:StrsP w (c.now M w) (.slice A m cap) ks:=h.dt hj
 obtain⟨a,ha,_,hc⟩:=hk i s hi
 injection hv with hA
 subst hA
 subst ha
 exact hc
theorem xS(j:Nat){x y:Operand}{A:Option Addr}{m cap i:Nat}{kd:IntKind}{S E sz by_:Nat}{ks:List ByteArray}(hS:cS P S E sz by_)(hd:Nat.blt d n=true)(hx:ev e x=some (.slice A m cap))(hy:ev e y=some (.int kd (i:Nat)))(hj:D[j]? =some (.strs (.slice A m cap) ks))(hi:i<m)
  (next:cG P n c ops l k Q ((d, .pointer (some (At A (i*sz))))::e) M D):cL P n c ops (some d) (.indexAddr S x y) T l k Q e M D:=by
 intro a w hf
 obtain⟨A',c',hv,_,_,_,hk⟩:StrsP w (c.now M w) (.slice A m cap) ks:=hf.toFitsW.dt hj
 injection hv with hA hm
 subst hA
 subst hm
 obtain⟨a',ha,_⟩:=hk i ks[i] (List.getElem?_eq_getElem hi)
 subst ha
 exact xY (T:=T) hS hd hx hy hi next a w hf
theorem xC(j:Nat){x y:Operand}{A:Option Addr}{m cap i:Nat}{kd:IntKind}{S E sz by_:Nat}{ts:List V}(hS:cS P S E sz by_)(hd:Nat.blt d n=true)(hx:ev e x=some (.slice A m cap))(hy:ev e y=some (.int kd (i:Nat)))(hj:D[j]? =some (.vals (.slice A m cap) ts))(hi:i<m)
  (next:cG P n c ops l k Q ((d, .pointer (some (At A (i*sz))))::e) M D):cL P n c ops (some d) (.indexAddr S x y) T l k Q e M D:=by
 intro a w hf
 obtain⟨A',c',hv,_,_,hit⟩:ValsP w (c.now M w) (.slice A m cap) ts:=hf.toFitsW.dt hj
 injection hv with hA hm
 subst hA
 subst hm
 obtain⟨a',_,ha,_⟩:=hit.get (List.getElem?_eq_getElem hi)
 subst ha
 exact xY (T:=T) hS hd hx hy hi next a w hf
theorem xB(j:Nat){x:Operand}{A:Option Addr}{m cap i:Nat}{ts:List V}{t:V}(hT:fj P T 5)(hd:Nat.blt d n=true)(hx:ev e x=some (.pointer (some (At A (i*5)))))(hj:D[j]? =some (.vals (.slice A m cap) ts))(hi:ts[i]? =some t)
  (next: ∀ A1 c1 A2 c2,cG P n c ops l k Q ((d, .agg #[.int .i64 t.kind, .int .i64 t.num, .string t.text, .slice A1 t.keys.length c1, .slice A2 t.items.length c2])::e) M (.val (.agg #[.int .i64 t.kind, .int .i64 t.num, .string t.text, .slice A1 t.keys.length c1, .slice A2 t.items.length c2]) t::D)) {T':TypeId}:cL P n c ops (some d) (.load T x) T' l k Q e M D:=by
 intro a w hf
 obtain⟨A',c',hv,_,_,hit⟩:ValsP w (c.now M w) (.slice A m cap) ts:=hf.toFitsW.dt hj
 injection hv with hA hm
 subst hA
 obtain⟨a',v,ha,hok,hcells,hval⟩:=hit.get hi
 subst ha
 obtain⟨q,r,s,ks,its⟩:=t
 have hval':=hval
 simp only [ValP]at hval'
 obtain⟨kv,iv,rfl,_,⟨A1,c1,rfl,_⟩,A2,c2,rfl,_⟩:=hval'
 have hrun:(execOp a.eval (dH (some d) (.load T x) T')).run P w= .ok (.value (.agg #[.int .i64 q, .int .i64 r, .string s, .slice A1 ks.length c1, .slice A2 its.length c2])) w:=by
  have:=rP (P:=P) (w:=w) (T:=T) (a:=a'.add (i*5)) (vs:=[.int .i64 q, .int .i64 r, .string s, .slice A1 ks.length c1, .slice A2 its.length c2]) hT (fun p u hp=>by
   rw [add_add']
   have:=hcells p u (by simpa [Value.cells]using hp)
   rwa [Nat.zero_add]at this)
  have hx':=hf.ev hx
  simp only [At,Option.getD_some]at hx'
  simp [execOp,dH,hx',this]
 unfold Oper.wp
 rw [hrun]
 refine next A1 c1 A2 c2 _ w ((hf.world (hf.toFitsW.data fun x hx=>?_)).put hd _)
 rcases List.mem_cons.1 hx with rfl|hx
 ·exact hval
 ·exact hf.dat x hx
end rules
inductive Pc where
  |mk (kind least:Nat) (neg:Bool) (fr to:List UInt8) (kids:List Pc)
def Pc.kids:Pc→List Pc| .mk _ _ _ _ _ ks=>ks
abbrev PR:=Pc×Nat×Bool
def nx(s:ByteArray)(q:Nat):UInt8:=if h:q<s.size then s[q]else 0
def du(c:UInt8):Bool:=decide (97≤c.toNat∧c.toNat≤122)||decide (65≤c.toNat∧c.toNat≤90)
def dl(c:UInt8):Bool:=decide (48≤c.toNat∧c.toNat≤57)
def fu(c:UInt8):Bool:=du c||dl c||decide (c.toNat=32)||decide (c.toNat=45)||decide (c.toNat=95)
abbrev d4(ks:List Pc):Pc:= .mk 3 0 false [] [] ks
def eO(s:ByteArray)(ng:Bool):Nat→Nat→List UInt8→List UInt8→PR
  |0,q,fr,to=>(.mk 1 0 ng fr to [],q,true)
  |n+1,q,fr,to=>
    if nx s q=93 then(.mk 1 0 ng fr to [],q+1,fr.isEmpty)
    else if(du (nx s q)||dl (nx s q))=false then(.mk 1 0 ng fr to [],q,true)
    else if nx s (q+1)=45 then
      (if(du (nx s (q+2))||dl (nx s (q+2)))=false∨(nx s (q+2)).toNat<(nx s q).toNat then(.mk 1 0 ng fr to [],q+2,true)
       else eO s ng n (q+3) (fr++[nx s q]) (to++[nx s (q+2)]))
    else eO s ng n (q+1) (fr++[nx s q]) (to++[nx s q])
def g9(s:ByteArray)(q:Nat):PR:=if nx s (q+1)=94 then eO s true (s.size+1) (q+2) [] []else eO s false (s.size+1) (q+1) [] []
def mN(s:ByteArray)(C:Nat→PR)(q:Nat):PR:=
 if nx s q=91 then g9 s q
 else if nx s q=40 then((C (q+1)).1,(C (q+1)).2.1+1,(C (q+1)).2.2|| !decide (nx s (C (q+1)).2.1=41))
 else if nx s q=46 then(.mk 1 0 true [10] [10] [],q+1,false)
 else if fu (nx s q)=true then(.mk 1 0 false [nx s q] [nx s q] [],q+1,false)
 else(d4 [],q,true)
def eD(s:ByteArray)(r:PR):PR:=
 if nx s r.2.1=63 then(.mk 4 0 false [] [] [r.1,d4 []],r.2.1+1,r.2.2)
 else if nx s r.2.1=42 then(.mk 2 0 false [] [] [r.1],r.2.1+1,r.2.2)
 else if nx s r.2.1=43 then(.mk 2 1 false [] [] [r.1],r.2.1+1,r.2.2)else r
def fx(s:ByteArray)(S:Nat→PR):Nat→Nat→List Pc→PR
  |0,q,ks=>(d4 ks,q,false)
  |n+1,q,ks=>
    if q<s.size∧nx s q≠41∧nx s q≠124 then
      (if(eD s (S q)).2.2=true then(d4 (ks++[(eD s (S q)).1]),(eD s (S q)).2.1,true)else fx s S n (eD s (S q)).2.1 (ks++[(eD s (S q)).1]))
    else(d4 ks,q,false)
def rowF(s:ByteArray)(S:Nat→PR)(q:Nat):PR:=fx s S (s.size+1) q []
def iR(s:ByteArray)(R:Nat→PR):Nat→List Pc→Nat→Bool→PR
  |0,ks,q,bad=>(.mk 4 0 false [] [] ks,q,bad)
  |n+1,ks,q,bad=>if bad=false∧nx s q=124 then iR s R n (ks++[(R (q+1)).1]) (R (q+1)).2.1 (R (q+1)).2.2 else(.mk 4 0 false [] [] ks,q,bad)
def pchF(s:ByteArray)(S:Nat→PR)(q:Nat):PR:=iR s (rowF s S) (s.size+1) [(rowF s S q).1] (rowF s S q).2.1 (rowF s S q).2.2
def sgD(s:ByteArray):Nat→Nat→PR
  |0=>fun q=>(d4 [],q,true)
  |D+1=>mN s (pchF s (sgD s D))
def fD(ng:Bool)(fr to:List UInt8)(c:UInt8):Bool:=if(fr.zip to).any (fun p=>decide (p.1.toNat≤c.toNat) && decide (c.toNat≤p.2.toNat))=true then !ng else ng
def oa(a b:List Bool):List Bool:=List.zipWith (fun x y=>x||y) a b
def eX(g:List Bool→List Bool):Nat→List Bool→List Bool
  |0,o=>o
  |n+1,o=>if oa o (g o)=o then o else eX g n (oa o (g o))
def km(g:List Bool→List Bool):Nat→List Bool→List Bool
  |0,f=>f
  |n+1,f=>km g n (g f)
def dR(t:ByteArray):List Bool:=List.replicate (t.size+1) false
def qq(t:ByteArray)(ng:Bool)(fr to:List UInt8)(f:List Bool):List Bool:=false::(List.range t.size).map fun i=>f.getD i false && fD ng fr to (nx t i)
 mutual
def eB(t:ByteArray):Pc→List Bool→List Bool
  | .mk k lst ng fr to ks,f=>
    if k=1 then qq t ng fr to f else if k=3 then lO t ks f else if k=4 then lP t ks f (dR t)
    else if k=2 then eX (fy t ks) (t.size+2) (km (fy t ks) lst f)else dR t
def lO(t:ByteArray):List Pc→List Bool→List Bool
  |[],f=>f
  |p::ps,f=>lO t ps (eB t p f)
def lP(t:ByteArray):List Pc→List Bool→List Bool→List Bool
  |[],_,o=>o
  |p::ps,f,o=>lP t ps f (oa o (eB t p f))
def fy(t:ByteArray):List Pc→List Bool→List Bool
  |[],f=>f
  |p::_,f=>eB t p f
end
def eY(p:ByteArray):Bool:=decide (0<p.size) && decide (nx p 0=94)
def eS(p:ByteArray):ByteArray:=if eY p=true then p.extract 1 p.size else p
def eP(p:ByteArray):Bool:=decide (0<p.size) && decide (nx p (p.size - 1)=36)
def eh(p:ByteArray):ByteArray:=if eP p=true then p.extract 0 (p.size - 1)else p
def Mt(p t:ByteArray):Bool×Bool:=
 if 60<(eh (eS p)).size then(false,false)
 else if((pchF (eh (eS p)) (sgD (eh (eS p)) 7) 0).2.2||decide ((pchF (eh (eS p)) (sgD (eh (eS p)) 7) 0).2.1<(eh (eS p)).size)||((eY p||eP (eS p)) && decide (1<(pchF (eh (eS p)) (sgD (eh (eS p)) 7) 0).1.kids.length)))=true then(false,false)
 else if eP (eS p)=true then((eB t (pchF (eh (eS p)) (sgD (eh (eS p)) 7) 0).1 ((List.range (t.size+1)).map fun i=> !eY p||decide (i=0))).getD t.size false,true)
 else((eB t (pchF (eh (eS p)) (sgD (eh (eS p)) 7) 0).1 ((List.range (t.size+1)).map fun i=> !eY p||decide (i=0))).any id,true)

theorem V.ind{p:V→Prop}(h: ∀ q m s ks ts,(∀ t∈ts,p t)→p (.mk q m s ks ts)): ∀ t,p t
  | .mk q m s ks ts=>h q m s ks ts (fun t ht=>by
      have:=List.sizeOf_lt_of_mem ht
      exact V.ind h t)
  termination_by t=>SizeOf.sizeOf t

def DA.cells(A:Option Addr)(o:Nat)(vs:List Value):DA:=⟨fun w ok=> ∃a,A=some a∧ok a.block∧ ∀ (j:Nat) u,vs[j]? =some u→w.cell? (a.add (o+j))=some u,by
 rintro w w' ok ok' h1 h2 ⟨a,rfl,hok,h⟩
 exact⟨a,rfl,h1 _ hok,fun j u hj=>by rw [uV (w:=w) (w':=w') (a:=a.add (o+j)) bQ];exact h j u hj⟩⟩

section rules
variable {P:Program} {n:Nat} {F:List Nat} {c:Ctx F} {ops:Array Oper} {d:Nat} {T:TypeId} {l:List Oper} {k:List KI} {Q:cu} {e:dF} {M:List HA} {D:List DA}
  {I:List (List Nat)} {S:List (List HA×List DA)} {listed:Array Bool} {fuel:Nat}
theorem sV(j:Nat){v:Value}{ks:List ByteArray}(hj:D[j]? =some (.strs v ks))(next:(∀ s∈ks,s.size≤maxLen)→Run P n c k Q e M D):Run P n c k Q e M D:=
 qD (fun w ok h=>by obtain⟨_,_,_,_,_,hs,_⟩:StrsP w ok v ks:=h _ (List.mem_of_getElem? hj);exact hs) next
theorem BO{w:World}(h:FitsW c M D w){j:Nat}{A:Option Addr}{m cap:Nat}{ts:List V}{i:Nat}{t:V}(hj:D[j]? =some (.vals (.slice A m cap) ts))(hi:ts[i]? =some t):w.cell? ((At A (i*5)).add 2)=some (.string t.text):=by
 obtain⟨A',c',hv,_,_,hit⟩:ValsP w (c.now M w) (.slice A m cap) ts:=h.dt hj
 injection hv with hA hm
 subst hA
 obtain⟨a,x,ha,_,hc,hval⟩:=hit.get hi
 subst ha
 obtain⟨q,r,s,ks,its⟩:=t
 simp only [ValP]at hval
 obtain⟨kv,iv,rfl,_⟩:=hval
 have:=hc 2 (.string s) rfl
 rw [Nat.zero_add]at this
 simp only [At,Option.getD_some,add_add']
 exact this
theorem GI{w:World}{ok:Nat→Prop}{A:Option Addr}{m cap i:Nat}{ts:List V}{t:V}(hj:DA.vals (.slice A m cap) ts∈D)(hi:ts[i]? =some t)(h: ∀ d∈D,d.p w ok):
  ∃vs,vs.length=5∧(DA.cells A (i*5) vs).p w ok∧(DA.val (.agg vs.toArray) t).p w ok:=by
 obtain⟨A',c',hv,_,_,hit⟩:ValsP w ok (.slice A m cap) ts:=h _ hj
 injection hv with hA hm
 subst hA
 obtain⟨a',v,ha,hok,hcells,hval⟩:=hit.get hi
 subst ha
 obtain⟨q,r,s,ks,its⟩:=t
 have hval':=hval
 simp only [ValP]at hval'
 obtain⟨kv,iv,rfl,_⟩:=hval'
 refine⟨[.int .i64 q, .int .i64 r, .string s,kv,iv],rfl,⟨a',rfl,hok,fun j u hj=>?_⟩,hval⟩
 have:=hcells j u (by simpa [Value.cells]using hj)
 rwa [Nat.zero_add]at this
theorem f3{A:Option Addr}{m cap i:Nat}{ts:List V}{t:V}(j:Nat)(hj:D[j]? =some (.vals (.slice A m cap) ts))(hi:ts[i]? =some t)
  (next: ∀ vs:List Value,vs.length=5→cZ P n c ops k Q fuel I S listed e M (.cells A (i*5) vs:: .val (.agg vs.toArray) t::D)):cZ P n c ops k Q fuel I S listed e M D:=by
 intro a w hf hT
 obtain⟨vs,hl,h1,h2⟩:=GI (List.mem_of_getElem? hj) hi hf.dat
 refine next vs hl a w (hf.world (hf.toFitsW.data fun x hx=>?_)) hT
 rcases List.mem_cons.1 hx with rfl|hx
 ·exact h1
 rcases List.mem_cons.1 hx with rfl|hx
 ·exact h2
 ·exact hf.dat x hx
theorem vN{x:Operand}{A:Option Addr}{o:Nat}{vs:List Value}(q:Nat)(hl:vs.length=5)(hT:fj P T 5)(hx:ev e x=some (.pointer (some (At A o))))(hq:D[q]? =some (.cells A o vs)){T':TypeId}:St P n c (.load T x) T' e M D (.agg vs.toArray):=
  iQ (by rw [hl];exact hT) hx (fun w h j u hj=>by
    obtain⟨a,rfl,_,hc⟩:=h.dt hq
    have:=hc j u hj
    rwa [←add_add']at this)
theorem fE(j:Nat){x y:Operand}{A:Option Addr}{m cap i:Nat}{kd:IntKind}{S E sz by_:Nat}{ks:List ByteArray}(hS:cS P S E sz by_)(hx:ev e x=some (.slice A m cap))(hy:ev e y=some (.int kd (i:Nat)))(hj:D[j]? =some (.strs (.slice A m cap) ks))(hi:i<m):
  St P n c (.indexAddr S x y) T e M D (.pointer (some (At A (i*sz)))):=by
 intro d a w hf
 obtain⟨A',c',hv,_,_,_,hk⟩:StrsP w (c.now M w) (.slice A m cap) ks:=hf.toFitsW.dt hj
 injection hv with hA hm
 subst hA
 subst hm
 obtain⟨a',ha,_⟩:=hk i ks[i] (List.getElem?_eq_getElem hi)
 subst ha
 exact uP (T:=T) hS hx hy hi d a w hf
theorem wJ(j:Nat){x y:Operand}{A:Option Addr}{m cap i:Nat}{kd:IntKind}{S E sz by_:Nat}{ts:List V}(hS:cS P S E sz by_)(hx:ev e x=some (.slice A m cap))(hy:ev e y=some (.int kd (i:Nat)))(hj:D[j]? =some (.vals (.slice A m cap) ts))(hi:i<m):
  St P n c (.indexAddr S x y) T e M D (.pointer (some (At A (i*sz)))):=by
 intro d a w hf
 obtain⟨A',c',hv,_,_,hit⟩:ValsP w (c.now M w) (.slice A m cap) ts:=hf.toFitsW.dt hj
 injection hv with hA hm
 subst hA
 subst hm
 obtain⟨a',_,ha,_⟩:=hit.get (List.getElem?_eq_getElem hi)
 subst ha
 exact uP (T:=T) hS hx hy hi d a w hf
end rules

def ItsP(w:World)(ok:Nat→Prop):List Value→List V→Prop
  |xs,[]=>xs=[]
  |xs,t::ts=> ∃v rest,v.cells.size=5∧xs=v.cells.toList++rest∧ValP w ok t v∧ItsP w ok rest ts
theorem ItsP.mono{w w':World}{ok ok':Nat→Prop}(h1: ∀ k,ok k→ok' k)(h2: ∀ k,ok k→w'.heap[k]? =w.heap[k]?): ∀ {ts:List V} {xs:List Value},ItsP w ok xs ts→ItsP w' ok' xs ts
  |[],_,h=>h
  |t::ts,_,⟨v,rest,hs,hx,hv,hr⟩=>⟨v,rest,hs,hx,ValP.mono h1 h2 t hv,ItsP.mono h1 h2 hr⟩
def DA.its(xs:List Value)(ts:List V):DA:=⟨fun w ok=>ItsP w ok xs ts,fun h1 h2 h=>ItsP.mono h1 h2 h⟩
theorem ItsP.snoc{w:World}{ok:Nat→Prop}{t:V}{v:Value}(hs:v.cells.size=5)(hv:ValP w ok t v): ∀ {ts:List V} {xs:List Value},ItsP w ok xs ts→ItsP w ok (xs++v.cells.toList) (ts++[t])
  |[],_,h=>by
    have h':_=[]:=h
    subst h'
    exact⟨v,[],hs,by simp,hv,rfl⟩
  |t'::ts,_,⟨v',rest,hs',hx,hv',hr⟩=>by
    subst hx
    exact⟨v',_,hs',by rw [List.append_assoc],hv',ItsP.snoc hs hv hr⟩
theorem ItsP.get{w:World}{ok:Nat→Prop}: ∀ {ts:List V} {xs:List Value},ItsP w ok xs ts→ ∀ {j:Nat} {t:V},ts[j]? =some t→ ∃v,ValP w ok t v∧ ∀ (q:Nat) u,v.cells[q]? =some u→xs[j*5+q]? =some u
  |[],_,_,j,t,hj=>by simp at hj
  |t'::ts,_,⟨v',rest,hs',hx,hv',hr⟩,0,t,hj=>by
    simp at hj
    subst hj;subst hx
    refine⟨v',hv',fun q u hq=>?_⟩
    have hlt:=(Array.getElem?_eq_some_iff.1 hq).1
    rw [Nat.zero_mul,Nat.zero_add,List.getElem?_append_left (by simpa using hlt)]
    simpa using hq
  |t'::ts,_,⟨v',rest,hs',hx,hv',hr⟩,j+1,t,hj=>by
    subst hx
    obtain⟨v,hv,hc⟩:=ItsP.get hr (j:=j) (t:=t) bu
    refine⟨v,hv,fun q u hq=>?_⟩
    rw [List.getElem?_append_right (by simp [hs'];omega)]
    have:=hc q u hq
    rwa [show(j+1)*5+q - v'.cells.toList.length=j*5+q from by simp [hs'];omega]

theorem uK{w:World}{A:Option Addr}{n c T sz:Nat}{xs:List Value}(h:(HA.row A n c T sz xs).holds w):n≤c∧c≤maxLen∧ ∀ j u,xs[j]? =some u→ ∃a,A=some a∧(HA.row A n c T sz xs).foot=[a.block]∧w.cell? (a.add j)=some u:=by
 obtain⟨h1,h2⟩:=h
 rcases h2 with ⟨h2,h3⟩|⟨g,cap,cur,hv,_,hc,hn,hm,hs,ht⟩
 ·injection h2 with h4 h5 h6
  subst h3;subst h4;subst h6
  refine⟨Nat.le_refl _,by simp [maxLen],fun j u hj=>?_⟩
  simp at h1
  subst h1
  simp at hj
 ·injection hv with h4 h5 h6
  subst h4;subst h6
  refine⟨hn,hm,fun j u hj=>⟨_,rfl,rfl,?_⟩⟩
  rw [wB]
  subst ht
  have hlt:=(List.getElem?_eq_some_iff.1 hj).1
  rw [List.getElem?_take]at hj
  split at hj
  ·rename_i hlt2
   simp only [World.cell?,hc,Nat.zero_add]
   simpa using hj
  ·cases hj
theorem tf{w:World}{ok:Nat→Prop}{A:Option Addr}{n c T:Nat}{xs:List Value}{ks:List ByteArray}(h:(HA.row A n c T 1 xs).holds w)(hok: ∀ b∈(HA.row A n c T 1 xs).foot,ok b)(hx:xs=ks.map Value.string)(hs: ∀ s∈ks,s.size≤maxLen):StrsP w ok (.slice A n c) ks:=by
 obtain⟨h1,h2,h3⟩:=uK h
 have hn:n=ks.length:=by have:=h.1;subst hx;simp at this;omega
 subst hn
 refine⟨A,c,rfl,h1,h2,hs,fun i s hi=>?_⟩
 obtain⟨a,ha,hf,hc⟩:=h3 i (.string s) (by subst hx;simp [hi])
 exact⟨a,ha,hok _ bz,by rw [Nat.mul_one];exact hc⟩
theorem tg{w:World}{ok:Nat→Prop}{A:Option Addr}{n c T:Nat}{xs:List Value}{ts:List V}(h:(HA.row A n c T 5 xs).holds w)(hok: ∀ b∈(HA.row A n c T 5 xs).foot,ok b)(hx:ItsP w ok xs ts)(hn:n=ts.length):ValsP w ok (.slice A n c) ts:=by
 obtain⟨h1,h2,h3⟩:=uK h
 subst hn
 refine⟨A,c,rfl,h1,h2,ItemsP.of_get fun j t hj=>?_⟩
 obtain⟨v,hv,hc⟩:=hx.get hj
 obtain⟨q,r,s,ks,its⟩:=t
 have hv':=hv
 simp only [ValP]at hv'
 obtain⟨kv,iv,rfl,_⟩:=hv'
 obtain⟨a,ha,hf,_⟩:=h3 _ _ (hc 0 (.int .i64 q) rfl)
 refine⟨a,_,ha,hok _ bz,fun p u hp=>?_,hv⟩
 obtain⟨a',ha',_,hc'⟩:=h3 _ _ (hc p u hp)
 rw [ha]at ha'
 cases ha'
 rw [Nat.zero_add]
 exact hc'

def RV(t:V)(u:Value)(D':List DA):Prop:= ∃A1 c1 A2 c2,u= .agg #[.int .i64 t.kind, .int .i64 t.num, .string t.text, .slice A1 t.keys.length c1, .slice A2 t.items.length c2]∧D'=[.val u t]

section rules
variable {P:Program} {n:Nat} {F:List Nat} {c:Ctx F} {ops:Array Oper} {d:Nat} {T:TypeId} {l:List Oper} {k:List KI} {Q:cu} {e:dF} {M:List HA} {D:List DA}
theorem qF{S E sz by_:Nat}(hS:cS P S E sz by_)(hd:Nat.blt d n=true)
  (next: ∀ b,cG P n c ops l k Q ((d, .slice (some ⟨b,0,none⟩) 0 0)::e) (.row (some ⟨b,0,none⟩) 0 0 E sz []::M) D):cL P n c ops (some d) (.buildSlice S 0 #[]) T l k Q e M D:=by
 obtain⟨ti,z,hu,hinf,hs1,hb1,hz,hzs,hsz0⟩:=hS
 intro a w hf
 have hrun:(execOp a.eval (dH (some d) (.buildSlice S 0 #[]) T)).run P w= .ok (.value (.slice (some ⟨w.heap.size,0,none⟩) 0 0)) (w.alloc (.cells #[] E (0,0))):=by
  have hb:(Instr.buildSlice S 0 #[]).run P w= .ok (.slice (some ⟨w.heap.size,0,none⟩) 0 0) (w.alloc (.cells #[] E (0,0))):=by
   unfold Instr.buildSlice
   simp only [Sem.run_bind,run_underlying hu,Result.andThen_ok,xK hinf,hs1,Nat.zero_mul]
   have hr0:(Array.range 0).map (fun x=>(default:Value))= #[]:=Array.eq_empty_of_size_eq_zero aJ
   simp [Instr.fill,newRow,newObj,Sem.run,hr0]
  simp only [execOp,dH,List.map_toArray,List.map_nil,Sem.run_bind,hb,Result.andThen_ok,Sem.run_pure]
 unfold Oper.wp
 rw [hrun]
 have hx2:(HA.row (some ⟨w.heap.size,0,none⟩) 0 0 E sz []).holds (w.alloc (.cells #[] E (0,0))):=by
  refine⟨by simp, .inr ⟨w.heap.size,0, #[],rfl,Nat.zero_le _,?_,Nat.le_refl _,by simp [maxLen],by simp,by simp⟩⟩
  show(w.heap.push _)[w.heap.size]? =_
  simp
 exact next w.heap.size _ _ ((hf.world (hf.toFitsW.new _ hx2 Z)).put hd _)
theorem xh(i j:Nat){x y:Operand}{A:Option Addr}{m cap:Nat}{S E sz by_:Nat}{xs vs:List Value}{b:Nat}{U:TypeId}(hS:cS P S E sz by_)(hd:Nat.blt d n=true)(hx:ev e x=some (.slice A m cap))(hy:ev e y=some (.slice (some ⟨b,0,none⟩) 1 1))(hi:M[i]? =some (.row A m cap E sz xs))
  (hj:M[j]? =some (.blk b vs U)) (hl:vs.length=sz) (h1:vs.all (·.oneCell')=true) (hsz:m+1≤maxLen) (hby:(m+1)*by_≤140737488355328)
  (next: ∀ A' cap',cG P n c ops l k Q ((d, .slice A' (m+1) cap')::e) (M.set i (.row A' (m+1) cap' E sz (xs++vs))) D):
  cL P n c ops (some d) (.call {callee:= .builtin .append,args:= #[x,y],argTypes:= #[S,S]}) T l k Q e M D:=
 kA i hS hd hx hy hi aC (fun w h=> .inr ⟨_,rfl,fun q u hq=>by rw [wB];exact eu h hj (by rw [Nat.zero_add];exact hq)⟩) (fun u hu=>List.all_eq_true.1 h1 u hu) hsz hby next
theorem PJ{a i:Nat}(h:i<a):a - (i+1)<a - i:=by omega
theorem cW(i j:Nat){x y:Operand}{A:Option Addr}{m cap:Nat}{S E sz by_:Nat}{xs vs:List Value}{b:Nat}{U:TypeId}(hS:cS P S E sz by_)(next: ∀ A' cap',cG P n c ops l k Q ((d, .slice A' (m+1) cap')::e) (M.set i (.row A' (m+1) cap' E sz (xs++vs))) D)(hd:Nat.blt d n=true:=by rfl)(hx:ev e x=some (.slice A m cap):=by rfl)(hy:ev e y=some (.slice (some ⟨b,0,none⟩) 1 1):=by rfl)(hi:M[i]? =some (.row A m cap E sz xs):=by rfl)(hj:M[j]? =some (.blk b vs U):=by rfl)(hl:vs.length=sz:=by rfl)(h1:vs.all (·.oneCell')=true:=by rfl)(hsz:m+1≤maxLen:=by unfold maxLen;omega)(hby:(m+1)*by_≤140737488355328:=by omega):
 cL P n c ops (some d) (.call {callee:= .builtin .append,args:= #[x,y],argTypes:= #[S,S]}) T l k Q e M D:=xh i j hS hd hx hy hi hj hl h1 hsz hby next
theorem qY(i j:Nat){x y:Operand}{A B:Option Addr}{m cap q cq:Nat}{S E by_:Nat}{xs:List Value}{ks:List ByteArray}(hS:cS P S E 1 by_)(hd:Nat.blt d n=true)(hx:ev e x=some (.slice A m cap))(hy:ev e y=some (.slice B q cq))(hi:M[i]? =some (.row A m cap E 1 xs))
    (hj:D[j]? =some (.strs (.slice B q cq) ks)) (hq:ks.length=q) (hsz:m+q≤maxLen) (hby:(m+q)*by_≤140737488355328)
    (next: ∀ A' cap',cG P n c ops l k Q ((d, .slice A' (m+q) cap')::e) (M.set i (.row A' (m+q) cap' E 1 (xs++ks.map Value.string))) D):
    cL P n c ops (some d) (.call {callee:= .builtin .append,args:= #[x,y],argTypes:= #[S,S]}) T l k Q e M D:=by
  refine kA i hS hd hx hy hi (by simp [hq]) (fun w h=>?_) (fun u hu=>?_) hsz hby next
  · obtain⟨B',c',hv,_,_,_,hk⟩:StrsP w (c.now M w) (.slice B q cq) ks:=h.dt hj
    injection hv with hB hm
    subst hB
    cases B with
    |none=>
      left
      refine⟨?_,rfl⟩
      cases ks with
      |nil=>simpa using hq.symm
      |cons s ks=>obtain⟨a,ha,_⟩:=hk 0 s rfl;cases ha
    |some b=>
      right
      refine⟨b,rfl,fun p u hp=>?_⟩
      rw [List.getElem?_map]at hp
      obtain⟨s,hs,rfl⟩:=Option.map_eq_some_iff.1 hp
      obtain⟨a,ha,_,hc⟩:=hk p s hs
      cases ha
      rwa [Nat.mul_one]at hc
  · obtain⟨s,_,rfl⟩:=List.mem_map.1 hu
    rfl
theorem vV(i j:Nat){xs:List Value}{ts:List V}{v:Value}{t:V}(hi:D[i]? =some (.its xs ts))(hj:D[j]? =some (.val v t))(hs:v.cells.size=5)(next:Run P n c k Q e M (.its (xs++v.cells.toList) (ts++[t])::D)):Run P n c k Q e M D:=
 uJ (D':= .its (xs++v.cells.toList) (ts++[t])::D) (fun w ok h x hx=>by
  rcases List.mem_cons.1 hx with rfl|hx
  ·exact ItsP.snoc hs (h _ (List.mem_of_getElem? hj)) (h _ (List.mem_of_getElem? hi))
  ·exact h _ hx) next
theorem f6(next:Run P n c k Q e M (.its [] []::D)):Run P n c k Q e M D:=
 uJ (D':= .its [] []::D) (fun w ok h x hx=>by
  rcases List.mem_cons.1 hx with rfl|hx
  ·exact rfl
  ·exact h _ hx) next
theorem tF(i:Nat){h:HA}(D':List DA)(hF: ∀ b∈F,b∈cP (M.eraseIdx i))(hi:M[i]? =some h)(hd: ∀ (w:World) (ok:Nat→Prop),h.holds w→(∀ b∈h.foot,ok b)→(∀ d∈D,d.p w ok)→ ∀ d∈D',d.p w ok)
  (next:Run P n c k Q e (M.eraseIdx i) (D'++D)):Run P n c k Q e M D:=by
 intro a w hf
 have h1:=hf.toFitsW.perm (wQ hi)
 have hnd:=h1.nodup
 refine next a w (hf.world (h1.freeze (fun b hb hbF=>?_) (hd w)))
 exact(List.nodup_append.1 hnd).2.2 b hb b (hF b hbF) Z
theorem uC(i:Nat){A:Option Addr}{m cap E:Nat}{xs:List Value}(ks:List ByteArray)(hi:M[i]? =some (.row A m cap E 1 xs))(hF: ∀ b∈F,b∈cP (M.eraseIdx i))(hx:xs=ks.map Value.string)(hs: ∀ s∈ks,s.size≤maxLen)(next:Run P n c k Q e (M.eraseIdx i) (.strs (.slice A m cap) ks::D)):Run P n c k Q e M D:=
 tF i [.strs (.slice A m cap) ks] hF hi (fun w ok h hok hD d hd=>by
  rcases List.mem_singleton.1 hd with rfl
  exact tf h hok hx hs) next
theorem sX(i j:Nat){A:Option Addr}{m cap E:Nat}{xs:List Value}(ts:List V)(hi:M[i]? =some (.row A m cap E 5 xs))(hj:D[j]? =some (.its xs ts))(hF: ∀ b∈F,b∈cP (M.eraseIdx i))(hm:m=ts.length)(next:Run P n c k Q e (M.eraseIdx i) (.vals (.slice A m cap) ts::D)):Run P n c k Q e M D:=
 tF i [.vals (.slice A m cap) ts] hF hi (fun w ok h hok hD d hd=>by
  rcases List.mem_singleton.1 hd with rfl
  exact tg h hok (hD _ (List.mem_of_getElem? hj)) hm) next
theorem vP(i j:Nat){q m:Int}{s:ByteArray}{kv iv:Value}{ks:List ByteArray}{ts:List V}(hi:D[i]? =some (.strs kv ks))(hj:D[j]? =some (.vals iv ts))(hs:s.size≤maxLen)(next:Run P n c k Q e M (.val (.agg #[.int .i64 q, .int .i64 m, .string s,kv,iv]) (.mk q m s ks ts)::D)):Run P n c k Q e M D:=
 uJ (D':= .val (.agg #[.int .i64 q, .int .i64 m, .string s,kv,iv]) (.mk q m s ks ts)::D) (fun w ok h x hx=>by
  rcases List.mem_cons.1 hx with rfl|hx
  ·have h1:StrsP w ok kv ks:=h _ (List.mem_of_getElem? hi)
   obtain⟨A,c,hv,h2,h3,h4⟩:ValsP w ok iv ts:=h _ (List.mem_of_getElem? hj)
   show ValP w ok _ _
   simp only [ValP]
   exact⟨kv,iv,rfl,hs,h1,A,c,hv,h2,h3,h4⟩
  ·exact h _ hx) next
theorem sY(next:Run P n c k Q e M (.strs (.slice none 0 0) []::D)):Run P n c k Q e M D:=
 uJ (D':= .strs (.slice none 0 0) []::D) (fun w ok h x hx=>by
  rcases List.mem_cons.1 hx with rfl|hx
  ·exact⟨none,0,rfl,by simp,by simp [maxLen],by simp,by simp⟩
  ·exact h _ hx) next
theorem rV(next:Run P n c k Q e M (.vals (.slice none 0 0) []::D)):Run P n c k Q e M D:=
 uJ (D':= .vals (.slice none 0 0) []::D) (fun w ok h x hx=>by
  rcases List.mem_cons.1 hx with rfl|hx
  ·exact⟨none,0,rfl,by simp,by simp [maxLen],by simp [ItemsP]⟩
  ·exact h _ hx) next
theorem yG(i:Nat){fo:Operand}{ags:Array Operand}{ts:Array TypeId}{f:FuncId}{cap:Array Value}{vs:List Value}{x:HA}{D1:List DA}{R:Value→List HA→List DA→Prop}(hd:Nat.blt d n=true)(hfo:ev e fo=some (.func (.func f) #[] cap))(has:ags.toList.mapM (ev e)=some vs)
  (hct:Ct P f (vs.toArray++cap) [x] D1 R) (hM:M[i]? =some x) (hD: ∀ d∈D1,d∈D)
  (next: ∀ v M' D',R v M' D'→cG P n c ops l k Q ((d,v)::e) (M'++M.eraseIdx i) (D'++D)):cL P n c ops (some d) (.call {callee:= .value fo,args:=ags,argTypes:=ts}) T l k Q e M D:=
 fun a w hf=>tB (M1:=[x]) (M2:=M.eraseIdx i) hd hfo has hct rfl hD next a w (hf.world (hf.toFitsW.perm (wQ hM)))
theorem pF(i j:Nat){fo:Operand}{ags:Array Operand}{ts:Array TypeId}{f:FuncId}{cap:Array Value}{vs:List Value}{x y:HA}{D1:List DA}{R:Value→List HA→List DA→Prop}(hd:Nat.blt d n=true)(hfo:ev e fo=some (.func (.func f) #[] cap))(has:ags.toList.mapM (ev e)=some vs)
  (hct:Ct P f (vs.toArray++cap) [x,y] D1 R) (hM:M[i]? =some x) (hM2:(M.eraseIdx i)[j]? =some y) (hD: ∀ d∈D1,d∈D)
  (next: ∀ v M' D',R v M' D'→cG P n c ops l k Q ((d,v)::e) (M'++(M.eraseIdx i).eraseIdx j) (D'++D)):cL P n c ops (some d) (.call {callee:= .value fo,args:=ags,argTypes:=ts}) T l k Q e M D:=
 fun a w hf=>tB (M1:=[x,y]) (M2:=(M.eraseIdx i).eraseIdx j) hd hfo has hct rfl hD next a w (hf.world (hf.toFitsW.perm ((wQ hM).trans ((wQ hM2).cons x))))
end rules
end Go.Jw

namespace Go.Jw
open Go Go.RowKit Go.Proofs
set_option maxRecDepth 8000
def dL(ks:List ByteArray)(key:ByteArray):Int:=if ks.findIdx (fun x=>decide (x=key))<ks.length then(ks.findIdx (fun x=>decide (x=key)):Nat)else -1
theorem th{ks:List ByteArray}{key:ByteArray}{i:Nat}(h:i<ks.length)(he:ks[i]=key)(hno: ∀ j,j<i→ks[j]? ≠some key):dL ks key=(i:Nat):=by
 have:ks.findIdx (fun x=>decide (x=key))=i:=by
  rw [List.findIdx_eq h]
  refine⟨by simpa using he,fun j hj=>?_⟩
  have:=hno j hj
  rw [List.getElem?_eq_getElem aC]at this
  simpa using this
 simp [dL,this,h]
theorem DN{ks:List ByteArray}{key:ByteArray}{i:Nat}(h:ks.length≤i)(hno: ∀ j,j<i→ks[j]? ≠some key):dL ks key= -1:=by
 have:ks.findIdx (fun x=>decide (x=key))=ks.length:=by
  rw [List.findIdx_eq_length]
  intro x hx
  obtain⟨j,hj,rfl⟩:=List.getElem_of_mem hx
  have:=hno j aC
  rw [List.getElem?_eq_getElem hj]at this
  simpa using this
 simp [dL,this]
theorem Mg{ks:List ByteArray}{key:ByteArray}{i:Nat}(hno: ∀ j,j<i→ks[j]? ≠some key)(h:i<ks.length)(hne: ¬ ks[i]=key): ∀ j,j<i+1→ks[j]? ≠some key:=by
 intro j hj
 rcases Nat.lt_or_eq_of_le (Nat.le_of_lt_succ hj)with h1|rfl
 ·exact hno j h1
 ·rw [List.getElem?_eq_getElem h];simpa using hne
theorem Jv{α:Type}{p:α→Prop}{ks:List α}{i:Nat}(hno: ∀ j (h:j<ks.length),j<i→p ks[j]){hi:i<ks.length}(hp:p ks[i]): ∀ j (h:j<ks.length),j<i+1→p ks[j]:=by
 intro j h hj
 rcases Nat.lt_or_eq_of_le (Nat.le_of_lt_succ hj)with h1|rfl
 ·exact hno j h h1
 ·exact hp
theorem DO{p:UInt8→Prop}{s:ByteArray}{i:Nat}(hno: ∀ j (h:j<s.size),j<i→p s[j]){hi:i<s.size}(hp:p s[i]): ∀ j (h:j<s.size),j<i+1→p s[j]:=by
 intro j h hj
 rcases Nat.lt_or_eq_of_le (Nat.le_of_lt_succ hj)with h1|rfl
 ·exact hno j h h1
 ·exact hp
def DP(ks:List ByteArray):Prop:=ks.length≤2147483647∧ ∀ j (h:j<ks.length),ks[j].size≤2147483647
def In(t:V):Prop:=t.text.size≤2147483647∧DP t.keys∧t.items.length≤2147483647
def Mh(b:UInt8):Prop:=(32≤b.toNat∧b.toNat≤126)∨b.toNat=9∨b.toNat=10
def eT(s:ByteArray):Prop:=(∀ j (h:j<s.size),Mh s[j])∧s.size≤200

theorem c49(v:Value)(ks:List ByteArray):di Tryz.prog 49 #[v] [.strs v ks] (.bool (tb (DP ks))):=by
 refine Ct.of_run (args:=[v]) Tryz.func49 aF Z Tryz.ntmps49 Z (fun c=>?_)
 refine te 0 Z (fun A1 c1 hx hk1 hk2=>?_)
 subst hx
 unfold maxLen at hk2
 refine rO 11 Z (zX cV Z Z ?_)
 refine zA (wO Z Z Z ?_)
 refine yO (zI Z (fun h7=>?_) (fun h7=>?_))
 ·refine rR 5 Z ?_
  exact zD Tryz.results49 Z ⟨yI (by simp [DP];omega),rfl,rfl⟩ nS (fun _ h=>by cases h)
 refine rO 7 Z (zX cV Z Z ?_)
 refine oK 4 [10,9,8] Z Z ?_
 refine xX 1 (fun(i:Nat)=>i≤ks.length∧ ∀ j (h:j<ks.length),j<i→ks[j].size≤2147483647) (fun(i:Nat)=>[(10, .int .i64 ((i:Nat):Int))]) (fun(i:Nat)=>ks.length - i) 0 (⟨aC,fun _ _ h=>absurd h aC⟩) (eC Z (eN _)) ?_ (eC Z (eC Z (eN _)))
 intro i hI K hK
 change Run _ _ _ _ _ [(10,_),(9,_),(8,_)] _ _
 obtain⟨hi,hno⟩:=hI
 refine rO 3 Z (yL Z Z Z ?_)
 refine oR 2 Z (zI Z (fun h11=>?_) (fun h11=>?_))
 ·refine rO 6 Z (xS 0 cV Z Z Z Z aC ?_)
  refine zA (yR dO Z Z (fun _ h=>xO h (j:=0) Z (List.getElem?_eq_getElem h11)) ?_)
  refine oO 8 Z (xF eL Z Z ?_)
  refine zA (wO Z Z Z ?_)
  refine yO (zI Z (fun h16=>?_) (fun h16=>?_))
  ·refine rK 5 [2] Z Z ?_
   exact zD Tryz.results49 Z ⟨yI (by simp only [Bool.false_eq_true,false_iff];exact fun h=>absurd (h.2 i h11) aC),rfl,rfl⟩ nS (fun _ h=>by cases h)
  refine rO 4 Z (zN Z Z aC ?_)
  refine oR 3 Z ?_
  exact kQ (hK (i+1) (⟨aC,Jv (p:=fun x=>x.size≤2147483647) hno (hi:=h11) (by show ks[i].size≤2147483647;omega)⟩) aC)
 refine rR 6 Z ?_
 exact zD Tryz.results49 Z ⟨yI (by simp only [true_iff];exact⟨aC,fun j hj=>hno j hj aC⟩),rfl,rfl⟩ nS (fun _ h=>by cases h)
theorem RD(x:Value)(t:V):di Tryz.prog 19 #[x] [.val x t] (.bool (tb (In t))):=by
 refine Ct.of_run (args:=[x]) Tryz.func19 aF Z Tryz.ntmps19 Z (fun c=>?_)
 refine yN 0 Z (fun A1 c1 A2 c2 hx hs hk1 hk2 hi1 hi2=>?_)
 subst hx
 refine rO 3 Z (yK Z Z Z (fun b1=>?_))
 refine oO 7 Z (zC tE Z Z ?_)
 refine zA (zF 0 dO Z Z Z Z ?_)
 refine zA (xF eL Z Z ?_)
 refine zA (wO Z Z Z ?_)
 refine yO (zI Z (fun h6=>?_) (fun h6=>?_))
 ·refine rR 5 Z ?_
  exact zD Tryz.results19 Z ⟨yI (by simp [In];omega),rfl,rfl⟩ nS (fun _ h=>by cases h)
 refine rO 5 Z (zC xM Z Z ?_)
 refine zA (zF 0 dV Z Z Z Z ?_)
 refine zA (zL Z Z Z (c49 _ _) (cO 0 Z) ?_)
 refine oK 3 [10,1] Z Z (yC Z (fun h10=>?_) (fun h10=>?_))
 ·refine rR 5 Z ?_
  exact zD Tryz.results19 Z ⟨yI (by simp only [Bool.false_eq_true,false_iff];intro h;rw [df h.2.1]at h10;cases h10),rfl,rfl⟩ nS (fun _ h=>by cases h)
 refine rO 5 Z (zC yX Z Z ?_)
 refine zA (zF 0 c7 Z Z Z Z ?_)
 refine zA (zX cX Z Z ?_)
 refine zA (wO Z Z Z ?_)
 refine yO (zI Z (fun h14=>?_) (fun h14=>?_))
 ·refine rR 5 Z ?_
  exact zD Tryz.results19 Z ⟨yI (by simp only [Bool.false_eq_true,false_iff];intro h;have:=h.2.2;omega),rfl,rfl⟩ nS (fun _ h=>by cases h)
 refine rR 6 Z ?_
 exact zD Tryz.results19 Z ⟨yI (by simp only [true_iff];exact⟨aC,yS.1 (by simpa using h10),aC⟩),rfl,rfl⟩ nS (fun _ h=>by cases h)
theorem Io(x:Value)(t:V)(key:ByteArray):di Tryz.prog 63 #[x, .string key] [.val x t] (.int .i64 (dL t.keys key)):=by
 refine Ct.of_run (args:=[x, .string key]) Tryz.func63 aF Z Tryz.ntmps63 Z (fun c=>?_)
 refine yN 0 Z (fun A1 c1 A2 c2 hx hs hk1 hk2 hi1 hi2=>?_)
 subst hx
 unfold maxLen at hk2
 refine rO 3 Z (yK Z Z Z (fun b2=>?_))
 refine oO 7 Z (zC xM Z Z ?_)
 refine zA (zF 0 dV Z Z Z Z ?_)
 refine zA (zX cV Z Z ?_)
 refine oK 4 [10,9,8,1] Z Z ?_
 refine xX 1 (fun(i:Nat)=>i≤t.keys.length∧ ∀ j,j<i→t.keys[j]? ≠some key) (fun(i:Nat)=>[(10, .int .i64 ((i:Nat):Int))]) (fun(i:Nat)=>t.keys.length - i) 0 (⟨aC,fun _ h=>absurd h aC⟩) (eC Z (eN _)) ?_ (eC Z (eC Z (eC Z (eN _))))
 intro i hI K hK
 change Run _ _ _ _ _ [(10,_),(9,_),(8,_),(1,_)] _ _
 obtain⟨hi,hno⟩:=hI
 refine rO 3 Z (yL Z Z Z ?_)
 refine oR 2 Z (zI Z (fun h11=>?_) (fun h11=>?_))
 ·refine rO 8 Z (xS 0 cV Z Z Z Z aC ?_)
  refine zA (yR dO Z Z (fun _ h=>xO h (j:=0) Z (List.getElem?_eq_getElem h11)) ?_)
  refine oR 14 Z (zI Z (fun h17=>?_) (fun h17=>?_))
  ·refine rK 7 [4] Z Z ?_
   exact zD Tryz.results63 Z ⟨by rw [th h11 h17 hno],rfl,rfl⟩ nS (fun _ h=>by cases h)
  refine rO 4 Z (zN Z Z aC ?_)
  refine oK 3 [10,9,8,1] Z Z ?_
  exact kQ (hK (i+1) (⟨aC,Mg hno h11 h17⟩) aC)
 refine rR 6 Z ?_
 exact zD Tryz.results63 Z ⟨by rw [DN aC hno],rfl,rfl⟩ nS (fun _ h=>by cases h)
theorem RE(s:ByteArray)(hs:s.size≤maxLen):di Tryz.prog 61 #[.string s] [] (.bool (tb (eT s))):=by
 refine Ct.of_run (args:=[.string s]) Tryz.func61 aF Z Tryz.ntmps61 Z (fun c=>?_)
 unfold maxLen at hs
 refine rK 12 [3,0] Z Z ?_
 refine xX 1 (fun(i:Nat)=>i≤s.size∧ ∀ j (h:j<s.size),j<i→Mh s[j]) (fun(i:Nat)=>[(3, .int .i64 ((i:Nat):Int))]) (fun(i:Nat)=>s.size - i) 0 (⟨aC,fun _ _ h=>absurd h aC⟩) (eC Z (eN _)) ?_ (eC Z (eN _))
 intro i hI K hK
 change Run _ _ _ _ _ [(3,_),(0,_)] _ _
 obtain⟨hi,hno⟩:=hI
 refine rO 8 Z (xF eL Z Z ?_)
 refine zA (yL Z Z Z ?_)
 refine yO (zI Z (fun h8=>?_) (fun h8=>?_))
 ·refine rO 10 Z (vT eL Z Z Z aC ?_)
  refine oO 8 Z (wI Z Z Z ?_)
  refine oS 2 Z (zW (s:=16) Z (fun h16=>?_) (fun h16=>?_))
  ·refine oO 9 Z (uG Z Z Z ?_)
   refine oS 4 Z (zW (s:=24) Z (fun h24=>?_) (fun h24=>?_))
   ·refine oO 3 Z (uG Z Z Z ?_)
    refine oK 3 [27,3,0] Z Z (yC Z (fun h27=>?_) (fun h27=>?_))
    ·refine rR 5 Z ?_
     exact zD Tryz.results61 Z ⟨yI (by simp only [Bool.false_eq_true,false_iff];intro h;have:=h.1 i h8;unfold Mh at this;(try simp only [decide_eq_true_eq,decide_eq_false_iff_not,ne_eq,Decidable.not_not]at*);omega),rfl,rfl⟩ nS (fun _ h=>by cases h)
    refine rO 6 Z (zN Z Z aC ?_)
    refine oR 3 Z ?_
    exact kQ (hK (i+1) (⟨aC,DO hno (hi:=h8) aW⟩) aC)
   refine oK 5 [27,3,0] Z Z (rO 7 Z ?_)
   refine zN Z Z aC (oR 3 Z ?_)
   exact kQ (hK (i+1) (⟨aC,DO hno (hi:=h8) aW⟩) aC)
  refine oO 3 Z (wO Z Z Z ?_)
  refine oS 4 Z (zW (s:=20) Z (fun h20=>?_) (fun h20=>?_))
  ·refine oO 3 Z (uG Z Z Z ?_)
   refine oS 4 Z (zW (s:=24) Z (fun h24=>?_) (fun h24=>?_))
   ·refine oO 3 Z (uG Z Z Z ?_)
    refine oK 3 [27,3,0] Z Z (yC Z (fun h27=>?_) (fun h27=>?_))
    ·refine rR 5 Z ?_
     exact zD Tryz.results61 Z ⟨yI (by simp only [Bool.false_eq_true,false_iff];intro h;have:=h.1 i h8;unfold Mh at this;(try simp only [decide_eq_true_eq,decide_eq_false_iff_not,ne_eq,Decidable.not_not]at*);omega),rfl,rfl⟩ nS (fun _ h=>by cases h)
    refine rO 6 Z (zN Z Z aC ?_)
    refine oR 3 Z ?_
    exact kQ (hK (i+1) (⟨aC,DO hno (hi:=h8) aW⟩) aC)
   refine oK 5 [27,3,0] Z Z (rO 7 Z ?_)
   refine zN Z Z aC (oR 3 Z ?_)
   exact kQ (hK (i+1) (⟨aC,DO hno (hi:=h8) aW⟩) aC)
  refine oK 11 [27,3,0] Z Z (rO 7 Z ?_)
  refine zN Z Z aC (oR 3 Z ?_)
  exact kQ (hK (i+1) (⟨aC,DO hno (hi:=h8) aW⟩) aC)
 refine rO 6 Z (xF eL Z Z ?_)
 refine zA (sE Z Z Z ?_)
 refine oK 3 [2] Z Z ?_
 exact zD Tryz.results61 Z ⟨yI (by simp only [decide_eq_true_eq,eT];exact⟨fun h=>⟨fun j hj=>hno j hj aC,aC⟩,fun h=>by omega⟩),rfl,rfl⟩ nS (fun _ h=>by cases h)
def dJ(k m:Int)(s:ByteArray)(ks:List ByteArray)(ts:List V):Prop:=
 ks=[]∧ts=[]∧((k=0∧m=0∧s=⟨#[]⟩)∨(k=1∧(m=0∨m=1)∧s=⟨#[]⟩)∨(k=2∧ -1000000000<m∧m<1000000000∧s=⟨#[]⟩)∨(k=6∧ -1000000000<m∧m<1000000000∧m.tmod 4≠0∧s=⟨#[]⟩)∨(k=3∧m=0∧eT s))
def dy(ks:List ByteArray):Prop:= ∀ i (h:i<ks.length),eT ks[i]∧(∀ (h0:0<i),Op.bytesLess ks[i].toList ks[i - 1].toList=false∧ks[i]≠ks[i - 1])
def eG(k m:Int)(s:ByteArray)(ks:List ByteArray)(ts:List V):Prop:=
 m=0∧s=⟨#[]⟩∧((k=4∧ks=[])∨(k=5∧ks.length=ts.length∧dy ks))
def IsPlain:Nat→V→Prop
  |0,t=>dJ t.kind t.num t.text t.keys t.items
  |d+1,t=>dJ t.kind t.num t.text t.keys t.items∨(eG t.kind t.num t.text t.keys t.items∧t.items.length≤60∧ ∀ x∈t.items,IsPlain d x)
 mutual
def kp:V→Int
  | .mk _ _ _ _ ts=>iF 1 ts
def iF(acc:Int):List V→Int
  |[]=>acc
  |t::ts=>iF (IntKind.i64.wrap (acc+kp t)) ts
end
theorem xi(acc:Int)(ts:List V)(i:Nat)(h:i<ts.length):iF acc (ts.take (i+1))=IntKind.i64.wrap (iF acc (ts.take i)+kp ts[i]):=by
  induction ts generalizing acc i with
  |nil=>simp at h
  |cons t ts ih=>
    cases i with
    |zero=>simp [iF]
    |succ i=>
      simp only [List.take_succ_cons,iF,List.getElem_cons_succ]
      exact ih _ i cA
noncomputable def getV(t:V)(key:ByteArray):Option V:=if dL t.keys key= -1 then none else t.items[(dL t.keys key).toNat]?
theorem sO(ks:List ByteArray)(key:ByteArray):dL ks key= -1∨ ∃i:Nat,dL ks key=(i:Nat)∧i<ks.length:=by
 unfold dL
 split
 ·rename_i h;exact .inr ⟨_,rfl,h⟩
 ·exact .inl Z
def zV:V:= .mk 0 0 ⟨#[]⟩ [] []
theorem tj(w:World)(ok:Nat→Prop):(DA.val (.agg #[.int .i64 0, .int .i64 0, .string ⟨#[]⟩, .slice none 0 0, .slice none 0 0]) zV).p w ok:=by
 show ValP w ok zV _
 simp only [zV,ValP]
 exact⟨_,_,rfl,by decide,⟨none,0,rfl,by simp,by simp [maxLen],by simp,by simp⟩,none,0,rfl,by simp,by simp [maxLen],by simp [ItemsP]⟩
theorem V.ext{a b:V}(h1:a.kind=b.kind)(h2:a.num=b.num)(h3:a.text=b.text)(h4:a.keys=b.keys)(h5:a.items=b.items):a=b:=by
 cases a;cases b
 simp only [V.kind,V.num,V.text,V.keys,V.items]at*
 subst h1;subst h2;subst h3;subst h4;subst h5
 rfl
theorem oc{α:Type}{ks ks':List α}{i:Nat}(hno: ∀ j,j<i→ks[j]? =ks'[j]?)(h1:i<ks.length)(h2:i<ks'.length)(he:ks[i]=ks'[i]): ∀ j,j<i+1→ks[j]? =ks'[j]? :=by
 intro j hj
 rcases Nat.lt_or_eq_of_le (Nat.le_of_lt_succ hj)with h3|rfl
 ·exact hno j h3
 ·rw [List.getElem?_eq_getElem h1,List.getElem?_eq_getElem h2,he]
theorem tm{α:Type}{ks ks':List α}{i:Nat}(hi:ks.length≤i)(hl:ks.length=ks'.length)(hno: ∀ j,j<i→ks[j]? =ks'[j]?):ks=ks':=by
 apply List.ext_getElem?
 intro j
 by_cases h:j<i
 ·exact hno j h
 ·rw [List.getElem?_eq_none aC,List.getElem?_eq_none aC]

theorem c25(a:V): ∀ (b:V) (x y:Value),di Tryz.prog 25 #[x,y] [.val x a, .val y b] (.bool (tb (a=b))):=by
 refine V.ind (p:=fun a=> ∀ (b:V) (x y:Value),di Tryz.prog 25 #[x,y] [.val x a, .val y b] (.bool (tb (a=b)))) ?_ a
 intro q m s ks ts IH b x y
 obtain⟨q',m',s',ks',ts'⟩:=b
 refine Ct.of_run (args:=[x,y]) Tryz.func25 aF Z Tryz.ntmps25 Z (fun c=>?_)
 refine jc 0 Z (fun A1 c1 A2 c2 hx hs hk1 hk2 hi1 hi2=>?_)
 subst hx
 refine jc 3 Z (fun A3 c3 A4 c4 hy hs2 hk3 hk4 hi3 hi4=>?_)
 subst hy
 unfold maxLen at hk2 hi2
 refine rO 3 Z (yK Z Z Z (fun b2=>?_))
 refine zA (yK Z Z Z (fun b3=>?_))
 refine oO 7 Z (zC wC Z Z ?_)
 refine zA (zF 1 dx Z Z Z Z ?_)
 refine zA (zC wC Z Z ?_)
 refine zA (zF 0 dx Z Z Z Z ?_)
 refine zA (uG Z Z Z ?_)
 refine oS 2 Z (zW (s:=12) Z (fun h12=>?_) (fun h12=>?_))
 ·refine oK 39 [43,3,2] Z Z (rR 6 Z ?_)
  exact zD Tryz.results25 Z ⟨yI aQ,rfl,rfl⟩ nS (fun _ h=>by cases h)
 refine zH Z Z (zC wZ Z Z ?_)
 refine zH Z Z (zF 1 dx Z Z Z Z ?_)
 refine zH Z Z (zC wZ Z Z ?_)
 refine zH Z Z (zF 0 dx Z Z Z Z ?_)
 refine zH Z Z (uG Z Z Z ?_)
 refine oS 4 Z (zW (s:=19) Z (fun h19=>?_) (fun h19=>?_))
 ·refine oK 30 [43,3,2] Z Z (rR 6 Z ?_)
  exact zD Tryz.results25 Z ⟨yI aQ,rfl,rfl⟩ nS (fun _ h=>by cases h)
 refine zH Z Z (zC tE Z Z ?_)
 refine zH Z Z (zF 1 dO Z Z Z Z ?_)
 refine zH Z Z (zC tE Z Z ?_)
 refine zH Z Z (zF 0 dO Z Z Z Z ?_)
 refine zH Z Z (iq Z Z Z ?_)
 refine oS 4 Z (zW (s:=26) Z (fun h26=>?_) (fun h26=>?_))
 ·refine oK 21 [43,3,2] Z Z (rR 6 Z ?_)
  exact zD Tryz.results25 Z ⟨yI aQ,rfl,rfl⟩ nS (fun _ h=>by cases h)
 refine zH Z Z (zC xM Z Z ?_)
 refine zH Z Z (zF 1 dV Z Z Z Z ?_)
 refine zH Z Z (zX cV Z Z ?_)
 refine zH Z Z (zC xM Z Z ?_)
 refine zH Z Z (zF 0 dV Z Z Z Z ?_)
 refine zH Z Z (zX cV Z Z ?_)
 refine zH Z Z (gT Z Z Z ?_)
 refine oS 4 Z (zW (s:=35) Z (fun h35=>?_) (fun h35=>?_))
 ·refine oK 10 [43,3,2] Z Z (rR 6 Z ?_)
  exact zD Tryz.results25 Z ⟨yI aQ,rfl,rfl⟩ nS (fun _ h=>by cases h)
 refine zH Z Z (zC yX Z Z ?_)
 refine zH Z Z (zF 1 c7 Z Z Z Z ?_)
 refine zH Z Z (zX cX Z Z ?_)
 refine zH Z Z (zC yX Z Z ?_)
 refine zH Z Z (zF 0 c7 Z Z Z Z ?_)
 refine zH Z Z (zX cX Z Z ?_)
 refine zH Z Z (gT Z Z Z ?_)
 refine oK 3 [43,3,2] Z Z (zI Z (fun h43=>?_) (fun h43=>?_))
 ·refine rR 5 Z ?_
  exact zD Tryz.results25 Z ⟨yI aQ,rfl,rfl⟩ nS (fun _ h=>by cases h)
 have e1:q=q':=by omega
 have e2:m=m':=by omega
 have e3:s=s':=by simpa using h26
 have e4:ks.length=ks'.length:=by omega
 have e5:ts.length=ts'.length:=by omega
 refine rO 5 Z (zC xM Z Z ?_)
 refine zA (zF 1 dV Z Z Z Z ?_)
 refine zA (zX cV Z Z ?_)
 refine oK 4 [47,46,3,2] Z Z ?_
 refine xX 1 (fun(i:Nat)=>i≤ks.length∧ ∀ j,j<i→ks[j]? =ks'[j]?) (fun(i:Nat)=>[(47, .int .i64 ((i:Nat):Int))]) (fun(i:Nat)=>ks.length - i) 0 (⟨aC,fun _ h=>absurd h aC⟩) (eC Z (eN _)) ?_ (eC Z (eC Z (eC Z (eN _))))
 intro i hI K hK
 change Run _ _ _ _ _ [(47,_),(46,_),(3,_),(2,_)] _ _
 obtain⟨hi,hno⟩:=hI
 refine rO 3 Z (yL Z Z Z ?_)
 refine oR 2 Z (zI Z (fun h48=>?_) (fun h48=>?_))
 ·refine rR 11 Z (yW yM ?_)
  refine zO (tP 0 Z cF (zZ xM Z) ?_)
  refine tP 2 Z cF (zP Z) (tP 5 Z cF (zZ xM Z) ?_)
  refine tP 7 Z cF (zP Z) (yF ?_)
  refine tM 1 Z cF (yT 1 dV Z Z Z) (tM 3 Z cF (fE 2 cV Z Z Z aC) ?_)
  refine tM 4 Z cF (rD dO Z (fun _ h=>xO h (j:=2) Z (List.getElem?_eq_getElem (l:=ks) (i:=i) aC))) ?_
  refine tM 6 Z cF (yT 0 dV Z Z Z) (tM 8 Z cF (fE 0 cV Z Z Z aC) ?_)
  refine tM 9 Z cF (rD dO Z (fun _ h=>xO h (j:=0) Z (List.getElem?_eq_getElem (l:=ks') (i:=i) aC))) ?_
  refine tM 10 Z cF (F2 Z Z) (yJ aD ?_)
  refine rK 0 [60,47,46,3,2] Z Z (zI Z (fun h60=>?_) (fun h60=>?_))
  ·refine rR 5 Z ?_
   exact zD Tryz.results25 Z ⟨yI (by simp only [Bool.false_eq_true,false_iff];intro h;injection h with h1 h2 h3 h4 h5;subst h4;exact absurd Z h60),rfl,rfl⟩ nS (fun _ h=>by cases h)
  refine rO 4 Z (zN Z Z aC ?_)
  refine oR 3 Z ?_
  exact kQ (hK (i+1) (⟨aC,oc hno aC aC (by simpa using h60)⟩) aC)
 refine rO 5 Z (zC yX Z Z ?_)
 refine zA (zF 1 c7 Z Z Z Z ?_)
 refine zA (zX cX Z Z ?_)
 refine oK 4 [65,64,3,2] Z Z ?_
 refine xX 1 (fun(p:Nat)=>p≤ts.length∧ ∀ j,j<p→ts[j]? =ts'[j]?) (fun(p:Nat)=>[(65, .int .i64 ((p:Nat):Int))]) (fun(p:Nat)=>ts.length - p) 0 (⟨aC,fun _ h=>absurd h aC⟩) (eC Z (eN _)) ?_ (eC Z (eC Z (eC Z (eN _))))
 intro p hI K hK
 change Run _ _ _ _ _ [(65,_),(64,_),(3,_),(2,_)] _ _
 have hks:=tm aC e4 hno
 obtain⟨hi,hno⟩:=hI
 refine rO 3 Z (yL Z Z Z ?_)
 refine oR 2 Z (zI Z (fun h66=>?_) (fun h66=>?_))
 ·refine rR 11 Z (yW yM ?_)
  refine zO (tP 0 Z cF (zZ yX Z) ?_)
  refine tP 2 Z cF (zP Z) (tP 5 Z cF (zZ yX Z) ?_)
  refine tP 7 Z cF (zP Z) (yF ?_)
  refine tM 1 Z cF (yT 1 c7 Z Z Z) (tM 3 Z cF (wJ 3 cX Z Z Z aC) ?_)
  refine f3 3 Z (List.getElem?_eq_getElem (l:=ts) (i:=p) aC) (fun vs72 hl72=>?_)
  refine yF (tM 4 Z cF (vN 0 hl72 cM Z Z) ?_)
  refine tM 6 Z cF (yT 0 c7 Z Z Z) (tM 8 Z cF (wJ 3 cX Z Z Z aC) ?_)
  refine f3 3 Z (List.getElem?_eq_getElem (l:=ts') (i:=p) aC) (fun vs77 hl77=>?_)
  refine yF (tM 9 Z cF (vN 0 hl77 cM Z Z) ?_)
  refine zS 10 aD ?_
  refine zT (I2:=[[],[],[],[],[]]) Z cF aD (fun Kd hKd=>?_)
  refine zL Z Z Z (IH _ (List.getElem_mem _) _ _ _) (dP 3 1 Z Z) (hKd _ _ _ (zE (zE (zE (zE (zE (zU)))))) ?_)
  refine zO (tP 11 Z cF (qf Z) ?_)
  refine yJ aD (rK 0 [79,65,64,3,2] Z Z ?_)
  refine yC Z (fun h79=>?_) (fun h79=>?_)
  ·refine rR 5 Z ?_
   exact zD Tryz.results25 Z ⟨yI (by simp only [Bool.false_eq_true,false_iff];intro h;injection h with h1 h2 h3 h4 h5;subst h5;rw [df Z]at h79;cases h79),rfl,rfl⟩ nS (fun _ h=>by cases h)
  refine rO 4 Z (zN Z Z aC ?_)
  refine oR 3 Z ?_
  exact kQ (hK (p+1) (⟨aC,oc hno aC aC (yS.1 (by simpa using h79))⟩) aC)
 refine rR 6 Z ?_
 exact zD Tryz.results25 Z ⟨yI (by simp only [true_iff];exact V.ext e1 e2 e3 hks (tm (ks:=ts) (ks':=ts') aC e5 hno)),rfl,rfl⟩ nS (fun _ h=>by cases h)
theorem c90(t:V): ∀ (x:Value),di Tryz.prog 90 #[x] [.val x t] (.int .i64 (kp t)):=by
 refine V.ind (p:=fun t=> ∀ (x:Value),di Tryz.prog 90 #[x] [.val x t] (.int .i64 (kp t))) ?_ t
 intro q m s ks ts IH x
 refine Ct.of_run (args:=[x]) Tryz.func90 aF Z Tryz.ntmps90 Z (fun c=>?_)
 refine jc 0 Z (fun A1 c1 A2 c2 hx hs hk1 hk2 hi1 hi2=>?_)
 subst hx
 unfold maxLen at hi2
 refine rO 3 Z (yK Z Z Z (fun b1=>?_))
 refine oO 12 Z (zC yX Z Z ?_)
 refine zA (zF 0 c7 Z Z Z Z ?_)
 refine zA (zX cX Z Z ?_)
 refine oK 4 [9,3,8,7] Z Z ?_
 refine xX 2 (fun(i:Nat)=>i≤ts.length) (fun(i:Nat)=>[(9, .int .i64 ((i:Nat):Int)),(3, .int .i64 (iF 1 (ts.take i)))]) (fun(i:Nat)=>ts.length - i) 0 aC (eC Z (eC Z (eN _))) ?_ (eC Z (eC Z (eN _)))
 intro i hI K hK
 change Run _ _ _ _ _ [(9,_),(3,_),(8,_),(7,_)] _ _
 have hi:=hI
 refine rO 3 Z (yL Z Z Z ?_)
 refine oR 2 Z (zI Z (fun h10=>?_) (fun h10=>?_))
 ·refine rO 6 Z (xC 1 cX Z Z Z Z aC ?_)
  refine zA (xB 1 cM Z Z Z (List.getElem?_eq_getElem h10) (fun A3 c3 A4 c4=>?_))
  refine zA (yA dE Z (fun b5=>?_))
  change cG _ _ _ _ _ _ _ _ (HA.blk _ [_,_,_,_,_] _::_) _
  refine zA (zG 0 (M':=[HA.blk _ [_,_,_,_,_] _,_]) Z Z Z Z co Z Z Z ?_)
  refine oO 5 Z (zK 0 Z cM Z Z ?_)
  refine zA (zL Z Z Z (IH _ (List.getElem_mem _) _) (cO 0 Z) ?_)
  refine zA (qa Z Z Z ?_)
  refine oO 6 Z (zN Z Z aC ?_)
  refine oK 3 [9,3,8,7] Z Z ?_
  rw [←xi 1 ts i h10]
  exact kQ (hK (i+1) aC aC)
 refine rR 8 Z ?_
 exact zD Tryz.results90 Z ⟨by rw [List.take_of_length_le aC];rfl,rfl,rfl⟩ nS (fun _ h=>by cases h)
theorem xH{p:Prop}:tb p=false↔ ¬ p:=⟨fun h hp=>(by rw [df hp]at h;cases h),tb_f⟩
theorem fF{t:V}{key:ByteArray}{i:Nat}(h:dL t.keys key=(i:Nat))(hi:i<t.items.length):getV t key=some t.items[i]:=by
 unfold getV
 rw [h,if_neg aC]
 simp [hi]
theorem li{t:V}{key:ByteArray}(h:dL t.keys key<0):getV t key=none:=by
 unfold getV
 rcases sO t.keys key with h1|⟨i,h1,_⟩
 ·rw [if_pos h1]
 ·omega
theorem xG{d:Nat}{q m:Int}{s:ByteArray}{ks:List ByteArray}{ts:List V}(h4:q≠4)(h5:q≠5):IsPlain d (.mk q m s ks ts)↔dJ q m s ks ts:=by
  cases d with
  |zero=>simp [IsPlain,V.kind,V.num,V.text,V.keys,V.items]
  |succ d=>simp [IsPlain,V.kind,V.num,V.text,V.keys,V.items,eG,h4,h5]
theorem wV{d:Nat}{q m:Int}{s:ByteArray}{ks:List ByteArray}{ts:List V}(h:q=4∨q=5):IsPlain (d+1) (.mk q m s ks ts)↔eG q m s ks ts∧ts.length≤60∧ ∀ x∈ts,IsPlain d x:=by
 have: ¬ dJ q m s ks ts:=by unfold dJ;omega
 simp [IsPlain,V.kind,V.num,V.text,V.keys,V.items,this]
theorem sH{q m:Int}{s:ByteArray}{ks:List ByteArray}{ts:List V}(h:q=4∨q=5): ¬ IsPlain 0 (.mk q m s ks ts):=by
 have: ¬ dJ q m s ks ts:=by unfold dJ;omega
 simp [IsPlain,V.kind,V.num,V.text,V.keys,V.items,this]
theorem uR{d:Nat}{q m:Int}{s:ByteArray}{ks:List ByteArray}{ts:List V}(h:q=4∨q=5)(hn:eG q m s ks ts→d≠0→ts.length≤60→False): ¬ IsPlain d (.mk q m s ks ts):=by
  cases d with
  |zero=>exact sH h
  |succ d=>rw [wV h];exact fun h=>hn h.1 aC h.2.1
def ea(t:V):Prop:=IsPlain 12 t∧kp t≤400
theorem od{α:Type}{p:α→Prop}{ts:List α}{i:Nat}(h:ts.length≤i)(hno: ∀ j (hj:j<ts.length),j<i→p ts[j]): ∀ x∈ts,p x:=by
 intro x hx
 obtain⟨j,hj,rfl⟩:=List.getElem_of_mem hx
 exact hno j hj aC
theorem qr{q m:Int}{s:ByteArray}{ks:List ByteArray}{ts:List V}(h:eG q m s ks ts)(hq:q=5):dy ks:=by
 rcases h.2.2 with h1|h1
 ·omega
 ·exact h1.2.2
theorem leq_no{a b:ByteArray}:(Op.bytesLess a.toList b.toList||a.toList==b.toList)=false↔Op.bytesLess a.toList b.toList=false∧a≠b:=by
 rw [uB];simp
theorem BP{ks:List ByteArray}{i:Nat}(h:ks.length≤i)(hno: ∀ j (hj:j<ks.length),j<i→eT ks[j]∧(∀ (h0:0<j),Op.bytesLess ks[j].toList ks[j - 1].toList=false∧ks[j]≠ks[j - 1])):dy ks:=
 fun j hj=>hno j hj aC
theorem kr{ks:List ByteArray}{i:Nat}(hi:i<ks.length)(hno: ∀ j (hj:j<ks.length),j<i→eT ks[j]∧(∀ (h0:0<j),Op.bytesLess ks[j].toList ks[j - 1].toList=false∧ks[j]≠ks[j - 1]))
  (h1:eT ks[i]) (h2: ∀ (h0:0<i),Op.bytesLess ks[i].toList ks[i - 1].toList=false∧ks[i]≠ks[i - 1]): ∀ j (hj:j<ks.length),j<i+1→eT ks[j]∧(∀ (h0:0<j),Op.bytesLess ks[j].toList ks[j - 1].toList=false∧ks[j]≠ks[j - 1]):=by
 intro j hj hlt
 rcases Nat.lt_or_eq_of_le (Nat.le_of_lt_succ hlt)with h3|rfl
 ·exact hno j hj h3
 ·exact⟨h1,h2⟩

theorem c62(x:Value)(t:V)(key:ByteArray)(hkl:t.keys.length≤t.items.length):CtR Tryz.prog 62 #[x, .string key] [.val x t] (fun u D'=> ∃y,u= .tuple #[y, .bool (getV t key).isSome]∧D'=[.val y ((getV t key).getD zV)]):=by
 refine Ct.of_run (args:=[x, .string key]) Tryz.func62 aF Z Tryz.ntmps62 Z (fun c=>?_)
 refine yN 0 Z (fun A1 c1 A2 c2 hx hs hk1 hk2 hi1 hi2=>?_)
 subst hx
 refine rO 3 Z (yK Z Z Z (fun b2=>?_))
 refine zA (yA dE Z (fun b4=>?_))
 change cG _ _ _ _ _ _ _ _ (HA.blk _ [_,_,_,_,_] _::_) _
 refine oO 7 Z (zK 1 Z cM Z Z ?_)
 refine oO 3 Z (zL Z Z Z (Io _ _ _) (cO 2 Z) ?_)
 refine oO 8 Z (uA Z Z Z ?_)
 refine yO (zI Z (fun h11=>?_) (fun h11=>?_))
 ·rcases sO t.keys key with hf|⟨i,hf,hlt⟩
  ·omega
  rw [hf]
  refine rO 3 Z (zC yX Z Z ?_)
  refine zA (zF 1 c7 Z Z Z Z ?_)
  refine oO 3 Z (xC 1 cX Z Z Z Z aC ?_)
  refine zA ?_
  refine xB 1 cM Z Z Z (List.getElem?_eq_getElem aC) (fun A3 c3 A4 c4=>?_)
  refine zA (zG 0 (M':=[HA.blk _ [_,_,_,_,_] _,_]) Z Z Z Z co Z Z Z ?_)
  refine oK 3 [5,4] Z Z ?_
  exact vI 0 Tryz.results62 Z Z Z cM ⟨rfl,_,by rw [fF hf aC];rfl,by rw [fF hf aC];rfl⟩ nS (cO 0 Z)
 refine rO 4 Z (yV Z Z (Jt ..) ?_)
 refine zA (zG 0 (M':=[HA.blk _ [_,_,_,_,_] _,_]) Z Z Z Z co Z Z Z ?_)
 refine oK 3 [5,4] Z Z (uJ (fun w ok h=>(fun x hx=>(List.mem_cons.1 hx).elim (fun e=>by rw [e];exact tj w ok) (h x))) ?_)
 exact vI 0 Tryz.results62 Z Z Z cM ⟨rfl,_,by rw [li aC];rfl,by rw [li aC];rfl⟩ nS (cO 0 Z)
theorem c89(d:Nat): ∀ (hd:d≤1000) (t:V) (x:Value),di Tryz.prog 89 #[x, .int .i64 ((d:Nat):Int)] [.val x t] (.bool (tb (IsPlain d t))):=by
 refine Nat.strongRecOn d ?_
 intro d IH hd t x
 refine Ct.of_run (args:=[x, .int .i64 ((d:Nat):Int)]) Tryz.func89 aF Z Tryz.ntmps89 Z (fun c=>?_)
 obtain⟨q,m,s,ks,ts⟩:=t
 refine jc 0 Z (fun A1 c1 A2 c2 hx hs hk1 hk2 hi1 hi2=>?_)
 subst hx
 refine sV 0 Z (fun hksz=>?_)
 have hs0:=hs
 unfold maxLen at hi2 hk2 hs
 refine rO 3 Z (yK Z Z Z (fun b2=>?_))
 refine oK 4 [2,1] Z Z (uT (fun(⟨b5,b6,b7⟩:Bool×Bool×Bool)=>(b5=true↔m=0)∧(b6=true↔s=⟨#[]⟩)∧(b7=true↔(ks=[]∧ts=[]))) (fun(⟨b5,b6,b7⟩:Bool×Bool×Bool)=>[(5, .bool b5),(6, .bool b6),(7, .bool b7)]) ?_ ?_)
 ·intro K hK
  refine yW yM (zO ?_)
  refine tP 0 Z cF (zZ wZ Z) (tP 3 Z cF (zZ tE Z) ?_)
  refine tP 6 Z cF (zZ xM Z) (yF ?_)
  refine tM 1 Z cF (yT 0 dx Z Z Z) (tM 2 Z cF (w2 Z Z) ?_)
  refine tM 4 Z cF (yT 0 dO Z Z Z) (tM 5 Z cF (lV Z Z) ?_)
  refine tM 7 Z cF (yT 0 dV Z Z Z) (tM 8 Z cF (mF cV Z) ?_)
  refine tM 9 Z cF (w2 Z Z) (zO ?_)
  refine tP 10 Z cF (zP Z) (xa (s:=22) Z (fun h22=>?_) (fun h22=>?_))
  ·refine tP 11 Z (ce Z Z) (zZ yX Z) (tP 16 Z cF (yP Z) ?_)
   refine tP 17 Z cF (yP Z) (yF ?_)
   refine tM 12 Z (ce Z Z) (yT 0 c7 Z Z Z) (tM 13 Z (ce Z Z) (mF cX Z) ?_)
   refine tM 14 Z (ce Z Z) (w2 Z Z) (zO ?_)
   refine tP 15 Z cF (wH Z Z) (tP 18 Z cF (yP Z) ?_)
   refine yJ aD (rK 0 [7,6,5,2,1] Z Z ?_)
   exact kQ (hK (_,_,_) (⟨decide_eq_true_iff,decide_eq_true_iff,by first|(show decide ((ts.length:Int)=0)=true↔_;simp only [←List.length_eq_zero_iff,decide_eq_true_eq];omega)|(simp only [←List.length_eq_zero_iff,Bool.false_eq_true,false_iff];omega)⟩)) (eC Z (eC Z (eC Z (eC Z (eC Z (eN _))))))
  refine yF (tS 11 Z Z Z Z ?_)
  refine zO (tP 16 Z cF (yP Z) ?_)
  refine tP 17 Z cF (yP Z) (yF ?_)
  refine tS 12 Z Z Z Z (tS 13 Z Z Z Z ?_)
  refine tS 14 Z Z Z Z (zO ?_)
  refine tP 15 Z cF (wH Z Z) (tP 18 Z cF (yP Z) ?_)
  refine yJ aD (rK 0 [7,6,5,2,1] Z Z ?_)
  exact kQ (hK (_,_,_) (⟨decide_eq_true_iff,decide_eq_true_iff,by first|(show decide ((ts.length:Int)=0)=true↔_;simp only [←List.length_eq_zero_iff,decide_eq_true_eq];omega)|(simp only [←List.length_eq_zero_iff,Bool.false_eq_true,false_iff];omega)⟩)) (eC Z (eC Z (eC Z (eC Z (eC Z (eN _))))))
 intro ⟨b5,b6,b7⟩ hI
 change Run _ _ _ _ _ [(5,_),(6,_),(7,_),(2,_),(1,_)] (_) (_)
 obtain⟨hb5,hb6,hb7⟩:=hI
 refine rO 4 Z (zC wC Z Z ?_)
 refine zA (zF 0 dx Z Z Z Z ?_)
 refine oR 9 Z (zI Z (fun h30=>?_) (fun h30=>?_))
 ·refine rS 6 Z (zY (s:=33) Z (fun h33=>?_) (fun h33=>?_))
  ·refine oS 6 Z (zY (s:=36) Z (fun h36=>?_) (fun h36=>?_))
   ·refine oK 7 [4] Z Z ?_
    exact zD Tryz.results89 Z ⟨yI ae,rfl,rfl⟩ nS (fun _ h=>by cases h)
   refine oK 6 [4] Z Z ?_
   exact zD Tryz.results89 Z ⟨yI ae,rfl,rfl⟩ nS (fun _ h=>by cases h)
  refine oK 11 [4] Z Z ?_
  exact zD Tryz.results89 Z ⟨yI ae,rfl,rfl⟩ nS (fun _ h=>by cases h)
 refine rR 7 Z (zI Z (fun h39=>?_) (fun h39=>?_))
 ·refine rO 3 Z (zC wZ Z Z ?_)
  refine zA (zF 0 dx Z Z Z Z ?_)
  refine oS 4 Z (zW (s:=44) Z (fun h44=>?_) (fun h44=>?_))
  ·refine oS 13 Z (zY (s:=52) Z (fun h52=>?_) (fun h52=>?_))
   ·refine oK 7 [4] Z Z ?_
    exact zD Tryz.results89 Z ⟨yI ag,rfl,rfl⟩ nS (fun _ h=>by cases h)
   refine oK 6 [4] Z Z ?_
   exact zD Tryz.results89 Z ⟨yI ag,rfl,rfl⟩ nS (fun _ h=>by cases h)
  refine zH Z Z (zC wZ Z Z ?_)
  refine zH Z Z (zF 0 dx Z Z Z Z ?_)
  refine oS 6 Z (zW (s:=49) Z (fun h49=>?_) (fun h49=>?_))
  ·refine oS 6 Z (zY (s:=52) Z (fun h52=>?_) (fun h52=>?_))
   ·refine oK 7 [4] Z Z ?_
    exact zD Tryz.results89 Z ⟨yI ag,rfl,rfl⟩ nS (fun _ h=>by cases h)
   refine oK 6 [4] Z Z ?_
   exact zD Tryz.results89 Z ⟨yI ag,rfl,rfl⟩ nS (fun _ h=>by cases h)
  refine oK 11 [4] Z Z ?_
  exact zD Tryz.results89 Z ⟨yI ag,rfl,rfl⟩ nS (fun _ h=>by cases h)
 refine rR 7 Z (zI Z (fun h55=>?_) (fun h55=>?_))
 ·refine rO 3 Z (zC wZ Z Z ?_)
  refine zA (zF 0 dx Z Z Z Z ?_)
  refine zA (wO Z Z Z ?_)
  refine oS 2 Z (zW (s:=60) Z (fun h60=>?_) (fun h60=>?_))
  ·refine zH Z Z (zC wZ Z Z ?_)
   refine zH Z Z (zF 0 dx Z Z Z Z ?_)
   refine zH Z Z (wI Z Z Z ?_)
   refine oS 4 Z (zW (s:=65) Z (fun h65=>?_) (fun h65=>?_))
   ·refine oS 6 Z (zY (s:=68) Z (fun h68=>?_) (fun h68=>?_))
    ·refine oK 7 [4] Z Z ?_
     exact zD Tryz.results89 Z ⟨yI ah,rfl,rfl⟩ nS (fun _ h=>by cases h)
    refine oK 6 [4] Z Z ?_
    exact zD Tryz.results89 Z ⟨yI ah,rfl,rfl⟩ nS (fun _ h=>by cases h)
   refine oK 11 [4] Z Z ?_
   exact zD Tryz.results89 Z ⟨yI ah,rfl,rfl⟩ nS (fun _ h=>by cases h)
  refine oK 18 [4] Z Z ?_
  exact zD Tryz.results89 Z ⟨yI ah,rfl,rfl⟩ nS (fun _ h=>by cases h)
 refine rK 7 [71,29,5,6,7,2,1] Z Z (zI Z (fun h71=>?_) (fun h71=>?_))
 ·refine rO 3 Z (zC wZ Z Z ?_)
  refine zA (zF 0 dx Z Z Z Z ?_)
  refine zA (wO Z Z Z ?_)
  refine oS 2 Z (zW (s:=76) Z (fun h76=>?_) (fun h76=>?_))
  ·refine zH Z Z (zC wZ Z Z ?_)
   refine zH Z Z (zF 0 dx Z Z Z Z ?_)
   refine zH Z Z (wI Z Z Z ?_)
   refine oS 4 Z (zW (s:=81) Z (fun h81=>?_) (fun h81=>?_))
   ·refine zH Z Z (zC wZ Z Z ?_)
    refine zH Z Z (zF 0 dx Z Z Z Z ?_)
    refine zH Z Z (wx Z Z Z aE ?_)
    refine zH Z Z (uG Z Z Z ?_)
    refine oS 4 Z (zW (s:=87) Z (fun h87=>?_) (fun h87=>?_))
    ·refine oS 6 Z (zY (s:=90) Z (fun h90=>?_) (fun h90=>?_))
     ·refine oK 7 [4] Z Z ?_
      exact zD Tryz.results89 Z ⟨yI ai,rfl,rfl⟩ nS (fun _ h=>by cases h)
     refine oK 6 [4] Z Z ?_
     exact zD Tryz.results89 Z ⟨yI ai,rfl,rfl⟩ nS (fun _ h=>by cases h)
    refine oK 11 [4] Z Z ?_
    exact zD Tryz.results89 Z ⟨yI ai,rfl,rfl⟩ nS (fun _ h=>by cases h)
   refine oK 19 [4] Z Z ?_
   exact zD Tryz.results89 Z ⟨yI ai,rfl,rfl⟩ nS (fun _ h=>by cases h)
  refine oK 26 [4] Z Z ?_
  exact zD Tryz.results89 Z ⟨yI ai,rfl,rfl⟩ nS (fun _ h=>by cases h)
 refine rR 7 Z (zI Z (fun h93=>?_) (fun h93=>?_))
 ·refine rS 6 Z (zY (s:=96) Z (fun h96=>?_) (fun h96=>?_))
  ·refine zH Z Z (zC tE Z Z ?_)
   refine zH Z Z (zF 0 dO Z Z Z Z ?_)
   refine zH Z Z (zL Z Z Z (RE _ hs0) cQ ?_)
   refine oS 4 Z (zY (s:=101) Z (fun h101=>?_) (fun h101=>?_))
   ·refine oK 7 [4] Z Z ?_
    exact zD Tryz.results89 Z ⟨yI aj,rfl,rfl⟩ nS (fun _ h=>by cases h)
   refine oK 6 [4] Z Z ?_
   exact zD Tryz.results89 Z ⟨yI aj,rfl,rfl⟩ nS (fun _ h=>by cases h)
  refine oK 13 [4] Z Z ?_
  exact zD Tryz.results89 Z ⟨yI aj,rfl,rfl⟩ nS (fun _ h=>by cases h)
 refine rR 7 Z (zI Z (fun h104=>?_) (fun h104=>?_))
 ·refine rS 8 Z (zY (s:=108) Z (fun h108=>?_) (fun h108=>?_))
  ·refine oK 13 [117,2,1] Z Z (rR 6 Z ?_)
   exact zD Tryz.results89 Z ⟨yI aZ,rfl,rfl⟩ nS (fun _ h=>by cases h)
  refine oS 8 Z (zY (s:=112) Z (fun h112=>?_) (fun h112=>?_))
  ·refine oK 7 [117,2,1] Z Z (rR 6 Z ?_)
   exact zD Tryz.results89 Z ⟨yI aZ,rfl,rfl⟩ nS (fun _ h=>by cases h)
  refine zH Z Z (zC xM Z Z ?_)
  refine zH Z Z (zF 0 dV Z Z Z Z ?_)
  refine zH Z Z (zX cV Z Z ?_)
  refine zH Z Z (wO Z Z Z ?_)
  refine oK 3 [117,2,1] Z Z (zI Z (fun h117=>?_) (fun h117=>?_))
  ·refine rR 5 Z ?_
   exact zD Tryz.results89 Z ⟨yI aZ,rfl,rfl⟩ nS (fun _ h=>by cases h)
  have hhead:eG q m s ks ts:=by
   have e7:ks=[]:=List.length_eq_zero_iff.1 aC
   simp_all [eG]
  refine rS 11 Z (zW (s:=163) Z (fun h163=>?_) (fun h163=>?_))
  ·refine oK 13 [4] Z Z ?_
   exact zD Tryz.results89 Z ⟨yI ad,rfl,rfl⟩ nS (fun _ h=>by cases h)
  obtain⟨e9,rfl⟩: ∃e9,d=e9+1:=⟨d - 1,aC⟩
  refine zH Z Z (zC yX Z Z ?_)
  refine zH Z Z (zF 0 c7 Z Z Z Z ?_)
  refine zH Z Z (zX cX Z Z ?_)
  refine zH Z Z (wO Z Z Z ?_)
  refine oR 3 Z (zI Z (fun h168=>?_) (fun h168=>?_))
  ·refine rK 5 [4] Z Z ?_
   exact zD Tryz.results89 Z ⟨yI ad,rfl,rfl⟩ nS (fun _ h=>by cases h)
  refine rO 5 Z (zC yX Z Z ?_)
  refine zA (zF 0 c7 Z Z Z Z ?_)
  refine zA (zX cX Z Z ?_)
  refine oK 3 [172,171,170,1] Z Z (rK 1 [172,171,170,1] Z Z ?_)
  refine xX 1 (fun(i:Nat)=>i≤ts.length∧ ∀ j (hj:j<ts.length),j<i→IsPlain e9 ts[j]) (fun(i:Nat)=>[(172, .int .i64 ((i:Nat):Int))]) (fun(i:Nat)=>ts.length - i) 0 (⟨aC,fun _ _ h=>absurd h aC⟩) (eC Z (eN _)) ?_ (eC Z (eC Z (eC Z (eN _))))
  intro i hI K hK
  change Run _ _ _ _ _ [(172,_),(171,_),(170,_),(1,_)] _ _
  obtain⟨hi,hno⟩:=hI
  refine rO 3 Z (yL Z Z Z ?_)
  refine oR 2 Z (zI Z (fun h173=>?_) (fun h173=>?_))
  ·refine rO 6 Z (xC 1 cX Z Z Z Z aC ?_)
   refine zA (xB 1 cM Z Z Z (List.getElem?_eq_getElem h173) (fun A3 c3 A4 c4=>?_))
   refine zA (yA dE Z (fun b11=>?_))
   change cG _ _ _ _ _ _ _ _ (HA.blk _ [_,_,_,_,_] _::_) _
   refine zA (zG 0 (M':=[HA.blk _ [_,_,_,_,_] _,_]) Z Z Z Z co Z Z Z ?_)
   refine oO 4 Z (zK 0 Z cM Z Z ?_)
   refine oO 3 Z (xQ (s:=((e9:Nat):Int)) Z Z Z aC aC aC ?_)
   refine zA (zL Z Z Z (IH e9 aC aC _ _) (cO 0 Z) ?_)
   refine oR 3 Z (yC Z (fun h180=>?_) (fun h180=>?_))
   ·refine rK 5 [4] Z Z ?_
    exact zD Tryz.results89 Z ⟨yI (by simp only [Bool.false_eq_true,false_iff];intro h;rw [wV aC]at h;rw [df (h.2.2 _ (List.getElem_mem h173))]at h180;cases h180),rfl,rfl⟩ nS (fun _ h=>by cases h)
   refine rO 4 Z (zN Z Z aC ?_)
   refine oK 3 [172,171,170,1] Z Z ?_
   exact kQ (hK (i+1) (⟨aC,Jv (p:=IsPlain e9) hno (hi:=h173) (yS.1 (by simpa using h180))⟩) aC)
  refine rR 6 Z ?_
  exact zD Tryz.results89 Z ⟨yI (by simp only [true_iff];rw [wV aC];exact⟨hhead,aC,od aC hno⟩),rfl,rfl⟩ nS (fun _ h=>by cases h)
 refine rR 7 Z (zI Z (fun h118=>?_) (fun h118=>?_))
 ·refine rS 9 Z (zY (s:=122) Z (fun h122=>?_) (fun h122=>?_))
  ·refine oK 16 [134,2,1] Z Z (rR 6 Z ?_)
   exact zD Tryz.results89 Z ⟨yI aZ,rfl,rfl⟩ nS (fun _ h=>by cases h)
  refine oS 8 Z (zY (s:=126) Z (fun h126=>?_) (fun h126=>?_))
  ·refine oK 10 [134,2,1] Z Z (rR 6 Z ?_)
   exact zD Tryz.results89 Z ⟨yI aZ,rfl,rfl⟩ nS (fun _ h=>by cases h)
  refine zH Z Z (zC xM Z Z ?_)
  refine zH Z Z (zF 0 dV Z Z Z Z ?_)
  refine zH Z Z (zX cV Z Z ?_)
  refine zH Z Z (zC yX Z Z ?_)
  refine zH Z Z (zF 0 c7 Z Z Z Z ?_)
  refine zH Z Z (zX cX Z Z ?_)
  refine zH Z Z (gT Z Z Z ?_)
  refine oK 3 [134,2,1] Z Z (zI Z (fun h134=>?_) (fun h134=>?_))
  ·refine rR 5 Z ?_
   exact zD Tryz.results89 Z ⟨yI aZ,rfl,rfl⟩ nS (fun _ h=>by cases h)
  refine rO 4 Z (zC xM Z Z ?_)
  refine zA (zF 0 dV Z Z Z Z ?_)
  refine zA (zX cV Z Z ?_)
  refine oK 4 [138,137,136,2,1] Z Z ?_
  refine xX 1 (fun(i:Nat)=>i≤ks.length∧ ∀ j (hj:j<ks.length),j<i→eT ks[j]∧(∀ (h0:0<j),Op.bytesLess ks[j].toList ks[j - 1].toList=false∧ks[j]≠ks[j - 1])) (fun(i:Nat)=>[(138, .int .i64 ((i:Nat):Int))]) (fun(i:Nat)=>ks.length - i) 0 (⟨aC,fun _ _ h=>absurd h aC⟩) (eC Z (eN _)) ?_ (eC Z (eC Z (eC Z (eC Z (eN _)))))
  intro i hI K hK
  change Run _ _ _ _ _ [(138,_),(137,_),(136,_),(2,_),(1,_)] _ _
  obtain⟨hi,hno⟩:=hI
  refine rO 3 Z (yL Z Z Z ?_)
  refine oR 2 Z (zI Z (fun h139=>?_) (fun h139=>?_))
  ·refine rO 8 Z (xS 0 cV Z Z Z Z aC ?_)
   refine zA (yR dO Z Z (fun _ h=>xO h (j:=0) Z (List.getElem?_eq_getElem h139)) ?_)
   refine oO 10 Z (zL Z Z Z (RE _ (hksz _ (List.getElem_mem h139))) cQ ?_)
   refine oS 4 Z (zY (s:=146) Z (fun h146=>?_) (fun h146=>?_))
   ·refine oS 3 Z (yH Z Z Z ?_)
    refine yH Z Z Z (yH Z Z Z ?_)
    refine yH Z Z Z (yH Z Z Z ?_)
    refine yH Z Z Z (yH Z Z Z ?_)
    refine yH Z Z Z (oK 4 [159,138,137,136,2,1] Z Z ?_)
    refine rR 6 Z ?_
    exact zD Tryz.results89 Z ⟨yI (by simp only [Bool.false_eq_true,false_iff];exact uR aC (fun hH _ _=>by rw [df (qr hH aC i h139).1]at h146;cases h146)),rfl,rfl⟩ nS (fun _ h=>by cases h)
   refine oO 3 Z (wO Z Z Z ?_)
   refine oS 2 Z (zW (s:=149) Z (fun h149=>?_) (fun h149=>?_))
   ·refine oO 3 Z (zC xM Z Z ?_)
    refine zH Z Z (zF 0 dV Z Z Z Z ?_)
    refine oO 3 Z (xQ (s:=((i - 1:Nat):Int)) Z Z Z aC aC aC ?_)
    refine zH Z Z (xS (i:=i - 1) 0 cV Z Z Z Z aC ?_)
    refine zH Z Z ?_
    refine yR dO Z Z (fun _ h=>xO h (j:=0) Z (List.getElem?_eq_getElem (l:=ks) (i:=i - 1) aC)) ?_
    refine zH Z Z (F0 Z Z Z ?_)
    refine oK 5 [159,138,137,136,2,1] Z Z (yC Z (fun h159=>?_) (fun h159=>?_))
    ·refine rR 5 Z ?_
     exact zD Tryz.results89 Z ⟨yI (by simp only [Bool.false_eq_true,false_iff];exact uR aC (fun hH _ _=>by have:=leq_no.2 ((qr hH aC i h139).2 aC);rw [this]at h159;cases h159)),rfl,rfl⟩ nS (fun _ h=>by cases h)
    refine rO 4 Z (zN Z Z aC ?_)
    refine oR 3 Z ?_
    exact kQ (hK (i+1) (⟨aC,kr h139 hno (yS.1 (by simpa using h146)) (fun h0=>by first|exact leq_no.1 h159|omega)⟩) aC)
   refine oK 13 [159,138,137,136,2,1] Z Z (rO 5 Z ?_)
   refine zN Z Z aC (oR 3 Z ?_)
   exact kQ (hK (i+1) (⟨aC,kr h139 hno (yS.1 (by simpa using h146)) (fun h0=>by first|exact leq_no.1 h159|omega)⟩) aC)
  refine rS 11 Z (zW (s:=163) Z (fun h163=>?_) (fun h163=>?_))
  ·refine oK 7 [168,2,1] Z Z (rR 6 Z ?_)
   exact zD Tryz.results89 Z ⟨yI ad,rfl,rfl⟩ nS (fun _ h=>by cases h)
  obtain⟨e9,rfl⟩: ∃e9,d=e9+1:=⟨d - 1,aC⟩
  refine zH Z Z (zC yX Z Z ?_)
  refine zH Z Z (zF 0 c7 Z Z Z Z ?_)
  refine zH Z Z (zX cX Z Z ?_)
  refine zH Z Z (wO Z Z Z ?_)
  refine oK 3 [168,2,1] Z Z (zI Z (fun h168=>?_) (fun h168=>?_))
  ·refine rR 5 Z ?_
   exact zD Tryz.results89 Z ⟨yI ad,rfl,rfl⟩ nS (fun _ h=>by cases h)
  refine rO 5 Z (zC yX Z Z ?_)
  refine zA (zF 0 c7 Z Z Z Z ?_)
  refine zA (zX cX Z Z ?_)
  refine oK 4 [172,171,170,1] Z Z ?_
  refine xX 1 (fun(i:Nat)=>i≤ts.length∧ ∀ j (hj:j<ts.length),j<i→IsPlain e9 ts[j]) (fun(i:Nat)=>[(172, .int .i64 ((i:Nat):Int))]) (fun(i:Nat)=>ts.length - i) 0 (⟨aC,fun _ _ h=>absurd h aC⟩) (eC Z (eN _)) ?_ (eC Z (eC Z (eC Z (eN _))))
  intro i hI K hK
  change Run _ _ _ _ _ [(172,_),(171,_),(170,_),(1,_)] _ _
  have hko:=BP aC hno
  have hhead:eG q m s ks ts:=by
   have e7:ks.length=ts.length:=by omega
   simp_all [eG]
  obtain⟨hi,hno⟩:=hI
  refine rO 3 Z (yL Z Z Z ?_)
  refine oR 2 Z (zI Z (fun h173=>?_) (fun h173=>?_))
  ·refine rO 6 Z (xC 1 cX Z Z Z Z aC ?_)
   refine zA (xB 1 cM Z Z Z (List.getElem?_eq_getElem h173) (fun A3 c3 A4 c4=>?_))
   refine zA (yA dE Z (fun b11=>?_))
   change cG _ _ _ _ _ _ _ _ (HA.blk _ [_,_,_,_,_] _::_) _
   refine zA (zG 0 (M':=[HA.blk _ [_,_,_,_,_] _,_]) Z Z Z Z co Z Z Z ?_)
   refine oO 4 Z (zK 0 Z cM Z Z ?_)
   refine oO 3 Z (xQ (s:=((e9:Nat):Int)) Z Z Z aC aC aC ?_)
   refine zA (zL Z Z Z (IH e9 aC aC _ _) (cO 0 Z) ?_)
   refine oR 3 Z (yC Z (fun h180=>?_) (fun h180=>?_))
   ·refine rK 5 [4] Z Z ?_
    exact zD Tryz.results89 Z ⟨yI (by simp only [Bool.false_eq_true,false_iff];intro h;rw [wV aC]at h;rw [df (h.2.2 _ (List.getElem_mem h173))]at h180;cases h180),rfl,rfl⟩ nS (fun _ h=>by cases h)
   refine rO 4 Z (zN Z Z aC ?_)
   refine oK 3 [172,171,170,1] Z Z ?_
   exact kQ (hK (i+1) (⟨aC,Jv (p:=IsPlain e9) hno (hi:=h173) (yS.1 (by simpa using h180))⟩) aC)
  refine rR 6 Z ?_
  exact zD Tryz.results89 Z ⟨yI (by simp only [true_iff];rw [wV aC];exact⟨hhead,aC,od aC hno⟩),rfl,rfl⟩ nS (fun _ h=>by cases h)
 refine rK 5 [4] Z Z ?_
 exact zD Tryz.results89 Z ⟨yI (by rw [xG aC aC];simp_all [dJ]),rfl,rfl⟩ nS (fun _ h=>by cases h)
def cH(key:ByteArray):Int:=
 if key=⟨#[36,115,99,104,101,109,97]⟩then 1 else
 if key=⟨#[105,100]⟩then 1 else
 if key=⟨#[36,114,101,102]⟩then 1 else
 if key=⟨#[112,97,116,116,101,114,110]⟩then 1 else
 if key=⟨#[116,105,116,108,101]⟩then 1 else
 if key=⟨#[100,101,115,99,114,105,112,116,105,111,110]⟩then 1 else
 if key=⟨#[102,111,114,109,97,116]⟩then 1 else
 if key=⟨#[114,101,97,100,79,110,108,121]⟩then 2 else
 if key=⟨#[119,114,105,116,101,79,110,108,121]⟩then 2 else
 if key=⟨#[101,120,99,108,117,115,105,118,101,77,97,120,105,109,117,109]⟩then 2 else
 if key=⟨#[101,120,99,108,117,115,105,118,101,77,105,110,105,109,117,109]⟩then 2 else
 if key=⟨#[117,110,105,113,117,101,73,116,101,109,115]⟩then 2 else
 if key=⟨#[109,117,108,116,105,112,108,101,79,102]⟩then 3 else
 if key=⟨#[109,97,120,105,109,117,109]⟩then 3 else
 if key=⟨#[109,105,110,105,109,117,109]⟩then 3 else
 if key=⟨#[109,97,120,76,101,110,103,116,104]⟩then 4 else
 if key=⟨#[109,105,110,76,101,110,103,116,104]⟩then 4 else
 if key=⟨#[109,97,120,73,116,101,109,115]⟩then 4 else
 if key=⟨#[109,105,110,73,116,101,109,115]⟩then 4 else
 if key=⟨#[109,97,120,80,114,111,112,101,114,116,105,101,115]⟩then 4 else
 if key=⟨#[109,105,110,80,114,111,112,101,114,116,105,101,115]⟩then 4 else
 if key=⟨#[110,111,116]⟩then 5 else
 if key=⟨#[97,100,100,105,116,105,111,110,97,108,73,116,101,109,115]⟩then 6 else
 if key=⟨#[97,100,100,105,116,105,111,110,97,108,80,114,111,112,101,114,116,105,101,115]⟩then 6 else
 if key=⟨#[105,116,101,109,115]⟩then 7 else
 if key=⟨#[114,101,113,117,105,114,101,100]⟩then 8 else
 if key=⟨#[112,114,111,112,101,114,116,105,101,115]⟩then 9 else
 if key=⟨#[112,97,116,116,101,114,110,80,114,111,112,101,114,116,105,101,115]⟩then 9 else
 if key=⟨#[100,101,102,105,110,105,116,105,111,110,115]⟩then 9 else
 if key=⟨#[100,101,112,101,110,100,101,110,99,105,101,115]⟩then 10 else
 if key=⟨#[101,110,117,109]⟩then 11 else
 if key=⟨#[116,121,112,101]⟩then 12 else
 if key=⟨#[97,108,108,79,102]⟩then 13 else
 if key=⟨#[97,110,121,79,102]⟩then 13 else
 if key=⟨#[111,110,101,79,102]⟩then 13 else
 if key=⟨#[100,101,102,97,117,108,116]⟩then 14 else 0
def dS(s:ByteArray):Prop:=s=⟨#[104,116,116,112,58,47,47,106,115,111,110,45,115,99,104,101,109,97,46,111,114,103,47,100,114,97,102,116,45,48,52,47,115,99,104,101,109,97]⟩∨s=⟨#[104,116,116,112,58,47,47,106,115,111,110,45,115,99,104,101,109,97,46,111,114,103,47,100,114,97,102,116,45,48,52,47,115,99,104,101,109,97,35]⟩∨s=⟨#[]⟩∨s=⟨#[35]⟩∨s=⟨#[35,35]⟩
def kId:ByteArray:=⟨#[105,100]⟩
def dM:ByteArray:=⟨#[36,115,99,104,101,109,97]⟩
noncomputable def V.fix{α:Type}[Inhabited α](G:V→(V→α)→α)(t:V):α:=G t (fun x=>if _h:SizeOf.sizeOf x<SizeOf.sizeOf t then V.fix G x else default)
  termination_by SizeOf.sizeOf t
theorem V.fix_eq{α:Type}[Inhabited α]{G:V→(V→α)→α}(hG: ∀ t g g',(∀ x,SizeOf.sizeOf x<SizeOf.sizeOf t→g x=g' x)→G t g=G t g')(t:V):V.fix G t=G t (V.fix G):=by
 rw [V.fix]
 exact hG t _ _ (fun x hx=>by rw [dif_pos hx])
theorem V.indS{p:V→Prop}(h: ∀ t,(∀ x,SizeOf.sizeOf x<SizeOf.sizeOf t→p x)→p t)(t:V):p t:=h t (fun x _=>V.indS h x)
  termination_by SizeOf.sizeOf t
theorem yU{t x:V}(h:x∈t.items):SizeOf.sizeOf x<SizeOf.sizeOf t:=by
 obtain⟨q,m,s,ks,ts⟩:=t
 have:=List.sizeOf_lt_of_mem h
 simp only [V.items]at this
 simp only [V.mk.sizeOf_spec]
 omega
theorem f7{t x:V}{i:Nat}(h:t.items[i]? =some x):SizeOf.sizeOf x<SizeOf.sizeOf t:=yU (List.mem_of_getElem? h)
inductive Wf:V→Prop where
  |mk {q m:Int} {s:ByteArray} {ks:List ByteArray} {ts:List V}:ks.length≤1000000→ts.length≤1000000→ks.length≤ts.length→(q=5→ks.length=ts.length)→(∀ x∈ts,Wf x)→Wf (.mk q m s ks ts)
theorem Wf.kl{t:V}(h:Wf t):t.keys.length≤1000000:=by cases h;assumption
theorem Wf.il{t:V}(h:Wf t):t.items.length≤1000000:=by cases h;assumption
theorem Wf.eq{t:V}(h:Wf t):t.kind=5→t.keys.length=t.items.length:=by cases h;assumption
theorem Wf.le{t:V}(h:Wf t):t.keys.length≤t.items.length:=by cases h;assumption
theorem Wf.item{t:V}(h:Wf t): ∀ x∈t.items,Wf x:=by cases h;assumption
theorem IsPlain.wf: ∀ {d:Nat} {t:V},IsPlain d t→Wf t
  |0, .mk q m s ks ts,h=>by
    obtain⟨h1,h2,h3⟩:=h
    simp only [V.keys,V.items,V.kind]at h1 h2 h3
    subst h1;subst h2
    exact .mk aJ aJ aJ (fun _=>rfl) aJ
  |d+1, .mk q m s ks ts,h=>by
    rcases h with ⟨h1,h2,h3⟩|⟨⟨_,_,h1⟩,h2,h3⟩
    · simp only [V.keys,V.items,V.kind]at h1 h2 h3
      subst h1;subst h2
      exact .mk aJ aJ aJ (fun _=>rfl) aJ
    · simp only [V.keys,V.items,V.kind]at h1 h2 h3
      have hl:ks.length≤60∧ks.length≤ts.length∧(q=5→ks.length=ts.length):=by
        rcases h1 with ⟨h4,h5⟩|⟨h4,h5,_⟩
        · subst h5;exact⟨by simp,by simp,fun h=>by omega⟩
        · exact⟨aC,aC,fun _=>h5⟩
      exact .mk aC aC hl.2.1 hl.2.2 (fun x hx=>IsPlain.wf (h3 x hx))
def cK(sh:Int)(v:V):List V:=
 if sh=5 then [v]else if sh=6 then(if v.kind=5 then [v]else [])else if sh=7 then(if v.kind=5 then [v]else v.items.filter (fun x=>decide (x.kind=5)))
 else if sh=9∨sh=13 then v.items.filter (fun x=>decide (x.kind=5))else []
theorem uW{sh:Int}{v x:V}(h:x∈cK sh v):SizeOf.sizeOf x≤SizeOf.sizeOf v:=by
 unfold cK at h
 split at h
 ·simp at h;subst h;exact Nat.le_refl _
 split at h
 ·split at h<;>simp at h
  subst h;exact Nat.le_refl _
 split at h
 ·split at h
  ·simp at h;subst h;exact Nat.le_refl _
  ·exact Nat.le_of_lt (yU (List.mem_filter.1 h).1)
 split at h
 ·exact Nat.le_of_lt (yU (List.mem_filter.1 h).1)
 ·simp at h
def cN(sh:Int)(v:V):Prop:=
 if sh=1 then v.kind=3 else if sh=2 then v.kind=1 else if sh=3 then v.kind=2∨v.kind=6 else if sh=4 then v.kind=2∧0≤v.num else if sh=5 then v.kind=5
 else if sh=6 then v.kind=1∨v.kind=5 else if sh=7 then v.kind=5∨(v.kind=4∧ ∀ x∈v.items,x.kind=5)else if sh=8 then v.kind=4∧ ∀ x∈v.items,x.kind=3
 else if sh=9 then v.kind=5∧ ∀ x∈v.items,x.kind=5 else if sh=10 then v.kind=5∧ ∀ x∈v.items,x.kind=4∧ ∀ y∈x.items,y.kind=3
 else if sh=11 then v.kind=4∧ ∀ x∈v.items,x.kind=3∨x.kind=1 else if sh=12 then v.kind=3∨(v.kind=4∧ ∀ x∈v.items,x.kind=3)
 else if sh=13 then v.kind=4∧ ∀ x∈v.items,x.kind=5 else True
noncomputable def IsShape:V→Prop:=V.fix (fun t f=>t.kind=5∧ ∀ (j:Nat) k v,t.keys[j]? =some k→t.items[j]? =some v→cN (cH k) v∧(∀ x∈cK (cH k) v,f x)∧(k=kId→ ∃u,getV t dM=some u∧dS u.text))
theorem wA(t:V):IsShape t↔t.kind=5∧ ∀ (j:Nat) k v,t.keys[j]? =some k→t.items[j]? =some v→cN (cH k) v∧(∀ x∈cK (cH k) v,IsShape x)∧(k=kId→ ∃u,getV t dM=some u∧dS u.text):=by
 have:=V.fix_eq (G:=fun t f=>t.kind=5∧ ∀ (j:Nat) k v,t.keys[j]? =some k→t.items[j]? =some v→cN (cH k) v∧(∀ x∈cK (cH k) v,f x)∧(k=kId→ ∃u,getV t dM=some u∧dS u.text)) (fun t g g' h=>by
  have: ∀ (j:Nat) k v,t.items[j]? =some v→((∀ x∈cK (cH k) v,g x)↔ ∀ x∈cK (cH k) v,g' x):=by
   intro j k v hv
   have hs: ∀ x∈cK (cH k) v,SizeOf.sizeOf x<SizeOf.sizeOf t:=fun x hx=>Nat.lt_of_le_of_lt (uW hx) (f7 hv)
   exact⟨fun a x hx=>by rw [←h x (hs x hx)];exact a x hx,fun a x hx=>by rw [h x (hs x hx)];exact a x hx⟩
  apply propext
  constructor
  ·rintro ⟨h1,h2⟩
   exact⟨h1,fun j k v hk hv=>⟨(h2 j k v hk hv).1,(this j k v hv).1 (h2 j k v hk hv).2.1,(h2 j k v hk hv).2.2⟩⟩
  ·rintro ⟨h1,h2⟩
   exact⟨h1,fun j k v hk hv=>⟨(h2 j k v hk hv).1,(this j k v hv).2 (h2 j k v hk hv).2.1,(h2 j k v hk hv).2.2⟩⟩) t
 show V.fix _ t↔_
 rw [this]
 rfl
theorem IsShape.kind{t:V}(h:IsShape t):t.kind=5:=((wA t).1 h).1
def dv(key:ByteArray)(v:V):Prop:=cN (cH key) v∧ ∀ x∈cK (cH key) v,IsShape x
theorem sP{p q:Prop}(h:p↔q):tb p=tb q:=by rw [propext h]
theorem BQ{key:ByteArray}{v:V}(h: ∀ n:Int,1≤n→n≤13→cH key≠n):dv key v:=by
 unfold dv cN cK
 simp [h 1 aE aE,h 2 aE aE,h 3 aE aE,h 4 aE aE,h 5 aE aE,h 6 aE aE,h 7 aE aE,h 8 aE aE,h 9 aE aE,h 10 aE aE,h 11 aE aE,h 12 aE aE,h 13 aE aE]
theorem fits5{v:V}:(cN 5 v∧ ∀ x∈cK 5 v,IsShape x)↔IsShape v:=by
 simp only [cN,cK,if_true,List.mem_singleton,forall_eq]
 exact⟨fun h=>h.2,fun h=>⟨h.kind,h⟩⟩
theorem fits6{v:V}:(cN 6 v∧ ∀ x∈cK 6 v,IsShape x)↔(v.kind=1∨IsShape v):=by
 simp only [cN,cK]
 by_cases h:v.kind=5
 ·simp [h]
 ·simp only [h]
  simp only [show(6:Int)=5↔False from by decide,show(6:Int)=1↔False from by decide,show(6:Int)=2↔False from by decide,show(6:Int)=3↔False from by decide,show(6:Int)=4↔False from by decide,if_false,if_true,or_false]
  constructor
  ·exact fun h=> .inl h.1
  ·rintro (h1|h1)
   ·exact⟨h1,by simp⟩
   ·exact absurd h1.kind h
theorem kD{v:V}:((∀ x∈v.items,x.kind=5)∧ ∀ x∈v.items.filter (fun x=>decide (x.kind=5)),IsShape x)↔ ∀ x∈v.items,IsShape x:=by
 constructor
 ·exact fun h x hx=>h.2 x (List.mem_filter.2 ⟨hx,by simp [h.1 x hx]⟩)
 ·exact fun h=>⟨fun x hx=>(h x hx).kind,fun x hx=>h x (List.mem_filter.1 hx).1⟩
theorem fits7{v:V}:(cN 7 v∧ ∀ x∈cK 7 v,IsShape x)↔(IsShape v∨(v.kind=4∧ ∀ x∈v.items,IsShape x)):=by
 rw [←kD]
 by_cases h:v.kind=5
 ·simp [cN,cK,h]
 ·have: ¬ IsShape v:=fun hs=>h hs.kind
  simp [cN,cK,h,this,and_assoc]
theorem fits9{v:V}:(cN 9 v∧ ∀ x∈cK 9 v,IsShape x)↔(v.kind=5∧ ∀ x∈v.items,IsShape x):=by
 rw [←kD]
 simp [cN,cK,and_assoc]
theorem fits13{v:V}:(cN 13 v∧ ∀ x∈cK 13 v,IsShape x)↔(v.kind=4∧ ∀ x∈v.items,IsShape x):=by
 rw [←kD]
 simp [cN,cK,and_assoc]
def dC(t:V):Prop:=ea t∧IsShape t
theorem DQ{α:Type}{p:α→Prop}{ts:List α}{i:Nat}(hno: ∀ j x,ts[j]? =some x→j<i→p x)(hi:i<ts.length)(hp:p ts[i]): ∀ j x,ts[j]? =some x→j<i+1→p x:=by
 intro j x hx hj
 rcases Nat.lt_or_eq_of_le (Nat.le_of_lt_succ hj)with h1|rfl
 ·exact hno j x hx h1
 ·rw [List.getElem?_eq_getElem hi]at hx;cases hx;exact hp
theorem GJ{α:Type}{p:α→Prop}{ts:List α}{i:Nat}(hi:ts.length≤i)(hno: ∀ j x,ts[j]? =some x→j<i→p x): ∀ x∈ts,p x:=by
 intro x hx
 obtain⟨j,hj,rfl⟩:=List.getElem_of_mem hx
 exact hno j _ (List.getElem?_eq_getElem hj) aC
theorem mO{t:V}{i:Nat}(hno: ∀ (j:Nat) k v,t.keys[j]? =some k→t.items[j]? =some v→j<i→cN (cH k) v∧(∀ x∈cK (cH k) v,IsShape x)∧(k=kId→ ∃u,getV t dM=some u∧dS u.text))(h1:i<t.keys.length)(h2:i<t.items.length)
  (hf:dv t.keys[i] t.items[i]) (hid:t.keys[i]=kId→ ∃u,getV t dM=some u∧dS u.text):
  ∀ (j:Nat) k v,t.keys[j]? =some k→t.items[j]? =some v→j<i+1→cN (cH k) v∧(∀ x∈cK (cH k) v,IsShape x)∧(k=kId→ ∃u,getV t dM=some u∧dS u.text):=by
 intro j k v hk hv hj
 rcases Nat.lt_or_eq_of_le (Nat.le_of_lt_succ hj)with h3|rfl
 ·exact hno j k v hk hv h3
 ·rw [List.getElem?_eq_getElem h1]at hk
  rw [List.getElem?_eq_getElem h2]at hv
  cases hk;cases hv
  exact⟨hf.1,hf.2,hid⟩


theorem RG(t:V)(x:Value):di Tryz.prog 50 #[x] [.val x t] (.bool (tb (ea t))):=by
 refine Ct.of_run (args:=[x]) Tryz.func50 aF Z Tryz.ntmps50 Z (fun c=>?_)
 refine yN 0 Z (fun A1 c1 A2 c2 hx hs hk1 hk2 hi1 hi2=>?_)
 subst hx
 unfold maxLen at hi2 hk2
 refine rO 3 Z (yK Z Z Z (fun b1=>?_))
 refine oO 6 Z (zK 0 Z cM Z Z ?_)
 refine zA (zL Z Z Z (c89 12 aE t _) (cO 2 Z) ?_)
 refine oS 2 Z (zY (s:=5) Z (fun h5=>?_) (fun h5=>?_))
 ·refine zH Z Z (zK 0 Z cM Z Z ?_)
  refine zH Z Z (zL Z Z Z (c90 t _) (cO 2 Z) ?_)
  refine zH Z Z (sE Z Z Z ?_)
  refine oK 5 [2] Z Z ?_
  exact zD Tryz.results50 Z ⟨yI (by unfold ea;simp_all [yS,xH]),rfl,rfl⟩ nS (fun _ h=>by cases h)
 refine oK 8 [2] Z Z ?_
 exact zD Tryz.results50 Z ⟨yI (by unfold ea;simp_all [yS,xH]),rfl,rfl⟩ nS (fun _ h=>by cases h)
theorem PB(key:ByteArray):di Tryz.prog 53 #[.string key] [] (.int .i64 (cH key)):=by
 refine Ct.of_run (args:=[.string key]) Tryz.func53 aF Z Tryz.ntmps53 Z (fun c=>?_)
 refine rR 20 Z (xZ Z (fun h4=>?_) (fun h4=>?_))
 ·refine rR 7 Z ?_
  exact zD Tryz.results53 Z ⟨congrArg _ (by unfold cH;rw [if_pos h4]),rfl,rfl⟩ nS cQ
 refine rR 7 Z (xZ Z (fun h4_1=>?_) (fun h4_1=>?_))
 ·refine rR 7 Z ?_
  exact zD Tryz.results53 Z ⟨congrArg _ ac,rfl,rfl⟩ nS cQ
 refine rR 7 Z (xZ Z (fun h4_2=>?_) (fun h4_2=>?_))
 ·refine rR 7 Z ?_
  exact zD Tryz.results53 Z ⟨congrArg _ ac,rfl,rfl⟩ nS cQ
 refine rR 7 Z (xZ Z (fun h4_3=>?_) (fun h4_3=>?_))
 ·refine rR 7 Z ?_
  exact zD Tryz.results53 Z ⟨congrArg _ ac,rfl,rfl⟩ nS cQ
 refine rR 7 Z (xZ Z (fun h4_4=>?_) (fun h4_4=>?_))
 ·refine rR 7 Z ?_
  exact zD Tryz.results53 Z ⟨congrArg _ ac,rfl,rfl⟩ nS cQ
 refine rR 7 Z (xZ Z (fun h4_5=>?_) (fun h4_5=>?_))
 ·refine rK 7 [2] Z Z ?_
  exact zD Tryz.results53 Z ⟨congrArg _ ac,rfl,rfl⟩ nS cQ
 refine rK 6 [4,3] Z Z (zI Z (fun h4_6=>?_) (fun h4_6=>?_))
 ·refine rR 5 Z ?_
  exact zD Tryz.results53 Z ⟨congrArg _ ac,rfl,rfl⟩ nS cQ
 refine rR 8 Z (xZ Z (fun h12=>?_) (fun h12=>?_))
 ·refine rR 7 Z ?_
  exact zD Tryz.results53 Z ⟨congrArg _ ac,rfl,rfl⟩ nS cQ
 refine rR 7 Z (xZ Z (fun h12_1=>?_) (fun h12_1=>?_))
 ·refine rR 7 Z ?_
  exact zD Tryz.results53 Z ⟨congrArg _ ac,rfl,rfl⟩ nS cQ
 refine rR 7 Z (xZ Z (fun h12_2=>?_) (fun h12_2=>?_))
 ·refine rR 7 Z ?_
  exact zD Tryz.results53 Z ⟨congrArg _ ac,rfl,rfl⟩ nS cQ
 refine rR 7 Z (xZ Z (fun h12_3=>?_) (fun h12_3=>?_))
 ·refine rR 7 Z ?_
  exact zD Tryz.results53 Z ⟨congrArg _ ac,rfl,rfl⟩ nS cQ
 refine rR 6 Z (zI Z (fun h12_4=>?_) (fun h12_4=>?_))
 ·refine rR 5 Z ?_
  exact zD Tryz.results53 Z ⟨congrArg _ ac,rfl,rfl⟩ nS cQ
 refine rR 8 Z (xZ Z (fun h18=>?_) (fun h18=>?_))
 ·refine rK 7 [2] Z Z ?_
  exact zD Tryz.results53 Z ⟨congrArg _ ac,rfl,rfl⟩ nS cQ
 refine rK 7 [18,3] Z Z (xZ Z (fun h18_1=>?_) (fun h18_1=>?_))
 ·refine rR 7 Z ?_
  exact zD Tryz.results53 Z ⟨congrArg _ ac,rfl,rfl⟩ nS cQ
 refine rR 6 Z (zI Z (fun h18_2=>?_) (fun h18_2=>?_))
 ·refine rR 5 Z ?_
  exact zD Tryz.results53 Z ⟨congrArg _ ac,rfl,rfl⟩ nS cQ
 refine rR 8 Z (xZ Z (fun h22=>?_) (fun h22=>?_))
 ·refine rR 7 Z ?_
  exact zD Tryz.results53 Z ⟨congrArg _ ac,rfl,rfl⟩ nS cQ
 refine rR 7 Z (xZ Z (fun h22_1=>?_) (fun h22_1=>?_))
 ·refine rR 7 Z ?_
  exact zD Tryz.results53 Z ⟨congrArg _ ac,rfl,rfl⟩ nS cQ
 refine rR 7 Z (xZ Z (fun h22_2=>?_) (fun h22_2=>?_))
 ·refine rR 7 Z ?_
  exact zD Tryz.results53 Z ⟨congrArg _ ac,rfl,rfl⟩ nS cQ
 refine rR 7 Z (xZ Z (fun h22_3=>?_) (fun h22_3=>?_))
 ·refine rR 7 Z ?_
  exact zD Tryz.results53 Z ⟨congrArg _ ac,rfl,rfl⟩ nS cQ
 refine rR 7 Z (xZ Z (fun h22_4=>?_) (fun h22_4=>?_))
 ·refine rK 7 [2] Z Z ?_
  exact zD Tryz.results53 Z ⟨congrArg _ ac,rfl,rfl⟩ nS cQ
 refine rR 6 Z (zI Z (fun h22_5=>?_) (fun h22_5=>?_))
 ·refine rK 5 [2] Z Z ?_
  exact zD Tryz.results53 Z ⟨congrArg _ ac,rfl,rfl⟩ nS cQ
 refine rK 7 [29,3] Z Z (zI Z (fun h29=>?_) (fun h29=>?_))
 ·refine rR 5 Z ?_
  exact zD Tryz.results53 Z ⟨congrArg _ ac,rfl,rfl⟩ nS cQ
 refine rR 8 Z (xZ Z (fun h31=>?_) (fun h31=>?_))
 ·refine rR 7 Z ?_
  exact zD Tryz.results53 Z ⟨congrArg _ ac,rfl,rfl⟩ nS cQ
 refine rR 6 Z (zI Z (fun h31_1=>?_) (fun h31_1=>?_))
 ·refine rR 5 Z ?_
  exact zD Tryz.results53 Z ⟨congrArg _ ac,rfl,rfl⟩ nS cQ
 refine rR 7 Z (zI Z (fun h34=>?_) (fun h34=>?_))
 ·refine rR 5 Z ?_
  exact zD Tryz.results53 Z ⟨congrArg _ ac,rfl,rfl⟩ nS cQ
 refine rR 7 Z (zI Z (fun h36=>?_) (fun h36=>?_))
 ·refine rK 5 [2] Z Z ?_
  exact zD Tryz.results53 Z ⟨congrArg _ ac,rfl,rfl⟩ nS cQ
 refine rK 8 [38,3] Z Z (xZ Z (fun h38=>?_) (fun h38=>?_))
 ·refine rR 7 Z ?_
  exact zD Tryz.results53 Z ⟨congrArg _ ac,rfl,rfl⟩ nS cQ
 refine rR 7 Z (xZ Z (fun h38_1=>?_) (fun h38_1=>?_))
 ·refine rR 7 Z ?_
  exact zD Tryz.results53 Z ⟨congrArg _ ac,rfl,rfl⟩ nS cQ
 refine rR 6 Z (zI Z (fun h38_2=>?_) (fun h38_2=>?_))
 ·refine rR 5 Z ?_
  exact zD Tryz.results53 Z ⟨congrArg _ ac,rfl,rfl⟩ nS cQ
 refine rR 7 Z (zI Z (fun h42=>?_) (fun h42=>?_))
 ·refine rR 5 Z ?_
  exact zD Tryz.results53 Z ⟨congrArg _ ac,rfl,rfl⟩ nS cQ
 refine rR 7 Z (zI Z (fun h44=>?_) (fun h44=>?_))
 ·refine rR 5 Z ?_
  exact zD Tryz.results53 Z ⟨congrArg _ ac,rfl,rfl⟩ nS cQ
 refine rR 7 Z (zI Z (fun h46=>?_) (fun h46=>?_))
 ·refine rK 5 [2] Z Z ?_
  exact zD Tryz.results53 Z ⟨congrArg _ ac,rfl,rfl⟩ nS cQ
 refine rK 8 [48,3] Z Z (xZ Z (fun h48=>?_) (fun h48=>?_))
 ·refine rR 7 Z ?_
  exact zD Tryz.results53 Z ⟨congrArg _ ac,rfl,rfl⟩ nS cQ
 refine rR 7 Z (xZ Z (fun h48_1=>?_) (fun h48_1=>?_))
 ·refine rR 7 Z ?_
  exact zD Tryz.results53 Z ⟨congrArg _ ac,rfl,rfl⟩ nS cQ
 refine rR 6 Z (zI Z (fun h48_2=>?_) (fun h48_2=>?_))
 ·refine rR 5 Z ?_
  exact zD Tryz.results53 Z ⟨congrArg _ ac,rfl,rfl⟩ nS cQ
 refine rR 7 Z (zI Z (fun h52=>?_) (fun h52=>?_))
 ·refine rR 5 Z ?_
  exact zD Tryz.results53 Z ⟨congrArg _ ac,rfl,rfl⟩ nS cQ
 refine rR 7 Z ?_
 exact zD Tryz.results53 Z ⟨congrArg _ (by unfold cH;repeat rw [if_neg (by assumption)]),rfl,rfl⟩ nS cQ
theorem BR(t:V)(x:Value):di Tryz.prog 126 #[x] [.val x t] (.bool (tb (t.kind=3))):=by
 refine Ct.of_run (args:=[x]) Tryz.func126 aF Z Tryz.ntmps126 Z (fun c=>?_)
 refine yN 0 Z (fun A1 c1 A2 c2 hx hs hk1 hk2 hi1 hi2=>?_)
 subst hx
 unfold maxLen at hi2 hk2
 refine rO 3 Z (yK Z Z Z (fun b1=>?_))
 refine oO 6 Z (zC wC Z Z ?_)
 refine zA (zF 0 dx Z Z Z Z ?_)
 refine oR 5 Z ?_
 exact zD Tryz.results126 Z ⟨yI aJ,rfl,rfl⟩ nS (fun _ h=>by cases h)
theorem tp(t:V)(x:Value)(k:Int)(f:FuncId)(p:V→Prop)(hf: ∀ own∈t.items,∀ y,di Tryz.prog f #[y] [.val y own] (.bool (tb (p own)))):di Tryz.prog 127 #[x, .int .i64 k, .func (.func f) #[] #[]] [.val x t] (.bool (tb (t.kind=k∧ ∀ own∈t.items,p own))):=by
 refine Ct.of_run (args:=[x, .int .i64 k, .func (.func f) #[] #[]]) Tryz.func127 aF Z Tryz.ntmps127 Z (fun c=>?_)
 refine yN 0 Z (fun A1 c1 A2 c2 hx hs hk1 hk2 hi1 hi2=>?_)
 subst hx
 unfold maxLen at hi2 hk2
 refine rO 3 Z (yK Z Z Z (fun b3=>?_))
 refine oO 7 Z (zC wC Z Z ?_)
 refine zA (zF 0 dx Z Z Z Z ?_)
 refine oO 3 Z (uG Z Z Z ?_)
 refine yO (zI Z (fun h12=>?_) (fun h12=>?_))
 ·refine rR 5 Z ?_
  exact zD Tryz.results127 Z ⟨yI (by simp only [Bool.false_eq_true,false_iff];exact fun h=>h12 h.1),rfl,rfl⟩ nS (fun _ h=>by cases h)
 refine rO 5 Z (zC yX Z Z ?_)
 refine zA (zF 0 c7 Z Z Z Z ?_)
 refine zA (zX cX Z Z ?_)
 refine oK 3 [16,15,14,2] Z Z (rK 1 [16,15,14,2] Z Z ?_)
 refine xX 1 (fun(i:Nat)=>i≤t.items.length∧ ∀ j y,t.items[j]? =some y→j<i→p y) (fun(i:Nat)=>[(16, .int .i64 ((i:Nat):Int))]) (fun(i:Nat)=>t.items.length - i) 0 (⟨aC,fun _ _ _ h=>absurd h aC⟩) (eC Z (eN _)) ?_ (eC Z (eC Z (eC Z (eN _))))
 intro i hI K hK
 change Run _ _ _ _ _ [(16,_),(15,_),(14,_),(2,_)] _ _
 obtain⟨hi,hno⟩:=hI
 refine rO 3 Z (yL Z Z Z ?_)
 refine oR 2 Z (zI Z (fun h17=>?_) (fun h17=>?_))
 ·refine rO 6 Z (xC 1 cX Z Z Z Z aC ?_)
  refine zA (xB 1 cM Z Z Z (List.getElem?_eq_getElem h17) (fun A3 c3 A4 c4=>?_))
  refine zA (yA dE Z (fun b8=>?_))
  change cG _ _ _ _ _ _ _ _ (HA.blk _ [_,_,_,_,_] _::_) _
  refine zA (zG 0 (M':=[HA.blk _ [_,_,_,_,_] _,_]) Z Z Z Z co Z Z Z ?_)
  refine oO 6 Z (zK 0 Z cM Z Z ?_)
  refine zA (zL Z Z Z (hf _ (List.getElem_mem h17) _) (cO 0 Z) ?_)
  refine oR 3 Z (yC Z (fun h23=>?_) (fun h23=>?_))
  ·refine rK 5 [6] Z Z ?_
   exact zD Tryz.results127 Z ⟨yI (by simp only [Bool.false_eq_true,false_iff];intro h;rw [df (h.2 _ (List.getElem_mem h17))]at h23;cases h23),rfl,rfl⟩ nS (fun _ h=>by cases h)
  refine rO 4 Z (zN Z Z aC ?_)
  refine oK 3 [16,15,14,2] Z Z ?_
  exact kQ (hK (i+1) (⟨aC,DQ hno h17 (yS.1 (by simpa using h23))⟩) aC)
 refine rR 6 Z ?_
 exact zD Tryz.results127 Z ⟨yI (by simp only [true_iff];exact⟨aC,GJ aC hno⟩),rfl,rfl⟩ nS (fun _ h=>by cases h)
theorem PK(t:V)(x:Value):di Tryz.prog 128 #[x] [.val x t] (.bool (tb (t.kind=4∧ ∀ y∈t.items,y.kind=3))):=by
 refine Ct.of_run (args:=[x]) Tryz.func128 aF Z Tryz.ntmps128 Z (fun c=>?_)
 refine yN 0 Z (fun A1 c1 A2 c2 hx hs hk1 hk2 hi1 hi2=>?_)
 subst hx
 unfold maxLen at hi2 hk2
 refine rO 3 Z (yK Z Z Z (fun b1=>?_))
 refine oO 6 Z (zK 0 Z cM Z Z ?_)
 refine zA (zL Z Z Z (tp t _ 4 126 (fun y=>y.kind=3) (fun own _ y=>BR own y)) (cO 2 Z) ?_)
 refine oR 3 Z ?_
 exact zD Tryz.results128 Z ⟨rfl,rfl,rfl⟩ nS (fun _ h=>by cases h)
theorem PL(t:V)(x:Value):di Tryz.prog 129 #[x] [.val x t] (.bool (tb (t.kind=3∨t.kind=1))):=by
 refine Ct.of_run (args:=[x]) Tryz.func129 aF Z Tryz.ntmps129 Z (fun c=>?_)
 refine yN 0 Z (fun A1 c1 A2 c2 hx hs hk1 hk2 hi1 hi2=>?_)
 subst hx
 unfold maxLen at hi2 hk2
 refine rO 3 Z (yK Z Z Z (fun b1=>?_))
 refine oO 6 Z (zK 0 Z cM Z Z ?_)
 refine zA (zL Z Z Z (BR t _) (cO 2 Z) ?_)
 refine oS 2 Z (zY (s:=5) Z (fun h5=>?_) (fun h5=>?_))
 ·refine oK 8 [2] Z Z ?_
  exact zD Tryz.results129 Z ⟨yI (by simp_all [yS,xH]),rfl,rfl⟩ nS (fun _ h=>by cases h)
 refine zH Z Z (zC wC Z Z ?_)
 refine zH Z Z (zF 0 dx Z Z Z Z ?_)
 refine oK 7 [2] Z Z ?_
 exact zD Tryz.results129 Z ⟨yI (by simp_all [yS,xH]),rfl,rfl⟩ nS (fun _ h=>by cases h)
theorem Rc(s:ByteArray):di Tryz.prog 92 #[.string s] [] (.bool (tb (dS s))):=by
 refine Ct.of_run (args:=[.string s]) Tryz.func92 aF Z Tryz.ntmps92 Z (fun c=>?_)
 refine rS 13 Z (zW (s:=5) Z (fun h5=>?_) (fun h5=>?_))
 ·refine oK 25 [2] Z Z ?_
  exact zD Tryz.results92 Z ⟨yI bO,rfl,rfl⟩ nS (fun _ h=>by cases h)
 refine oS 8 Z (zW (s:=9) Z (fun h9=>?_) (fun h9=>?_))
 ·refine oK 19 [2] Z Z ?_
  exact zD Tryz.results92 Z ⟨yI bO,rfl,rfl⟩ nS (fun _ h=>by cases h)
 refine oS 8 Z (zW (s:=13) Z (fun h13=>?_) (fun h13=>?_))
 ·refine oK 13 [2] Z Z ?_
  exact zD Tryz.results92 Z ⟨yI bO,rfl,rfl⟩ nS (fun _ h=>by cases h)
 refine oS 8 Z (zW (s:=17) Z (fun h17=>?_) (fun h17=>?_))
 ·refine oK 7 [2] Z Z ?_
  exact zD Tryz.results92 Z ⟨yI bO,rfl,rfl⟩ nS (fun _ h=>by cases h)
 refine oK 9 [2] Z Z ?_
 exact zD Tryz.results92 Z ⟨yI (by unfold dS;simp only [decide_eq_true_eq];simp [*]),rfl,rfl⟩ nS (fun _ h=>by cases h)
theorem Rd(key:ByteArray)(t:V)(x:Value)(hw:Wf t)(H: ∀ v,SizeOf.sizeOf v≤SizeOf.sizeOf t→Wf v→ ∀ y,di Tryz.prog 51 #[y] [.val y v] (.bool (tb (IsShape v)))):di Tryz.prog 91 #[.string key,x] [.val x t] (.bool (tb (dv key t))):=by
 refine Ct.of_run (args:=[.string key,x]) Tryz.func91 aF Z Tryz.ntmps91 Z (fun c=>?_)
 refine yN 0 Z (fun A1 c1 A2 c2 hx hs hk1 hk2 hi1 hi2=>?_)
 subst hx
 unfold maxLen at hi2 hk2
 refine rO 3 Z (yK Z Z Z (fun b3=>?_))
 refine oO 9 Z (zL Z Z Z (PB key) cQ ?_)
 refine oR 9 Z (zI Z (fun h7=>?_) (fun h7=>?_))
 ·refine rO 3 Z (zK 0 Z cM Z Z ?_)
  refine zA (zL Z Z Z (BR t _) (cO 2 Z) ?_)
  refine oK 3 [4] Z Z ?_
  exact zD Tryz.results91 Z ⟨yI (by unfold dv;rw [h7];simp_all [cN,cK,yS,xH]),rfl,rfl⟩ nS (fun _ h=>by cases h)
 refine rR 7 Z (zI Z (fun h11=>?_) (fun h11=>?_))
 ·refine rO 3 Z (zC wC Z Z ?_)
  refine zA (zF 0 dx Z Z Z Z ?_)
  refine oK 5 [4] Z Z ?_
  exact zD Tryz.results91 Z ⟨yI (by unfold dv;rw [h11];simp_all [cN,cK,yS,xH]),rfl,rfl⟩ nS (fun _ h=>by cases h)
 refine rK 7 [16,6,3] Z Z (zI Z (fun h16=>?_) (fun h16=>?_))
 ·refine rO 3 Z (zC wC Z Z ?_)
  refine zA (zF 0 dx Z Z Z Z ?_)
  refine oS 4 Z (zW (s:=21) Z (fun h21=>?_) (fun h21=>?_))
  ·refine oK 8 [4] Z Z ?_
   exact zD Tryz.results91 Z ⟨yI (by unfold dv;rw [h16];simp_all [cN,cK,yS,xH]),rfl,rfl⟩ nS (fun _ h=>by cases h)
  refine zH Z Z (zC wC Z Z ?_)
  refine zH Z Z (zF 0 dx Z Z Z Z ?_)
  refine oK 7 [4] Z Z ?_
  exact zD Tryz.results91 Z ⟨yI (by unfold dv;rw [h16];simp_all [cN,cK,yS,xH]),rfl,rfl⟩ nS (fun _ h=>by cases h)
 refine rR 7 Z (zI Z (fun h26=>?_) (fun h26=>?_))
 ·refine rO 3 Z (zC wC Z Z ?_)
  refine zA (zF 0 dx Z Z Z Z ?_)
  refine oS 4 Z (zW (s:=31) Z (fun h31=>?_) (fun h31=>?_))
  ·refine zH Z Z (zC wZ Z Z ?_)
   refine zH Z Z (zF 0 dx Z Z Z Z ?_)
   refine zH Z Z (uA Z Z Z ?_)
   refine oK 5 [4] Z Z ?_
   exact zD Tryz.results91 Z ⟨yI (by unfold dv;rw [h26];simp_all [cN,cK,yS,xH]),rfl,rfl⟩ nS (fun _ h=>by cases h)
  refine oK 8 [4] Z Z ?_
  exact zD Tryz.results91 Z ⟨yI (by unfold dv;rw [h26];simp_all [cN,cK,yS,xH]),rfl,rfl⟩ nS (fun _ h=>by cases h)
 refine rR 7 Z (zI Z (fun h36=>?_) (fun h36=>?_))
 ·refine rO 3 Z (zK 0 Z cM Z Z ?_)
  refine zA (zL Z Z Z (H t (Nat.le_refl _) hw _) (cO 2 Z) ?_)
  refine oK 3 [4] Z Z ?_
  exact zD Tryz.results91 Z ⟨yI (by unfold dv;rw [h36,fits5];simp_all [yS,xH]),rfl,rfl⟩ nS (fun _ h=>by cases h)
 refine rR 7 Z (zI Z (fun h40=>?_) (fun h40=>?_))
 ·refine rO 3 Z (zC wC Z Z ?_)
  refine zA (zF 0 dx Z Z Z Z ?_)
  refine oS 4 Z (zW (s:=45) Z (fun h45=>?_) (fun h45=>?_))
  ·refine oK 7 [4] Z Z ?_
   exact zD Tryz.results91 Z ⟨yI (by unfold dv;rw [h40,fits6];simp_all [yS,xH]),rfl,rfl⟩ nS (fun _ h=>by cases h)
  refine zH Z Z (zK 0 Z cM Z Z ?_)
  refine zH Z Z (zL Z Z Z (H t (Nat.le_refl _) hw _) (cO 2 Z) ?_)
  refine oK 5 [4] Z Z ?_
  exact zD Tryz.results91 Z ⟨yI (by unfold dv;rw [h40,fits6];simp_all [yS,xH]),rfl,rfl⟩ nS (fun _ h=>by cases h)
 refine rR 7 Z (zI Z (fun h49=>?_) (fun h49=>?_))
 ·refine rO 3 Z (zK 0 Z cM Z Z ?_)
  refine zA (zL Z Z Z (H t (Nat.le_refl _) hw _) (cO 2 Z) ?_)
  refine oS 2 Z (zY (s:=53) Z (fun h53=>?_) (fun h53=>?_))
  ·refine oK 7 [4] Z Z ?_
   exact zD Tryz.results91 Z ⟨yI (by unfold dv;rw [h49,fits7];simp_all [yS,xH]),rfl,rfl⟩ nS (fun _ h=>by cases h)
  refine zH Z Z (zK 0 Z cM Z Z ?_)
  refine zH Z Z (zL Z Z Z (tp t _ 4 51 IsShape (fun own hown y=>H own (Nat.le_of_lt (yU hown)) (hw.item _ hown) y)) (cO 2 Z) ?_)
  refine oK 5 [4] Z Z ?_
  exact zD Tryz.results91 Z ⟨yI (by unfold dv;rw [h49,fits7];simp_all [yS,xH]),rfl,rfl⟩ nS (fun _ h=>by cases h)
 refine rK 7 [57,6,3] Z Z (zI Z (fun h57=>?_) (fun h57=>?_))
 ·refine rO 3 Z (zK 0 Z cM Z Z ?_)
  refine zA (zL Z Z Z (tp t _ 4 126 (fun y=>y.kind=3) (fun own _ y=>BR own y)) (cO 2 Z) ?_)
  refine oR 3 Z ?_
  exact zD Tryz.results91 Z ⟨yI (by unfold dv;rw [h57];simp_all [cN,cK,yS,xH]),rfl,rfl⟩ nS (fun _ h=>by cases h)
 refine rR 7 Z (zI Z (fun h61=>?_) (fun h61=>?_))
 ·refine rO 3 Z (zK 0 Z cM Z Z ?_)
  refine zA (zL Z Z Z (tp t _ 5 51 IsShape (fun own hown y=>H own (Nat.le_of_lt (yU hown)) (hw.item _ hown) y)) (cO 2 Z) ?_)
  refine oR 3 Z ?_
  exact zD Tryz.results91 Z ⟨yI (by unfold dv;rw [h61,fits9];simp_all [yS,xH]),rfl,rfl⟩ nS (fun _ h=>by cases h)
 refine rR 7 Z (zI Z (fun h65=>?_) (fun h65=>?_))
 ·refine rO 3 Z (zK 0 Z cM Z Z ?_)
  refine zA (zL Z Z Z (tp t _ 5 128 (fun y=>y.kind=4∧ ∀ z∈y.items,z.kind=3) (fun own _ y=>PK own y)) (cO 2 Z) ?_)
  refine oK 3 [4] Z Z ?_
  exact zD Tryz.results91 Z ⟨yI (by unfold dv;rw [h65];simp_all [cN,cK,yS,xH]),rfl,rfl⟩ nS (fun _ h=>by cases h)
 refine rR 7 Z (zI Z (fun h69=>?_) (fun h69=>?_))
 ·refine rO 3 Z (zK 0 Z cM Z Z ?_)
  refine zA (zL Z Z Z (tp t _ 4 129 (fun y=>y.kind=3∨y.kind=1) (fun own _ y=>PL own y)) (cO 2 Z) ?_)
  refine oK 3 [4] Z Z ?_
  exact zD Tryz.results91 Z ⟨yI (by unfold dv;rw [h69];simp_all [cN,cK,yS,xH]),rfl,rfl⟩ nS (fun _ h=>by cases h)
 refine rR 7 Z (zI Z (fun h73=>?_) (fun h73=>?_))
 ·refine rO 3 Z (zK 0 Z cM Z Z ?_)
  refine zA (zL Z Z Z (BR t _) (cO 2 Z) ?_)
  refine oS 2 Z (zY (s:=77) Z (fun h77=>?_) (fun h77=>?_))
  ·refine oK 7 [4] Z Z ?_
   exact zD Tryz.results91 Z ⟨yI (by unfold dv;rw [h73];simp_all [cN,cK,yS,xH]),rfl,rfl⟩ nS (fun _ h=>by cases h)
  refine zH Z Z (zK 0 Z cM Z Z ?_)
  refine zH Z Z (zL Z Z Z (tp t _ 4 126 (fun y=>y.kind=3) (fun own _ y=>BR own y)) (cO 2 Z) ?_)
  refine oK 5 [4] Z Z ?_
  exact zD Tryz.results91 Z ⟨yI (by unfold dv;rw [h73];simp_all [cN,cK,yS,xH]),rfl,rfl⟩ nS (fun _ h=>by cases h)
 refine rK 7 [81,3] Z Z (zI Z (fun h81=>?_) (fun h81=>?_))
 ·refine rO 3 Z (zK 0 Z cM Z Z ?_)
  refine zA (zL Z Z Z (tp t _ 4 51 IsShape (fun own hown y=>H own (Nat.le_of_lt (yU hown)) (hw.item _ hown) y)) (cO 2 Z) ?_)
  refine oR 3 Z ?_
  exact zD Tryz.results91 Z ⟨yI (by unfold dv;rw [h81,fits13];simp_all [yS,xH]),rfl,rfl⟩ nS (fun _ h=>by cases h)
 refine rR 7 Z ?_
 exact zD Tryz.results91 Z ⟨yI (by simp only [true_iff];exact BQ (by intro n h1 h2;omega)),rfl,rfl⟩ nS (fun _ h=>by cases h)
theorem Re(t:V): ∀ (hw:Wf t) (x:Value),di Tryz.prog 51 #[x] [.val x t] (.bool (tb (IsShape t))):=by
 refine V.indS (p:=fun t=> ∀ (hw:Wf t) (x:Value),di Tryz.prog 51 #[x] [.val x t] (.bool (tb (IsShape t)))) ?_ t
 intro t IH hw x
 refine Ct.of_run (args:=[x]) Tryz.func51 aF Z Tryz.ntmps51 Z (fun c=>?_)
 refine yN 0 Z (fun A1 c1 A2 c2 hx hs hk1 hk2 hi1 hi2=>?_)
 subst hx
 unfold maxLen at hi2 hk2
 have hkl:=hw.eq
 refine rO 3 Z (yK Z Z Z (fun b1=>?_))
 refine oO 7 Z (zC wC Z Z ?_)
 refine zA (zF 0 dx Z Z Z Z ?_)
 refine zA (uG Z Z Z ?_)
 refine yO (zI Z (fun h8=>?_) (fun h8=>?_))
 ·refine rR 5 Z ?_
  exact zD Tryz.results51 Z ⟨yI (by simp only [Bool.false_eq_true,false_iff];exact fun h=>h8 h.kind),rfl,rfl⟩ nS (fun _ h=>by cases h)
 have hkl:=hkl aC
 refine rO 5 Z (zC xM Z Z ?_)
 refine zA (zF 0 dV Z Z Z Z ?_)
 refine zA (zX cV Z Z ?_)
 refine oK 4 [12,11,10,1] Z Z ?_
 refine xX 1 (fun(i:Nat)=>i≤t.keys.length∧ ∀ (j:Nat) k v,t.keys[j]? =some k→t.items[j]? =some v→j<i→cN (cH k) v∧(∀ x∈cK (cH k) v,IsShape x)∧(k=kId→ ∃u,getV t dM=some u∧dS u.text)) (fun(i:Nat)=>[(12, .int .i64 ((i:Nat):Int))]) (fun(i:Nat)=>t.keys.length - i) 0 (⟨aC,fun _ _ _ _ _ h=>absurd h aC⟩) (eC Z (eN _)) ?_ (eC Z (eC Z (eC Z (eN _))))
 intro i hI K hK
 change Run _ _ _ _ _ [(12,_),(11,_),(10,_),(1,_)] _ _
 obtain⟨hi,hno⟩:=hI
 refine rO 3 Z (yL Z Z Z ?_)
 refine oR 2 Z (zI Z (fun h13=>?_) (fun h13=>?_))
 ·refine rO 8 Z (xS 0 cV Z Z Z Z aC ?_)
  refine zA (yR dO Z Z (fun _ h=>xO h (j:=0) Z (List.getElem?_eq_getElem h13)) ?_)
  refine oO 11 Z (zC yX Z Z ?_)
  refine zA (zF 0 c7 Z Z Z Z ?_)
  refine oO 3 Z (xC 1 cX Z Z Z Z aC ?_)
  refine zA ?_
  refine xB 1 cM Z Z Z (List.getElem?_eq_getElem aC) (fun A3 c3 A4 c4=>?_)
  refine zA (zL Z Z Z (Rd _ (t.items[i]'aC) _ (hw.item _ (List.getElem_mem _)) (fun v hv hwv y=>IH v (Nat.lt_of_le_of_lt hv (yU (List.getElem_mem _))) hwv y)) (cO 0 Z) ?_)
  refine oK 3 [24,4,12,11,10,1] Z Z (yC Z (fun h24=>?_) (fun h24=>?_))
  ·refine rR 5 Z ?_
   exact zD Tryz.results51 Z ⟨yI (by simp only [Bool.false_eq_true,false_iff];intro h;have h9:=((wA t).1 h).2 i _ _ (List.getElem?_eq_getElem h13) (List.getElem?_eq_getElem aC);rw [df ⟨h9.1,h9.2.1⟩]at h24;cases h24),rfl,rfl⟩ nS (fun _ h=>by cases h)
  refine rO 4 Z (zK 0 Z cM Z Z ?_)
  refine zA (zL Z Z Z (Io _ t _) (cO 3 Z) ?_)
  refine oS 11 Z (zW (s:=29) Z (fun h29=>?_) (fun h29=>?_))
  ·refine oO 3 Z (wI Z Z Z ?_)
   refine oS 2 Z (zW (s:=32) Z (fun h32=>?_) (fun h32=>?_))
   ·refine oK 13 [42,12,11,10,1] Z Z (rR 6 Z ?_)
    exact zD Tryz.results51 Z ⟨yI (by simp only [Bool.false_eq_true,false_iff];intro h;obtain⟨u,h8,h9⟩:=(((wA t).1 h).2 i _ _ (List.getElem?_eq_getElem h13) (List.getElem?_eq_getElem aC)).2.2 h29;change getV t ⟨#[36,115,99,104,101,109,97]⟩=some u at h8;rw [li (by show dL t.keys ⟨#[36,115,99,104,101,109,97]⟩<0;omega)]at h8;cases h8),rfl,rfl⟩ nS (fun _ h=>by cases h)
   rcases sO t.keys ⟨#[36,115,99,104,101,109,97]⟩with hf|⟨i9,hf,hlt⟩
   ·omega
   rw [hf]
   refine zH Z Z (zC yX Z Z ?_)
   refine zH Z Z (zF 0 c7 Z Z Z Z ?_)
   refine oO 3 Z (xC 2 cX Z Z Z Z aC ?_)
   refine zH Z Z (oL tE Z Z ?_)
   refine zH Z Z ?_
   refine yR dO Z Z (fun _ h=>BO h (j:=2) Z (List.getElem?_eq_getElem (l:=t.items) (i:=i9) aC)) ?_
   refine zH Z Z (zL Z Z Z (Rc _) cQ ?_)
   refine oK 7 [42,12,11,10,1] Z Z (yC Z (fun h42=>?_) (fun h42=>?_))
   ·refine rR 5 Z ?_
    exact zD Tryz.results51 Z ⟨yI (by simp only [Bool.false_eq_true,false_iff];intro h;obtain⟨u,h8,h9⟩:=(((wA t).1 h).2 i _ _ (List.getElem?_eq_getElem h13) (List.getElem?_eq_getElem aC)).2.2 h29;change getV t ⟨#[36,115,99,104,101,109,97]⟩=some u at h8;rw [fF hf aC]at h8;cases h8;rw [df h9]at h42;cases h42),rfl,rfl⟩ nS (fun _ h=>by cases h)
   refine rO 4 Z (zN Z Z aC ?_)
   refine oR 3 Z ?_
   exact kQ (hK (i+1) (⟨aC,mO hno h13 aC (yS.1 (by simpa using h24)) (by first|(intro h;exact absurd h h29)|exact fun _=>⟨_,fF hf aC,yS.1 (by simpa using h42)⟩)⟩) aC) (eC Z (eC Z (eC Z (eC Z (eN _)))))
  refine oS 3 Z (yH Z Z Z ?_)
  refine yH Z Z Z (yH Z Z Z ?_)
  refine yH Z Z Z (yH Z Z Z ?_)
  refine yH Z Z Z (yH Z Z Z ?_)
  refine yH Z Z Z (oK 4 [42,12,11,10,1] Z Z ?_)
  refine rO 5 Z (zN Z Z aC ?_)
  refine oR 3 Z ?_
  exact kQ (hK (i+1) (⟨aC,mO hno h13 aC (yS.1 (by simpa using h24)) (by first|(intro h;exact absurd h h29)|exact fun _=>⟨_,fF hf aC,yS.1 (by simpa using h42)⟩)⟩) aC) (eC Z (eC Z (eC Z (eC Z (eN _)))))
 refine rR 6 Z ?_
 exact zD Tryz.results51 Z ⟨yI (by simp only [true_iff];exact(wA t).2 ⟨aC,fun j k v hk hv=>hno j k v hk hv (by have:=(List.getElem?_eq_some_iff.1 hk).1;omega)⟩),rfl,rfl⟩ nS (fun _ h=>by cases h)
theorem PC(t:V)(x:Value):di Tryz.prog 20 #[x] [.val x t] (.bool (tb (dC t))):=by
 refine Ct.of_run (args:=[x]) Tryz.func20 aF Z Tryz.ntmps20 Z (fun c=>?_)
 refine yN 0 Z (fun A1 c1 A2 c2 hx hs hk1 hk2 hi1 hi2=>?_)
 subst hx
 unfold maxLen at hi2 hk2
 refine rO 3 Z (yK Z Z Z (fun b1=>?_))
 refine oO 6 Z (zK 0 Z cM Z Z ?_)
 refine zA (zL Z Z Z (RG t _) (cO 2 Z) ?_)
 refine oS 2 Z (zY (s:=5) Z (fun h5=>?_) (fun h5=>?_))
 ·refine zH Z Z (zK 0 Z cM Z Z ?_)
  refine zH Z Z (zL Z Z Z (Re t (yS.1 h5).1.wf _) (cO 2 Z) ?_)
  refine oR 5 Z ?_
  exact zD Tryz.results20 Z ⟨yI (by unfold dC;simp_all [yS,xH]),rfl,rfl⟩ nS (fun _ h=>by cases h)
 refine oR 7 Z ?_
 exact zD Tryz.results20 Z ⟨yI (by unfold dC;simp_all [yS,xH]),rfl,rfl⟩ nS (fun _ h=>by cases h)
instance:Inhabited V:=⟨.mk 0 0 ⟨#[]⟩ [] []⟩
noncomputable def c8(g:V→V)(x:V):V:=if x.kind=5 then g x else x
theorem vF{g:V→V}{x:V}(h:x.kind=5):c8 g x=g x:=if_pos h
theorem qQ{g:V→V}{x:V}(h: ¬ x.kind=5):c8 g x=x:=if_neg h
theorem tT{α β:Type}{f:α→β}{ts:List α}{i:Nat}(hi:i<ts.length):(ts.take i).map f++[f ts[i]]=(ts.take (i+1)).map f:=by
 rw [List.take_add_one,List.map_append,List.getElem?_eq_getElem hi];rfl
theorem tq{g:V→V}{ts:List V}{i:Nat}{hi:i<ts.length}(h:ts[i].kind=5):(ts.take i).map (c8 g)++[g ts[i]]=(ts.take (i+1)).map (c8 g):=by
 rw [←tT hi,vF h]
theorem tr{g:V→V}{ts:List V}{i:Nat}{hi:i<ts.length}(h: ¬ ts[i].kind=5):(ts.take i).map (c8 g)++[ts[i]]=(ts.take (i+1)).map (c8 g):=by
 rw [←tT hi,qQ h]
noncomputable def cY(g:V→V)(v:V):V:= .mk v.kind 0 ⟨#[]⟩ v.keys (v.items.map (c8 g))
noncomputable def cJ(sh:Int)(g:V→V)(v:V):V:=
 if sh=5 then g v else if sh=6 then(if v.kind=5 then g v else v)else if sh=7 then(if v.kind=5 then g v else cY g v)else if sh=9∨sh=13 then cY g v else v
theorem qR{sh:Int}{g g':V→V}{v:V}(h: ∀ x,SizeOf.sizeOf x≤SizeOf.sizeOf v→g x=g' x):cJ sh g v=cJ sh g' v:=by
 have h1:cY g v=cY g' v:=by
  unfold cY
  congr 1
  refine List.map_congr_left fun x hx=>?_
  unfold c8
  rw [h x (Nat.le_of_lt (yU hx))]
 unfold cJ
 rw [h v (Nat.le_refl _),h1]
def gA(q:ByteArray→Bool)(t:V)(i:Nat):List (ByteArray×V):=((t.keys.zip t.items).take i).filter (fun p=>q p.1)
theorem DR{q:ByteArray→Bool}{t:V}{i:Nat}(h1:i<t.keys.length)(h2:i<t.items.length)(hq:q t.keys[i]=true):gA q t (i+1)=gA q t i++[(t.keys[i],t.items[i])]:=by
 unfold gA
 rw [List.take_add_one,List.getElem?_eq_getElem cD,List.filter_append]
 simp [hq]
theorem DS{q:ByteArray→Bool}{t:V}{i:Nat}(h1:i<t.keys.length)(h2:i<t.items.length)(hq:q t.keys[i]=false):gA q t (i+1)=gA q t i:=by
 unfold gA
 rw [List.take_add_one,List.getElem?_eq_getElem cD,List.filter_append]
 simp [hq]
theorem DT{q:ByteArray→Bool}{t:V}{i:Nat}(h:t.keys.length≤i):gA q t i=(t.keys.zip t.items).filter (fun p=>q p.1):=by
 unfold gA
 rw [List.take_of_length_le cD]
theorem kept_len'(q:ByteArray→Bool)(t:V)(i:Nat):(gA q t i).length≤t.keys.length:=by
 unfold gA
 have:=List.length_filter_le (fun p=>q p.1) ((t.keys.zip t.items).take i)
 simp at this
 omega
def dG(k m:Int)(s:ByteArray)(q:ByteArray→Bool)(f:ByteArray→V→V)(t:V):V:=
 .mk k m s (((t.keys.zip t.items).filter (fun p=>q p.1)).map (·.1)) (((t.keys.zip t.items).filter (fun p=>q p.1)).map (fun p=>f p.1 p.2))
theorem qZ{k m:Int}{s:ByteArray}{q:ByteArray→Bool}{f f':ByteArray→V→V}{t:V}(h: ∀ k v,v∈t.items→f k v=f' k v):dG k m s q f t=dG k m s q f' t:=by
 unfold dG
 congr 1
 refine List.map_congr_left fun p hp=>h _ _ ?_
 exact(List.of_mem_zip (List.mem_filter.1 hp).1).2
def eb(key:ByteArray):Bool:=decide (cH key≠0)
noncomputable def normalV:V→V:=V.fix (α:=V) (fun t g=>dG 5 0 ⟨#[]⟩ eb (fun k v=>cJ (cH k) g v) t)
theorem sZ(t:V):normalV t=dG 5 0 ⟨#[]⟩ eb (fun k v=>cJ (cH k) normalV v) t:=
 V.fix_eq (G:=fun t g=>dG 5 0 ⟨#[]⟩ eb (fun k v=>cJ (cH k) g v) t) (fun t g g' h=>qZ fun k v hv=>qR fun x hx=>h x (Nat.lt_of_le_of_lt hx (yU hv))) t
def qt(key:ByteArray):Bool:=decide (key=⟨#[114,101,97,100,79,110,108,121]⟩)||decide (key=⟨#[119,114,105,116,101,79,110,108,121]⟩)||decide (key=⟨#[100,101,102,97,117,108,116]⟩)
theorem qu{k m:Int}{s:ByteArray}{q:ByteArray→Bool}{f:ByteArray→V→V}{t:V}{i:Nat}(h:t.keys.length≤i):dG k m s q f t= .mk k m s ((gA q t i).map (·.1)) ((gA q t i).map (fun p=>f p.1 p.2)):=by
 rw [DT h];rfl
theorem DU{q:ByteArray→Bool}{t:V}{i:Nat}{p:ByteArray→Prop}(h: ∀ s∈t.keys,p s): ∀ s∈(gA q t i).map (·.1),p s:=by
 intro s hs
 obtain⟨x,hx,rfl⟩:=List.mem_map.1 hs
 exact h _ (List.of_mem_zip (List.mem_of_mem_take (List.mem_filter.1 hx).1)).1
theorem DV{t v own:V}(hv:v∈t.items)(ho:own=v∨own∈v.items):SizeOf.sizeOf own<SizeOf.sizeOf t:=by
 rcases ho with rfl|ho
 ·exact yU hv
 ·exact Nat.lt_trans (yU ho) (yU hv)
theorem Jx{t v own:V}(hw:Wf t)(hv:v∈t.items)(ho:own=v∨own∈v.items):Wf own:=by
 rcases ho with rfl|ho
 ·exact hw.item _ hv
 ·exact(hw.item _ hv).item _ ho
def Kept(q:ByteArray→Bool)(f:ByteArray→V→V)(t:V)(i nk:Nat)(xk:List Value)(ts:List V):Prop:=
 i≤t.keys.length∧nk=(gA q t i).length∧xk=(gA q t i).map (fun p=>Value.string p.1)∧ts=(gA q t i).map (fun p=>f p.1 p.2)
theorem Kept.zero(q:ByteArray→Bool)(f:ByteArray→V→V)(t:V):Kept q f t 0 0 [] []:=⟨Nat.zero_le _,rfl,rfl,rfl⟩
theorem Kept.pos{q:ByteArray→Bool}{f:ByteArray→V→V}{t:V}{i nk:Nat}{xk:List Value}{ts:List V}(h:Kept q f t i nk xk ts)(h1:i<t.keys.length)(h2:i<t.items.length)(hq:q t.keys[i]=true):
  Kept q f t (i+1) (nk+1) (xk++[.string t.keys[i]]) (ts++[f t.keys[i] t.items[i]]):=by
 obtain⟨_,a,b,c⟩:=h
 refine⟨h1,?_,?_,?_⟩<;>rw [DR h1 h2 hq]
 ·simp [a]
 ·simp [b]
 ·simp [c]
theorem Kept.neg{q:ByteArray→Bool}{f:ByteArray→V→V}{t:V}{i nk:Nat}{xk:List Value}{ts:List V}(h:Kept q f t i nk xk ts)(h1:i<t.keys.length)(h2:i<t.items.length)(hq:q t.keys[i]=false):Kept q f t (i+1) nk xk ts:=by
 obtain⟨_,a,b,c⟩:=h
 refine⟨h1,?_,?_,?_⟩<;>rw [DS h1 h2 hq]<;>assumption
theorem Kept.len{q:ByteArray→Bool}{f:ByteArray→V→V}{t:V}{i nk:Nat}{xk:List Value}{ts:List V}(h:Kept q f t i nk xk ts):i≤t.keys.length∧nk≤t.keys.length:=⟨h.1,by rw [h.2.1];exact kept_len' q t i⟩

theorem PM(t:V)(f:FuncId)(g:V→V)(hkl:t.keys.length≤1000000)(hil:t.items.length≤1000000)(hf: ∀ own∈t.items,∀ y,CtR Tryz.prog f #[y] [.val y own] (RV (g own)))(bv bh:Nat)(A1 A2:Option Addr)(c1 c2:Nat):
  Ct Tryz.prog 94 #[.pointer (some ⟨bv,0,none⟩), .pointer (some ⟨bh,0,none⟩)] [.blk bv [.int .i64 t.kind, .int .i64 t.num, .string t.text, .slice A1 t.keys.length c1, .slice A2 t.items.length c2] 25, .blk bh [.func (.func f) #[] #[]] 27] [.val (.agg #[.int .i64 t.kind, .int .i64 t.num, .string t.text, .slice A1 t.keys.length c1, .slice A2 t.items.length c2]) t] (fun u M' D'=>M'=[.blk bv [.int .i64 t.kind, .int .i64 t.num, .string t.text, .slice A1 t.keys.length c1, .slice A2 t.items.length c2] 25, .blk bh [.func (.func f) #[] #[]] 27]∧RV (cY g t) u D'):=by
 refine Ct.of_run (args:=[.pointer (some ⟨bv,0,none⟩), .pointer (some ⟨bh,0,none⟩)]) Tryz.func94 aF Z Tryz.ntmps94 Z (fun c=>?_)
 refine yN 0 Z (fun A1 c1 A2 c2 hx hs hk1 hk2 hi1 hi2=>?_)
 injection hx with hx
 simp only [Array.mk.injEq,List.cons.injEq,Value.slice.injEq,true_and,and_true]at hx
 obtain⟨⟨rfl,rfl⟩,rfl,rfl⟩:=hx
 unfold maxLen at hi2 hk2
 refine sV 0 Z (fun hksz=>?_)
 refine rO 3 Z (yA dE Z (fun b2=>?_))
 change cG _ _ _ _ _ _ _ _ (HA.blk _ [_,_,_,_,_] _::_) _
 refine oK 2 [2,0,1] Z Z (j7 (fun(⟨b3,Ak,ck⟩:Nat×Option Addr×Nat)=>True) (fun(⟨b3,Ak,ck⟩:Nat×Option Addr×Nat)=>[(3, .pointer (some ⟨b3,0,none⟩))]) (fun(⟨b3,Ak,ck⟩:Nat×Option Addr×Nat)=>HA.blk b3 [.int .i64 t.kind, .int .i64 0, .string ⟨#[]⟩, .slice Ak t.keys.length ck, .slice none 0 0] 25::HA.blk b2 [.int .i64 0, .int .i64 0, .string ⟨#[]⟩, .slice none 0 0, .slice none 0 0] 25::HA.blk bv [.int .i64 t.kind, .int .i64 t.num, .string t.text, .slice A1 t.keys.length c1, .slice A2 t.items.length c2] 25::HA.blk bh [.func (.func f) #[] #[]] 27::[]) (fun(⟨b3,Ak,ck⟩:Nat×Option Addr×Nat)=> .strs (.slice Ak t.keys.length ck) t.keys:: .strs (.slice A1 t.keys.length c1) t.keys:: .vals (.slice A2 t.items.length c2) t.items:: .val (.agg #[.int .i64 t.kind, .int .i64 t.num, .string t.text, .slice A1 t.keys.length c1, .slice A2 t.items.length c2]) t::[]) ?_ ?_)
 ·intro K hK
  refine yW yM (zO ?_)
  refine tP 0 Z cF (zZ wC Z) (tP 3 Z cF (zZ xM Z) ?_)
  refine yF (tM 1 Z cF (yT 1 dx Z Z Z) ?_)
  refine tM 4 Z cF (yT 1 dV Z Z Z) (tN (rs:=[2,7]) aD aJ ?_)
  intro j hj
  simp only [List.mem_cons,List.not_mem_nil,or_false]at hj
  rcases hj with rfl|rfl
  ·refine zT (I2:=[[4,1],[3,0],[]]) Z cF aD (fun Kd hKd=>?_)
   refine qF cV Z (fun b8=>?_)
   refine hKd _ _ _ (hC (hC (zE (zU)))) (tN (rs:=[5,7]) aD aJ ?_)
   intro j hj
   simp only [List.mem_cons,List.not_mem_nil,or_false]at hj
   rcases hj with rfl|rfl
   ·refine zT (I2:=[[1],[0],[]]) Z cF aD (fun Kd hKd=>?_)
    refine qY 0 0 cV Z Z Z Z Z Z bZ aC (fun Ak ck=>?_)
    rw [Nat.zero_add]
    refine hKd _ _ _ (hC (hC (zE (zU)))) (yF ?_)
    refine tM 6 Z cF (qE Z (mM ..)) (zS 7 aD ?_)
    refine zT (I2:=[[6],[1],[0],[]]) Z cF aD (fun Kd hKd=>?_)
    refine yA dE Z (fun b3=>?_)
    change cG _ _ _ _ _ _ _ _ (HA.blk _ [_,_,_,_,_] _::_) _
    refine hKd _ _ _ (hC (hC (hC (zE (zU))))) (zS 8 aD ?_)
    refine zT (I2:=[[],[],[],[]]) Z cF aD (fun Kd hKd=>?_)
    refine zG 0 (M':=[HA.blk _ [_,_,_,_,_] _,_,_,_,_]) Z Z Z Z co Z Z Z (hKd _ _ _ (zE (zE (zE (zE (zU))))) ?_)
    refine yJ aD (uC 1 t.keys Z bV Z hksz ?_)
    exact kQ (hK (_,_,_) (trivial)) (eC Z (eC Z (eC Z (eC Z (eN _)))))
   refine zT (I2:=[[4,1],[3,0],[]]) Z cF aD (fun Kd hKd=>?_)
   refine yA dE Z (fun b3=>?_)
   change cG _ _ _ _ _ _ _ _ (HA.blk _ [_,_,_,_,_] _::_) _
   refine hKd _ _ _ (hC (hC (zE (zU)))) (zS 5 aD ?_)
   refine zT (I2:=[[1],[0],[]]) Z cF aD (fun Kd hKd=>?_)
   refine qY 1 0 cV Z Z Z Z Z Z bZ aC (fun Ak ck=>?_)
   rw [Nat.zero_add]
   refine hKd _ _ _ (hC (hC (zE (zU)))) (yF ?_)
   refine tM 6 Z cF (qE Z (mM ..)) (zS 8 aD ?_)
   refine zT (I2:=[[],[],[],[]]) Z cF aD (fun Kd hKd=>?_)
   refine zG 0 (M':=[HA.blk _ [_,_,_,_,_] _,_,_,_,_]) Z Z Z Z co Z Z Z (hKd _ _ _ (zE (zE (zE (zE (zU))))) ?_)
   refine yJ aD (uC 1 t.keys Z bV Z hksz ?_)
   exact kQ (hK (_,_,_) (trivial)) (eC Z (eC Z (eC Z (eC Z (eN _)))))
  refine zT (I2:=[[4,1],[3,0],[]]) Z cF aD (fun Kd hKd=>?_)
  refine yA dE Z (fun b3=>?_)
  change cG _ _ _ _ _ _ _ _ (HA.blk _ [_,_,_,_,_] _::_) _
  refine hKd _ _ _ (hC (hC (zE (zU)))) (zS 2 aD ?_)
  refine zT (I2:=[[4,1],[3,0],[]]) Z cF aD (fun Kd hKd=>?_)
  refine qF cV Z (fun b8=>?_)
  refine hKd _ _ _ (hC (hC (zE (zU)))) (zS 5 aD ?_)
  refine zT (I2:=[[1],[0],[]]) Z cF aD (fun Kd hKd=>?_)
  refine qY 0 0 cV Z Z Z Z Z Z bZ aC (fun Ak ck=>?_)
  rw [Nat.zero_add]
  refine hKd _ _ _ (hC (hC (zE (zU)))) (yF ?_)
  refine tM 6 Z cF (qE Z (mM ..)) (zS 8 aD ?_)
  refine zT (I2:=[[],[],[],[]]) Z cF aD (fun Kd hKd=>?_)
  refine zG 1 (M':=[_,HA.blk _ [_,_,_,_,_] _,_,_,_]) Z Z Z Z co Z Z Z (hKd _ _ _ (zE (zE (zE (zE (zU))))) ?_)
  refine yJ aD (uC 0 t.keys Z bV Z hksz ?_)
  exact kQ (hK (_,_,_) (trivial)) (eC Z (eC Z (eC Z (eC Z (eN _)))))
 intro ⟨b3,Ak,ck⟩ hI
 replace hI:True:=hI
 change Run _ _ _ _ _ [(3,_),(2,_),(0,_),(1,_)] [_,_,_,_] [_,_,_,_]
 refine wT 25 5 (f6 ?_)
 refine rO 4 Z (zC yX Z Z ?_)
 refine zA (zF 3 c7 Z Z Z Z ?_)
 refine zA (zX cX Z Z ?_)
 refine oK 4 [16,15,14,3,2,1] Z Z ?_
 refine yB 1 (fun(⟨i,A,ca,xs⟩:Nat×Option Addr×Nat×List Value)=>i≤t.items.length) (fun(⟨i,A,ca,xs⟩:Nat×Option Addr×Nat×List Value)=>[(16, .int .i64 ((i:Nat):Int))]) (fun(⟨i,A,ca,xs⟩:Nat×Option Addr×Nat×List Value)=>HA.row A i ca 25 5 xs::HA.blk b3 [.int .i64 t.kind, .int .i64 0, .string ⟨#[]⟩, .slice Ak t.keys.length ck, .slice A i ca] 25::HA.blk b2 [.int .i64 0, .int .i64 0, .string ⟨#[]⟩, .slice none 0 0, .slice none 0 0] 25::HA.blk bv [.int .i64 t.kind, .int .i64 t.num, .string t.text, .slice A1 t.keys.length c1, .slice A2 t.items.length c2] 25::HA.blk bh [.func (.func f) #[] #[]] 27::[]) (fun(⟨i,A,ca,xs⟩:Nat×Option Addr×Nat×List Value)=> .its xs ((t.items.take i).map (c8 g)):: .strs (.slice Ak t.keys.length ck) t.keys:: .strs (.slice A1 t.keys.length c1) t.keys:: .vals (.slice A2 t.items.length c2) t.items:: .val (.agg #[.int .i64 t.kind, .int .i64 t.num, .string t.text, .slice A1 t.keys.length c1, .slice A2 t.items.length c2]) t::[]) (fun(⟨i,A,ca,xs⟩:Nat×Option Addr×Nat×List Value)=>t.items.length - i) (0,none,0,[]) bg (eC Z (eN _)) Z Z ?_ (eC Z (eC Z (eC Z (eC Z (eC Z (eN _))))))
 intro ⟨i,A,ca,xs⟩ hI K hK
 replace hI:i≤t.items.length:=hI
 change Run _ _ _ _ _ [(16,_),(15,_),(14,_),(3,_),(2,_),(1,_)] [_,_,_,_,_] [_,_,_,_,_]
 refine rO 3 Z (yL Z Z Z ?_)
 refine oR 2 Z (zI Z (fun h17=>?_) (fun h17=>?_))
 ·refine rO 6 Z (xC 3 cX Z Z Z Z aC ?_)
  refine zA (xB 3 cM Z Z Z (List.getElem?_eq_getElem h17) (fun A3 c3 A4 c4=>?_))
  refine zA (yA dE Z (fun b5=>?_))
  change cG _ _ _ _ _ _ _ _ (HA.blk _ [_,_,_,_,_] _::_) _
  refine zA (zG 0 (M':=[HA.blk _ [_,_,_,_,_] _,_,_,_,_,_]) Z Z Z Z co Z Z Z ?_)
  refine oO 5 Z (zC wC Z Z ?_)
  refine zA (zF 0 dx Z Z Z Z ?_)
  refine oR 3 Z (zI Z (fun h22=>?_) (fun h22=>?_))
  ·refine rO 2 Z (zF 5 F3 Z Z Z Z ?_)
   refine zA (zK 0 Z cM Z Z ?_)
   refine zA (yE Z Z Z (hf _ (List.getElem_mem h17) _) (cO 0 Z) (fun u25 D25 hv25=>?_))
   obtain⟨A5,c5,A6,c6,rfl,rfl⟩:=hv25
   refine zA (zG 0 (M':=[HA.blk _ [_,_,_,_,_] _,_,_,_,_,_]) Z Z Z Z co Z Z Z ?_)
   refine oK 1 [5,16,15,14,3,2,1] Z Z (rO 2 Z ?_)
   refine zC yX Z Z (zA ?_)
   refine zF 2 c7 Z Z Z Z (zA ?_)
   refine zK 0 Z cM Z Z (zA ?_)
   refine zM cX Z Z Z Z Z (fun b29=>?_)
   refine zA ?_
   refine cW 2 0 cX (fun A30 c30=>?_)
   refine zA (zC yX Z Z ?_)
   refine zA (zG 3 (M':=[_,_,_,HA.blk _ [_,_,_,_,_] _,_,_,_]) Z Z Z Z lM Z Z Z ?_)
   refine oO 4 Z (zN Z Z aC ?_)
   refine oR 3 Z ?_
   first|(refine vV 2 0 rfl rfl rfl ?_;rw [tq h22])|(refine vV 1 0 rfl rfl rfl ?_;rw [tr h22])
   exact kQ (hK (i+1,_,_,_) bW aq) (eC Z (eC Z (eC Z (eC Z (eC Z (eC Z (eN _))))))) (hD:=(cd 0 Z sQ))
  refine rO 3 Z (zC yX Z Z ?_)
  refine zA (zF 2 c7 Z Z Z Z ?_)
  refine zA (zK 0 Z cM Z Z ?_)
  refine zA (zM cX Z Z Z Z Z (fun b29=>?_))
  refine zA ?_
  refine cW 2 0 cX (fun A30 c30=>?_)
  refine zA (zC yX Z Z ?_)
  refine zA (zG 3 (M':=[_,_,_,HA.blk _ [_,_,_,_,_] _,_,_,_]) Z Z Z Z lM Z Z Z ?_)
  refine oK 1 [16,15,14,3,2,1] Z Z (rO 3 Z ?_)
  refine zN Z Z aC (oR 3 Z ?_)
  first|(refine vV 2 0 rfl rfl rfl ?_;rw [tq h22])|(refine vV 1 0 rfl rfl rfl ?_;rw [tr h22])
  exact kQ (hK (i+1,_,_,_) bW aq) (eC Z (eC Z (eC Z (eC Z (eC Z (eC Z (eN _))))))) (hD:=(cd 0 Z sQ))
 obtain rfl:i=t.items.length:=by omega
 rw [List.take_length]
 refine rO 4 Z (zK 1 Z cM Z Z ?_)
 refine zA (zG 2 (M':=[_,_,HA.blk _ [_,_,_,_,_] _,_,_]) Z Z Z Z co Z Z Z ?_)
 refine yO (sX 0 0 _ Z Z bV aJ ?_)
 refine vP (q:=t.kind) (m:=0) (s:=⟨#[]⟩) 2 0 Z Z aE ?_
 exact vM 1 Tryz.results94 Z Z cM ⟨rfl,_,_,_,_,by simp only [cY,V.kind,V.num,V.text,V.keys,V.items,List.length_map];rfl,rfl⟩ al (cO 0 Z)
theorem c54(key:ByteArray)(t:V)(x:Value)(f:FuncId)(g:V→V)(hkl:t.keys.length≤1000000)(hil:t.items.length≤1000000)(hf: ∀ own,(own=t∨own∈t.items)→ ∀ y,CtR Tryz.prog f #[y] [.val y own] (RV (g own))):CtR Tryz.prog 54 #[.string key,x, .func (.func f) #[] #[]] [.val x t] (RV (cJ (cH key) g t)):=by
 refine Ct.of_run (args:=[.string key,x, .func (.func f) #[] #[]]) Tryz.func54 aF Z Tryz.ntmps54 Z (fun c=>?_)
 refine yN 0 Z (fun A1 c1 A2 c2 hx hs hk1 hk2 hi1 hi2=>?_)
 subst hx
 unfold maxLen at hi2 hk2
 refine rO 3 Z (yK Z Z Z (fun b4=>?_))
 refine zA (yK Z Z Z (fun b5=>?_))
 refine zA (yA dE Z (fun b6=>?_))
 change cG _ _ _ _ _ _ _ _ (HA.blk _ [_,_,_,_,_] _::_) _
 refine oO 4 Z (qM Z Z Z ?_)
 refine oO 9 Z (zL Z Z Z (PB key) cQ ?_)
 refine oR 9 Z (zI Z (fun h11=>?_) (fun h11=>?_))
 ·refine rO 3 Z (zF 1 F3 Z Z Z Z ?_)
  refine zA (zK 2 Z cM Z Z ?_)
  refine zA (yE Z Z Z (hf t (.inl Z) _) (cO 2 Z) (fun u15 D15 hv15=>?_))
  obtain⟨A15,c15,B15,d15,rfl,rfl⟩:=hv15
  refine zA (zG 0 (M':=[HA.blk _ [_,_,_,_,_] _,_,_]) Z Z Z Z co Z Z Z ?_)
  refine oK 1 [6] Z Z ?_
  have e:cJ (cH key) g t=g t:=by simp [cJ, *]
  rw [e]
  exact vM 0 Tryz.results54 Z Z cM ⟨rfl,_,_,_,_,rfl,rfl⟩ nS (cO 0 Z)
 refine rR 7 Z (zI Z (fun h16=>?_) (fun h16=>?_))
 ·refine rO 3 Z (zC wC Z Z ?_)
  refine zA (zF 2 dx Z Z Z Z ?_)
  refine oK 3 [20,6,5,4] Z Z (zI Z (fun h20=>?_) (fun h20=>?_))
  ·refine rO 3 Z (zF 1 F3 Z Z Z Z ?_)
   refine zA (zK 2 Z cM Z Z ?_)
   refine zA (yE Z Z Z (hf t (.inl Z) _) (cO 2 Z) (fun u23 D23 hv23=>?_))
   obtain⟨A23,c23,B23,d23,rfl,rfl⟩:=hv23
   refine zA (zG 0 (M':=[HA.blk _ [_,_,_,_,_] _,_,_]) Z Z Z Z co Z Z Z ?_)
   refine yO ?_
   have e:cJ (cH key) g t=g t:=by simp [cJ, *]
   rw [e]
   exact vM 0 Tryz.results54 Z Z cM ⟨rfl,_,_,_,_,rfl,rfl⟩ nS (cO 0 Z)
  refine rO 5 Z (zK 2 Z cM Z Z ?_)
  refine zA (zG 0 (M':=[HA.blk _ [_,_,_,_,_] _,_,_]) Z Z Z Z co Z Z Z ?_)
  refine yO ?_
  have e:cJ (cH key) g t=t:=by simp [cJ, *]
  rw [e]
  exact vM 0 Tryz.results54 Z Z cM ⟨rfl,_,_,_,_,rfl,rfl⟩ nS (cO 2 Z)
 refine rK 7 [24,10,7,6,5,4] Z Z (zI Z (fun h24=>?_) (fun h24=>?_))
 ·refine rO 4 Z (zC wC Z Z ?_)
  refine zA (zF 2 dx Z Z Z Z ?_)
  refine oR 3 Z (zI Z (fun h28=>?_) (fun h28=>?_))
  ·refine rO 3 Z (zF 1 F3 Z Z Z Z ?_)
   refine zA (zK 2 Z cM Z Z ?_)
   refine zA (yE Z Z Z (hf t (.inl Z) _) (cO 2 Z) (fun u31 D31 hv31=>?_))
   obtain⟨A31,c31,B31,d31,rfl,rfl⟩:=hv31
   refine zA (zG 0 (M':=[HA.blk _ [_,_,_,_,_] _,_,_]) Z Z Z Z co Z Z Z ?_)
   refine oK 1 [6] Z Z ?_
   have e:cJ (cH key) g t=g t:=by simp [cJ, *]
   rw [e]
   exact vM 0 Tryz.results54 Z Z cM ⟨rfl,_,_,_,_,rfl,rfl⟩ nS (cO 0 Z)
  refine rO 6 Z (pF 2 1 Z Z Z (PM t f g hkl hil (fun own ho y=>hf own (.inr ho) y) _ _ _ _ _ _) Z Z (cO 2 Z) (fun u33 M33 D33 hv33=>?_))
  obtain⟨rfl,A33,c33,B33,d33,rfl,rfl⟩:=hv33
  refine zA (zG 2 (M':=[_,_,HA.blk _ [_,_,_,_,_] _]) Z Z Z Z co Z Z Z ?_)
  refine oK 1 [6] Z Z ?_
  have e:cJ (cH key) g t=cY g t:=by simp [cJ, *]
  rw [e]
  exact vM 2 Tryz.results54 Z Z cM ⟨rfl,_,_,_,_,rfl,rfl⟩ nS (cO 0 Z)
 refine rR 8 Z (xZ Z (fun h34=>?_) (fun h34=>?_))
 ·refine rO 7 Z (pF 2 1 Z Z Z (PM t f g hkl hil (fun own ho y=>hf own (.inr ho) y) _ _ _ _ _ _) Z Z (cO 2 Z) (fun u38 M38 D38 hv38=>?_))
  obtain⟨rfl,A38,c38,B38,d38,rfl,rfl⟩:=hv38
  refine zA (zG 2 (M':=[_,_,HA.blk _ [_,_,_,_,_] _]) Z Z Z Z co Z Z Z ?_)
  refine oK 1 [6] Z Z ?_
  have e:cJ (cH key) g t=cY g t:=by simp [cJ, *]
  rw [e]
  exact vM 2 Tryz.results54 Z Z cM ⟨rfl,_,_,_,_,rfl,rfl⟩ nS (cO 0 Z)
 refine rR 6 Z (zI Z (fun h34_1=>?_) (fun h34_1=>?_))
 ·refine rO 5 Z (pF 2 1 Z Z Z (PM t f g hkl hil (fun own ho y=>hf own (.inr ho) y) _ _ _ _ _ _) Z Z (cO 2 Z) (fun u38 M38 D38 hv38=>?_))
  obtain⟨rfl,A38,c38,B38,d38,rfl,rfl⟩:=hv38
  refine zA (zG 2 (M':=[_,_,HA.blk _ [_,_,_,_,_] _]) Z Z Z Z co Z Z Z ?_)
  refine oK 1 [6] Z Z ?_
  have e:cJ (cH key) g t=cY g t:=by simp [cJ, *]
  rw [e]
  exact vM 2 Tryz.results54 Z Z cM ⟨rfl,_,_,_,_,rfl,rfl⟩ nS (cO 0 Z)
 refine rO 5 Z (zK 2 Z cM Z Z ?_)
 refine zA (zG 0 (M':=[HA.blk _ [_,_,_,_,_] _,_,_]) Z Z Z Z co Z Z Z ?_)
 refine oK 1 [6] Z Z ?_
 have e:cJ (cH key) g t=t:=by simp [cJ, *]
 rw [e]
 exact vM 0 Tryz.results54 Z Z cM ⟨rfl,_,_,_,_,rfl,rfl⟩ nS (cO 2 Z)
theorem c22(t:V): ∀ (hw:Wf t) (x:Value),CtR Tryz.prog 22 #[x] [.val x t] (RV (normalV t)):=by
 refine V.indS (p:=fun t=> ∀ (hw:Wf t) (x:Value),CtR Tryz.prog 22 #[x] [.val x t] (RV (normalV t))) ?_ t
 intro t IH hw x
 refine Ct.of_run (args:=[x]) Tryz.func22 aF Z Tryz.ntmps22 Z (fun c=>?_)
 refine yN 0 Z (fun A1 c1 A2 c2 hx hs hk1 hk2 hi1 hi2=>?_)
 subst hx
 unfold maxLen at hi2 hk2
 refine sV 0 Z (fun hksz=>?_)
 have hkl:=hw.kl
 have hil:=hw.il
 have hlen:=hw.le
 refine rO 3 Z (yK Z Z Z (fun b1=>?_))
 refine zA (yA dE Z (fun b2=>?_))
 change cG _ _ _ _ _ _ _ _ (HA.blk _ [_,_,_,_,_] _::_) _
 refine oO 4 Z (yV Z Z (qp ..) ?_)
 refine zA (yA dE Z (fun b3=>?_))
 change cG _ _ _ _ _ _ _ _ (HA.blk _ [_,_,_,_,_] _::_) _
 refine zA (zG 0 (M':=[HA.blk _ [_,_,_,_,_] _,_,_]) Z Z Z Z co Z Z Z ?_)
 refine oO 5 Z (zC xM Z Z ?_)
 refine zA (zF 2 dV Z Z Z Z ?_)
 refine zA (zX cV Z Z ?_)
 refine oK 4 [11,10,9,3,2,1] Z Z (wT 25 5 ?_)
 refine wT 9 1 (f6 ?_)
 refine yB 1 (fun(⟨i,nk,Ak,ck,xk,A,ca,xs,ts⟩:Nat×Nat×Option Addr×Nat×List Value×Option Addr×Nat×List Value×List V)=>Kept eb (fun k v=>cJ (cH k) normalV v) t i nk xk ts) (fun(⟨i,nk,Ak,ck,xk,A,ca,xs,ts⟩:Nat×Nat×Option Addr×Nat×List Value×Option Addr×Nat×List Value×List V)=>[(11, .int .i64 ((i:Nat):Int))]) (fun(⟨i,nk,Ak,ck,xk,A,ca,xs,ts⟩:Nat×Nat×Option Addr×Nat×List Value×Option Addr×Nat×List Value×List V)=>HA.row Ak nk ck 9 1 xk::HA.row A nk ca 25 5 xs::HA.blk b3 [.int .i64 5, .int .i64 0, .string ⟨#[]⟩, .slice Ak nk ck, .slice A nk ca] 25::HA.blk b2 [.int .i64 0, .int .i64 0, .string ⟨#[]⟩, .slice none 0 0, .slice none 0 0] 25::HA.blk b1 [.int .i64 t.kind, .int .i64 t.num, .string t.text, .slice A1 t.keys.length c1, .slice A2 t.items.length c2] 25::[]) (fun(⟨i,nk,Ak,ck,xk,A,ca,xs,ts⟩:Nat×Nat×Option Addr×Nat×List Value×Option Addr×Nat×List Value×List V)=> .its xs ts:: .strs (.slice A1 t.keys.length c1) t.keys:: .vals (.slice A2 t.items.length c2) t.items:: .val (.agg #[.int .i64 t.kind, .int .i64 t.num, .string t.text, .slice A1 t.keys.length c1, .slice A2 t.items.length c2]) t::[]) (fun(⟨i,nk,Ak,ck,xk,A,ca,xs,ts⟩:Nat×Nat×Option Addr×Nat×List Value×Option Addr×Nat×List Value×List V)=>t.keys.length - i) (0,0,none,0,[],none,0,[],[]) (Kept.zero _ _ _) (eC Z (eN _)) Z Z ?_ (eC Z (eC Z (eC Z (eC Z (eC Z (eN _))))))
 intro ⟨i,nk,Ak,ck,xk,A,ca,xs,ts⟩ hI K hK
 replace hI:Kept eb (fun k v=>cJ (cH k) normalV v) t i nk xk ts:=hI
 change Run _ _ _ _ _ [(11,_),(10,_),(9,_),(3,_),(2,_),(1,_)] [_,_,_,_,_] [_,_,_,_]
 have hkn:=hI.len
 refine rO 3 Z (yL Z Z Z ?_)
 refine oR 2 Z (zI Z (fun h12=>?_) (fun h12=>?_))
 ·refine rO 8 Z (xS 1 cV Z Z Z Z aC ?_)
  refine zA (yR dO Z Z (fun _ h=>xO h (j:=1) Z (List.getElem?_eq_getElem h12)) ?_)
  refine oO 11 Z (zL Z Z Z (PB _) cQ ?_)
  refine oK 3 [18,5,4,11,10,9,3,2,1] Z Z (zI Z (fun h18=>?_) (fun h18=>?_))
  ·refine rO 3 Z (zN Z Z aC ?_)
   refine oR 3 Z ?_
   exact kQ (hK (i+1,_,_,_,_,_,_,_,_) (hI.neg aC aC (by unfold eb;simpa using h18)) au) (eC Z (eC Z (eC Z (eC Z (eC Z (eC Z (eN _))))))) (hD:=(by intro d hd;first|exact cd 0 Z sQ d hd|(repeat (first|exact hd|apply List.mem_cons_of_mem))))
  refine rO 6 Z (zC yX Z Z ?_)
  refine zA (zF 4 c7 Z Z Z Z ?_)
  refine oO 3 Z (xC 2 cX Z Z Z Z aC ?_)
  refine zA ?_
  refine xB 2 cM Z Z Z (List.getElem?_eq_getElem aC) (fun A24 c24 B24 d24=>?_)
  refine zA ?_
  have hlt:i<t.items.length:=by omega
  refine yE Z Z Z (c54 _ (t.items[i]'hlt) _ 22 normalV (hw.item _ (List.getElem_mem _)).kl (hw.item _ (List.getElem_mem _)).il (fun own ho y=>IH own (DV (List.getElem_mem _) ho) (Jx hw (List.getElem_mem _) ho) y)) (cO 0 Z) (fun u25 D25 hv25=>?_)
  obtain⟨A25,c25,B25,d25,rfl,rfl⟩:=hv25
  refine zA (yA dE Z (fun b6=>?_))
  change cG _ _ _ _ _ _ _ _ (HA.blk _ [_,_,_,_,_] _::_) _
  refine zA (zG 0 (M':=[HA.blk _ [_,_,_,_,_] _,_,_,_,_,_]) Z Z Z Z co Z Z Z ?_)
  refine oK 1 [6,5,11,10,9,3,2,1] Z Z (rO 3 Z ?_)
  refine zC xM Z Z (zA ?_)
  refine zF 3 dV Z Z Z Z (oO 3 Z ?_)
  refine zM cV Z Z Z Z Z (fun b29=>?_)
  refine zA ?_
  refine cW 2 0 cV (fun A30 c30=>?_)
  refine zA (zC xM Z Z ?_)
  refine zA (zG 4 (M':=[_,_,_,_,HA.blk _ [_,_,_,_,_] _,_,_]) Z Z Z Z iy Z Z Z ?_)
  refine oO 3 Z (zC yX Z Z ?_)
  refine zA (zF 4 c7 Z Z Z Z ?_)
  refine zA (zK 1 Z cM Z Z ?_)
  refine zA (zM cX Z Z Z Z Z (fun b35=>?_))
  refine zA ?_
  refine cW 4 0 cX (fun A36 c36=>?_)
  refine zA (zC yX Z Z ?_)
  refine zA (zG 5 (M':=[_,_,_,_,_,HA.blk _ [_,_,_,_,_] _,_,_]) Z Z Z Z lM Z Z Z ?_)
  refine oK 1 [11,10,9,3,2,1] Z Z (rO 3 Z ?_)
  refine zN Z Z aC (oR 3 Z ?_)
  refine vV 2 0 Z Z Z ?_
  exact kQ (hK (i+1,_,_,_,_,_,_,_,_) (hI.pos aC aC (by unfold eb;simpa using h18)) au) (eC Z (eC Z (eC Z (eC Z (eC Z (eC Z (eN _))))))) (hD:=(by intro d hd;first|exact cd 0 Z sQ d hd|(repeat (first|exact hd|apply List.mem_cons_of_mem))))
 refine rO 4 Z (zK 2 Z cM Z Z ?_)
 refine zA (zG 3 (M':=[_,_,_,HA.blk _ [_,_,_,_,_] _,_]) Z Z Z Z co Z Z Z ?_)
 refine yO ?_
 obtain⟨hi,hnk,hxk,hts⟩:=hI
 refine uC 0 ((gA eb t i).map (·.1)) Z aG (by rw [hxk,List.map_map];rfl) (DU hksz) (sX 0 1 ts Z Z aG (by rw [hts,List.length_map];exact hnk) ?_)
 refine vP (q:=5) (m:=0) (s:=⟨#[]⟩) 1 0 Z Z aE ?_
 subst hts
 rw [sZ,qu (i:=i) aC]
 exact vM 1 Tryz.results22 Z Z cM ⟨rfl,_,_,_,_,by simp only [V.kind,V.num,V.text,V.keys,V.items,List.length_map,←hnk];rfl,rfl⟩ nS (cO 0 Z)
end Go.Jw

namespace Go.Jw
open Go Go.RowKit

inductive Y where
  |mk (kind:Int) (tag val:ByteArray) (kids:List Y)
def Y.kind:Y→Int| .mk k _ _ _=>k
def Y.tag:Y→ByteArray| .mk _ t _ _=>t
def Y.val:Y→ByteArray| .mk _ _ v _=>v
def Y.kids:Y→List Y| .mk _ _ _ ys=>ys
abbrev dY(k:Int)(t v:ByteArray)(A:Option Addr)(n c:Nat):List Value:=
 [.int .u32 k, .int .u32 0, .string t, .string v, .string ⟨#[]⟩, .pointer none, .slice A n c, .string ⟨#[]⟩, .string ⟨#[]⟩, .string ⟨#[]⟩, .int .i64 0, .int .i64 0]
 mutual
def NodeP(w:World)(ok:Nat→Prop):Y→Nat→Prop
  | .mk k t v ys,b=>ok b∧t.size≤maxLen∧v.size≤maxLen∧ ∃A c,w.heap[b]? =some (.cells (dY k t v A ys.length c).toArray 150 (0,0))∧ys.length≤c∧c≤maxLen∧KidsP w ok A 0 ys
def KidsP(w:World)(ok:Nat→Prop)(A:Option Addr):Nat→List Y→Prop
  |_,[]=>True
  |i,y::ys=>(∃a b,A=some a∧ok a.block∧w.cell? (a.add i)=some (.pointer (some ⟨b,0,none⟩))∧NodeP w ok y b)∧KidsP w ok A (i+1) ys
end
def KidsV(w:World)(ok:Nat→Prop)(v:Value)(ys:List Y):Prop:= ∃A c,v= .slice A ys.length c∧ys.length≤c∧c≤maxLen∧KidsP w ok A 0 ys
def PtrsP(w:World)(ok:Nat→Prop):List Value→List Y→Prop
  |xs,[]=>xs=[]
  |xs,y::ys=> ∃b rest,xs= .pointer (some ⟨b,0,none⟩)::rest∧NodeP w ok y b∧PtrsP w ok rest ys
section
variable {w w':World} {ok ok':Nat→Prop}
 mutual
theorem NodeP.mono(h1: ∀ k,ok k→ok' k)(h2: ∀ k,ok k→w'.heap[k]? =w.heap[k]?): ∀ (y:Y) {b:Nat},NodeP w ok y b→NodeP w' ok' y b
  | .mk k t v ys,b,h=>by
    simp only [NodeP]at h⊢
    obtain⟨hb,ht,hv,A,c,hh,hl,hc,hk⟩:=h
    exact⟨h1 _ hb,ht,hv,A,c,(h2 _ hb).trans hh,hl,hc,KidsP.mono h1 h2 A ys 0 hk⟩
theorem KidsP.mono(h1: ∀ k,ok k→ok' k)(h2: ∀ k,ok k→w'.heap[k]? =w.heap[k]?)(A:Option Addr): ∀ (ys:List Y) (i:Nat),KidsP w ok A i ys→KidsP w' ok' A i ys
  |[],_,_=>by simp [KidsP]
  |y::ys,i,h=>by
    simp only [KidsP]at h⊢
    obtain⟨⟨a,b,ha,hok,hc,hx⟩,hr⟩:=h
    exact⟨⟨a,b,ha,h1 _ hok,by rw [uV (w:=w) (w':=w') (a:=a.add i) bQ];exact hc,NodeP.mono h1 h2 y hx⟩,KidsP.mono h1 h2 A ys (i+1) hr⟩
end
theorem PtrsP.mono(h1: ∀ k,ok k→ok' k)(h2: ∀ k,ok k→w'.heap[k]? =w.heap[k]?): ∀ {ys:List Y} {xs:List Value},PtrsP w ok xs ys→PtrsP w' ok' xs ys
  |[],_,h=>h
  |y::ys,_,⟨b,rest,hx,hn,hr⟩=>⟨b,rest,hx,NodeP.mono h1 h2 y hn,PtrsP.mono h1 h2 hr⟩
theorem KidsP.get{A:Option Addr}: ∀ {ys:List Y} {i:Nat},KidsP w ok A i ys→ ∀ {j:Nat} {y:Y},ys[j]? =some y→ ∃a b,A=some a∧ok a.block∧w.cell? (a.add (i+j))=some (.pointer (some ⟨b,0,none⟩))∧NodeP w ok y b
  |[],i,_,j,y,hj=>by simp at hj
  |y'::ys,i,h,0,y,hj=>by
    simp only [KidsP]at h
    simp at hj
    subst hj
    exact h.1
  |y'::ys,i,h,j+1,y,hj=>by
    simp only [KidsP]at h
    have:=KidsP.get h.2 (j:=j) (y:=y) bu
    rwa [show i+1+j=i+(j+1)from by omega]at this
theorem KidsP.of_get{A:Option Addr}: ∀ {ys:List Y} {i:Nat},(∀ j y,ys[j]? =some y→ ∃a b,A=some a∧ok a.block∧w.cell? (a.add (i+j))=some (.pointer (some ⟨b,0,none⟩))∧NodeP w ok y b)→KidsP w ok A i ys
  |[],i,_=>by simp [KidsP]
  |y::ys,i,h=>by
    simp only [KidsP]
    refine⟨h 0 y Z,KidsP.of_get fun j y' hj=>?_⟩
    have:=h (j+1) y' bu
    rwa [show i+(j+1)=i+1+j from by omega]at this
theorem PtrsP.get: ∀ {ys:List Y} {xs:List Value},PtrsP w ok xs ys→ ∀ {j:Nat} {y:Y},ys[j]? =some y→ ∃b,xs[j]? =some (.pointer (some ⟨b,0,none⟩))∧NodeP w ok y b
  |[],_,_,j,y,hj=>by simp at hj
  |y'::ys,_,⟨b,rest,hx,hn,hr⟩,0,y,hj=>by
    simp at hj
    subst hj;subst hx
    exact⟨b,rfl,hn⟩
  |y'::ys,_,⟨b,rest,hx,hn,hr⟩,j+1,y,hj=>by
    subst hx
    obtain⟨b',h1,h2⟩:=PtrsP.get hr (j:=j) (y:=y) bu
    exact⟨b',by simpa using h1,h2⟩
theorem PtrsP.len: ∀ {ys:List Y} {xs:List Value},PtrsP w ok xs ys→xs.length=ys.length
  |[],_,h=>by have h':_=[]:=h;subst h';rfl
  |y::ys,_,⟨b,rest,hx,hn,hr⟩=>by subst hx;simp [PtrsP.len hr]
theorem PtrsP.snoc{y:Y}{b:Nat}(hn:NodeP w ok y b): ∀ {ys:List Y} {xs:List Value},PtrsP w ok xs ys→PtrsP w ok (xs++[.pointer (some ⟨b,0,none⟩)]) (ys++[y])
  |[],_,h=>by have h':_=[]:=h;subst h';exact⟨b,[],rfl,hn,rfl⟩
  |y'::ys,_,⟨b',rest,hx,hn',hr⟩=>by subst hx;exact⟨b',_,rfl,hn',PtrsP.snoc hn hr⟩
theorem tu{A:Option Addr}{n c T:Nat}{xs:List Value}{ys:List Y}(h:(HA.row A n c T 1 xs).holds w)(hok: ∀ b∈(HA.row A n c T 1 xs).foot,ok b)(hx:PtrsP w ok xs ys):KidsV w ok (.slice A n c) ys:=by
 obtain⟨h1,h2,h3⟩:=uK h
 have hn:n=ys.length:=by have:=h.1;rw [hx.len]at this;omega
 subst hn
 refine⟨A,c,rfl,h1,h2,KidsP.of_get fun j y hj=>?_⟩
 obtain⟨b,hb,hnode⟩:=hx.get hj
 obtain⟨a,ha,hf,hc⟩:=h3 j _ hb
 exact⟨a,b,ha,hok _ bz,by rw [Nat.zero_add];exact hc,hnode⟩
end
def DA.node(b:Nat)(y:Y):DA:=⟨fun w ok=>NodeP w ok y b,fun h1 h2 h=>NodeP.mono h1 h2 y h⟩
def DA.kids(v:Value)(ys:List Y):DA:=⟨fun w ok=>KidsV w ok v ys,fun h1 h2 h=>by
 obtain⟨A,c,a1,a2,a3,h⟩:=h
 exact⟨A,c,a1,a2,a3,KidsP.mono h1 h2 A ys 0 h⟩⟩
def DA.ptrs(xs:List Value)(ys:List Y):DA:=⟨fun w ok=>PtrsP w ok xs ys,fun h1 h2 h=>PtrsP.mono h1 h2 h⟩
def DA.dblk(b:Nat)(cs:List Value)(T:TypeId):DA:=⟨fun w ok=>ok b∧w.heap[b]? =some (.cells cs.toArray T (0,0)),fun h1 h2 h=>⟨h1 _ h.1,(h2 _ h.1).trans h.2⟩⟩
def RN(y:Y)(u:Value)(D':List DA):Prop:= ∃b,u= .pointer (some ⟨b,0,none⟩)∧D'=[.node b y]

section rules
variable {P:Program} {n:Nat} {F:List Nat} {c:Ctx F} {ops:Array Oper} {d:Nat} {T:TypeId} {l:List Oper} {k:List KI} {Q:cu} {e:dF} {M:List HA} {D:List DA}
theorem tH(i j:Nat){A:Option Addr}{m cap E:Nat}{xs:List Value}(ys:List Y)(hi:M[i]? =some (.row A m cap E 1 xs))(hj:D[j]? =some (.ptrs xs ys))(hF: ∀ b∈F,b∈cP (M.eraseIdx i))(next:Run P n c k Q e (M.eraseIdx i) (.kids (.slice A m cap) ys::D)):Run P n c k Q e M D:=
 tF i [.kids (.slice A m cap) ys] hF hi (fun w ok h hok hD d hd=>by
  rcases List.mem_singleton.1 hd with rfl
  exact tu h hok (hD _ (List.mem_of_getElem? hj))) next
theorem xJ(i:Nat){b:Nat}{cs:List Value}{U:TypeId}(hi:M[i]? =some (.blk b cs U))(hF: ∀ b∈F,b∈cP (M.eraseIdx i))(next:Run P n c k Q e (M.eraseIdx i) (.dblk b cs U::D)):Run P n c k Q e M D:=
 tF i [.dblk b cs U] hF hi (fun w ok h hok hD d hd=>by
  rcases List.mem_singleton.1 hd with rfl
  exact⟨hok _ br,h⟩) next
theorem uD(i j:Nat){b:Nat}{q:Int}{t v:ByteArray}{A:Option Addr}{m cap:Nat}{ys:List Y}(hi:M[i]? =some (.blk b (dY q t v A m cap) 150))(hj:D[j]? =some (.kids (.slice A m cap) ys))(hF: ∀ b∈F,b∈cP (M.eraseIdx i))(ht:t.size≤maxLen)(hv:v.size≤maxLen)
  (next:Run P n c k Q e (M.eraseIdx i) (.node b (.mk q t v ys)::D)):Run P n c k Q e M D:=
 tF i [.node b (.mk q t v ys)] hF hi (fun w ok h hok hD d hd=>by
  rcases List.mem_singleton.1 hd with rfl
  obtain⟨A',c',he,h1,h2,h3⟩:KidsV w ok (.slice A m cap) ys:=hD _ (List.mem_of_getElem? hj)
  injection he with e1 e2 e3
  subst e1;subst e2;subst e3
  show NodeP w ok _ _
  simp only [NodeP]
  exact⟨hok _ br,ht,hv,A,cap,h,h1,h2,h3⟩) next
theorem pG(next:Run P n c k Q e M (.kids (.slice none 0 0) []::D)):Run P n c k Q e M D:=
 uJ (D':= .kids (.slice none 0 0) []::D) (fun w ok h x hx=>by
  rcases List.mem_cons.1 hx with rfl|hx
  ·exact⟨none,0,rfl,by simp,by simp [maxLen],by simp [KidsP]⟩
  ·exact h _ hx) next
theorem pH(next:Run P n c k Q e M (.ptrs [] []::D)):Run P n c k Q e M D:=
 uJ (D':= .ptrs [] []::D) (fun w ok h x hx=>by
  rcases List.mem_cons.1 hx with rfl|hx
  ·exact rfl
  ·exact h _ hx) next
theorem vQ(i j:Nat){xs:List Value}{ys:List Y}{b:Nat}{y:Y}(hi:D[i]? =some (.ptrs xs ys))(hj:D[j]? =some (.node b y))(next:Run P n c k Q e M (.ptrs (xs++[.pointer (some ⟨b,0,none⟩)]) (ys++[y])::D)):Run P n c k Q e M D:=
 uJ (D':= .ptrs (xs++[.pointer (some ⟨b,0,none⟩)]) (ys++[y])::D) (fun w ok h x hx=>by
  rcases List.mem_cons.1 hx with rfl|hx
  ·exact PtrsP.snoc (h _ (List.mem_of_getElem? hj)) (h _ (List.mem_of_getElem? hi))
  ·exact h _ hx) next
theorem jd(j:Nat){b:Nat}{y:Y}(hj:D[j]? =some (.node b y))
  (next: ∀ A cap,y.tag.size≤maxLen→y.val.size≤maxLen→y.kids.length≤cap→cap≤maxLen→Run P n c k Q e M (.dblk b (dY y.kind y.tag y.val A y.kids.length cap) 150:: .kids (.slice A y.kids.length cap) y.kids::D)):Run P n c k Q e M D:=by
 intro a w hf
 obtain⟨q,t,v,ys⟩:=y
 have h:NodeP w (c.now M w) (.mk q t v ys) b:=hf.toFitsW.dt hj
 simp only [NodeP]at h
 obtain⟨hb,ht,hv,A,cap,hh,hl,hc,hk⟩:=h
 refine next A cap ht hv hl hc a w (hf.world (hf.toFitsW.data fun d hd=>?_))
 rcases List.mem_cons.1 hd with rfl|hd
 ·exact⟨hb,hh⟩
 rcases List.mem_cons.1 hd with rfl|hd
 ·exact⟨A,cap,rfl,hl,hc,hk⟩
 ·exact hf.dat d hd
theorem je(j:Nat){b:Nat}{y:Y}(hj:D[j]? =some (.node b y))
  (next: ∀ A cap,y.tag.size≤maxLen→y.val.size≤maxLen→y.kids.length≤cap→cap≤maxLen→cG P n c ops l k Q e M (.dblk b (dY y.kind y.tag y.val A y.kids.length cap) 150:: .kids (.slice A y.kids.length cap) y.kids::D)):cG P n c ops l k Q e M D:=by
 intro a w hf
 obtain⟨q,t,v,ys⟩:=y
 have h:NodeP w (c.now M w) (.mk q t v ys) b:=hf.toFitsW.dt hj
 simp only [NodeP]at h
 obtain⟨hb,ht,hv,A,cap,hh,hl,hc,hk⟩:=h
 refine next A cap ht hv hl hc a w (hf.world (hf.toFitsW.data fun d hd=>?_))
 rcases List.mem_cons.1 hd with rfl|hd
 ·exact⟨hb,hh⟩
 rcases List.mem_cons.1 hd with rfl|hd
 ·exact⟨A,cap,rfl,hl,hc,hk⟩
 ·exact hf.dat d hd
theorem xT(j:Nat){b:Nat}{q:Int}{t v:ByteArray}{ys:List Y}(hj:D[j]? =some (.node b (.mk q t v ys)))
  (next: ∀ A cap,t.size≤maxLen→v.size≤maxLen→ys.length≤cap→cap≤maxLen→Run P n c k Q e M (.dblk b (dY q t v A ys.length cap) 150:: .kids (.slice A ys.length cap) ys::D)):Run P n c k Q e M D:=jd j hj next
theorem sI(j:Nat){b:Nat}{q:Int}{t v:ByteArray}{ys:List Y}(hj:D[j]? =some (.node b (.mk q t v ys)))
  (next: ∀ A cap,t.size≤maxLen→v.size≤maxLen→ys.length≤cap→cap≤maxLen→cG P n c ops l k Q e M (.dblk b (dY q t v A ys.length cap) 150:: .kids (.slice A ys.length cap) ys::D)):cG P n c ops l k Q e M D:=je j hj next
theorem fG{α β:Type}{f:α→β}{l:List α}{i:Nat}(h:i<l.length):(l.map f)[i]? =some (f l[i]):=by rw [List.getElem?_map,List.getElem?_eq_getElem h];rfl
theorem oe{w:World}(h:FitsW c M D w){j b o:Nat}{cs:List Value}{U:TypeId}{v:Value}(hj:D[j]? =some (.dblk b cs U))(hv:cs[o]? =some v):w.cell? ⟨b,o,none⟩=some v:=by
 have:=(h.dt hj).2
 rw [vL this];exact hv
theorem zJ(j:Nat){x:Operand}{b o:Nat}{cs:List Value}{U:TypeId}{v:Value}(hT:cT P T)(hd:Nat.blt d n=true)(hx:ev e x=some (.pointer (some ⟨b,o,none⟩)))(hj:D[j]? =some (.dblk b cs U))(hv:cs[o]? =some v)
  (next:cG P n c ops l k Q ((d,v)::e) M D) {T':TypeId}:cL P n c ops (some d) (.load T x) T' l k Q e M D:=
 yR hT hd hx (fun _ h=>oe h hj hv) next
theorem tU(j:Nat){x:Operand}{b o:Nat}{cs:List Value}{U:TypeId}{v:Value}(hT:cT P T)(hx:ev e x=some (.pointer (some ⟨b,o,none⟩)))(hj:D[j]? =some (.dblk b cs U))(hv:cs[o]? =some v){T':TypeId}:St P n c (.load T x) T' e M D v:=
 rD hT hx (fun _ h=>oe h hj hv)
theorem wK(j:Nat){x y:Operand}{A:Option Addr}{m cap i:Nat}{kd:IntKind}{S E sz by_:Nat}{ys:List Y}(hS:cS P S E sz by_)(hd:Nat.blt d n=true)(hx:ev e x=some (.slice A m cap))(hy:ev e y=some (.int kd (i:Nat)))(hj:D[j]? =some (.kids (.slice A m cap) ys))(hi:i<m)
  (next:cG P n c ops l k Q ((d, .pointer (some (At A (i*sz))))::e) M D):cL P n c ops (some d) (.indexAddr S x y) T l k Q e M D:=by
 intro a w hf
 obtain⟨A',c',hv,_,_,hit⟩:KidsV w (c.now M w) (.slice A m cap) ys:=hf.toFitsW.dt hj
 injection hv with hA hm
 subst hA
 subst hm
 obtain⟨a',_,ha,_⟩:=hit.get (List.getElem?_eq_getElem hi)
 subst ha
 exact xY (T:=T) hS hd hx hy hi next a w hf
def DA.cell(A:Option Addr)(i:Nat)(v:Value):DA:=⟨fun w ok=> ∃a,A=some a∧ok a.block∧w.cell? (a.add i)=some v,by
 rintro w w' ok ok' h1 h2 ⟨a,rfl,hok,h⟩
 exact⟨a,rfl,h1 _ hok,by rw [uV (w:=w) (w':=w') (a:=a.add i) bQ];exact h⟩⟩
theorem Jy{w:World}{ok:Nat→Prop}{A:Option Addr}{m cap i:Nat}{ys:List Y}{y:Y}(hj:DA.kids (.slice A m cap) ys∈D)(hi:ys[i]? =some y)(h: ∀ d∈D,d.p w ok): ∃b,(DA.cell A i (.pointer (some ⟨b,0,none⟩))).p w ok∧(DA.node b y).p w ok:=by
 obtain⟨A',c',hv,_,_,hit⟩:KidsV w ok (.slice A m cap) ys:=h _ hj
 injection hv with hA hm
 subst hA
 obtain⟨a,b,ha,hok,hc,hn⟩:=hit.get hi
 rw [Nat.zero_add]at hc
 exact⟨b,⟨a,ha,hok,hc⟩,hn⟩
theorem uQ(j i:Nat){A:Option Addr}{m cap:Nat}{ys:List Y}{y:Y}(hj:D[j]? =some (.kids (.slice A m cap) ys))(hi:ys[i]? =some y)(next: ∀ b,cG P n c ops l k Q e M (.cell A i (.pointer (some ⟨b,0,none⟩)):: .node b y::D)):cG P n c ops l k Q e M D:=by
 intro a w hf
 obtain⟨b,h1,h2⟩:=Jy (List.mem_of_getElem? hj) hi hf.dat
 refine next b a w (hf.world (hf.toFitsW.data fun d hd=>?_))
 rcases List.mem_cons.1 hd with rfl|hd
 ·exact h1
 rcases List.mem_cons.1 hd with rfl|hd
 ·exact h2
 ·exact hf.dat d hd
theorem wX{w:World}(h:FitsW c M D w){j i:Nat}{A:Option Addr}{v:Value}(hj:D[j]? =some (.cell A i v)):w.cell? (At A (i*1))=some v:=by
 obtain⟨a,rfl,_,hc⟩:=h.dt hj
 rw [Nat.mul_one];exact hc
theorem vA{x y:Operand}{v u:Value}{S E by_:Nat}(hS:cS P S E 1 by_)(hd:Nat.blt d n=true)(hx:ev e x=some v)(hy:ev e y=some u)(hv:v.cells= #[v])(hu:u.cells= #[u])
    (next: ∀ b,cG P n c ops l k Q ((d, .slice (some ⟨b,0,none⟩) 2 2)::e) (.blk b [v,u] E::M) D):cL P n c ops (some d) (.buildSlice S 2 #[(0,x),(1,y)]) T l k Q e M D:=by
  obtain⟨ti,z,hu',hinf,hs1,hb1,hz,hzs,hsz0⟩:=hS
  intro a w hf
  have hfill: ∀ zs:Array Value,zs.size=2→Instr.fill (fun i=>some (i*1,1)) zs [(0,v),(1,u)]=some #[v,u]:=by
    intro zs hz
    obtain⟨zl⟩:=zs
    match zl,hz with
    |[p,q],_=>simp [Instr.fill,hv,hu]
  have hrun:(execOp a.eval (dH (some d) (.buildSlice S 2 #[(0,x),(1,y)]) T)).run P w= .ok (.value (.slice (some ⟨w.heap.size,0,none⟩) 2 2)) (w.alloc (.cells #[v,u] E (0,0))):=by
    have hb:(Instr.buildSlice S 2 #[(0,a.eval x),(1,a.eval y)]).run P w= .ok (.slice (some ⟨w.heap.size,0,none⟩) 2 2) (w.alloc (.cells #[v,u] E (0,0))):=by
      unfold Instr.buildSlice
      simp only [Sem.run_bind,run_underlying hu',Result.andThen_ok,xK hinf,hs1]
      rw [if_neg aE,if_neg aE]
      have hfl:=hfill ((Array.range (2*1)).map (z.cells[· %z.cells.size]!)) aJ
      simp only [Sem.run_bind,run_zeroValue' hinf hz,Result.andThen_ok,hf.ev hx,hf.ev hy,Sem.run_pure]
      rw [hfl]
      simp [newRow,newObj,Sem.run]
    simp only [execOp,dH,List.map_toArray,List.map_cons,List.map_nil,Sem.run_bind,hb,Result.andThen_ok,Sem.run_pure]
  unfold Oper.wp
  rw [hrun]
  have hx2:(HA.blk w.heap.size [v,u] E).holds (w.alloc (.cells #[v,u] E (0,0))):=by
    show(w.heap.push _)[w.heap.size]? =_
    simp
  exact next w.heap.size _ _ ((hf.world (hf.toFitsW.new _ hx2 Z)).put hd _)
theorem rF{x:Operand}{m s:Int}{S:TypeId}(hd:Nat.blt d n=true)(hx:ev e x=some (.int .i64 m))(hs: -m=s)(h1: -9223372036854775808≤s)(h2:s≤9223372036854775807)(next:cG P n c ops l k Q ((d, .int .i64 s)::e) M D):
  cL P n c ops (some d) (.unOp .neg S x) T l k Q e M D:=
 xR hd (fun a w hf=>by
  have:(0:Int) - m=s:=by omega
  simp [execOp,dH,hf.ev hx,Op.unary,Op.intArith,hs,vU h1 h2]) next
theorem zz{x y:Operand}{S S':TypeId}{m m' s:Int}(hx:ev e x=some (.int .i64 m))(hy:ev e y=some (.int .i64 m'))(h0:m'≠0)(hs:m.tdiv m'=s)(h1: -9223372036854775808≤s)(h2:s≤9223372036854775807):St P n c (.binOp .quo S x y S') T e M D (.int .i64 s):=by
 have:=Jf (P:=P) (n:=n) (c:=c) (M:=M) (D:=D) (T:=T) (S:=S) (S':=S') hx hy h0
 rwa [hs,vU h1 h2]at this
theorem z0{x y:Operand}{S S':TypeId}{m m' s:Int}(hx:ev e x=some (.int .i64 m))(hy:ev e y=some (.int .i64 m'))(h0:m'≠0)(hs:m.tmod m'=s):St P n c (.binOp .rem S x y S') T e M D (.int .i64 s):=by
 subst hs
 exact Je hx hy h0
theorem tI{x y p q:Operand}{v u r s:Value}{S E by_:Nat}(hS:cS P S E 1 by_)(hd:Nat.blt d n=true)(hx:ev e x=some v)(hy:ev e y=some u)(hp:ev e p=some r)(hq:ev e q=some s)(hv:v.cells= #[v])(hu:u.cells= #[u])(hr:r.cells= #[r])(hs:s.cells= #[s])
    (next: ∀ b,cG P n c ops l k Q ((d, .slice (some ⟨b,0,none⟩) 4 4)::e) (.blk b [v,u,r,s] E::M) D):cL P n c ops (some d) (.buildSlice S 4 #[(0,x),(1,y),(2,p),(3,q)]) T l k Q e M D:=by
  obtain⟨ti,z,hu',hinf,hs1,hb1,hz,hzs,hsz0⟩:=hS
  intro a w hf
  have hfill: ∀ zs:Array Value,zs.size=4→Instr.fill (fun i=>some (i*1,1)) zs [(0,v),(1,u),(2,r),(3,s)]=some #[v,u,r,s]:=by
    intro zs hz
    obtain⟨zl⟩:=zs
    match zl,hz with
    |[p,q,p',q'],_=>simp [Instr.fill,hv,hu,hr,hs]
  have hrun:(execOp a.eval (dH (some d) (.buildSlice S 4 #[(0,x),(1,y),(2,p),(3,q)]) T)).run P w= .ok (.value (.slice (some ⟨w.heap.size,0,none⟩) 4 4)) (w.alloc (.cells #[v,u,r,s] E (0,0))):=by
    have hb:(Instr.buildSlice S 4 #[(0,a.eval x),(1,a.eval y),(2,a.eval p),(3,a.eval q)]).run P w= .ok (.slice (some ⟨w.heap.size,0,none⟩) 4 4) (w.alloc (.cells #[v,u,r,s] E (0,0))):=by
      unfold Instr.buildSlice
      simp only [Sem.run_bind,run_underlying hu',Result.andThen_ok,xK hinf,hs1]
      rw [if_neg aE,if_neg aE]
      have hfl:=hfill ((Array.range (4*1)).map (z.cells[· %z.cells.size]!)) aJ
      simp only [Sem.run_bind,run_zeroValue' hinf hz,Result.andThen_ok,hf.ev hx,hf.ev hy,hf.ev hp,hf.ev hq,Sem.run_pure]
      rw [hfl]
      simp [newRow,newObj,Sem.run]
    simp only [execOp,dH,List.map_toArray,List.map_cons,List.map_nil,Sem.run_bind,hb,Result.andThen_ok,Sem.run_pure]
  unfold Oper.wp
  rw [hrun]
  have hx2:(HA.blk w.heap.size [v,u,r,s] E).holds (w.alloc (.cells #[v,u,r,s] E (0,0))):=by
    show(w.heap.push _)[w.heap.size]? =_
    simp
  exact next w.heap.size _ _ ((hf.world (hf.toFitsW.new _ hx2 Z)).put hd _)
theorem mP(i j:Nat){x y:Operand}{A:Option Addr}{m cap q:Nat}{S E sz by_:Nat}{xs vs:List Value}{b:Nat}{U:TypeId}(hS:cS P S E sz by_)(hd:Nat.blt d n=true)(hx:ev e x=some (.slice A m cap))(hy:ev e y=some (.slice (some ⟨b,0,none⟩) q q))(hi:M[i]? =some (.row A m cap E sz xs))
  (hj:M[j]? =some (.blk b vs U)) (hl:vs.length=q*sz) (h1:vs.all (·.oneCell')=true) (hsz:m+q≤maxLen) (hby:(m+q)*by_≤140737488355328)
  (next: ∀ A' cap',cG P n c ops l k Q ((d, .slice A' (m+q) cap')::e) (M.set i (.row A' (m+q) cap' E sz (xs++vs))) D):
  cL P n c ops (some d) (.call {callee:= .builtin .append,args:= #[x,y],argTypes:= #[S,S]}) T l k Q e M D:=
 kA i hS hd hx hy hi hl (fun w h=> .inr ⟨_,rfl,fun q u hq=>by rw [wB];exact eu h hj (by rw [Nat.zero_add];exact hq)⟩) (fun u hu=>List.all_eq_true.1 h1 u hu) hsz hby next
end rules
end Go.Jw

namespace Go.Proofs
open Go.Shelf
def Tryz.lays121_ren:Go.Shelf.Ren:=⟨fun|121=>147|214=>182|n=>n,fun|4=>4|9=>9|n=>n,fun|n=>n⟩
theorem Tryz.lays121:Go.Proofs.Lays.n121 Tryz.prog Tryz.lays121_ren:=by repeat' (first|kernel_rfl|(intros;kernel_rfl)|constructor)
open Go.RowKit in
theorem Tryz.strconv_FormatBool(b:Bool)(w:World):
  Calls Tryz.prog 147 #[.bool b] w fun e w'=>e= .returned (.string ⟨(Lib.formatBool b).toArray⟩)∧w'=w:=Any.strconv_FormatBool Tryz.lays121 b w
def Tryz.lays175_ren:Go.Shelf.Ren:=⟨fun|175=>181|248=>218|245=>216|279=>237|280=>238|281=>239|282=>240|316=>254|171=>255|205=>169|243=>278|246=>183|283=>219|284=>220|285=>221|286=>222|129=>206|317=>242|318=>243|319=>244|320=>245|337=>258|338=>259|n=>n,fun|9=>9|4=>4|75=>77|87=>219|3=>3|167=>262|168=>263|210=>294|37=>142|0=>0|127=>322|145=>228|143=>226|2=>2|171=>246|53=>235|5=>5|173=>248|212=>270|51=>145|20=>20|213=>271|46=>206|232=>323|233=>324|80=>65|n=>n,fun|15=>1|16=>2|17=>0|18=>6|19=>7|n=>n⟩
theorem Tryz.lays175:Go.Proofs.Lays.n175 Tryz.prog Tryz.lays175_ren:=by repeat' (first|kernel_rfl|(intros;kernel_rfl)|constructor)
theorem Tryz.strconv_ParseBool(s:ByteArray)(b:Bool)(h:Lib.parseBool s.data.toList=some b)(w:World):
  Calls Tryz.prog 181 #[.string s] w fun e w'=>e= .returned (.tuple #[.bool b, .nilIface])∧w'=w:=Any.strconv_ParseBool Tryz.lays175 s b h w
def Tryz.lays129_ren:Go.Shelf.Ren:=⟨fun|129=>206|n=>n,fun|53=>235|3=>3|4=>4|46=>206|5=>5|9=>9|n=>n,fun|n=>n⟩
theorem Tryz.lays129:Go.Proofs.Lays.n129 Tryz.prog Tryz.lays129_ren:=by repeat' (first|kernel_rfl|(intros;kernel_rfl)|constructor)
theorem Tryz.bits_Len64(x:Int)(w:World)(h0:0≤x)(h1:x≤18446744073709551615):
  Calls Tryz.prog 206 #[.int .u64 x] w fun e w'=>e= .returned (.int .i64 (Lib.bitLen x.toNat))∧w'=w:=Any.bits_Len64 Tryz.lays129 x w h0 h1
def Tryz.laysM284_ren:Go.Shelf.Ren:=⟨fun|284=>220|129=>206|317=>242|318=>243|n=>n,fun|53=>235|3=>3|212=>270|0=>0|4=>4|46=>206|5=>5|9=>9|n=>n,fun|17=>0|n=>n⟩
theorem Tryz.laysM284:Go.Proofs.LaysM.n284 Tryz.prog Tryz.laysM284_ren:=by repeat' (first|kernel_rfl|(intros;kernel_rfl)|constructor)
open Go.Lib in
theorem Tryz.internal_strconv_numDigits(u:Nat)(h1:1≤u)(h2:u<18446744073709551616)(w:World)(htab:Lib.TabIs Tryz.prog w "internal/strconv.uint64pow10" .u64 Lib.pow10Tab):
  Calls Tryz.prog 220 #[.int .u64 u] w fun e w'=>e= .returned (.int .i64 (Lib.nDigits u))∧w'=w:=Any.internal_strconv_numDigits Tryz.laysM284 u h1 h2 w htab
def Tryz.lays285_ren:Go.Shelf.Ren:=⟨fun|285=>221|n=>n,fun|37=>142|53=>235|3=>3|4=>4|51=>145|9=>9|5=>5|0=>0|n=>n,fun|n=>n⟩
theorem Tryz.lays285:Go.Proofs.Lays.n285 Tryz.prog Tryz.lays285_ren:=by repeat' (first|kernel_rfl|(intros;kernel_rfl)|constructor)
open Go.RowKit Go.Sort Go.Lib in
theorem Tryz.internal_strconv_formatBase10(blk off cap:Nat)(u:Nat)(d:Array UInt8)(w:World)(hH:Holds (fun(b:UInt8)=>Value.int .u8 (b.toNat:Int)) w blk off d)(hu:u<10^d.size)(hu64:u<18446744073709551616)(hsz:d.size<4611686018427387904):
  Calls Tryz.prog 221 #[.slice (some ⟨blk,off,none⟩) d.size cap, .int .u64 u] w fun e w'=>
   e= .returned (.tuple #[])∧ ∃(n v':Nat) (dk:Array UInt8),w'=(putRow (fun(b:UInt8)=>Value.int .u8 (b.toNat:Int)) w blk off dk).drewN n∧FmtInv d.size u 0 v' dk:=Any.internal_strconv_formatBase10 Tryz.lays285 blk off cap u d w hH hu hu64 hsz
def Tryz.laysM173_ren:Go.Shelf.Ren:=⟨fun|173=>148|246=>183|283=>219|284=>220|285=>221|286=>222|129=>206|317=>242|318=>243|319=>244|320=>245|337=>258|338=>259|n=>n,fun|2=>2|3=>3|9=>9|4=>4|171=>246|0=>0|53=>235|37=>142|5=>5|173=>248|212=>270|51=>145|20=>20|213=>271|46=>206|232=>323|233=>324|n=>n,fun|17=>0|18=>6|19=>7|n=>n⟩
theorem Tryz.laysM173:Go.Proofs.LaysM.n173 Tryz.prog Tryz.laysM173_ren:=by repeat' (first|kernel_rfl|(intros;kernel_rfl)|constructor)
open Go.RowKit Go.Sort Go.Lib in
theorem Tryz.strconv_FormatInt_10(n:Int)(h0: -9223372036854775808≤n)(h1:n≤9223372036854775807)(w:World)(htab:Lib.TabIs Tryz.prog w "internal/strconv.uint64pow10" .u64 Lib.pow10Tab):
  Calls Tryz.prog 148 #[.int .i64 n, .int .i64 10] w fun e w'=>e= .returned (.string ⟨(Lib.itoa n).toArray⟩)∧ ∃k os,w'=grow (w.drewN k) os:=Any.strconv_FormatInt_10 Tryz.laysM173 n h0 h1 w htab
def Tryz.laysC174_ren:Go.Shelf.Ren:=⟨fun|174=>180|247=>217|245=>216|287=>241|279=>237|280=>238|281=>239|282=>240|321=>256|322=>257|316=>254|171=>255|205=>169|243=>278|246=>183|283=>219|284=>220|285=>221|286=>222|129=>206|317=>242|318=>243|319=>244|320=>245|337=>258|338=>259|n=>n,fun|9=>9|3=>3|2=>2|75=>77|85=>217|4=>4|167=>262|5=>5|53=>235|175=>266|46=>206|168=>263|37=>142|0=>0|210=>294|21=>21|127=>322|145=>228|143=>226|171=>246|173=>248|212=>270|51=>145|20=>20|213=>271|232=>323|233=>324|80=>65|n=>n,fun|15=>1|16=>2|17=>0|18=>6|19=>7|n=>n⟩
theorem Tryz.laysC174:Go.Proofs.LaysC.n174 Tryz.prog Tryz.laysC174_ren:=by repeat' (first|kernel_rfl|(intros;kernel_rfl)|constructor)
open Go.RowKit in
theorem Tryz.strconv_ParseInt_10_at64_ok(s:ByteArray)(hmax:s.size≤9223372036854775806)(v:Int)(h:Lib.parseIntB 64 s.data.toList= .ok v)(w:World):
  Calls Tryz.prog 180 #[.string s, .int .i64 10, .int .i64 64] w fun e w'=>e= .returned (.tuple #[.int .i64 v, .nilIface])∧(w'=w∨ ∃t,w'=Lib.bytesWorld w 5 t):=Any.strconv_ParseInt_10_at64_ok Tryz.laysC174 s hmax v h w
def Tryz.laysGg6_ren:Go.Shelf.Ren:=⟨fun|6=>130|10=>173|11=>174|12=>175|13=>176|14=>177|24=>205|25=>206|26=>207|27=>208|28=>209|29=>210|30=>211|31=>212|32=>213|33=>214|34=>231|35=>232|36=>233|37=>234|38=>235|39=>251|n=>n,fun|20=>20|26=>141|35=>200|0=>0|37=>202|3=>3|41=>206|44=>209|49=>145|51=>235|4=>4|54=>238|53=>237|58=>242|5=>5|9=>9|60=>254|64=>258|66=>285|67=>286|17=>17|32=>197|33=>198|82=>379|12=>12|75=>373|76=>374|77=>375|78=>322|79=>376|80=>377|n=>n,fun|n=>n⟩
theorem Tryz.laysGg6:Go.Proofs.LaysGg.n6 Tryz.prog Tryz.laysGg6_ren:=by repeat' (first|kernel_rfl|(intros;kernel_rfl)|constructor)
def Tryz.lays102_ren:Go.Shelf.Ren:=⟨fun|102=>152|209=>184|207=>223|n=>n,fun|9=>9|4=>4|3=>3|n=>n,fun|n=>n⟩
theorem Tryz.lays102:Go.Proofs.Lays.n102 Tryz.prog Tryz.lays102_ren:=by repeat' (first|kernel_rfl|(intros;kernel_rfl)|constructor)
open Go.RowKit Go.Lib in
theorem Tryz.strings_TrimSuffix(s p:ByteArray)(w:World)(hs:s.size≤9223372036854775807):
  Calls Tryz.prog 152 #[.string s, .string p] w fun e w'=>e= .returned (.string ⟨(Lib.trimSuffix s.data.toList p.data.toList).toArray⟩)∧w'=w:=Any.strings_TrimSuffix Tryz.lays102 s p w hs
def Tryz.lays264_ren:Go.Shelf.Ren:=⟨fun|264=>318|n=>n,fun|53=>235|46=>206|n=>n,fun|n=>n⟩
theorem Tryz.lays264:Go.Proofs.Lays.n264 Tryz.prog Tryz.lays264_ren:=by repeat' (first|kernel_rfl|(intros;kernel_rfl)|constructor)
open Go.RowKit Go.Lib in
theorem Tryz.bits_Mul64(x y:Nat)(hx:x<18446744073709551616)(hy:y<18446744073709551616)(w:World):
  Calls Tryz.prog 318 #[.int .u64 x, .int .u64 y] w fun e w'=>e= .returned (.tuple #[.int .u64 ((x*y/18446744073709551616:Nat):Int), .int .u64 ((x*y%18446744073709551616:Nat):Int)])∧w'=w:=Any.bits_Mul64 Tryz.lays264 x y hx hy w
end Go.Proofs

namespace Go.Jw
open Go Go.RowKit Go.Proofs Go.Sort
theorem DW(w:World)(k:Nat)(os:Array Obj):Chg [] w (grow (w.drewN k) os):=
  ⟨rfl,rfl,rfl,by simp [grow],fun j hj _=>by
    show((w.drewN k).heap++os)[j]? =w.heap[j]?
    exact Array.getElem?_append_left hj⟩
theorem gB{P:Program}{f:FuncId}{args:Array Value}{D:List DA}{v:Value}(hf:zn P f)(h: ∀ (w:World) (ok:Nat→Prop),(∀ d∈D,d.p w ok)→Calls P f args w fun e w'=>e= .returned v∧Chg [] w w'):di P f args D v:=by
 refine⟨hf,fun w ok hok hM hn hD=>Calls.mono (h w ok hD) ?_⟩
 rintro e w' ⟨rfl,hc⟩
 exact⟨v,[],[],rfl,⟨rfl,rfl,rfl⟩,hc,by simp,by simp [cP],by simp [cP],by simp⟩
def DA.tab:DA:=⟨fun w ok=> ∃g T fz,Tryz.prog.globalNamed "internal/strconv.uint64pow10" =some g∧ok g∧w.heap[g]? =some (.cells (Lib.pow10Tab.map fun z=>Value.int .u64 z).toArray T fz),by
 rintro w w' ok ok' h1 h2 ⟨g,T,fz,hg,hok,h⟩
 exact⟨g,T,fz,hg,h1 _ hok,(h2 _ hok).trans h⟩⟩
theorem DX{w:World}{ok:Nat→Prop}(h:DA.tab.p w ok):Lib.TabIs Tryz.prog w "internal/strconv.uint64pow10" .u64 Lib.pow10Tab:=by
 obtain⟨g,T,fz,hg,_,hh⟩:=h
 show World.var? Tryz.prog w "internal/strconv.uint64pow10" =_
 unfold World.var?
 rw [hg]
 simp [hh]
theorem Jz:zn Tryz.prog 148:=⟨_,Tryz.func148,by kernel_rfl,rfl⟩
theorem J0:zn Tryz.prog 147:=⟨_,Tryz.func147,by kernel_rfl,rfl⟩
theorem BS(n:Int)(h0: -9223372036854775808≤n)(h1:n≤9223372036854775807):di Tryz.prog 148 #[.int .i64 n, .int .i64 10] [.tab] (.string ⟨(Lib.itoa n).toArray⟩):=
 gB Jz fun w ok h=>(Tryz.strconv_FormatInt_10 n h0 h1 w (DX (h _ List.mem_cons_self))).mono (by
  rintro e w' ⟨rfl,k,os,rfl⟩
  exact⟨rfl,DW w k os⟩)
theorem Mi(b:Bool):di Tryz.prog 147 #[.bool b] [] (.string ⟨(Lib.formatBool b).toArray⟩):=
 gB J0 fun w ok h=>(Tryz.strconv_FormatBool b w).mono (by
  rintro e w' ⟨rfl,rfl⟩
  exact⟨rfl,Chg.refl _ _⟩)
end Go.Jw

namespace Go.Jw
open Go Go.RowKit Go.Proofs
set_option maxRecDepth 8000
open Go.Proofs
instance:Inhabited Y:=⟨.mk 0 ⟨#[]⟩ ⟨#[]⟩ []⟩
def cU(tag v:ByteArray):Y:= .mk 8 tag v []
abbrev eE:ByteArray:=⟨#[33,33,98,111,111,108]⟩
abbrev iS:ByteArray:=⟨#[33,33,105,110,116]⟩
abbrev dz:ByteArray:=⟨#[33,33,102,108,111,97,116]⟩
abbrev dT:ByteArray:=⟨#[33,33,115,116,114]⟩
abbrev mQ:ByteArray:=⟨#[33,33,110,117,108,108]⟩
abbrev fh:ByteArray:=⟨#[33,33,115,101,113]⟩
abbrev kE:ByteArray:=⟨#[33,33,109,97,112]⟩
abbrev mR:ByteArray:=⟨#[110,117,108,108]⟩
def frac:Nat→ByteArray
  |0=>⟨#[46,48]⟩
  |1=>⟨#[46,50,53]⟩
  |2=>⟨#[46,53]⟩
  |_=>⟨#[46,55,53]⟩
abbrev dm(n:Int):ByteArray:=⟨(Lib.itoa n).toArray⟩
def mS(neg:Bool)(N:Nat):ByteArray:=(if neg then⟨#[45]⟩else⟨#[]⟩)++dm ((N/4:Nat):Int)++frac (N%4)
def quartV(n:Int):ByteArray:=mS (decide (n<0)) n.natAbs
theorem BT{n:Int}{N:Nat}(h:n<0)(hN: -n=N):⟨#[45]⟩++dm ((N/4:Nat):Int)++frac (N%4)=quartV n:=by
 have:n.natAbs=N:=by omega
 simp only [quartV,mS,this,h,decide_true,if_true]
theorem BU(N:Nat):⟨#[]⟩++dm ((N/4:Nat):Int)++frac (N%4)=quartV (N:Int):=by
 have: ¬ ((N:Int)<0):=by omega
 simp [quartV,mS,this]
theorem lj(N:Nat):([.string ⟨#[46,48]⟩, .string ⟨#[46,50,53]⟩, .string ⟨#[46,53]⟩, .string ⟨#[46,55,53]⟩]:List Value)[0+N%4*1]? =some (.string (frac (N%4))):=by
  have h:N%4<4:=Nat.mod_lt _ aE
  generalize N%4=r at h
  match r,h with
  |0,_=>rfl
  |1,_=>rfl
  |2,_=>rfl
  |3,_=>rfl
theorem pI(N:Nat):(frac (N%4)).size≤3:=by
 unfold frac
 split<;>decide
theorem vR(n:Int)(h0: -9223372036854775808≤n)(h1:n≤9223372036854775807):(dm n).size≤21:=Lib.itoa_length_le n h0 h1
theorem gC{a b:ByteArray}{p q:Nat}(h1:a.size≤p)(h2:b.size≤q)(h:p+q≤9223372036854775807):a.size+b.size≤9223372036854775807:=by omega
theorem qv{a b:ByteArray}{p q:Nat}(h1:a.size≤p)(h2:b.size≤q):(a++b).size≤p+q:=by rw [ByteArray.size_append];omega
theorem xj{n:Int}(h0: -1000000000<n)(h1:n<1000000000):(quartV n).size≤30:=by
 unfold quartV mS
 have h2:=vR ((n.natAbs/4:Nat):Int) aC aC
 have h3:=pI n.natAbs
 rw [ByteArray.size_append,ByteArray.size_append]
 have h4:(if decide (n<0)=true then(⟨#[45]⟩:ByteArray)else⟨#[]⟩).size≤1:=by split<;>decide
 omega
theorem qx{n m:Nat}(h:n≤m)(hm:m≤1000000):n≤maxLen:=by unfold maxLen;omega
inductive NumOk:V→Prop where
  |mk {q m:Int} {s:ByteArray} {ks:List ByteArray} {ts:List V}:(q=2∨q=6→ -1000000000<m∧m<1000000000)→(∀ x∈ts,NumOk x)→NumOk (.mk q m s ks ts)
theorem NumOk.num{t:V}(h:NumOk t)(hq:t.kind=2∨t.kind=6): -1000000000<t.num∧t.num<1000000000:=by cases h;rename_i h _;exact h hq
theorem NumOk.item{t:V}(h:NumOk t): ∀ x∈t.items,NumOk x:=by cases h;assumption
theorem IsPlain.num: ∀ {d:Nat} {t:V},IsPlain d t→NumOk t
  |0, .mk q m s ks ts,h=>by
    obtain⟨h1,h2,h3⟩:=h
    simp only [V.keys,V.items,V.kind,V.num]at h1 h2 h3
    subst h2
    exact .mk (fun _=>by omega) aJ
  |d+1, .mk q m s ks ts,h=>by
    rcases h with ⟨h1,h2,h3⟩|⟨⟨_,_,h1⟩,h2,h3⟩
    · simp only [V.keys,V.items,V.kind,V.num]at h1 h2 h3
      subst h2
      exact .mk (fun _=>by omega) aJ
    · simp only [V.kind]at h1
      exact .mk (fun _=>by omega) (fun x hx=>IsPlain.num (h3 x hx))
def eH(p:ByteArray×Y):List Y:=[cU dT p.1,p.2]
def mT(back:Bool)(l:List (ByteArray×Y)):List (ByteArray×Y):=if back then l.reverse else l
noncomputable def cv(back:Bool):V→Y:=V.fix (α:=Y) (fun t f=>if t.kind=1 then cU eE ⟨(Lib.formatBool (decide (t.num=1))).toArray⟩else if t.kind=2 then cU iS (dm t.num)else if t.kind=6 then cU dz (quartV t.num)else if t.kind=3 then cU dT t.text
  else if t.kind=4 then .mk 2 fh ⟨#[]⟩ (t.items.map f)else if t.kind=5 then .mk 4 kE ⟨#[]⟩ ((mT back (t.keys.zip (t.items.map f))).flatMap eH)else cU mQ mR)
theorem vW(back:Bool)(t:V):cv back t=if t.kind=1 then cU eE ⟨(Lib.formatBool (decide (t.num=1))).toArray⟩else if t.kind=2 then cU iS (dm t.num)else if t.kind=6 then cU dz (quartV t.num)else if t.kind=3 then cU dT t.text
  else if t.kind=4 then .mk 2 fh ⟨#[]⟩ (t.items.map (cv back))else if t.kind=5 then .mk 4 kE ⟨#[]⟩ ((mT back (t.keys.zip (t.items.map (cv back)))).flatMap eH)else cU mQ mR:=
 V.fix_eq (G:=fun t f=>if t.kind=1 then cU eE ⟨(Lib.formatBool (decide (t.num=1))).toArray⟩else if t.kind=2 then cU iS (dm t.num)else if t.kind=6 then cU dz (quartV t.num)else if t.kind=3 then cU dT t.text
  else if t.kind=4 then .mk 2 fh ⟨#[]⟩ (t.items.map f)else if t.kind=5 then .mk 4 kE ⟨#[]⟩ ((mT back (t.keys.zip (t.items.map f))).flatMap eH)else cU mQ mR) (fun t g g' h=>by
  have:t.items.map g=t.items.map g':=List.map_congr_left fun x hx=>h x (yU hx)
  simp only [this]) t
noncomputable def ga(back:Bool)(t:V)(i:Nat):List Y:=((mT back (t.keys.zip (t.items.map (cv back)))).take i).flatMap eH
theorem mU{back:Bool}{t:V}{i K:Nat}(h1:K<t.keys.length)(h2:K<t.items.length)(he:t.keys.length=t.items.length)(hK:(back=true∧K=t.keys.length - 1 - i∧i<t.keys.length)∨(back=false∧K=i)):
    ga back t i++[cU dT t.keys[K]]++[cv back t.items[K]]=ga back t (i+1):=by
  have hl:(mT back (t.keys.zip (t.items.map (cv back))))[i]? =some (t.keys[K],cv back t.items[K]):=by
    rcases hK with ⟨rfl,hK,hi⟩|⟨rfl,rfl⟩
    · simp only [mT,if_true]
      rw [List.getElem?_reverse cD]
      have:(t.keys.zip (t.items.map (cv true))).length - 1 - i=K:=by simp;omega
      rw [this,List.getElem?_eq_getElem cD]
      simp
    · rw [show mT false (t.keys.zip (t.items.map (cv false)))=t.keys.zip (t.items.map (cv false))from rfl,List.getElem?_eq_getElem cD]
      simp
  unfold ga
  rw [List.take_add_one,hl,List.flatMap_append]
  simp [eH]
theorem BV{back:Bool}{t:V}{i:Nat}(h:t.keys.length≤i):ga back t i=(mT back (t.keys.zip (t.items.map (cv back)))).flatMap eH:=by
 unfold ga
 rw [List.take_of_length_le]
 unfold mT
 split<;>simp<;>omega

theorem xl(tag s:ByteArray)(ht:tag.size≤maxLen)(hs:s.size≤maxLen):CtR Tryz.prog 146 #[.string tag, .string s] [] (RN (cU tag s)):=by
 refine Ct.of_run (args:=[.string tag, .string s]) Tryz.func146 aF Z Tryz.ntmps146 Z (fun c=>?_)
 refine rO 12 Z (yV Z Z (rI ..) ?_)
 refine zA (yK Z Z Z (fun b8=>?_))
 refine oR 3 Z (pG ?_)
 exact uD 0 0 Z Z aG ht hs (zD Tryz.results146 Z ⟨rfl,b8,rfl,rfl⟩ nS (cO 0 Z))
theorem PN(n:Int)(h0: -1000000000<n)(h1:n<1000000000):di Tryz.prog 149 #[.int .i64 n] [.tab] (.string (quartV n)):=by
 refine Ct.of_run (args:=[.int .i64 n]) Tryz.func149 aF Z Tryz.ntmps149 Z (fun c=>?_)
 obtain⟨r,hr⟩: ∃r,r=quartV n:=⟨_,rfl⟩
 rw [←hr]
 refine rO 16 Z (wI Z Z Z ?_)
 refine yO (zI Z (fun h5=>?_) (fun h5=>?_))
 ·obtain⟨N,hN⟩: ∃N:Nat, -n=N:=⟨n.natAbs,aC⟩
  refine rO 4 Z (rF Z Z hN aC aC ?_)
  refine oK 6 [0,3] Z Z (uT (fun(s9:ByteArray)=>s9=r) (fun(s9:ByteArray)=>[(2, .string s9)]) ?_ ?_)
  ·intro K hK
   refine yW yM (zO ?_)
   refine tP 0 Z cF (zP Z) (tP 1 Z cF (zP Z) ?_)
   refine tP 6 Z cF (zP Z) (yF ?_)
   refine tM 2 Z cF (zz (s:=((N/4:Nat):Int)) Z Z aE Z aC aC) (tM 7 Z cF (z0 (s:=((N%4:Nat):Int)) Z Z aE Z) ?_)
   refine tN (rs:=[3,5]) aD aJ ?_
   intro j hj
   simp only [List.mem_cons,List.not_mem_nil,or_false]at hj
   rcases hj with rfl|rfl
   ·refine zT (I2:=[[7],[6,0],[]]) Z cF aD (fun Kd hKd=>?_)
    refine zL Z Z Z (BS _ aC aC) (cO 0 Z) (hKd _ _ _ (hC (hC (zE (zU)))) ?_)
    refine yF (tM 4 Z cF (qP Z Z (gC (p:=1) (q:=21) aE (vR _ aC aC) aE)) ?_)
    refine zS 5 aD ?_
    refine zT (I2:=[[4],[7],[6,0],[]]) Z cF aD (fun Kd hKd=>?_)
    refine tI cV Z Z Z Z Z Z Z Z Z (fun b13=>?_)
    refine hKd _ _ _ (hC (hC (hC (zE (zU))))) (yF ?_)
    refine tM 8 Z cF (uP cV Z Z (Nat.mod_lt _ aE)) (tM 9 Z cF (rD dO Z (v:= .string (frac (N%4))) (fun _ h=>by rw [wB];exact eu h (i:=0) Z (lj N))) ?_)
    refine tM 10 Z cF (qP Z Z (gC (p:=1+21) (q:=3) (qv aE (vR _ aC aC)) (pI _) aE)) (zO ?_)
    refine tP 11 Z cF (yP Z) (yJ aD ?_)
    refine rK 0 [2,0,3] Z Z ?_
    exact kQ (hK _ ap) (eC Z (eC Z (eC Z (eN _))))
   refine zT (I2:=[[7,2],[6,1,0],[]]) Z cF aD (fun Kd hKd=>?_)
   refine tI cV Z Z Z Z Z Z Z Z Z (fun b13=>?_)
   refine hKd _ _ _ (hC (hC (zE (zU)))) (yF ?_)
   refine tM 8 Z cF (uP cV Z Z (Nat.mod_lt _ aE)) (tM 9 Z cF (rD dO Z (v:= .string (frac (N%4))) (fun _ h=>by rw [wB];exact eu h (i:=0) Z (lj N))) ?_)
   refine zS 3 aD ?_
   refine zT (I2:=[[9,8],[7],[6,0],[]]) Z cF aD (fun Kd hKd=>?_)
   refine zL Z Z Z (BS _ aC aC) (cO 0 Z) (hKd _ _ _ (hC (hC (hC (zE (zU))))) ?_)
   refine yF (tM 4 Z cF (qP Z Z (gC (p:=1) (q:=21) aE (vR _ aC aC) aE)) ?_)
   refine tM 10 Z cF (qP Z Z (gC (p:=1+21) (q:=3) (qv aE (vR _ aC aC)) (pI _) aE)) (zO ?_)
   refine tP 11 Z cF (yP Z) (yJ aD ?_)
   refine rK 0 [2,0,3] Z Z ?_
   exact kQ (hK _ ap) (eC Z (eC Z (eC Z (eN _))))
  intro s9 hI
  replace hI:s9=r:=hI
  change Run _ _ _ _ _ [(2,_),(0,_),(3,_)] (_) (_)
  subst hI
  exact zD Tryz.results149 Z ⟨rfl,rfl,rfl⟩ nS (fun _ h=>by cases h)
 obtain⟨N,rfl⟩: ∃N:Nat,n=N:=⟨n.toNat,aC⟩
 refine rK 2 [3,0] Z Z (uT (fun(s9:ByteArray)=>s9=r) (fun(s9:ByteArray)=>[(2, .string s9)]) ?_ ?_)
 ·intro K hK
  refine yW yM (zO ?_)
  refine tP 0 Z cF (zP Z) (tP 1 Z cF (zP Z) ?_)
  refine tP 6 Z cF (zP Z) (yF ?_)
  refine tM 2 Z cF (zz (s:=((N/4:Nat):Int)) Z Z aE Z aC aC) (tM 7 Z cF (z0 (s:=((N%4:Nat):Int)) Z Z aE Z) ?_)
  refine tN (rs:=[3,5]) aD aJ ?_
  intro j hj
  simp only [List.mem_cons,List.not_mem_nil,or_false]at hj
  rcases hj with rfl|rfl
  ·refine zT (I2:=[[7],[6,0],[]]) Z cF aD (fun Kd hKd=>?_)
   refine zL Z Z Z (BS _ aC aC) (cO 0 Z) (hKd _ _ _ (hC (hC (zE (zU)))) ?_)
   refine yF (tM 4 Z cF (qP Z Z (gC (p:=1) (q:=21) aE (vR _ aC aC) aE)) ?_)
   refine zS 5 aD ?_
   refine zT (I2:=[[4],[7],[6,0],[]]) Z cF aD (fun Kd hKd=>?_)
   refine tI cV Z Z Z Z Z Z Z Z Z (fun b13=>?_)
   refine hKd _ _ _ (hC (hC (hC (zE (zU))))) (yF ?_)
   refine tM 8 Z cF (uP cV Z Z (Nat.mod_lt _ aE)) (tM 9 Z cF (rD dO Z (v:= .string (frac (N%4))) (fun _ h=>by rw [wB];exact eu h (i:=0) Z (lj N))) ?_)
   refine tM 10 Z cF (qP Z Z (gC (p:=1+21) (q:=3) (qv aE (vR _ aC aC)) (pI _) aE)) (zO ?_)
   refine tP 11 Z cF (yP Z) (yJ aD ?_)
   refine rK 0 [2,3,0] Z Z ?_
   exact kQ (hK _ ap) (eC Z (eC Z (eC Z (eN _))))
  refine zT (I2:=[[7,2],[6,1,0],[]]) Z cF aD (fun Kd hKd=>?_)
  refine tI cV Z Z Z Z Z Z Z Z Z (fun b13=>?_)
  refine hKd _ _ _ (hC (hC (zE (zU)))) (yF ?_)
  refine tM 8 Z cF (uP cV Z Z (Nat.mod_lt _ aE)) (tM 9 Z cF (rD dO Z (v:= .string (frac (N%4))) (fun _ h=>by rw [wB];exact eu h (i:=0) Z (lj N))) ?_)
  refine zS 3 aD ?_
  refine zT (I2:=[[9,8],[7],[6,0],[]]) Z cF aD (fun Kd hKd=>?_)
  refine zL Z Z Z (BS _ aC aC) (cO 0 Z) (hKd _ _ _ (hC (hC (hC (zE (zU))))) ?_)
  refine yF (tM 4 Z cF (qP Z Z (gC (p:=1) (q:=21) aE (vR _ aC aC) aE)) ?_)
  refine tM 10 Z cF (qP Z Z (gC (p:=1+21) (q:=3) (qv aE (vR _ aC aC)) (pI _) aE)) (zO ?_)
  refine tP 11 Z cF (yP Z) (yJ aD ?_)
  refine rK 0 [2,3,0] Z Z ?_
  exact kQ (hK _ ap) (eC Z (eC Z (eC Z (eN _))))
 intro s9 hI
 replace hI:s9=r:=hI
 change Run _ _ _ _ _ [(2,_),(3,_),(0,_)] (_) (_)
 subst hI
 exact zD Tryz.results149 Z ⟨rfl,rfl,rfl⟩ nS (fun _ h=>by cases h)
theorem c104(t:V): ∀ (hw:Wf t) (hn:NumOk t) (back:Bool) (x:Value),CtR Tryz.prog 104 #[x, .bool back] [.val x t, .tab] (RN (cv back t)):=by
 refine V.indS (p:=fun t=> ∀ (hw:Wf t) (hn:NumOk t) (back:Bool) (x:Value),CtR Tryz.prog 104 #[x, .bool back] [.val x t, .tab] (RN (cv back t))) ?_ t
 intro t IH hw hn back x
 refine Ct.of_run (args:=[x, .bool back]) Tryz.func104 aF Z Tryz.ntmps104 Z (fun c=>?_)
 refine yN 0 Z (fun A1 c1 A2 c2 hx hs hk1 hk2 hi1 hi2=>?_)
 subst hx
 unfold maxLen at hi2 hk2
 refine sV 0 Z (fun hksz=>?_)
 have hkl:=hw.kl
 have hil:=hw.il
 have hq5:=hw.eq
 refine rO 3 Z (yK Z Z Z (fun b2=>?_))
 refine oO 7 Z (zC wC Z Z ?_)
 refine zA (zF 0 dx Z Z Z Z ?_)
 refine oR 9 Z (zI Z (fun h13=>?_) (fun h13=>?_))
 ·refine rO 3 Z (zC wZ Z Z ?_)
  refine zA (zF 0 dx Z Z Z Z ?_)
  refine oO 3 Z (zL Z Z Z (Mi _) cQ ?_)
  refine zA ?_
  refine yE Z Z Z (xl _ _ aE (by cases h:decide (t.num=1)<;>decide)) cQ (fun u19 D19 hv19=>?_)
  obtain⟨b19,rfl,rfl⟩:=hv19
  refine oK 3 [4] Z Z ?_
  exact zD Tryz.results104 Z ⟨rfl,b19,rfl,by rw [vW];simp [*,cU]⟩ nS (cO 0 Z)
 refine rR 7 Z (zI Z (fun h20=>?_) (fun h20=>?_))
 ·refine rO 3 Z (zC wZ Z Z ?_)
  refine zA (zF 0 dx Z Z Z Z ?_)
  refine zA ?_
  have hnum:=hn.num (.inl h20)
  refine zL Z Z Z (BS _ aC aC) (cO 3 Z) (zA ?_)
  refine yE Z Z Z (xl _ _ aE (qx (vR _ aC aC) aE)) cQ (fun u25 D25 hv25=>?_)
  obtain⟨b25,rfl,rfl⟩:=hv25
  refine oK 3 [4] Z Z ?_
  exact zD Tryz.results104 Z ⟨rfl,b25,rfl,by rw [vW];simp [*,cU]⟩ nS (cO 0 Z)
 refine rR 7 Z (zI Z (fun h26=>?_) (fun h26=>?_))
 ·refine rO 3 Z (zC wZ Z Z ?_)
  refine zA (zF 0 dx Z Z Z Z ?_)
  refine zA ?_
  have hnum:=hn.num (.inr h26)
  refine zL Z Z Z (PN _ aC aC) (cO 3 Z) (zA ?_)
  refine yE Z Z Z (xl _ _ aE (qx (xj aC aC) aE)) cQ (fun u31 D31 hv31=>?_)
  obtain⟨b31,rfl,rfl⟩:=hv31
  refine oK 3 [4] Z Z ?_
  exact zD Tryz.results104 Z ⟨rfl,b31,rfl,by rw [vW];simp [*,cU]⟩ nS (cO 0 Z)
 refine rK 7 [32,12,2,1] Z Z (zI Z (fun h32=>?_) (fun h32=>?_))
 ·refine rO 3 Z (zC tE Z Z ?_)
  refine zA (zF 0 dO Z Z Z Z ?_)
  refine zA ?_
  refine yE Z Z Z (xl _ _ aE (hs)) cQ (fun u36 D36 hv36=>?_)
  obtain⟨b36,rfl,rfl⟩:=hv36
  refine oR 3 Z ?_
  exact zD Tryz.results104 Z ⟨rfl,b36,rfl,by rw [vW];simp [*,cU]⟩ nS (cO 0 Z)
 refine rR 7 Z (zI Z (fun h37=>?_) (fun h37=>?_))
 ·refine rO 3 Z (yV Z Z (oY ..) ?_)
  refine zA (yK Z Z Z (fun b40=>?_))
  refine oO 7 Z (zC yX Z Z ?_)
  refine zA (zF 1 c7 Z Z Z Z ?_)
  refine zA (zX cX Z Z ?_)
  refine oK 4 [44,43,42,5,1] Z Z (wT 102 1 ?_)
  refine pH ?_
  refine yB 1 (fun(⟨i,A,ca,xs⟩:Nat×Option Addr×Nat×List Value)=>i≤t.items.length) (fun(⟨i,A,ca,xs⟩:Nat×Option Addr×Nat×List Value)=>[(44, .int .i64 ((i:Nat):Int))]) (fun(⟨i,A,ca,xs⟩:Nat×Option Addr×Nat×List Value)=>HA.row A i ca 102 1 xs::HA.blk b40 (dY 2 fh ⟨#[]⟩ A i ca) 150::HA.blk b2 [.int .i64 t.kind, .int .i64 t.num, .string t.text, .slice A1 t.keys.length c1, .slice A2 t.items.length c2] 25::[]) (fun(⟨i,A,ca,xs⟩:Nat×Option Addr×Nat×List Value)=> .ptrs xs ((t.items.take i).map (cv back)):: .strs (.slice A1 t.keys.length c1) t.keys:: .vals (.slice A2 t.items.length c2) t.items:: .val (.agg #[.int .i64 t.kind, .int .i64 t.num, .string t.text, .slice A1 t.keys.length c1, .slice A2 t.items.length c2]) t:: .tab::[]) (fun(⟨i,A,ca,xs⟩:Nat×Option Addr×Nat×List Value)=>t.items.length - i) (0,none,0,[]) bg (eC Z (eN _)) Z Z ?_ (eC Z (eC Z (eC Z (eC Z (eN _)))))
  intro ⟨i,A,ca,xs⟩ hI K hK
  replace hI:i≤t.items.length:=hI
  change Run _ _ _ _ _ [(44,_),(43,_),(42,_),(5,_),(1,_)] [_,_,_] [_,_,_,_,_]
  refine rO 3 Z (yL Z Z Z ?_)
  refine oR 2 Z (zI Z (fun h45=>?_) (fun h45=>?_))
  ·refine rO 6 Z (xC 2 cX Z Z Z Z aC ?_)
   refine zA (xB 2 cM Z Z Z (List.getElem?_eq_getElem h45) (fun A3 c3 A4 c4=>?_))
   refine zA (yA dE Z (fun b7=>?_))
   change cG _ _ _ _ _ _ _ _ (HA.blk _ [_,_,_,_,_] _::_) _
   refine zA (zG 0 (M':=[HA.blk _ [_,_,_,_,_] _,_,_,_]) Z Z Z Z co Z Z Z ?_)
   refine yO (yW yM ?_)
   refine zO (tP 0 Z cF (zP Z) ?_)
   refine tP 1 Z cF (zP Z) (tP 2 Z cF (yQ Z) ?_)
   refine tP 3 Z cF (zZ wE Z) (tP 6 Z cF (zP Z) ?_)
   refine yF (tM 4 Z cF (yT 2 dj Z Z Z) ?_)
   refine tM 5 Z cF (vD 0 Z cM Z) (zS 7 aD ?_)
   refine zT (I2:=[[4],[3,2,1,0],[]]) Z cF aD (fun Kd hKd=>?_)
   refine yE Z Z Z (IH _ (yU (List.getElem_mem h45)) (hw.item _ (List.getElem_mem h45)) (hn.item _ (List.getElem_mem h45)) back _) (dP 0 5 Z Z) (fun u55 D55 hv55=>?_)
   obtain⟨b55,rfl,rfl⟩:=hv55
   refine hKd _ _ _ (hC (hC (zE (zU)))) (zS 8 aD ?_)
   refine zT (I2:=[[4],[3,2,1,0],[]]) Z cF aD (fun Kd hKd=>?_)
   refine zM cn Z Z Z Z Z (fun b56=>?_)
   refine hKd _ _ _ (hC (hC (zE (zU)))) (zS 9 aD ?_)
   refine zT (I2:=[[],[0],[]]) Z cF aD (fun Kd hKd=>?_)
   refine cW 2 0 cn (fun A57 c57=>?_)
   refine hKd _ _ _ (zE (hC (zE (zU)))) (zO ?_)
   refine tP 10 Z cF (yQ Z) (tP 11 Z cF (zZ wE Z) ?_)
   refine zS 12 aD ?_
   refine zT (I2:=[[],[],[],[]]) Z cF aD (fun Kd hKd=>?_)
   refine zG 3 (M':=[_,_,_,HA.blk _ [_,_,_,_,_,_,_,_,_,_,_,_] _,_]) Z Z Z Z zu Z Z Z (hKd _ _ _ (zE (zE (zE (zE (zU))))) ?_)
   refine yJ aD (rK 0 [44,43,42,5,1] Z Z ?_)
   refine rO 3 Z (zN Z Z aC ?_)
   refine oR 3 Z (vQ 2 0 Z Z ?_)
   rw [tT]
   exact kQ (hK (i+1,_,_,_) bW aq) (eC Z (eC Z (eC Z (eC Z (eC Z (eN _)))))) (hD:=(cd 0 Z sQ))
  refine rR 8 Z ?_
  obtain rfl:i=t.items.length:=by omega
  rw [List.take_length]
  refine tH 0 0 _ Z Z aG (uD 0 0 Z Z aG aE aE ?_)
  exact zD Tryz.results104 Z ⟨rfl,b40,rfl,by rw [vW];simp [*]⟩ nS (cO 0 Z)
 refine rR 7 Z (zI Z (fun h62=>?_) (fun h62=>?_))
 ·have hq5:=hq5 h62
  refine rO 3 Z (yV Z Z (oY ..) ?_)
  refine zA (yK Z Z Z (fun b65=>?_))
  refine oO 7 Z (zC xM Z Z ?_)
  refine zA (zF 1 dV Z Z Z Z ?_)
  refine zA (zX cV Z Z ?_)
  refine oK 3 [69,68,8,2,1] Z Z (rK 1 [69,68,8,2,1] Z Z ?_)
  refine wT 102 1 (pH ?_)
  refine yB 1 (fun(⟨i,m,A,ca,xs,ys⟩:Nat×Nat×Option Addr×Nat×List Value×List Y)=>i≤t.keys.length∧m=2*i∧ys=ga back t i) (fun(⟨i,m,A,ca,xs,ys⟩:Nat×Nat×Option Addr×Nat×List Value×List Y)=>[(69, .int .i64 ((i:Nat):Int))]) (fun(⟨i,m,A,ca,xs,ys⟩:Nat×Nat×Option Addr×Nat×List Value×List Y)=>HA.row A m ca 102 1 xs::HA.blk b65 (dY 4 kE ⟨#[]⟩ A m ca) 150::HA.blk b2 [.int .i64 t.kind, .int .i64 t.num, .string t.text, .slice A1 t.keys.length c1, .slice A2 t.items.length c2] 25::[]) (fun(⟨i,m,A,ca,xs,ys⟩:Nat×Nat×Option Addr×Nat×List Value×List Y)=> .ptrs xs ys:: .strs (.slice A1 t.keys.length c1) t.keys:: .vals (.slice A2 t.items.length c2) t.items:: .val (.agg #[.int .i64 t.kind, .int .i64 t.num, .string t.text, .slice A1 t.keys.length c1, .slice A2 t.items.length c2]) t:: .tab::[]) (fun(⟨i,m,A,ca,xs,ys⟩:Nat×Nat×Option Addr×Nat×List Value×List Y)=>t.keys.length - i) (0,0,none,0,[],[]) (⟨Nat.zero_le _,rfl,rfl⟩) (eC Z (eN _)) Z Z ?_ (eC Z (eC Z (eC Z (eC Z (eN _)))))
  intro ⟨i,m,A,ca,xs,ys⟩ hI K hK
  change Run _ _ _ _ _ [(69,_),(68,_),(8,_),(2,_),(1,_)] [_,_,_] [_,_,_,_,_]
  obtain⟨hi,hm9,hys⟩:=hI
  refine rO 3 Z (yL Z Z Z ?_)
  refine oR 2 Z (zI Z (fun h70=>?_) (fun h70=>?_))
  ·refine rR 23 Z (yC Z (fun h73=>?_) (fun h73=>?_))
   ·refine rO 2 Z (zC xM Z Z ?_)
    refine zA (zF 2 dV Z Z Z Z ?_)
    refine zA (zX cV Z Z ?_)
    refine zA (xQ (s:=((t.keys.length - 1:Nat):Int)) Z Z Z aC aC aC ?_)
    refine oO 3 Z (xQ (s:=((t.keys.length - 1 - i:Nat):Int)) Z Z Z aC aC aC ?_)
    refine oK 3 [10,69,68,8,2,1] Z Z (yW yM ?_)
    refine zO (tP 0 Z cF (zP Z) ?_)
    refine tP 1 Z cF (zP Z) (tP 2 Z cF (yQ Z) ?_)
    refine tP 3 Z cF (zZ wE Z) (tP 5 Z cF (zZ xM Z) ?_)
    refine tP 7 Z cF (zP Z) (tP 11 Z cF (zZ yX Z) ?_)
    refine tP 13 Z cF (zP Z) (tP 16 Z cF (zP Z) ?_)
    refine yF (tM 4 Z cF (yT 1 dj Z Z Z) ?_)
    refine tM 6 Z cF (yT 2 dV Z Z Z) ?_
    have hJ:t.keys.length - 1 - i<t.keys.length:=by omega
    have hJ2:t.keys.length - 1 - i<t.items.length:=by omega
    refine yF (tM 8 Z cF (fE 1 cV Z Z Z aC) ?_)
    refine tM 9 Z cF (rD dO Z (fun _ h=>xO h (j:=1) Z (List.getElem?_eq_getElem hJ))) ?_
    refine tM 12 Z cF (yT 2 c7 Z Z Z) (tM 14 Z cF (wJ 2 cX Z Z Z aC) ?_)
    refine f3 2 Z (List.getElem?_eq_getElem hJ2) (fun vs95 hl95=>?_)
    refine yF (tM 15 Z cF (vN 0 hl95 cM Z Z) ?_)
    refine zS 10 aD ?_
    refine zT (I2:=[[15],[14,12],[4],[16,13,11,3,2,1,0],[]]) Z cF aD (fun Kd hKd=>?_)
    refine yE Z Z Z (xl _ _ aE (hksz _ (List.getElem_mem hJ))) cQ (fun u90 D90 hv90=>?_)
    obtain⟨b90,rfl,rfl⟩:=hv90
    refine hKd _ _ _ (hC (hC (hC (hC (zE (zU)))))) (zS 17 aD ?_)
    refine zT (I2:=[[],[],[4],[3,2,1,0],[]]) Z cF aD (fun Kd hKd=>?_)
    refine yE Z Z Z (IH _ (yU (List.getElem_mem hJ2)) (hw.item _ (List.getElem_mem hJ2)) (hn.item _ (List.getElem_mem hJ2)) back _) (dP 2 7 Z Z) (fun u97 D97 hv97=>?_)
    obtain⟨b97,rfl,rfl⟩:=hv97
    refine hKd _ _ _ (zE (zE (hC (hC (zE (zU)))))) (zS 18 aD ?_)
    refine zT (I2:=[[],[],[4],[3,2,1,0],[]]) Z cF aD (fun Kd hKd=>?_)
    refine vA cn Z Z Z Z Z (fun b98=>?_)
    refine hKd _ _ _ (zE (zE (hC (hC (zE (zU)))))) (zS 19 aD ?_)
    refine zT (I2:=[[],[],[],[0],[]]) Z cF aD (fun Kd hKd=>?_)
    refine mP (q:=2) 1 0 cn Z Z Z Z Z Z Z bZ aC (fun A99 c99=>?_)
    refine hKd _ _ _ (zE (zE (zE (hC (zE (zU)))))) (zO ?_)
    refine tP 20 Z cF (yQ Z) (tP 21 Z cF (zZ wE Z) ?_)
    refine zS 22 aD ?_
    refine zT (I2:=[[],[],[],[],[],[]]) Z cF aD (fun Kd hKd=>?_)
    refine zG 2 (M':=[_,_,HA.blk _ [_,_,_,_,_,_,_,_,_,_,_,_] _,_]) Z Z Z Z zu Z Z Z (hKd _ _ _ (zE (zE (zE (zE (zE (zE (zU))))))) ?_)
    refine yJ aD (rK 0 [69,68,8,2,1] Z Z ?_)
    refine rO 3 Z (zN Z Z aC ?_)
    refine oR 3 Z ?_
    first|(refine vQ 4 3 rfl rfl ?_;refine vQ 0 1 rfl rfl ?_)|(refine vQ 4 1 rfl rfl ?_;refine vQ 0 1 rfl rfl ?_)
    rw [List.append_assoc xs]
    exact kQ (hK (i+1,m+2,_,_,_,ys++[cU dT (t.keys[t.keys.length - 1 - i]'hJ)]++[cv back (t.items[t.keys.length - 1 - i]'hJ2)]) (⟨aC,aC,by rw [hys];exact mU hJ hJ2 hq5 (.inl ⟨h73,aC,aC⟩)⟩) au) (eC Z (eC Z (eC Z (eC Z (eC Z (eN _)))))) (hD:=(cd 0 Z sQ))
   refine uF (yW yM ?_)
   refine zO (tP 0 Z cF (zP Z) ?_)
   refine tP 1 Z cF (zP Z) (tP 2 Z cF (yQ Z) ?_)
   refine tP 3 Z cF (zZ wE Z) (tP 5 Z cF (zZ xM Z) ?_)
   refine tP 7 Z cF (zP Z) (tP 11 Z cF (zZ yX Z) ?_)
   refine tP 13 Z cF (zP Z) (tP 16 Z cF (zP Z) ?_)
   refine yF (tM 4 Z cF (yT 1 dj Z Z Z) ?_)
   refine tM 6 Z cF (yT 2 dV Z Z Z) ?_
   have hJ:i<t.keys.length:=by omega
   have hJ2:i<t.items.length:=by omega
   refine yF (tM 8 Z cF (fE 1 cV Z Z Z aC) ?_)
   refine tM 9 Z cF (rD dO Z (fun _ h=>xO h (j:=1) Z (List.getElem?_eq_getElem hJ))) ?_
   refine tM 12 Z cF (yT 2 c7 Z Z Z) (tM 14 Z cF (wJ 2 cX Z Z Z aC) ?_)
   refine f3 2 Z (List.getElem?_eq_getElem hJ2) (fun vs95 hl95=>?_)
   refine yF (tM 15 Z cF (vN 0 hl95 cM Z Z) ?_)
   refine zS 10 aD ?_
   refine zT (I2:=[[15],[14,12],[4],[16,13,11,3,2,1,0],[]]) Z cF aD (fun Kd hKd=>?_)
   refine yE Z Z Z (xl _ _ aE (hksz _ (List.getElem_mem hJ))) cQ (fun u90 D90 hv90=>?_)
   obtain⟨b90,rfl,rfl⟩:=hv90
   refine hKd _ _ _ (hC (hC (hC (hC (zE (zU)))))) (zS 17 aD ?_)
   refine zT (I2:=[[],[],[4],[3,2,1,0],[]]) Z cF aD (fun Kd hKd=>?_)
   refine yE Z Z Z (IH _ (yU (List.getElem_mem hJ2)) (hw.item _ (List.getElem_mem hJ2)) (hn.item _ (List.getElem_mem hJ2)) back _) (dP 2 7 Z Z) (fun u97 D97 hv97=>?_)
   obtain⟨b97,rfl,rfl⟩:=hv97
   refine hKd _ _ _ (zE (zE (hC (hC (zE (zU)))))) (zS 18 aD ?_)
   refine zT (I2:=[[],[],[4],[3,2,1,0],[]]) Z cF aD (fun Kd hKd=>?_)
   refine vA cn Z Z Z Z Z (fun b98=>?_)
   refine hKd _ _ _ (zE (zE (hC (hC (zE (zU)))))) (zS 19 aD ?_)
   refine zT (I2:=[[],[],[],[0],[]]) Z cF aD (fun Kd hKd=>?_)
   refine mP (q:=2) 1 0 cn Z Z Z Z Z Z Z bZ aC (fun A99 c99=>?_)
   refine hKd _ _ _ (zE (zE (zE (hC (zE (zU)))))) (zO ?_)
   refine tP 20 Z cF (yQ Z) (tP 21 Z cF (zZ wE Z) ?_)
   refine zS 22 aD ?_
   refine zT (I2:=[[],[],[],[],[],[]]) Z cF aD (fun Kd hKd=>?_)
   refine zG 2 (M':=[_,_,HA.blk _ [_,_,_,_,_,_,_,_,_,_,_,_] _,_]) Z Z Z Z zu Z Z Z (hKd _ _ _ (zE (zE (zE (zE (zE (zE (zU))))))) ?_)
   refine yJ aD (rK 0 [69,68,8,2,1] Z Z ?_)
   refine rO 3 Z (zN Z Z aC ?_)
   refine oR 3 Z ?_
   first|(refine vQ 4 3 rfl rfl ?_;refine vQ 0 1 rfl rfl ?_)|(refine vQ 4 1 rfl rfl ?_;refine vQ 0 1 rfl rfl ?_)
   rw [List.append_assoc xs]
   exact kQ (hK (i+1,m+2,_,_,_,ys++[cU dT (t.keys[i]'hJ)]++[cv back (t.items[i]'hJ2)]) (⟨aC,aC,by rw [hys];exact mU hJ hJ2 hq5 (.inr ⟨h73,aC⟩)⟩) au) (eC Z (eC Z (eC Z (eC Z (eC Z (eN _)))))) (hD:=(cd 0 Z sQ))
  refine rR 8 Z ?_
  rw [hys,BV aC]
  refine tH 0 0 _ Z Z aG (uD 0 0 Z Z aG aE aE ?_)
  exact zD Tryz.results104 Z ⟨rfl,b65,rfl,by rw [vW];simp [*]⟩ nS (cO 0 Z)
 refine rO 5 Z ?_
 refine yE Z Z Z (xl _ _ aE aE) cQ (fun u104 D104 hv104=>?_)
 obtain⟨b104,rfl,rfl⟩:=hv104
 refine oK 3 [4] Z Z ?_
 exact zD Tryz.results104 Z ⟨rfl,b104,rfl,by rw [vW];simp [*,cU]⟩ nS (cO 0 Z)
end Go.Jw

