/- What the claim's theorem 'proved' rests on: HasElem. -/
import Derived.Test.YtmghkmhgpmcoaaaGreatP26
set_option linter.unusedVariables false
set_option linter.unusedSimpArgs false
set_option maxRecDepth 100000
set_option maxHeartbeats 10000000
namespace Go.Proofs.YtmghkmhgpmcoaaaGreat
section
open Go Go.RowKit
def ebox (e:GE)(x2 x3 y4 y5:Value):Obj:= .cells #[.int .i64 e.k, .string e.s,x2,x3, .int .i64 e.v.k, .int .i64 e.v.n, .float .f64 e.v.f, .string e.v.s,y4,y5, .int .i64 e.n] 110
theorem hasElem_w (l:List GE)(e:GE)(H:Hp)(x x2 x3 y4 y5:Value)(w:World)(hi:Imm H w)(hl:EA H l x)(he:RE H e x2 x3 y4 y5):
  Calls Tryz.prog 110 #[x,Dl e x2 x3 y4 y5] w (Some1 w):=by
 obtain⟨al,cl,rfl,_,hlim,_,hat⟩:=hl
 have HI:=Lib.hid (And.intro hi (And.intro hat he))
 obtain⟨p2,e2,p3,e3,p4,e4,p5,e5,rfl,rfl,rfl,rfl⟩:=he.open
 unfold lim at hlim
 clear hi hat he
 unfold Dl
 go_enter Tryz.func110,Tryz.ntmps110
 go_upto_region 1 with(fail)
 obtain⟨wz,hwz⟩:∃wz,wz=w.alloc (ebox e (.slice p2 e.ks.length e2) (.slice p3 e.l.length e3) (.slice p4 e.v.ks.length e4) (.slice p5 e.v.l.length e5)):=⟨_,rfl⟩
 have HZ:Hid (Bw w wz∧wz.heap[w.heap.size]?=some (ebox e (.slice p2 e.ks.length e2) (.slice p3 e.l.length e3) (.slice p4 e.v.ks.length e4) (.slice p5 e.v.l.length e5))):=by subst hwz;exact⟨A5,b1_0⟩
 unfold ebox at hwz
 rw [←hwz]
 clear hwz
 go_wp2_with fail
 go_loopw [9] (fun i wr=>∃j:Nat,j≤l.length∧i= .int .i64 (j:Int)∧Bw wz wr) (fun i _=>l.length - (intOf i).toNat)
 case atStart=>exact⟨0,Nat.zero_le _,rfl,Bw.rfl⟩
 case round=>
  obtain⟨j,hj,rfl,hbw⟩:=hrel
  obtain⟨wq,hwq⟩:∃x:World,x=wr:=⟨_,rfl⟩
  rw [←hwq]at hbw⊢
  clear hwq
  have HB:=Lib.hid hbw
  have hiq:=HI.out.1.below (HZ.out.1.tr hbw)
  clear hbw
  by_cases hjl:j<l.length
  ·have p1:(j:Int)<(l.length:Int):=by omega
   obtain⟨bl,ol,a2,c2,a3,c3,a4,c4,a5,c5,rfl,hE,i0,i1,i2,i3,i4,i5,i6,i7,i8,i9,i10⟩:=HI.out.2.1.look hiq hjl
   have HE:=Lib.hid hE
   have hbx:=A2 HB.out HZ.out.2
   unfold ebox at hbx
   obtain⟨q0,f0⟩:=A1 hbx
   have hl0:=A0 hbx
   clear hE hiq hbx
   go_wp2_with fail
   refine(equalElems_c l[j] e H _ _ _ _ _ _ _ _ _ ((HI.out.1.below (HZ.out.1.tr HB.out)).below A5) HE.out HI.out.2.2).mono ?_
   rintro _ w2 ⟨z,rfl,hb2,_⟩
   have H2:=Lib.hid (A5.tr hb2:Bw wq w2)
   clear hb2 q0 f0 hl0 i0 i1 i2 i3 i4 i5 i6 i7 i8 i9 i10
   cases z
   ·go_wp2_with fail
    go_roundw
    case rel=>exact⟨j+1,by omega,by go_num,HB.out.tr H2.out⟩
    case measure=>simp [intOf];omega
   ·go_wp2_with fail
    go_ret
    exact⟨_,rfl,HZ.out.1.tr (HB.out.tr H2.out)⟩
  ·have p1:¬(j:Int)<(l.length:Int):=by omega
   go_wp2_with fail
   go_ret
   exact⟨_,rfl,HZ.out.1.tr HB.out⟩
end
end Go.Proofs.YtmghkmhgpmcoaaaGreat
