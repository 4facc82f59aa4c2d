/- What the claim's theorem 'proved' rests on: Ident, EqPl, EqVal. -/
import Derived.Laws.Externs
import Derived.Test.YtmghkmhgpmcoaaaGreatP12
import Derived.Test.YtmghkmhgpmcoaaaGreatP28
set_option linter.unusedVariables false
set_option linter.unusedSimpArgs false
set_option maxRecDepth 100000
set_option maxHeartbeats 10000000
namespace Go.Proofs.YtmghkmhgpmcoaaaGreat
section
open Go Go.RowKit
@[go_sem] theorem f64bits (f:Nat) (w:World):(callFunc 73 #[.float .f64 f]).run Tryz.prog w= .ok (.value (.int .u64 f)) w:=by kernel_rfl
theorem ident_c:∀(z:Nat) (v:GV),v.sz≤z→∀(H:Hp) (x4 x5 y4 y5:Value) (w:World),Imm H w→RV H v x4 x5→RV H v y4 y5→Calls Tryz.prog 44 #[Ar v x4 x5,Ar v y4 y5] w (Pur w (.bool true)):=by
 intro z
 induction z with
 |zero=>intro v hz;have:=v.sz_eq;omega
 |succ z ih=>
  intro v hz H x4 x5 y4 y5 w hi hv hu
  have hsz:=v.sz_eq
  obtain⟨_,_,_,_,h4,a5,c5,rfl,_,hl5,hc5,hat5⟩:=By.1 hv
  obtain⟨a4,c4,rfl,_,hl4,hc4,hat4⟩:=h4
  obtain⟨_,_,_,_,h4,b5,d5,rfl,_,_,hd5,hbt5⟩:=By.1 hu
  obtain⟨b4,d4,rfl,_,_,hd4,hbt4⟩:=h4
  have HI:=Lib.hid hi
  rcases v with⟨k,n,f,s,ks,l⟩
  unfold Ar
  unfold lim at hl4 hl5
  simp only at *
  clear hv hu
  go_enter Tryz.func44,Tryz.ntmps44
  go_wp2_with fail
  go_quiet (fail)
  go_wp2_with fail
  obtain⟨wz,hwz⟩:∃wz,wz=(((w.alloc (.cells #[.int .i64 k, .int .i64 n, .float .f64 f, .string s, .slice a4 ks.length c4, .slice a5 l.length c5] 35)).alloc (.cells #[.int .i64 k, .int .i64 n, .float .f64 f, .string s, .slice b4 ks.length d4, .slice b5 l.length d5] 35)).drewN nq):=⟨_,rfl⟩
  have HX:Hid (Bw w wz∧wz.heap[w.heap.size]?=some (.cells #[.int .i64 k, .int .i64 n, .float .f64 f, .string s, .slice a4 ks.length c4, .slice a5 l.length c5] 35)∧wz.heap[w.heap.size+1]?=some (.cells #[.int .i64 k, .int .i64 n, .float .f64 f, .string s, .slice b4 ks.length d4, .slice b5 l.length d5] 35)):=by subst hwz;exact⟨Bw.dn Am nq,A2 (Bw.dn Bw.rfl nq) Cs,A2 (Bw.dn Bw.rfl nq) BF⟩
  rw [←hwz]
  clear hwz
  have HA:=Lib.hid (And.intro hat4 (And.intro hbt4 (And.intro hat5 hbt5)))
  clear hat4 hbt4 hat5 hbt5
  go_loopw [54] (fun i wr=>∃j:Nat,j≤ks.length∧i= .int .i64 (j:Int)∧Bw wz wr) (fun i _=>ks.length - (intOf i).toNat)
  case atStart=>exact⟨0,Nat.zero_le _,rfl,Bw.rfl⟩
  case round=>
   rename_i wr
   obtain⟨j,hj,rfl,hb⟩:=hrel
   have HB:=Lib.hid hb
   obtain⟨q0,f0⟩:=A1 (A2 hb HX.out.2.1)
   obtain⟨q1,f1⟩:=A1 (A2 hb HX.out.2.2)
   have hl0:=A0 (A2 hb HX.out.2.1)
   have hl1:=A0 (A2 hb HX.out.2.2)
   have hiw:=HI.out.below (HX.out.1.tr hb)
   clear hb
   by_cases hjl:j<ks.length
   ·obtain⟨bk,ok,rfl,ck,_⟩:=HA.out.1.look hiw hjl
    obtain⟨bk2,ok2,rfl,ck2,_⟩:=HA.out.2.1.look hiw hjl
    have p1:(j:Int)<(ks.length:Int):=by omega
    clear ih
    go_wp2_with fail
    go_quiet (fail)
    go_wp2_with fail
    go_roundw
    case rel=>exact⟨j+1,by omega,by go_num,Bw.dn HB.out nq⟩
    case measure=>simp [intOf];omega
   ·have:j=ks.length:=by omega
    clear hjl
    subst this
    go_wp2_with fail
    clear q0 f0 q1 f1 hl0 hl1
    go_loopw [72] (fun i wr=>∃j:Nat,j≤l.length∧i= .int .i64 (j:Int)∧Bw wz wr) (fun i _=>l.length - (intOf i).toNat)
    case atStart=>exact⟨0,Nat.zero_le _,rfl,HB.out⟩
    case round=>
     obtain⟨j,hj,rfl,hb⟩:=hrel
     obtain⟨wq,hwq⟩:∃x:World,x=wr:=⟨_,rfl⟩
     rw [←hwq]at hb⊢
     clear hwq
     have HB2:=Lib.hid hb
     obtain⟨q0,f0⟩:=A1 (A2 hb HX.out.2.1)
     obtain⟨q1,f1⟩:=A1 (A2 hb HX.out.2.2)
     have hl0:=A0 (A2 hb HX.out.2.1)
     have hl1:=A0 (A2 hb HX.out.2.2)
     have hiq:=HI.out.below (HX.out.1.tr hb)
     clear hb
     by_cases hjl:j<l.length
     ·obtain⟨bk,ok,e4,g4,e5,g5,rfl,hv',i0,i1,i2,i3,i4,i5⟩:=HA.out.2.2.1.look hiq hjl
      obtain⟨bk2,ok2,e4',g4',e5',g5',rfl,hu',j0,j1,j2,j3,j4,j5⟩:=HA.out.2.2.2.look hiq hjl
      have CP:=fun d os=>Calls.regrown_of (ih l[j] (by have:=D0 hjl;omega) H _ _ _ _ (Go.Sort.grow (redrawn wq d) os) (hiq.below (below_regrown wq d os)) hv' hu')
      have p1:(j:Int)<(l.length:Int):=by omega
      have G0:=cell_regrown (q0 5)
      have G1:=cell_regrown (q1 5)
      have I0:=cell_regrown i0
      have I1:=cell_regrown i1
      have I2:=cell_regrown i2
      have I3:=cell_regrown i3
      have I4:=cell_regrown i4
      have I5:=cell_regrown i5
      have J0:=cell_regrown j0
      have J1:=cell_regrown j1
      have J2:=cell_regrown j2
      have J3:=cell_regrown j3
      have J4:=cell_regrown j4
      have J5:=cell_regrown j5
      clear ih hv' hu' i0 i1 i2 i3 i4 i5 j0 j1 j2 j3 j4 j5 q0 q1
      unfold Ar at CP
      go_wp2_with fail
      refine wp_region_quiet_below (by kernel_rfl) (by kernel_rfl) ?_
      repeat (go_big_quiet_step (exact CP _ _))
      refine wpQuiet_nil ?_
      intro _ hw'
      obtain⟨⟨dq,osq⟩,hw''⟩:=hw'
      subst hw''
      obtain⟨wn,hwn,hw'⟩:∃x,Bw wq x∧x=Go.Sort.grow (redrawn wq dq) osq:=⟨_,below_regrown _ _ _,rfl⟩
      rw [←hw']
      clear hw'
      go_wp2_with fail
      go_roundw
      case rel=>exact⟨j+1,by omega,by go_num,HB2.out.tr hwn⟩
      case measure=>simp [intOf];omega
     ·clear ih
      go_wp2_with fail
      go_ret
      exact⟨rfl,HX.out.1.tr HB2.out⟩
end
section
open Go Go.RowKit
theorem asFloat_c (v:GV)(x4 x5:Value)(w:World):Calls Tryz.prog 70 #[Ar v x4 x5] w (Pur w (.float .f64 (asF v))):=by
 rcases v with⟨k,n,f,s,ks,l⟩
 unfold Ar
 by_cases h:k=2
 ·subst h
  go_enter Tryz.func70,Tryz.ntmps70
  go_wp2_with fail
  go_ret
  exact⟨by simp [asF,toF],A5⟩
 ·go_enter Tryz.func70,Tryz.ntmps70
  go_wp2_with fail
  go_ret
  exact⟨by simp [asF,h],A5⟩
theorem eqPl_num (k n:Int)(f:Nat)(s:ByteArray)(ks:List ByteArray)(l:List GV)(k2 n2:Int)(f2:Nat)(s2:ByteArray)(ks2:List ByteArray)(l2:List GV)(ha:k=2∨k=3)(hb:k2=2∨k2=3)(a4 a5 b4 b5:Option Addr)(c4 c5 d4 d5:Nat)(w:World):
  Calls Tryz.prog 42 #[.agg #[.int .i64 k, .int .i64 n, .float .f64 f, .string s, .slice a4 ks.length c4, .slice a5 l.length c5], .agg #[.int .i64 k2, .int .i64 n2, .float .f64 f2, .string s2, .slice b4 ks2.length d4, .slice b5 l2.length d5]] w (Pur w (.bool (eqP ⟨k,n,f,s,ks,l⟩ ⟨k2,n2,f2,s2,ks2,l2⟩))):=by
 have NA:=fun w=>number_c ⟨k,n,f,s,ks,l⟩ (.slice a4 ks.length c4) (.slice a5 l.length c5) w
 have NB:=fun w=>number_c ⟨k2,n2,f2,s2,ks2,l2⟩ (.slice b4 ks2.length d4) (.slice b5 l2.length d5) w
 have FA:=fun d os w1=>Calls.regrown_of (asFloat_c ⟨k,n,f,s,ks,l⟩ (.slice a4 ks.length c4) (.slice a5 l.length c5) (Go.Sort.grow (redrawn w1 d) os))
 have FB:=fun d os w1=>Calls.regrown_of (asFloat_c ⟨k2,n2,f2,s2,ks2,l2⟩ (.slice b4 ks2.length d4) (.slice b5 l2.length d5) (Go.Sort.grow (redrawn w1 d) os))
 unfold Ar at FA FB
 simp only at FA FB
 have HFA:=Lib.hid FA
 have HFB:=Lib.hid FB
 clear FA FB
 have e1:EE ⟨k,n,f,s,ks,l⟩=true:=by rcases ha with rfl|rfl<;>rfl
 have e2:EE ⟨k2,n2,f2,s2,ks2,l2⟩=true:=by rcases hb with rfl|rfl<;>rfl
 rw [e1]at NA
 rw [e2]at NB
 clear e1 e2
 have HXA:=Lib.hid (Am (w:=w) (o:= .cells #[.int .i64 k, .int .i64 n, .float .f64 f, .string s, .slice a4 ks.length c4, .slice a5 l.length c5] 35) (p:= .cells #[.int .i64 k2, .int .i64 n2, .float .f64 f2, .string s2, .slice b4 ks2.length d4, .slice b5 l2.length d5] 35))
 have hx0:=Cs (w:=w) (a:= .cells #[.int .i64 k, .int .i64 n, .float .f64 f, .string s, .slice a4 ks.length c4, .slice a5 l.length c5] 35) (b:= .cells #[.int .i64 k2, .int .i64 n2, .float .f64 f2, .string s2, .slice b4 ks2.length d4, .slice b5 l2.length d5] 35)
 have hx1:=BF (w:=w) (a:= .cells #[.int .i64 k, .int .i64 n, .float .f64 f, .string s, .slice a4 ks.length c4, .slice a5 l.length c5] 35) (b:= .cells #[.int .i64 k2, .int .i64 n2, .float .f64 f2, .string s2, .slice b4 ks2.length d4, .slice b5 l2.length d5] 35)
 have HX:=Lib.hid (And.intro hx0 hx1)
 clear hx0 hx1
 rcases ha with rfl|rfl<;>rcases hb with rfl|rfl
 all_goals
  have hz1:w.heap.size<w.heap.size+1:=by omega
  unfold Ar at NA NB
  simp only at NA NB
  go_enter Tryz.func42,Tryz.ntmps42
  go_wp2_with fail
  refine(NA _).mono ?_
  rintro _ w1 ⟨rfl,hb1⟩
  have HB1:=Lib.hid (show Bw _ w1 from hb1)
  clear hb1
  obtain⟨q0,f0⟩:=A1 (A2 HB1.out HX.out.1)
  obtain⟨q1,f1⟩:=A1 (A2 HB1.out HX.out.2)
  have hl0:=A0 (A2 HB1.out HX.out.1)
  have hl1:=A0 (A2 HB1.out HX.out.2)
  go_wp2_with fail
  refine(NB _).mono ?_
  rintro _ w2 ⟨rfl,hb2⟩
  have HB2:=Lib.hid (HB1.out.tr (show Bw _ w2 from hb2))
  clear hb2 q0 f0 q1 f1 hl0 hl1
  obtain⟨q0,f0⟩:=A1 (A2 HB2.out HX.out.1)
  obtain⟨q1,f1⟩:=A1 (A2 HB2.out HX.out.2)
  have hl0:=A0 (A2 HB2.out HX.out.1)
  have hl1:=A0 (A2 HB2.out HX.out.2)
  go_wp2_with fail
 ·go_ret
  exact⟨AQ (by simp [eqP,Dx]),HXA.out.tr HB2.out⟩
 all_goals
  have CA:=fun d os=>HFA.out d os w2
  have CB:=fun d os=>HFB.out d os w2
  have g0:=cell_regrown (q0 0)
  have g1:=cell_regrown (q0 1)
  have g2:=cell_regrown (q0 2)
  have g3:=cell_regrown (q0 3)
  have g4:=cell_regrown (q0 4)
  have g5:=cell_regrown (q0 5)
  have h0:=cell_regrown (q1 0)
  have h1:=cell_regrown (q1 1)
  have h2:=cell_regrown (q1 2)
  have h3:=cell_regrown (q1 3)
  have h4:=cell_regrown (q1 4)
  have h5:=cell_regrown (q1 5)
  clear q0 q1
  refine wp_region_quiet_below (by kernel_rfl) (by kernel_rfl) ?_
  repeat (go_big_quiet_step (first|with_reducible exact CA _ _|with_reducible exact CB _ _))
  refine wpQuiet_nil ?_
  intro _ hw'
  obtain⟨⟨dq,osq⟩,hw''⟩:=hw'
  subst hw''
  obtain⟨wn,hwn,hw'⟩:∃x,Bw w2 x∧x=Go.Sort.grow (redrawn w2 dq) osq:=⟨_,below_regrown _ _ _,rfl⟩
  rw [←hw']
  clear hw'
  go_wp2_with fail
  go_ret
  exact⟨AQ (by simp [eqP,Dx,asF,BZ]),(HXA.out.tr HB2.out).tr hwn⟩
theorem keysEq_drop {ks ms:List ByteArray}{j:Nat}(h:j<ks.length)(h2:j<ms.length):BS (ks.drop j) (ms.drop j)=((ks[j].toList==ms[j].toList) && BS (ks.drop (j+1)) (ms.drop (j+1))):=by
 rw [List.drop_eq_getElem_cons h,List.drop_eq_getElem_cons h2];rfl
theorem eqPs_drop {ks ms:List GV}{j:Nat}(h:j<ks.length)(h2:j<ms.length):E5 (ks.drop j) (ms.drop j)=(eqP ks[j] ms[j] && E5 (ks.drop (j+1)) (ms.drop (j+1))):=by
 rw [List.drop_eq_getElem_cons h,List.drop_eq_getElem_cons h2];rfl
theorem eqPl_rest (k n:Int)(f:Nat)(s:ByteArray)(ks:List ByteArray)(l:List GV)(k2 n2:Int)(f2:Nat)(s2:ByteArray)(ks2:List ByteArray)(l2:List GV)(hN:(Dx k && Dx k2)=false)(a4 a5 b4 b5:Option Addr)(c4 c5 d4 d5:Nat)(H:Hp)(w:World)(hi:Imm H w)
  (hl4:ks.length≤lim) (hl5:l.length≤lim) (hat4:Bt H a4 0 ks) (hbt4:Bt H b4 0 ks2) (hat5:CX H a5 0 l) (hbt5:CX H b5 0 l2)
  (ih:∀j (h:j<l.length) (b:GV) (x4 x5 y4 y5:Value) (w:World),Imm H w→RV H l[j] x4 x5→RV H b y4 y5→Calls Tryz.prog 42 #[Ar l[j] x4 x5,Ar b y4 y5] w (Pur w (.bool (eqP l[j] b)))):
  Calls Tryz.prog 42 #[.agg #[.int .i64 k, .int .i64 n, .float .f64 f, .string s, .slice a4 ks.length c4, .slice a5 l.length c5], .agg #[.int .i64 k2, .int .i64 n2, .float .f64 f2, .string s2, .slice b4 ks2.length d4, .slice b5 l2.length d5]] w (Pur w (.bool (eqP ⟨k,n,f,s,ks,l⟩ ⟨k2,n2,f2,s2,ks2,l2⟩))):=by
 have HI:=Lib.hid (And.intro hi (And.intro hat4 (And.intro hbt4 (And.intro hat5 hbt5))))
 have HIH:=Lib.hid ih
 have HR:Hid (eqP ⟨k,n,f,s,ks,l⟩ ⟨k2,n2,f2,s2,ks2,l2⟩=(k==k2 && n==n2 && s.toList==s2.toList && ks.length==ks2.length && l.length==l2.length && BS ks ks2 && E5 l l2)):=by unfold Hid;simp [eqP,hN]
 obtain⟨R,hR⟩:∃R,R=eqP ⟨k,n,f,s,ks,l⟩ ⟨k2,n2,f2,s2,ks2,l2⟩:=⟨_,rfl⟩
 rw [←hR]at HR⊢
 clear hR
 have NA:=fun w=>number_c ⟨k,n,f,s,ks,l⟩ (.slice a4 ks.length c4) (.slice a5 l.length c5) w
 have NB:=fun w=>number_c ⟨k2,n2,f2,s2,ks2,l2⟩ (.slice b4 ks2.length d4) (.slice b5 l2.length d5) w
 have e1:EE ⟨k,n,f,s,ks,l⟩=Dx k:=rfl
 have e2:EE ⟨k2,n2,f2,s2,ks2,l2⟩=Dx k2:=rfl
 rw [e1]at NA
 rw [e2]at NB
 clear e1 e2 hi hat4 hbt4 hat5 hbt5 ih
 unfold lim at hl4 hl5
 have HXA:=Lib.hid (Am (w:=w) (o:= .cells #[.int .i64 k, .int .i64 n, .float .f64 f, .string s, .slice a4 ks.length c4, .slice a5 l.length c5] 35) (p:= .cells #[.int .i64 k2, .int .i64 n2, .float .f64 f2, .string s2, .slice b4 ks2.length d4, .slice b5 l2.length d5] 35))
 have hx0:=Cs (w:=w) (a:= .cells #[.int .i64 k, .int .i64 n, .float .f64 f, .string s, .slice a4 ks.length c4, .slice a5 l.length c5] 35) (b:= .cells #[.int .i64 k2, .int .i64 n2, .float .f64 f2, .string s2, .slice b4 ks2.length d4, .slice b5 l2.length d5] 35)
 have hx1:=BF (w:=w) (a:= .cells #[.int .i64 k, .int .i64 n, .float .f64 f, .string s, .slice a4 ks.length c4, .slice a5 l.length c5] 35) (b:= .cells #[.int .i64 k2, .int .i64 n2, .float .f64 f2, .string s2, .slice b4 ks2.length d4, .slice b5 l2.length d5] 35)
 have HX:=Lib.hid (And.intro hx0 hx1)
 clear hx0 hx1
 have hz1:w.heap.size<w.heap.size+1:=by omega
 unfold Ar at NA NB
 simp only at NA NB
 go_enter Tryz.func42,Tryz.ntmps42
 go_upto_region 1 with(fail)
 obtain⟨wz,hwz⟩:∃wz,wz=(w.alloc (.cells #[.int .i64 k, .int .i64 n, .float .f64 f, .string s, .slice a4 ks.length c4, .slice a5 l.length c5] 35)).alloc (.cells #[.int .i64 k2, .int .i64 n2, .float .f64 f2, .string s2, .slice b4 ks2.length d4, .slice b5 l2.length d5] 35):=⟨_,rfl⟩
 rw [←hwz]at HX HXA⊢
 clear hwz
 go_cut [12] (fun s wx=>s= .bool false∧Bw wz wx)
 case first=>
  obtain⟨q0,f0⟩:=A1 (A2 Bw.rfl HX.out.1)
  obtain⟨q1,f1⟩:=A1 (A2 Bw.rfl HX.out.2)
  have hl0:=A0 (A2 Bw.rfl HX.out.1)
  have hl1:=A0 (A2 Bw.rfl HX.out.2)
  cases h1:Dx k
  all_goals
   rw [h1]at NA
   go_wp2_with fail
   refine(NA _).mono ?_
   rintro _ w1 ⟨rfl,hb1⟩
   have HB1:=Lib.hid (show Bw wz w1 from hb1)
   clear hb1 q0 f0 q1 f1 hl0 hl1
   obtain⟨q0,f0⟩:=A1 (A2 HB1.out HX.out.1)
   obtain⟨q1,f1⟩:=A1 (A2 HB1.out HX.out.2)
   have hl0:=A0 (A2 HB1.out HX.out.1)
   have hl1:=A0 (A2 HB1.out HX.out.2)
   go_wp2_with fail
  ·go_meet
   exact⟨rfl,HB1.out⟩
  ·rw [h1]at hN
   have h2:Dx k2=false:=by simpa using hN
   rw [h2]at NB
   refine(NB _).mono ?_
   rintro _ w2 ⟨rfl,hb2⟩
   have HB2:=Lib.hid (HB1.out.tr (show Bw w1 w2 from hb2))
   clear hb2
   go_wp2_with fail
   go_meet
   exact⟨rfl,HB2.out⟩
 case rest=>
  obtain⟨rfl,hbo⟩:=hcut
  obtain⟨wa,hwa⟩:∃x:World,x=wc:=⟨_,rfl⟩
  subst hwa
  have HB:=Lib.hid hbo
  clear hbo NA NB hN
  obtain⟨q0,f0⟩:=A1 (A2 HB.out HX.out.1)
  obtain⟨q1,f1⟩:=A1 (A2 HB.out HX.out.2)
  have hl0:=A0 (A2 HB.out HX.out.1)
  have hl1:=A0 (A2 HB.out HX.out.2)
  rcases Decidable.em (¬k=k2)with hk|hk
  ·go_wp2_with fail
   go_ret
   exact⟨AQ (by rw [HR.out];simp [hk]),HXA.out.tr HB.out⟩
  replace hk:=Decidable.not_not.1 hk
  subst hk
  rcases Decidable.em (¬n=n2)with hn|hn
  ·go_wp2_with fail
   go_ret
   exact⟨AQ (by rw [HR.out];simp [hn]),HXA.out.tr HB.out⟩
  replace hn:=Decidable.not_not.1 hn
  subst hn
  cases hs:(s.toList==s2.toList)
  ·have HS:=Lib.hid hs
   go_wp2_with fail
   go_ret
   exact⟨AQ (by rw [HR.out,HS.out];simp),HXA.out.tr HB.out⟩
  have HS:=Lib.hid hs
  rcases Decidable.em (¬ks.length=ks2.length)with hkl|hkl
  ·have h3:¬(ks.length:Int)=(ks2.length:Int):=by omega
   go_wp2_with fail
   go_ret
   exact⟨AQ (by rw [HR.out];simp [hkl]),HXA.out.tr HB.out⟩
  replace hkl:=Decidable.not_not.1 hkl
  rcases Decidable.em (¬l.length=l2.length)with hll|hll
  ·have h3:¬(l.length:Int)=(l2.length:Int):=by omega
   go_wp2_with fail
   go_ret
   exact⟨AQ (by rw [HR.out];simp [hll]),HXA.out.tr HB.out⟩
  replace hll:=Decidable.not_not.1 hll
  go_wp2_with fail
  have HL:=Lib.hid (And.intro hkl hll)
  have hl6:ks2.length≤4294967296:=by omega
  have hl7:l2.length≤4294967296:=by omega
  have HRR:Hid (R=(BS ks ks2 && E5 l l2)):=by unfold Hid;rw [HR.out,HS.out];simp [hkl,hll]
  clear hkl hll hl4 hl5 q0 f0 q1 f1 hl0 hl1 hs HR
  go_loopw [69] (fun i wr=>∃j:Nat,j≤ks2.length∧i= .int .i64 (j:Int)∧Hid (BS ks ks2=BS (ks.drop j) (ks2.drop j))∧Bw wz wr) (fun i _=>ks2.length - (intOf i).toNat)
  case atStart=>exact⟨0,Nat.zero_le _,rfl,rfl,HB.out⟩
  case round=>
   rename_i wr
   obtain⟨j,hj,rfl,hke,hb⟩:=hrel
   have HB3:=Lib.hid hb
   obtain⟨q0,f0⟩:=A1 (A2 hb HX.out.1)
   obtain⟨q1,f1⟩:=A1 (A2 hb HX.out.2)
   have hl0:=A0 (A2 hb HX.out.1)
   have hl1:=A0 (A2 hb HX.out.2)
   have hiw:=HI.out.1.below (HXA.out.tr hb)
   have hkl:ks.length=ks2.length:=HL.out.1
   rw [hkl]at q0
   clear hb
   by_cases hjl:j<ks2.length
   ·have hjl':j<ks.length:=by omega
    obtain⟨bk,ok,rfl,ck,_⟩:=HI.out.2.1.look hiw hjl'
    obtain⟨bk2,ok2,rfl,ck2,_⟩:=HI.out.2.2.1.look hiw hjl
    have p1:(j:Int)<(ks2.length:Int):=by omega
    have HKD:=Lib.hid (keysEq_drop hjl' hjl)
    cases hq:(ks[j].toList==ks2[j].toList)
    ·have HQ:=Lib.hid hq
     clear hkl
     go_wp2_with fail
     go_quiet (fail)
     go_wp2_with fail
     go_ret
     exact⟨AQ (by rw [HRR.out,hke.out,HKD.out,HQ.out];simp),Bw.dn (HXA.out.tr HB3.out) nq⟩
    ·have HQ:=Lib.hid hq
     clear hkl
     go_wp2_with fail
     go_quiet (fail)
     go_wp2_with fail
     go_roundw
     case rel=>exact⟨j+1,by omega,by go_num,by unfold Hid;rw [hke.out,HKD.out,HQ.out];simp,Bw.dn HB3.out nq⟩
     case measure=>simp [intOf];omega
   ·have:j=ks2.length:=by omega
    clear hjl
    subst this
    have HK1:Hid (R=E5 l l2):=by unfold Hid;rw [HRR.out,hke.out,List.drop_eq_nil_of_le (by omega)];simp [BS]
    have hll:l.length=l2.length:=HL.out.2
    rw [hll]at q0
    clear hkl hll
    go_wp2_with fail
    clear q0 f0 q1 f1 hl0 hl1 hke
    go_loopw [87] (fun i wr=>∃j:Nat,j≤l2.length∧i= .int .i64 (j:Int)∧Hid (E5 l l2=E5 (l.drop j) (l2.drop j))∧Bw wz wr) (fun i _=>l2.length - (intOf i).toNat)
    case atStart=>exact⟨0,Nat.zero_le _,rfl,rfl,HB3.out⟩
    case round=>
     obtain⟨j,hj,rfl,hke,hb⟩:=hrel
     obtain⟨wq,hwq⟩:∃x:World,x=wr:=⟨_,rfl⟩
     rw [←hwq]at hb⊢
     clear hwq
     have HB2:=Lib.hid hb
     obtain⟨q0,f0⟩:=A1 (A2 hb HX.out.1)
     obtain⟨q1,f1⟩:=A1 (A2 hb HX.out.2)
     have hl0:=A0 (A2 hb HX.out.1)
     have hl1:=A0 (A2 hb HX.out.2)
     have hiq:=HI.out.1.below (HXA.out.tr hb)
     have hll:l.length=l2.length:=HL.out.2
     rw [hll]at q0
     clear hb
     by_cases hjl:j<l2.length
     ·have hjl':j<l.length:=by omega
      obtain⟨bk,ok,e4,g4,e5,g5,rfl,hv',i0,i1,i2,i3,i4,i5⟩:=HI.out.2.2.2.1.look hiq hjl'
      obtain⟨bk2,ok2,e4',g4',e5',g5',rfl,hu',j0,j1,j2,j3,j4,j5⟩:=HI.out.2.2.2.2.look hiq hjl
      have HKD:=Lib.hid (eqPs_drop hjl' hjl)
      have CP:=fun d os=>Calls.regrown_of (HIH.out j hjl' l2[j] _ _ _ _ (Go.Sort.grow (redrawn wq d) os) (hiq.below (below_regrown wq d os)) hv' hu')
      have p1:(j:Int)<(l2.length:Int):=by omega
      have G0:=cell_regrown (q0 5)
      have G1:=cell_regrown (q1 5)
      have I0:=cell_regrown i0
      have I1:=cell_regrown i1
      have I2:=cell_regrown i2
      have I3:=cell_regrown i3
      have I4:=cell_regrown i4
      have I5:=cell_regrown i5
      have J0:=cell_regrown j0
      have J1:=cell_regrown j1
      have J2:=cell_regrown j2
      have J3:=cell_regrown j3
      have J4:=cell_regrown j4
      have J5:=cell_regrown j5
      clear hv' hu' i0 i1 i2 i3 i4 i5 j0 j1 j2 j3 j4 j5 q0 q1 hll
      unfold Ar at CP
      cases hq:eqP l[j] l2[j]
      all_goals
       have HQ:=Lib.hid hq
       rw [hq]at CP
       clear hq
       go_wp2_with fail
       refine wp_region_quiet_below (by kernel_rfl) (by kernel_rfl) ?_
       repeat (go_big_quiet_step (exact CP _ _))
       refine wpQuiet_nil ?_
       intro _ hw'
       obtain⟨⟨dq,osq⟩,hw''⟩:=hw'
       subst hw''
       obtain⟨wn,hwn,hw'⟩:∃x,Bw wq x∧x=Go.Sort.grow (redrawn wq dq) osq:=⟨_,below_regrown _ _ _,rfl⟩
       rw [←hw']
       clear hw'
       go_wp2_with fail
      ·go_ret
       exact⟨AQ (by rw [HK1.out,hke.out,HKD.out,HQ.out];simp),(HXA.out.tr HB2.out).tr hwn⟩
      ·go_roundw
       case rel=>exact⟨j+1,by omega,by go_num,by unfold Hid;rw [hke.out,HKD.out,HQ.out];simp,HB2.out.tr hwn⟩
       case measure=>simp [intOf];omega
     ·have hll2:l2.drop j=[]:=List.drop_eq_nil_of_le (by omega)
      have HZ:=Lib.hid hll2
      clear hll2 hll
      go_wp2_with fail
      go_ret
      exact⟨AQ (by rw [HK1.out,hke.out,HZ.out];cases l.drop j<;>simp [E5]),HXA.out.tr HB2.out⟩
theorem eqPl_c:∀(z:Nat) (a:GV),a.sz≤z→∀(b:GV) (H:Hp) (x4 x5 y4 y5:Value) (w:World),Imm H w→RV H a x4 x5→RV H b y4 y5→Calls Tryz.prog 42 #[Ar a x4 x5,Ar b y4 y5] w (Pur w (.bool (eqP a b))):=by
 intro z
 induction z with
 |zero=>intro v hz;have:=v.sz_eq;omega
 |succ z ih=>
  intro a hz b H x4 x5 y4 y5 w hi hv hu
  have hsz:=a.sz_eq
  obtain⟨_,_,_,_,h4,a5,c5,rfl,_,hl5,hc5,hat5⟩:=By.1 hv
  obtain⟨a4,c4,rfl,_,hl4,hc4,hat4⟩:=h4
  obtain⟨_,_,_,_,h4,b5,d5,rfl,_,_,hd5,hbt5⟩:=By.1 hu
  obtain⟨b4,d4,rfl,_,_,hd4,hbt4⟩:=h4
  rcases a with⟨k,n,f,s,ks,l⟩
  rcases b with⟨k2,n2,f2,s2,ks2,l2⟩
  cases hN:(Dx k && Dx k2)
  ·exact eqPl_rest k n f s ks l k2 n2 f2 s2 ks2 l2 hN a4 a5 b4 b5 c4 c5 d4 d5 H w hi hl4 hl5 hat4 hbt4 hat5 hbt5 (fun j hj b x4 x5 y4 y5 w h1 h2 h3=>ih _ (by have:=D0 hj;simp only at hsz;omega) b H x4 x5 y4 y5 w h1 h2 h3)
  ·have h12:=Bool.and_eq_true_iff.1 hN
   exact eqPl_num k n f s ks l k2 n2 f2 s2 ks2 l2 (by have:=h12.1;simpa [Dx]using this) (by have:=h12.2;simpa [Dx]using this) a4 a5 b4 b5 c4 c5 d4 d5 w
end
section
open Go Go.RowKit
theorem keepB12 {w w1:World}(hb:Bw w w1){p0 p1 p2 p3 p4 p5 p6 p7 p8 p9 p10 p11:Addr}{u0 u1 u2 u3 u4 u5 u6 u7 u8 u9 u10 u11:Value}(h:w.cell? p0=some u0∧w.cell? p1=some u1∧w.cell? p2=some u2∧w.cell? p3=some u3∧w.cell? p4=some u4∧w.cell? p5=some u5∧w.cell? p6=some u6∧w.cell? p7=some u7∧w.cell? p8=some u8∧w.cell? p9=some u9∧w.cell? p10=some u10∧w.cell? p11=some u11):w1.cell? p0=some u0∧w1.cell? p1=some u1∧w1.cell? p2=some u2∧w1.cell? p3=some u3∧w1.cell? p4=some u4∧w1.cell? p5=some u5∧w1.cell? p6=some u6∧w1.cell? p7=some u7∧w1.cell? p8=some u8∧w1.cell? p9=some u9∧w1.cell? p10=some u10∧w1.cell? p11=some u11:=by
 obtain⟨h0,h1,h2,h3,h4,h5,h6,h7,h8,h9,h10,h11⟩:=h
 exact⟨cell_later hb h0,cell_later hb h1,cell_later hb h2,cell_later hb h3,cell_later hb h4,cell_later hb h5,cell_later hb h6,cell_later hb h7,cell_later hb h8,cell_later hb h9,cell_later hb h10,cell_later hb h11⟩
theorem ES (a b:GV)(H:Hp)(x4 x5 y4 y5:Value)(w:World)(hi:Imm H w)(hv:RV H a x4 x5)(hu:RV H b y4 y5):Calls Tryz.prog 18 #[Ar a x4 x5,Ar b y4 y5] w (Pur w (.bool (eqP (Aa a) (Aa b)))):=by
 have HCA:=Lib.hid (fun w0 h0=>EJ a.sz a (Nat.le_refl _) H x4 x5 w0 h0 hv)
 have HCB:=Lib.hid (fun w0 h0=>EJ b.sz b (Nat.le_refl _) H y4 y5 w0 h0 hu)
 have HI:=Lib.hid hi
 obtain⟨p4,e4,p5,e5,rfl,rfl⟩:=hv.open
 obtain⟨q4,g4,q5,g5,rfl,rfl⟩:=hu.open
 clear hi hv hu
 unfold Ar at HCA HCB⊢
 go_enter Tryz.func18,Tryz.ntmps18
 go_upto_region 1 with(fail)
 obtain⟨wz,hwz⟩:∃wz,wz=(w.alloc (.cells #[.int .i64 a.k, .int .i64 a.n, .float .f64 a.f, .string a.s, .slice p4 a.ks.length e4, .slice p5 a.l.length e5] 35)).alloc (.cells #[.int .i64 b.k, .int .i64 b.n, .float .f64 b.f, .string b.s, .slice q4 b.ks.length g4, .slice q5 b.l.length g5] 35):=⟨_,rfl⟩
 have HZ:Hid (Bw w wz):=by subst hwz;exact Am
 have S0:wz.cell? ⟨w.heap.size,0,none⟩=some (.int .i64 a.k)∧wz.cell? ⟨w.heap.size,1,none⟩=some (.int .i64 a.n)∧wz.cell? ⟨w.heap.size,2,none⟩=some (.float .f64 a.f)∧wz.cell? ⟨w.heap.size,3,none⟩=some (.string a.s)∧wz.cell? ⟨w.heap.size,4,none⟩=some (.slice p4 a.ks.length e4)∧wz.cell? ⟨w.heap.size,5,none⟩=some (.slice p5 a.l.length e5)∧wz.cell? ⟨w.heap.size+1,0,none⟩=some (.int .i64 b.k)∧wz.cell? ⟨w.heap.size+1,1,none⟩=some (.int .i64 b.n)∧wz.cell? ⟨w.heap.size+1,2,none⟩=some (.float .f64 b.f)∧wz.cell? ⟨w.heap.size+1,3,none⟩=some (.string b.s)∧wz.cell? ⟨w.heap.size+1,4,none⟩=some (.slice q4 b.ks.length g4)∧wz.cell? ⟨w.heap.size+1,5,none⟩=some (.slice q5 b.l.length g5):=by
  have g0:=(A1 (show wz.heap[w.heap.size]?=some (.cells #[.int .i64 a.k, .int .i64 a.n, .float .f64 a.f, .string a.s, .slice p4 a.ks.length e4, .slice p5 a.l.length e5] 35) by subst hwz;exact Cs)).1
  have g1:=(A1 (show wz.heap[w.heap.size+1]?=some (.cells #[.int .i64 b.k, .int .i64 b.n, .float .f64 b.f, .string b.s, .slice q4 b.ks.length g4, .slice q5 b.l.length g5] 35) by subst hwz;exact BF)).1
  exact⟨g0 0,g0 1,g0 2,g0 3,g0 4,g0 5,g1 0,g1 1,g1 2,g1 3,g1 4,g1 5⟩
 rw [←hwz]
 clear hwz
 have S1:wz.drew.cell? ⟨w.heap.size,0,none⟩=some (.int .i64 a.k)∧wz.drew.cell? ⟨w.heap.size,1,none⟩=some (.int .i64 a.n)∧wz.drew.cell? ⟨w.heap.size,2,none⟩=some (.float .f64 a.f)∧wz.drew.cell? ⟨w.heap.size,3,none⟩=some (.string a.s)∧wz.drew.cell? ⟨w.heap.size,4,none⟩=some (.slice p4 a.ks.length e4)∧wz.drew.cell? ⟨w.heap.size,5,none⟩=some (.slice p5 a.l.length e5)∧wz.drew.cell? ⟨w.heap.size+1,0,none⟩=some (.int .i64 b.k)∧wz.drew.cell? ⟨w.heap.size+1,1,none⟩=some (.int .i64 b.n)∧wz.drew.cell? ⟨w.heap.size+1,2,none⟩=some (.float .f64 b.f)∧wz.drew.cell? ⟨w.heap.size+1,3,none⟩=some (.string b.s)∧wz.drew.cell? ⟨w.heap.size+1,4,none⟩=some (.slice q4 b.ks.length g4)∧wz.drew.cell? ⟨w.heap.size+1,5,none⟩=some (.slice q5 b.l.length g5):=S0
 have HIX:=Lib.hid (HI.out.below HZ.out)
 refine wp_region_held_drew (S:=fun w'=>w'.cell? ⟨w.heap.size,0,none⟩=some (.int .i64 a.k)∧w'.cell? ⟨w.heap.size,1,none⟩=some (.int .i64 a.n)∧w'.cell? ⟨w.heap.size,2,none⟩=some (.float .f64 a.f)∧w'.cell? ⟨w.heap.size,3,none⟩=some (.string a.s)∧w'.cell? ⟨w.heap.size,4,none⟩=some (.slice p4 a.ks.length e4)∧w'.cell? ⟨w.heap.size,5,none⟩=some (.slice p5 a.l.length e5)∧w'.cell? ⟨w.heap.size+1,0,none⟩=some (.int .i64 b.k)∧w'.cell? ⟨w.heap.size+1,1,none⟩=some (.int .i64 b.n)∧w'.cell? ⟨w.heap.size+1,2,none⟩=some (.float .f64 b.f)∧w'.cell? ⟨w.heap.size+1,3,none⟩=some (.string b.s)∧w'.cell? ⟨w.heap.size+1,4,none⟩=some (.slice q4 b.ks.length g4)∧w'.cell? ⟨w.heap.size+1,5,none⟩=some (.slice q5 b.l.length g5)) (by kernel_rfl) S1 (fun hHeld=> ?_)
 refine tk 0 ?_
 try simp only [Act.put,tka,tkb,tkc]
 refine tk 2 ?_
 try simp only [Act.put,tka,tkb,tkc]
 refine wpAnyH_ready (rs:=[1]) (by kernel_rfl) (by simp) ?_
 refine AllReadyH.cons rfl (fun K hK=> ?_) AllReadyH.nil
 go_simp
 refine(HCA.out _ (HIX.out.below Bw.rfl.dr)).mono ?_
 rintro _ w1 ⟨hb1',m4,m5,rfl,hm'⟩
 have hb1:Bw wz w1:=Bw.rfl.dr.tr hb1'
 have hm:RV (At w1) (Aa a) m4 m5:=hm'.mono (Imm.grow (HIX.out.below Bw.rfl.dr) hb1')
 have H1:=Lib.hid (And.intro hb1 hm)
 have S2:=keepB12 hb1 S0
 clear hb1' hm' hm hb1
 refine hK.out _ _ S2 (fun hHeld=> ?_)
 clear hK K
 try simp only [Act.put,tka,tkb,tkc]
 refine wpAnyH_ready (rs:=[3]) (by kernel_rfl) (by simp) ?_
 refine AllReadyH.cons rfl (fun K hK=> ?_) AllReadyH.nil
 go_simp
 refine(HCB.out w1 (HIX.out.below H1.out.1)).mono ?_
 rintro _ w2 ⟨hb2,n4,n5,rfl,hn'⟩
 have hn:RV (At w2) (Aa b) n4 n5:=hn'.mono (Imm.grow (HIX.out.below H1.out.1) hb2)
 have H2:=Lib.hid (And.intro hb2 hn)
 have S3:=keepB12 hb2 S2
 clear hn' hn hb2
 refine hK.out _ _ S3 (fun hHeld=> ?_)
 clear hK K
 try simp only [Act.put,tka,tkb,tkc]
 refine wpAnyH_ready (rs:=[4]) (by kernel_rfl) (by simp) ?_
 refine AllReadyH.cons rfl (fun K hK=> ?_) AllReadyH.nil
 go_simp
 refine(eqPl_c _ (Aa a) (Nat.le_refl _) (Aa b) (At w2) _ _ _ _ w2 (Imm.self w2) (H1.out.2.mono (AG H2.out.1)) H2.out.2).mono ?_
 rintro _ w3 ⟨rfl,hb3⟩
 have S4:=keepB12 hb3 S3
 have H3:=Lib.hid hb3
 clear hb3
 refine hK.out _ _ S4 (fun hHeld=> ?_)
 clear hK K
 try simp only [Act.put,tka,tkb,tkc]
 refine wpAnyH_ready (rs:=[5]) (by kernel_rfl) (by simp) ?_
 refine AllReadyH.cons rfl (fun K hK=> ?_) AllReadyH.nil
 go_simp
 refine hK.out _ _ S4 (fun hHeld=> ?_)
 clear hK K
 try simp only [Act.put,tka,tkb,tkc]
 refine wpAnyH_done (by kernel_rfl) ?_ _
 clear hHeld S0 S1 S2 S3 S4
 go_wp2_with fail
 go_ret
 exact⟨rfl,((HZ.out.tr H1.out.1).tr H2.out.1).tr H3.out⟩
theorem sameValue_c (a b:GV)(h:Aa a=Aa b)(H:Hp)(x4 x5 y4 y5:Value)(w:World)(hi:Imm H w)(hv:RV H a x4 x5)(hu:RV H b y4 y5):Calls Tryz.prog 19 #[Ar a x4 x5,Ar b y4 y5] w (Pur w (.bool (true))):=by
 have HCA:=Lib.hid (fun w0 h0=>EJ a.sz a (Nat.le_refl _) H x4 x5 w0 h0 hv)
 have HCB:=Lib.hid (fun w0 h0=>EJ b.sz b (Nat.le_refl _) H y4 y5 w0 h0 hu)
 have HI:=Lib.hid hi
 obtain⟨p4,e4,p5,e5,rfl,rfl⟩:=hv.open
 obtain⟨q4,g4,q5,g5,rfl,rfl⟩:=hu.open
 clear hi hv hu
 unfold Ar at HCA HCB⊢
 go_enter Tryz.func19,Tryz.ntmps19
 go_upto_region 1 with(fail)
 obtain⟨wz,hwz⟩:∃wz,wz=(w.alloc (.cells #[.int .i64 a.k, .int .i64 a.n, .float .f64 a.f, .string a.s, .slice p4 a.ks.length e4, .slice p5 a.l.length e5] 35)).alloc (.cells #[.int .i64 b.k, .int .i64 b.n, .float .f64 b.f, .string b.s, .slice q4 b.ks.length g4, .slice q5 b.l.length g5] 35):=⟨_,rfl⟩
 have HZ:Hid (Bw w wz):=by subst hwz;exact Am
 have S0:wz.cell? ⟨w.heap.size,0,none⟩=some (.int .i64 a.k)∧wz.cell? ⟨w.heap.size,1,none⟩=some (.int .i64 a.n)∧wz.cell? ⟨w.heap.size,2,none⟩=some (.float .f64 a.f)∧wz.cell? ⟨w.heap.size,3,none⟩=some (.string a.s)∧wz.cell? ⟨w.heap.size,4,none⟩=some (.slice p4 a.ks.length e4)∧wz.cell? ⟨w.heap.size,5,none⟩=some (.slice p5 a.l.length e5)∧wz.cell? ⟨w.heap.size+1,0,none⟩=some (.int .i64 b.k)∧wz.cell? ⟨w.heap.size+1,1,none⟩=some (.int .i64 b.n)∧wz.cell? ⟨w.heap.size+1,2,none⟩=some (.float .f64 b.f)∧wz.cell? ⟨w.heap.size+1,3,none⟩=some (.string b.s)∧wz.cell? ⟨w.heap.size+1,4,none⟩=some (.slice q4 b.ks.length g4)∧wz.cell? ⟨w.heap.size+1,5,none⟩=some (.slice q5 b.l.length g5):=by
  have g0:=(A1 (show wz.heap[w.heap.size]?=some (.cells #[.int .i64 a.k, .int .i64 a.n, .float .f64 a.f, .string a.s, .slice p4 a.ks.length e4, .slice p5 a.l.length e5] 35) by subst hwz;exact Cs)).1
  have g1:=(A1 (show wz.heap[w.heap.size+1]?=some (.cells #[.int .i64 b.k, .int .i64 b.n, .float .f64 b.f, .string b.s, .slice q4 b.ks.length g4, .slice q5 b.l.length g5] 35) by subst hwz;exact BF)).1
  exact⟨g0 0,g0 1,g0 2,g0 3,g0 4,g0 5,g1 0,g1 1,g1 2,g1 3,g1 4,g1 5⟩
 rw [←hwz]
 clear hwz
 have S1:wz.drew.cell? ⟨w.heap.size,0,none⟩=some (.int .i64 a.k)∧wz.drew.cell? ⟨w.heap.size,1,none⟩=some (.int .i64 a.n)∧wz.drew.cell? ⟨w.heap.size,2,none⟩=some (.float .f64 a.f)∧wz.drew.cell? ⟨w.heap.size,3,none⟩=some (.string a.s)∧wz.drew.cell? ⟨w.heap.size,4,none⟩=some (.slice p4 a.ks.length e4)∧wz.drew.cell? ⟨w.heap.size,5,none⟩=some (.slice p5 a.l.length e5)∧wz.drew.cell? ⟨w.heap.size+1,0,none⟩=some (.int .i64 b.k)∧wz.drew.cell? ⟨w.heap.size+1,1,none⟩=some (.int .i64 b.n)∧wz.drew.cell? ⟨w.heap.size+1,2,none⟩=some (.float .f64 b.f)∧wz.drew.cell? ⟨w.heap.size+1,3,none⟩=some (.string b.s)∧wz.drew.cell? ⟨w.heap.size+1,4,none⟩=some (.slice q4 b.ks.length g4)∧wz.drew.cell? ⟨w.heap.size+1,5,none⟩=some (.slice q5 b.l.length g5):=S0
 have HIX:=Lib.hid (HI.out.below HZ.out)
 refine wp_region_held_drew (S:=fun w'=>w'.cell? ⟨w.heap.size,0,none⟩=some (.int .i64 a.k)∧w'.cell? ⟨w.heap.size,1,none⟩=some (.int .i64 a.n)∧w'.cell? ⟨w.heap.size,2,none⟩=some (.float .f64 a.f)∧w'.cell? ⟨w.heap.size,3,none⟩=some (.string a.s)∧w'.cell? ⟨w.heap.size,4,none⟩=some (.slice p4 a.ks.length e4)∧w'.cell? ⟨w.heap.size,5,none⟩=some (.slice p5 a.l.length e5)∧w'.cell? ⟨w.heap.size+1,0,none⟩=some (.int .i64 b.k)∧w'.cell? ⟨w.heap.size+1,1,none⟩=some (.int .i64 b.n)∧w'.cell? ⟨w.heap.size+1,2,none⟩=some (.float .f64 b.f)∧w'.cell? ⟨w.heap.size+1,3,none⟩=some (.string b.s)∧w'.cell? ⟨w.heap.size+1,4,none⟩=some (.slice q4 b.ks.length g4)∧w'.cell? ⟨w.heap.size+1,5,none⟩=some (.slice q5 b.l.length g5)) (by kernel_rfl) S1 (fun hHeld=> ?_)
 refine tk 0 ?_
 try simp only [Act.put,tka,tkb,tkc]
 refine tk 2 ?_
 try simp only [Act.put,tka,tkb,tkc]
 refine wpAnyH_ready (rs:=[1]) (by kernel_rfl) (by simp) ?_
 refine AllReadyH.cons rfl (fun K hK=> ?_) AllReadyH.nil
 go_simp
 refine(HCA.out _ (HIX.out.below Bw.rfl.dr)).mono ?_
 rintro _ w1 ⟨hb1',m4,m5,rfl,hm'⟩
 have hb1:Bw wz w1:=Bw.rfl.dr.tr hb1'
 have hm:RV (At w1) (Aa a) m4 m5:=hm'.mono (Imm.grow (HIX.out.below Bw.rfl.dr) hb1')
 have H1:=Lib.hid (And.intro hb1 hm)
 have S2:=keepB12 hb1 S0
 clear hb1' hm' hm hb1
 refine hK.out _ _ S2 (fun hHeld=> ?_)
 clear hK K
 try simp only [Act.put,tka,tkb,tkc]
 refine wpAnyH_ready (rs:=[3]) (by kernel_rfl) (by simp) ?_
 refine AllReadyH.cons rfl (fun K hK=> ?_) AllReadyH.nil
 go_simp
 refine(HCB.out w1 (HIX.out.below H1.out.1)).mono ?_
 rintro _ w2 ⟨hb2,n4,n5,rfl,hn'⟩
 have hn:RV (At w2) (Aa b) n4 n5:=hn'.mono (Imm.grow (HIX.out.below H1.out.1) hb2)
 have H2:=Lib.hid (And.intro hb2 hn)
 have S3:=keepB12 hb2 S2
 clear hn' hn hb2
 refine hK.out _ _ S3 (fun hHeld=> ?_)
 clear hK K
 try simp only [Act.put,tka,tkb,tkc]
 refine wpAnyH_ready (rs:=[4]) (by kernel_rfl) (by simp) ?_
 refine AllReadyH.cons rfl (fun K hK=> ?_) AllReadyH.nil
 go_simp
 refine(ident_c _ (Aa b) (Nat.le_refl _) (At w2) _ _ _ _ w2 (Imm.self w2) (by rw [←h];exact H1.out.2.mono (AG H2.out.1)) H2.out.2).mono ?_
 rintro _ w3 ⟨rfl,hb3⟩
 have S4:=keepB12 hb3 S3
 have H3:=Lib.hid hb3
 clear hb3
 refine hK.out _ _ S4 (fun hHeld=> ?_)
 clear hK K
 try simp only [Act.put,tka,tkb,tkc]
 refine wpAnyH_ready (rs:=[5]) (by kernel_rfl) (by simp) ?_
 refine AllReadyH.cons rfl (fun K hK=> ?_) AllReadyH.nil
 go_simp
 refine hK.out _ _ S4 (fun hHeld=> ?_)
 clear hK K
 try simp only [Act.put,tka,tkb,tkc]
 refine wpAnyH_done (by kernel_rfl) ?_ _
 clear hHeld S0 S1 S2 S3 S4
 go_wp2_with fail
 go_ret
 exact⟨rfl,((HZ.out.tr H1.out.1).tr H2.out.1).tr H3.out⟩
end
end Go.Proofs.YtmghkmhgpmcoaaaGreat
