/- What the claim's theorem 'proved' rests on: Eq, Meth. -/
import Derived.LaidEqlPtr
import Derived.Defers
import Derived.Test.YtmghkmhgpmcoaaaGreatP11
set_option linter.unusedVariables false
set_option linter.unusedSimpArgs false
set_option maxRecDepth 100000
set_option maxHeartbeats 10000000
namespace Go.Proofs.YtmghkmhgpmcoaaaGreat
section
open Go Go.RowKit
mutual
def Bf:Ap→Bool
 |⟨_,li,ma⟩=>nnLi li && nnMa ma
def Dt:As→Bool
 |⟨named,_,atom,_⟩=>named||Bf atom
def nnLi:List B3→Bool
 |[]=>true
 |⟨elem,_,_⟩::_=>Dt elem
def nnMa:List Bp→Bool
 |[]=>true
 |⟨fields,elem,_⟩::_=>nnFs fields && Dt elem
def nnFs:List Au→Bool
 |[]=>true
 |⟨_,t,d⟩::r=>(match d with|[]=>true|v::_=>Es (Ak v)) && Dt t && nnFs r
end
def cellsA (H:Hp)(b o:Nat)(x1 x2 x3:Option Addr):Prop:=A8 H b o=some (.pointer x1)∧A8 H b (o+1)=some (.pointer x2)∧A8 H b (o+2)=some (.pointer x3)
def Fw (a:Ap):Prop:=∀(H:Hp) (x1 x2 x3:Option Addr) (b o b2 o2:Nat) (w:World),Imm H w→AI Ak H a x1 x2 x3→cellsA H b o x1 x2 x3→cellsA H b2 o2 x1 x2 x3→Bf a=true→
 Calls Tryz.prog 92 #[.pointer (some ⟨b,o,none⟩), .pointer (some ⟨b2,o2,none⟩)] w (Pur w (.bool true))
def CEqRef (r:As):Prop:=∀(H:Hp) (y:Six) (b o b2 o2:Nat) (w:World),Imm H w→BM Ak H r y→E7 H b o y→E7 H b2 o2 y→Dt r=true→
 Calls Tryz.prog 59 #[.pointer (some ⟨b,o,none⟩), .pointer (some ⟨b2,o2,none⟩)] w (Pur w (.bool true))
def CEqLi (l:List B3):Prop:=∀(H:Hp) (b:Nat) (w:World),Imm H w→QLi Ak H l (some ⟨b,0,none⟩)→nnLi l=true→
 Calls Tryz.prog 115 #[.pointer (some ⟨b,0,none⟩), .pointer (some ⟨b,0,none⟩)] w (Pur w (.bool true))
def CEqMa (l:List Bp):Prop:=∀(H:Hp) (b:Nat) (w:World),Imm H w→QMa Ak H l (some ⟨b,0,none⟩)→nnMa l=true→
 Calls Tryz.prog 116 #[.pointer (some ⟨b,0,none⟩), .pointer (some ⟨b,0,none⟩)] w (Pur w (.bool true))
def CEqField (t:Au):Prop:=∀(H:Hp) (y:Six) (xd:Value) (b o:Nat) (w:World),Imm H w→E' Ak H t y xd→cellsG H b o t y xd→nnFs [t]=true→
 Calls Tryz.prog 135 #[.pointer (some ⟨b,o,none⟩), .pointer (some ⟨b,o,none⟩)] w (Pur w (.bool true))
theorem Bk.two {H:Hp}{s:ByteArray}{x:Option Addr}(h:Bk H s x):x=none∨∃b,x=some ⟨b,0,none⟩∧∃s,A8 H b 0=some (.string s):=by
 unfold Bk at h;split at h
 ·exact .inl h
 ·obtain⟨b,e,hc,_⟩:=h;exact .inr ⟨b,e,s,hc⟩
@[go_sem] theorem rel_same (w:World) (a:Addr):(binOp .neq 81 (.pointer (some a)) (.pointer (some a))).run Tryz.prog w= .ok (.bool false) w:=by
 have:=run_eql_ptr_same (P:=Tryz.prog) (w:=w) (tp:=81) (te:=122) (j:=(Tryz.prog.info? 122).getD default) a (by kernel_rfl) (by kernel_rfl)
 simp [binOp]at this⊢
 cases hx:Sem.run Tryz.prog (Op.equal 81 (.pointer (some a)) (.pointer (some a))) w<;>rw [hx]at this<;>simp [Result.andThen]at this⊢
 exact this
theorem eqRef_of (r:As)(ha:Fw ⟨.empty,[],[]⟩)(hb:r.named=false→Fw r.atom):CEqRef r:=by
 intro H y b o b2 o2 w hi hr hc hc2 hn
 obtain⟨h1,h4⟩:=EB.1 hr
 have HA:Hid (∀w0,Imm H w0→Calls Tryz.prog 92 #[.pointer (some ⟨b,o+1,none⟩), .pointer (some ⟨b2,o2+1,none⟩)] w0 (Pur w0 (.bool true))):=by
  intro w0 h0
  rcases h1 with⟨e1,_,e2,e3,e4⟩|⟨e1,_,hq⟩
  ·exact ha H y.y1 y.y2 y.y3 b (o+1) b2 (o2+1) w0 h0 (Ej.2 ⟨by unfold Bk;rw [if_pos (by simp)];exact e2,by simp only [QLi];exact e3,by simp only [QMa];exact e4⟩) ⟨hc.2.1,hc.2.2.1,hc.2.2.2.1⟩ ⟨hc2.2.1,hc2.2.2.1,hc2.2.2.2.1⟩ rfl
  ·refine hb e1 H y.y1 y.y2 y.y3 b (o+1) b2 (o2+1) w0 h0 hq ⟨hc.2.1,hc.2.2.1,hc.2.2.2.1⟩ ⟨hc2.2.1,hc2.2.2.1,hc2.2.2.2.1⟩ ?_
   rcases r with⟨named,name,atom,rel⟩
   simp only [Dt]at hn e1;rw [e1]at hn;simpa using hn
 have hy0:y.y0=none∨∃bn,y.y0=some ⟨bn,0,none⟩∧∃s,A8 H bn 0=some (.string s):=by
  rcases h1 with⟨_,⟨bn,e,hcn,_⟩,_⟩|⟨_,e,_⟩
  ·exact .inr ⟨bn,e,_,hcn⟩
  ·exact .inl e
 have hy4:=h4.two
 have HC:=Lib.hid (And.intro hc hc2)
 rcases y with⟨y0,y1,y2,y3,y4⟩
 simp only at *
 clear hc hc2 hn ha hb h1 h4 hr
 have hiw:=hi
 have hBw:Bw w w:=Bw.rfl
 have hw:Bw w w:=Bw.rfl
 clear hi
 have g0:True:=trivial
 have g4:True:=trivial
 have g5:True:=trivial
 have m0:True:=trivial
 have m4:True:=trivial
 have m5:True:=trivial
 have k0:True:=trivial
 have k4:True:=trivial
 have k5:True:=trivial
 have l0:True:=trivial
 have l4:True:=trivial
 have l5:True:=trivial
 go_enter Tryz.func59,Tryz.ntmps59
 rcases hy4 with rfl|⟨b4,rfl,s4,h4⟩
 all_goals
  rcases hy0 with rfl|⟨bn,rfl,s0,h0⟩
 ·have hiw:=hiw.below hw
  have hBw:=hBw.tr hw
  clear g0 g4 g5 m0 m4 m5 k0 k4 k5 l0 l4 l5
  obtain⟨k0,_,_,_,k4,k5⟩:=HC.out.1.look hiw
  obtain⟨l0,_,_,_,l4,l5⟩:=HC.out.2.look hiw
  simp only at k0 k4 k5 l0 l4 l5
  have g0:=cell_regrown k0
  have g4:=cell_regrown k4
  have g5:=cell_regrown k5
  have m0:=cell_regrown l0
  have m4:=cell_regrown l4
  have m5:=cell_regrown l5
  go_wp2_with fail
  refine wp_region_quiet_below (by kernel_rfl) (by kernel_rfl) ?_
  repeat (go_big_quiet_step (fail))
  refine wpQuiet_nil ?_
  intro _ hw'
  obtain⟨⟨dq,osq⟩,hw''⟩:=hw'
  subst hw''
  obtain⟨wa,hwa,hw'⟩:∃x,Bw w x∧x=Go.Sort.grow (redrawn w dq) osq:=⟨_,below_regrown _ _ _,rfl⟩
  rw [←hw']
  clear hw'
  have hiwa:=hiw.below hwa
  have hBwa:=hBw.tr hwa
  clear g0 g4 g5 m0 m4 m5 k0 k4 k5 l0 l4 l5
  obtain⟨k0,_,_,_,k4,k5⟩:=HC.out.1.look hiwa
  obtain⟨l0,_,_,_,l4,l5⟩:=HC.out.2.look hiwa
  simp only at k0 k4 k5 l0 l4 l5
  have g0:=cell_regrown k0
  have g4:=cell_regrown k4
  have g5:=cell_regrown k5
  have m0:=cell_regrown l0
  have m4:=cell_regrown l4
  have m5:=cell_regrown l5
  go_wp2_with fail
  refine wp_region_quiet_below (by kernel_rfl) (by kernel_rfl) ?_
  repeat (go_big_quiet_step (fail))
  refine wpQuiet_nil ?_
  intro _ hw'
  obtain⟨⟨dq,osq⟩,hw''⟩:=hw'
  subst hw''
  obtain⟨wb,hwb,hw'⟩:∃x,Bw wa x∧x=Go.Sort.grow (redrawn wa dq) osq:=⟨_,below_regrown _ _ _,rfl⟩
  rw [←hw']
  clear hw'
  have hiwb:=hiwa.below hwb
  have hBwb:=hBwa.tr hwb
  clear g0 g4 g5 m0 m4 m5 k0 k4 k5 l0 l4 l5
  obtain⟨k0,_,_,_,k4,k5⟩:=HC.out.1.look hiwb
  obtain⟨l0,_,_,_,l4,l5⟩:=HC.out.2.look hiwb
  simp only at k0 k4 k5 l0 l4 l5
  have g0:=cell_regrown k0
  have g4:=cell_regrown k4
  have g5:=cell_regrown k5
  have m0:=cell_regrown l0
  have m4:=cell_regrown l4
  have m5:=cell_regrown l5
  go_wp2_with fail
  refine wp_region_quiet_below (by kernel_rfl) (by kernel_rfl) ?_
  repeat (go_big_quiet_step (fail))
  refine wpQuiet_nil ?_
  intro _ hw'
  obtain⟨⟨dq,osq⟩,hw''⟩:=hw'
  subst hw''
  obtain⟨wc,hwc,hw'⟩:∃x,Bw wb x∧x=Go.Sort.grow (redrawn wb dq) osq:=⟨_,below_regrown _ _ _,rfl⟩
  rw [←hw']
  clear hw'
  have hiwc:=hiwb.below hwc
  have hBwc:=hBwb.tr hwc
  clear g0 g4 g5 m0 m4 m5 k0 k4 k5 l0 l4 l5
  obtain⟨k0,_,_,_,k4,k5⟩:=HC.out.1.look hiwc
  obtain⟨l0,_,_,_,l4,l5⟩:=HC.out.2.look hiwc
  simp only at k0 k4 k5 l0 l4 l5
  have g0:=cell_regrown k0
  have g4:=cell_regrown k4
  have g5:=cell_regrown k5
  have m0:=cell_regrown l0
  have m4:=cell_regrown l4
  have m5:=cell_regrown l5
  go_wp2_with fail
  have CA:=fun d os=>Calls.regrown_of (HA.out (Go.Sort.grow (redrawn wc d) os) (hiwc.below (below_regrown wc d os)))
  refine wp_region_quiet_below (by kernel_rfl) (by kernel_rfl) ?_
  repeat (go_big_quiet_step (exact CA _ _))
  refine wpQuiet_nil ?_
  intro _ hw'
  obtain⟨⟨dq,osq⟩,hw''⟩:=hw'
  subst hw''
  obtain⟨wd,hwd,hw'⟩:∃x,Bw wc x∧x=Go.Sort.grow (redrawn wc dq) osq:=⟨_,below_regrown _ _ _,rfl⟩
  rw [←hw']
  clear hw'
  go_wp2_with fail
  go_ret
  exact⟨rfl,hBwc.tr hwd⟩
 ·have hiw:=hiw.below hw
  have hBw:=hBw.tr hw
  clear g0 g4 g5 m0 m4 m5 k0 k4 k5 l0 l4 l5
  obtain⟨k0,_,_,_,k4,k5⟩:=HC.out.1.look hiw
  obtain⟨l0,_,_,_,l4,l5⟩:=HC.out.2.look hiw
  simp only at k0 k4 k5 l0 l4 l5
  have g0:=cell_regrown k0
  have g4:=cell_regrown k4
  have g5:=cell_regrown k5
  have m0:=cell_regrown l0
  have m4:=cell_regrown l4
  have m5:=cell_regrown l5
  go_wp2_with fail
  refine wp_region_quiet_below (by kernel_rfl) (by kernel_rfl) ?_
  repeat (go_big_quiet_step (fail))
  refine wpQuiet_nil ?_
  intro _ hw'
  obtain⟨⟨dq,osq⟩,hw''⟩:=hw'
  subst hw''
  obtain⟨wa,hwa,hw'⟩:∃x,Bw w x∧x=Go.Sort.grow (redrawn w dq) osq:=⟨_,below_regrown _ _ _,rfl⟩
  rw [←hw']
  clear hw'
  have hiwa:=hiw.below hwa
  have hBwa:=hBw.tr hwa
  clear g0 g4 g5 m0 m4 m5 k0 k4 k5 l0 l4 l5
  obtain⟨k0,_,_,_,k4,k5⟩:=HC.out.1.look hiwa
  obtain⟨l0,_,_,_,l4,l5⟩:=HC.out.2.look hiwa
  simp only at k0 k4 k5 l0 l4 l5
  have g0:=cell_regrown k0
  have g4:=cell_regrown k4
  have g5:=cell_regrown k5
  have m0:=cell_regrown l0
  have m4:=cell_regrown l4
  have m5:=cell_regrown l5
  go_wp2_with fail
  have n0:=cell_regrown (hiwa.cell h0)
  refine wp_region_quiet_below (by kernel_rfl) (by kernel_rfl) ?_
  repeat (go_big_quiet_step (fail))
  refine wpQuiet_nil ?_
  intro _ hw'
  obtain⟨⟨dq,osq⟩,hw''⟩:=hw'
  subst hw''
  obtain⟨wb,hwb,hw'⟩:∃x,Bw wa x∧x=Go.Sort.grow (redrawn wa dq) osq:=⟨_,below_regrown _ _ _,rfl⟩
  rw [←hw']
  clear hw'
  have hiwb:=hiwa.below hwb
  have hBwb:=hBwa.tr hwb
  clear g0 g4 g5 m0 m4 m5 k0 k4 k5 l0 l4 l5
  obtain⟨k0,_,_,_,k4,k5⟩:=HC.out.1.look hiwb
  obtain⟨l0,_,_,_,l4,l5⟩:=HC.out.2.look hiwb
  simp only at k0 k4 k5 l0 l4 l5
  have g0:=cell_regrown k0
  have g4:=cell_regrown k4
  have g5:=cell_regrown k5
  have m0:=cell_regrown l0
  have m4:=cell_regrown l4
  have m5:=cell_regrown l5
  go_wp2_with fail
  refine wp_region_quiet_below (by kernel_rfl) (by kernel_rfl) ?_
  repeat (go_big_quiet_step (fail))
  refine wpQuiet_nil ?_
  intro _ hw'
  obtain⟨⟨dq,osq⟩,hw''⟩:=hw'
  subst hw''
  obtain⟨wc,hwc,hw'⟩:∃x,Bw wb x∧x=Go.Sort.grow (redrawn wb dq) osq:=⟨_,below_regrown _ _ _,rfl⟩
  rw [←hw']
  clear hw'
  have hiwc:=hiwb.below hwc
  have hBwc:=hBwb.tr hwc
  clear g0 g4 g5 m0 m4 m5 k0 k4 k5 l0 l4 l5
  obtain⟨k0,_,_,_,k4,k5⟩:=HC.out.1.look hiwc
  obtain⟨l0,_,_,_,l4,l5⟩:=HC.out.2.look hiwc
  simp only at k0 k4 k5 l0 l4 l5
  have g0:=cell_regrown k0
  have g4:=cell_regrown k4
  have g5:=cell_regrown k5
  have m0:=cell_regrown l0
  have m4:=cell_regrown l4
  have m5:=cell_regrown l5
  go_wp2_with fail
  refine wp_region_quiet_below (by kernel_rfl) (by kernel_rfl) ?_
  repeat (go_big_quiet_step (fail))
  refine wpQuiet_nil ?_
  intro _ hw'
  obtain⟨⟨dq,osq⟩,hw''⟩:=hw'
  subst hw''
  obtain⟨wd,hwd,hw'⟩:∃x,Bw wc x∧x=Go.Sort.grow (redrawn wc dq) osq:=⟨_,below_regrown _ _ _,rfl⟩
  rw [←hw']
  clear hw'
  have hiwd:=hiwc.below hwd
  have hBwd:=hBwc.tr hwd
  clear g0 g4 g5 m0 m4 m5 k0 k4 k5 l0 l4 l5
  obtain⟨k0,_,_,_,k4,k5⟩:=HC.out.1.look hiwd
  obtain⟨l0,_,_,_,l4,l5⟩:=HC.out.2.look hiwd
  simp only at k0 k4 k5 l0 l4 l5
  have g0:=cell_regrown k0
  have g4:=cell_regrown k4
  have g5:=cell_regrown k5
  have m0:=cell_regrown l0
  have m4:=cell_regrown l4
  have m5:=cell_regrown l5
  go_wp2_with fail
  have CA:=fun d os=>Calls.regrown_of (HA.out (Go.Sort.grow (redrawn wd d) os) (hiwd.below (below_regrown wd d os)))
  refine wp_region_quiet_below (by kernel_rfl) (by kernel_rfl) ?_
  repeat (go_big_quiet_step (exact CA _ _))
  refine wpQuiet_nil ?_
  intro _ hw'
  obtain⟨⟨dq,osq⟩,hw''⟩:=hw'
  subst hw''
  obtain⟨we,hwe,hw'⟩:∃x,Bw wd x∧x=Go.Sort.grow (redrawn wd dq) osq:=⟨_,below_regrown _ _ _,rfl⟩
  rw [←hw']
  clear hw'
  go_wp2_with fail
  go_ret
  exact⟨rfl,hBwd.tr hwe⟩
 ·have hiw:=hiw.below hw
  have hBw:=hBw.tr hw
  clear g0 g4 g5 m0 m4 m5 k0 k4 k5 l0 l4 l5
  obtain⟨k0,_,_,_,k4,k5⟩:=HC.out.1.look hiw
  obtain⟨l0,_,_,_,l4,l5⟩:=HC.out.2.look hiw
  simp only at k0 k4 k5 l0 l4 l5
  have g0:=cell_regrown k0
  have g4:=cell_regrown k4
  have g5:=cell_regrown k5
  have m0:=cell_regrown l0
  have m4:=cell_regrown l4
  have m5:=cell_regrown l5
  go_wp2_with fail
  refine wp_region_quiet_below (by kernel_rfl) (by kernel_rfl) ?_
  repeat (go_big_quiet_step (fail))
  refine wpQuiet_nil ?_
  intro _ hw'
  obtain⟨⟨dq,osq⟩,hw''⟩:=hw'
  subst hw''
  obtain⟨wa,hwa,hw'⟩:∃x,Bw w x∧x=Go.Sort.grow (redrawn w dq) osq:=⟨_,below_regrown _ _ _,rfl⟩
  rw [←hw']
  clear hw'
  have hiwa:=hiw.below hwa
  have hBwa:=hBw.tr hwa
  clear g0 g4 g5 m0 m4 m5 k0 k4 k5 l0 l4 l5
  obtain⟨k0,_,_,_,k4,k5⟩:=HC.out.1.look hiwa
  obtain⟨l0,_,_,_,l4,l5⟩:=HC.out.2.look hiwa
  simp only at k0 k4 k5 l0 l4 l5
  have g0:=cell_regrown k0
  have g4:=cell_regrown k4
  have g5:=cell_regrown k5
  have m0:=cell_regrown l0
  have m4:=cell_regrown l4
  have m5:=cell_regrown l5
  go_wp2_with fail
  refine wp_region_quiet_below (by kernel_rfl) (by kernel_rfl) ?_
  repeat (go_big_quiet_step (fail))
  refine wpQuiet_nil ?_
  intro _ hw'
  obtain⟨⟨dq,osq⟩,hw''⟩:=hw'
  subst hw''
  obtain⟨wb,hwb,hw'⟩:∃x,Bw wa x∧x=Go.Sort.grow (redrawn wa dq) osq:=⟨_,below_regrown _ _ _,rfl⟩
  rw [←hw']
  clear hw'
  have hiwb:=hiwa.below hwb
  have hBwb:=hBwa.tr hwb
  clear g0 g4 g5 m0 m4 m5 k0 k4 k5 l0 l4 l5
  obtain⟨k0,_,_,_,k4,k5⟩:=HC.out.1.look hiwb
  obtain⟨l0,_,_,_,l4,l5⟩:=HC.out.2.look hiwb
  simp only at k0 k4 k5 l0 l4 l5
  have g0:=cell_regrown k0
  have g4:=cell_regrown k4
  have g5:=cell_regrown k5
  have m0:=cell_regrown l0
  have m4:=cell_regrown l4
  have m5:=cell_regrown l5
  go_wp2_with fail
  refine wp_region_quiet_below (by kernel_rfl) (by kernel_rfl) ?_
  repeat (go_big_quiet_step (fail))
  refine wpQuiet_nil ?_
  intro _ hw'
  obtain⟨⟨dq,osq⟩,hw''⟩:=hw'
  subst hw''
  obtain⟨wc,hwc,hw'⟩:∃x,Bw wb x∧x=Go.Sort.grow (redrawn wb dq) osq:=⟨_,below_regrown _ _ _,rfl⟩
  rw [←hw']
  clear hw'
  have hiwc:=hiwb.below hwc
  have hBwc:=hBwb.tr hwc
  clear g0 g4 g5 m0 m4 m5 k0 k4 k5 l0 l4 l5
  obtain⟨k0,_,_,_,k4,k5⟩:=HC.out.1.look hiwc
  obtain⟨l0,_,_,_,l4,l5⟩:=HC.out.2.look hiwc
  simp only at k0 k4 k5 l0 l4 l5
  have g0:=cell_regrown k0
  have g4:=cell_regrown k4
  have g5:=cell_regrown k5
  have m0:=cell_regrown l0
  have m4:=cell_regrown l4
  have m5:=cell_regrown l5
  go_wp2_with fail
  have CA:=fun d os=>Calls.regrown_of (HA.out (Go.Sort.grow (redrawn wc d) os) (hiwc.below (below_regrown wc d os)))
  refine wp_region_quiet_below (by kernel_rfl) (by kernel_rfl) ?_
  repeat (go_big_quiet_step (exact CA _ _))
  refine wpQuiet_nil ?_
  intro _ hw'
  obtain⟨⟨dq,osq⟩,hw''⟩:=hw'
  subst hw''
  obtain⟨wd,hwd,hw'⟩:∃x,Bw wc x∧x=Go.Sort.grow (redrawn wc dq) osq:=⟨_,below_regrown _ _ _,rfl⟩
  rw [←hw']
  clear hw'
  go_wp2_with fail
  go_ret
  exact⟨rfl,hBwc.tr hwd⟩
 ·have hiw:=hiw.below hw
  have hBw:=hBw.tr hw
  clear g0 g4 g5 m0 m4 m5 k0 k4 k5 l0 l4 l5
  obtain⟨k0,_,_,_,k4,k5⟩:=HC.out.1.look hiw
  obtain⟨l0,_,_,_,l4,l5⟩:=HC.out.2.look hiw
  simp only at k0 k4 k5 l0 l4 l5
  have g0:=cell_regrown k0
  have g4:=cell_regrown k4
  have g5:=cell_regrown k5
  have m0:=cell_regrown l0
  have m4:=cell_regrown l4
  have m5:=cell_regrown l5
  go_wp2_with fail
  refine wp_region_quiet_below (by kernel_rfl) (by kernel_rfl) ?_
  repeat (go_big_quiet_step (fail))
  refine wpQuiet_nil ?_
  intro _ hw'
  obtain⟨⟨dq,osq⟩,hw''⟩:=hw'
  subst hw''
  obtain⟨wa,hwa,hw'⟩:∃x,Bw w x∧x=Go.Sort.grow (redrawn w dq) osq:=⟨_,below_regrown _ _ _,rfl⟩
  rw [←hw']
  clear hw'
  have hiwa:=hiw.below hwa
  have hBwa:=hBw.tr hwa
  clear g0 g4 g5 m0 m4 m5 k0 k4 k5 l0 l4 l5
  obtain⟨k0,_,_,_,k4,k5⟩:=HC.out.1.look hiwa
  obtain⟨l0,_,_,_,l4,l5⟩:=HC.out.2.look hiwa
  simp only at k0 k4 k5 l0 l4 l5
  have g0:=cell_regrown k0
  have g4:=cell_regrown k4
  have g5:=cell_regrown k5
  have m0:=cell_regrown l0
  have m4:=cell_regrown l4
  have m5:=cell_regrown l5
  go_wp2_with fail
  have n0:=cell_regrown (hiwa.cell h0)
  refine wp_region_quiet_below (by kernel_rfl) (by kernel_rfl) ?_
  repeat (go_big_quiet_step (fail))
  refine wpQuiet_nil ?_
  intro _ hw'
  obtain⟨⟨dq,osq⟩,hw''⟩:=hw'
  subst hw''
  obtain⟨wb,hwb,hw'⟩:∃x,Bw wa x∧x=Go.Sort.grow (redrawn wa dq) osq:=⟨_,below_regrown _ _ _,rfl⟩
  rw [←hw']
  clear hw'
  have hiwb:=hiwa.below hwb
  have hBwb:=hBwa.tr hwb
  clear g0 g4 g5 m0 m4 m5 k0 k4 k5 l0 l4 l5
  obtain⟨k0,_,_,_,k4,k5⟩:=HC.out.1.look hiwb
  obtain⟨l0,_,_,_,l4,l5⟩:=HC.out.2.look hiwb
  simp only at k0 k4 k5 l0 l4 l5
  have g0:=cell_regrown k0
  have g4:=cell_regrown k4
  have g5:=cell_regrown k5
  have m0:=cell_regrown l0
  have m4:=cell_regrown l4
  have m5:=cell_regrown l5
  go_wp2_with fail
  refine wp_region_quiet_below (by kernel_rfl) (by kernel_rfl) ?_
  repeat (go_big_quiet_step (fail))
  refine wpQuiet_nil ?_
  intro _ hw'
  obtain⟨⟨dq,osq⟩,hw''⟩:=hw'
  subst hw''
  obtain⟨wc,hwc,hw'⟩:∃x,Bw wb x∧x=Go.Sort.grow (redrawn wb dq) osq:=⟨_,below_regrown _ _ _,rfl⟩
  rw [←hw']
  clear hw'
  have hiwc:=hiwb.below hwc
  have hBwc:=hBwb.tr hwc
  clear g0 g4 g5 m0 m4 m5 k0 k4 k5 l0 l4 l5
  obtain⟨k0,_,_,_,k4,k5⟩:=HC.out.1.look hiwc
  obtain⟨l0,_,_,_,l4,l5⟩:=HC.out.2.look hiwc
  simp only at k0 k4 k5 l0 l4 l5
  have g0:=cell_regrown k0
  have g4:=cell_regrown k4
  have g5:=cell_regrown k5
  have m0:=cell_regrown l0
  have m4:=cell_regrown l4
  have m5:=cell_regrown l5
  go_wp2_with fail
  refine wp_region_quiet_below (by kernel_rfl) (by kernel_rfl) ?_
  repeat (go_big_quiet_step (fail))
  refine wpQuiet_nil ?_
  intro _ hw'
  obtain⟨⟨dq,osq⟩,hw''⟩:=hw'
  subst hw''
  obtain⟨wd,hwd,hw'⟩:∃x,Bw wc x∧x=Go.Sort.grow (redrawn wc dq) osq:=⟨_,below_regrown _ _ _,rfl⟩
  rw [←hw']
  clear hw'
  have hiwd:=hiwc.below hwd
  have hBwd:=hBwc.tr hwd
  clear g0 g4 g5 m0 m4 m5 k0 k4 k5 l0 l4 l5
  obtain⟨k0,_,_,_,k4,k5⟩:=HC.out.1.look hiwd
  obtain⟨l0,_,_,_,l4,l5⟩:=HC.out.2.look hiwd
  simp only at k0 k4 k5 l0 l4 l5
  have g0:=cell_regrown k0
  have g4:=cell_regrown k4
  have g5:=cell_regrown k5
  have m0:=cell_regrown l0
  have m4:=cell_regrown l4
  have m5:=cell_regrown l5
  go_wp2_with fail
  have CA:=fun d os=>Calls.regrown_of (HA.out (Go.Sort.grow (redrawn wd d) os) (hiwd.below (below_regrown wd d os)))
  refine wp_region_quiet_below (by kernel_rfl) (by kernel_rfl) ?_
  repeat (go_big_quiet_step (exact CA _ _))
  refine wpQuiet_nil ?_
  intro _ hw'
  obtain⟨⟨dq,osq⟩,hw''⟩:=hw'
  subst hw''
  obtain⟨we,hwe,hw'⟩:∃x,Bw wd x∧x=Go.Sort.grow (redrawn wd dq) osq:=⟨_,below_regrown _ _ _,rfl⟩
  rw [←hw']
  clear hw'
  go_wp2_with fail
  go_ret
  exact⟨rfl,hBwd.tr hwe⟩
theorem cellsA.look {H:Hp}{w:World}(hi:Imm H w){b o:Nat}{x1 x2 x3:Option Addr}(h:cellsA H b o x1 x2 x3):
  w.cell? ⟨b,o,none⟩=some (.pointer x1)∧w.cell? ⟨b,o+1,none⟩=some (.pointer x2)∧w.cell? ⟨b,o+2,none⟩=some (.pointer x3):=⟨hi.cell h.1,hi.cell h.2.1,hi.cell h.2.2⟩
theorem QLi.two {H:Hp}{l:List B3}{x:Option Addr}(h:QLi Ak H l x):x=none∨∃b,x=some ⟨b,0,none⟩:=by
 cases l with
 |nil=>simp only [QLi]at h;exact .inl h
 |cons t r=>obtain⟨_,_,_⟩:=t;simp only [QLi]at h;obtain⟨b,_,_,e,_⟩:=h;exact .inr ⟨b,e⟩
theorem QMa.two {H:Hp}{l:List Bp}{x:Option Addr}(h:QMa Ak H l x):x=none∨∃b,x=some ⟨b,0,none⟩:=by
 cases l with
 |nil=>simp only [QMa]at h;exact .inl h
 |cons t r=>obtain⟨_,_,_⟩:=t;simp only [QMa]at h;obtain⟨b,_,_,e,_⟩:=h;exact .inr ⟨b,e⟩
theorem eqAtom_of (a:Ap)(hl:CEqLi a.li)(hm:CEqMa a.ma):Fw a:=by
 intro H x1 x2 x3 b o b2 o2 w hi hr hc hc2 hn
 obtain⟨h1,h2,h3⟩:=Ej.1 hr
 have hn2:nnLi a.li=true∧nnMa a.ma=true:=by cases a;simpa [Bf]using hn
 have HL:=Lib.hid (And.intro (And.intro hl hm) (And.intro (And.intro h2 h3) hn2))
 have HC:=Lib.hid (And.intro hc hc2)
 have hx1:=h1.two
 have hx2:=h2.two
 have hx3:=h3.two
 clear hc hc2 hn hn2 hl hm h1 h2 h3 hr
 have hiw:=hi
 have hBw:Bw w w:=Bw.rfl
 have hw:Bw w w:=Bw.rfl
 clear hi
 have k0:True:=trivial
 have k1:True:=trivial
 have k2:True:=trivial
 have l0:True:=trivial
 have l1:True:=trivial
 have l2:True:=trivial
 have g0:True:=trivial
 have g1:True:=trivial
 have g2:True:=trivial
 have m0:True:=trivial
 have m1:True:=trivial
 have m2:True:=trivial
 go_enter Tryz.func92,Tryz.ntmps92
 rcases hx1 with rfl|⟨c1,rfl,s1,hs1⟩
 all_goals
  rcases hx2 with rfl|⟨c2,rfl⟩
 all_goals
  rcases hx3 with rfl|⟨c3,rfl⟩
 ·have hiw:=hiw.below hw
  have hBw:=hBw.tr hw
  clear k0 k1 k2 l0 l1 l2 g0 g1 g2 m0 m1 m2
  obtain⟨k0,k1,k2⟩:=HC.out.1.look hiw
  obtain⟨l0,l1,l2⟩:=HC.out.2.look hiw
  have g0:=cell_regrown k0
  have g1:=cell_regrown k1
  have g2:=cell_regrown k2
  have m0:=cell_regrown l0
  have m1:=cell_regrown l1
  have m2:=cell_regrown l2
  go_wp2_with fail
  refine wp_region_quiet_below (by kernel_rfl) (by kernel_rfl) ?_
  repeat (go_big_quiet_step (fail))
  refine wpQuiet_nil ?_
  intro _ hw'
  obtain⟨⟨dq,osq⟩,hw''⟩:=hw'
  subst hw''
  obtain⟨wa,hwa,hw'⟩:∃x,Bw w x∧x=Go.Sort.grow (redrawn w dq) osq:=⟨_,below_regrown _ _ _,rfl⟩
  rw [←hw']
  clear hw'
  have hiwa:=hiw.below hwa
  have hBwa:=hBw.tr hwa
  clear k0 k1 k2 l0 l1 l2 g0 g1 g2 m0 m1 m2
  obtain⟨k0,k1,k2⟩:=HC.out.1.look hiwa
  obtain⟨l0,l1,l2⟩:=HC.out.2.look hiwa
  have g0:=cell_regrown k0
  have g1:=cell_regrown k1
  have g2:=cell_regrown k2
  have m0:=cell_regrown l0
  have m1:=cell_regrown l1
  have m2:=cell_regrown l2
  go_wp2_with fail
  refine wp_region_quiet_below (by kernel_rfl) (by kernel_rfl) ?_
  repeat (go_big_quiet_step (fail))
  refine wpQuiet_nil ?_
  intro _ hw'
  obtain⟨⟨dq,osq⟩,hw''⟩:=hw'
  subst hw''
  obtain⟨wb,hwb,hw'⟩:∃x,Bw wa x∧x=Go.Sort.grow (redrawn wa dq) osq:=⟨_,below_regrown _ _ _,rfl⟩
  rw [←hw']
  clear hw'
  have hiwb:=hiwa.below hwb
  have hBwb:=hBwa.tr hwb
  clear k0 k1 k2 l0 l1 l2 g0 g1 g2 m0 m1 m2
  obtain⟨k0,k1,k2⟩:=HC.out.1.look hiwb
  obtain⟨l0,l1,l2⟩:=HC.out.2.look hiwb
  have g0:=cell_regrown k0
  have g1:=cell_regrown k1
  have g2:=cell_regrown k2
  have m0:=cell_regrown l0
  have m1:=cell_regrown l1
  have m2:=cell_regrown l2
  go_wp2_with fail
  refine wp_region_quiet_below (by kernel_rfl) (by kernel_rfl) ?_
  repeat (go_big_quiet_step (fail))
  refine wpQuiet_nil ?_
  intro _ hw'
  obtain⟨⟨dq,osq⟩,hw''⟩:=hw'
  subst hw''
  obtain⟨wc,hwc,hw'⟩:∃x,Bw wb x∧x=Go.Sort.grow (redrawn wb dq) osq:=⟨_,below_regrown _ _ _,rfl⟩
  rw [←hw']
  clear hw'
  have hiwc:=hiwb.below hwc
  have hBwc:=hBwb.tr hwc
  clear k0 k1 k2 l0 l1 l2 g0 g1 g2 m0 m1 m2
  obtain⟨k0,k1,k2⟩:=HC.out.1.look hiwc
  obtain⟨l0,l1,l2⟩:=HC.out.2.look hiwc
  have g0:=cell_regrown k0
  have g1:=cell_regrown k1
  have g2:=cell_regrown k2
  have m0:=cell_regrown l0
  have m1:=cell_regrown l1
  have m2:=cell_regrown l2
  go_wp2_with fail
  go_ret
  exact⟨rfl,hBwc⟩
 ·have hiw:=hiw.below hw
  have hBw:=hBw.tr hw
  clear k0 k1 k2 l0 l1 l2 g0 g1 g2 m0 m1 m2
  obtain⟨k0,k1,k2⟩:=HC.out.1.look hiw
  obtain⟨l0,l1,l2⟩:=HC.out.2.look hiw
  have g0:=cell_regrown k0
  have g1:=cell_regrown k1
  have g2:=cell_regrown k2
  have m0:=cell_regrown l0
  have m1:=cell_regrown l1
  have m2:=cell_regrown l2
  go_wp2_with fail
  refine wp_region_quiet_below (by kernel_rfl) (by kernel_rfl) ?_
  repeat (go_big_quiet_step (fail))
  refine wpQuiet_nil ?_
  intro _ hw'
  obtain⟨⟨dq,osq⟩,hw''⟩:=hw'
  subst hw''
  obtain⟨wa,hwa,hw'⟩:∃x,Bw w x∧x=Go.Sort.grow (redrawn w dq) osq:=⟨_,below_regrown _ _ _,rfl⟩
  rw [←hw']
  clear hw'
  have hiwa:=hiw.below hwa
  have hBwa:=hBw.tr hwa
  clear k0 k1 k2 l0 l1 l2 g0 g1 g2 m0 m1 m2
  obtain⟨k0,k1,k2⟩:=HC.out.1.look hiwa
  obtain⟨l0,l1,l2⟩:=HC.out.2.look hiwa
  have g0:=cell_regrown k0
  have g1:=cell_regrown k1
  have g2:=cell_regrown k2
  have m0:=cell_regrown l0
  have m1:=cell_regrown l1
  have m2:=cell_regrown l2
  go_wp2_with fail
  refine wp_region_quiet_below (by kernel_rfl) (by kernel_rfl) ?_
  repeat (go_big_quiet_step (fail))
  refine wpQuiet_nil ?_
  intro _ hw'
  obtain⟨⟨dq,osq⟩,hw''⟩:=hw'
  subst hw''
  obtain⟨wb,hwb,hw'⟩:∃x,Bw wa x∧x=Go.Sort.grow (redrawn wa dq) osq:=⟨_,below_regrown _ _ _,rfl⟩
  rw [←hw']
  clear hw'
  have hiwb:=hiwa.below hwb
  have hBwb:=hBwa.tr hwb
  clear k0 k1 k2 l0 l1 l2 g0 g1 g2 m0 m1 m2
  obtain⟨k0,k1,k2⟩:=HC.out.1.look hiwb
  obtain⟨l0,l1,l2⟩:=HC.out.2.look hiwb
  have g0:=cell_regrown k0
  have g1:=cell_regrown k1
  have g2:=cell_regrown k2
  have m0:=cell_regrown l0
  have m1:=cell_regrown l1
  have m2:=cell_regrown l2
  go_wp2_with fail
  refine wp_region_quiet_below (by kernel_rfl) (by kernel_rfl) ?_
  repeat (go_big_quiet_step (fail))
  refine wpQuiet_nil ?_
  intro _ hw'
  obtain⟨⟨dq,osq⟩,hw''⟩:=hw'
  subst hw''
  obtain⟨wc,hwc,hw'⟩:∃x,Bw wb x∧x=Go.Sort.grow (redrawn wb dq) osq:=⟨_,below_regrown _ _ _,rfl⟩
  rw [←hw']
  clear hw'
  have hiwc:=hiwb.below hwc
  have hBwc:=hBwb.tr hwc
  clear k0 k1 k2 l0 l1 l2 g0 g1 g2 m0 m1 m2
  obtain⟨k0,k1,k2⟩:=HC.out.1.look hiwc
  obtain⟨l0,l1,l2⟩:=HC.out.2.look hiwc
  have g0:=cell_regrown k0
  have g1:=cell_regrown k1
  have g2:=cell_regrown k2
  have m0:=cell_regrown l0
  have m1:=cell_regrown l1
  have m2:=cell_regrown l2
  go_wp2_with fail
  have CA:=fun d os=>Calls.regrown_of (HL.out.1.2 H c3 (Go.Sort.grow (redrawn wc d) os) (hiwc.below (below_regrown wc d os)) HL.out.2.1.2 HL.out.2.2.2)
  refine wp_region_quiet_below (by kernel_rfl) (by kernel_rfl) ?_
  repeat (go_big_quiet_step (exact CA _ _))
  refine wpQuiet_nil ?_
  intro _ hw'
  obtain⟨⟨dq,osq⟩,hw''⟩:=hw'
  subst hw''
  obtain⟨wd,hwd,hw'⟩:∃x,Bw wc x∧x=Go.Sort.grow (redrawn wc dq) osq:=⟨_,below_regrown _ _ _,rfl⟩
  rw [←hw']
  clear hw'
  go_wp2_with fail
  go_ret
  exact⟨rfl,hBwc.tr hwd⟩
 ·have hiw:=hiw.below hw
  have hBw:=hBw.tr hw
  clear k0 k1 k2 l0 l1 l2 g0 g1 g2 m0 m1 m2
  obtain⟨k0,k1,k2⟩:=HC.out.1.look hiw
  obtain⟨l0,l1,l2⟩:=HC.out.2.look hiw
  have g0:=cell_regrown k0
  have g1:=cell_regrown k1
  have g2:=cell_regrown k2
  have m0:=cell_regrown l0
  have m1:=cell_regrown l1
  have m2:=cell_regrown l2
  go_wp2_with fail
  refine wp_region_quiet_below (by kernel_rfl) (by kernel_rfl) ?_
  repeat (go_big_quiet_step (fail))
  refine wpQuiet_nil ?_
  intro _ hw'
  obtain⟨⟨dq,osq⟩,hw''⟩:=hw'
  subst hw''
  obtain⟨wa,hwa,hw'⟩:∃x,Bw w x∧x=Go.Sort.grow (redrawn w dq) osq:=⟨_,below_regrown _ _ _,rfl⟩
  rw [←hw']
  clear hw'
  have hiwa:=hiw.below hwa
  have hBwa:=hBw.tr hwa
  clear k0 k1 k2 l0 l1 l2 g0 g1 g2 m0 m1 m2
  obtain⟨k0,k1,k2⟩:=HC.out.1.look hiwa
  obtain⟨l0,l1,l2⟩:=HC.out.2.look hiwa
  have g0:=cell_regrown k0
  have g1:=cell_regrown k1
  have g2:=cell_regrown k2
  have m0:=cell_regrown l0
  have m1:=cell_regrown l1
  have m2:=cell_regrown l2
  go_wp2_with fail
  refine wp_region_quiet_below (by kernel_rfl) (by kernel_rfl) ?_
  repeat (go_big_quiet_step (fail))
  refine wpQuiet_nil ?_
  intro _ hw'
  obtain⟨⟨dq,osq⟩,hw''⟩:=hw'
  subst hw''
  obtain⟨wb,hwb,hw'⟩:∃x,Bw wa x∧x=Go.Sort.grow (redrawn wa dq) osq:=⟨_,below_regrown _ _ _,rfl⟩
  rw [←hw']
  clear hw'
  have hiwb:=hiwa.below hwb
  have hBwb:=hBwa.tr hwb
  clear k0 k1 k2 l0 l1 l2 g0 g1 g2 m0 m1 m2
  obtain⟨k0,k1,k2⟩:=HC.out.1.look hiwb
  obtain⟨l0,l1,l2⟩:=HC.out.2.look hiwb
  have g0:=cell_regrown k0
  have g1:=cell_regrown k1
  have g2:=cell_regrown k2
  have m0:=cell_regrown l0
  have m1:=cell_regrown l1
  have m2:=cell_regrown l2
  go_wp2_with fail
  refine wp_region_quiet_below (by kernel_rfl) (by kernel_rfl) ?_
  repeat (go_big_quiet_step (fail))
  refine wpQuiet_nil ?_
  intro _ hw'
  obtain⟨⟨dq,osq⟩,hw''⟩:=hw'
  subst hw''
  obtain⟨wc,hwc,hw'⟩:∃x,Bw wb x∧x=Go.Sort.grow (redrawn wb dq) osq:=⟨_,below_regrown _ _ _,rfl⟩
  rw [←hw']
  clear hw'
  have hiwc:=hiwb.below hwc
  have hBwc:=hBwb.tr hwc
  clear k0 k1 k2 l0 l1 l2 g0 g1 g2 m0 m1 m2
  obtain⟨k0,k1,k2⟩:=HC.out.1.look hiwc
  obtain⟨l0,l1,l2⟩:=HC.out.2.look hiwc
  have g0:=cell_regrown k0
  have g1:=cell_regrown k1
  have g2:=cell_regrown k2
  have m0:=cell_regrown l0
  have m1:=cell_regrown l1
  have m2:=cell_regrown l2
  go_wp2_with fail
  have CA:=fun d os=>Calls.regrown_of (HL.out.1.1 H c2 (Go.Sort.grow (redrawn wc d) os) (hiwc.below (below_regrown wc d os)) HL.out.2.1.1 HL.out.2.2.1)
  refine wp_region_quiet_below (by kernel_rfl) (by kernel_rfl) ?_
  repeat (go_big_quiet_step (exact CA _ _))
  refine wpQuiet_nil ?_
  intro _ hw'
  obtain⟨⟨dq,osq⟩,hw''⟩:=hw'
  subst hw''
  obtain⟨wd,hwd,hw'⟩:∃x,Bw wc x∧x=Go.Sort.grow (redrawn wc dq) osq:=⟨_,below_regrown _ _ _,rfl⟩
  rw [←hw']
  clear hw'
  go_wp2_with fail
  go_ret
  exact⟨rfl,hBwc.tr hwd⟩
 ·have hiw:=hiw.below hw
  have hBw:=hBw.tr hw
  clear k0 k1 k2 l0 l1 l2 g0 g1 g2 m0 m1 m2
  obtain⟨k0,k1,k2⟩:=HC.out.1.look hiw
  obtain⟨l0,l1,l2⟩:=HC.out.2.look hiw
  have g0:=cell_regrown k0
  have g1:=cell_regrown k1
  have g2:=cell_regrown k2
  have m0:=cell_regrown l0
  have m1:=cell_regrown l1
  have m2:=cell_regrown l2
  go_wp2_with fail
  refine wp_region_quiet_below (by kernel_rfl) (by kernel_rfl) ?_
  repeat (go_big_quiet_step (fail))
  refine wpQuiet_nil ?_
  intro _ hw'
  obtain⟨⟨dq,osq⟩,hw''⟩:=hw'
  subst hw''
  obtain⟨wa,hwa,hw'⟩:∃x,Bw w x∧x=Go.Sort.grow (redrawn w dq) osq:=⟨_,below_regrown _ _ _,rfl⟩
  rw [←hw']
  clear hw'
  have hiwa:=hiw.below hwa
  have hBwa:=hBw.tr hwa
  clear k0 k1 k2 l0 l1 l2 g0 g1 g2 m0 m1 m2
  obtain⟨k0,k1,k2⟩:=HC.out.1.look hiwa
  obtain⟨l0,l1,l2⟩:=HC.out.2.look hiwa
  have g0:=cell_regrown k0
  have g1:=cell_regrown k1
  have g2:=cell_regrown k2
  have m0:=cell_regrown l0
  have m1:=cell_regrown l1
  have m2:=cell_regrown l2
  go_wp2_with fail
  refine wp_region_quiet_below (by kernel_rfl) (by kernel_rfl) ?_
  repeat (go_big_quiet_step (fail))
  refine wpQuiet_nil ?_
  intro _ hw'
  obtain⟨⟨dq,osq⟩,hw''⟩:=hw'
  subst hw''
  obtain⟨wb,hwb,hw'⟩:∃x,Bw wa x∧x=Go.Sort.grow (redrawn wa dq) osq:=⟨_,below_regrown _ _ _,rfl⟩
  rw [←hw']
  clear hw'
  have hiwb:=hiwa.below hwb
  have hBwb:=hBwa.tr hwb
  clear k0 k1 k2 l0 l1 l2 g0 g1 g2 m0 m1 m2
  obtain⟨k0,k1,k2⟩:=HC.out.1.look hiwb
  obtain⟨l0,l1,l2⟩:=HC.out.2.look hiwb
  have g0:=cell_regrown k0
  have g1:=cell_regrown k1
  have g2:=cell_regrown k2
  have m0:=cell_regrown l0
  have m1:=cell_regrown l1
  have m2:=cell_regrown l2
  go_wp2_with fail
  refine wp_region_quiet_below (by kernel_rfl) (by kernel_rfl) ?_
  repeat (go_big_quiet_step (fail))
  refine wpQuiet_nil ?_
  intro _ hw'
  obtain⟨⟨dq,osq⟩,hw''⟩:=hw'
  subst hw''
  obtain⟨wc,hwc,hw'⟩:∃x,Bw wb x∧x=Go.Sort.grow (redrawn wb dq) osq:=⟨_,below_regrown _ _ _,rfl⟩
  rw [←hw']
  clear hw'
  have hiwc:=hiwb.below hwc
  have hBwc:=hBwb.tr hwc
  clear k0 k1 k2 l0 l1 l2 g0 g1 g2 m0 m1 m2
  obtain⟨k0,k1,k2⟩:=HC.out.1.look hiwc
  obtain⟨l0,l1,l2⟩:=HC.out.2.look hiwc
  have g0:=cell_regrown k0
  have g1:=cell_regrown k1
  have g2:=cell_regrown k2
  have m0:=cell_regrown l0
  have m1:=cell_regrown l1
  have m2:=cell_regrown l2
  go_wp2_with fail
  have CA:=fun d os=>Calls.regrown_of (HL.out.1.1 H c2 (Go.Sort.grow (redrawn wc d) os) (hiwc.below (below_regrown wc d os)) HL.out.2.1.1 HL.out.2.2.1)
  refine wp_region_quiet_below (by kernel_rfl) (by kernel_rfl) ?_
  repeat (go_big_quiet_step (exact CA _ _))
  refine wpQuiet_nil ?_
  intro _ hw'
  obtain⟨⟨dq,osq⟩,hw''⟩:=hw'
  subst hw''
  obtain⟨wd,hwd,hw'⟩:∃x,Bw wc x∧x=Go.Sort.grow (redrawn wc dq) osq:=⟨_,below_regrown _ _ _,rfl⟩
  rw [←hw']
  clear hw'
  go_wp2_with fail
  go_ret
  exact⟨rfl,hBwc.tr hwd⟩
 all_goals
  have hiw:=hiw.below hw
  have hBw:=hBw.tr hw
  clear k0 k1 k2 l0 l1 l2 g0 g1 g2 m0 m1 m2
  obtain⟨k0,k1,k2⟩:=HC.out.1.look hiw
  obtain⟨l0,l1,l2⟩:=HC.out.2.look hiw
  have g0:=cell_regrown k0
  have g1:=cell_regrown k1
  have g2:=cell_regrown k2
  have m0:=cell_regrown l0
  have m1:=cell_regrown l1
  have m2:=cell_regrown l2
  go_wp2_with fail
  refine wp_region_quiet_below (by kernel_rfl) (by kernel_rfl) ?_
  repeat (go_big_quiet_step (fail))
  refine wpQuiet_nil ?_
  intro _ hw'
  obtain⟨⟨dq,osq⟩,hw''⟩:=hw'
  subst hw''
  obtain⟨wa,hwa,hw'⟩:∃x,Bw w x∧x=Go.Sort.grow (redrawn w dq) osq:=⟨_,below_regrown _ _ _,rfl⟩
  rw [←hw']
  clear hw'
  have hiwa:=hiw.below hwa
  have hBwa:=hBw.tr hwa
  clear k0 k1 k2 l0 l1 l2 g0 g1 g2 m0 m1 m2
  obtain⟨k0,k1,k2⟩:=HC.out.1.look hiwa
  obtain⟨l0,l1,l2⟩:=HC.out.2.look hiwa
  have g0:=cell_regrown k0
  have g1:=cell_regrown k1
  have g2:=cell_regrown k2
  have m0:=cell_regrown l0
  have m1:=cell_regrown l1
  have m2:=cell_regrown l2
  go_wp2_with fail
  refine wp_region_quiet_below (by kernel_rfl) (by kernel_rfl) ?_
  repeat (go_big_quiet_step (fail))
  refine wpQuiet_nil ?_
  intro _ hw'
  obtain⟨⟨dq,osq⟩,hw''⟩:=hw'
  subst hw''
  obtain⟨wb,hwb,hw'⟩:∃x,Bw wa x∧x=Go.Sort.grow (redrawn wa dq) osq:=⟨_,below_regrown _ _ _,rfl⟩
  rw [←hw']
  clear hw'
  have hiwb:=hiwa.below hwb
  have hBwb:=hBwa.tr hwb
  clear k0 k1 k2 l0 l1 l2 g0 g1 g2 m0 m1 m2
  obtain⟨k0,k1,k2⟩:=HC.out.1.look hiwb
  obtain⟨l0,l1,l2⟩:=HC.out.2.look hiwb
  have g0:=cell_regrown k0
  have g1:=cell_regrown k1
  have g2:=cell_regrown k2
  have m0:=cell_regrown l0
  have m1:=cell_regrown l1
  have m2:=cell_regrown l2
  go_wp2_with fail
  refine wp_region_quiet_below (by kernel_rfl) (by kernel_rfl) ?_
  repeat (go_big_quiet_step (fail))
  refine wpQuiet_nil ?_
  intro _ hw'
  obtain⟨⟨dq,osq⟩,hw''⟩:=hw'
  subst hw''
  obtain⟨wc,hwc,hw'⟩:∃x,Bw wb x∧x=Go.Sort.grow (redrawn wb dq) osq:=⟨_,below_regrown _ _ _,rfl⟩
  rw [←hw']
  clear hw'
  have hiwc:=hiwb.below hwc
  have hBwc:=hBwb.tr hwc
  clear k0 k1 k2 l0 l1 l2 g0 g1 g2 m0 m1 m2
  obtain⟨k0,k1,k2⟩:=HC.out.1.look hiwc
  obtain⟨l0,l1,l2⟩:=HC.out.2.look hiwc
  have g0:=cell_regrown k0
  have g1:=cell_regrown k1
  have g2:=cell_regrown k2
  have m0:=cell_regrown l0
  have m1:=cell_regrown l1
  have m2:=cell_regrown l2
  go_wp2_with fail
  have n1:=cell_regrown (hiwc.cell hs1)
  refine wp_region_quiet_below (by kernel_rfl) (by kernel_rfl) ?_
  repeat (go_big_quiet_step (fail))
  refine wpQuiet_nil ?_
  intro _ hw'
  obtain⟨⟨dq,osq⟩,hw''⟩:=hw'
  subst hw''
  obtain⟨wd,hwd,hw'⟩:∃x,Bw wc x∧x=Go.Sort.grow (redrawn wc dq) osq:=⟨_,below_regrown _ _ _,rfl⟩
  rw [←hw']
  clear hw'
  go_wp2_with fail
  go_ret
  exact⟨rfl,hBwc.tr hwd⟩
theorem eqLi_of (l:List B3)(he:∀t r,l=t::r→CEqRef t.elem):CEqLi l:=by
 intro H b w hi hr hn
 rcases l with _|⟨⟨elem,rel,keys⟩,lr⟩
 ·simp only [QLi]at hr;cases hr
 simp only [QLi]at hr
 simp only [nnLi]at hn
 obtain⟨b',y,xk,e,h0,h6,h7,hrs,⟨ak,ck,rfl,hnil,hkl,hkc,hat⟩,hq⟩:=hr
 cases e
 have HL:=Lib.hid (And.intro (he _ _ rfl) (And.intro h0 (And.intro hq hn)))
 have HC:=Lib.hid (And.intro h6 h7)
 have HAT:=Lib.hid hat
 clear he h0 hq hn h6 h7 hat
 unfold lim at hkl
 have hiw:=hi
 have hBw:Bw w w:=Bw.rfl
 have hw:Bw w w:=Bw.rfl
 clear hi
 have k6:True:=trivial
 have k7:True:=trivial
 have g6:True:=trivial
 have g7:True:=trivial
 simp only at HL
 go_enter Tryz.func115,Tryz.ntmps115
 have hiw:=hiw.below hw
 have hBw:=hBw.tr hw
 clear k6 k7 g6 g7
 have k6:=hiw.cell HC.out.1
 have k7:=hiw.cell HC.out.2
 have g6:=cell_regrown k6
 have g7:=cell_regrown k7
 go_wp2_with fail
 have CA:=fun d os=>Calls.regrown_of (HL.out.1 H y b 0 b 0 (Go.Sort.grow (redrawn w d) os) (hiw.below (below_regrown w d os)) HL.out.2.2.1 HL.out.2.1 HL.out.2.1 HL.out.2.2.2)
 refine wp_region_quiet_below (by kernel_rfl) (by kernel_rfl) ?_
 repeat (go_big_quiet_step (exact CA _ _))
 refine wpQuiet_nil ?_
 intro _ hw'
 obtain⟨⟨dq,osq⟩,hw''⟩:=hw'
 subst hw''
 obtain⟨wa,hwa,hw'⟩:∃x,Bw w x∧x=Go.Sort.grow (redrawn w dq) osq:=⟨_,below_regrown _ _ _,rfl⟩
 rw [←hw']
 clear hw'
 clear CA
 have hiwa:=hiw.below hwa
 have hBwa:=hBw.tr hwa
 clear k6 k7 g6 g7
 have k6:=hiwa.cell HC.out.1
 have k7:=hiwa.cell HC.out.2
 have g6:=cell_regrown k6
 have g7:=cell_regrown k7
 go_wp2_with fail
 refine wp_region_quiet_below (by kernel_rfl) (by kernel_rfl) ?_
 repeat (go_big_quiet_step (fail))
 refine wpQuiet_nil ?_
 intro _ hw'
 obtain⟨⟨dq,osq⟩,hw''⟩:=hw'
 subst hw''
 obtain⟨wb,hwb,hw'⟩:∃x,Bw wa x∧x=Go.Sort.grow (redrawn wa dq) osq:=⟨_,below_regrown _ _ _,rfl⟩
 rw [←hw']
 clear hw'
 have hiwb:=hiwa.below hwb
 have hBwb:=hBwa.tr hwb
 clear k6 k7 g6 g7
 have k6:=hiwb.cell HC.out.1
 have k7:=hiwb.cell HC.out.2
 have g6:=cell_regrown k6
 have g7:=cell_regrown k7
 go_wp2_with fail
 refine wp_region_quiet_below (by kernel_rfl) (by kernel_rfl) ?_
 repeat (go_big_quiet_step (fail))
 refine wpQuiet_nil ?_
 intro _ hw'
 obtain⟨⟨dq,osq⟩,hw''⟩:=hw'
 subst hw''
 obtain⟨wc,hwc,hw'⟩:∃x,Bw wb x∧x=Go.Sort.grow (redrawn wb dq) osq:=⟨_,below_regrown _ _ _,rfl⟩
 rw [←hw']
 clear hw'
 have hiwc:=hiwb.below hwc
 have hBwc:=hBwb.tr hwc
 clear k6 k7 g6 g7
 have k6:=hiwc.cell HC.out.1
 have k7:=hiwc.cell HC.out.2
 have g6:=cell_regrown k6
 have g7:=cell_regrown k7
 go_wp2_with fail
 go_loopw [51] (fun i wr=>∃j:Nat,j≤keys.length∧i= .int .i64 (j:Int)∧Bw w wr) (fun i _=>((keys.length:Int) - intOf i).toNat)
 case atStart=>exact⟨0,Nat.zero_le _,rfl,hBwc⟩
 case round=>
  rename_i wr
  obtain⟨j,hj,rfl,hBwr⟩:=hrel
  clear k6 k7 g6 g7
  have hiwr:=hiw.below hBwr
  have k6:=hiwr.cell HC.out.1
  have k7:=hiwr.cell HC.out.2
  have g6:=cell_regrown k6
  have g7:=cell_regrown k7
  by_cases hjl:j<keys.length
  ·obtain⟨bk,o,rfl,hc,hs⟩:=HAT.out.get j hjl
   rw [Nat.zero_add]at hc
   have n0:=cell_regrown (hiwr.cell hc)
   clear hc
   go_wp2_with fail
   refine wp_region_quiet_below (by kernel_rfl) (by kernel_rfl) ?_
   repeat (go_big_quiet_step (fail))
   refine wpQuiet_nil ?_
   intro _ hw'
   obtain⟨⟨dq,osq⟩,hw''⟩:=hw'
   subst hw''
   obtain⟨wx,hwx,hw'⟩:∃x,Bw wr x∧x=Go.Sort.grow (redrawn wr dq) osq:=⟨_,below_regrown _ _ _,rfl⟩
   rw [←hw']
   clear hw'
   go_wp2_with fail
   go_roundw
   case rel=>exact⟨j+1,by omega,by go_num,hBwr.tr hwx⟩
   case measure=>simp [intOf];omega
  ·go_wp2_with fail
   go_ret
   exact⟨rfl,hBwr⟩
theorem eqField_of (t:Au)(he:CEqRef t.type):CEqField t:=by
 intro H y xd b o w hi hq hc hn
 obtain⟨name,type,dflt⟩:=t
 obtain⟨hqs,hqr,hqd⟩:=hq
 obtain⟨c0,cq,c7⟩:=hc
 simp only [nnFs,Bool.and_eq_true,and_true]at hn
 simp only at *
 have hd:∀w0,Imm H w0→Calls Tryz.prog 150 #[xd,xd] w0 (Pur w0 (.bool true)):=by
  intro w0 h0
  cases dflt with
  |nil=>cases hqd;exact deep_c _ .null (Nat.le_refl _) H .nilIface w0 h0 (by simp only [RJ]) rfl
  |cons v r=>exact deep_c _ _ (Nat.le_refl _) H xd w0 h0 hqd hn.1
 have hany:IsAny xd:=QDflt.isAny hqd
 have HL:=Lib.hid (And.intro he (And.intro cq (And.intro hqr hn.2)))
 have HD:=Lib.hid hd
 have HC:=Lib.hid (And.intro c0 (And.intro cq c7))
 clear he cq hqr hn hd c0 c7 hqd hqs
 have hiw:=hi
 have hBw:Bw w w:=Bw.rfl
 have hw:Bw w w:=Bw.rfl
 clear hi
 have k0:True:=trivial
 have k7:True:=trivial
 have g0:True:=trivial
 have g7:True:=trivial
 go_enter Tryz.func135,Tryz.ntmps135
 rcases hany with rfl|⟨T,v,rfl⟩
 all_goals
  have hiw:=hiw.below hw
  have hBw:=hBw.tr hw
  clear k0 k7 g0 g7
  have k0:=hiw.cell HC.out.1
  have k7:=hiw.cell HC.out.2.2
  have g0:=cell_regrown k0
  have g7:=cell_regrown k7
  go_wp2_with fail
  refine wp_region_quiet_below (by kernel_rfl) (by kernel_rfl) ?_
  repeat (go_big_quiet_step (fail))
  refine wpQuiet_nil ?_
  intro _ hw'
  obtain⟨⟨dq,osq⟩,hw''⟩:=hw'
  subst hw''
  obtain⟨wa,hwa,hw'⟩:∃x,Bw w x∧x=Go.Sort.grow (redrawn w dq) osq:=⟨_,below_regrown _ _ _,rfl⟩
  rw [←hw']
  clear hw'
  have hiwa:=hiw.below hwa
  have hBwa:=hBw.tr hwa
  clear k0 k7 g0 g7
  have k0:=hiwa.cell HC.out.1
  have k7:=hiwa.cell HC.out.2.2
  have g0:=cell_regrown k0
  have g7:=cell_regrown k7
  go_wp2_with fail
  have CD:=fun d os=>Calls.regrown_of (HD.out (Go.Sort.grow (redrawn wa d) os) (hiwa.below (below_regrown wa d os)))
  refine wp_region_quiet_below (by kernel_rfl) (by kernel_rfl) ?_
  repeat (go_big_quiet_step (exact CD _ _))
  refine wpQuiet_nil ?_
  intro _ hw'
  obtain⟨⟨dq,osq⟩,hw''⟩:=hw'
  subst hw''
  obtain⟨wb,hwb,hw'⟩:∃x,Bw wa x∧x=Go.Sort.grow (redrawn wa dq) osq:=⟨_,below_regrown _ _ _,rfl⟩
  rw [←hw']
  clear hw'
  clear CD
  have hiwb:=hiwa.below hwb
  have hBwb:=hBwa.tr hwb
  clear k0 k7 g0 g7
  have k0:=hiwb.cell HC.out.1
  have k7:=hiwb.cell HC.out.2.2
  have g0:=cell_regrown k0
  have g7:=cell_regrown k7
  go_wp2_with fail
  have CA:=fun d os=>Calls.regrown_of (HL.out.1 H y b (o+1) b (o+1) (Go.Sort.grow (redrawn wb d) os) (hiwb.below (below_regrown wb d os)) HL.out.2.2.1 HL.out.2.1 HL.out.2.1 HL.out.2.2.2)
  refine wp_region_quiet_below (by kernel_rfl) (by kernel_rfl) ?_
  repeat (go_big_quiet_step (exact CA _ _))
  refine wpQuiet_nil ?_
  intro _ hw'
  obtain⟨⟨dq,osq⟩,hw''⟩:=hw'
  subst hw''
  obtain⟨wc,hwc,hw'⟩:∃x,Bw wb x∧x=Go.Sort.grow (redrawn wb dq) osq:=⟨_,below_regrown _ _ _,rfl⟩
  rw [←hw']
  clear hw'
  go_wp2_with fail
  go_ret
  exact⟨rfl,hBwb.tr hwc⟩
theorem nnFs_get:∀{l:List Au} (h:nnFs l=true) {j:Nat} (hj:j<l.length),nnFs [l[j]]=true
 |⟨_,_,_⟩::r,h,0,_=>by
  simp only [nnFs,Bool.and_eq_true]at h
  simp only [List.getElem_cons_zero,nnFs,Bool.and_eq_true]
  exact⟨h.1,trivial⟩
 |⟨_,_,_⟩::r,h,j+1,hj=>by
  simp only [nnFs,Bool.and_eq_true]at h
  exact nnFs_get h.2 (by simpa using hj)
theorem eqMa_of (l:List Bp)(he:∀t r,l=t::r→CEqRef t.elem)(hf:∀t r,l=t::r→∀j (h:j<t.fields.length),CEqField t.fields[j]):CEqMa l:=by
 intro H b w hi hr hn
 rcases l with _|⟨⟨fields,elem,rel⟩,lr⟩
 ·simp only [QMa]at hr;cases hr
 simp only [QMa]at hr
 simp only [nnMa,Bool.and_eq_true]at hn
 obtain⟨b',xf,y,e,h0,h1,h2,h8,hrs,⟨ak,ck,rfl,hnil,hkl,hkc,hat⟩,hq⟩:=hr
 cases e
 have HL:=Lib.hid (And.intro (he _ _ rfl) (And.intro h2 (And.intro hq hn.2)))
 have HF:=Lib.hid (And.intro (hf _ _ rfl) hn.1)
 have HC:=Lib.hid (And.intro h0 (And.intro h1 h8))
 have HAT:=Lib.hid hat
 clear he hf h0 hq hn h1 h2 h8 hat
 unfold lim at hkl
 have hiw:=hi
 have hBw:Bw w w:=Bw.rfl
 have hw:Bw w w:=Bw.rfl
 clear hi
 have k0:True:=trivial
 have k1:True:=trivial
 have k8:True:=trivial
 have g0:True:=trivial
 have g1:True:=trivial
 have g8:True:=trivial
 simp only at HL HF
 go_enter Tryz.func116,Tryz.ntmps116
 have hiw:=hiw.below hw
 have hBw:=hBw.tr hw
 clear k0 k1 k8 g0 g1 g8
 have k0:=hiw.cell HC.out.1
 have k1:=hiw.cell HC.out.2.1
 have k8:=hiw.cell HC.out.2.2
 have g0:=cell_regrown k0
 have g1:=cell_regrown k1
 have g8:=cell_regrown k8
 go_wp2_with fail
 have CA:=fun d os=>Calls.regrown_of (HL.out.1 H y b 2 b 2 (Go.Sort.grow (redrawn w d) os) (hiw.below (below_regrown w d os)) HL.out.2.2.1 HL.out.2.1 HL.out.2.1 HL.out.2.2.2)
 refine wp_region_quiet_below (by kernel_rfl) (by kernel_rfl) ?_
 repeat (go_big_quiet_step (exact CA _ _))
 refine wpQuiet_nil ?_
 intro _ hw'
 obtain⟨⟨dq,osq⟩,hw''⟩:=hw'
 subst hw''
 obtain⟨wa,hwa,hw'⟩:∃x,Bw w x∧x=Go.Sort.grow (redrawn w dq) osq:=⟨_,below_regrown _ _ _,rfl⟩
 rw [←hw']
 clear hw'
 clear CA
 have hiwa:=hiw.below hwa
 have hBwa:=hBw.tr hwa
 clear k0 k1 k8 g0 g1 g8
 have k0:=hiwa.cell HC.out.1
 have k1:=hiwa.cell HC.out.2.1
 have k8:=hiwa.cell HC.out.2.2
 have g0:=cell_regrown k0
 have g1:=cell_regrown k1
 have g8:=cell_regrown k8
 go_wp2_with fail
 refine wp_region_quiet_below (by kernel_rfl) (by kernel_rfl) ?_
 repeat (go_big_quiet_step (fail))
 refine wpQuiet_nil ?_
 intro _ hw'
 obtain⟨⟨dq,osq⟩,hw''⟩:=hw'
 subst hw''
 obtain⟨wb,hwb,hw'⟩:∃x,Bw wa x∧x=Go.Sort.grow (redrawn wa dq) osq:=⟨_,below_regrown _ _ _,rfl⟩
 rw [←hw']
 clear hw'
 have hiwb:=hiwa.below hwb
 have hBwb:=hBwa.tr hwb
 clear k0 k1 k8 g0 g1 g8
 have k0:=hiwb.cell HC.out.1
 have k1:=hiwb.cell HC.out.2.1
 have k8:=hiwb.cell HC.out.2.2
 have g0:=cell_regrown k0
 have g1:=cell_regrown k1
 have g8:=cell_regrown k8
 go_wp2_with fail
 refine wp_region_quiet_below (by kernel_rfl) (by kernel_rfl) ?_
 repeat (go_big_quiet_step (fail))
 refine wpQuiet_nil ?_
 intro _ hw'
 obtain⟨⟨dq,osq⟩,hw''⟩:=hw'
 subst hw''
 obtain⟨wc,hwc,hw'⟩:∃x,Bw wb x∧x=Go.Sort.grow (redrawn wb dq) osq:=⟨_,below_regrown _ _ _,rfl⟩
 rw [←hw']
 clear hw'
 have hiwc:=hiwb.below hwc
 have hBwc:=hBwb.tr hwc
 clear k0 k1 k8 g0 g1 g8
 have k0:=hiwc.cell HC.out.1
 have k1:=hiwc.cell HC.out.2.1
 have k8:=hiwc.cell HC.out.2.2
 have g0:=cell_regrown k0
 have g1:=cell_regrown k1
 have g8:=cell_regrown k8
 go_wp2_with fail
 go_loopw [52] (fun i wr=>∃j:Nat,j≤fields.length∧i= .int .i64 (j:Int)∧Bw w wr) (fun i _=>((fields.length:Int) - intOf i).toNat)
 case atStart=>exact⟨0,Nat.zero_le _,rfl,hBwc⟩
 case round=>
  rename_i wr
  obtain⟨j,hj,rfl,hBwr⟩:=hrel
  clear k0 k1 k8 g0 g1 g8
  have hiwr:=hiw.below hBwr
  have k0:=hiwr.cell HC.out.1
  have k1:=hiwr.cell HC.out.2.1
  have g0:=cell_regrown k0
  have g1:=cell_regrown k1
  by_cases hjl:j<fields.length
  ·obtain⟨bk,o,yj,xd,rfl,hc,hqj⟩:=HAT.out.get Ak j hjl
   rw [Nat.zero_add]at hc
   have CA:=fun d os=>Calls.regrown_of (HF.out.1 j hjl H yj xd bk (o+j * 8) (Go.Sort.grow (redrawn wr d) os) (hiwr.below (below_regrown wr d os)) hqj hc (nnFs_get HF.out.2 hjl))
   clear hc hqj
   go_wp2_with fail
   refine wp_region_quiet_below (by kernel_rfl) (by kernel_rfl) ?_
   repeat (go_big_quiet_step (exact CA _ _))
   refine wpQuiet_nil ?_
   intro _ hw'
   obtain⟨⟨dq,osq⟩,hw''⟩:=hw'
   subst hw''
   obtain⟨wx,hwx,hw'⟩:∃x,Bw wr x∧x=Go.Sort.grow (redrawn wr dq) osq:=⟨_,below_regrown _ _ _,rfl⟩
   rw [←hw']
   clear hw'
   go_wp2_with fail
   go_roundw
   case rel=>exact⟨j+1,by omega,by go_num,hBwr.tr hwx⟩
   case measure=>simp [intOf];omega
  ·go_wp2_with fail
   refine wp_region_quiet_below (by kernel_rfl) (by kernel_rfl) ?_
   repeat (go_big_quiet_step (fail))
   refine wpQuiet_nil ?_
   intro _ hw'
   obtain⟨⟨dq,osq⟩,hw''⟩:=hw'
   subst hw''
   obtain⟨wx,hwx,hw'⟩:∃x,Bw wr x∧x=Go.Sort.grow (redrawn wr dq) osq:=⟨_,below_regrown _ _ _,rfl⟩
   rw [←hw']
   clear hw'
   have hiwx:=hiwr.below hwx
   have hBwx:=hBwr.tr hwx
   clear k0 k1 g0 g1
   have k0:=hiwx.cell HC.out.1
   have k1:=hiwx.cell HC.out.2.1
   go_wp2_with fail
   go_loopw [86] (fun i wr=>i= .int .i64 0∧Bw w wr) (fun _ _=>0)
   case atStart=>exact⟨rfl,hBwx⟩
   case round=>
    obtain⟨rfl,hBwr⟩:=hrel
    go_wp2_with fail
    go_ret
    exact⟨rfl,hBwr⟩
theorem eq_c:∀(n:Nat),(∀a:Ap,a.sz≤n→Fw a)∧(∀r:As,r.sz≤n→CEqRef r)
 |0=>⟨fun a h=>by have:=a.sz_eq;omega,fun r h=>by have:=r.sz_eq;omega⟩
 |n+1=>by
  have ih:=eq_c n
  have e1:∀r:As,r.sz≤n+1→(∀a:Ap,a.sz≤n→Fw a)→Fw ⟨.empty,[],[]⟩→CEqRef r:=fun r h ha h0=>eqRef_of r h0 fun _=>ha _ (by have:=r.sz_eq;omega)
  have h0:Fw ⟨.empty,[],[]⟩:=by
   refine eqAtom_of _ ?_ ?_
   ·intro H b w hi hr;simp only [QLi]at hr;cases hr
   ·intro H b w hi hr;simp only [QMa]at hr;cases hr
  refine⟨fun a h=>eqAtom_of a (eqLi_of _ ?_) (eqMa_of _ ?_ ?_),fun r h=>e1 r h ih.1 h0⟩
  ·intro t r e
   have h1:=a.sz_eq;rw [e]at h1;simp only [szLs]at h1
   have h2:=t.sz_eq
   exact ih.2 _ (by omega)
  ·intro t r e
   have h1:=a.sz_eq;rw [e]at h1;simp only [szMs]at h1
   have h2:=t.sz_eq
   exact ih.2 _ (by omega)
  ·intro t r e j hj
   have h1:=a.sz_eq;rw [e]at h1;simp only [szMs]at h1
   have h2:=t.sz_eq
   have h3:=F0 hj
   have h4:=t.fields[j].sz_eq
   exact eqField_of _ (ih.2 _ (by omega))
theorem refEquals_c (r:As):CEqRef r:=(eq_c r.sz).2 r (Nat.le_refl _)
end
section
open Go Go.RowKit
theorem wrapChk (T:TypeId)(a:Addr)(s1 s2:String):Builtin.ssaWrapNilChk_ #[T] T #[.pointer (some a),strVal s1,strVal s2]=pure (.pointer (some a)):=rfl
theorem AC {P:Program}{w:World}{n:Nat}{T E:TypeId}{name:String}{f:FuncId}{a:Addr}{v:Value}
  (hm:(P.info? T).bind (fun i=>(i.methods.find? (·.name==name)).map fun m=>(m.path,m.func))=some (#[],some (f,false)))
  (hu:P.underlying T=some (.pointer E)) (hl:(loadVar E a).run P w= .ok v w):(method (n+1) T (.pointer (some a)) name).run P w= .ok (f,v) w:=by
 cases hi:P.info? T with
 |none=>rw [hi]at hm;simp at hm
 |some i=>
  rw [hi]at hm
  cases hf:i.methods.find? (·.name==name)with
  |none=>simp [hf]at hm
  |some m=>
   simp [hf]at hm
   simp [method,typeInfo,hi,hf,hm.1,hm.2,follow,receiverAt,run_underlying hu,Place.get,wrapChk,asAddr,hl,Result.andThen]
theorem Cr {w:World}{b:Nat}{x:Value}(h:w.cell? ⟨b,0,none⟩=some x):(loadVar 244 ⟨b,0,none⟩).run Tryz.prog w= .ok (.agg #[x]) w:=by
 simp [go_sem,h]
theorem AD {w:World}{b:Nat}{x:Value}(h:w.cell? ⟨b,0,none⟩=some x):(method 594 184 (.pointer (some ⟨b,0,none⟩)) "IsBool").run Tryz.prog w= .ok (266, .agg #[x]) w:=
 AC (by kernel_rfl) (by kernel_rfl) (Cr h)
theorem Aq {w:World}{b:Nat}{x:Value}(h:w.cell? ⟨b,0,none⟩=some x):(method 594 184 (.pointer (some ⟨b,0,none⟩)) "IsInt").run Tryz.prog w= .ok (268, .agg #[x]) w:=
 AC (by kernel_rfl) (by kernel_rfl) (Cr h)
theorem Af {w:World}{b:Nat}{x:Value}(h:w.cell? ⟨b,0,none⟩=some x):(method 594 184 (.pointer (some ⟨b,0,none⟩)) "IsFloat").run Tryz.prog w= .ok (267, .agg #[x]) w:=
 AC (by kernel_rfl) (by kernel_rfl) (Cr h)
theorem Ao {w:World}{b:Nat}{x:Value}(h:w.cell? ⟨b,0,none⟩=some x):(method 594 184 (.pointer (some ⟨b,0,none⟩)) "IsString").run Tryz.prog w= .ok (272, .agg #[x]) w:=
 AC (by kernel_rfl) (by kernel_rfl) (Cr h)
theorem AT {w:World}{b:Nat}{x:Value}(h:w.cell? ⟨b,0,none⟩=some x):(method 594 184 (.pointer (some ⟨b,0,none⟩)) "IsList").run Tryz.prog w= .ok (269, .agg #[x]) w:=
 AC (by kernel_rfl) (by kernel_rfl) (Cr h)
theorem Bm {w:World}{b:Nat}{x:Value}(h:w.cell? ⟨b,0,none⟩=some x):(method 594 184 (.pointer (some ⟨b,0,none⟩)) "IsMap").run Tryz.prog w= .ok (270, .agg #[x]) w:=
 AC (by kernel_rfl) (by kernel_rfl) (Cr h)
theorem Aw {w:World}{b:Nat}{x:Value}(h:w.cell? ⟨b,0,none⟩=some x):(method 594 184 (.pointer (some ⟨b,0,none⟩)) "IsNull").run Tryz.prog w= .ok (271, .agg #[x]) w:=
 AC (by kernel_rfl) (by kernel_rfl) (Cr h)
theorem meth_AsBool {w:World}{b:Nat}{x:Value}(h:w.cell? ⟨b,0,none⟩=some x):(method 594 184 (.pointer (some ⟨b,0,none⟩)) "AsBool").run Tryz.prog w= .ok (258, .agg #[x]) w:=
 AC (by kernel_rfl) (by kernel_rfl) (Cr h)
theorem meth_AsString {w:World}{b:Nat}{x:Value}(h:w.cell? ⟨b,0,none⟩=some x):(method 594 184 (.pointer (some ⟨b,0,none⟩)) "AsString").run Tryz.prog w= .ok (265, .agg #[x]) w:=
 AC (by kernel_rfl) (by kernel_rfl) (Cr h)
theorem Fp {w:World}{b:Nat}{x:Value}(h:w.cell? ⟨b,0,none⟩=some x):(method 594 184 (.pointer (some ⟨b,0,none⟩)) "AsFloat").run Tryz.prog w= .ok (259, .agg #[x]) w:=
 AC (by kernel_rfl) (by kernel_rfl) (Cr h)
theorem Fo {w:World}{b:Nat}{x:Value}(h:w.cell? ⟨b,0,none⟩=some x):(method 594 184 (.pointer (some ⟨b,0,none⟩)) "AsInt").run Tryz.prog w= .ok (260, .agg #[x]) w:=
 AC (by kernel_rfl) (by kernel_rfl) (Cr h)
theorem Ch {w:World}{b:Nat}{x:Value}(h:w.cell? ⟨b,0,none⟩=some x):(method 594 184 (.pointer (some ⟨b,0,none⟩)) "AsListUsing").run Tryz.prog w= .ok (262, .agg #[x]) w:=
 AC (by kernel_rfl) (by kernel_rfl) (Cr h)
theorem Ct {w:World}{b:Nat}{x:Value}(h:w.cell? ⟨b,0,none⟩=some x):(method 594 184 (.pointer (some ⟨b,0,none⟩)) "AsMapUsing").run Tryz.prog w= .ok (264, .agg #[x]) w:=
 AC (by kernel_rfl) (by kernel_rfl) (Cr h)
theorem EG {w:World}{b:Nat}{x:Value}(h:w.cell? ⟨b,0,none⟩=some x):(method 594 184 (.pointer (some ⟨b,0,none⟩)) "Unstructured").run Tryz.prog w= .ok (273, .agg #[x]) w:=
 AC (by kernel_rfl) (by kernel_rfl) (Cr h)
theorem Bq (a:Addr)(w:World):(method 594 185 (.pointer (some a)) "Free").run Tryz.prog w= .ok (274, .pointer (some a)) w:=by kernel_rfl
theorem meth_allocRange (a:Addr)(w:World):(method 594 185 (.pointer (some a)) "pub-coparcener/pub/structuredmerge/value.allocListUnstructuredRange").run Tryz.prog w= .ok (275, .pointer (some a)) w:=by kernel_rfl
theorem Du (a:Option Addr)(n c:Nat)(w:World):(method 594 445 (.slice a n c) "Length").run Tryz.prog w= .ok (320, .slice a n c) w:=by kernel_rfl
theorem F6 (a:Option Addr)(n c:Nat)(w:World):(method 594 445 (.slice a n c) "RangeUsing").run Tryz.prog w= .ok (322, .slice a n c) w:=by kernel_rfl
theorem methl_EqualsUsing (a:Option Addr)(n c:Nat)(w:World):(method 594 445 (.slice a n c) "EqualsUsing").run Tryz.prog w= .ok (319, .slice a n c) w:=by kernel_rfl
theorem methm_Length (r:Option Nat)(w:World):(method 594 446 (.map r) "Length").run Tryz.prog w= .ok (333, .map r) w:=by kernel_rfl
theorem DU (r:Option Nat)(w:World):(method 594 446 (.map r) "Empty").run Tryz.prog w= .ok (325, .map r) w:=by kernel_rfl
theorem methm_Has (r:Option Nat)(w:World):(method 594 446 (.map r) "Has").run Tryz.prog w= .ok (330, .map r) w:=by kernel_rfl
theorem methm_GetUsing (r:Option Nat)(w:World):(method 594 446 (.map r) "GetUsing").run Tryz.prog w= .ok (329, .map r) w:=by kernel_rfl
theorem D9 (r:Option Nat)(w:World):(method 594 446 (.map r) "IterateUsing").run Tryz.prog w= .ok (332, .map r) w:=by kernel_rfl
theorem methm_EqualsUsing (r:Option Nat)(w:World):(method 594 446 (.map r) "EqualsUsing").run Tryz.prog w= .ok (327, .map r) w:=by kernel_rfl
theorem methm_ZipUsing (r:Option Nat)(w:World):(method 594 446 (.map r) "ZipUsing").run Tryz.prog w= .ok (336, .map r) w:=by kernel_rfl
theorem methr_Next (a:Addr)(w:World):(method 594 484 (.pointer (some a)) "Next").run Tryz.prog w= .ok (346, .pointer (some a)) w:=by kernel_rfl
theorem methr_Item (a:Addr)(w:World):(method 594 484 (.pointer (some a)) "Item").run Tryz.prog w= .ok (345, .pointer (some a)) w:=by kernel_rfl
theorem methe_Next (a:Addr)(w:World):(method 594 487 (.pointer (some a)) "Next").run Tryz.prog w= .ok (348, .pointer (some a)) w:=by kernel_rfl
end
end Go.Proofs.YtmghkmhgpmcoaaaGreat
