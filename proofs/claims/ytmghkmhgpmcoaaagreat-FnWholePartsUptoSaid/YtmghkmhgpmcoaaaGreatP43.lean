/- What the claim's theorem 'proved' rests on: Put, Reg7. -/
import Derived.Laws.IdiomCopy
import Derived.Test.YtmghkmhgpmcoaaaGreatP26
import Derived.Test.YtmghkmhgpmcoaaaGreatP33
set_option linter.unusedVariables false
set_option linter.unusedSimpArgs false
set_option maxRecDepth 100000
set_option maxHeartbeats 10000000
namespace Go.Proofs.YtmghkmhgpmcoaaaGreat
section
open Go Go.RowKit
@[go_sem] theorem strs_app_nil (ty:TypeId) (g:Nat) (w:World):(Builtin.append_ #[32,32] ty #[.slice (some ⟨g,0,none⟩) 0 0, .slice none 0 0]).run Tryz.prog w= .ok (.slice (some ⟨g,0,none⟩) 0 0) w:=by kernel_rfl
@[go_sem] theorem vals_app_nil (ty:TypeId) (g:Nat) (w:World):(Builtin.append_ #[33,33] ty #[.slice (some ⟨g,0,none⟩) 0 0, .slice none 0 0]).run Tryz.prog w= .ok (.slice (some ⟨g,0,none⟩) 0 0) w:=by kernel_rfl
def BD (name:ByteArray)(a:GV):GV:=⟨6,0,0,⟨#[]⟩,[name],[a]⟩
theorem own_empty2 {w:World}{g T base s:Nat}(h:w.heap[g]?=some (.cells #[] T))(hb:base≤g):w.ownsRow base T s (.slice (some ⟨g,0,none⟩) 0 0) 0 []:=
 ⟨by simp, .inr ⟨g,0, #[],rfl,hb,h,Nat.le_refl _,by unfold maxLen;omega,by simp,by simp⟩⟩
theorem put_mid {w wy w3 W:World}{a:GV}{p4 p5 ao2 ao3:Option Addr}{e4 e5 co2 co3:Nat}{row:Value}{name:ByteArray}{O3:Obj}(h1:Bw w wy)(h2:wy.ownsRow (w.heap.size+1+1+1) 9 1 (.slice ao2 1 co2) 1 [.string name])(hz:wy.heap[w.heap.size+1+1]?=some (.cells #[.int .i64 0, .int .i64 0, .float .f64 0, .string ⟨#[]⟩, .slice none 0 0, .slice none 0 0] 35))
  (ho3:w3.ownsRow wy.heap.size 35 6 (.slice ao3 1 co3) 1 ([]++[.int .i64 a.k, .int .i64 a.n, .float .f64 a.f, .string a.s, .slice p4 a.ks.length e4, .slice p5 a.l.length e5])) (hW:Bw wy W) (hg3:W.grownBy w3 row.ownBlock) (hV:w3.heap[w.heap.size]?=some O3) (hr:∀k,row.ownBlock=some k→wy.heap.size≤k):
  Bw w w3∧w3.ownsRow (w.heap.size+1+1+1) 9 1 (.slice ao2 1 co2) 1 [.string name]∧w3.ownsRow (w.heap.size+1+1+1) 35 6 (.slice ao3 1 co3) 1 [.int .i64 a.k, .int .i64 a.n, .float .f64 a.f, .string a.s, .slice p4 a.ks.length e4, .slice p5 a.l.length e5]∧w3.heap[w.heap.size]?=some O3∧w3.heap[w.heap.size+1+1]?=some (.cells #[.int .i64 0, .int .i64 0, .float .f64 0, .string ⟨#[]⟩, .slice none 0 0, .slice none 0 0] 35):=by
 have hlz:=A0 hz
 have hbw:Bw wy w3:=Bi hW hg3 hr
 have hrow:∀k,(Value.slice ao2 1 co2).ownBlock=some k→k<wy.heap.size:=fun k hk=>(h2.lt k hk).2
 refine⟨h1.tr hbw,Cq h2 hbw,DT (by simpa using ho3) (by omega),hV,A2 hbw hz⟩
theorem put_end {H:Hp}{w wE:World}{name:ByteArray}{a:GV}{p4 p5 ao2 ao3:Option Addr}{e4 e5 co2 co3:Nat}(hi:Imm H w)(hv:RV H a (.slice p4 a.ks.length e4) (.slice p5 a.l.length e5))(hname:name.size≤lim)(hb:Bw w wE)
  (h2:wE.ownsRow (w.heap.size+1+1+1) 9 1 (.slice ao2 1 co2) 1 [.string name]) (h3:wE.ownsRow (w.heap.size+1+1+1) 35 6 (.slice ao3 1 co3) 1 [.int .i64 a.k, .int .i64 a.n, .float .f64 a.f, .string a.s, .slice p4 a.ks.length e4, .slice p5 a.l.length e5]):
  RetV H w (BD name a) (.returned (Ar (BD name a) (.slice ao2 1 co2) (.slice ao3 1 co3))) wE:=by
 have hr:∀{v:Value},(∀k,v.ownBlock=some k→w.heap.size+1+1+1≤k∧k<wE.heap.size)→HasRow (A6 H w wE) wE v:=fun h g hg=>by
  have:=(h g hg).1
  unfold A6;rw [if_neg (by omega)]
 refine⟨hb,_,_,rfl,By.2 ⟨AR (by simp [BD]) (by simp [BD]),AR (by simp [BD]) (by simp [BD]),by simp [BD],Nat.zero_le _, ?_, ?_⟩⟩
 ·exact Cn (l:=[name]) h2 (hr h2.lt) (by simp [lim]) (by simpa using hname)
 ·have:=Db (l:=[⟨a, .slice p4 a.ks.length e4, .slice p5 a.l.length e5⟩]) (H:=A6 H w wE) (by simpa [AL,VC.cells]using h3) (hr h3.lt) (by simp [lim]) (by simpa using hv.mono (AY hi))
  simpa [BD]using this
theorem put_c (name:ByteArray)(a:GV)(H:Hp)(y4 y5:Value)(w:World)(hi:Imm H w)(hv:RV H a y4 y5)(hname:name.size≤lim):
  Calls Tryz.prog 12 #[.agg #[.int .i64 6, .int .i64 0, .float .f64 0, .string ⟨#[]⟩, .slice none 0 0, .slice none 0 0], .string name,Ar a y4 y5] w (RetV H w (BD name a)):=by
 have HV:=Lib.hid (And.intro hi (And.intro hv hname))
 obtain⟨p4,e4,p5,e5,rfl,rfl⟩:=hv.open
 clear hi hv hname
 unfold Ar
 go_enter Tryz.func12,Tryz.ntmps12
 go_wp2_with (at_builtin;refine AF _ rfl (.tmp 10) (.tmp 12) 32 rfl w.heap.size 9 _ 1 16 und_strs info_str rfl (by decide) (by decide) (.slice (some ⟨w.heap.size+1+1+1,0,none⟩) 0 0) 0 [] rfl ?_ (w.heap.size+1+1+1+1) #[.string name] 9 rfl ?_ rfl (by simp [Value.oneCell']) (by unfold lim;omega) (by simp;omega) ?_;(exact own_empty2 b5_3 (by omega));(exact b5_4))
 intro v' w2 ho2 hg2 hwh2
 obtain⟨ao2,co2,rfl⟩:=Aj ho2
 have hV:w2.heap[w.heap.size]?=some (.cells #[.int .i64 6, .int .i64 0, .float .f64 0, .string ⟨#[]⟩, .slice none 0 0, .slice none 0 0] 35):=(hg2.block _ (by simp<;>omega) (fun e=>by simp [Value.ownBlock]at e<;>omega)).trans b5_0
 have hX:w2.heap[w.heap.size+1]?=some (.cells #[.int .i64 a.k, .int .i64 a.n, .float .f64 a.f, .string a.s, .slice p4 a.ks.length e4, .slice p5 a.l.length e5] 35):=(hg2.block _ (by simp<;>omega) (fun e=>by simp [Value.ownBlock]at e<;>omega)).trans b5_1
 have hZ:w2.heap[w.heap.size+1+1]?=some (.cells #[.int .i64 0, .int .i64 0, .float .f64 0, .string ⟨#[]⟩, .slice none 0 0, .slice none 0 0] 35):=(hg2.block _ (by simp<;>omega) (fun e=>by simp [Value.ownBlock]at e<;>omega)).trans b5_2
 have hb2:Bw w w2:=Bi (((((Bw.rfl.al _).al _).al _).al _).al _) hg2 (fun k hk=>by simp [Value.ownBlock]at hk;omega)
 have ho2:w2.ownsRow (w.heap.size+1+1+1) 9 1 (.slice ao2 1 co2) 1 [.string name]:=by
  refine⟨by simp, ?_⟩
  rcases ho2.2 with⟨_,h⟩|⟨g,cap,cur,e,_,h3⟩
  ·cases h
  ·refine .inr ⟨g,cap,cur,e, ?_,h3⟩
   rcases hwh2 with h|h<;>(rw [e]at h;simp [Value.ownBlock]at h;omega)
 have H2:=Lib.hid (And.intro hb2 (And.intro ho2 (And.intro hV (And.intro hX hZ))))
 obtain⟨q0,f0⟩:=A1 hV
 have hl0:=A0 hV
 clear ho2 hg2 hwh2 hV hX hZ hb2
 go_upto_region 2 with(fail)
 obtain⟨wy,hwy⟩:∃wy,wy=w2.setCell ⟨w.heap.size,4,none⟩ (.slice ao2 1 co2):=⟨_,rfl⟩
 have H3:Hid (Bw w wy∧wy.ownsRow (w.heap.size+1+1+1) 9 1 (.slice ao2 1 co2) 1 [.string name]∧wy.heap[w.heap.size]?=some (.cells #[.int .i64 6, .int .i64 0, .float .f64 0, .string ⟨#[]⟩, .slice ao2 1 co2, .slice none 0 0] 35)∧wy.heap[w.heap.size+1]?=some (.cells #[.int .i64 a.k, .int .i64 a.n, .float .f64 a.f, .string a.s, .slice p4 a.ks.length e4, .slice p5 a.l.length e5] 35)∧wy.heap[w.heap.size+1+1]?=some (.cells #[.int .i64 0, .int .i64 0, .float .f64 0, .string ⟨#[]⟩, .slice none 0 0, .slice none 0 0] 35)):=by
  subst hwy
  obtain⟨g1,g2,g3,g4,g5⟩:=H2.out
  exact⟨g1.set (Nat.le_refl _) _ _,Bj g2 (by omega),by simpa using Ae g3 4 (.slice ao2 1 co2),Cd g4 (by omega) _ _,Cd g5 (by omega) _ _⟩
 rw [←hwy]
 clear hwy q0 f0 hl0
 obtain⟨q0,f0⟩:=A1 H3.out.2.2.1
 obtain⟨q1,f1⟩:=A1 H3.out.2.2.2.1
 have hl0:=A0 H3.out.2.2.1
 have hl1:=A0 H3.out.2.2.2.1
 go_region_law
  (first
   |(refine AH _ (by rfl) (.tmp 18) (.tmp 20) 33 (by rfl) wy.heap.size 35 CQ 6 88 DN DX (by rfl) (by decide) (by decide) (.slice (some ⟨wy.heap.size,0,none⟩) 0 0) 0 [] (by rfl) ?_ (wy.heap.size+1) _ _ (by rfl) (by exact BF) (by rfl) (by simp [Value.oneCell']) (by unfold lim;omega) (by simp;omega) ?_;(exact own_empty2 Cs (Nat.le_refl _));intro v' w3 ho3 hg3 hwh3;obtain⟨ao3,co3,rfl⟩:=Aj ho3;have hV3:w3.heap[w.heap.size]?=some (.cells #[.int .i64 6, .int .i64 0, .float .f64 0, .string ⟨#[]⟩, .slice ao2 1 co2, .slice none 0 0] 35):=(hg3.block _ (by simp;omega) (fun e=>by simp [Value.ownBlock]at e<;>omega)).trans (A3 (A3 H3.out.2.2.1));have H4:=Lib.hid (put_mid H3.out.1 H3.out.2.1 H3.out.2.2.2.2 ho3 (by repeat with_reducible (first|exact Bw.rfl|refine Bw.al ?_ _|refine Bw.dr ?_)) hg3 hV3 (by intro k hk;simp [Value.ownBlock]at hk;omega));obtain⟨q3,f3⟩:=A1 hV3;have hl3:=A0 hV3;clear ho3 hg3 hwh3 hV3)
   |(refine AH _ (by rfl) (.tmp 18) (.tmp 20) 33 (by rfl) wy.heap.size 35 CQ 6 88 DN DX (by rfl) (by decide) (by decide) (.slice (some ⟨wy.heap.size+1,0,none⟩) 0 0) 0 [] (by rfl) ?_ wy.heap.size _ _ (by rfl) (by exact Cs) (by rfl) (by simp [Value.oneCell']) (by unfold lim;omega) (by simp;omega) ?_;(exact own_empty2 BF (by omega));intro v' w3 ho3 hg3 hwh3;obtain⟨ao3,co3,rfl⟩:=Aj ho3;have hV3:w3.heap[w.heap.size]?=some (.cells #[.int .i64 6, .int .i64 0, .float .f64 0, .string ⟨#[]⟩, .slice ao2 1 co2, .slice none 0 0] 35):=(hg3.block _ (by simp;omega) (fun e=>by simp [Value.ownBlock]at e<;>omega)).trans (A3 (A3 H3.out.2.2.1));have H4:=Lib.hid (put_mid H3.out.1 H3.out.2.1 H3.out.2.2.2.2 ho3 (by repeat with_reducible (first|exact Bw.rfl|refine Bw.al ?_ _|refine Bw.dr ?_)) hg3 hV3 (by intro k hk;simp [Value.ownBlock]at hk;omega));obtain⟨q3,f3⟩:=A1 hV3;have hl3:=A0 hV3;clear ho3 hg3 hwh3 hV3)
   |(go_simp;done)
   |fail)
 all_goals
  obtain⟨wf,hwf⟩:∃wf,wf=w3.setCell ⟨w.heap.size,5,none⟩ (.slice ao3 1 co3):=⟨_,rfl⟩
  have H5:Hid (Bw w wf∧wf.ownsRow (w.heap.size+1+1+1) 9 1 (.slice ao2 1 co2) 1 [.string name]∧wf.ownsRow (w.heap.size+1+1+1) 35 6 (.slice ao3 1 co3) 1 [.int .i64 a.k, .int .i64 a.n, .float .f64 a.f, .string a.s, .slice p4 a.ks.length e4, .slice p5 a.l.length e5]∧wf.heap[w.heap.size]?=some (.cells #[.int .i64 6, .int .i64 0, .float .f64 0, .string ⟨#[]⟩, .slice ao2 1 co2, .slice ao3 1 co3] 35)∧wf.heap[w.heap.size+1+1]?=some (.cells #[.int .i64 0, .int .i64 0, .float .f64 0, .string ⟨#[]⟩, .slice none 0 0, .slice none 0 0] 35)):=by
   subst hwf
   obtain⟨g1,g2,g3,g4,g5⟩:=H4.out
   exact⟨g1.set (Nat.le_refl _) _ _,Bj g2 (by omega),Bj g3 (by omega),by simpa using Ae g4 5 (.slice ao3 1 co3),Cd g5 (by omega) _ _⟩
  rw [←hwf]
  clear hwf q3 f3 hl3 q0 f0 q1 f1 hl0 hl1
  obtain⟨q0,f0⟩:=A1 H5.out.2.2.2.1
  obtain⟨q1,f1⟩:=A1 H5.out.2.2.2.2
  have hl0:=A0 H5.out.2.2.2.1
  have hl1:=A0 H5.out.2.2.2.2
  go_wp2_with fail
  refine bodyPost_ret (v:=Ar (BD name a) (.slice ao2 1 co2) (.slice ao3 1 co3)) (by simp [results,Tryz.results12,go_sem,q1,Ar,BD]) rfl (put_end HV.out.1 HV.out.2.1 HV.out.2.2 ?_ ?_ ?_)
  ·repeat with_reducible (first|exact H5.out.1|refine Bw.set ?_ (by omega) _ _)
  ·repeat with_reducible (first|exact H5.out.2.1|refine Bj ?_ (by omega))
  ·repeat with_reducible (first|exact H5.out.2.2.1|refine Bj ?_ (by omega))
end
section
open Go Go.RowKit
abbrev oV (v:GV)(x4 x5:Value):Obj:= .cells #[.int .i64 v.k, .int .i64 v.n, .float .f64 v.f, .string v.s,x4,x5] 35
theorem bw_of {W W1:World}(h:Below W.heap.size W W1):Bw W W1:=h
abbrev oZ:Obj:= .cells #[.int .i64 0, .int .i64 0, .float .f64 0, .string ⟨#[]⟩, .slice none 0 0, .slice none 0 0] 35
def XYR (name:ByteArray)(a b:GV)(w13 wx:World)(bx bY:Nat)(n4:Option Addr)(l4:Nat)(n5:Option Addr)(l5:Nat)(n6:Option Addr)(l6:Nat)(n7:Option Addr)(l7:Nat):Prop:=
 Bw w13 wx∧wx.heap[bx]?=some (oV (BD name a) (.slice n4 (BD name a).ks.length l4) (.slice n5 (BD name a).l.length l5))∧wx.heap[bY]?=some (oV (BD name b) (.slice n6 (BD name b).ks.length l6) (.slice n7 (BD name b).l.length l7))∧
  RV (At wx) (BD name a) (.slice n4 (BD name a).ks.length l4) (.slice n5 (BD name a).l.length l5)∧RV (At wx) (BD name b) (.slice n6 (BD name b).ks.length l6) (.slice n7 (BD name b).l.length l7)
abbrev six (W:World)(b:Nat)(v:GV)(x4 x5:Value):World:=(((((W.setCell ⟨b,0,none⟩ (.int .i64 v.k)).setCell ⟨b,1,none⟩ (.int .i64 v.n)).setCell ⟨b,2,none⟩ (.float .f64 v.f)).setCell ⟨b,3,none⟩ (.string v.s)).setCell ⟨b,4,none⟩ x4).setCell ⟨b,5,none⟩ x5
theorem six_far {W:World}{b k:Nat}{v:GV}{x4 x5:Value}(h:¬k=b):(six W b v x4 x5).heap[k]?=W.heap[k]?:=by
 rw [Ag _ _ _ _ _ h,Ag _ _ _ _ _ h,Ag _ _ _ _ _ h,Ag _ _ _ _ _ h,Ag _ _ _ _ _ h,Ag _ _ _ _ _ h]
theorem six_at {W:World}{b:Nat}{v:GV}{x4 x5:Value}(h:W.heap[b]?=some oZ):(six W b v x4 x5).heap[b]?=some (oV v x4 x5):=by
 have:=Ae (Ae (Ae (Ae (Ae (Ae h 0 (.int .i64 v.k)) 1 (.int .i64 v.n)) 2 (.float .f64 v.f)) 3 (.string v.s)) 4 x4) 5 x5
 simpa using this
theorem six_bw {w W:World}{b:Nat}{v:GV}{x4 x5:Value}(h:Bw w W)(hb:w.heap.size≤b):Bw w (six W b v x4 x5):=by
 exact(((((h.set hb _ _).set hb _ _).set hb _ _).set hb _ _).set hb _ _).set hb _ _
theorem grow_cases {H:Hp}{w V1 V2:World}{k:Nat}{o:Obj}(hi:Imm H w)(e:A6 H V1 V2 k=some o):(k<w.heap.size∧H k=some o)∨(V1.heap.size≤k∧k<V2.heap.size∧V2.heap[k]?=some o):=by
 unfold A6 at e
 by_cases hk:k<V1.heap.size
 ·rw [if_pos hk]at e;exact .inl ⟨A0 (hi k o e),e⟩
 ·rw [if_neg hk]at e;exact .inr ⟨by omega,A0 e,e⟩
def PutIn (H:Hp)(W:World)(p8 p9:Bool)(b8 b9:Nat)(x:GV)(u:Value):Prop:=∃(V1 V2:World) (n4:Option Addr) (l4:Nat) (n5:Option Addr) (l5:Nat),
 u=Ar x (.slice n4 x.ks.length l4) (.slice n5 x.l.length l5)∧RV (A6 H V1 V2) x (.slice n4 x.ks.length l4) (.slice n5 x.l.length l5)∧Bw V2 W∧(p8=true→b8<V1.heap.size∨V2.heap.size≤b8)∧(p9=true→b9<V1.heap.size∨V2.heap.size≤b9)
def BoxIn (w13 W:World)(b:Nat)(u:Value):Prop:=u= .pointer (some ⟨b,0,none⟩)∧W.heap[b]?=some oZ∧w13.heap.size≤b
structure INV (H:Hp) (w13:World) (x y:GV) (mv:Value) (k:Nat) (p8 p9:Bool) (W:World) (b8 b9:Nat) (u14 u15 u91 u94 u95 u98:Value):Prop where
 bw:Bw w13 W
 c1:1≤k→u91=mv
 c2:2≤k→PutIn H W p8 p9 b8 b9 x u94
 c3:3≤k→u95=mv
 c4:4≤k→PutIn H W p8 p9 b8 b9 y u98
 a8:p8=true→BoxIn w13 W b8 u14
 a9:p9=true→BoxIn w13 W b9 u15
 ne:p8=true→p9=true→¬b8=b9
theorem PutIn.later {H:Hp}{W W':World}{p8 p9:Bool}{b8 b9:Nat}{x:GV}{u:Value}(h:PutIn H W p8 p9 b8 b9 x u)(hb:Bw W W'):PutIn H W' p8 p9 b8 b9 x u:=by
 obtain⟨V1,V2,n4,l4,n5,l5,h1,h2,h3,h4⟩:=h
 exact⟨V1,V2,n4,l4,n5,l5,h1,h2,h3.tr hb,h4⟩
theorem PutIn.with8 {H:Hp}{W:World}{p9:Bool}{b8 b9:Nat}{x:GV}{u:Value}(h:PutIn H W false p9 b8 b9 x u)(o:Obj):PutIn H (W.alloc o) true p9 W.heap.size b9 x u:=by
 obtain⟨V1,V2,n4,l4,n5,l5,h1,h2,h3,_,h5⟩:=h
 exact⟨V1,V2,n4,l4,n5,l5,h1,h2,h3.al _,fun _=> .inr h3.size,h5⟩
theorem PutIn.with9 {H:Hp}{W:World}{p8:Bool}{b8 b9:Nat}{x:GV}{u:Value}(h:PutIn H W p8 false b8 b9 x u)(o:Obj):PutIn H (W.alloc o) p8 true b8 W.heap.size x u:=by
 obtain⟨V1,V2,n4,l4,n5,l5,h1,h2,h3,h4,_⟩:=h
 exact⟨V1,V2,n4,l4,n5,l5,h1,h2,h3.al _,h4,fun _=> .inr h3.size⟩
theorem BoxIn.later {w13 W W':World}{b:Nat}{u:Value}(h:BoxIn w13 W b u)(hb:Bw W W'):BoxIn w13 W' b u:=⟨h.1,A2 hb h.2.1,h.2.2⟩
section
variable {H:Hp} {w13 W W':World} {x y:GV} {mv:Value} {k:Nat} {p8 p9:Bool} {b8 b9:Nat} {u14 u15 u91 u94 u95 u98 v:Value}
theorem INV.start (h:Bw w13 W):INV H w13 x y mv 0 false false W b8 b9 u14 u15 u91 u94 u95 u98:=
 ⟨h,fun h=>by omega,fun h=>by omega,fun h=>by omega,fun h=>by omega,(fun h=>by cases h),(fun h=>by cases h),(fun h=>by cases h)⟩
theorem INV.later (h:INV H w13 x y mv k p8 p9 W b8 b9 u14 u15 u91 u94 u95 u98)(hb:Bw W W'):INV H w13 x y mv k p8 p9 W' b8 b9 u14 u15 u91 u94 u95 u98:=
 ⟨h.bw.tr hb,h.c1,fun e=>(h.c2 e).later hb,h.c3,fun e=>(h.c4 e).later hb,fun e=>(h.a8 e).later hb,fun e=>(h.a9 e).later hb,h.ne⟩
theorem INV.s1 (h:INV H w13 x y mv 0 p8 p9 W b8 b9 u14 u15 u91 u94 u95 u98)(hb:Bw W W'):INV H w13 x y mv 1 p8 p9 W' b8 b9 u14 u15 mv u94 u95 u98:=
 have g:=h.later hb
 ⟨g.bw,fun _=>rfl,fun e=>by omega,fun e=>by omega,fun e=>by omega,g.a8,g.a9,g.ne⟩
theorem put_in (h:INV H w13 x y mv k p8 p9 W b8 b9 u14 u15 u91 u94 u95 u98)(hb:Bw W W'){z:GV}{n4 n5:Option Addr}{l4 l5:Nat}(hz:RV (A6 H W W') z (.slice n4 z.ks.length l4) (.slice n5 z.l.length l5)):PutIn H W' p8 p9 b8 b9 z (Ar z (.slice n4 z.ks.length l4) (.slice n5 z.l.length l5)):=
 ⟨W,W',n4,l4,n5,l5,rfl,hz,Bw.rfl,fun e=> .inl (A0 (h.a8 e).2.1),fun e=> .inl (A0 (h.a9 e).2.1)⟩
theorem INV.s2 (h:INV H w13 x y mv 1 p8 p9 W b8 b9 u14 u15 u91 u94 u95 u98)(hb:Bw W W'){n4 n5:Option Addr}{l4 l5:Nat}(hz:RV (A6 H W W') x (.slice n4 x.ks.length l4) (.slice n5 x.l.length l5)):INV H w13 x y mv 2 p8 p9 W' b8 b9 u14 u15 u91 (Ar x (.slice n4 x.ks.length l4) (.slice n5 x.l.length l5)) u95 u98:=
 have g:=h.later hb
 ⟨g.bw,fun _=>g.c1 (Nat.le_refl _),fun _=>put_in h hb hz,fun e=>by omega,fun e=>by omega,g.a8,g.a9,g.ne⟩
theorem INV.s3 (h:INV H w13 x y mv 2 p8 p9 W b8 b9 u14 u15 u91 u94 u95 u98)(hb:Bw W W'):INV H w13 x y mv 3 p8 p9 W' b8 b9 u14 u15 u91 u94 mv u98:=
 have g:=h.later hb
 ⟨g.bw,fun _=>g.c1 (by omega),fun _=>g.c2 (Nat.le_refl _),fun _=>rfl,fun e=>by omega,g.a8,g.a9,g.ne⟩
theorem INV.s4 (h:INV H w13 x y mv 3 p8 p9 W b8 b9 u14 u15 u91 u94 u95 u98)(hb:Bw W W'){n4 n5:Option Addr}{l4 l5:Nat}(hz:RV (A6 H W W') y (.slice n4 y.ks.length l4) (.slice n5 y.l.length l5)):INV H w13 x y mv 4 p8 p9 W' b8 b9 u14 u15 u91 u94 u95 (Ar y (.slice n4 y.ks.length l4) (.slice n5 y.l.length l5)):=
 have g:=h.later hb
 ⟨g.bw,fun _=>g.c1 (by omega),fun _=>g.c2 (by omega),fun _=>g.c3 (Nat.le_refl _),fun _=>put_in h hb hz,g.a8,g.a9,g.ne⟩
theorem INV.al8 (h:INV H w13 x y mv k false p9 W b8 b9 u14 u15 u91 u94 u95 u98):INV H w13 x y mv k true p9 (W.alloc oZ) W.heap.size b9 (.pointer (some ⟨W.heap.size,0,none⟩)) u15 u91 u94 u95 u98:=
 ⟨h.bw.al _,h.c1,fun e=>(h.c2 e).with8 _,h.c3,fun e=>(h.c4 e).with8 _,fun _=>⟨rfl,A4,h.bw.size⟩,fun e=>(h.a9 e).later A5,fun _ e=>by have:=A0 (h.a9 e).2.1;omega⟩
theorem INV.al9 (h:INV H w13 x y mv k p8 false W b8 b9 u14 u15 u91 u94 u95 u98):INV H w13 x y mv k p8 true (W.alloc oZ) b8 W.heap.size u14 (.pointer (some ⟨W.heap.size,0,none⟩)) u91 u94 u95 u98:=
 ⟨h.bw.al _,h.c1,fun e=>(h.c2 e).with9 _,h.c3,fun e=>(h.c4 e).with9 _,fun e=>(h.a8 e).later A5,fun _=>⟨rfl,A4,h.bw.size⟩,fun e _=>by have:=A0 (h.a8 e).2.1;omega⟩
end
theorem INV.fin {H:Hp}{w w13 W:World}{name:ByteArray}{a b:GV}{mv:Value}{b8 b9:Nat}{u14 u15 u91 u94 u95 u98:Value}(hi:Imm H w)(h13:Bw w w13)(h:INV H w13 (BD name a) (BD name b) mv 4 true true W b8 b9 u14 u15 u91 u94 u95 u98):
  ∃(n4:Option Addr) (l4:Nat) (n5:Option Addr) (l5:Nat) (n6:Option Addr) (l6:Nat) (n7:Option Addr) (l7:Nat),u14= .pointer (some ⟨b8,0,none⟩)∧u15= .pointer (some ⟨b9,0,none⟩)∧
   u94=Ar (BD name a) (.slice n4 (BD name a).ks.length l4) (.slice n5 (BD name a).l.length l5)∧u98=Ar (BD name b) (.slice n6 (BD name b).ks.length l6) (.slice n7 (BD name b).l.length l7)∧
   W.heap[b8]?=some oZ∧W.heap[b9]?=some oZ∧w13.heap.size≤b8∧w13.heap.size≤b9∧¬b8=b9∧
   XYR name a b w13 (six (six W b8 (BD name a) (.slice n4 (BD name a).ks.length l4) (.slice n5 (BD name a).l.length l5)) b9 (BD name b) (.slice n6 (BD name b).ks.length l6) (.slice n7 (BD name b).l.length l7)) b8 b9 n4 l4 n5 l5 n6 l6 n7 l7:=by
 obtain⟨e14,hx,lx⟩:=h.a8 rfl
 obtain⟨e15,hy,ly⟩:=h.a9 rfl
 have hne:=h.ne rfl rfl
 obtain⟨V1,V2,n4,l4,n5,l5,e94,hv,hV,v1,v2⟩:=h.c2 (by omega)
 obtain⟨U1,U2,n6,l6,n7,l7,e98,hu,hU,u1,u2⟩:=h.c4 (by omega)
 have hW:=h.bw
 have hs:=h13.size
 refine⟨n4,l4,n5,l5,n6,l6,n7,l7,e14,e15,e94,e98,hx,hy,lx,ly,hne, ?_⟩
 have key:∀(A B:World) (g:GV) (y4 y5:Value),Bw B W→(b8<A.heap.size∨B.heap.size≤b8)→(b9<A.heap.size∨B.heap.size≤b9)→RV (A6 H A B) g y4 y5→
   RV (At (six (six W b8 (BD name a) (.slice n4 (BD name a).ks.length l4) (.slice n5 (BD name a).l.length l5)) b9 (BD name b) (.slice n6 (BD name b).ks.length l6) (.slice n7 (BD name b).l.length l7))) g y4 y5:=by
  intro A B g y4 y5 hB k1 k2 hg
  refine hg.mono fun k o e=> ?_
  show(six _ _ _ _ _).heap[k]?=_
  rcases grow_cases hi e with⟨hk,ho⟩|⟨hk1,hk2,ho⟩
  ·rw [six_far (by omega),six_far (by omega)]
   exact(hi.below (h13.tr hW)) k o ho
  ·rw [six_far (by omega),six_far (by omega)]
   exact A2 hB ho
 refine⟨six_bw (six_bw hW lx) ly, ?_,six_at ?_,key _ _ _ _ _ hV (v1 rfl) (v2 rfl) hv,key _ _ _ _ _ hU (u1 rfl) (u2 rfl) hu⟩
 ·rw [six_far hne];exact six_at hx
 ·rw [six_far (fun e=>hne e.symm)];exact hy
theorem gen_list {P:Program}{md:Region.Mode}{ops:Array Oper}{Q:Exit→Act→World→Prop}{S:World→Prop}{n:Nat}{L:Array Bool}{a:Act}{w:World}(h:∀(L':Array Bool) (n':Nat) (w':World),L'=L→n'=n→w'=w→wpAnyH P md ops Q S n' L' a w'):wpAnyH P md ops Q S n L a w:=h L n w rfl rfl rfl
theorem name_it {Φ:Array Bool→Nat→World→Value→Value→Value→Value→Value→Value→Prop}{C:Array Bool→Nat→World→Value→Value→Value→Value→Value→Value→Prop}
  (h:∀Ψ:Array Bool→Nat→World→Value→Value→Value→Value→Value→Value→Prop,(∀L n w u14 u15 u91 u94 u95 u98,Ψ L n w u14 u15 u91 u94 u95 u98↔Φ L n w u14 u15 u91 u94 u95 u98)→∀L n w u14 u15 u91 u94 u95 u98,C L n w u14 u15 u91 u94 u95 u98→Ψ L n w u14 u15 u91 u94 u95 u98):
  ∀L n w u14 u15 u91 u94 u95 u98,C L n w u14 u15 u91 u94 u95 u98→Φ L n w u14 u15 u91 u94 u95 u98:=h Φ fun _ _ _ _ _ _ _ _ _=>Iff.rfl
end
end Go.Proofs.YtmghkmhgpmcoaaaGreat
