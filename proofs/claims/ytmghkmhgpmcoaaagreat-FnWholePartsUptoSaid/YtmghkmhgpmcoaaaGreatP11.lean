/- What the claim's theorem 'proved' rests on: Resolve, CopyInto, Iter, Deep. -/
import Derived.Test.YtmghkmhgpmcoaaaGreatP02
import Derived.Test.YtmghkmhgpmcoaaaGreatP10
set_option linter.unusedVariables false
set_option linter.unusedSimpArgs false
set_option maxRecDepth 100000
set_option maxHeartbeats 10000000
namespace Go.Proofs.YtmghkmhgpmcoaaaGreat
section
open Go.RowKit
def RetAt (H:Hp)(w:World)(o:Option Ap):Ending→World→Prop:=fun e w'=>Bw w w'∧match o with
 |some a=>∃p1 p2 p3,e= .returned (.tuple #[.agg #[.pointer p1, .pointer p2, .pointer p3], .bool true])∧AI Ak H a p1 p2 p3
 |none=>e= .returned (.tuple #[.agg #[.pointer none, .pointer none, .pointer none], .bool false])
theorem RetAt.yes {H:Hp}{w w1:World}{o:Option Ap}{a:Ap}{p1 p2 p3:Option Addr}(ho:o=some a)(hb:Bw w w1)(hv:AI Ak H a p1 p2 p3):
  RetAt H w o (.returned (.tuple #[.agg #[.pointer p1, .pointer p2, .pointer p3], .bool true])) w1:=by
 unfold RetAt;rw [ho];exact⟨hb,_,_,_,rfl,hv⟩
theorem RetAt.no {H:Hp}{w w1:World}{o:Option Ap}(ho:o=none)(hb:Bw w w1):
  RetAt H w o (.returned (.tuple #[.agg #[.pointer none, .pointer none, .pointer none], .bool false])) w1:=by
 unfold RetAt;rw [ho];exact⟨hb,rfl⟩
def baseS (s:List Ax)(r:As):Option Ap:=if r.named then(DW s r.name s.length).map Ax.atom else some r.atom
theorem resolveNo_c (H:Hp)(s:List Ax)(r:As)(X:Value)(y:Six)(w:World)(hi:Imm H w)(hs:AO Ak H s X)(hr:BM Ak H r y):
  Calls Tryz.prog 119 #[X,F9 y] w (RetAt H w (baseS s r)):=by
 rcases r with⟨named,name,atom,rel⟩
 obtain⟨h,_⟩:=EB.1 hr
 rcases y with⟨y0,y1,y2,y3,y4⟩
 simp only at h
 rcases h with⟨rfl,⟨bn,rfl,hcn,hns⟩,rfl,rfl,rfl⟩|⟨rfl,rfl,hq⟩
 ·have HF:=Lib.hid (fun w0 h0=>findNamed_c H s name X w0 h0 hs)
  obtain⟨bs,xs,rfl,_⟩:=hs
  have k0:=hi.cell hcn
  have hlb:=Ah k0
  simp only at hlb
  obtain⟨_g0,g1,g2,g3,g4,_g5⟩:=ltx hlb
  clear hcn hns hr
  go_enter Tryz.func119,Tryz.ntmps119
  go_wp2_with fail
  refine(HF.out _ (hi.below Co)).mono ?_
  rintro e w1 ⟨hb1,h⟩
  obtain⟨q0,f0⟩:=A1 (A2 hb1 b3_0)
  obtain⟨q1,f1⟩:=A1 (A2 hb1 b3_1)
  obtain⟨q2,f2⟩:=A1 (A2 hb1 ET)
  have HQ:=Lib.hid (And.intro (A2 hb1 b3_1) (A2 hb1 ET))
  have hsz:=A0 (A2 hb1 ET)
  have HB:=Lib.hid (Co.tr hb1)
  clear hb1 HF k0
  cases hl:DW s name s.length with
  |none=>
   rw [hl]at h
   simp only at h
   subst h
   have HL:=Lib.hid hl
   clear hl
   go_upto_region 4 with(fail)
   obtain⟨wz,hwz⟩:∃wz,wz=w1.alloc (.cells #[.string {data:= #[]}, .pointer none, .pointer none, .pointer none] 121):=⟨_,rfl⟩
   have HZ:Hid (wz.heap[w.heap.size+1]?=w1.heap[w.heap.size+1]?∧wz.heap[w.heap.size+1+1]?=w1.heap[w.heap.size+1+1]?∧wz.heap[w1.heap.size]?=some (.cells #[.string {data:= #[]}, .pointer none, .pointer none, .pointer none] 121)∧Bw w wz∧wz.heap.size=w1.heap.size+1):=by
    subst hwz
    exact⟨by rw [Ad,if_neg (by omega)],by rw [Ad,if_neg (by omega)],A4,HB.out.al _,by simp⟩
   rw [←hwz]
   clear hwz q0 f0 q1 f1 q2 f2
   obtain⟨q1,f1⟩:=A1 (HZ.out.1.trans HQ.out.1)
   obtain⟨q2,f2⟩:=A1 (HZ.out.2.1.trans HQ.out.2)
   obtain⟨q3,f3⟩:=A1 HZ.out.2.2.1
   have hsz2:w.heap.size+1+1<wz.heap.size:=by have:=HZ.out.2.2.2.2;omega
   have n1:¬w1.heap.size=w.heap.size+1:=by omega
   have n2:¬w1.heap.size=w.heap.size+1+1:=by omega
   go_wp2_with fail
   refine bodyPost_ret (v:= .tuple #[.agg #[.pointer none, .pointer none, .pointer none], .bool false]) (by simp [results,Tryz.results119,go_sem,q1]) rfl ?_
   exact RetAt.no (by simp [baseS,HL.out]) (by repeat with_reducible (first|exact HZ.out.2.2.2.1|refine Bw.al ?_ _|refine Bw.set ?_ (by omega) _ _))
  |some d=>
   rw [hl]at h
   simp only at h
   obtain⟨p1,p2,p3,rfl,hq⟩:=h
   have HL:=Lib.hid (And.intro hl hq)
   clear hl hq
   go_upto_region 4 with(fail)
   obtain⟨wz,hwz⟩:∃wz,wz=w1.alloc (.cells #[.string d.name, .pointer p1, .pointer p2, .pointer p3] 121):=⟨_,rfl⟩
   have HZ:Hid (wz.heap[w.heap.size+1]?=w1.heap[w.heap.size+1]?∧wz.heap[w.heap.size+1+1]?=w1.heap[w.heap.size+1+1]?∧wz.heap[w1.heap.size]?=some (.cells #[.string d.name, .pointer p1, .pointer p2, .pointer p3] 121)∧Bw w wz∧wz.heap.size=w1.heap.size+1):=by
    subst hwz
    exact⟨by rw [Ad,if_neg (by omega)],by rw [Ad,if_neg (by omega)],A4,HB.out.al _,by simp⟩
   rw [←hwz]
   clear hwz q0 f0 q1 f1 q2 f2
   obtain⟨q1,f1⟩:=A1 (HZ.out.1.trans HQ.out.1)
   obtain⟨q2,f2⟩:=A1 (HZ.out.2.1.trans HQ.out.2)
   obtain⟨q3,f3⟩:=A1 HZ.out.2.2.1
   have hsz2:w.heap.size+1+1<wz.heap.size:=by have:=HZ.out.2.2.2.2;omega
   have n1:¬w1.heap.size=w.heap.size+1:=by omega
   have n2:¬w1.heap.size=w.heap.size+1+1:=by omega
   go_upto_region 8 with(fail)
   obtain⟨wv,hwv⟩:∃wv,wv=((wz.setCell ⟨w.heap.size+1+1,0,none⟩ (.pointer p1)).setCell ⟨w.heap.size+1+1,1,none⟩ (.pointer p2)).setCell ⟨w.heap.size+1+1,2,none⟩ (.pointer p3):=⟨_,rfl⟩
   have HV:Hid (wv.heap[w.heap.size+1]?=wz.heap[w.heap.size+1]?∧wv.heap[w.heap.size+1+1]?=some (.cells #[.pointer p1, .pointer p2, .pointer p3] 80)∧Bw w wv∧wv.heap.size=wz.heap.size):=by
    subst hwv
    refine⟨by simp only [Ag _ _ _ _ _ (show ¬w.heap.size+1=w.heap.size+1+1 by omega)], ?_,Bw.set (Bw.set (Bw.set HZ.out.2.2.2.1 (by omega) _ _) (by omega) _ _) (by omega) _ _,by simp⟩
    simpa using Ae (Ae (Ae (HZ.out.2.1.trans HQ.out.2) 0 (.pointer p1)) 1 (.pointer p2)) 2 (.pointer p3)
   rw [←hwv]
   clear hwv q1 f1 q2 f2 q3 f3
   obtain⟨q1,f1⟩:=A1 (HV.out.1.trans (HZ.out.1.trans HQ.out.1))
   obtain⟨q2,f2⟩:=A1 HV.out.2.1
   have hsz3:w.heap.size+1+1<wv.heap.size:=by rw [HV.out.2.2.2];exact hsz2
   go_wp2_with fail
   refine bodyPost_ret (v:= .tuple #[.agg #[.pointer p1, .pointer p2, .pointer p3], .bool true]) (by simp [results,Tryz.results119,go_sem,q1]) rfl ?_
   exact RetAt.yes (a:=d.atom) (by simp [baseS,HL.out.1]) (by repeat with_reducible (first|exact HV.out.2.2.1|refine Bw.al ?_ _|refine Bw.set ?_ (by omega) _ _)) HL.out.2
 ·have HQ:=Lib.hid hq
  obtain⟨bs,xs,rfl,_⟩:=hs
  clear hq hr
  go_enter Tryz.func119,Tryz.ntmps119
  go_wp2_with fail
  refine bodyPost_ret (v:= .tuple #[.agg #[.pointer y1, .pointer y2, .pointer y3], .bool true]) (by simp [results,Tryz.results119,go_sem]) rfl ?_
  exact RetAt.yes (by simp [baseS]) (by repeat with_reducible (first|exact Bw.rfl|refine Bw.al ?_ _|refine Bw.set ?_ (by omega) _ _)) HQ.out
end
section
open Go.RowKit
theorem Az.refl (w:World)(r:Nat):Az w w r:=⟨rfl,rfl,rfl,rfl,fun _ _=>rfl⟩
theorem Az.set {w w1:World}{r:Nat}(t:Az w w1 r)(i:Nat)(v:Value):Az w (w1.setCell ⟨r,i,none⟩ v) r:=
 ⟨t.os,t.tape,t.output,by simpa using t.size,fun k hk=>by rw [Ag _ _ _ _ _ hk];exact t.block k hk⟩
theorem copyInto_c (af:Option Addr)(nf cf bm bd:Nat)(y:Six)(rel:ByteArray)(w:World)
  (c0:w.cell? ⟨bm,0,none⟩=some (.slice af nf cf)) (c1:w.cell? ⟨bm,1,none⟩=some (.slice none 0 0))
  (c2:w.cell? ⟨bm,2,none⟩=some (.pointer y.y0)) (c3:w.cell? ⟨bm,3,none⟩=some (.pointer y.y1)) (c4:w.cell? ⟨bm,4,none⟩=some (.pointer y.y2)) (c5:w.cell? ⟨bm,5,none⟩=some (.pointer y.y3)) (c6:w.cell? ⟨bm,6,none⟩=some (.pointer y.y4)) (c7:w.cell? ⟨bm,7,none⟩=some (.bool false))
  (c8:w.cell? ⟨bm,8,none⟩=some (.string rel)) (hne:¬bm=bd)
  (hd:w.heap[bd]?=some (.cells #[.slice none 0 0, .slice none 0 0, .pointer none, .pointer none, .pointer none, .pointer none, .pointer none, .bool false, .string {data:= #[]}] 182)):
  Calls Tryz.prog 120 #[.pointer (some ⟨bm,0,none⟩), .pointer (some ⟨bd,0,none⟩)] w fun e w'=>e= .returned (.tuple #[])∧
   w'.heap[bd]?=some (.cells #[.slice af nf cf, .slice none 0 0, .pointer y.y0, .pointer y.y1, .pointer y.y2, .pointer y.y3, .pointer y.y4, .bool false, .string rel] 182)∧Az w w' bd:=by
 obtain⟨q,f⟩:=A1 hd
 have HD:=Lib.hid hd
 have hne2:¬bd=bm:=fun e=>hne e.symm
 have hlb:=A0 hd
 clear hd
 go_enter Tryz.func120,Tryz.ntmps120
 go_wp2_with fail
 go_end0
 refine⟨rfl, ?_,by repeat with_reducible (first|exact Az.refl _ _|refine Az.set ?_ _ _)⟩
 have:=Ae (Ae (Ae (Ae (Ae (Ae (Ae (Ae (Ae HD.out 0 (.slice af nf cf)) 2 (.pointer y.y0)) 3 (.pointer y.y1)) 4 (.pointer y.y2)) 5 (.pointer y.y3)) 6 (.pointer y.y4)) 7 (.bool false)) 1 (.slice none 0 0)) 8 (.string rel)
 simpa using this
end
section
open Go Go.RowKit Go.MapKept Go.ChangeMaps
theorem zero_any (w:World):(zeroValue 20).run Tryz.prog w= .ok .nilIface w:=by kernel_rfl
theorem run_range_j {w:World}{r:Nat}{es:Array MapEntry}{ck:Nat}(h:w.heap[r]?=some (.map es ck)):
  (Instr.range 190 (.map (some r))).run Tryz.prog w= .ok (.pointer (some ⟨w.heap.size,0,none⟩)) (w.alloc (.mapIter (some r) ck #[] ck)):=run_range_map w _ _ _ r es ck Fa h
theorem iter_next {w:World}{r bm ck:Nat}{seen:Array Nat}{es:Array MapEntry}(hr:w.heap[r]?=some (.mapIter (some bm) ck seen ck))(hb:w.heap[bm]?=some (.map es ck))(hne:bm≠r)(hs:Stamped es ck):
  ((leftOf es seen).size=0∧∀ty,(Instr.next (.pointer (some ⟨r,0,none⟩)) false ty).run Tryz.prog w= .ok (.tuple #[.bool false]) w)∨
  ∃e ∈ (leftOf es seen).toList,∃w2:World,Az w w2 r∧w2.heap[r]?=some (.mapIter (some bm) ck (seen.push e.born) ck)∧(∀ty,(Instr.next (.pointer (some ⟨r,0,none⟩)) false ty).run Tryz.prog w= .ok (.tuple #[.bool true,e.key,e.val]) w2)∧
   (Instr.entry (.pointer (some ⟨r,0,none⟩))).run Tryz.prog w2= .ok (.tuple #[e.key,e.val]) w2:=by
 have hp:∀w1:World,(w1=w∨w1=w.drew)→∀o:Obj,Az w (setBlock w1 r o) r∧(setBlock w1 r o).heap[r]?=some o:=by
  intro w1 h1 o
  have hrs:r<w.heap.size:=(Array.getElem?_eq_some_iff.1 hr).1
  rcases h1 with rfl|rfl
  ·exact⟨⟨rfl,rfl,rfl,by simp [setBlock],fun k hk=>by simp [setBlock,Ne.symm hk]⟩,by simp [setBlock,hrs]⟩
  ·exact⟨⟨rfl,rfl,rfl,by simp [setBlock],fun k hk=>(by simp [setBlock,Ne.symm hk]:(setBlock w.drew r o).heap[k]?=w.drew.heap[k]?).trans rfl⟩,by simp [setBlock,hrs]⟩
 rcases run_next_at (P:=Tryz.prog) w 0 r bm ck ck seen es ck hr hb hs.1 (Nat.le_refl _)with⟨h0,hrun⟩|⟨e,he,w1,h1,hrun⟩
 ·exact .inl ⟨h0,fun _=>hrun⟩
 ·obtain⟨t,hx⟩:=hp w1 h1 (.mapIter (some bm) ck (seen.push e.born) ck)
  refine .inr ⟨e,he,_,t,hx,fun _=>hrun, ?_⟩
  exact run_entry_at _ r bm ck seen es ck e hx (by rw [t.block _ hne];exact hb) (mem_left he).1 hs.2.1
theorem AZ.of {H:Hp}{w:World}(hi:Imm H w){r:Nat}{es:Array MapEntry}{ck:Nat}{ks:List ByteArray}{vs:List JT}(h1:H r=some (.map es ck))(h2:es.size=ks.length)(h3:ks.length=vs.length)(h5:ks.Nodup)(h6:Stamped es ck)(h7:DI H es ks 0 vs):
  AZ H w r ks vs es ck:=⟨hi _ _ h1,h2,h3,h5,h6,h7⟩
theorem AZ.entry {K:Hp}{w:World}{r:Nat}{ks:List ByteArray}{vs:List JT}{es:Array MapEntry}{ck:Nat}(h:AZ K w r ks vs es ck){e:MapEntry}(he:e ∈ es.toList):
  ∃j,∃hj:j<vs.length,∃k,ks[j]?=some k∧es[j]?=some e∧e.key= .string k∧k.size≤lim∧RJ K vs[j] e.val:=by
 obtain⟨j,hj⟩:=List.mem_iff_getElem?.1 he
 have hj':es[j]?=some e:=by simpa using hj
 have hjl:j<vs.length:=by rw [←h.len,←h.size];exact(Array.getElem?_eq_some_iff.1 hj').1
 obtain⟨e',k,g1,g2,g3,g4,g5⟩:=h.es_.get j hjl
 rw [Nat.zero_add]at g1 g2
 rw [hj']at g1;cases g1
 exact⟨j,hjl,k,g2,hj',g3,g4,g5⟩
theorem AZ.look {K:Hp}{w:World}{r:Nat}{ks:List ByteArray}{vs:List JT}{es:Array MapEntry}{ck:Nat}(h:AZ K w r ks vs es ck)(k:ByteArray):
  (k ∉ ks∧(Instr.lookup 190 (.map (some r)) (.string k) true).run Tryz.prog w= .ok (.tuple #[.nilIface, .bool false]) w)∨
  ∃j,∃hj:j<vs.length,∃e,ks[j]?=some k∧es[j]?=some e∧RJ K vs[j] e.val∧(Instr.lookup 190 (.map (some r)) (.string k) true).run Tryz.prog w= .ok (.tuple #[e.val, .bool true]) w:=by
 have hik:IsKey .string (.string k):=trivial
 rcases findNow_spec hik es.toList 0 h.isKey with⟨h1,h2⟩|⟨j,e,h1,h2,h3⟩
 ·refine .inl ⟨fun hm=> ?_,by simp [Instr.lookup,run_underlying Fa,Go.MapKept.run_getObj_map h.at_,run_checkKey CG hik,run_findKey CG h1,zero_any,Result.andThen]⟩
  obtain⟨j,hj,rfl⟩:=List.mem_iff_getElem.1 hm
  obtain⟨e,k',g1,g2,g3,_⟩:=h.es_.get j (by rw [←h.len];exact hj)
  rw [Nat.zero_add]at g1 g2
  rw [List.getElem?_eq_getElem hj]at g2;cases g2
  exact h2 e (by rw [List.mem_iff_getElem?];exact⟨j,by simpa using g1⟩) g3
 ·obtain⟨j',hj',k',g1,g2,g3,g4,g5⟩:=h.entry (List.mem_of_getElem? h2)
  rw [h3]at g3;cases g3
  exact .inr ⟨j',hj',e,g1,g2,g5,by simp [Instr.lookup,run_underlying Fa,Go.MapKept.run_getObj_map h.at_,run_checkKey CG hik,run_findKey CG h1,Result.andThen]⟩
theorem run_len_j {w:World}{r:Nat}{es:Array MapEntry}{ck:Nat}(h:w.heap[r]?=some (.map es ck)):
  (Builtin.len_ #[190] 3 #[.map (some r)]).run Tryz.prog w= .ok (.int .i64 (es.size:Int)) w:=by
 simp [Builtin.len_,run_underlying Fa,Go.MapKept.run_getObj_map h,Result.andThen]
 rfl
theorem CN {w:World}{r:Nat}{a:Option Nat}{b c:Nat}{s:Array Nat}(h:w.heap[r]?=some (.mapIter a b s c)):w.iterSeen r=s:=by
 unfold World.iterSeen;rw [h]
end
section
open Go.RowKit Go.MapKept
mutual
def Es:JT→Bool
 | .flt f=> !nanB f
 | .list l=>DD l
 | .map _ vs=>DD vs
 |_=>true
def DD:List JT→Bool
 |[]=>true
 |t::r=>Es t && DD r
end
theorem noNans_get:∀{l:List JT} (h:DD l=true) {j:Nat} (hj:j<l.length),Es l[j]=true
 |t::r,h,0,_=>by simp only [DD,Bool.and_eq_true]at h;exact h.1
 |t::r,h,j+1,hj=>by
  simp only [DD,Bool.and_eq_true]at h
  exact noNans_get h.2 (by simpa using hj)
def CDeep (t:JT):Prop:=∀(H:Hp) (x:Value) (w:World),Imm H w→RJ H t x→Es t=true→Calls Tryz.prog 150 #[x,x] w (Pur w (.bool true))
theorem deep_plain (t:JT)(h:match t with| .list _=>False| .map _ _=>False|_=>True):CDeep t:=by
 intro H x w hi hr hn
 cases t
 case list=>exact h.elim
 case map=>exact h.elim
 all_goals
  simp only [RJ]at hr
  first
  |subst hr
  |(obtain⟨rfl,_⟩:=hr)
 case flt=>
  rename_i f hff
  have hf:(FloatKind.f64.format.order f f==some .eq)=true:=by simpa [Es,nanB]using hn
  clear hn h
  go_enter Tryz.func150,Tryz.ntmps150
  go_wp2_with fail
  all_goals go_ret
  all_goals (first|exact⟨rfl,Bw.rfl⟩|exact⟨by simp,Bw.rfl⟩|exact⟨by simp [hf],Bw.rfl⟩)
 all_goals
  clear hn h
  go_enter Tryz.func150,Tryz.ntmps150
  go_wp2_with fail
  all_goals go_ret
  all_goals (first|exact⟨rfl,Bw.rfl⟩|exact⟨by simp,Bw.rfl⟩|exact⟨by simp [hf],Bw.rfl⟩)
@[go_sem] theorem slice_eq_nil (w:World) (a:Addr) (n c:Nat):(binOp .eql 189 (.slice (some a) n c) (.slice none 0 0)).run Tryz.prog w= .ok (.bool false) w:=by kernel_rfl
@[go_sem] theorem slice_nil_nil (w:World):(binOp .eql 189 (.slice none 0 0) (.slice none 0 0)).run Tryz.prog w= .ok (.bool true) w:=by kernel_rfl
@[go_sem] theorem map_eq_nil (w:World) (r:Nat):(binOp .eql 190 (.map (some r)) (.map none)).run Tryz.prog w= .ok (.bool false) w:=by kernel_rfl
theorem deep_list (l:List JT)(h:∀j (hj:j<l.length),CDeep l[j]):CDeep (.list l):=by
 intro H x w hi hr hn
 simp only [RJ]at hr
 obtain⟨a,c,rfl,hnil,hl,hlc,hat⟩:=hr
 simp only [Es]at hn
 have HA:=Lib.hid (And.intro hat (And.intro hn h))
 clear hat hn h
 unfold lim at hl
 have ha:a=none∨∃ad,a=some ad:=by cases a with|none=>exact .inl rfl|some ad=>exact .inr ⟨ad,rfl⟩
 rcases ha with rfl|⟨ad,rfl⟩
 all_goals
  go_enter Tryz.func150,Tryz.ntmps150
  go_wp2_with fail
  go_loopw [115] (fun i wr=>∃j:Nat,j≤l.length∧i= .int .i64 (j:Int)∧Bw w wr) (fun i _=>((l.length:Int) - intOf i).toNat)
 case atStart=>exact⟨0,Nat.zero_le _,rfl,Bw.rfl⟩
 case atStart=>exact⟨0,Nat.zero_le _,rfl,Bw.rfl⟩
 all_goals
  rename_i wr
  obtain⟨j,hj,rfl,hb⟩:=hrel
  have hiw:=hi.below hb
  by_cases hjl:j<l.length
 ·obtain⟨b,o,v,hx,hc,hv⟩:=HA.out.1.get j hjl
  cases hx
 ·go_wp2_with fail
  go_ret
  exact⟨rfl,hb⟩
 ·obtain⟨b,o,v,hx,hc,hv⟩:=HA.out.1.get j hjl
  cases hx
  rw [Nat.zero_add]at hc
  have k0:=hiw.cell hc
  have hva:=RJ.isAny hv
  have HV:=Lib.hid hv
  clear hv hc
  have CP:=fun d os=>Calls.regrown_of (HA.out.2.2 j hjl H v (Go.Sort.grow (redrawn wr d) os) (hiw.below (below_regrown wr d os)) HV.out (noNans_get HA.out.2.1 hjl))
  rcases hva with rfl|⟨T,v,rfl⟩
  all_goals
   have g0:=cell_regrown k0
   clear k0
   go_wp2_with fail
   refine wp_region_quiet_below (by kernel_rfl) (by kernel_rfl) ?_
   repeat (go_big_quiet_step (exact CP _ _))
   refine wpQuiet_nil ?_
   intro _ hw'
   obtain⟨⟨dq,osq⟩,hw''⟩:=hw'
   subst hw''
   have hb2:=hb.tr (below_regrown wr dq osq)
   go_wp2_with fail
   go_roundw
   case rel=>exact⟨j+1,by omega,by go_num,hb2⟩
   case measure=>simp [intOf];omega
 ·go_wp2_with fail
  go_ret
  exact⟨rfl,hb⟩
theorem deep_map (ks:List ByteArray)(vs:List JT)(h:∀j (hj:j<vs.length),CDeep vs[j]):CDeep (.map ks vs):=by
 intro H x w hi hr hn
 simp only [RJ]at hr
 obtain⟨r,es,ck,rfl,hH,h2,h3,h4,h5,h6,h7⟩:=hr
 simp only [Es]at hn
 have HA:=Lib.hid (And.intro (And.intro hH (And.intro h2 (And.intro h3 (And.intro h5 (And.intro h6 h7))))) (And.intro hn h))
 have q:=hi _ _ hH
 have hrg:=run_range_j q
 have hlen:=run_len_j q
 clear hn h hH h2 h3 h5 h6 h7
 go_enter Tryz.func150,Tryz.ntmps150
 go_wp2_with fail
 have HB0:=Lib.hid (A5 (w:=w) (o:= .mapIter (some r) ck #[] ck))
 go_loopw [] (fun wr=>∃seen,Bw w wr∧wr.heap[w.heap.size]?=some (.mapIter (some r) ck seen ck)) (fun wr=>(leftOf es (wr.iterSeen w.heap.size)).size)
 case atStart=>exact⟨#[],A5,A4⟩
 case round=>
  rename_i wr
  obtain⟨seen,hb,hbox⟩:=hrel
  have hiw:=hi.below hb
  have qr:=hiw _ _ HA.out.1.1
  have hlt:=(Array.getElem?_eq_some_iff.1 q).1
  have hms:=AZ.of hiw HA.out.1.1 HA.out.1.2.1 HA.out.1.2.2.1 HA.out.1.2.2.2.1 HA.out.1.2.2.2.2.1 HA.out.1.2.2.2.2.2
  rcases iter_next hbox qr (by omega) HA.out.1.2.2.2.2.1 with⟨h0,hnx⟩|⟨e,he,w2,ht,hx,hnx,hen⟩
  ·clear q hrg hlen hms
   go_wp2_with fail
   go_ret
   exact⟨rfl,hb⟩
  ·have hb2:=hb.turn (Nat.le_refl _) ht
   have hms2:=AZ.of (hi.below hb2) HA.out.1.1 HA.out.1.2.1 HA.out.1.2.2.1 HA.out.1.2.2.2.1 HA.out.1.2.2.2.2.1 HA.out.1.2.2.2.2.2
   obtain⟨j,hj,k,hjk,hje,hk,hks,hv⟩:=hms.entry (mem_left he).1
   rcases hms2.look k with⟨hno,_⟩|⟨j2,hj2,e2,hjk2,hje2,hv2,hlk⟩
   ·exact absurd (List.mem_of_getElem? hjk) hno
   ·have ejj:j2=j:=by
     have hjl:j<ks.length:=(List.getElem?_eq_some_iff.1 hjk).1
     have hjl2:j2<ks.length:=(List.getElem?_eq_some_iff.1 hjk2).1
     exact(List.getElem_inj HA.out.1.2.2.2.1).1 ((List.getElem?_eq_some_iff.1 hjk2).2.trans (List.getElem?_eq_some_iff.1 hjk).2.symm)
    subst ejj
    have hva:=RJ.isAny hv
    have HV:=Lib.hid hv
    clear hv
    have CP:=Lib.hid (HA.out.2.2 j2 hj H e.val w2 (hi.below hb2) HV.out (noNans_get HA.out.2.1 hj))
    rw [hk]at hnx hen
    have hv3:e=e2:=Option.some.inj (hje.symm.trans hje2)
    subst hv3
    have HE:=Lib.hid (And.intro he hx)
    have hwr:=CN hbox
    rcases e with⟨ek,ev,eb⟩
    rcases hva with hva|⟨T,v,hva⟩
    all_goals
     simp only at hva
     subst hva
     clear q hrg hlen hms hms2 hk hx hbox he hje hje2 hv2 hjk hjk2
     go_wp2_with fail
     refine CP.out.mono ?_
     rintro _ w3 ⟨rfl,hb3⟩
     have hx3:w3.heap[w.heap.size]?=some (.mapIter (some r) ck (seen.push eb) ck):=A2 hb3 HE.out.2
     go_wp2_with fail
     go_roundw
     case rel=>exact⟨_,hb2.tr hb3,hx3⟩
     case measure=>
      rw [CN hx3,hwr]
      exact left_shrinks es seen _ HE.out.1
theorem deep_c:∀(n:Nat) (t:JT),t.sz≤n→CDeep t
 |0,t,h=>by cases t<;>simp [JT.sz]at h
 |n+1,t,h=>by
  cases t
  case list l=>exact deep_list l fun j hj=>deep_c n _ (by have:=CJ hj;simp only [JT.sz]at h;omega)
  case map ks vs=>exact deep_map ks vs fun j hj=>deep_c n _ (by have:=CJ hj;simp only [JT.sz]at h;omega)
  all_goals exact deep_plain _ trivial
end
end Go.Proofs.YtmghkmhgpmcoaaaGreat
