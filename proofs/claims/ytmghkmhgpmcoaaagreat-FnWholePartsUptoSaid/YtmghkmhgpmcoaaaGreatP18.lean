/- What the claim's theorem 'proved' rests on: Zip, ZipW, Deduce. -/
import Derived.Sort.Walk0
import Derived.Lib.SlicesS
import Derived.RegionTactic
import Derived.Test.YtmghkmhgpmcoaaaGreatP16
set_option linter.unusedVariables false
set_option linter.unusedSimpArgs false
set_option maxRecDepth 100000
set_option maxHeartbeats 10000000
namespace Go.Proofs.YtmghkmhgpmcoaaaGreat
section
open Go Go.RowKit Go.MapKept
@[go_sem] theorem if_eq_nil_337 (w:World) (T:TypeId) (v:Value):(binOp .eql 337 (.iface T v) .nilIface).run Tryz.prog w= .ok (.bool false) w:=by kernel_rfl
@[go_sem] theorem if_ne_nil_337 (w:World) (T:TypeId) (v:Value):(binOp .neq 337 (.iface T v) .nilIface).run Tryz.prog w= .ok (.bool true) w:=by kernel_rfl
@[go_sem] theorem if_nil_nil_337 (w:World):(binOp .eql 337 .nilIface .nilIface).run Tryz.prog w= .ok (.bool true) w:=by kernel_rfl
@[go_sem] theorem if_nil_nn_337 (w:World):(binOp .neq 337 .nilIface .nilIface).run Tryz.prog w= .ok (.bool false) w:=by kernel_rfl
@[go_sem] theorem if_eq_nil_332 (w:World) (T:TypeId) (v:Value):(binOp .eql 332 (.iface T v) .nilIface).run Tryz.prog w= .ok (.bool false) w:=by kernel_rfl
@[go_sem] theorem if_ne_nil_332 (w:World) (T:TypeId) (v:Value):(binOp .neq 332 (.iface T v) .nilIface).run Tryz.prog w= .ok (.bool true) w:=by kernel_rfl
@[go_sem] theorem if_nil_nil_332 (w:World):(binOp .eql 332 .nilIface .nilIface).run Tryz.prog w= .ok (.bool true) w:=by kernel_rfl
@[go_sem] theorem if_nil_nn_332 (w:World):(binOp .neq 332 .nilIface .nilIface).run Tryz.prog w= .ok (.bool false) w:=by kernel_rfl
@[go_sem] theorem if_eq_nil_91 (w:World) (T:TypeId) (v:Value):(binOp .eql 91 (.iface T v) .nilIface).run Tryz.prog w= .ok (.bool false) w:=by kernel_rfl
@[go_sem] theorem if_ne_nil_91 (w:World) (T:TypeId) (v:Value):(binOp .neq 91 (.iface T v) .nilIface).run Tryz.prog w= .ok (.bool true) w:=by kernel_rfl
@[go_sem] theorem if_nil_nil_91 (w:World):(binOp .eql 91 .nilIface .nilIface).run Tryz.prog w= .ok (.bool true) w:=by kernel_rfl
@[go_sem] theorem if_nil_nn_91 (w:World):(binOp .neq 91 .nilIface .nilIface).run Tryz.prog w= .ok (.bool false) w:=by kernel_rfl
theorem zipA_c {H:Hp}{r:Nat}{ks:List ByteArray}{vs:List JT}{es:Array MapEntry}{ck:Nat}(h:Cw H r ks vs es ck)(ha j:Nat)(hj:j<vs.length)(k:ByteArray)(hk:ks[j]?=some k)
  (bL b2 b3 b4 g:Nat) (cap:Array Value) (eg:∀args w,(callFunc g args).run Tryz.prog w= .ok (.enter g args) w) (w:World) (hi:Imm H w)
  (k2:w.cell? ⟨b2,0,none⟩=some (.iface 446 (.map (some r)))) (k3:w.cell? ⟨b3,0,none⟩=some (.iface 185 (.pointer (some ⟨ha,0,none⟩)))) (k4:w.cell? ⟨b4,0,none⟩=some (.func (.func g) #[] cap))
  (Post:World→World→Prop)
  (hf:∀w1 bR y,Bw w w1→w.heap.size≤bR→w1.heap[bR]?=some (.cells #[y] 244)→RJ H vs[j] y→
   Calls Tryz.prog g (#[.string k, .iface 184 (.pointer (some ⟨bL,0,none⟩)), .iface 184 (.pointer (some ⟨bR,0,none⟩))]++cap) w1 (fun e w2=>e= .returned (.bool true)∧Post w1 w2)):
  Calls Tryz.prog 341 #[.string k, .iface 184 (.pointer (some ⟨bL,0,none⟩)), .pointer (some ⟨b2,0,none⟩), .pointer (some ⟨b3,0,none⟩), .pointer (some ⟨b4,0,none⟩)] w
   (fun e w2=>e= .returned (.bool true)∧∃w1,Bw w w1∧Post w1 w2):=by
 have HA:=Lib.hid (And.intro h (And.intro hi (And.intro hk hf)))
 have m1:=fun w=>methm_GetUsing (some r) w
 have m7:=fun a w=>Bq a w
 clear h hi hk hf
 go_enter_defers Tryz.func341,Tryz.ntmps341
 go_wp2_with fail
 refine(mapGet_c HA.out.1 ⟨ha,0,none⟩ j hj k HA.out.2.2.1 w HA.out.2.1).mono ?_
 rintro _ w1 ⟨hb1,bR,y,rfl,hsz,hbR,hy⟩
 have l3:=cell_later hb1 k3
 have l4:=cell_later hb1 k4
 have HF:=Lib.hid (HA.out.2.2.2 w1 bR y hb1 hsz hbR hy)
 have HB:=Lib.hid hb1
 clear k2 k3 k4 hb1 hbR hy
 go_wp2_with (go_at_fn g;refine HF.out.mono ?_;rintro _ w2 ⟨rfl,hp⟩)
 replace hp:=Lib.hid hp
 go_wp2_with fail
 refine leaves_cons (f:=274) (args:= #[.pointer (some ⟨ha,0,none⟩), .iface 184 (.pointer (some ⟨bR,0,none⟩))]) (by simp) (by simp [go_sem,m7]) ?_
 refine(Bn _ _ _ _).mono ?_
 rintro _ _ _ ⟨rfl,rfl,rfl⟩
 exact⟨.bool true,(by simp [results,Tryz.results341,go_sem]),rfl,w1,HB.out,hp.out⟩
theorem zipB_c {H:Hp}{r:Nat}{ks:List ByteArray}{vs:List JT}{es:Array MapEntry}{ck:Nat}(h:Cw H r ks vs es ck)(k:ByteArray)(hk:k ∈ ks)(V:Value)(b2 b4:Nat)(w:World)(hi:Imm H w)
  (k2:w.cell? ⟨b2,0,none⟩=some (.iface 446 (.map (some r)))):
  Calls Tryz.prog 342 #[.string k,V, .pointer (some ⟨b2,0,none⟩), .pointer (some ⟨b4,0,none⟩)] w (Pur w (.bool true)):=by
 have HA:=Lib.hid (mapHas_c h k w hi)
 rw [decide_eq_true hk]at HA
 have m1:=fun w=>methm_Has (some r) w
 clear h hi hk
 go_enter Tryz.func342,Tryz.ntmps342
 go_wp2_with fail
 refine HA.out.mono ?_
 rintro _ w1 ⟨rfl,hb1⟩
 go_wp2_with fail
 go_ret
 exact⟨rfl,hb1⟩
def ZipEnd (X:Nat→Prop)(Inv:List Nat→Hp→Prop)(n:Nat)(w:World):Ending→World→Prop:=fun e w'=>e= .returned (.bool true)∧Fr X w.heap.size w w'∧∃L:List Nat,L.Nodup∧(∀j,j ∈ L↔j<n)∧Inv L (At w')
theorem ZipEnd.later {X:Nat→Prop}{Inv:List Nat→Hp→Prop}{n:Nat}{w w1 w2:World}{e:Ending}(h:ZipEnd X Inv n w1 e w2)(hb:Bw w w1):ZipEnd X Inv n w e w2:=
 ⟨h.1,(Fr.of_bw hb (Nat.le_refl _)).trans h.2.1 hb.size,h.2.2⟩
def ZipFn (H:Hp)(g:Nat)(cap:Array Value)(X:Nat→Prop)(Inv:List Nat→Hp→Prop)(ks1:List ByteArray)(vs1:List JT)(ks2:List ByteArray)(vs2:List JT)(w:World):Prop:=
 ∀L j (hj:j<vs1.length) j2 (hj2:j2<vs2.length) k n w1 bL bR x y,ks1[j]?=some k→ks2[j2]?=some k→Fr X w.heap.size w w1→w.heap.size≤n→n+2≤w1.heap.size→w.heap.size≤bL→w.heap.size≤bR→bL≠bR→w1.heap[bL]?=some (.cells #[x] 244)→w1.heap[bR]?=some (.cells #[y] 244)→
  RJ H vs1[j] x→RJ H vs2[j2] y→Inv L (CS n w1)→L.Nodup→(∀i ∈ L,i<vs1.length)→j ∉ L→
  Calls Tryz.prog g (#[.string k, .iface 184 (.pointer (some ⟨bL,0,none⟩)), .iface 184 (.pointer (some ⟨bR,0,none⟩))]++cap) w1 (fun e w2=>e= .returned (.bool true)∧Fr X (n+2) w1 w2∧Inv (L++[j]) (CS n w2))
theorem ZipFn.later {H:Hp}{g:Nat}{cap:Array Value}{X:Nat→Prop}{Inv:List Nat→Hp→Prop}{ks1 ks2:List ByteArray}{vs1 vs2:List JT}{w w1:World}(h:ZipFn H g cap X Inv ks1 vs1 ks2 vs2 w)(hb:Bw w w1):ZipFn H g cap X Inv ks1 vs1 ks2 vs2 w1:=by
 intro L j hj j2 hj2 k n w3 bL bR x y a1 a2 a3 a4 a5 a6 a7
 have:=hb.size
 exact h L j hj j2 hj2 k n w3 bL bR x y a1 a2 ((Fr.of_bw hb (Nat.le_refl _)).trans a3 this) (by omega) a5 (by omega) (by omega)
theorem mask_mono {n:Nat}{w w1:World}(hb:Bw w w1):Hle (CS n w) (CS n w1):=by
 intro k o h
 unfold CS at h⊢
 split at h
 ·cases h
 ·rename_i c;rw [if_neg c];exact A2 hb h
theorem unordered_c {H:Hp}{r1 r2:Nat}{ks1 ks2:List ByteArray}{vs1 vs2:List JT}{es1 es2:Array MapEntry}{ck1 ck2:Nat}(h1:Cw H r1 ks1 vs1 es1 ck1)(h2:Cw H r2 ks2 vs2 es2 ck2)(hne:0<ks1.length)(h12:∀k ∈ ks1,k ∈ ks2)(h21:∀k ∈ ks2,k ∈ ks1)
  (ha g:Nat) (cap:Array Value) (eg:∀args w,(callFunc g args).run Tryz.prog w= .ok (.enter g args) w) (X:Nat→Prop) (Inv:List Nat→Hp→Prop) (hmono:∀L K K',Hle K K'→Inv L K→Inv L K')
  (w:World) (hi:Imm H w) (hX:∀k,X k→k<w.heap.size∧H k=none) (h0:Inv [] (At w)) (hf:ZipFn H g cap X Inv ks1 vs1 ks2 vs2 w):
  Calls Tryz.prog 339 #[.iface 185 (.pointer (some ⟨ha,0,none⟩)), .iface 446 (.map (some r1)), .iface 446 (.map (some r2)), .func (.func g) #[] cap] w (ZipEnd X Inv vs1.length w):=by
 have HA:=Lib.hid (And.intro hi (And.intro h1 (And.intro h2 (And.intro hX (And.intro h0 (And.intro hf (And.intro h12 (And.intro h21 hmono))))))))
 have hl1:=h1.lim_
 unfold lim at hl1
 have hz:((ks1.length:Int)==0)=false:=by have:¬(ks1.length:Int)=0:=(by omega);simpa using this
 have m1:=fun w=>DU (some r1) w
 have m2:=fun w=>D9 (some r1) w
 have m3:=fun w=>D9 (some r2) w
 have hmf:∀(fn:Fn) (first cap:Array Value) (w:World),(Instr.makeFunc fn first cap).run Tryz.prog w= .ok (.func fn first cap) w:=fun _ _ _ _=>rfl
 clear hi h1 h2 hX h0 hf h12 h21 hmono
 obtain⟨wb,hwb⟩:∃wb,wb=(((w.alloc (.cells #[.iface 185 (.pointer (some ⟨ha,0,none⟩))] 143)).alloc (.cells #[.iface 446 (.map (some r1))] 337)).alloc (.cells #[.iface 446 (.map (some r2))] 337)).alloc (.cells #[.func (.func g) #[] cap] 351):=⟨_,rfl⟩
 have HB:Hid (Bw w wb∧wb.heap[w.heap.size]?=some (.cells #[.iface 185 (.pointer (some ⟨ha,0,none⟩))] 143)∧wb.heap[w.heap.size+1]?=some (.cells #[.iface 446 (.map (some r1))] 337)∧wb.heap[w.heap.size+1+1]?=some (.cells #[.iface 446 (.map (some r2))] 337)∧
   wb.heap[w.heap.size+1+1+1]?=some (.cells #[.func (.func g) #[] cap] 351)∧wb.heap.size=w.heap.size+4):=by
  subst hwb;exact⟨Co.al _,b4_0,b4_1,b4_2,b4_3,by simp⟩
 have HWB:=Lib.hid hwb.symm
 clear hwb
 go_enter Tryz.func339,Tryz.ntmps339
 go_wp2_with fail
 rw [HWB.out]
 refine(Eu HA.out.2.1 wb (HA.out.1.below HB.out.1)).mono ?_
 rintro _ w1 ⟨rfl,hb1⟩
 have HB1:=Lib.hid (And.intro hb1 (HB.out.1.tr hb1))
 obtain⟨q0,f0⟩:=A1 (A2 hb1 HB.out.2.1)
 obtain⟨q1,f1⟩:=A1 (A2 hb1 HB.out.2.2.1)
 obtain⟨q2,f2⟩:=A1 (A2 hb1 HB.out.2.2.2.1)
 have IC:Hid (Calls Tryz.prog 332 #[.map (some r1), .iface 185 (.pointer (some ⟨ha,0,none⟩)), .func (.func 341) #[] #[.pointer (some ⟨w.heap.size+1+1,0,none⟩), .pointer (some ⟨w.heap.size,0,none⟩), .pointer (some ⟨w.heap.size+1+1+1,0,none⟩)]] w1
   (IterEnd X Inv (fun _=>true) vs1.length w1)):=by
  have hid:=HA.out.1.below HB1.out.2
  have hs1:=HB1.out.2.size
  have hs2:=HB1.out.1.size
  have hs3:=HB.out.2.2.2.2.2
  refine iterate_c HA.out.2.1 ⟨ha,0,none⟩ 341 _ (enters_of Tryz.func341 (by kernel_rfl) rfl) X Inv _ w1 hid (fun k hk=>⟨by have:=(HA.out.2.2.2.1 k hk).1;omega,(HA.out.2.2.2.1 k hk).2⟩) (HA.out.2.2.2.2.2.2.2.2 _ _ _ (AG HB1.out.2) HA.out.2.2.2.2.1) ?_
  intro L j hj k w3 x hk hfr hbig hbx hx hinv hnd hlt hjl
  have hkm:k ∈ ks2:=HA.out.2.2.2.2.2.2.1 k (List.mem_of_getElem? hk)
  obtain⟨j2,hj2,e2⟩:=List.mem_iff_getElem.1 hkm
  have hj2':j2<vs2.length:=by rw [←HA.out.2.2.1.len];exact hj2
  have hX3:∀b,w.heap.size≤b→¬X b:=fun b hb hx=>by have:=(HA.out.2.2.2.1 b hx).1;omega
  have hk3:∀b o,w.heap.size≤b→b<w.heap.size+4→wb.heap[b]?=some o→w3.heap[b]?=some o:=fun b o h1 h2 ho=>by
   rw [hfr.block b (by omega) (hX3 b h1)];exact A2 HB1.out.1 ho
  have g0:=hk3 _ _ (by omega) (by omega) HB.out.2.1
  have g2:=hk3 _ _ (by omega) (by omega) HB.out.2.2.2.1
  have g3:=hk3 _ _ (by omega) (by omega) HB.out.2.2.2.2.1
  refine(zipA_c HA.out.2.2.1 ha j2 hj2' k (by rw [List.getElem?_eq_getElem hj2,e2]) w1.heap.size (w.heap.size+1+1) w.heap.size (w.heap.size+1+1+1) g cap eg w3 (hfr.imm hid fun k hk=>(HA.out.2.2.2.1 k hk).2) ((A1 g2).1 0) ((A1 g0).1 0) ((A1 g3).1 0)
   (fun wa w2=>Fr X (w1.heap.size+2) wa w2∧Inv (L++[j]) (CS w1.heap.size w2)) ?_).mono ?_
  ·intro wa bR y hba hbR hbRx hy
   have hfra:Fr X w.heap.size w wa:=((Fr.of_bw HB1.out.2 (Nat.le_refl _)).trans hfr hs1).trans (Fr.of_bw hba (Nat.le_refl _)) (by have:=hfr.size;omega)
   have hsa:=hba.size
   exact HA.out.2.2.2.2.2.1 L j hj j2 hj2' k w1.heap.size wa w1.heap.size bR x y hk (by rw [List.getElem?_eq_getElem hj2,e2]) hfra hs1 (by omega) hs1 (by omega) (by omega) (A2 hba hbx) hbRx hx hy (HA.out.2.2.2.2.2.2.2.2 _ _ _ (mask_mono hba) hinv) hnd hlt hjl
  ·rintro _ w2 ⟨rfl,wa,hba,hp⟩
   exact⟨rfl,(Fr.of_bw hba (by omega)).trans hp.1 (Nat.le_refl _),hp.2⟩
 clear hb1
 go_wp2_with fail
 refine IC.out.mono ?_
 rintro _ w2 ⟨hfr,L,b,rfl,hinv,hnd,hlt,hyes,hno⟩
 obtain rfl:b=true:=by
  cases b
  ·obtain⟨j,_,hj⟩:=hno rfl;cases hj
  ·rfl
 have HF:=Lib.hid (And.intro hfr (And.intro (HA.out.2.2.2.2.2.2.2.2 _ _ _ (mask_le _ _) hinv) (And.intro hnd (And.intro hlt hyes))))
 have hX3:Hid (∀b o,w.heap.size≤b→b<w.heap.size+4→wb.heap[b]?=some o→w2.heap[b]?=some o):=fun b o h1 h2 ho=>by
  have:=HB1.out.1.size
  have hs3:=HB.out.2.2.2.2.2
  rw [hfr.block b (by omega) (fun hx=>by have:=(HA.out.2.2.2.1 b hx).1;omega)];exact A2 HB1.out.1 ho
 clear q0 f0 q1 f1 q2 f2 IC hinv hnd hlt hyes hno
 obtain⟨q0,f0⟩:=A1 (hX3.out _ _ (by omega) (by omega) HB.out.2.1)
 obtain⟨q2,f2⟩:=A1 (hX3.out _ _ (by omega) (by omega) HB.out.2.2.2.1)
 have ID:Hid (Calls Tryz.prog 332 #[.map (some r2), .iface 185 (.pointer (some ⟨ha,0,none⟩)), .func (.func 342) #[] #[.pointer (some ⟨w.heap.size+1,0,none⟩), .pointer (some ⟨w.heap.size+1+1+1,0,none⟩)]] w2
   (IterEnd (fun _=>False) (fun _ _=>True) (fun _=>true) vs2.length w2)):=by
  have hid:Imm H w2:=hfr.imm (HA.out.1.below HB1.out.2) fun k hk=>(HA.out.2.2.2.1 k hk).2
  have hs1:=HB1.out.2.size
  have hs2:=HB1.out.1.size
  have hs3:=HB.out.2.2.2.2.2
  have hs4:=hfr.size
  refine iterate_c HA.out.2.2.1 ⟨ha,0,none⟩ 342 _ (enters_of Tryz.func342 (by kernel_rfl) rfl) _ _ _ w2 hid (fun k hk=>hk.elim) trivial ?_
  intro L j hj k w3 x hk hfr3 hbig hbx hx hinv hnd hlt hjl
  have g1:w3.heap[w.heap.size+1]?=some (.cells #[.iface 446 (.map (some r1))] 337):=by
   rw [hfr3.block _ (by omega) (fun h=>h)];exact hX3.out _ _ (by omega) (by omega) HB.out.2.2.1
  refine(zipB_c HA.out.2.1 k (HA.out.2.2.2.2.2.2.2.1 k (List.mem_of_getElem? hk)) _ (w.heap.size+1) (w.heap.size+1+1+1) w3 (hfr3.imm hid fun k hk=>hk.elim) ((A1 g1).1 0)).mono ?_
  rintro _ w4 ⟨rfl,h4⟩
  exact⟨rfl,Fr.of_bw h4 (by omega),trivial⟩
 clear hfr
 go_wp2_with fail
 refine ID.out.mono ?_
 rintro _ w3 ⟨hfr3,L3,b,rfl,_,_,_,_,hno⟩
 obtain rfl:b=true:=by
  cases b
  ·obtain⟨j,_,hj⟩:=hno rfl;cases hj
  ·rfl
 have HF3:=Lib.hid hfr3
 clear hfr3 hno ID
 go_wp2_with fail
 go_ret
 obtain⟨hfr,hinv,hnd,hlt,hyes⟩:=HF.out
 have hs1:=HB1.out.2.size
 have hs4:=hfr.size
 refine⟨rfl,((Fr.of_bw HB1.out.2 (Nat.le_refl _)).trans hfr hs1).trans ⟨HF3.out.os,HF3.out.tape,HF3.out.output,HF3.out.size,fun k hk _=>HF3.out.block k hk (fun h=>h)⟩ (by omega),L,hnd,fun j=>⟨fun h=>hlt j h,fun h=>(hyes trivial j h).1⟩,HA.out.2.2.2.2.2.2.2.2 _ _ _ (fun k o e=> ?_) hinv⟩
 show w3.heap[k]?=some o
 rw [HF3.out.block k (A0 e) (fun h=>h)];exact e
end
section
open Go Go.RowKit Go.MapKept
structure ZipHyp (H:Hp) (r1 r2:Nat) (ks1 ks2:List ByteArray) (vs1 vs2:List JT) (g:Nat) (cap:Array Value) (X:Nat→Prop) (Inv:List Nat→Hp→Prop) (w:World):Prop where
 m1:∃es ck,Cw H r1 ks1 vs1 es ck
 m2:∃es ck,Cw H r2 ks2 vs2 es ck
 ne:0<ks1.length
 h12:∀k ∈ ks1,k ∈ ks2
 h21:∀k ∈ ks2,k ∈ ks1
 eg:∀args w,(callFunc g args).run Tryz.prog w= .ok (.enter g args) w
 mono:∀L K K',Hle K K'→Inv L K→Inv L K'
 imm:Imm H w
 hX:∀k,X k→k<w.heap.size∧H k=none
 start:Inv [] (At w)
 fn:ZipFn H g cap X Inv ks1 vs1 ks2 vs2 w
theorem ZipHyp.later {H:Hp}{r1 r2:Nat}{ks1 ks2:List ByteArray}{vs1 vs2:List JT}{g:Nat}{cap:Array Value}{X:Nat→Prop}{Inv:List Nat→Hp→Prop}{w w1:World}(h:ZipHyp H r1 r2 ks1 ks2 vs1 vs2 g cap X Inv w)(hb:Bw w w1):ZipHyp H r1 r2 ks1 ks2 vs1 vs2 g cap X Inv w1:=
 ⟨h.m1,h.m2,h.ne,h.h12,h.h21,h.eg,h.mono,h.imm.below hb,fun k hk=>⟨by have:=(h.hX k hk).1;have:=hb.size;omega,(h.hX k hk).2⟩,h.mono _ _ _ (AG hb) h.start,h.fn.later hb⟩
theorem ZipHyp.unordered {H:Hp}{r1 r2:Nat}{ks1 ks2:List ByteArray}{vs1 vs2:List JT}{g:Nat}{cap:Array Value}{X:Nat→Prop}{Inv:List Nat→Hp→Prop}{w:World}(h:ZipHyp H r1 r2 ks1 ks2 vs1 vs2 g cap X Inv w)(ha:Nat):
  Calls Tryz.prog 339 #[.iface 185 (.pointer (some ⟨ha,0,none⟩)), .iface 446 (.map (some r1)), .iface 446 (.map (some r2)), .func (.func g) #[] cap] w (ZipEnd X Inv vs1.length w):=by
 obtain⟨es1,ck1,h1⟩:=h.m1
 obtain⟨es2,ck2,h2⟩:=h.m2
 exact unordered_c h1 h2 h.ne h.h12 h.h21 ha g cap h.eg X Inv h.mono w h.imm h.hX h.start h.fn
theorem defaultZip_c {H:Hp}{r1 r2:Nat}{ks1 ks2:List ByteArray}{vs1 vs2:List JT}{g:Nat}{cap:Array Value}{X:Nat→Prop}{Inv:List Nat→Hp→Prop}{w:World}(h:ZipHyp H r1 r2 ks1 ks2 vs1 vs2 g cap X Inv w)(ha:Nat):
  Calls Tryz.prog 338 #[.iface 185 (.pointer (some ⟨ha,0,none⟩)), .iface 446 (.map (some r1)), .iface 446 (.map (some r2)), .int .i64 0, .func (.func g) #[] cap] w (ZipEnd X Inv vs1.length w):=by
 have HA:=Lib.hid (h.unordered ha)
 clear h
 go_enter Tryz.func338,Tryz.ntmps338
 go_wp2_with fail
 refine HA.out.mono ?_
 rintro _ w1 ⟨rfl,hz⟩
 have HZ:=Lib.hid hz
 clear hz
 go_wp2_with fail
 go_ret
 exact⟨rfl,HZ.out⟩
theorem zipUsing_c {H:Hp}{r1 r2:Nat}{ks1 ks2:List ByteArray}{vs1 vs2:List JT}{g:Nat}{cap:Array Value}{X:Nat→Prop}{Inv:List Nat→Hp→Prop}{w:World}(h:ZipHyp H r1 r2 ks1 ks2 vs1 vs2 g cap X Inv w)(ha:Nat):
  Calls Tryz.prog 336 #[.map (some r1), .iface 185 (.pointer (some ⟨ha,0,none⟩)), .iface 446 (.map (some r2)), .int .i64 0, .func (.func g) #[] cap] w (ZipEnd X Inv vs1.length w):=by
 have HA:=Lib.hid (defaultZip_c h ha)
 clear h
 go_enter Tryz.func336,Tryz.ntmps336
 go_wp2_with fail
 refine HA.out.mono ?_
 rintro _ w1 ⟨rfl,hz⟩
 have HZ:=Lib.hid hz
 clear hz
 go_wp2_with fail
 go_ret
 exact⟨rfl,HZ.out⟩
theorem mapZip_c {H:Hp}{r1 r2:Nat}{ks1 ks2:List ByteArray}{vs1 vs2:List JT}{g:Nat}{cap:Array Value}{X:Nat→Prop}{Inv:List Nat→Hp→Prop}{w:World}(h:ZipHyp H r1 r2 ks1 ks2 vs1 vs2 g cap X Inv w)(ha:Nat):
  Calls Tryz.prog 178 #[.iface 185 (.pointer (some ⟨ha,0,none⟩)), .iface 446 (.map (some r1)), .iface 446 (.map (some r2)), .int .i64 0, .func (.func g) #[] cap] w (ZipEnd X Inv vs1.length w):=by
 have HA:=Lib.hid (zipUsing_c (h.later (A5 (o:= .cells #[.func (.func g) #[] cap] 351))) ha)
 have m1:=fun w=>methm_ZipUsing (some r1) w
 clear h
 go_enter Tryz.func178,Tryz.ntmps178
 go_wp2_with fail
 refine HA.out.mono ?_
 rintro _ w1 hz
 have HZ:=Lib.hid (hz.later A5)
 obtain⟨rfl,_⟩:=hz
 go_wp2_with fail
 go_ret
 exact HZ.out
end
section
open Go Go.RowKit Go.MapKept
theorem Ew {t:JT}:(t.isInt=true→t.isFlt=false)∧(t.isStr=true→t.isFlt=false∧t.isInt=false)∧(t.isBool=true→t.isFlt=false∧t.isInt=false∧t.isStr=false)∧(t.isList=true→t.isFlt=false∧t.isInt=false∧t.isStr=false∧t.isBool=false)∧
  (t.isMap=true→t.isFlt=false∧t.isInt=false∧t.isStr=false∧t.isBool=false∧t.isList=false):=by
 cases t<;>simp [JT.isFlt,JT.isInt,JT.isStr,JT.isBool,JT.isList,JT.isMap]
def JT.isSc (t:JT):Bool:=t.isFlt||t.isInt||t.isStr||t.isBool
theorem DP (t:JT)(ht:t.isSc=true)(H:Hp)(bx:Nat)(x:Value)(a:Addr)(w:World)(hi:Imm H w)(cx:A8 H bx 0=some x)(hx:RJ H t x):
  Calls Tryz.prog 112 #[.agg #[.pointer (some a), .pointer none, .pointer none], .iface 184 (.pointer (some ⟨bx,0,none⟩))] w (Pur w (.agg #[.pointer (some a), .pointer none, .pointer none])):=by
 obtain⟨n1,n2,n3,_,_⟩:=Ew (t:=t)
 replace n1:=Lib.hid n1;replace n2:=Lib.hid n2;replace n3:=Lib.hid n3
 replace ht:=Lib.hid ht
 have HB:Hid (Bw w ((w.alloc (.cells #[.pointer (some a), .pointer (none), .pointer (none)] 80)).alloc (.cells #[.pointer none, .pointer none, .pointer none] 80))∧((w.alloc (.cells #[.pointer (some a), .pointer (none), .pointer (none)] 80)).alloc (.cells #[.pointer none, .pointer none, .pointer none] 80)).heap[w.heap.size]?=some (.cells #[.pointer (some a), .pointer (none), .pointer (none)] 80)∧
  ((w.alloc (.cells #[.pointer (some a), .pointer (none), .pointer (none)] 80)).alloc (.cells #[.pointer none, .pointer none, .pointer none] 80)).heap[w.heap.size+1]?=some (.cells #[.pointer none, .pointer none, .pointer none] 80)):=⟨Am,Cs,BF⟩
 have HI:=Lib.hid hi
 have hBz:=(Bw.rfl:Bw ((w.alloc (.cells #[.pointer (some a), .pointer (none), .pointer (none)] 80)).alloc (.cells #[.pointer none, .pointer none, .pointer none] 80)) ((w.alloc (.cells #[.pointer (some a), .pointer (none), .pointer (none)] 80)).alloc (.cells #[.pointer none, .pointer none, .pointer none] 80)))
 have kx:=(hi.below (Am (o:= .cells #[.pointer (some a), .pointer (none), .pointer (none)] 80) (p:= .cells #[.pointer none, .pointer none, .pointer none] 80))).cell cx
 replace hx:=Lib.hid hx
 clear hi
 cases h1:t.isFlt
 ·cases h2:t.isInt
  ·cases h3:t.isStr
   ·have h4:t.isBool=true:=by have:=ht.out;simpa [JT.isSc,h1,h2,h3]using this
    go_enter Tryz.func112,Tryz.ntmps112
    have mm:=Af kx
    have CC:=fun w0=>AA t H x w0 hx.out
    rw [h1]at CC
    go_wp2_with fail
    refine(CC _).mono ?_
    rintro _ wa ⟨rfl,hwa⟩
    clear mm kx CC
    have hBwa:=Bw.tr hBz hwa
    have kx:=(HI.out.below (HB.out.1.tr hBwa)).cell cx
    have hlwa:=A0 (A2 hBwa HB.out.2.2)
    clear hwa
    have mm:=Aq kx
    have CC:=fun w0=>AM t H x w0 hx.out
    rw [h2]at CC
    go_wp2_with fail
    refine(CC _).mono ?_
    rintro _ wb ⟨rfl,hwb⟩
    clear mm kx CC
    have hBwb:=Bw.tr hBwa hwb
    have kx:=(HI.out.below (HB.out.1.tr hBwb)).cell cx
    have hlwb:=A0 (A2 hBwb HB.out.2.2)
    clear hwb
    have mm:=Ao kx
    have CC:=fun w0=>B5 t H x w0 hx.out
    rw [h3]at CC
    go_wp2_with fail
    refine(CC _).mono ?_
    rintro _ wc ⟨rfl,hwc⟩
    clear mm kx CC
    have hBwc:=Bw.tr hBwb hwc
    have kx:=(HI.out.below (HB.out.1.tr hBwc)).cell cx
    have hlwc:=A0 (A2 hBwc HB.out.2.2)
    clear hwc
    have mm:=AD kx
    have CC:=fun w0=>B6 t H x w0 hx.out
    rw [h4]at CC
    go_wp2_with fail
    refine(CC _).mono ?_
    rintro _ wd ⟨rfl,hwd⟩
    clear mm kx CC
    have hBwd:=Bw.tr hBwc hwd
    have kx:=(HI.out.below (HB.out.1.tr hBwd)).cell cx
    have hlwd:=A0 (A2 hBwd HB.out.2.2)
    clear hwd
    obtain⟨q0,f0⟩:=A1 (A2 hBwd HB.out.2.1)
    obtain⟨q1,f1⟩:=A1 (A2 hBwd HB.out.2.2)
    have HW:=Lib.hid (HB.out.1.tr hBwd)
    clear hx kx
    go_wp2_with fail
    refine bodyPost_ret (v:= .agg #[.pointer (some a), .pointer (none), .pointer (none)]) (by simp [results,Tryz.results112,go_sem,q1]) rfl ⟨rfl, ?_⟩
    have HX:=HW.out
    repeat with_reducible (first|exact HX|refine Bw.set ?_ (by omega) _ _)
   ·go_enter Tryz.func112,Tryz.ntmps112
    have mm:=Af kx
    have CC:=fun w0=>AA t H x w0 hx.out
    rw [h1]at CC
    go_wp2_with fail
    refine(CC _).mono ?_
    rintro _ wa ⟨rfl,hwa⟩
    clear mm kx CC
    have hBwa:=Bw.tr hBz hwa
    have kx:=(HI.out.below (HB.out.1.tr hBwa)).cell cx
    have hlwa:=A0 (A2 hBwa HB.out.2.2)
    clear hwa
    have mm:=Aq kx
    have CC:=fun w0=>AM t H x w0 hx.out
    rw [h2]at CC
    go_wp2_with fail
    refine(CC _).mono ?_
    rintro _ wb ⟨rfl,hwb⟩
    clear mm kx CC
    have hBwb:=Bw.tr hBwa hwb
    have kx:=(HI.out.below (HB.out.1.tr hBwb)).cell cx
    have hlwb:=A0 (A2 hBwb HB.out.2.2)
    clear hwb
    have mm:=Ao kx
    have CC:=fun w0=>B5 t H x w0 hx.out
    rw [h3]at CC
    go_wp2_with fail
    refine(CC _).mono ?_
    rintro _ wc ⟨rfl,hwc⟩
    clear mm kx CC
    have hBwc:=Bw.tr hBwb hwc
    have kx:=(HI.out.below (HB.out.1.tr hBwc)).cell cx
    have hlwc:=A0 (A2 hBwc HB.out.2.2)
    clear hwc
    obtain⟨q0,f0⟩:=A1 (A2 hBwc HB.out.2.1)
    obtain⟨q1,f1⟩:=A1 (A2 hBwc HB.out.2.2)
    have HW:=Lib.hid (HB.out.1.tr hBwc)
    clear hx kx
    go_wp2_with fail
    refine bodyPost_ret (v:= .agg #[.pointer (some a), .pointer (none), .pointer (none)]) (by simp [results,Tryz.results112,go_sem,q1]) rfl ⟨rfl, ?_⟩
    have HX:=HW.out
    repeat with_reducible (first|exact HX|refine Bw.set ?_ (by omega) _ _)
  ·go_enter Tryz.func112,Tryz.ntmps112
   have mm:=Af kx
   have CC:=fun w0=>AA t H x w0 hx.out
   rw [h1]at CC
   go_wp2_with fail
   refine(CC _).mono ?_
   rintro _ wa ⟨rfl,hwa⟩
   clear mm kx CC
   have hBwa:=Bw.tr hBz hwa
   have kx:=(HI.out.below (HB.out.1.tr hBwa)).cell cx
   have hlwa:=A0 (A2 hBwa HB.out.2.2)
   clear hwa
   have mm:=Aq kx
   have CC:=fun w0=>AM t H x w0 hx.out
   rw [h2]at CC
   go_wp2_with fail
   refine(CC _).mono ?_
   rintro _ wb ⟨rfl,hwb⟩
   clear mm kx CC
   have hBwb:=Bw.tr hBwa hwb
   have kx:=(HI.out.below (HB.out.1.tr hBwb)).cell cx
   have hlwb:=A0 (A2 hBwb HB.out.2.2)
   clear hwb
   obtain⟨q0,f0⟩:=A1 (A2 hBwb HB.out.2.1)
   obtain⟨q1,f1⟩:=A1 (A2 hBwb HB.out.2.2)
   have HW:=Lib.hid (HB.out.1.tr hBwb)
   clear hx kx
   go_wp2_with fail
   refine bodyPost_ret (v:= .agg #[.pointer (some a), .pointer (none), .pointer (none)]) (by simp [results,Tryz.results112,go_sem,q1]) rfl ⟨rfl, ?_⟩
   have HX:=HW.out
   repeat with_reducible (first|exact HX|refine Bw.set ?_ (by omega) _ _)
 ·go_enter Tryz.func112,Tryz.ntmps112
  have mm:=Af kx
  have CC:=fun w0=>AA t H x w0 hx.out
  rw [h1]at CC
  go_wp2_with fail
  refine(CC _).mono ?_
  rintro _ wa ⟨rfl,hwa⟩
  clear mm kx CC
  have hBwa:=Bw.tr hBz hwa
  have kx:=(HI.out.below (HB.out.1.tr hBwa)).cell cx
  have hlwa:=A0 (A2 hBwa HB.out.2.2)
  clear hwa
  obtain⟨q0,f0⟩:=A1 (A2 hBwa HB.out.2.1)
  obtain⟨q1,f1⟩:=A1 (A2 hBwa HB.out.2.2)
  have HW:=Lib.hid (HB.out.1.tr hBwa)
  clear hx kx
  go_wp2_with fail
  refine bodyPost_ret (v:= .agg #[.pointer (some a), .pointer (none), .pointer (none)]) (by simp [results,Tryz.results112,go_sem,q1]) rfl ⟨rfl, ?_⟩
  have HX:=HW.out
  repeat with_reducible (first|exact HX|refine Bw.set ?_ (by omega) _ _)
theorem DQ (t:JT)(ht:t.isList=true)(H:Hp)(bx:Nat)(x:Value)(a:Addr)(w:World)(hi:Imm H w)(cx:A8 H bx 0=some x)(hx:RJ H t x):
  Calls Tryz.prog 112 #[.agg #[.pointer none, .pointer (some a), .pointer none], .iface 184 (.pointer (some ⟨bx,0,none⟩))] w (Pur w (.agg #[.pointer none, .pointer (some a), .pointer none])):=by
 obtain⟨_,_,_,n4,_⟩:=Ew (t:=t)
 obtain⟨h1,h2,h3,h4⟩:=n4 ht
 clear n4
 have HB:Hid (Bw w ((w.alloc (.cells #[.pointer (none), .pointer (some a), .pointer (none)] 80)).alloc (.cells #[.pointer none, .pointer none, .pointer none] 80))∧((w.alloc (.cells #[.pointer (none), .pointer (some a), .pointer (none)] 80)).alloc (.cells #[.pointer none, .pointer none, .pointer none] 80)).heap[w.heap.size]?=some (.cells #[.pointer (none), .pointer (some a), .pointer (none)] 80)∧
  ((w.alloc (.cells #[.pointer (none), .pointer (some a), .pointer (none)] 80)).alloc (.cells #[.pointer none, .pointer none, .pointer none] 80)).heap[w.heap.size+1]?=some (.cells #[.pointer none, .pointer none, .pointer none] 80)):=⟨Am,Cs,BF⟩
 have HI:=Lib.hid hi
 have hBz:=(Bw.rfl:Bw ((w.alloc (.cells #[.pointer (none), .pointer (some a), .pointer (none)] 80)).alloc (.cells #[.pointer none, .pointer none, .pointer none] 80)) ((w.alloc (.cells #[.pointer (none), .pointer (some a), .pointer (none)] 80)).alloc (.cells #[.pointer none, .pointer none, .pointer none] 80)))
 have kx:=(hi.below (Am (o:= .cells #[.pointer (none), .pointer (some a), .pointer (none)] 80) (p:= .cells #[.pointer none, .pointer none, .pointer none] 80))).cell cx
 replace hx:=Lib.hid hx
 clear hi
 go_enter Tryz.func112,Tryz.ntmps112
 have mm:=Af kx
 have CC:=fun w0=>AA t H x w0 hx.out
 rw [h1]at CC
 go_wp2_with fail
 refine(CC _).mono ?_
 rintro _ wa ⟨rfl,hwa⟩
 clear mm kx CC
 have hBwa:=Bw.tr hBz hwa
 have kx:=(HI.out.below (HB.out.1.tr hBwa)).cell cx
 have hlwa:=A0 (A2 hBwa HB.out.2.2)
 clear hwa
 have mm:=Aq kx
 have CC:=fun w0=>AM t H x w0 hx.out
 rw [h2]at CC
 go_wp2_with fail
 refine(CC _).mono ?_
 rintro _ wb ⟨rfl,hwb⟩
 clear mm kx CC
 have hBwb:=Bw.tr hBwa hwb
 have kx:=(HI.out.below (HB.out.1.tr hBwb)).cell cx
 have hlwb:=A0 (A2 hBwb HB.out.2.2)
 clear hwb
 have mm:=Ao kx
 have CC:=fun w0=>B5 t H x w0 hx.out
 rw [h3]at CC
 go_wp2_with fail
 refine(CC _).mono ?_
 rintro _ wc ⟨rfl,hwc⟩
 clear mm kx CC
 have hBwc:=Bw.tr hBwb hwc
 have kx:=(HI.out.below (HB.out.1.tr hBwc)).cell cx
 have hlwc:=A0 (A2 hBwc HB.out.2.2)
 clear hwc
 have mm:=AD kx
 have CC:=fun w0=>B6 t H x w0 hx.out
 rw [h4]at CC
 go_wp2_with fail
 refine(CC _).mono ?_
 rintro _ wd ⟨rfl,hwd⟩
 clear mm kx CC
 have hBwd:=Bw.tr hBwc hwd
 have kx:=(HI.out.below (HB.out.1.tr hBwd)).cell cx
 have hlwd:=A0 (A2 hBwd HB.out.2.2)
 clear hwd
 have mm:=AT kx
 have CC:=fun w0=>Bx t H x w0 hx.out
 rw [ht]at CC
 go_wp2_with fail
 refine(CC _).mono ?_
 rintro _ we ⟨rfl,hwe⟩
 clear mm kx CC
 have hBwe:=Bw.tr hBwd hwe
 have kx:=(HI.out.below (HB.out.1.tr hBwe)).cell cx
 have hlwe:=A0 (A2 hBwe HB.out.2.2)
 clear hwe
 obtain⟨q0,f0⟩:=A1 (A2 hBwe HB.out.2.1)
 obtain⟨q1,f1⟩:=A1 (A2 hBwe HB.out.2.2)
 have HW:=Lib.hid (HB.out.1.tr hBwe)
 clear hx kx
 go_wp2_with fail
 refine bodyPost_ret (v:= .agg #[.pointer (none), .pointer (some a), .pointer (none)]) (by simp [results,Tryz.results112,go_sem,q1]) rfl ⟨rfl, ?_⟩
 have HX:=HW.out
 repeat with_reducible (first|exact HX|refine Bw.set ?_ (by omega) _ _)
theorem C9 (t:JT)(ht:t.isMap=true)(H:Hp)(bx:Nat)(x:Value)(a:Addr)(w:World)(hi:Imm H w)(cx:A8 H bx 0=some x)(hx:RJ H t x):
  Calls Tryz.prog 112 #[.agg #[.pointer none, .pointer none, .pointer (some a)], .iface 184 (.pointer (some ⟨bx,0,none⟩))] w (Pur w (.agg #[.pointer none, .pointer none, .pointer (some a)])):=by
 obtain⟨_,_,_,_,n5⟩:=Ew (t:=t)
 obtain⟨h1,h2,h3,h4,h5⟩:=n5 ht
 clear n5
 have HB:Hid (Bw w ((w.alloc (.cells #[.pointer (none), .pointer (none), .pointer (some a)] 80)).alloc (.cells #[.pointer none, .pointer none, .pointer none] 80))∧((w.alloc (.cells #[.pointer (none), .pointer (none), .pointer (some a)] 80)).alloc (.cells #[.pointer none, .pointer none, .pointer none] 80)).heap[w.heap.size]?=some (.cells #[.pointer (none), .pointer (none), .pointer (some a)] 80)∧
  ((w.alloc (.cells #[.pointer (none), .pointer (none), .pointer (some a)] 80)).alloc (.cells #[.pointer none, .pointer none, .pointer none] 80)).heap[w.heap.size+1]?=some (.cells #[.pointer none, .pointer none, .pointer none] 80)):=⟨Am,Cs,BF⟩
 have HI:=Lib.hid hi
 have hBz:=(Bw.rfl:Bw ((w.alloc (.cells #[.pointer (none), .pointer (none), .pointer (some a)] 80)).alloc (.cells #[.pointer none, .pointer none, .pointer none] 80)) ((w.alloc (.cells #[.pointer (none), .pointer (none), .pointer (some a)] 80)).alloc (.cells #[.pointer none, .pointer none, .pointer none] 80)))
 have kx:=(hi.below (Am (o:= .cells #[.pointer (none), .pointer (none), .pointer (some a)] 80) (p:= .cells #[.pointer none, .pointer none, .pointer none] 80))).cell cx
 replace hx:=Lib.hid hx
 clear hi
 go_enter Tryz.func112,Tryz.ntmps112
 have mm:=Af kx
 have CC:=fun w0=>AA t H x w0 hx.out
 rw [h1]at CC
 go_wp2_with fail
 refine(CC _).mono ?_
 rintro _ wa ⟨rfl,hwa⟩
 clear mm kx CC
 have hBwa:=Bw.tr hBz hwa
 have kx:=(HI.out.below (HB.out.1.tr hBwa)).cell cx
 have hlwa:=A0 (A2 hBwa HB.out.2.2)
 clear hwa
 have mm:=Aq kx
 have CC:=fun w0=>AM t H x w0 hx.out
 rw [h2]at CC
 go_wp2_with fail
 refine(CC _).mono ?_
 rintro _ wb ⟨rfl,hwb⟩
 clear mm kx CC
 have hBwb:=Bw.tr hBwa hwb
 have kx:=(HI.out.below (HB.out.1.tr hBwb)).cell cx
 have hlwb:=A0 (A2 hBwb HB.out.2.2)
 clear hwb
 have mm:=Ao kx
 have CC:=fun w0=>B5 t H x w0 hx.out
 rw [h3]at CC
 go_wp2_with fail
 refine(CC _).mono ?_
 rintro _ wc ⟨rfl,hwc⟩
 clear mm kx CC
 have hBwc:=Bw.tr hBwb hwc
 have kx:=(HI.out.below (HB.out.1.tr hBwc)).cell cx
 have hlwc:=A0 (A2 hBwc HB.out.2.2)
 clear hwc
 have mm:=AD kx
 have CC:=fun w0=>B6 t H x w0 hx.out
 rw [h4]at CC
 go_wp2_with fail
 refine(CC _).mono ?_
 rintro _ wd ⟨rfl,hwd⟩
 clear mm kx CC
 have hBwd:=Bw.tr hBwc hwd
 have kx:=(HI.out.below (HB.out.1.tr hBwd)).cell cx
 have hlwd:=A0 (A2 hBwd HB.out.2.2)
 clear hwd
 have mm:=AT kx
 have CC:=fun w0=>Bx t H x w0 hx.out
 rw [h5]at CC
 go_wp2_with fail
 refine(CC _).mono ?_
 rintro _ we ⟨rfl,hwe⟩
 clear mm kx CC
 have hBwe:=Bw.tr hBwd hwe
 have kx:=(HI.out.below (HB.out.1.tr hBwe)).cell cx
 have hlwe:=A0 (A2 hBwe HB.out.2.2)
 clear hwe
 have mm:=Bm kx
 have CC:=fun w0=>CH t H x w0 hx.out
 rw [ht]at CC
 go_wp2_with fail
 refine(CC _).mono ?_
 rintro _ wf ⟨rfl,hwf⟩
 clear mm kx CC
 have hBwf:=Bw.tr hBwe hwf
 have kx:=(HI.out.below (HB.out.1.tr hBwf)).cell cx
 have hlwf:=A0 (A2 hBwf HB.out.2.2)
 clear hwf
 obtain⟨q0,f0⟩:=A1 (A2 hBwf HB.out.2.1)
 obtain⟨q1,f1⟩:=A1 (A2 hBwf HB.out.2.2)
 have HW:=Lib.hid (HB.out.1.tr hBwf)
 clear hx kx
 go_wp2_with fail
 refine bodyPost_ret (v:= .agg #[.pointer (none), .pointer (none), .pointer (some a)]) (by simp [results,Tryz.results112,go_sem,q1]) rfl ⟨rfl, ?_⟩
 have HX:=HW.out
 repeat with_reducible (first|exact HX|refine Bw.set ?_ (by omega) _ _)
theorem Do (t:JT)(ht:t.isSc=true)(H:Hp)(bx:Nat)(x:Value)(a:Addr)(w:World)(hi:Imm H w)(cx:A8 H bx 0=some x)(hx:RJ H t x):
  Calls Tryz.prog 95 #[.agg #[.pointer (some a), .pointer none, .pointer none], .iface 184 (.pointer (some ⟨bx,0,none⟩))] w (Pur w (.agg #[.pointer (some a), .pointer none, .pointer none])):=by
 obtain⟨n1,n2,n3,_,_⟩:=Ew (t:=t)
 replace n1:=Lib.hid n1;replace n2:=Lib.hid n2;replace n3:=Lib.hid n3
 replace ht:=Lib.hid ht
 have HB:Hid (Bw w ((w.alloc (.cells #[.pointer (some a), .pointer (none), .pointer (none)] 80)).alloc (.cells #[.pointer none, .pointer none, .pointer none] 80))∧((w.alloc (.cells #[.pointer (some a), .pointer (none), .pointer (none)] 80)).alloc (.cells #[.pointer none, .pointer none, .pointer none] 80)).heap[w.heap.size]?=some (.cells #[.pointer (some a), .pointer (none), .pointer (none)] 80)∧
  ((w.alloc (.cells #[.pointer (some a), .pointer (none), .pointer (none)] 80)).alloc (.cells #[.pointer none, .pointer none, .pointer none] 80)).heap[w.heap.size+1]?=some (.cells #[.pointer none, .pointer none, .pointer none] 80)):=⟨Am,Cs,BF⟩
 have HI:=Lib.hid hi
 have hBz:=(Bw.rfl:Bw ((w.alloc (.cells #[.pointer (some a), .pointer (none), .pointer (none)] 80)).alloc (.cells #[.pointer none, .pointer none, .pointer none] 80)) ((w.alloc (.cells #[.pointer (some a), .pointer (none), .pointer (none)] 80)).alloc (.cells #[.pointer none, .pointer none, .pointer none] 80)))
 have kx:=(hi.below (Am (o:= .cells #[.pointer (some a), .pointer (none), .pointer (none)] 80) (p:= .cells #[.pointer none, .pointer none, .pointer none] 80))).cell cx
 replace hx:=Lib.hid hx
 clear hi
 cases h1:t.isFlt
 ·cases h2:t.isInt
  ·cases h3:t.isStr
   ·have h4:t.isBool=true:=by have:=ht.out;simpa [JT.isSc,h1,h2,h3]using this
    go_enter Tryz.func95,Tryz.ntmps95
    have mm:=Af kx
    have CC:=fun w0=>AA t H x w0 hx.out
    rw [h1]at CC
    go_wp2_with fail
    refine(CC _).mono ?_
    rintro _ wa ⟨rfl,hwa⟩
    clear mm kx CC
    have hBwa:=Bw.tr hBz hwa
    have kx:=(HI.out.below (HB.out.1.tr hBwa)).cell cx
    have hlwa:=A0 (A2 hBwa HB.out.2.2)
    clear hwa
    have mm:=Aq kx
    have CC:=fun w0=>AM t H x w0 hx.out
    rw [h2]at CC
    go_wp2_with fail
    refine(CC _).mono ?_
    rintro _ wb ⟨rfl,hwb⟩
    clear mm kx CC
    have hBwb:=Bw.tr hBwa hwb
    have kx:=(HI.out.below (HB.out.1.tr hBwb)).cell cx
    have hlwb:=A0 (A2 hBwb HB.out.2.2)
    clear hwb
    have mm:=Ao kx
    have CC:=fun w0=>B5 t H x w0 hx.out
    rw [h3]at CC
    go_wp2_with fail
    refine(CC _).mono ?_
    rintro _ wc ⟨rfl,hwc⟩
    clear mm kx CC
    have hBwc:=Bw.tr hBwb hwc
    have kx:=(HI.out.below (HB.out.1.tr hBwc)).cell cx
    have hlwc:=A0 (A2 hBwc HB.out.2.2)
    clear hwc
    have mm:=AD kx
    have CC:=fun w0=>B6 t H x w0 hx.out
    rw [h4]at CC
    go_wp2_with fail
    refine(CC _).mono ?_
    rintro _ wd ⟨rfl,hwd⟩
    clear mm kx CC
    have hBwd:=Bw.tr hBwc hwd
    have kx:=(HI.out.below (HB.out.1.tr hBwd)).cell cx
    have hlwd:=A0 (A2 hBwd HB.out.2.2)
    clear hwd
    obtain⟨q0,f0⟩:=A1 (A2 hBwd HB.out.2.1)
    obtain⟨q1,f1⟩:=A1 (A2 hBwd HB.out.2.2)
    have HW:=Lib.hid (HB.out.1.tr hBwd)
    clear hx kx
    go_wp2_with fail
    refine bodyPost_ret (v:= .agg #[.pointer (some a), .pointer (none), .pointer (none)]) (by simp [results,Tryz.results95,go_sem,q1]) rfl ⟨rfl, ?_⟩
    have HX:=HW.out
    repeat with_reducible (first|exact HX|refine Bw.set ?_ (by omega) _ _)
   ·go_enter Tryz.func95,Tryz.ntmps95
    have mm:=Af kx
    have CC:=fun w0=>AA t H x w0 hx.out
    rw [h1]at CC
    go_wp2_with fail
    refine(CC _).mono ?_
    rintro _ wa ⟨rfl,hwa⟩
    clear mm kx CC
    have hBwa:=Bw.tr hBz hwa
    have kx:=(HI.out.below (HB.out.1.tr hBwa)).cell cx
    have hlwa:=A0 (A2 hBwa HB.out.2.2)
    clear hwa
    have mm:=Aq kx
    have CC:=fun w0=>AM t H x w0 hx.out
    rw [h2]at CC
    go_wp2_with fail
    refine(CC _).mono ?_
    rintro _ wb ⟨rfl,hwb⟩
    clear mm kx CC
    have hBwb:=Bw.tr hBwa hwb
    have kx:=(HI.out.below (HB.out.1.tr hBwb)).cell cx
    have hlwb:=A0 (A2 hBwb HB.out.2.2)
    clear hwb
    have mm:=Ao kx
    have CC:=fun w0=>B5 t H x w0 hx.out
    rw [h3]at CC
    go_wp2_with fail
    refine(CC _).mono ?_
    rintro _ wc ⟨rfl,hwc⟩
    clear mm kx CC
    have hBwc:=Bw.tr hBwb hwc
    have kx:=(HI.out.below (HB.out.1.tr hBwc)).cell cx
    have hlwc:=A0 (A2 hBwc HB.out.2.2)
    clear hwc
    obtain⟨q0,f0⟩:=A1 (A2 hBwc HB.out.2.1)
    obtain⟨q1,f1⟩:=A1 (A2 hBwc HB.out.2.2)
    have HW:=Lib.hid (HB.out.1.tr hBwc)
    clear hx kx
    go_wp2_with fail
    refine bodyPost_ret (v:= .agg #[.pointer (some a), .pointer (none), .pointer (none)]) (by simp [results,Tryz.results95,go_sem,q1]) rfl ⟨rfl, ?_⟩
    have HX:=HW.out
    repeat with_reducible (first|exact HX|refine Bw.set ?_ (by omega) _ _)
  ·go_enter Tryz.func95,Tryz.ntmps95
   have mm:=Af kx
   have CC:=fun w0=>AA t H x w0 hx.out
   rw [h1]at CC
   go_wp2_with fail
   refine(CC _).mono ?_
   rintro _ wa ⟨rfl,hwa⟩
   clear mm kx CC
   have hBwa:=Bw.tr hBz hwa
   have kx:=(HI.out.below (HB.out.1.tr hBwa)).cell cx
   have hlwa:=A0 (A2 hBwa HB.out.2.2)
   clear hwa
   have mm:=Aq kx
   have CC:=fun w0=>AM t H x w0 hx.out
   rw [h2]at CC
   go_wp2_with fail
   refine(CC _).mono ?_
   rintro _ wb ⟨rfl,hwb⟩
   clear mm kx CC
   have hBwb:=Bw.tr hBwa hwb
   have kx:=(HI.out.below (HB.out.1.tr hBwb)).cell cx
   have hlwb:=A0 (A2 hBwb HB.out.2.2)
   clear hwb
   obtain⟨q0,f0⟩:=A1 (A2 hBwb HB.out.2.1)
   obtain⟨q1,f1⟩:=A1 (A2 hBwb HB.out.2.2)
   have HW:=Lib.hid (HB.out.1.tr hBwb)
   clear hx kx
   go_wp2_with fail
   refine bodyPost_ret (v:= .agg #[.pointer (some a), .pointer (none), .pointer (none)]) (by simp [results,Tryz.results95,go_sem,q1]) rfl ⟨rfl, ?_⟩
   have HX:=HW.out
   repeat with_reducible (first|exact HX|refine Bw.set ?_ (by omega) _ _)
 ·go_enter Tryz.func95,Tryz.ntmps95
  have mm:=Af kx
  have CC:=fun w0=>AA t H x w0 hx.out
  rw [h1]at CC
  go_wp2_with fail
  refine(CC _).mono ?_
  rintro _ wa ⟨rfl,hwa⟩
  clear mm kx CC
  have hBwa:=Bw.tr hBz hwa
  have kx:=(HI.out.below (HB.out.1.tr hBwa)).cell cx
  have hlwa:=A0 (A2 hBwa HB.out.2.2)
  clear hwa
  obtain⟨q0,f0⟩:=A1 (A2 hBwa HB.out.2.1)
  obtain⟨q1,f1⟩:=A1 (A2 hBwa HB.out.2.2)
  have HW:=Lib.hid (HB.out.1.tr hBwa)
  clear hx kx
  go_wp2_with fail
  refine bodyPost_ret (v:= .agg #[.pointer (some a), .pointer (none), .pointer (none)]) (by simp [results,Tryz.results95,go_sem,q1]) rfl ⟨rfl, ?_⟩
  have HX:=HW.out
  repeat with_reducible (first|exact HX|refine Bw.set ?_ (by omega) _ _)
theorem Dp (t:JT)(ht:t.isList=true)(H:Hp)(bx:Nat)(x:Value)(a:Addr)(w:World)(hi:Imm H w)(cx:A8 H bx 0=some x)(hx:RJ H t x):
  Calls Tryz.prog 95 #[.agg #[.pointer none, .pointer (some a), .pointer none], .iface 184 (.pointer (some ⟨bx,0,none⟩))] w (Pur w (.agg #[.pointer none, .pointer (some a), .pointer none])):=by
 obtain⟨_,_,_,n4,_⟩:=Ew (t:=t)
 obtain⟨h1,h2,h3,h4⟩:=n4 ht
 clear n4
 have HB:Hid (Bw w ((w.alloc (.cells #[.pointer (none), .pointer (some a), .pointer (none)] 80)).alloc (.cells #[.pointer none, .pointer none, .pointer none] 80))∧((w.alloc (.cells #[.pointer (none), .pointer (some a), .pointer (none)] 80)).alloc (.cells #[.pointer none, .pointer none, .pointer none] 80)).heap[w.heap.size]?=some (.cells #[.pointer (none), .pointer (some a), .pointer (none)] 80)∧
  ((w.alloc (.cells #[.pointer (none), .pointer (some a), .pointer (none)] 80)).alloc (.cells #[.pointer none, .pointer none, .pointer none] 80)).heap[w.heap.size+1]?=some (.cells #[.pointer none, .pointer none, .pointer none] 80)):=⟨Am,Cs,BF⟩
 have HI:=Lib.hid hi
 have hBz:=(Bw.rfl:Bw ((w.alloc (.cells #[.pointer (none), .pointer (some a), .pointer (none)] 80)).alloc (.cells #[.pointer none, .pointer none, .pointer none] 80)) ((w.alloc (.cells #[.pointer (none), .pointer (some a), .pointer (none)] 80)).alloc (.cells #[.pointer none, .pointer none, .pointer none] 80)))
 have kx:=(hi.below (Am (o:= .cells #[.pointer (none), .pointer (some a), .pointer (none)] 80) (p:= .cells #[.pointer none, .pointer none, .pointer none] 80))).cell cx
 replace hx:=Lib.hid hx
 clear hi
 go_enter Tryz.func95,Tryz.ntmps95
 have mm:=Af kx
 have CC:=fun w0=>AA t H x w0 hx.out
 rw [h1]at CC
 go_wp2_with fail
 refine(CC _).mono ?_
 rintro _ wa ⟨rfl,hwa⟩
 clear mm kx CC
 have hBwa:=Bw.tr hBz hwa
 have kx:=(HI.out.below (HB.out.1.tr hBwa)).cell cx
 have hlwa:=A0 (A2 hBwa HB.out.2.2)
 clear hwa
 have mm:=Aq kx
 have CC:=fun w0=>AM t H x w0 hx.out
 rw [h2]at CC
 go_wp2_with fail
 refine(CC _).mono ?_
 rintro _ wb ⟨rfl,hwb⟩
 clear mm kx CC
 have hBwb:=Bw.tr hBwa hwb
 have kx:=(HI.out.below (HB.out.1.tr hBwb)).cell cx
 have hlwb:=A0 (A2 hBwb HB.out.2.2)
 clear hwb
 have mm:=Ao kx
 have CC:=fun w0=>B5 t H x w0 hx.out
 rw [h3]at CC
 go_wp2_with fail
 refine(CC _).mono ?_
 rintro _ wc ⟨rfl,hwc⟩
 clear mm kx CC
 have hBwc:=Bw.tr hBwb hwc
 have kx:=(HI.out.below (HB.out.1.tr hBwc)).cell cx
 have hlwc:=A0 (A2 hBwc HB.out.2.2)
 clear hwc
 have mm:=AD kx
 have CC:=fun w0=>B6 t H x w0 hx.out
 rw [h4]at CC
 go_wp2_with fail
 refine(CC _).mono ?_
 rintro _ wd ⟨rfl,hwd⟩
 clear mm kx CC
 have hBwd:=Bw.tr hBwc hwd
 have kx:=(HI.out.below (HB.out.1.tr hBwd)).cell cx
 have hlwd:=A0 (A2 hBwd HB.out.2.2)
 clear hwd
 have mm:=AT kx
 have CC:=fun w0=>Bx t H x w0 hx.out
 rw [ht]at CC
 go_wp2_with fail
 refine(CC _).mono ?_
 rintro _ we ⟨rfl,hwe⟩
 clear mm kx CC
 have hBwe:=Bw.tr hBwd hwe
 have kx:=(HI.out.below (HB.out.1.tr hBwe)).cell cx
 have hlwe:=A0 (A2 hBwe HB.out.2.2)
 clear hwe
 obtain⟨q0,f0⟩:=A1 (A2 hBwe HB.out.2.1)
 obtain⟨q1,f1⟩:=A1 (A2 hBwe HB.out.2.2)
 have HW:=Lib.hid (HB.out.1.tr hBwe)
 clear hx kx
 go_wp2_with fail
 refine bodyPost_ret (v:= .agg #[.pointer (none), .pointer (some a), .pointer (none)]) (by simp [results,Tryz.results95,go_sem,q1]) rfl ⟨rfl, ?_⟩
 have HX:=HW.out
 repeat with_reducible (first|exact HX|refine Bw.set ?_ (by omega) _ _)
theorem BR (t:JT)(ht:t.isMap=true)(H:Hp)(bx:Nat)(x:Value)(a:Addr)(w:World)(hi:Imm H w)(cx:A8 H bx 0=some x)(hx:RJ H t x):
  Calls Tryz.prog 95 #[.agg #[.pointer none, .pointer none, .pointer (some a)], .iface 184 (.pointer (some ⟨bx,0,none⟩))] w (Pur w (.agg #[.pointer none, .pointer none, .pointer (some a)])):=by
 obtain⟨_,_,_,_,n5⟩:=Ew (t:=t)
 obtain⟨h1,h2,h3,h4,h5⟩:=n5 ht
 clear n5
 have HB:Hid (Bw w ((w.alloc (.cells #[.pointer (none), .pointer (none), .pointer (some a)] 80)).alloc (.cells #[.pointer none, .pointer none, .pointer none] 80))∧((w.alloc (.cells #[.pointer (none), .pointer (none), .pointer (some a)] 80)).alloc (.cells #[.pointer none, .pointer none, .pointer none] 80)).heap[w.heap.size]?=some (.cells #[.pointer (none), .pointer (none), .pointer (some a)] 80)∧
  ((w.alloc (.cells #[.pointer (none), .pointer (none), .pointer (some a)] 80)).alloc (.cells #[.pointer none, .pointer none, .pointer none] 80)).heap[w.heap.size+1]?=some (.cells #[.pointer none, .pointer none, .pointer none] 80)):=⟨Am,Cs,BF⟩
 have HI:=Lib.hid hi
 have hBz:=(Bw.rfl:Bw ((w.alloc (.cells #[.pointer (none), .pointer (none), .pointer (some a)] 80)).alloc (.cells #[.pointer none, .pointer none, .pointer none] 80)) ((w.alloc (.cells #[.pointer (none), .pointer (none), .pointer (some a)] 80)).alloc (.cells #[.pointer none, .pointer none, .pointer none] 80)))
 have kx:=(hi.below (Am (o:= .cells #[.pointer (none), .pointer (none), .pointer (some a)] 80) (p:= .cells #[.pointer none, .pointer none, .pointer none] 80))).cell cx
 replace hx:=Lib.hid hx
 clear hi
 go_enter Tryz.func95,Tryz.ntmps95
 have mm:=Af kx
 have CC:=fun w0=>AA t H x w0 hx.out
 rw [h1]at CC
 go_wp2_with fail
 refine(CC _).mono ?_
 rintro _ wa ⟨rfl,hwa⟩
 clear mm kx CC
 have hBwa:=Bw.tr hBz hwa
 have kx:=(HI.out.below (HB.out.1.tr hBwa)).cell cx
 have hlwa:=A0 (A2 hBwa HB.out.2.2)
 clear hwa
 have mm:=Aq kx
 have CC:=fun w0=>AM t H x w0 hx.out
 rw [h2]at CC
 go_wp2_with fail
 refine(CC _).mono ?_
 rintro _ wb ⟨rfl,hwb⟩
 clear mm kx CC
 have hBwb:=Bw.tr hBwa hwb
 have kx:=(HI.out.below (HB.out.1.tr hBwb)).cell cx
 have hlwb:=A0 (A2 hBwb HB.out.2.2)
 clear hwb
 have mm:=Ao kx
 have CC:=fun w0=>B5 t H x w0 hx.out
 rw [h3]at CC
 go_wp2_with fail
 refine(CC _).mono ?_
 rintro _ wc ⟨rfl,hwc⟩
 clear mm kx CC
 have hBwc:=Bw.tr hBwb hwc
 have kx:=(HI.out.below (HB.out.1.tr hBwc)).cell cx
 have hlwc:=A0 (A2 hBwc HB.out.2.2)
 clear hwc
 have mm:=AD kx
 have CC:=fun w0=>B6 t H x w0 hx.out
 rw [h4]at CC
 go_wp2_with fail
 refine(CC _).mono ?_
 rintro _ wd ⟨rfl,hwd⟩
 clear mm kx CC
 have hBwd:=Bw.tr hBwc hwd
 have kx:=(HI.out.below (HB.out.1.tr hBwd)).cell cx
 have hlwd:=A0 (A2 hBwd HB.out.2.2)
 clear hwd
 have mm:=AT kx
 have CC:=fun w0=>Bx t H x w0 hx.out
 rw [h5]at CC
 go_wp2_with fail
 refine(CC _).mono ?_
 rintro _ we ⟨rfl,hwe⟩
 clear mm kx CC
 have hBwe:=Bw.tr hBwd hwe
 have kx:=(HI.out.below (HB.out.1.tr hBwe)).cell cx
 have hlwe:=A0 (A2 hBwe HB.out.2.2)
 clear hwe
 have mm:=Bm kx
 have CC:=fun w0=>CH t H x w0 hx.out
 rw [ht]at CC
 go_wp2_with fail
 refine(CC _).mono ?_
 rintro _ wf ⟨rfl,hwf⟩
 clear mm kx CC
 have hBwf:=Bw.tr hBwe hwf
 have kx:=(HI.out.below (HB.out.1.tr hBwf)).cell cx
 have hlwf:=A0 (A2 hBwf HB.out.2.2)
 clear hwf
 obtain⟨q0,f0⟩:=A1 (A2 hBwf HB.out.2.1)
 obtain⟨q1,f1⟩:=A1 (A2 hBwf HB.out.2.2)
 have HW:=Lib.hid (HB.out.1.tr hBwf)
 clear hx kx
 go_wp2_with fail
 refine bodyPost_ret (v:= .agg #[.pointer (none), .pointer (none), .pointer (some a)]) (by simp [results,Tryz.results95,go_sem,q1]) rfl ⟨rfl, ?_⟩
 have HX:=HW.out
 repeat with_reducible (first|exact HX|refine Bw.set ?_ (by omega) _ _)
theorem EW (t:JT)(ht:t.isSc=true)(H:Hp)(bx:Nat)(x:Value)(a:Addr)(w:World)(hi:Imm H w)(cx:A8 H bx 0=some x)(hx:RJ H t x):
  Calls Tryz.prog 125 #[.agg #[.pointer (some a), .pointer none, .pointer none], .iface 184 (.pointer (some ⟨bx,0,none⟩))] w (Pur w (.agg #[.pointer (some a), .pointer none, .pointer none])):=by
 obtain⟨n1,n2,n3,_,_⟩:=Ew (t:=t)
 replace n1:=Lib.hid n1;replace n2:=Lib.hid n2;replace n3:=Lib.hid n3
 replace ht:=Lib.hid ht
 have HB:Hid (Bw w ((w.alloc (.cells #[.pointer (some a), .pointer (none), .pointer (none)] 80)).alloc (.cells #[.pointer none, .pointer none, .pointer none] 80))∧((w.alloc (.cells #[.pointer (some a), .pointer (none), .pointer (none)] 80)).alloc (.cells #[.pointer none, .pointer none, .pointer none] 80)).heap[w.heap.size]?=some (.cells #[.pointer (some a), .pointer (none), .pointer (none)] 80)∧
  ((w.alloc (.cells #[.pointer (some a), .pointer (none), .pointer (none)] 80)).alloc (.cells #[.pointer none, .pointer none, .pointer none] 80)).heap[w.heap.size+1]?=some (.cells #[.pointer none, .pointer none, .pointer none] 80)):=⟨Am,Cs,BF⟩
 have HI:=Lib.hid hi
 have hBz:=(Bw.rfl:Bw ((w.alloc (.cells #[.pointer (some a), .pointer (none), .pointer (none)] 80)).alloc (.cells #[.pointer none, .pointer none, .pointer none] 80)) ((w.alloc (.cells #[.pointer (some a), .pointer (none), .pointer (none)] 80)).alloc (.cells #[.pointer none, .pointer none, .pointer none] 80)))
 have kx:=(hi.below (Am (o:= .cells #[.pointer (some a), .pointer (none), .pointer (none)] 80) (p:= .cells #[.pointer none, .pointer none, .pointer none] 80))).cell cx
 replace hx:=Lib.hid hx
 clear hi
 cases h1:t.isFlt
 ·cases h2:t.isInt
  ·cases h3:t.isStr
   ·have h4:t.isBool=true:=by have:=ht.out;simpa [JT.isSc,h1,h2,h3]using this
    go_enter Tryz.func125,Tryz.ntmps125
    have mm:=Af kx
    have CC:=fun w0=>AA t H x w0 hx.out
    rw [h1]at CC
    go_wp2_with fail
    refine(CC _).mono ?_
    rintro _ wa ⟨rfl,hwa⟩
    clear mm kx CC
    have hBwa:=Bw.tr hBz hwa
    have kx:=(HI.out.below (HB.out.1.tr hBwa)).cell cx
    have hlwa:=A0 (A2 hBwa HB.out.2.2)
    clear hwa
    have mm:=Aq kx
    have CC:=fun w0=>AM t H x w0 hx.out
    rw [h2]at CC
    go_wp2_with fail
    refine(CC _).mono ?_
    rintro _ wb ⟨rfl,hwb⟩
    clear mm kx CC
    have hBwb:=Bw.tr hBwa hwb
    have kx:=(HI.out.below (HB.out.1.tr hBwb)).cell cx
    have hlwb:=A0 (A2 hBwb HB.out.2.2)
    clear hwb
    have mm:=Ao kx
    have CC:=fun w0=>B5 t H x w0 hx.out
    rw [h3]at CC
    go_wp2_with fail
    refine(CC _).mono ?_
    rintro _ wc ⟨rfl,hwc⟩
    clear mm kx CC
    have hBwc:=Bw.tr hBwb hwc
    have kx:=(HI.out.below (HB.out.1.tr hBwc)).cell cx
    have hlwc:=A0 (A2 hBwc HB.out.2.2)
    clear hwc
    have mm:=AD kx
    have CC:=fun w0=>B6 t H x w0 hx.out
    rw [h4]at CC
    go_wp2_with fail
    refine(CC _).mono ?_
    rintro _ wd ⟨rfl,hwd⟩
    clear mm kx CC
    have hBwd:=Bw.tr hBwc hwd
    have kx:=(HI.out.below (HB.out.1.tr hBwd)).cell cx
    have hlwd:=A0 (A2 hBwd HB.out.2.2)
    clear hwd
    obtain⟨q0,f0⟩:=A1 (A2 hBwd HB.out.2.1)
    obtain⟨q1,f1⟩:=A1 (A2 hBwd HB.out.2.2)
    have HW:=Lib.hid (HB.out.1.tr hBwd)
    clear hx kx
    go_wp2_with fail
    refine bodyPost_ret (v:= .agg #[.pointer (some a), .pointer (none), .pointer (none)]) (by simp [results,Tryz.results125,go_sem,q1]) rfl ⟨rfl, ?_⟩
    have HX:=HW.out
    repeat with_reducible (first|exact HX|refine Bw.set ?_ (by omega) _ _)
   ·go_enter Tryz.func125,Tryz.ntmps125
    have mm:=Af kx
    have CC:=fun w0=>AA t H x w0 hx.out
    rw [h1]at CC
    go_wp2_with fail
    refine(CC _).mono ?_
    rintro _ wa ⟨rfl,hwa⟩
    clear mm kx CC
    have hBwa:=Bw.tr hBz hwa
    have kx:=(HI.out.below (HB.out.1.tr hBwa)).cell cx
    have hlwa:=A0 (A2 hBwa HB.out.2.2)
    clear hwa
    have mm:=Aq kx
    have CC:=fun w0=>AM t H x w0 hx.out
    rw [h2]at CC
    go_wp2_with fail
    refine(CC _).mono ?_
    rintro _ wb ⟨rfl,hwb⟩
    clear mm kx CC
    have hBwb:=Bw.tr hBwa hwb
    have kx:=(HI.out.below (HB.out.1.tr hBwb)).cell cx
    have hlwb:=A0 (A2 hBwb HB.out.2.2)
    clear hwb
    have mm:=Ao kx
    have CC:=fun w0=>B5 t H x w0 hx.out
    rw [h3]at CC
    go_wp2_with fail
    refine(CC _).mono ?_
    rintro _ wc ⟨rfl,hwc⟩
    clear mm kx CC
    have hBwc:=Bw.tr hBwb hwc
    have kx:=(HI.out.below (HB.out.1.tr hBwc)).cell cx
    have hlwc:=A0 (A2 hBwc HB.out.2.2)
    clear hwc
    obtain⟨q0,f0⟩:=A1 (A2 hBwc HB.out.2.1)
    obtain⟨q1,f1⟩:=A1 (A2 hBwc HB.out.2.2)
    have HW:=Lib.hid (HB.out.1.tr hBwc)
    clear hx kx
    go_wp2_with fail
    refine bodyPost_ret (v:= .agg #[.pointer (some a), .pointer (none), .pointer (none)]) (by simp [results,Tryz.results125,go_sem,q1]) rfl ⟨rfl, ?_⟩
    have HX:=HW.out
    repeat with_reducible (first|exact HX|refine Bw.set ?_ (by omega) _ _)
  ·go_enter Tryz.func125,Tryz.ntmps125
   have mm:=Af kx
   have CC:=fun w0=>AA t H x w0 hx.out
   rw [h1]at CC
   go_wp2_with fail
   refine(CC _).mono ?_
   rintro _ wa ⟨rfl,hwa⟩
   clear mm kx CC
   have hBwa:=Bw.tr hBz hwa
   have kx:=(HI.out.below (HB.out.1.tr hBwa)).cell cx
   have hlwa:=A0 (A2 hBwa HB.out.2.2)
   clear hwa
   have mm:=Aq kx
   have CC:=fun w0=>AM t H x w0 hx.out
   rw [h2]at CC
   go_wp2_with fail
   refine(CC _).mono ?_
   rintro _ wb ⟨rfl,hwb⟩
   clear mm kx CC
   have hBwb:=Bw.tr hBwa hwb
   have kx:=(HI.out.below (HB.out.1.tr hBwb)).cell cx
   have hlwb:=A0 (A2 hBwb HB.out.2.2)
   clear hwb
   obtain⟨q0,f0⟩:=A1 (A2 hBwb HB.out.2.1)
   obtain⟨q1,f1⟩:=A1 (A2 hBwb HB.out.2.2)
   have HW:=Lib.hid (HB.out.1.tr hBwb)
   clear hx kx
   go_wp2_with fail
   refine bodyPost_ret (v:= .agg #[.pointer (some a), .pointer (none), .pointer (none)]) (by simp [results,Tryz.results125,go_sem,q1]) rfl ⟨rfl, ?_⟩
   have HX:=HW.out
   repeat with_reducible (first|exact HX|refine Bw.set ?_ (by omega) _ _)
 ·go_enter Tryz.func125,Tryz.ntmps125
  have mm:=Af kx
  have CC:=fun w0=>AA t H x w0 hx.out
  rw [h1]at CC
  go_wp2_with fail
  refine(CC _).mono ?_
  rintro _ wa ⟨rfl,hwa⟩
  clear mm kx CC
  have hBwa:=Bw.tr hBz hwa
  have kx:=(HI.out.below (HB.out.1.tr hBwa)).cell cx
  have hlwa:=A0 (A2 hBwa HB.out.2.2)
  clear hwa
  obtain⟨q0,f0⟩:=A1 (A2 hBwa HB.out.2.1)
  obtain⟨q1,f1⟩:=A1 (A2 hBwa HB.out.2.2)
  have HW:=Lib.hid (HB.out.1.tr hBwa)
  clear hx kx
  go_wp2_with fail
  refine bodyPost_ret (v:= .agg #[.pointer (some a), .pointer (none), .pointer (none)]) (by simp [results,Tryz.results125,go_sem,q1]) rfl ⟨rfl, ?_⟩
  have HX:=HW.out
  repeat with_reducible (first|exact HX|refine Bw.set ?_ (by omega) _ _)
theorem EX (t:JT)(ht:t.isList=true)(H:Hp)(bx:Nat)(x:Value)(a:Addr)(w:World)(hi:Imm H w)(cx:A8 H bx 0=some x)(hx:RJ H t x):
  Calls Tryz.prog 125 #[.agg #[.pointer none, .pointer (some a), .pointer none], .iface 184 (.pointer (some ⟨bx,0,none⟩))] w (Pur w (.agg #[.pointer none, .pointer (some a), .pointer none])):=by
 obtain⟨_,_,_,n4,_⟩:=Ew (t:=t)
 obtain⟨h1,h2,h3,h4⟩:=n4 ht
 clear n4
 have HB:Hid (Bw w ((w.alloc (.cells #[.pointer (none), .pointer (some a), .pointer (none)] 80)).alloc (.cells #[.pointer none, .pointer none, .pointer none] 80))∧((w.alloc (.cells #[.pointer (none), .pointer (some a), .pointer (none)] 80)).alloc (.cells #[.pointer none, .pointer none, .pointer none] 80)).heap[w.heap.size]?=some (.cells #[.pointer (none), .pointer (some a), .pointer (none)] 80)∧
  ((w.alloc (.cells #[.pointer (none), .pointer (some a), .pointer (none)] 80)).alloc (.cells #[.pointer none, .pointer none, .pointer none] 80)).heap[w.heap.size+1]?=some (.cells #[.pointer none, .pointer none, .pointer none] 80)):=⟨Am,Cs,BF⟩
 have HI:=Lib.hid hi
 have hBz:=(Bw.rfl:Bw ((w.alloc (.cells #[.pointer (none), .pointer (some a), .pointer (none)] 80)).alloc (.cells #[.pointer none, .pointer none, .pointer none] 80)) ((w.alloc (.cells #[.pointer (none), .pointer (some a), .pointer (none)] 80)).alloc (.cells #[.pointer none, .pointer none, .pointer none] 80)))
 have kx:=(hi.below (Am (o:= .cells #[.pointer (none), .pointer (some a), .pointer (none)] 80) (p:= .cells #[.pointer none, .pointer none, .pointer none] 80))).cell cx
 replace hx:=Lib.hid hx
 clear hi
 go_enter Tryz.func125,Tryz.ntmps125
 have mm:=Af kx
 have CC:=fun w0=>AA t H x w0 hx.out
 rw [h1]at CC
 go_wp2_with fail
 refine(CC _).mono ?_
 rintro _ wa ⟨rfl,hwa⟩
 clear mm kx CC
 have hBwa:=Bw.tr hBz hwa
 have kx:=(HI.out.below (HB.out.1.tr hBwa)).cell cx
 have hlwa:=A0 (A2 hBwa HB.out.2.2)
 clear hwa
 have mm:=Aq kx
 have CC:=fun w0=>AM t H x w0 hx.out
 rw [h2]at CC
 go_wp2_with fail
 refine(CC _).mono ?_
 rintro _ wb ⟨rfl,hwb⟩
 clear mm kx CC
 have hBwb:=Bw.tr hBwa hwb
 have kx:=(HI.out.below (HB.out.1.tr hBwb)).cell cx
 have hlwb:=A0 (A2 hBwb HB.out.2.2)
 clear hwb
 have mm:=Ao kx
 have CC:=fun w0=>B5 t H x w0 hx.out
 rw [h3]at CC
 go_wp2_with fail
 refine(CC _).mono ?_
 rintro _ wc ⟨rfl,hwc⟩
 clear mm kx CC
 have hBwc:=Bw.tr hBwb hwc
 have kx:=(HI.out.below (HB.out.1.tr hBwc)).cell cx
 have hlwc:=A0 (A2 hBwc HB.out.2.2)
 clear hwc
 have mm:=AD kx
 have CC:=fun w0=>B6 t H x w0 hx.out
 rw [h4]at CC
 go_wp2_with fail
 refine(CC _).mono ?_
 rintro _ wd ⟨rfl,hwd⟩
 clear mm kx CC
 have hBwd:=Bw.tr hBwc hwd
 have kx:=(HI.out.below (HB.out.1.tr hBwd)).cell cx
 have hlwd:=A0 (A2 hBwd HB.out.2.2)
 clear hwd
 have mm:=AT kx
 have CC:=fun w0=>Bx t H x w0 hx.out
 rw [ht]at CC
 go_wp2_with fail
 refine(CC _).mono ?_
 rintro _ we ⟨rfl,hwe⟩
 clear mm kx CC
 have hBwe:=Bw.tr hBwd hwe
 have kx:=(HI.out.below (HB.out.1.tr hBwe)).cell cx
 have hlwe:=A0 (A2 hBwe HB.out.2.2)
 clear hwe
 obtain⟨q0,f0⟩:=A1 (A2 hBwe HB.out.2.1)
 obtain⟨q1,f1⟩:=A1 (A2 hBwe HB.out.2.2)
 have HW:=Lib.hid (HB.out.1.tr hBwe)
 clear hx kx
 go_wp2_with fail
 refine bodyPost_ret (v:= .agg #[.pointer (none), .pointer (some a), .pointer (none)]) (by simp [results,Tryz.results125,go_sem,q1]) rfl ⟨rfl, ?_⟩
 have HX:=HW.out
 repeat with_reducible (first|exact HX|refine Bw.set ?_ (by omega) _ _)
theorem Dd (t:JT)(ht:t.isMap=true)(H:Hp)(bx:Nat)(x:Value)(a:Addr)(w:World)(hi:Imm H w)(cx:A8 H bx 0=some x)(hx:RJ H t x):
  Calls Tryz.prog 125 #[.agg #[.pointer none, .pointer none, .pointer (some a)], .iface 184 (.pointer (some ⟨bx,0,none⟩))] w (Pur w (.agg #[.pointer none, .pointer none, .pointer (some a)])):=by
 obtain⟨_,_,_,_,n5⟩:=Ew (t:=t)
 obtain⟨h1,h2,h3,h4,h5⟩:=n5 ht
 clear n5
 have HB:Hid (Bw w ((w.alloc (.cells #[.pointer (none), .pointer (none), .pointer (some a)] 80)).alloc (.cells #[.pointer none, .pointer none, .pointer none] 80))∧((w.alloc (.cells #[.pointer (none), .pointer (none), .pointer (some a)] 80)).alloc (.cells #[.pointer none, .pointer none, .pointer none] 80)).heap[w.heap.size]?=some (.cells #[.pointer (none), .pointer (none), .pointer (some a)] 80)∧
  ((w.alloc (.cells #[.pointer (none), .pointer (none), .pointer (some a)] 80)).alloc (.cells #[.pointer none, .pointer none, .pointer none] 80)).heap[w.heap.size+1]?=some (.cells #[.pointer none, .pointer none, .pointer none] 80)):=⟨Am,Cs,BF⟩
 have HI:=Lib.hid hi
 have hBz:=(Bw.rfl:Bw ((w.alloc (.cells #[.pointer (none), .pointer (none), .pointer (some a)] 80)).alloc (.cells #[.pointer none, .pointer none, .pointer none] 80)) ((w.alloc (.cells #[.pointer (none), .pointer (none), .pointer (some a)] 80)).alloc (.cells #[.pointer none, .pointer none, .pointer none] 80)))
 have kx:=(hi.below (Am (o:= .cells #[.pointer (none), .pointer (none), .pointer (some a)] 80) (p:= .cells #[.pointer none, .pointer none, .pointer none] 80))).cell cx
 replace hx:=Lib.hid hx
 clear hi
 go_enter Tryz.func125,Tryz.ntmps125
 have mm:=Af kx
 have CC:=fun w0=>AA t H x w0 hx.out
 rw [h1]at CC
 go_wp2_with fail
 refine(CC _).mono ?_
 rintro _ wa ⟨rfl,hwa⟩
 clear mm kx CC
 have hBwa:=Bw.tr hBz hwa
 have kx:=(HI.out.below (HB.out.1.tr hBwa)).cell cx
 have hlwa:=A0 (A2 hBwa HB.out.2.2)
 clear hwa
 have mm:=Aq kx
 have CC:=fun w0=>AM t H x w0 hx.out
 rw [h2]at CC
 go_wp2_with fail
 refine(CC _).mono ?_
 rintro _ wb ⟨rfl,hwb⟩
 clear mm kx CC
 have hBwb:=Bw.tr hBwa hwb
 have kx:=(HI.out.below (HB.out.1.tr hBwb)).cell cx
 have hlwb:=A0 (A2 hBwb HB.out.2.2)
 clear hwb
 have mm:=Ao kx
 have CC:=fun w0=>B5 t H x w0 hx.out
 rw [h3]at CC
 go_wp2_with fail
 refine(CC _).mono ?_
 rintro _ wc ⟨rfl,hwc⟩
 clear mm kx CC
 have hBwc:=Bw.tr hBwb hwc
 have kx:=(HI.out.below (HB.out.1.tr hBwc)).cell cx
 have hlwc:=A0 (A2 hBwc HB.out.2.2)
 clear hwc
 have mm:=AD kx
 have CC:=fun w0=>B6 t H x w0 hx.out
 rw [h4]at CC
 go_wp2_with fail
 refine(CC _).mono ?_
 rintro _ wd ⟨rfl,hwd⟩
 clear mm kx CC
 have hBwd:=Bw.tr hBwc hwd
 have kx:=(HI.out.below (HB.out.1.tr hBwd)).cell cx
 have hlwd:=A0 (A2 hBwd HB.out.2.2)
 clear hwd
 have mm:=AT kx
 have CC:=fun w0=>Bx t H x w0 hx.out
 rw [h5]at CC
 go_wp2_with fail
 refine(CC _).mono ?_
 rintro _ we ⟨rfl,hwe⟩
 clear mm kx CC
 have hBwe:=Bw.tr hBwd hwe
 have kx:=(HI.out.below (HB.out.1.tr hBwe)).cell cx
 have hlwe:=A0 (A2 hBwe HB.out.2.2)
 clear hwe
 have mm:=Bm kx
 have CC:=fun w0=>CH t H x w0 hx.out
 rw [ht]at CC
 go_wp2_with fail
 refine(CC _).mono ?_
 rintro _ wf ⟨rfl,hwf⟩
 clear mm kx CC
 have hBwf:=Bw.tr hBwe hwf
 have kx:=(HI.out.below (HB.out.1.tr hBwf)).cell cx
 have hlwf:=A0 (A2 hBwf HB.out.2.2)
 clear hwf
 obtain⟨q0,f0⟩:=A1 (A2 hBwf HB.out.2.1)
 obtain⟨q1,f1⟩:=A1 (A2 hBwf HB.out.2.2)
 have HW:=Lib.hid (HB.out.1.tr hBwf)
 clear hx kx
 go_wp2_with fail
 refine bodyPost_ret (v:= .agg #[.pointer (none), .pointer (none), .pointer (some a)]) (by simp [results,Tryz.results125,go_sem,q1]) rfl ⟨rfl, ?_⟩
 have HX:=HW.out
 repeat with_reducible (first|exact HX|refine Bw.set ?_ (by omega) _ _)
end
end Go.Proofs.YtmghkmhgpmcoaaaGreat
