/- What the claim's theorem 'proved' rests on: IterU. -/
import Derived.Shelf.Abstract
import Derived.Test.YtmghkmhgpmcoaaaGreatP14
set_option linter.unusedVariables false
set_option linter.unusedSimpArgs false
set_option maxRecDepth 100000
set_option maxHeartbeats 10000000
namespace Go.Proofs.YtmghkmhgpmcoaaaGreat
section
open Go Go.RowKit Go.MapKept Go.ChangeMaps
abbrev tMU:TypeId:=446
theorem und_mapU:Tryz.prog.underlying 446=some (.map 9 20):=by kernel_rfl
theorem run_range_u {w:World}{r:Nat}{es:Array MapEntry}{ck:Nat}(h:w.heap[r]?=some (.map es ck)):
  (Instr.range 446 (.map (some r))).run Tryz.prog w= .ok (.pointer (some ⟨w.heap.size,0,none⟩)) (w.alloc (.mapIter (some r) ck #[] ck)):=run_range_map w _ _ _ r es ck und_mapU h
theorem run_len_u {w:World}{r:Nat}{es:Array MapEntry}{ck:Nat}(h:w.heap[r]?=some (.map es ck)):
  (Builtin.len_ #[446] 3 #[.map (some r)]).run Tryz.prog w= .ok (.int .i64 (es.size:Int)) w:=by
 simp [Builtin.len_,run_underlying und_mapU,Go.MapKept.run_getObj_map h,Result.andThen]
 rfl
theorem AZ.look_u {K:Hp}{w:World}{r:Nat}{ks:List ByteArray}{vs:List JT}{es:Array MapEntry}{ck:Nat}(h:AZ K w r ks vs es ck)(k:ByteArray):
  (k ∉ ks∧(Instr.lookup 446 (.map (some r)) (.string k) true).run Tryz.prog w= .ok (.tuple #[.nilIface, .bool false]) w)∨
  ∃j,∃hj:j<vs.length,∃e,ks[j]?=some k∧es[j]?=some e∧RJ K vs[j] e.val∧(Instr.lookup 446 (.map (some r)) (.string k) true).run Tryz.prog w= .ok (.tuple #[e.val, .bool true]) w:=by
 have hik:IsKey .string (.string k):=trivial
 rcases findNow_spec hik es.toList 0 h.isKey with⟨h1,h2⟩|⟨j,e,h1,h2,h3⟩
 ·refine .inl ⟨fun hm=> ?_,by simp [Instr.lookup,run_underlying und_mapU,Go.MapKept.run_getObj_map h.at_,run_checkKey CG hik,run_findKey CG h1,zero_any,Result.andThen]⟩
  obtain⟨j,hj,rfl⟩:=List.mem_iff_getElem.1 hm
  obtain⟨e,k',g1,g2,g3,_⟩:=h.es_.get j (by rw [←h.len];exact hj)
  rw [Nat.zero_add]at g1 g2
  rw [List.getElem?_eq_getElem hj]at g2;cases g2
  exact h2 e (by rw [List.mem_iff_getElem?];exact⟨j,by simpa using g1⟩) g3
 ·obtain⟨j',hj',k',g1,g2,g3,g4,g5⟩:=h.entry (List.mem_of_getElem? h2)
  rw [h3]at g3;cases g3
  exact .inr ⟨j',hj',e,g1,g2,g5,by simp [Instr.lookup,run_underlying und_mapU,Go.MapKept.run_getObj_map h.at_,run_checkKey CG hik,run_findKey CG h1,Result.andThen]⟩
theorem Fm (a:Addr)(w:World):(method 594 185 (.pointer (some a)) "pub-coparcener/pub/structuredmerge/value.allocValueUnstructured").run Tryz.prog w= .ok (86, .pointer (some a)) w:=by kernel_rfl
structure Cw (H:Hp) (r:Nat) (ks:List ByteArray) (vs:List JT) (es:Array MapEntry) (ck:Nat):Prop where
 at_:H r=some (.map es ck)
 size:es.size=ks.length
 len:ks.length=vs.length
 lim_:ks.length≤lim
 nodup:ks.Nodup
 stamped:Stamped es ck
 es_:DI H es ks 0 vs
theorem RJ.mapAt {H:Hp}{ks:List ByteArray}{vs:List JT}{x:Value}(h:RJ H (.map ks vs) x):∃r es ck,x= .iface tMap (.map (some r))∧Cw H r ks vs es ck:=by
 simp only [RJ]at h
 obtain⟨r,es,ck,rfl,h1,h2,h3,h4,h5,h6,h7⟩:=h
 exact⟨r,es,ck,rfl,h1,h2,h3,h4,h5,h6,h7⟩
theorem Cw.own {H:Hp}{r:Nat}{ks:List ByteArray}{vs:List JT}{es:Array MapEntry}{ck:Nat}(h:Cw H r ks vs es ck){w:World}(hi:Imm H w):AZ H w r ks vs es ck:=
 ⟨hi _ _ h.at_,h.size,h.len,h.nodup,h.stamped,h.es_⟩
theorem Et {H:Hp}{r:Nat}{ks:List ByteArray}{vs:List JT}{es:Array MapEntry}{ck:Nat}(h:Cw H r ks vs es ck)(w:World)(hi:Imm H w):
  Calls Tryz.prog 333 #[.map (some r)] w (Pur w (.int .i64 (ks.length:Int))):=by
 have hl:=run_len_u (hi _ _ h.at_)
 rw [h.size]at hl
 have hb:=h.lim_
 unfold lim at hb
 clear h hi
 go_enter Tryz.func333,Tryz.ntmps333
 go_wp2_with fail
 go_ret
 exact⟨rfl,Bw.rfl⟩
theorem Eu {H:Hp}{r:Nat}{ks:List ByteArray}{vs:List JT}{es:Array MapEntry}{ck:Nat}(h:Cw H r ks vs es ck)(w:World)(hi:Imm H w):
  Calls Tryz.prog 325 #[.map (some r)] w (Pur w (.bool ((ks.length:Int)==0))):=by
 have hl:=run_len_u (hi _ _ h.at_)
 rw [h.size]at hl
 have hb:=h.lim_
 unfold lim at hb
 clear h hi
 go_enter Tryz.func325,Tryz.ntmps325
 go_wp2_with fail
 go_ret
 exact⟨rfl,Bw.rfl⟩
theorem mapHas_c {H:Hp}{r:Nat}{ks:List ByteArray}{vs:List JT}{es:Array MapEntry}{ck:Nat}(h:Cw H r ks vs es ck)(k:ByteArray)(w:World)(hi:Imm H w):
  Calls Tryz.prog 330 #[.map (some r), .string k] w (Pur w (.bool (decide (k ∈ ks)))):=by
 have hm:=h.own hi
 clear h hi
 rcases hm.look_u k with⟨h1,h2⟩|⟨j,hj,e,h1,_,_,h2⟩
 ·rw [decide_eq_false h1]
  clear hm h1
  go_enter Tryz.func330,Tryz.ntmps330
  go_wp2_with fail
  go_ret
  exact⟨rfl,Bw.rfl⟩
 ·rw [decide_eq_true (List.mem_of_getElem? h1)]
  clear hm h1
  go_enter Tryz.func330,Tryz.ntmps330
  go_wp2_with fail
  go_ret
  exact⟨rfl,Bw.rfl⟩
theorem mapGet_c {H:Hp}{r:Nat}{ks:List ByteArray}{vs:List JT}{es:Array MapEntry}{ck:Nat}(h:Cw H r ks vs es ck)(ha:Addr)(j:Nat)(hj:j<vs.length)(k:ByteArray)(hk:ks[j]?=some k)(w:World)(hi:Imm H w):
  Calls Tryz.prog 329 #[.map (some r), .iface 185 (.pointer (some ha)), .string k] w
   (fun e w'=>Bw w w'∧∃b x,e= .returned (.tuple #[.iface 184 (.pointer (some ⟨b,0,none⟩)), .bool true])∧w.heap.size≤b∧w'.heap[b]?=some (.cells #[x] 244)∧RJ H vs[j] x):=by
 have hm:=h.own hi
 rcases hm.look_u k with⟨h1,h2⟩|⟨j2,hj2,e,h1,_,h3,h2⟩
 ·exact absurd (List.mem_of_getElem? hk) h1
 ·have ejj:j2=j:=by
   have hjl:j<ks.length:=(List.getElem?_eq_some_iff.1 hk).1
   have hjl2:j2<ks.length:=(List.getElem?_eq_some_iff.1 h1).1
   exact(List.getElem_inj h.nodup).1 ((List.getElem?_eq_some_iff.1 h1).2.trans (List.getElem?_eq_some_iff.1 hk).2.symm)
  subst ejj
  have HV:=Lib.hid h3
  have hva:=h3.isAny
  have m1:=fun w=>Fm ha w
  rcases e with⟨ek,ev,eb⟩
  simp only at hva h2 HV
  clear hm h1 h hi hk h3
  go_enter Tryz.func329,Tryz.ntmps329
  go_wp2_with fail
  refine(allocVU_c _ w).mono ?_
  rintro _ w1 ⟨rfl,rfl⟩
  go_wp2_with fail
  refine(reuse_c _ _ .nilIface _ hva A4).mono ?_
  rintro _ w2 ⟨rfl,rfl⟩
  go_wp2_with fail
  refine bodyPost_ret (v:= .tuple #[.iface 184 (.pointer (some ⟨w.heap.size,0,none⟩)), .bool true]) (by simp [results,Tryz.results329,go_sem]) rfl ?_
  exact⟨A5,w.heap.size,ev,rfl,Nat.le_refl _,A4,HV.out⟩
structure Fr (X:Nat→Prop) (n:Nat) (w w':World):Prop where
 os:w'.os=w.os
 tape:w'.tape=w.tape
 output:w'.output=w.output
 size:w.heap.size≤w'.heap.size
 block:∀k,k<n→¬X k→w'.heap[k]?=w.heap[k]?
theorem Fr.of_bw {X:Nat→Prop}{n:Nat}{w w':World}(h:Bw w w')(hn:n≤w.heap.size):Fr X n w w':=⟨h.os,h.tape,h.output,h.size,fun k hk _=>h.block k (by omega)⟩
theorem Fr.trans {X:Nat→Prop}{n m:Nat}{a b c:World}(h:Fr X n a b)(g:Fr X m b c)(hn:n≤m):Fr X n a c:=
 ⟨g.os.trans h.os,g.tape.trans h.tape,g.output.trans h.output,Nat.le_trans h.size g.size,fun k hk hx=>(g.block k (by omega) hx).trans (h.block k hk hx)⟩
theorem Fr.turn {X:Nat→Prop}{n r:Nat}{a b:World}(t:Az a b r)(hn:n≤r):Fr X n a b:=⟨t.os,t.tape,t.output,by rw [t.size];exact Nat.le_refl _,fun k hk _=>t.block k (by omega)⟩
theorem Fr.imm {X:Nat→Prop}{w w':World}{H:Hp}(h:Fr X w.heap.size w w')(hi:Imm H w)(hX:∀k,X k→H k=none):Imm H w':=by
 intro k o e
 have h1:=hi k o e
 show w'.heap[k]?=some o
 rw [h.block k (A0 h1) (fun hx=>by rw [hX k hx]at e;cases e)];exact h1
theorem Fr.bw {w w':World}{X:Nat→Prop}{a:World}(h:Fr X a.heap.size w w')(hb:Bw a w)(hX:∀k,X k→a.heap.size≤k):Bw a w':=
 ⟨h.os.trans hb.os,h.tape.trans hb.tape,h.output.trans hb.output,Nat.le_trans hb.size h.size,fun k hk=>by rw [h.block k hk (fun hx=>by have:=hX k hx;omega)];exact hb.block k hk⟩
def CS (n:Nat)(w:World):Hp:=fun k=>if k=n∨k=n+1 then none else w.heap[k]?
theorem Be {n:Nat}{w:World}{k:Nat}{o:Obj}(h:CS n w k=some o):w.heap[k]?=some o:=by
 unfold CS at h;split at h
 ·cases h
 ·exact h
theorem mask_le (n:Nat)(w:World):Hle (CS n w) (At w):=fun _ _ h=>Be h
theorem mask_in {n:Nat}{w:World}{k:Nat}{o:Obj}(h:w.heap[k]?=some o)(h1:k≠n)(h2:k≠n+1):CS n w k=some o:=by
 unfold CS;rw [if_neg (by omega)];exact h
theorem mask_eq {n:Nat}{w w':World}(h:∀k,k≠n→k≠n+1→w'.heap[k]?=w.heap[k]?):CS n w'=CS n w:=by
 funext k;unfold CS;split
 ·rfl
 ·exact h k (by omega) (by omega)
theorem mask_first {w w':World}(h:∀k,k≠w.heap.size→k≠w.heap.size+1→w'.heap[k]?=w.heap[k]?):CS w.heap.size w'=At w:=by
 funext k;unfold CS At;split
 ·rw [Array.getElem?_eq_none (by omega)]
 ·exact h k (by omega) (by omega)
def IterEnd (X:Nat→Prop)(Inv:List Nat→Hp→Prop)(p:Nat→Bool)(n:Nat)(w:World):Ending→World→Prop:=fun e w'=>Fr X w.heap.size w w'∧
 ∃(L:List Nat) (b:Bool),e= .returned (.bool b)∧Inv L (CS w.heap.size w')∧L.Nodup∧(∀j ∈ L,j<n)∧(b=true→∀j,j<n→j ∈ L∧p j=true)∧(b=false→∃j ∈ L,p j=false)
theorem not_left {es:Array MapEntry}{seen:Array Nat}{b:Nat}{e:MapEntry}(he:e ∈ es.toList)(h:e ∉ (leftOf es (seen.push b)).toList):e ∉ (leftOf es seen).toList∨e.born=b:=by
 by_cases hb:e.born=b
 ·exact .inr hb
 ·left
  intro hm
  refine h ?_
  have h1:=Array.mem_filter.1 (Array.mem_toList_iff.1 hm)
  refine Array.mem_toList_iff.2 (Array.mem_filter.2 ⟨h1.1, ?_⟩)
  have h2:=h1.2
  rw [contains_push]
  have h3:seen.contains e.born=false:=by simpa using h2
  rw [h3];simp [hb]
theorem left_none {es:Array MapEntry}{e:MapEntry}(he:e ∈ es.toList)(h:e ∉ (leftOf es #[]).toList):False:=by
 refine h (Array.mem_toList_iff.2 (Array.mem_filter.2 ⟨Array.mem_toList_iff.1 he,by simp⟩))
structure IterSt (X:Nat→Prop) (Inv:List Nat→Hp→Prop) (p:Nat→Bool) (n:Nat) (es:Array MapEntry) (r ck:Nat) (w:World) (L:List Nat) (seen:Array Nat) (x:Value) (wr:World):Prop where
 fr:Fr X w.heap.size w wr
 big:w.heap.size+2≤wr.heap.size
 box:wr.heap[w.heap.size]?=some (.cells #[x] 244)
 it:wr.heap[w.heap.size+1]?=some (.mapIter (some r) ck seen ck)
 inv:Inv L (CS w.heap.size wr)
 nodup:L.Nodup
 yes:∀j ∈ L,j<n∧p j=true
 left:∀(j:Nat) (e:MapEntry),es[j]?=some e→(j ∈ L∨e ∈ (leftOf es seen).toList)
 right:∀(j:Nat) (e:MapEntry),es[j]?=some e→e ∈ (leftOf es seen).toList→j ∉ L
theorem stamped_inj {es:Array MapEntry}{ck:Nat}(h:Stamped es ck){i j:Nat}{a b:MapEntry}(ha:es[i]?=some a)(hb:es[j]?=some b)(e:a.born=b.born):i=j:=by
 obtain⟨h1,h2⟩:=Array.getElem?_eq_some_iff.1 ha
 obtain⟨h3,h4⟩:=Array.getElem?_eq_some_iff.1 hb
 refine(List.getElem_inj (xs:=es.toList.map (·.born)) (h₀:=by simpa using h1) (h₁:=by simpa using h3) h.2.1).1 ?_
 simp [h2,h4,e]
theorem iterate_c {H:Hp}{r:Nat}{ks:List ByteArray}{vs:List JT}{es:Array MapEntry}{ck:Nat}(h:Cw H r ks vs es ck)(ha:Addr)(fid:Nat)(cap:Array Value)(eg:∀args w,(callFunc fid args).run Tryz.prog w= .ok (.enter fid args) w)
  (X:Nat→Prop) (Inv:List Nat→Hp→Prop) (p:Nat→Bool) (w:World) (hi:Imm H w) (hX:∀k,X k→k<w.heap.size∧H k=none)
  (h0:Inv [] (At w))
  (hf:∀L j (hj:j<vs.length) k w1 x,ks[j]?=some k→Fr X w.heap.size w w1→w.heap.size+2≤w1.heap.size→w1.heap[w.heap.size]?=some (.cells #[x] 244)→RJ H vs[j] x→Inv L (CS w.heap.size w1)→L.Nodup→(∀i ∈ L,i<vs.length)→j ∉ L→
   Calls Tryz.prog fid (#[.string k, .iface 184 (.pointer (some ⟨w.heap.size,0,none⟩))]++cap) w1 (fun e w2=>e= .returned (.bool (p j))∧Fr X (w.heap.size+2) w1 w2∧Inv (L++[j]) (CS w.heap.size w2))):
  Calls Tryz.prog 332 #[.map (some r), .iface 185 (.pointer (some ha)), .func (.func fid) #[] cap] w (IterEnd X Inv p vs.length w):=by
 have hq:=hi _ _ h.at_
 have hl:=run_len_u hq
 rw [h.size]at hl
 have hlim:=h.lim_
 unfold lim at hlim
 have hlen:=h.len
 by_cases hn:ks.length=0
 ·have h00:vs.length=0:=by omega
  clear hf h hi hX hq hlen
  have H0:=Lib.hid (And.intro h0 h00)
  have hn2:((ks.length:Int)==0)=true:=by simp [hn]
  clear h0 hn h00
  go_enter_defers Tryz.func332,Tryz.ntmps332
  go_wp2_with fail
  exact⟨.bool true,(by simp [results,Tryz.results332,go_sem]),Fr.of_bw Bw.rfl (Nat.le_refl _),[],true,rfl,by rw [mask_first (fun _ _ _=>rfl)];exact H0.out.1,List.nodup_nil,by simp,fun _ j hj=>by have:=H0.out.2;omega,by simp⟩
 ·have hn2:((ks.length:Int)==0)=false:=by have h:¬(ks.length:Int)=0:=(by omega);simpa using h
  have m1:=fun w=>Fm ha w
  have m7:=fun a w=>Bq a w
  have HA:=Lib.hid (And.intro h (And.intro hi (And.intro hX (And.intro h0 hf))))
  clear h hi hX h0 hf hn hlen
  go_enter_defers Tryz.func332,Tryz.ntmps332
  go_wp2_with fail
  refine(allocVU_c _ w).mono ?_
  rintro _ w1 ⟨rfl,rfl⟩
  clear hl
  have hrg:=run_range_u (A3 (o:= .cells #[.nilIface] 244) hq)
  go_wp2_with fail
  have hS:IterSt X Inv p vs.length es r ck w [] #[] .nilIface ((w.alloc (.cells #[.nilIface] 244)).alloc (.mapIter (some r) ck #[] ck)):=
   ⟨Fr.of_bw Am (Nat.le_refl _),by simp,Cs,BF,by rw [mask_first (fun k h1 h2=>by rw [Ad,if_neg (by simpa using h2),Ad,if_neg h1])];exact HA.out.2.2.2.1,List.nodup_nil,by simp,
    fun j e he=> .inr (Classical.byContradiction fun hx=>left_none (List.mem_of_getElem? (by simpa using he)) hx),by simp⟩
  have HS:=Lib.hid hS
  clear hS hrg hq
  obtain⟨W0,hW0⟩:∃W0,W0=((w.alloc (.cells #[.nilIface] 244)).alloc (.mapIter (some r) ck #[] ck)):=⟨_,rfl⟩
  rw [←hW0]at HS
  rw [←hW0]
  clear hW0
  go_loopw [] (fun wr=>∃L seen x,IterSt X Inv p vs.length es r ck w L seen x wr) (fun wr=>(leftOf es (wr.iterSeen (w.heap.size+1))).size)
  case atStart=>exact⟨[], #[], .nilIface,HS.out⟩
  case round=>
   rename_i wr
   obtain⟨L,seen,x,hs⟩:=hrel
   have HI:=Lib.hid hs
   have HW:=Lib.hid (hs.fr.imm HA.out.2.1 fun k hk=>(HA.out.2.2.1 k hk).2)
   clear hs
   have hltr:r<w.heap.size:=(Array.getElem?_eq_some_iff.1 (HA.out.2.1 _ _ HA.out.1.at_)).1
   rcases iter_next HI.out.it (HW.out _ _ HA.out.1.at_) (by omega) HA.out.1.stamped with⟨hz,hnx⟩|⟨e,he,w2,ht,hx,hnx,hen⟩
   ·have HZ:=Lib.hid hz
    clear hz
    go_wp2_with fail
    refine leaves_cons (f:=274) (args:= #[.pointer (some ha), .iface 184 (.pointer (some ⟨w.heap.size,0,none⟩))]) (by simp) (by simp [go_sem,m7]) ?_
    refine(Bn _ _ _ _).mono ?_
    rintro _ _ _ ⟨rfl,rfl,rfl⟩
    refine⟨.bool true,(by simp [results,Tryz.results332,go_sem]), ?_⟩
    refine⟨HI.out.fr,L,true,rfl,HI.out.inv,HI.out.nodup,fun j hj=>(HI.out.yes j hj).1,fun _ j hj=> ?_,by simp⟩
    have hje:j<es.size:=by have:=HA.out.1.size;have:=HA.out.1.len;omega
    rcases HI.out.left j _ (Array.getElem?_eq_getElem hje)with h1|h1
    ·exact⟨h1,(HI.out.yes j h1).2⟩
    ·exfalso
     have h2:(leftOf es seen)= #[]:=Array.size_eq_zero_iff.1 HZ.out
     rw [h2]at h1;simp at h1
   ·have hown:=HA.out.1.own HW.out
    obtain⟨j,hj,k,hk,hje,hkey,hks,hv⟩:=hown.entry (mem_left he).1
    have HE:=Lib.hid (And.intro he (And.intro hje (And.intro hk (And.intro hv (And.intro ht hx)))))
    have hva:=Lib.hid hv.isAny
    rw [hkey]at hnx hen
    have hbx:w2.heap[w.heap.size]?=some (.cells #[x] 244):=by rw [ht.block _ (by omega)];exact HI.out.box
    have HBX:=Lib.hid hbx
    clear he hje hkey hks hv hown ht hx hbx hk
    go_wp2_with fail
    refine(reuse_c w.heap.size e.val x w2 hva.out HBX.out).mono ?_
    rintro _ w3 ⟨rfl,hw3⟩
    have HT:Hid (Az w2 w3 w.heap.size∧w3.heap[w.heap.size]?=some (.cells #[e.val] 244)):=by
     subst hw3
     exact⟨(Az.refl w2 w.heap.size).set 0 e.val,by simpa using Ae HBX.out 0 e.val⟩
    have hsz:w3.heap.size=wr.heap.size:=by rw [HT.out.1.size,HE.out.2.2.2.2.1.size]
    have HF:Hid (Calls Tryz.prog fid (#[.string k, .iface 184 (.pointer (some ⟨w.heap.size,0,none⟩))]++cap) w3 (fun e w2=>e= .returned (.bool (p j))∧Fr X (w.heap.size+2) w3 w2∧Inv (L++[j]) (CS w.heap.size w2))):=by
     refine HA.out.2.2.2.2 L j hj k w3 e.val HE.out.2.2.1 ?_ ?_ HT.out.2 HE.out.2.2.2.1 ?_ HI.out.nodup (fun i hi=>(HI.out.yes i hi).1) (HI.out.right j e HE.out.2.1 HE.out.1)
     ·exact(HI.out.fr.trans (Fr.turn (n:=w.heap.size) HE.out.2.2.2.2.1 (by omega)) (Nat.le_refl _)).trans (Fr.turn (n:=w.heap.size) HT.out.1 (by omega)) (Nat.le_refl _)
     ·rw [hsz];exact HI.out.big
     ·rw [mask_eq (fun k h1 h2=>(HT.out.1.block k h1).trans (HE.out.2.2.2.2.1.block k h2))];exact HI.out.inv
    clear hw3
    have HL:Hid ((L++[j]).Nodup∧∀i ∈ L++[j],i<vs.length):=by
     refine⟨List.nodup_append.2 ⟨HI.out.nodup,by simp, ?_⟩, ?_⟩
     ·intro a ha b hb e2
      simp only [List.mem_singleton]at hb
      subst hb;subst e2
      exact HI.out.right a e HE.out.2.1 HE.out.1 ha
     ·intro i hi
      simp only [List.mem_append,List.mem_singleton]at hi
      rcases hi with hi|rfl
      ·exact(HI.out.yes i hi).1
      ·exact hj
    cases hpj:p j
    ·rw [hpj]at HF
     go_wp2_with (go_at_fn fid;refine HF.out.mono ?_;rintro _ w4 ⟨rfl,hf4⟩)
     refine leaves_cons (f:=274) (args:= #[.pointer (some ha), .iface 184 (.pointer (some ⟨w.heap.size,0,none⟩))]) (by simp) (by simp [go_sem,m7]) ?_
     refine(Bn _ _ _ _).mono ?_
     rintro _ _ _ ⟨rfl,rfl,rfl⟩
     refine⟨.bool false,(by simp [results,Tryz.results332,go_sem]), ?_⟩
     refine⟨(((HI.out.fr.trans (Fr.turn (n:=w.heap.size) HE.out.2.2.2.2.1 (by omega)) (Nat.le_refl _)).trans (Fr.turn (n:=w.heap.size) HT.out.1 (by omega)) (Nat.le_refl _)).trans hf4.1 (by omega)),L++[j],false,rfl,hf4.2,HL.out.1,HL.out.2,by simp,fun _=>⟨j,by simp,hpj⟩⟩
    ·rw [hpj]at HF
     go_wp2_with (go_at_fn fid;refine HF.out.mono ?_;rintro _ w4 ⟨rfl,hf4⟩)
     have H4:=Lib.hid hf4
     clear hf4
     have hx3:w3.heap[w.heap.size+1]?=some (.mapIter (some r) ck (seen.push e.born) ck):=by rw [HT.out.1.block _ (by omega)];exact HE.out.2.2.2.2.2
     have hx4:w4.heap[w.heap.size+1]?=some (.mapIter (some r) ck (seen.push e.born) ck):=by rw [H4.out.1.block _ (by omega) (fun hk=>by have:=(HA.out.2.2.1 _ hk).1;omega)];exact hx3
     go_roundw
     case rel=>
      refine⟨L++[j],seen.push e.born,e.val,((HI.out.fr.trans (Fr.turn (n:=w.heap.size) HE.out.2.2.2.2.1 (by omega)) (Nat.le_refl _)).trans (Fr.turn (n:=w.heap.size) HT.out.1 (by omega)) (Nat.le_refl _)).trans H4.out.1 (by omega),by have:=H4.out.1.size;have:=HI.out.big;omega, ?_,hx4,H4.out.2,HL.out.1, ?_, ?_, ?_⟩
      ·rw [H4.out.1.block _ (by omega) (fun hk=>by have:=(HA.out.2.2.1 _ hk).1;omega)];exact HT.out.2
      ·intro i hi
       simp only [List.mem_append,List.mem_singleton]at hi
       rcases hi with hi|rfl
       ·exact HI.out.yes i hi
       ·exact⟨hj,hpj⟩
      ·intro i e2 he2
       by_cases hm:e2 ∈ (leftOf es (seen.push e.born)).toList
       ·exact .inr hm
       ·left
        rcases not_left (List.mem_of_getElem? (by simpa using he2)) hm with h1|h1
        ·rcases HI.out.left i e2 he2 with h2|h2
         ·simp [h2]
         ·exact absurd h2 h1
        ·have:=stamped_inj HA.out.1.stamped he2 HE.out.2.1 h1
         simp [this]
      ·intro i e2 he2 hm hi
       have hml:=mem_left hm
       simp only [List.mem_append,List.mem_singleton]at hi
       rcases hi with hi|rfl
       ·refine HI.out.right i e2 he2 ?_ hi
        refine Array.mem_toList_iff.2 (Array.mem_filter.2 ⟨Array.mem_toList_iff.1 hml.1, ?_⟩)
        have h2:=hml.2
        rw [contains_push]at h2
        have h3:=(Bool.or_eq_false_iff.1 h2).1
        rw [h3];rfl
       ·rw [HE.out.2.1]at he2;cases he2
        have h2:=hml.2
        rw [contains_push]at h2
        simp at h2
     case measure=>
      rw [CN hx4,CN HI.out.it]
      exact left_shrinks es seen _ HE.out.1
end
end Go.Proofs.YtmghkmhgpmcoaaaGreat
