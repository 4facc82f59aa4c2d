/- What the claim's theorem 'proved' rests on: RowE, ValidL, ValidP, Valid, Sound. -/
import Derived.Test.YtmghkmhgpmcoaaaGreatP37
import Derived.Test.YtmghkmhgpmcoaaaGreatP41
import Derived.Test.YtmghkmhgpmcoaaaGreatP42
set_option linter.unusedVariables false
set_option linter.unusedSimpArgs false
set_option maxRecDepth 100000
set_option maxHeartbeats 10000000
namespace Go.Proofs.YtmghkmhgpmcoaaaGreat
section
open Go Go.RowKit
structure EC where
 e:GE
 x2:Value
 x3:Value
 y4:Value
 y5:Value
def EC.cells (t:EC):List Value:=[.int .i64 t.e.k, .string t.e.s,t.x2,t.x3, .int .i64 t.e.v.k, .int .i64 t.e.v.n, .float .f64 t.e.v.f, .string t.e.v.s,t.y4,t.y5, .int .i64 t.e.n]
def E6 (l:List EC):List Value:=l.flatMap EC.cells
theorem ecells_length (l:List EC):(E6 l).length=l.length * 11:=by
 induction l with
 |nil=>rfl
 |cons t r ih=>simp only [E6,List.flatMap_cons,List.length_append,List.length_cons]at *;rw [ih];simp [EC.cells];omega
theorem ecells_get:∀{l:List EC} {j:Nat} (hj:j<l.length) {i:Nat} (hi:i<11),(E6 l)[j * 11+i]?=l[j].cells[i]?
 |t::r,0,_,i,hi=>by
  simp only [E6,List.flatMap_cons,Nat.zero_mul,Nat.zero_add,List.getElem_cons_zero]
  rw [List.getElem?_append_left (by simp [EC.cells];omega)]
 |t::r,j+1,hj,i,hi=>by
  have:=ecells_get (l:=r) (j:=j) (by simpa using hj) hi
  simp only [E6,List.flatMap_cons,List.getElem_cons_succ]at this⊢
  rw [List.getElem?_append_right (by simp [EC.cells];omega)]
  have e:(j+1) * 11+i - t.cells.length=j * 11+i:=by simp [EC.cells];omega
  rw [e];exact this
theorem ecells_snoc (l:List EC)(t:EC):E6 (l++[t])=E6 l++t.cells:=by simp [E6]
theorem elems_of_own {w:World}{base:Nat}{v:Value}{l:List EC}{H:Hp}(h:w.ownsRow base 110 11 v l.length (E6 l))(hh:HasRow H w v)(hl:l.length≤lim)(hs:∀t ∈ l,RE H t.e t.x2 t.x3 t.y4 t.y5):EA H (l.map EC.e) v:=by
 obtain⟨a,c,rfl,hn,hc,hx⟩:=own_form h hh
 have hlen:(l.map EC.e).length=l.length:=by simp
 refine⟨a,c,by rw [hlen],by rw [hlen];exact hn,by rw [hlen];exact hl,by rw [hlen];exact hc, ?_⟩
 rcases hx with⟨rfl,hx⟩|⟨g,rfl,hx⟩
 ·have:l=[]:=by
   have:=ecells_length l;rw [hx]at this;exact List.eq_nil_of_length_eq_zero (by simp at this;omega)
  subst this;trivial
 ·refine Fv.mk fun j hj=> ?_
  have hj':j<l.length:=by simpa using hj
  refine⟨g,0,l[j].x2,l[j].x3,l[j].y4,l[j].y5,rfl, ?_,by simpa using hs _ (List.getElem_mem hj')⟩
  have hc:∀i,i<11→A8 H g (j * 11+i)=l[j].cells[i]?:=fun i hi=>by rw [hx _ (by omega),ecells_get hj' hi]
  have e:(l.map EC.e)[j]=l[j].e:=by simp
  rw [e]
  simp only [Nat.zero_add]
  exact⟨hc 0 (by omega),hc 1 (by omega),hc 2 (by omega),hc 3 (by omega),⟨hc 4 (by omega),hc 5 (by omega),hc 6 (by omega),hc 7 (by omega),hc 8 (by omega),hc 9 (by omega)⟩,hc 10 (by omega)⟩
def PE (H:Hp)(w wr:World)(v:Value)(L:List EC):Prop:=wr.ownsRow w.heap.size 110 11 v L.length (E6 L)∧∀t ∈ L,RE (AX H w wr v.ownBlock) t.e t.x2 t.x3 t.y4 t.y5
theorem PE.nil (H:Hp)(w wr:World):PE H w wr (.slice none 0 0) []:=⟨World.ownsRow_nil _ _ _ _,by simp⟩
theorem PE.later {H:Hp}{w wr w1:World}{v:Value}{L:List EC}(h:PE H w wr v L)(hb:Bw wr w1):PE H w w1 v L:=⟨Cq h.1 hb,fun t ht=>(h.2 t ht).mono (Ee hb)⟩
theorem PE.path {H:Hp}{w wr:World}{v:Value}{L:List EC}(h:PE H w wr v L)(hl:L.length≤lim):EA (A6 H w wr) (L.map EC.e) v:=
 elems_of_own h.1 (fun g hg=>by have:=(h.1.lt g hg).1;unfold A6;rw [if_neg (by omega)]) hl fun t ht=>(h.2 t ht).mono Dv
theorem PE.step {H:Hp}{w wr w2:World}{v v':Value}{L:List EC}{t:EC}(h:PE H w wr v L)(ht:RE (AX H w wr v.ownBlock) t.e t.x2 t.x3 t.y4 t.y5)
  (ho:w2.ownsRow w.heap.size 110 11 v' (L.length+1) (E6 L++t.cells)) (hg:wr.grownBy w2 v.ownBlock) (hv:v'.ownBlock=v.ownBlock∨∃k,v'.ownBlock=some k∧wr.heap.size≤k):PE H w w2 v' (L++[t]):=by
 have hm:Hle (AX H w wr v.ownBlock) (AX H w w2 v'.ownBlock):=by
  refine BE fun k o hk he hne=>⟨?_,by rw [hg.block k (A0 he) (fun e=>hne e.symm)];exact he⟩
  rcases hv with e|⟨k',e,hk'⟩
  ·rw [e];exact hne
  ·rw [e];intro h;cases h
   have:=A0 he
   omega
 refine⟨by rw [ecells_snoc,List.length_append];exact ho,fun u hu=> ?_⟩
 rcases List.mem_append.1 hu with hu|hu
 ·exact(h.2 u hu).mono hm
 ·simp at hu;subst hu;exact ht.mono hm
mutual
def okV:GV→Prop
 |⟨k,_,_,_,ks,l⟩=>ks.length≤l.length∧(k=6→AN ks∧ks.length=l.length)∧okVs l
def okVs:List GV→Prop
 |[]=>True
 |v::r=>okV v∧okVs r
end
theorem okVs_get:∀{l:List GV},okVs l→∀j (h:j<l.length),okV l[j]
 |v::r,h,0,_=>by simp only [okVs]at h;exact h.1
 |v::r,h,j+1,hj=>by simp only [okVs]at h;exact okVs_get h.2 j (by simpa using hj)
theorem okVs_of:∀{l:List GV},(∀v ∈ l,okV v)→okVs l
 |[],_=>by simp only [okVs]
 |v::r,h=>by simp only [okVs];exact⟨h v (by simp),okVs_of fun u hu=>h u (by simp [hu])⟩
theorem okV_iff {v:GV}:okV v↔v.ks.length≤v.l.length∧(v.k=6→AN v.ks∧v.ks.length=v.l.length)∧okVs v.l:=by
 rcases v with⟨k,n,f,s,ks,l⟩;simp only [okV]
theorem ok_clean:∀(z:Nat) (v:GV),v.sz≤z→okV (Aa v)
 |0,v,h=>by have:=v.sz_eq;omega
 |z+1,v,h=>by
  have hsz:=v.sz_eq
  rcases v with⟨k,n,f,s,ks,l⟩
  simp only at hsz
  have ih:∀u ∈ l,okV (Aa u):=by
   intro u hu
   obtain⟨j,hj,rfl⟩:=List.mem_iff_getElem.1 hu
   exact ok_clean z _ (by have:=D0 hj;omega)
  have nil0:∀(k n:Int) (f:Nat) (s:ByteArray),k≠6→okV ⟨k,n,f,s,[],[]⟩:=fun k n f s hk=>by simp only [okV,okVs];exact⟨Nat.le_refl _,fun e=>absurd e hk,trivial⟩
  by_cases h6:k=6
  ·subst h6
   have e:Aa ⟨6,n,f,s,ks,l⟩=Dj (ks.zip (Bo l)) Ci:=by simp [Aa]
   rw [e]
   obtain⟨S',e',h',m,_⟩:=DF (ks.zip (Bo l)) (S:=[]) (g:=fun _=>Ay) List.Pairwise.nil
   rw [D',e']
   unfold DA
   simp only [okV]
   refine⟨by simp,fun _=>⟨h',by simp⟩,okVs_of fun v hv=> ?_⟩
   obtain⟨x,hx,rfl⟩:=List.mem_map.1 hv
   have hm:=(m x).1 hx
   simp only [List.not_mem_nil,false_or]at hm
   obtain⟨v,h1,h2⟩:=lastG_mem _ (fun _=>Ay) x hm
   rw [h2]
   have h3:=(List.of_mem_zip h1).2
   rw [Ca,List.mem_map]at h3
   obtain⟨u,hu,rfl⟩:=h3
   exact ih u hu
  ·by_cases h5:k=5
   ·subst h5
    have e1:Aa ⟨5,n,f,s,ks,l⟩=⟨5,0,0,⟨#[]⟩,[],l.map Aa⟩:=by simp [Aa,Ca]
    rw [e1]
    simp only [okV]
    refine⟨Nat.zero_le _,fun e=>by omega,okVs_of fun v hv=> ?_⟩
    obtain⟨u,hu,rfl⟩:=List.mem_map.1 hv
    exact ih u hu
   ·by_cases h1:k=1
    ·subst h1;simp only [Aa,if_true];exact nil0 _ _ _ _ (by omega)
    ·by_cases h2:k=2
     ·subst h2;simp [Aa];exact nil0 _ _ _ _ (by omega)
     ·by_cases h3:k=3
      ·subst h3;simp [Aa];exact nil0 _ _ _ _ (by omega)
      ·by_cases h4:k=4
       ·subst h4;simp [Aa];exact nil0 _ _ _ _ (by omega)
       ·have e:Aa ⟨k,n,f,s,ks,l⟩=Ay:=by simp [Aa,h1,h2,h3,h4,h5,h6]
        rw [e];exact nil0 _ _ _ _ (by omega)
end
section
open Go Go.RowKit
def RetVal (s:List Ax)(r:As)(v:GV)(w:World):Ending→World→Prop:=fun e w'=>∃z,e= .returned (.bool z)∧Bw w w'∧(z=true→CR s r v=true)
def CValid (v:GV):Prop:=∀(s:List Ax) (r:As) (H:Hp) (xs x1 x2 x4 x5:Value) (d:Bool) (w:World),Imm H w→DH H s xs→Cy H r x1 x2→RV H v x4 x5→
 Calls Tryz.prog 50 #[E1 xs,E8 r x1 x2,Ar v x4 x5, .bool d] w (RetVal s r v w)
theorem validList_of (s:List Ax)(t:B3)(l:List GV)(hc:∀j (h:j<l.length),CValid l[j])(hok:okVs l)(H:Hp)(xs x1 x2 xk x:Value)(d:Bool)(w:World)(hi:Imm H w)(hs:DH H s xs)(ht:D4 H t x1 x2 xk)(hl:RVs H l x):
  Calls Tryz.prog 83 #[E1 xs,aggL t x1 x2 xk,x, .bool d] w (Some1 w):=by
 have HA:=Lib.hid (And.intro hi (And.intro hs ht))
 have HC:=Lib.hid (And.intro hc hok)
 obtain⟨aq,cq,rfl,_⟩:=hs
 obtain⟨_,hk,hr⟩:=C8.1 ht
 have HR:=Lib.hid hr
 obtain⟨a1,c1,a2,c2,rfl,rfl⟩:=hr.open
 obtain⟨ak,ck,rfl,_⟩:=hk
 obtain⟨al,cl,rfl,_,hll,_,hla⟩:=hl
 have HL:=Lib.hid (And.intro hla hll)
 unfold lim at hll
 clear hi ht hr hc hok hla
 go_enter Tryz.func83,Tryz.ntmps83
 go_upto_region 1 with(fail)
 obtain⟨w0,hw0⟩:∃x,x=(w.alloc (.cells #[.slice aq s.length cq] 24)).alloc (.cells #[.bool t.elem.named, .string t.elem.name, .string t.elem.atom.sc, .slice a1 t.elem.atom.li.length c1, .slice a2 t.elem.atom.ma.length c2, .string t.elem.rel, .string t.rel, .slice ak t.keys.length ck] 67):=⟨_,rfl⟩
 have H0:Hid (Bw w w0∧w0.heap[w.heap.size]?=some (.cells #[.slice aq s.length cq] 24)∧w0.heap[w.heap.size+1]?=some (.cells #[.bool t.elem.named, .string t.elem.name, .string t.elem.atom.sc, .slice a1 t.elem.atom.li.length c1, .slice a2 t.elem.atom.ma.length c2, .string t.elem.rel, .string t.rel, .slice ak t.keys.length ck] 67)):=by
  subst hw0;exact⟨Am,Cs,BF⟩
 rw [←hw0]
 clear hw0
 go_wp2_with fail
 go_loopw [9,16] (fun v9 i wr=>∃(j:Nat) (L:List EC),j≤l.length∧i= .int .i64 (j:Int)∧L.length≤j∧Bw w0 wr∧PE H w0 wr v9 L) (fun _ i _=>l.length - (intOf i).toNat)
 case atStart=>exact⟨0,[],Nat.zero_le _,rfl,Nat.le_refl _,Bw.rfl,PE.nil _ _ _⟩
 case round=>
  rename_i wr
  obtain⟨j,L,hj,rfl,hLj,hb,hp⟩:=hrel
  obtain⟨gs,es,rfl⟩:=Aj hp.1
  obtain⟨wq,hwq⟩:∃x:World,x=wr:=⟨_,rfl⟩
  rw [←hwq]at hb hp⊢
  clear hwq
  have HP:=Lib.hid (And.intro hb hp)
  have hiq:=HA.out.1.below (H0.out.1.tr hb)
  have hbS:=A2 hb H0.out.2.1
  have hbT:=A2 hb H0.out.2.2
  obtain⟨q0,f0⟩:=A1 hbS
  obtain⟨q1,f1⟩:=A1 hbT
  have hl0:=A0 hbS
  have hl1:=A0 hbT
  clear hb hp hbS hbT
  by_cases hjl:j<l.length
  ·have p1:(j:Int)<(l.length:Int):=by omega
   obtain⟨bl,ol,z4,g4,z5,g5,e0,hv',i0,i1,i2,i3,i4,i5⟩:=HL.out.1.look hiq hjl
   cases e0
   have HV:=Lib.hid (And.intro hv' hiq)
   clear hv' hiq
   go_upto_region 5 with(fail)
   obtain⟨wd,hwd⟩:∃x,x=wq.alloc (.cells #[.int .i64 l[j].k, .int .i64 l[j].n, .float .f64 l[j].f, .string l[j].s, .slice z4 l[j].ks.length g4, .slice z5 l[j].l.length g5] 35):=⟨_,rfl⟩
   have HD:Hid (Bw wq wd∧wd.heap[wq.heap.size]?=some (.cells #[.int .i64 l[j].k, .int .i64 l[j].n, .float .f64 l[j].f, .string l[j].s, .slice z4 l[j].ks.length g4, .slice z5 l[j].l.length g5] 35)):=by subst hwd;exact⟨A5,b1_0⟩
   rw [←hwd]
   clear hwd q0 f0 q1 f1 hl0 hl1 i0 i1 i2 i3 i4 i5
   obtain⟨q0,f0⟩:=A1 (A2 (HP.out.1.tr HD.out.1) H0.out.2.1)
   obtain⟨q1,f1⟩:=A1 (A2 (HP.out.1.tr HD.out.1) H0.out.2.2)
   obtain⟨q2,f2⟩:=A1 HD.out.2
   have hl0:=A0 (A2 (HP.out.1.tr HD.out.1) H0.out.2.1)
   have hl1:=A0 (A2 (HP.out.1.tr HD.out.1) H0.out.2.2)
   have hl2:=A0 HD.out.2
   go_wp2_with fail
   refine(HC.out.1 j hjl s t.elem H _ _ _ _ _ d wd (HV.out.2.below HD.out.1) HA.out.2.1 HR.out HV.out.1).mono ?_
   rintro _ w1 ⟨z,rfl,hb1,_⟩
   have H1:=Lib.hid (HD.out.1.tr hb1)
   have hbS:=A2 (HP.out.1.tr (HD.out.1.tr hb1)) H0.out.2.1
   have hbT:=A2 (HP.out.1.tr (HD.out.1.tr hb1)) H0.out.2.2
   have hbV:=A2 hb1 HD.out.2
   clear hb1 q0 f0 q1 f1 q2 f2 hl0 hl1 hl2
   obtain⟨q0,f0⟩:=A1 hbS
   obtain⟨q1,f1⟩:=A1 hbT
   obtain⟨q2,f2⟩:=A1 hbV
   have hl0:=A0 hbS
   have hl1:=A0 hbT
   have hl2:=A0 hbV
   clear hbS hbT hbV
   cases z
   ·go_wp2_with fail
    go_ret
    exact⟨_,rfl,(H0.out.1.tr HP.out.1).tr H1.out⟩
   ·by_cases hA:(t.rel.toList==E3)=true
    ·go_wp2_with fail
     refine(itemElem_w s t l[j] H _ _ _ _ _ _ w1 (HV.out.2.below H1.out) HA.out.2.1 HA.out.2.2 HV.out.1 (okV_iff.1 (okVs_get HC.out.2 j hjl)).2.1).mono ?_
     rintro _ w2 ⟨hb2,u,x2,x3,y4,y5,ok,rfl,hu⟩
     obtain⟨b2,e2,b3,e3,b4,e4,b5,e5,rfl,rfl,rfl,rfl⟩:=hu.open
     unfold Dl
     have H2:=Lib.hid (And.intro hb2 hu)
     clear hb2 hu q0 f0 q1 f1 q2 f2 hl0 hl1 hl2
     go_upto_region 9 with(fail)
     obtain⟨we,hwe⟩:∃x,x=w2.alloc (.cells #[.int .i64 u.k, .string u.s, .slice b2 u.ks.length e2, .slice b3 u.l.length e3, .int .i64 u.v.k, .int .i64 u.v.n, .float .f64 u.v.f, .string u.v.s, .slice b4 u.v.ks.length e4, .slice b5 u.v.l.length e5, .int .i64 u.n] 110):=⟨_,rfl⟩
     have HE:Hid (Bw w1 we∧we.heap[w2.heap.size]?=some (.cells #[.int .i64 u.k, .string u.s, .slice b2 u.ks.length e2, .slice b3 u.l.length e3, .int .i64 u.v.k, .int .i64 u.v.n, .float .f64 u.v.f, .string u.v.s, .slice b4 u.v.ks.length e4, .slice b5 u.v.l.length e5, .int .i64 u.n] 110)∧Bw w2 we):=by subst hwe;exact⟨H2.out.1.al _,b1_0,A5⟩
     rw [←hwe]
     clear hwe
     go_cut [47] (fun s47 wx=>∃b:Bool,s47= .bool b∧Bw we wx)
     case first=>
      obtain⟨q2,f2⟩:=A1 HE.out.2.1
      have hl2:=A0 HE.out.2.1
      cases ok
      ·go_wp2_with fail
       go_meet
       exact⟨true,rfl,Bw.rfl⟩
      ·cases d
       ·have hi0:=HA.out.1.below H0.out.1
        have hbe:Bw w0 we:=(HP.out.1.tr H1.out).tr HE.out.1
        have HQ:=Lib.hid (And.intro (Imm.grow hi0 hbe) (And.intro (((HP.out.2.later H1.out).later HE.out.1).path (by have:=HL.out.2;omega)) (H2.out.2.mono (Ba hi0 (HP.out.1.tr H1.out).size fun k o _ e=>A2 HE.out.2.2 e))))
        clear hi0 hbe
        go_wp2_with fail
        refine(hasElem_w (L.map EC.e) u (A6 H w0 we) _ _ _ _ _ we HQ.out.1 HQ.out.2.1 HQ.out.2.2).mono ?_
        rintro _ w5 ⟨z2,rfl,hb5⟩
        have H5:=Lib.hid hb5
        clear hb5
        go_wp2_with fail
        go_meet
        exact⟨z2,rfl,H5.out⟩
       ·go_wp2_with fail
        go_meet
        exact⟨false,rfl,Bw.rfl⟩
     case rest=>
      obtain⟨b,rfl,hbx⟩:=hcut
      obtain⟨wy,hwy⟩:∃x:World,x=wc:=⟨_,rfl⟩
      rw [←hwy]at hbx⊢
      clear hwy
      have HY:=Lib.hid hbx
      have hbX:=A2 hbx HE.out.2.1
      clear hbx
      cases b
      ·obtain⟨q2,f2⟩:=A1 hbX
       have hl2:=A0 hbX
       have HPY:=Lib.hid (((HP.out.2.later H1.out).later HE.out.1).later HY.out)
       have HUY:=Lib.hid (H2.out.2.mono (B7 (X:=(Value.slice gs L.length es).ownBlock) (w2:=wy.alloc (.cells #[.int .i64 u.k, .string u.s, .slice b2 u.ks.length e2, .slice b3 u.l.length e3, .int .i64 u.v.k, .int .i64 u.v.n, .float .f64 u.v.f, .string u.v.s, .slice b4 u.v.ks.length e4, .slice b5 u.v.l.length e5, .int .i64 u.n] 110)) (HA.out.1.below H0.out.1) (HP.out.1.tr H1.out).size fun k o hk e=>⟨fun h=>by
        have h1:=(HP.out.2.1.lt k h).2
        have h2:=H1.out.size
        omega,A3 (A2 HY.out (A2 HE.out.2.2 e))⟩))
       have hwl:w0.heap.size≤wy.heap.size:=(((HP.out.1.tr H1.out).tr HE.out.1).tr HY.out).size
       have HWL:=Lib.hid hwl
       clear hwl hbX
       go_wp2_with (at_builtin;refine AF _ rfl (.tmp 48) (.tmp 50) 112 rfl w0.heap.size 110 _ 11 168 und_elems info_elem rfl (by decide) (by decide) (.slice gs L.length es) L.length (E6 L) rfl ((HPY.out.later A5).1) wy.heap.size _ 110 rfl A4 rfl (by simp [Value.oneCell']) (by have:=HL.out.2;omega) (by have:=HWL.out;simp;omega) ?_)
       intro v' w6 ho2 hg2 hwh2
       obtain⟨ao,co,rfl⟩:=Aj ho2
       have HN:=Lib.hid (And.intro ((HPY.out.later A5).step (t:=⟨u, .slice b2 u.ks.length e2, .slice b3 u.l.length e3, .slice b4 u.v.ks.length e4, .slice b5 u.v.l.length e5⟩) HUY.out ho2 hg2 (by rcases hwh2 with h|h;exact .inl h;exact .inr ⟨_,h,by simp⟩)) (Bi ((((HP.out.1.tr H1.out).tr HE.out.1).tr HY.out).al _) hg2 (fun k hk=>(HP.out.2.1.lt k hk).1)))
       clear ho2 hg2 hwh2 q2 f2 hl2
       go_wp2_with fail
       go_roundw
       case rel=>exact⟨j+1,_,by omega,by go_num,by rw [List.length_append];simp;omega,HN.out.2,HN.out.1⟩
       case measure=>simp [intOf];omega
      ·go_wp2_with fail
       go_ret
       exact⟨_,rfl,(((H0.out.1.tr HP.out.1).tr H1.out).tr HE.out.1).tr HY.out⟩
    ·go_upto_region 8 with(fail)
     go_roundw
     case rel=>exact⟨j+1,L,by omega,by go_num,by omega,HP.out.1.tr H1.out,HP.out.2.later H1.out⟩
     case measure=>simp [intOf];omega
  ·have p1:¬(j:Int)<(l.length:Int):=by omega
   go_wp2_with fail
   go_ret
   exact⟨_,rfl,H0.out.1.tr HP.out.1⟩
end
section
open Go Go.RowKit
theorem partForI_cases (a:Ap)(v:GV):BN a v=1∧part1 a v=true∨BN a v=2∨BN a v=3∧part3 a v=true∨BN a v=0:=by
 unfold BN
 cases h1:part1 a v
 ·cases h2:part2 a v
  ·cases h3:part3 a v<;>simp
  ·simp
 ·simp
theorem validRoot_2 {s:List Ax}{r:As}{v:GV}{a:Ap}(h:AJ s r=some a)(hp:BN a v=2):CR s r v=(v.k==0||fitsS a.sc v):=by
 unfold CR;rw [h];simp only [hp,if_true]
theorem validRoot_x {s:List Ax}{r:As}{v:GV}{a:Ap}{i:Int}(h:AJ s r=some a)(hp:BN a v=i)(h2:i≠2)(h0:i≠0):CR s r v=true:=by
 unfold CR;rw [h];simp only [hp,if_neg h2];simpa using h0
theorem validPlain_of (v:GV)(hok:okV v)(hc:∀j (h:j<v.l.length),CValid v.l[j]):CValid v:=by
 intro s r H xs x1 x2 x4 x5 d w hi hs hr hv
 have HA:=Lib.hid (And.intro hi (And.intro hs (And.intro hr hv)))
 have HC:=Lib.hid (And.intro hc hok)
 have HR:=Lib.hid (fun w0 h0=>Eg H s r _ _ _ w0 h0 hs hr)
 obtain⟨aq,cq,rfl,_⟩:=hs
 obtain⟨a1,c1,a2,c2,rfl,rfl⟩:=hr.open
 obtain⟨_,_,_,_,⟨p4,e4,rfl,_,hl4,hc4,hat4⟩,⟨p5,e5,rfl,_,hl5,hc5,hat5⟩⟩:=By.1 hv
 have HK:=Lib.hid (And.intro hat4 (And.intro hat5 (And.intro hl4 hl5)))
 unfold lim at hl4 hl5
 clear hi hr hv hok hc hat4 hat5
 unfold Ar
 go_enter Tryz.func50,Tryz.ntmps50
 go_upto_region 1 with(fail)
 obtain⟨w0,hw0⟩:∃x,x=((w.alloc (.cells #[.slice aq s.length cq] 24)).alloc (.cells #[.bool r.named, .string r.name, .string r.atom.sc, .slice a1 r.atom.li.length c1, .slice a2 r.atom.ma.length c2, .string r.rel] 30)).alloc (.cells #[.int .i64 v.k, .int .i64 v.n, .float .f64 v.f, .string v.s, .slice p4 v.ks.length e4, .slice p5 v.l.length e5] 35):=⟨_,rfl⟩
 have H0:Hid (Bw w w0∧w0.heap[w.heap.size]?=some (.cells #[.slice aq s.length cq] 24)∧w0.heap[w.heap.size+1]?=some (.cells #[.bool r.named, .string r.name, .string r.atom.sc, .slice a1 r.atom.li.length c1, .slice a2 r.atom.ma.length c2, .string r.rel] 30)∧w0.heap[w.heap.size+1+1]?=some (.cells #[.int .i64 v.k, .int .i64 v.n, .float .f64 v.f, .string v.s, .slice p4 v.ks.length e4, .slice p5 v.l.length e5] 35)):=by
  subst hw0;exact⟨Co,b3_0,b3_1,ET⟩
 rw [←hw0]
 clear hw0
 obtain⟨q0,f0⟩:=A1 H0.out.2.1
 obtain⟨q1,f1⟩:=A1 H0.out.2.2.1
 have hl0:=A0 H0.out.2.1
 have hl1:=A0 H0.out.2.2.1
 go_wp2_with fail
 refine(HR.out w0 (HA.out.1.below H0.out.1)).mono ?_
 rintro en w1 hpost
 unfold Cx at hpost
 obtain⟨hb1,hpost⟩:=hpost
 clear q0 f0 q1 f1 hl0 hl1
 cases hqr:AJ s r with
 |none=>
  rw [hqr]at hpost
  simp only at hpost
  subst hpost
  have H1:=Lib.hid hb1
  clear hb1 hqr
  go_wp2_with fail
  go_ret
  refine⟨_,rfl, ?_,by intro h;cases h⟩
  have h1:=H0.out.1.tr H1.out
  repeat with_reducible (first|exact h1|refine Bw.al ?_ _|refine Bw.dr ?_|refine Bw.set ?_ (by omega) _ _)
 |some a=>
  rw [hqr]at hpost
  obtain⟨z1,z2,rfl,ha⟩:=hpost
  obtain⟨_,⟨g1,k1,rfl,_,hlg1,hcg1,hat1⟩,⟨g2,k2,rfl,_,hlg2,hcg2,hat2⟩⟩:=Bd.1 ha
  obtain⟨wa,hwa⟩:∃x,x=w1.alloc (.cells #[.string a.sc, .slice g1 a.li.length k1, .slice g2 a.ma.length k2] 28):=⟨_,rfl⟩
  have H1:Hid (Bw w0 w1∧Bw w0 wa∧wa.heap[w1.heap.size]?=some (.cells #[.string a.sc, .slice g1 a.li.length k1, .slice g2 a.ma.length k2] 28)∧BQ (A6 H w0 w1) a (.slice g1 a.li.length k1) (.slice g2 a.ma.length k2)∧Imm (A6 H w0 w1) wa∧AJ s r=some a):=by
   subst hwa;exact⟨hb1,hb1.al _,b1_0,ha,(Imm.grow (HA.out.1.below H0.out.1) hb1).below A5,hqr⟩
  have HAT:=Lib.hid (And.intro hat1 hat2)
  unfold lim at hlg1 hlg2
  clear hb1 ha hqr hat1 hat2
  go_upto_region 2 with(fail)
  rw [←hwa]
  clear hwa
  obtain⟨q2,f2⟩:=A1 (A2 H1.out.2.1 H0.out.2.2.2)
  obtain⟨q3,f3⟩:=A1 H1.out.2.2.1
  have hl2:=A0 (A2 H1.out.2.1 H0.out.2.2.2)
  have hl3:=A0 H1.out.2.2.1
  go_wp2_with fail
  refine(partFor_c (A6 H w0 w1) a v _ _ _ _ wa H1.out.2.2.2.1).mono ?_
  rintro _ w2 ⟨rfl,hb2⟩
  have H2:=Lib.hid (And.intro (H1.out.2.1.tr hb2) (And.intro (A2 (H1.out.2.1.tr hb2) H0.out.2.1) (And.intro (A2 (H1.out.2.1.tr hb2) H0.out.2.2.2) (And.intro (A2 hb2 H1.out.2.2.1) (H1.out.2.2.2.2.1.below hb2)))))
  clear hb2 q2 f2 q3 f3 hl2 hl3
  obtain⟨q0,f0⟩:=A1 H2.out.2.1
  obtain⟨q2,f2⟩:=A1 H2.out.2.2.1
  obtain⟨q3,f3⟩:=A1 H2.out.2.2.2.1
  have hl0:=A0 H2.out.2.1
  have hl2:=A0 H2.out.2.2.1
  have hl3:=A0 H2.out.2.2.2.1
  rcases partForI_cases a v with⟨hp,hpp⟩|hp|⟨hp,hpp⟩|hp
  ·have HP:=Lib.hid (And.intro hp hpp)
   rw [hp]
   have hml:0<a.ma.length:=by
    unfold part1 at hpp
    simp only [Bool.and_eq_true,decide_eq_true_eq]at hpp
    exact hpp.1
   clear hp hpp
   obtain⟨m,mr,hma⟩:∃m mr,a.ma=m::mr:=by
    rcases hh:a.ma with _|⟨m,mr⟩
    ·rw [hh]at hml;simp at hml
    ·exact⟨m,mr,rfl⟩
   have hx:=HAT.out.2
   rw [hma]at hx
   obtain⟨bm,om,_,_,_,_,_,_,rfl,hm,_⟩:=hx.look0 H2.out.2.2.2.2
   have HM:=Lib.hid (And.intro hm hx)
   have pm1:(0:Int)<(a.ma.length:Int):=by omega
   clear hma hx hm
   go_wp2_with fail
   clear q0 f0 q2 f2 q3 f3 hl0 hl2 hl3
   go_loopw [42] (fun i wr=>∃(j:Nat),j≤v.ks.length∧i= .int .i64 (j:Int)∧Bw w2 wr) (fun i _=>v.ks.length - (intOf i).toNat)
   case atStart=>exact⟨0,Nat.zero_le _,rfl,Bw.rfl⟩
   case round=>
    obtain⟨j,hj,rfl,hb⟩:=hrel
    obtain⟨wq,hwq⟩:∃x:World,x=wr:=⟨_,rfl⟩
    rw [←hwq]at hb⊢
    clear hwq
    have HB:=Lib.hid hb
    have hiq:=HA.out.1.below ((H0.out.1.tr H2.out.1).tr hb)
    have hgq:=H2.out.2.2.2.2.below hb
    have hbS:=A2 hb H2.out.2.1
    have hbV:=A2 hb H2.out.2.2.1
    have hbA:=A2 hb H2.out.2.2.2.1
    obtain⟨q0,f0⟩:=A1 hbS
    obtain⟨q2,f2⟩:=A1 hbV
    obtain⟨q3,f3⟩:=A1 hbA
    have hl0:=A0 hbS
    have hl2:=A0 hbV
    have hl3:=A0 hbA
    clear hb hbS hbV hbA
    by_cases hjn:j<v.ks.length
    ·have p1:(j:Int)<(v.ks.length:Int):=by omega
     have hjl:j<v.l.length:=by have:=(okV_iff.1 HC.out.2).1;omega
     have p2:(j:Int)<(v.l.length:Int):=by omega
     obtain⟨bk,ok,e0,c0,hks⟩:=HK.out.1.look hiq hjn
     cases e0
     obtain⟨bl,ol,z4,r4,z5,r5,e1,hv',i0,i1,i2,i3,i4,i5⟩:=HK.out.2.1.look hiq hjl
     cases e1
     obtain⟨_,_,af,cf,y1,d1,y2,d2,em,hmm,m0,m1,m2,m3,m4,m5,m6,m7⟩:=HM.out.2.look0 hgq
     cases em
     have HV:=Lib.hid (And.intro hv' (And.intro hmm (And.intro hiq hgq)))
     clear hv' hks hiq hgq hmm
     go_wp2_with fail
     refine(under_c (A6 H w0 w1) m (v.ks[j]) _ _ _ wq HV.out.2.2.2 HV.out.2.1).mono ?_
     rintro _ w5 ⟨hb5,u1,u2,rfl,hu⟩
     obtain⟨r2,hr2⟩:∃r2,r2=(underS m v.ks[j]).1:=⟨_,rfl⟩
     obtain⟨ok1,hok1⟩:∃b,b=(underS m v.ks[j]).2:=⟨_,rfl⟩
     rw [←hr2]at hu⊢
     rw [←hok1]
     obtain⟨u1,v1,u2,v2,rfl,rfl⟩:=hu.open
     have H5:=Lib.hid (And.intro hb5 hu)
     clear hb5 hu hr2 hok1 m0 m1 m2 m3 m4 m5 m6 m7 c0 i0 i1 i2 i3 i4 i5 q0 f0 q2 f2 q3 f3 hl0 hl2 hl3
     go_upto_region 12 with(fail)
     obtain⟨wf,hwf⟩:∃x,x=w5.alloc (.cells #[.bool r2.named, .string r2.name, .string r2.atom.sc, .slice u1 r2.atom.li.length v1, .slice u2 r2.atom.ma.length v2, .string r2.rel] 30):=⟨_,rfl⟩
     have HF:Hid (Bw wq wf∧wf.heap[w5.heap.size]?=some (.cells #[.bool r2.named, .string r2.name, .string r2.atom.sc, .slice u1 r2.atom.li.length v1, .slice u2 r2.atom.ma.length v2, .string r2.rel] 30)):=by subst hwf;exact⟨H5.out.1.al _,b1_0⟩
     rw [←hwf]
     clear hwf
     cases ok1
     ·go_wp2_with fail
      refine wp_region_quiet_below (by kernel_rfl) (by kernel_rfl) ?_
      repeat (go_big_quiet_step (fail))
      refine wpQuiet_nil ?_
      intro _ hw'
      obtain⟨⟨dq,osq⟩,hw''⟩:=hw'
      subst hw''
      obtain⟨wn,hwn,hw'⟩:∃x,Bw wf x∧x=Go.Sort.grow (redrawn wf dq) osq:=⟨_,below_regrown _ _ _,rfl⟩
      rw [←hw']
      clear hw'
      go_wp2_with fail
      go_ret
      exact⟨_,rfl,(((H0.out.1.tr H2.out.1).tr HB.out).tr HF.out.1).tr hwn,by intro h;cases h⟩
     ·obtain⟨q0,f0⟩:=A1 (A2 (HB.out.tr HF.out.1) H2.out.2.1)
      obtain⟨q2,f2⟩:=A1 (A2 (HB.out.tr HF.out.1) H2.out.2.2.1)
      obtain⟨q3,f3⟩:=A1 HF.out.2
      obtain⟨_,_,z4,r4,z5,r5,e1,hv',i0,i1,i2,i3,i4,i5⟩:=HK.out.2.1.look (HV.out.2.2.1.below HF.out.1) hjl
      cases e1
      have HVV:=Lib.hid hv'
      have p3:IntKind.i64.wrap (j:Int)=(j:Int):=IntWalk.i64_in _ (by omega)
      have S1:(fun w'=>w'.cell? ⟨w.heap.size,0,none⟩=some (.slice aq s.length cq)∧w'.cell? ⟨w.heap.size+1+1,5,none⟩=some (.slice (some ⟨bl,ol,none⟩) v.l.length e5)∧w'.cell? ⟨w5.heap.size,0,none⟩=some (.bool r2.named)∧w'.cell? ⟨w5.heap.size,1,none⟩=some (.string r2.name)∧w'.cell? ⟨w5.heap.size,2,none⟩=some (.string r2.atom.sc)∧w'.cell? ⟨w5.heap.size,3,none⟩=some (.slice u1 r2.atom.li.length v1)∧w'.cell? ⟨w5.heap.size,4,none⟩=some (.slice u2 r2.atom.ma.length v2)∧w'.cell? ⟨w5.heap.size,5,none⟩=some (.string r2.rel)∧w'.cell? ⟨bl,ol+j * 6,none⟩=some (.int .i64 v.l[j].k)∧w'.cell? ⟨bl,ol+j * 6+1,none⟩=some (.int .i64 v.l[j].n)∧w'.cell? ⟨bl,ol+j * 6+2,none⟩=some (.float .f64 v.l[j].f)∧w'.cell? ⟨bl,ol+j * 6+3,none⟩=some (.string v.l[j].s)∧w'.cell? ⟨bl,ol+j * 6+4,none⟩=some (.slice z4 v.l[j].ks.length r4)∧w'.cell? ⟨bl,ol+j * 6+5,none⟩=some (.slice z5 v.l[j].l.length r5)) wf.drew:=⟨q0 0,q2 5,q3 0,q3 1,q3 2,q3 3,q3 4,q3 5,i0,i1,i2,i3,i4,i5⟩
      clear hv' q0 f0 q2 f2 q3 f3 i0 i1 i2 i3 i4 i5
      refine wp_region_held_drew (S:=(fun w'=>w'.cell? ⟨w.heap.size,0,none⟩=some (.slice aq s.length cq)∧w'.cell? ⟨w.heap.size+1+1,5,none⟩=some (.slice (some ⟨bl,ol,none⟩) v.l.length e5)∧w'.cell? ⟨w5.heap.size,0,none⟩=some (.bool r2.named)∧w'.cell? ⟨w5.heap.size,1,none⟩=some (.string r2.name)∧w'.cell? ⟨w5.heap.size,2,none⟩=some (.string r2.atom.sc)∧w'.cell? ⟨w5.heap.size,3,none⟩=some (.slice u1 r2.atom.li.length v1)∧w'.cell? ⟨w5.heap.size,4,none⟩=some (.slice u2 r2.atom.ma.length v2)∧w'.cell? ⟨w5.heap.size,5,none⟩=some (.string r2.rel)∧w'.cell? ⟨bl,ol+j * 6,none⟩=some (.int .i64 v.l[j].k)∧w'.cell? ⟨bl,ol+j * 6+1,none⟩=some (.int .i64 v.l[j].n)∧w'.cell? ⟨bl,ol+j * 6+2,none⟩=some (.float .f64 v.l[j].f)∧w'.cell? ⟨bl,ol+j * 6+3,none⟩=some (.string v.l[j].s)∧w'.cell? ⟨bl,ol+j * 6+4,none⟩=some (.slice z4 v.l[j].ks.length r4)∧w'.cell? ⟨bl,ol+j * 6+5,none⟩=some (.slice z5 v.l[j].l.length r5))) (by kernel_rfl) S1 (fun hHeld=> ?_)
      refine tg 0 ?_
      try simp only [Act.put,tka,tkb,tkc]
      refine tg 1 ?_
      try simp only [Act.put,tka,tkb,tkc]
      refine tg 2 ?_
      try simp only [Act.put,tka,tkb,tkc]
      refine tg 3 ?_
      try simp only [Act.put,tka,tkb,tkc]
      refine tg 4 ?_
      try simp only [Act.put,tka,tkb,tkc]
      refine tg 5 ?_
      try simp only [Act.put,tka,tkb,tkc]
      refine tg 6 ?_
      try simp only [Act.put,tka,tkb,tkc]
      refine tg 7 ?_
      try simp only [Act.put,tka,tkb,tkc]
      refine tg 8 ?_
      try simp only [Act.put,tka,tkb,tkc]
      refine tg 9 ?_
      try simp only [Act.put,tka,tkb,tkc]
      refine tg 10 ?_
      try simp only [Act.put,tka,tkb,tkc]
      refine wpAnyH_ready (rs:=[11]) (by kernel_rfl) (by simp) ?_
      refine AllReadyH.cons rfl (fun Kq hKq=> ?_) AllReadyH.nil
      go_simp
      refine(HC.out.1 j hjl s r2 (A6 H w0 w1) _ _ _ _ _ d wf.drew ((HV.out.2.2.2.below HF.out.1).below Bw.rfl.dr) (HA.out.2.1.mono (AY (HA.out.1.below H0.out.1))) H5.out.2 (HVV.out.mono (AY (HA.out.1.below H0.out.1)))).mono ?_
      rintro _ w7 ⟨z,rfl,hb7,_⟩
      have S2:(fun w'=>w'.cell? ⟨w.heap.size,0,none⟩=some (.slice aq s.length cq)∧w'.cell? ⟨w.heap.size+1+1,5,none⟩=some (.slice (some ⟨bl,ol,none⟩) v.l.length e5)∧w'.cell? ⟨w5.heap.size,0,none⟩=some (.bool r2.named)∧w'.cell? ⟨w5.heap.size,1,none⟩=some (.string r2.name)∧w'.cell? ⟨w5.heap.size,2,none⟩=some (.string r2.atom.sc)∧w'.cell? ⟨w5.heap.size,3,none⟩=some (.slice u1 r2.atom.li.length v1)∧w'.cell? ⟨w5.heap.size,4,none⟩=some (.slice u2 r2.atom.ma.length v2)∧w'.cell? ⟨w5.heap.size,5,none⟩=some (.string r2.rel)∧w'.cell? ⟨bl,ol+j * 6,none⟩=some (.int .i64 v.l[j].k)∧w'.cell? ⟨bl,ol+j * 6+1,none⟩=some (.int .i64 v.l[j].n)∧w'.cell? ⟨bl,ol+j * 6+2,none⟩=some (.float .f64 v.l[j].f)∧w'.cell? ⟨bl,ol+j * 6+3,none⟩=some (.string v.l[j].s)∧w'.cell? ⟨bl,ol+j * 6+4,none⟩=some (.slice z4 v.l[j].ks.length r4)∧w'.cell? ⟨bl,ol+j * 6+5,none⟩=some (.slice z5 v.l[j].l.length r5)) w7:=by
       obtain⟨h1,h2,h3,h4,h5,h6,h7,h8,h9,h10,h11,h12,h13,h14⟩:=S1
       exact⟨cell_later hb7 h1,cell_later hb7 h2,cell_later hb7 h3,cell_later hb7 h4,cell_later hb7 h5,cell_later hb7 h6,cell_later hb7 h7,cell_later hb7 h8,cell_later hb7 h9,cell_later hb7 h10,cell_later hb7 h11,cell_later hb7 h12,cell_later hb7 h13,cell_later hb7 h14⟩
      have H7:=Lib.hid (Bw.rfl.dr.tr hb7:Bw wf w7)
      refine hKq.out _ _ S2 (fun hHeld=> ?_)
      clear hKq Kq S1 S2 hb7
      try simp only [Act.put,tka,tkb,tkc]
      cases z
      ·refine tg 12 ?_
       try simp only [Act.put,tka,tkb,tkc]
       refine tg 13 ?_
       try simp only [Act.put,tka,tkb,tkc]
       refine wpAnyH_done (by kernel_rfl) ?_ _
       clear hHeld
       go_wp2_with fail
       go_ret
       exact⟨_,rfl,(((H0.out.1.tr H2.out.1).tr HB.out).tr HF.out.1).tr H7.out,by intro h;cases h⟩
      ·refine tg 12 ?_
       try simp only [Act.put,tka,tkb,tkc]
       refine tg 13 ?_
       try simp only [Act.put,tka,tkb,tkc]
       refine wpAnyH_done (by kernel_rfl) ?_ _
       clear hHeld
       go_wp2_with fail
       go_roundw
       case rel=>exact⟨j+1,by omega,by go_num,(HB.out.tr HF.out.1).tr H7.out⟩
       case measure=>simp [intOf];omega
    ·have p1:¬(j:Int)<(v.ks.length:Int):=by omega
     clear hiq hgq
     go_wp2_with fail
     go_ret
     exact⟨_,rfl,(H0.out.1.tr H2.out.1).tr HB.out,fun _=>validRoot_x H1.out.2.2.2.2.2 HP.out.1 (by omega) (by omega)⟩
  ·have HP:=Lib.hid hp
   rw [hp]
   clear hp
   by_cases h0:v.k=0
   ·have h01:(v.k==0)=true:=by simp [h0]
    clear h0
    go_wp2_with fail
    go_ret
    exact⟨_,rfl,H0.out.1.tr H2.out.1,fun _=>by rw [validRoot_2 H1.out.2.2.2.2.2 HP.out,h01];rfl⟩
   ·have h01:(v.k==0)=false:=by simpa using h0
    clear h0
    go_wp2_with fail
    refine(fits_c a.sc v _ _ w2).mono ?_
    rintro _ w3 ⟨rfl,hb3⟩
    have H3:=Lib.hid hb3
    clear hb3
    go_wp2_with fail
    go_ret
    exact⟨fitsS a.sc v,rfl,(H0.out.1.tr H2.out.1).tr H3.out,fun h=>by rw [validRoot_2 H1.out.2.2.2.2.2 HP.out,h];simp⟩
  ·have HP:=Lib.hid (And.intro hp hpp)
   rw [hp]
   have hll:0<a.li.length:=by
    unfold part3 at hpp
    simp only [Bool.and_eq_true,decide_eq_true_eq]at hpp
    exact hpp.1
   clear hp hpp
   obtain⟨t,lr,hli⟩:∃t lr,a.li=t::lr:=by
    rcases hh:a.li with _|⟨t,lr⟩
    ·rw [hh]at hll;simp at hll
    ·exact⟨t,lr,rfl⟩
   have hx:=HAT.out.1
   rw [hli]at hx
   obtain⟨bm,om,y1,d1,y2,d2,yk,dk,rfl,hm,m0,m1,m2,m3,m4,m5,m6,m7⟩:=hx.look0 H2.out.2.2.2.2
   have HM:=Lib.hid hm
   have pm1:(0:Int)<(a.li.length:Int):=by omega
   clear hli hx hm
   go_wp2_with fail
   have S1:(fun w'=>w'.cell? ⟨w.heap.size,0,none⟩=some (.slice aq s.length cq)∧w'.cell? ⟨w1.heap.size,1,none⟩=some (.slice (some ⟨bm,om,none⟩) a.li.length k1)∧w'.cell? ⟨bm,om,none⟩=some (.bool t.elem.named)∧w'.cell? ⟨bm,om+1,none⟩=some (.string t.elem.name)∧w'.cell? ⟨bm,om+2,none⟩=some (.string t.elem.atom.sc)∧w'.cell? ⟨bm,om+3,none⟩=some (.slice y1 t.elem.atom.li.length d1)∧w'.cell? ⟨bm,om+4,none⟩=some (.slice y2 t.elem.atom.ma.length d2)∧w'.cell? ⟨bm,om+5,none⟩=some (.string t.elem.rel)∧w'.cell? ⟨bm,om+6,none⟩=some (.string t.rel)∧w'.cell? ⟨bm,om+7,none⟩=some (.slice yk t.keys.length dk)∧w'.cell? ⟨w.heap.size+1+1,5,none⟩=some (.slice p5 v.l.length e5)) w2.drew:=⟨q0 0,q3 1,m0,m1,m2,m3,m4,m5,m6,m7,q2 5⟩
   clear q0 f0 q2 f2 q3 f3 m0 m1 m2 m3 m4 m5 m6 m7
   refine wp_region_held_drew (S:=(fun w'=>w'.cell? ⟨w.heap.size,0,none⟩=some (.slice aq s.length cq)∧w'.cell? ⟨w1.heap.size,1,none⟩=some (.slice (some ⟨bm,om,none⟩) a.li.length k1)∧w'.cell? ⟨bm,om,none⟩=some (.bool t.elem.named)∧w'.cell? ⟨bm,om+1,none⟩=some (.string t.elem.name)∧w'.cell? ⟨bm,om+2,none⟩=some (.string t.elem.atom.sc)∧w'.cell? ⟨bm,om+3,none⟩=some (.slice y1 t.elem.atom.li.length d1)∧w'.cell? ⟨bm,om+4,none⟩=some (.slice y2 t.elem.atom.ma.length d2)∧w'.cell? ⟨bm,om+5,none⟩=some (.string t.elem.rel)∧w'.cell? ⟨bm,om+6,none⟩=some (.string t.rel)∧w'.cell? ⟨bm,om+7,none⟩=some (.slice yk t.keys.length dk)∧w'.cell? ⟨w.heap.size+1+1,5,none⟩=some (.slice p5 v.l.length e5))) (by kernel_rfl) S1 (fun hHeld=> ?_)
   refine tg 0 ?_
   try simp only [Act.put,tka,tkb,tkc]
   refine tg 1 ?_
   try simp only [Act.put,tka,tkb,tkc]
   refine tg 2 ?_
   try simp only [Act.put,tka,tkb,tkc]
   refine tg 3 ?_
   try simp only [Act.put,tka,tkb,tkc]
   refine tg 4 ?_
   try simp only [Act.put,tka,tkb,tkc]
   refine tg 5 ?_
   try simp only [Act.put,tka,tkb,tkc]
   refine tg 6 ?_
   try simp only [Act.put,tka,tkb,tkc]
   refine tg 7 ?_
   try simp only [Act.put,tka,tkb,tkc]
   refine wpAnyH_ready (rs:=[8]) (by kernel_rfl) (by simp) ?_
   refine AllReadyH.cons rfl (fun Kq hKq=> ?_) AllReadyH.nil
   go_simp
   have hg0:=AY (w:=w0) (w1:=w1) (HA.out.1.below H0.out.1)
   refine(validList_of s t v.l HC.out.1 (okV_iff.1 HC.out.2).2.2 (A6 H w0 w1) _ _ _ _ _ d w2.drew (H2.out.2.2.2.2.below Bw.rfl.dr) (HA.out.2.1.mono hg0) HM.out ((By.1 HA.out.2.2.2).2.2.2.2.2.mono hg0)).mono ?_
   rintro _ w7 ⟨z,rfl,hb7⟩
   have S2:(fun w'=>w'.cell? ⟨w.heap.size,0,none⟩=some (.slice aq s.length cq)∧w'.cell? ⟨w1.heap.size,1,none⟩=some (.slice (some ⟨bm,om,none⟩) a.li.length k1)∧w'.cell? ⟨bm,om,none⟩=some (.bool t.elem.named)∧w'.cell? ⟨bm,om+1,none⟩=some (.string t.elem.name)∧w'.cell? ⟨bm,om+2,none⟩=some (.string t.elem.atom.sc)∧w'.cell? ⟨bm,om+3,none⟩=some (.slice y1 t.elem.atom.li.length d1)∧w'.cell? ⟨bm,om+4,none⟩=some (.slice y2 t.elem.atom.ma.length d2)∧w'.cell? ⟨bm,om+5,none⟩=some (.string t.elem.rel)∧w'.cell? ⟨bm,om+6,none⟩=some (.string t.rel)∧w'.cell? ⟨bm,om+7,none⟩=some (.slice yk t.keys.length dk)∧w'.cell? ⟨w.heap.size+1+1,5,none⟩=some (.slice p5 v.l.length e5)) w7:=by
    obtain⟨h1,h2,h3,h4,h5,h6,h7,h8,h9,h10,h11⟩:=S1
    exact⟨cell_later hb7 h1,cell_later hb7 h2,cell_later hb7 h3,cell_later hb7 h4,cell_later hb7 h5,cell_later hb7 h6,cell_later hb7 h7,cell_later hb7 h8,cell_later hb7 h9,cell_later hb7 h10,cell_later hb7 h11⟩
   have H7:=Lib.hid (Bw.rfl.dr.tr hb7:Bw w2 w7)
   refine hKq.out _ _ S2 (fun hHeld=> ?_)
   clear hKq Kq hb7
   try simp only [Act.put,tka,tkb,tkc]
   refine wpAnyH_ready (rs:=[9]) (by kernel_rfl) (by simp) ?_
   refine AllReadyH.cons rfl (fun Kq hKq=> ?_) AllReadyH.nil
   go_simp
   refine hKq.out _ _ S2 (fun hHeld=> ?_)
   clear hKq Kq S1 S2 hg0
   try simp only [Act.put,tka,tkb,tkc]
   refine wpAnyH_done (by kernel_rfl) ?_ _
   clear hHeld
   go_wp2_with fail
   go_ret
   exact⟨_,rfl,(H0.out.1.tr H2.out.1).tr H7.out,fun _=>validRoot_x H1.out.2.2.2.2.2 HP.out.1 (by omega) (by omega)⟩
  ·have HP:=Lib.hid hp
   rw [hp]
   clear hp
   go_wp2_with fail
   go_ret
   exact⟨_,rfl,H0.out.1.tr H2.out.1,by intro h;cases h⟩
end
section
open Go Go.RowKit
theorem valid_sz:∀(z:Nat) (v:GV),v.sz≤z→okV v→CValid v
 |0,v,h,_=>by have:=v.sz_eq;omega
 |z+1,v,h,hok=>validPlain_of v hok fun j hj=>valid_sz z _ (by have:=v.sz_eq;have:=D0 hj;omega) (okVs_get (okV_iff.1 hok).2.2 j hj)
theorem valid_c (s:List Ax)(r:As)(v:GV)(H:Hp)(xs x1 x2 x4 x5:Value)(d:Bool)(w:World)(hi:Imm H w)(hs:DH H s xs)(hr:Cy H r x1 x2)(hv:RV H v x4 x5):
  Calls Tryz.prog 26 #[E1 xs,E8 r x1 x2,Ar v x4 x5, .bool d] w (RetVal s r (Aa v) w):=by
 have HA:=Lib.hid (And.intro hi (And.intro hs (And.intro hr hv)))
 obtain⟨aq,cq,rfl,_⟩:=hs
 obtain⟨a1,c1,a2,c2,rfl,rfl⟩:=hr.open
 obtain⟨p4,e4,p5,e5,rfl,rfl⟩:=hv.open
 clear hi hr hv
 unfold Ar
 go_enter Tryz.func26,Tryz.ntmps26
 go_upto_region 1 with(fail)
 obtain⟨w0,hw0⟩:∃x,x=((w.alloc (.cells #[.slice aq s.length cq] 24)).alloc (.cells #[.bool r.named, .string r.name, .string r.atom.sc, .slice a1 r.atom.li.length c1, .slice a2 r.atom.ma.length c2, .string r.rel] 30)).alloc (.cells #[.int .i64 v.k, .int .i64 v.n, .float .f64 v.f, .string v.s, .slice p4 v.ks.length e4, .slice p5 v.l.length e5] 35):=⟨_,rfl⟩
 have H0:Hid (Bw w w0∧w0.heap[w.heap.size]?=some (.cells #[.slice aq s.length cq] 24)∧w0.heap[w.heap.size+1]?=some (.cells #[.bool r.named, .string r.name, .string r.atom.sc, .slice a1 r.atom.li.length c1, .slice a2 r.atom.ma.length c2, .string r.rel] 30)∧w0.heap[w.heap.size+1+1]?=some (.cells #[.int .i64 v.k, .int .i64 v.n, .float .f64 v.f, .string v.s, .slice p4 v.ks.length e4, .slice p5 v.l.length e5] 35)):=by
  subst hw0;exact⟨Co,b3_0,b3_1,ET⟩
 rw [←hw0]
 clear hw0
 have S1:(fun w'=>w'.cell? ⟨w.heap.size,0,none⟩=some (.slice aq s.length cq)∧w'.cell? ⟨w.heap.size+1,0,none⟩=some (.bool r.named)∧w'.cell? ⟨w.heap.size+1,1,none⟩=some (.string r.name)∧w'.cell? ⟨w.heap.size+1,2,none⟩=some (.string r.atom.sc)∧w'.cell? ⟨w.heap.size+1,3,none⟩=some (.slice a1 r.atom.li.length c1)∧w'.cell? ⟨w.heap.size+1,4,none⟩=some (.slice a2 r.atom.ma.length c2)∧w'.cell? ⟨w.heap.size+1,5,none⟩=some (.string r.rel)∧w'.cell? ⟨w.heap.size+1+1,0,none⟩=some (.int .i64 v.k)∧w'.cell? ⟨w.heap.size+1+1,1,none⟩=some (.int .i64 v.n)∧w'.cell? ⟨w.heap.size+1+1,2,none⟩=some (.float .f64 v.f)∧w'.cell? ⟨w.heap.size+1+1,3,none⟩=some (.string v.s)∧w'.cell? ⟨w.heap.size+1+1,4,none⟩=some (.slice p4 v.ks.length e4)∧w'.cell? ⟨w.heap.size+1+1,5,none⟩=some (.slice p5 v.l.length e5)) w0.drew:=by
  obtain⟨q0,_⟩:=A1 H0.out.2.1
  obtain⟨q1,_⟩:=A1 H0.out.2.2.1
  obtain⟨q2,_⟩:=A1 H0.out.2.2.2
  exact⟨q0 0,q1 0,q1 1,q1 2,q1 3,q1 4,q1 5,q2 0,q2 1,q2 2,q2 3,q2 4,q2 5⟩
 have HI:=Lib.hid ((HA.out.1.below H0.out.1).below (Bw.rfl (a:=w0)).dr)
 refine wp_region_held_drew (S:=(fun w'=>w'.cell? ⟨w.heap.size,0,none⟩=some (.slice aq s.length cq)∧w'.cell? ⟨w.heap.size+1,0,none⟩=some (.bool r.named)∧w'.cell? ⟨w.heap.size+1,1,none⟩=some (.string r.name)∧w'.cell? ⟨w.heap.size+1,2,none⟩=some (.string r.atom.sc)∧w'.cell? ⟨w.heap.size+1,3,none⟩=some (.slice a1 r.atom.li.length c1)∧w'.cell? ⟨w.heap.size+1,4,none⟩=some (.slice a2 r.atom.ma.length c2)∧w'.cell? ⟨w.heap.size+1,5,none⟩=some (.string r.rel)∧w'.cell? ⟨w.heap.size+1+1,0,none⟩=some (.int .i64 v.k)∧w'.cell? ⟨w.heap.size+1+1,1,none⟩=some (.int .i64 v.n)∧w'.cell? ⟨w.heap.size+1+1,2,none⟩=some (.float .f64 v.f)∧w'.cell? ⟨w.heap.size+1+1,3,none⟩=some (.string v.s)∧w'.cell? ⟨w.heap.size+1+1,4,none⟩=some (.slice p4 v.ks.length e4)∧w'.cell? ⟨w.heap.size+1+1,5,none⟩=some (.slice p5 v.l.length e5))) (by kernel_rfl) S1 (fun hHeld=> ?_)
 refine tg 0 ?_
 try simp only [Act.put,tka,tkb,tkc]
 refine tg 1 ?_
 try simp only [Act.put,tka,tkb,tkc]
 refine tg 2 ?_
 try simp only [Act.put,tka,tkb,tkc]
 refine tg 4 ?_
 try simp only [Act.put,tka,tkb,tkc]
 refine wpAnyH_ready (rs:=[3]) (by kernel_rfl) (by simp) ?_
 refine AllReadyH.cons rfl (fun Kq hKq=> ?_) AllReadyH.nil
 go_simp
 refine(EJ v.sz v (Nat.le_refl _) H _ _ w0.drew HI.out HA.out.2.2.2).mono ?_
 rintro _ w1 ⟨hb1,m4,m5,rfl,hm⟩
 obtain⟨n4,g4,n5,g5,rfl,rfl⟩:=hm.open
 have H1:=Lib.hid (And.intro hb1 (And.intro hm (And.intro (Imm.grow HI.out hb1) (AY (w1:=w1) HI.out))))
 have S2:(fun w'=>w'.cell? ⟨w.heap.size,0,none⟩=some (.slice aq s.length cq)∧w'.cell? ⟨w.heap.size+1,0,none⟩=some (.bool r.named)∧w'.cell? ⟨w.heap.size+1,1,none⟩=some (.string r.name)∧w'.cell? ⟨w.heap.size+1,2,none⟩=some (.string r.atom.sc)∧w'.cell? ⟨w.heap.size+1,3,none⟩=some (.slice a1 r.atom.li.length c1)∧w'.cell? ⟨w.heap.size+1,4,none⟩=some (.slice a2 r.atom.ma.length c2)∧w'.cell? ⟨w.heap.size+1,5,none⟩=some (.string r.rel)∧w'.cell? ⟨w.heap.size+1+1,0,none⟩=some (.int .i64 v.k)∧w'.cell? ⟨w.heap.size+1+1,1,none⟩=some (.int .i64 v.n)∧w'.cell? ⟨w.heap.size+1+1,2,none⟩=some (.float .f64 v.f)∧w'.cell? ⟨w.heap.size+1+1,3,none⟩=some (.string v.s)∧w'.cell? ⟨w.heap.size+1+1,4,none⟩=some (.slice p4 v.ks.length e4)∧w'.cell? ⟨w.heap.size+1+1,5,none⟩=some (.slice p5 v.l.length e5)) w1:=by
  obtain⟨h1,h2,h3,h4,h5,h6,h7,h8,h9,h10,h11,h12,h13⟩:=S1
  exact⟨cell_later hb1 h1,cell_later hb1 h2,cell_later hb1 h3,cell_later hb1 h4,cell_later hb1 h5,cell_later hb1 h6,cell_later hb1 h7,cell_later hb1 h8,cell_later hb1 h9,cell_later hb1 h10,cell_later hb1 h11,cell_later hb1 h12,cell_later hb1 h13⟩
 refine hKq.out _ _ S2 (fun hHeld=> ?_)
 clear hKq Kq hb1 hm S1
 try simp only [Act.put,tka,tkb,tkc]
 refine wpAnyH_ready (rs:=[5]) (by kernel_rfl) (by simp) ?_
 refine AllReadyH.cons rfl (fun Kq hKq=> ?_) AllReadyH.nil
 go_simp
 refine(valid_sz _ (Aa v) (Nat.le_refl _) (ok_clean v.sz v (Nat.le_refl _)) s r (A6 H w0.drew w1) _ _ _ _ _ d w1 H1.out.2.2.1 (HA.out.2.1.mono H1.out.2.2.2) (HA.out.2.2.1.mono H1.out.2.2.2) H1.out.2.1).mono ?_
 rintro _ w2 ⟨z,rfl,hb2,hz⟩
 have H2:=Lib.hid (And.intro ((H0.out.1.tr (Bw.rfl.dr.tr H1.out.1)).tr hb2) hz)
 have S3:(fun w'=>w'.cell? ⟨w.heap.size,0,none⟩=some (.slice aq s.length cq)∧w'.cell? ⟨w.heap.size+1,0,none⟩=some (.bool r.named)∧w'.cell? ⟨w.heap.size+1,1,none⟩=some (.string r.name)∧w'.cell? ⟨w.heap.size+1,2,none⟩=some (.string r.atom.sc)∧w'.cell? ⟨w.heap.size+1,3,none⟩=some (.slice a1 r.atom.li.length c1)∧w'.cell? ⟨w.heap.size+1,4,none⟩=some (.slice a2 r.atom.ma.length c2)∧w'.cell? ⟨w.heap.size+1,5,none⟩=some (.string r.rel)∧w'.cell? ⟨w.heap.size+1+1,0,none⟩=some (.int .i64 v.k)∧w'.cell? ⟨w.heap.size+1+1,1,none⟩=some (.int .i64 v.n)∧w'.cell? ⟨w.heap.size+1+1,2,none⟩=some (.float .f64 v.f)∧w'.cell? ⟨w.heap.size+1+1,3,none⟩=some (.string v.s)∧w'.cell? ⟨w.heap.size+1+1,4,none⟩=some (.slice p4 v.ks.length e4)∧w'.cell? ⟨w.heap.size+1+1,5,none⟩=some (.slice p5 v.l.length e5)) w2:=by
  obtain⟨h1,h2,h3,h4,h5,h6,h7,h8,h9,h10,h11,h12,h13⟩:=S2
  exact⟨cell_later hb2 h1,cell_later hb2 h2,cell_later hb2 h3,cell_later hb2 h4,cell_later hb2 h5,cell_later hb2 h6,cell_later hb2 h7,cell_later hb2 h8,cell_later hb2 h9,cell_later hb2 h10,cell_later hb2 h11,cell_later hb2 h12,cell_later hb2 h13⟩
 refine hKq.out _ _ S3 (fun hHeld=> ?_)
 clear hKq Kq hb2 hz S2
 try simp only [Act.put,tka,tkb,tkc]
 refine wpAnyH_ready (rs:=[6]) (by kernel_rfl) (by simp) ?_
 refine AllReadyH.cons rfl (fun Kq hKq=> ?_) AllReadyH.nil
 go_simp
 refine hKq.out _ _ S3 (fun hHeld=> ?_)
 clear hKq Kq S3
 try simp only [Act.put,tka,tkb,tkc]
 refine wpAnyH_done (by kernel_rfl) ?_ _
 clear hHeld
 go_wp2_with fail
 go_ret
 exact⟨z,rfl,H2.out.1,H2.out.2⟩
end
section
open Go Go.RowKit
def SoundP (s:List Ax)(r:As)(l:List GV):Prop:=Dz s r=true∧∀j (h:j<l.length),ED s r l[j]=true∧CR s r (Aa l[j])=true
def RetSnd (s:List Ax)(r:As)(l:List GV)(w:World):Ending→World→Prop:=fun e w'=>∃z,e= .returned (.bool z)∧Bw w w'∧(z=true→SoundP s r l)
theorem sound_c (s:List Ax)(r:As)(l:List GV)(H:Hp)(xs x1 x2 x:Value)(w:World)(hi:Imm H w)(hs:DH H s xs)(hr:Cy H r x1 x2)(hl:RVs H l x):
  Calls Tryz.prog 8 #[E1 xs,E8 r x1 x2,x] w (RetSnd s r l w):=by
 have HA:=Lib.hid (And.intro hi (And.intro hs hr))
 have HW:=Lib.hid (fun w0 h0=>wellFormed_c H s r _ _ _ w0 h0 hs hr)
 obtain⟨aq,cq,rfl,_⟩:=hs
 obtain⟨a1,c1,a2,c2,rfl,rfl⟩:=hr.open
 obtain⟨al,cl,rfl,_,hll,_,hla⟩:=hl
 have HL:=Lib.hid (And.intro hla hll)
 unfold lim at hll
 clear hi hr hla
 go_enter Tryz.func8,Tryz.ntmps8
 go_upto_region 1 with(fail)
 obtain⟨w0,hw0⟩:∃x,x=(w.alloc (.cells #[.slice aq s.length cq] 24)).alloc (.cells #[.bool r.named, .string r.name, .string r.atom.sc, .slice a1 r.atom.li.length c1, .slice a2 r.atom.ma.length c2, .string r.rel] 30):=⟨_,rfl⟩
 have H0:Hid (Bw w w0∧w0.heap[w.heap.size]?=some (.cells #[.slice aq s.length cq] 24)∧w0.heap[w.heap.size+1]?=some (.cells #[.bool r.named, .string r.name, .string r.atom.sc, .slice a1 r.atom.li.length c1, .slice a2 r.atom.ma.length c2, .string r.rel] 30)):=by
  subst hw0;exact⟨Am,Cs,BF⟩
 rw [←hw0]
 clear hw0
 obtain⟨q0,f0⟩:=A1 H0.out.2.1
 obtain⟨q1,f1⟩:=A1 H0.out.2.2
 have hl0:=A0 H0.out.2.1
 have hl1:=A0 H0.out.2.2
 go_wp2_with fail
 refine(HW.out w0 (HA.out.1.below H0.out.1)).mono ?_
 rintro _ w1 ⟨rfl,hb1⟩
 have H1:=Lib.hid (H0.out.1.tr hb1)
 have HB1:=Lib.hid (And.intro (A2 hb1 H0.out.2.1) (A2 hb1 H0.out.2.2))
 clear hb1 q0 f0 q1 f1 hl0 hl1
 obtain⟨wf,hwf⟩:∃b,b=Dz s r:=⟨_,rfl⟩
 rw [←hwf]
 have HWF:=Lib.hid hwf
 clear hwf
 cases wf
 ·go_wp2_with fail
  go_ret
  exact⟨_,rfl,H1.out,by intro h;cases h⟩
 ·go_wp2_with fail
  go_loopw [15] (fun i wr=>∃(j:Nat),j≤l.length∧i= .int .i64 (j:Int)∧Bw w1 wr∧∀k (h:k<l.length),k<j→ED s r l[k]=true∧CR s r (Aa l[k])=true) (fun i _=>l.length - (intOf i).toNat)
  case atStart=>exact⟨0,Nat.zero_le _,rfl,Bw.rfl,fun k _ h=>by omega⟩
  case round=>
   obtain⟨j,hj,rfl,hb,hall⟩:=hrel
   obtain⟨wq,hwq⟩:∃x:World,x=wr:=⟨_,rfl⟩
   rw [←hwq]at hb⊢
   clear hwq
   have HB:=Lib.hid (And.intro hb hall)
   clear hall
   by_cases hjl:j<l.length
   ·have p1:(j:Int)<(l.length:Int):=by omega
    have hiq:=HA.out.1.below (H1.out.tr hb)
    obtain⟨bl,ol,z4,g4,z5,g5,e0,hv',i0,i1,i2,i3,i4,i5⟩:=HL.out.1.look hiq hjl
    cases e0
    have HV:=Lib.hid (And.intro hv' hiq)
    clear hv' hiq hb
    go_upto_region 6 with(fail)
    obtain⟨wd,hwd⟩:∃x,x=wq.alloc (.cells #[.int .i64 l[j].k, .int .i64 l[j].n, .float .f64 l[j].f, .string l[j].s, .slice z4 l[j].ks.length g4, .slice z5 l[j].l.length g5] 35):=⟨_,rfl⟩
    have HD:Hid (Bw wq wd∧wd.heap[wq.heap.size]?=some (.cells #[.int .i64 l[j].k, .int .i64 l[j].n, .float .f64 l[j].f, .string l[j].s, .slice z4 l[j].ks.length g4, .slice z5 l[j].l.length g5] 35)):=by subst hwd;exact⟨A5,b1_0⟩
    rw [←hwd]
    clear hwd i0 i1 i2 i3 i4 i5
    obtain⟨q2,f2⟩:=A1 HD.out.2
    have hl2:=A0 HD.out.2
    go_wp2_with fail
    refine(nodes_c l[j].sz l[j] (Nat.le_refl _) H _ _ wd (HV.out.2.below HD.out.1) HV.out.1).mono ?_
    rintro _ w2 ⟨⟨n,rfl⟩,hb2⟩
    have H2:=Lib.hid (And.intro (HD.out.1.tr hb2) (And.intro (A2 hb2 HD.out.2) (And.intro (A2 ((HB.out.1.tr HD.out.1).tr hb2) HB1.out.1) (A2 ((HB.out.1.tr HD.out.1).tr hb2) HB1.out.2))))
    clear hb2 q2 f2 hl2
    obtain⟨q0,f0⟩:=A1 H2.out.2.2.1
    obtain⟨q1,f1⟩:=A1 H2.out.2.2.2
    obtain⟨q2,f2⟩:=A1 H2.out.2.1
    have hl0:=A0 H2.out.2.2.1
    have hl1:=A0 H2.out.2.2.2
    have hl2:=A0 H2.out.2.1
    by_cases hn:400<n
    ·go_wp2_with fail
     go_ret
     exact⟨_,rfl,(H1.out.tr HB.out.1).tr H2.out.1,by intro h;cases h⟩
    ·go_wp2_with fail
     refine(ordKeys_c H s r l[j] _ _ _ _ _ w2 (HV.out.2.below H2.out.1) HA.out.2.1 HA.out.2.2 HV.out.1).mono ?_
     rintro _ w3 ⟨rfl,hb3⟩
     have H3:=Lib.hid (And.intro (H2.out.1.tr hb3) (And.intro (A2 hb3 H2.out.2.1) (And.intro (A2 hb3 H2.out.2.2.1) (A2 hb3 H2.out.2.2.2))))
     clear hb3 q0 f0 q1 f1 q2 f2 hl0 hl1 hl2
     obtain⟨ob,hob⟩:∃b,b=ED s r l[j]:=⟨_,rfl⟩
     rw [←hob]
     have HOB:=Lib.hid hob
     clear hob
     obtain⟨q0,f0⟩:=A1 H3.out.2.2.1
     obtain⟨q1,f1⟩:=A1 H3.out.2.2.2
     obtain⟨q2,f2⟩:=A1 H3.out.2.1
     have hl0:=A0 H3.out.2.2.1
     have hl1:=A0 H3.out.2.2.2
     have hl2:=A0 H3.out.2.1
     cases ob
     ·go_wp2_with fail
      go_ret
      exact⟨_,rfl,(H1.out.tr HB.out.1).tr H3.out.1,by intro h;cases h⟩
     ·go_wp2_with fail
      refine(valid_c s r l[j] H _ _ _ _ _ false w3 (HV.out.2.below H3.out.1) HA.out.2.1 HA.out.2.2 HV.out.1).mono ?_
      rintro _ w4 ⟨z,rfl,hb4,hz⟩
      have H4:=Lib.hid (And.intro (H3.out.1.tr hb4) hz)
      clear hb4 hz q0 f0 q1 f1 q2 f2 hl0 hl1 hl2
      cases z
      ·go_wp2_with fail
       go_ret
       exact⟨_,rfl,(H1.out.tr HB.out.1).tr H4.out.1,by intro h;cases h⟩
      ·go_wp2_with fail
       go_roundw
       case rel=>exact⟨j+1,by omega,by go_num,HB.out.1.tr H4.out.1,fun k hk hkj=>by
        by_cases e:k=j
        ·subst e;exact⟨HOB.out.symm,H4.out.2 (by first|trivial|rfl)⟩
        ·exact HB.out.2 k hk (by omega)⟩
       case measure=>simp [intOf];omega
   ·have p1:¬(j:Int)<(l.length:Int):=by omega
    clear hb
    go_wp2_with fail
    go_ret
    exact⟨true,rfl,H1.out.tr HB.out.1,fun _=>⟨HWF.out.symm,fun k hk=>HB.out.2 k hk (by omega)⟩⟩
end
end Go.Proofs.YtmghkmhgpmcoaaaGreat
