/- What the claim's theorem 'proved' rests on: ToMap, ToAtom, ToSchema, Find. -/
import Derived.Deep.RegionLaw
import Derived.Test.YtmghkmhgpmcoaaaGreatP09
set_option linter.unusedVariables false
set_option linter.unusedSimpArgs false
set_option maxRecDepth 100000
set_option maxHeartbeats 10000000
namespace Go.Proofs.YtmghkmhgpmcoaaaGreat
section
open Go.RowKit
structure FT where
 t:Au
 y:Six
 xd:Value
def FT.cells (f:FT):List Value:=[.string f.t.name, .pointer f.y.y0, .pointer f.y.y1, .pointer f.y.y2, .pointer f.y.y3, .pointer f.y.y4, .bool false,f.xd]
def Ey (l:List FT):List Value:=l.flatMap FT.cells
theorem fcells_get:∀{l:List FT} {j:Nat} (hj:j<l.length) {i:Nat} (hi:i<8),(Ey l)[j * 8+i]?=l[j].cells[i]?
 |t::r,0,_,i,hi=>by
  simp only [Ey,List.flatMap_cons,Nat.zero_mul,Nat.zero_add,List.getElem_cons_zero]
  rw [List.getElem?_append_left (by simp [FT.cells];omega)]
 |t::r,j+1,hj,i,hi=>by
  have:=fcells_get (l:=r) (j:=j) (by simpa using hj) hi
  simp only [Ey,List.flatMap_cons,List.getElem_cons_succ]at this⊢
  rw [List.getElem?_append_right (by simp [FT.cells];omega)]
  have e:(j+1) * 8+i - t.cells.length=j * 8+i:=by simp [FT.cells];omega
  rw [e];exact this
theorem fcells_snoc (l:List FT)(t:FT):Ey (l++[t])=Ey l++t.cells:=by simp [Ey]
def RetQM (H:Hp)(w:World)(t:Bp):Ending→World→Prop:=fun e w'=>Bw w w'∧∃y a c,e= .returned (.agg #[.slice a t.fields.length c, .slice none 0 0, .pointer y.y0, .pointer y.y1, .pointer y.y2, .pointer y.y3, .pointer y.y4, .bool false, .string t.rel])∧
 Sl (fun a=>AW Ak (A6 H w w') a 0 t.fields) t.fields.length (.slice a t.fields.length c)∧BM Ak (A6 H w w') t.elem y∧t.rel.size≤lim
def CToMap (t:Bp):Prop:=∀(H:Hp) (xf x1 x2:Value) (w:World),Imm H w→RMap H t xf x1 x2→Calls Tryz.prog 85 #[aggM t xf x1 x2] w (RetQM H w t)
def zMap:Obj:= .cells #[.slice none 0 0, .slice none 0 0, .pointer none, .pointer none, .pointer none, .pointer none, .pointer none, .bool false, .string {data:= #[]}] 182
def MapCut (H:Hp)(w wd wx:World)(elem:As)(rel:ByteArray)(box:Obj)(b:Nat):Prop:=∃y:Six,wx.heap[b]?=some (.cells #[.slice none 0 0, .slice none 0 0, .pointer y.y0, .pointer y.y1, .pointer y.y2, .pointer y.y3, .pointer y.y4, .bool false, .string rel] 182)∧w.heap.size+2≤b∧
 wd.heap.size=w.heap.size+2∧BM Ak (AX H wd wx (some b)) elem y∧Bw w wx∧wx.heap[w.heap.size]?=some box∧wx.heap[w.heap.size+1]?=some (.cells #[.slice none 0 0, .slice none 0 0, .pointer none, .pointer none, .pointer none, .pointer none, .pointer none, .bool false, .string {data:= #[]}] 182)
def PF (H:Hp)(w wx wr:World)(b:Nat)(y:Six)(rel:ByteArray)(fs:List Au)(v:Value)(j:Nat):Prop:=∃L:List FT,wr.heap[b]?=some (.cells #[v, .slice none 0 0, .pointer y.y0, .pointer y.y1, .pointer y.y2, .pointer y.y3, .pointer y.y4, .bool false, .string rel] 182)∧
 wr.ownsRow wx.heap.size 241 8 v j (Ey L)∧L.map FT.t=fs.take j∧(∀t ∈ L,E' Ak (AX H wx wr v.ownBlock) t.t t.y t.xd)∧Bw w wr∧wx.heap.size≤wr.heap.size∧∀k,k<wx.heap.size→k≠b→wr.heap[k]?=wx.heap[k]?
theorem PF.step {H:Hp}{w wx wr wd w1 w2:World}{b:Nat}{y:Six}{rel:ByteArray}{fs:List Au}{v v2:Value}{j:Nat}{L:List FT}{f:FT}{O:Obj}
  (hi:Imm H wx) (hbl:w.heap.size≤b) (hbx:b<wx.heap.size)
  (hb:wr.heap[b]?=some (.cells #[v, .slice none 0 0, .pointer y.y0, .pointer y.y1, .pointer y.y2, .pointer y.y3, .pointer y.y4, .bool false, .string rel] 182))
  (ho:wr.ownsRow wx.heap.size 241 8 v j (Ey L)) (hL:L.map FT.t=fs.take j) (hQ:∀t ∈ L,E' Ak (AX H wx wr v.ownBlock) t.t t.y t.xd) (hbr:Bw w wr) (hsr:wx.heap.size≤wr.heap.size) (hfr:∀k,k<wx.heap.size→k≠b→wr.heap[k]?=wx.heap[k]?)
  (hd:Bw wr wd) (hb1:Bw wd w1) (hj:j<fs.length) (hft:f.t=fs[j]) (hq:E' Ak (A6 H wd w1) f.t f.y f.xd)
  (ho2:w2.ownsRow wx.heap.size 241 8 v2 (j+1) (Ey L++f.cells)) (hg:(w1.alloc O).grownBy w2 v.ownBlock) (hv:v2.ownBlock=v.ownBlock∨v2.ownBlock=some (w1.alloc O).heap.size):
  PF H w wx (w2.setCell ⟨b,0,none⟩ v2) b y rel fs v2 (j+1):=by
 have hr1:Bw wr w1:=hd.tr hb1
 have hs1:=hr1.size
 have hsd:=hd.size
 have hsd1:=hb1.size
 have hsg:=hg.size
 simp at hsg
 have own:∀k,v.ownBlock=some k→wx.heap.size≤k∧k<wr.heap.size:=fun k hk=>ho.lt k hk
 have keep:∀k,k<w1.heap.size→v.ownBlock≠some k→k≠b→(w2.setCell ⟨b,0,none⟩ v2).heap[k]?=w1.heap[k]?:=by
  intro k hk hne hkb
  rw [Ag _ _ _ _ _ hkb,hg.block k (by simp;omega) (fun e=>hne e.symm),Ad,if_neg (by omega)]
 have hv2:∀k,k<w1.heap.size→v.ownBlock≠some k→v2.ownBlock≠some k:=by
  intro k hk hne
  rcases hv with e|e
  ·rw [e];exact hne
  ·rw [e];intro h;cases h;simp at hk;omega
 have hnb:v.ownBlock≠some b:=fun e=>by have:=(own b e).1;omega
 refine⟨L++[f], ?_, ?_, ?_, ?_, ?_, ?_, ?_⟩
 ·have h1:w2.heap[b]?=wr.heap[b]?:=by
   rw [hg.block b (by simp;omega) (fun e=>hnb e.symm),Ad,if_neg (by omega),hr1.block b (by omega)]
  have:=Ae (h1.trans hb) 0 v2
  simpa using this
 ·rw [fcells_snoc];exact Bj ho2 hbx
 ·rw [List.map_append,hL,List.take_succ_eq_append_getElem hj];simp [hft]
 ·intro t ht
  rcases List.mem_append.1 ht with ht|ht
  ·refine(hQ t ht).mono (BE fun k o hk e hne=> ?_)
   have hkl:=A0 e
   refine⟨hv2 k (by omega) hne, ?_⟩
   rw [keep k (by omega) hne (by omega),hr1.block k hkl];exact e
  ·simp at ht;subst ht
   refine hq.mono (B7 hi (by omega) fun k o hk e=> ?_)
   have hkl:=A0 e
   have hne:v.ownBlock≠some k:=fun h=>by have:=(own k h).2;omega
   exact⟨hv2 k hkl hne,by rw [keep k hkl hne (by omega)];exact e⟩
 ·refine Bw.set (Bi ((hbr.tr hr1).al O) hg fun k hk=> ?_) hbl _ _
  have:=(own k hk).1;omega
 ·simp;omega
 ·intro k hk hkb
  have hne:v.ownBlock≠some k:=fun h=>by have:=(own k h).1;omega
  rw [keep k (by omega) hne hkb,hr1.block k (by omega)];exact hfr k hk hkb
theorem info_fld:(Tryz.prog.info? 241).map (fun i=>(i.zero,i.size,i.bytes))=some (some (.agg #[.string {data:= #[]}, .pointer none, .pointer none, .pointer none, .pointer none, .pointer none, .bool false, .nilIface]),8,80):=by kernel_rfl
theorem und_flds:Tryz.prog.underlying 179=some (.slice 241):=by kernel_rfl
theorem keep8g {w w1:World}{b:Nat}{u0 u1 u2 u3 u4 u5 u6 u7:Value}(hb:w1.heap[b]?=w.heap[b]?)(h:w.cell? ⟨b,0,none⟩=some (u0)∧w.cell? ⟨b,1,none⟩=some (u1)∧w.cell? ⟨b,2,none⟩=some (u2)∧w.cell? ⟨b,3,none⟩=some (u3)∧w.cell? ⟨b,4,none⟩=some (u4)∧w.cell? ⟨b,5,none⟩=some (u5)∧w.cell? ⟨b,6,none⟩=some (u6)∧w.cell? ⟨b,7,none⟩=some (u7)):w1.cell? ⟨b,0,none⟩=some (u0)∧w1.cell? ⟨b,1,none⟩=some (u1)∧w1.cell? ⟨b,2,none⟩=some (u2)∧w1.cell? ⟨b,3,none⟩=some (u3)∧w1.cell? ⟨b,4,none⟩=some (u4)∧w1.cell? ⟨b,5,none⟩=some (u5)∧w1.cell? ⟨b,6,none⟩=some (u6)∧w1.cell? ⟨b,7,none⟩=some (u7):=by
 have e:∀i,w1.cell? ⟨b,i,none⟩=w.cell? ⟨b,i,none⟩:=fun i=>World.cell?_of_block hb
 simp only [e];exact h
theorem toMap_of (t:Bp)(hc:CToRef t.elem)(hf:∀j (h:j<t.fields.length),CToField t.fields[j]):CToMap t:=by
 intro H xf x1 x2 w hi hr
 obtain⟨hrel,hfl,hel⟩:=Cl.1 hr
 obtain⟨a1,c1,a2,c2,rfl,rfl⟩:=hel.open
 obtain⟨af,cf,rfl,hnf,hlf,hcf,hatf⟩:=hfl
 rcases t with⟨fields,⟨named,nm,⟨sc,li,ma⟩,erel⟩,rel⟩
 simp only at *
 have HC:=Lib.hid (hc H (.slice a1 li.length c1) (.slice a2 ma.length c2) · · hel)
 have HREL:=Lib.hid hrel
 have HF:=Lib.hid hf
 clear hc hel hr hrel hf
 have HLF:=Lib.hid hlf
 unfold lim at hlf
 unfold E8 at HC
 simp only at HC
 go_enter Tryz.func85,Tryz.ntmps85
 go_wp2_with fail
 obtain⟨wa,hwa⟩:∃wa,wa=(w.alloc (.cells #[.slice af fields.length cf, .bool named, .string nm, .string sc, .slice a1 li.length c1, .slice a2 ma.length c2, .string erel, .string rel] 48)).alloc (.cells #[.slice none 0 0, .slice none 0 0, .pointer none, .pointer none, .pointer none, .pointer none, .pointer none, .bool false, .string {data:= #[]}] 182):=⟨_,rfl⟩
 obtain⟨wd,hwd⟩:∃wd,wd=wa.drew:=⟨_,rfl⟩
 have HD:Hid (wd.heap[w.heap.size]?=some (.cells #[.slice af fields.length cf, .bool named, .string nm, .string sc, .slice a1 li.length c1, .slice a2 ma.length c2, .string erel, .string rel] 48)∧
   wd.heap[w.heap.size+1]?=some (.cells #[.slice none 0 0, .slice none 0 0, .pointer none, .pointer none, .pointer none, .pointer none, .pointer none, .bool false, .string {data:= #[]}] 182)∧Bw w wd∧wd.heap.size=w.heap.size+2):=by
  subst hwd;subst hwa;exact⟨Cs,BF,Am.dr,by simp⟩
 have HA:Hid (Bw w wa∧wa.heap.size=w.heap.size+2):=by subst hwa;exact⟨Am,by simp⟩
 rw [←hwa]
 clear hwa
 have S1:wd.cell? ⟨w.heap.size,0,none⟩=some (.slice af fields.length cf)∧wd.cell? ⟨w.heap.size,1,none⟩=some (.bool named)∧wd.cell? ⟨w.heap.size,2,none⟩=some (.string nm)∧wd.cell? ⟨w.heap.size,3,none⟩=some (.string sc)∧wd.cell? ⟨w.heap.size,4,none⟩=some (.slice a1 li.length c1)∧wd.cell? ⟨w.heap.size,5,none⟩=some (.slice a2 ma.length c2)∧wd.cell? ⟨w.heap.size,6,none⟩=some (.string erel)∧wd.cell? ⟨w.heap.size,7,none⟩=some (.string rel):=by
  obtain⟨q,_⟩:=A1 HD.out.1
  exact⟨q 0,q 1,q 2,q 3,q 4,q 5,q 6,q 7⟩
 have S0:wa.cell? ⟨w.heap.size,0,none⟩=some (.slice af fields.length cf)∧wa.cell? ⟨w.heap.size,1,none⟩=some (.bool named)∧wa.cell? ⟨w.heap.size,2,none⟩=some (.string nm)∧wa.cell? ⟨w.heap.size,3,none⟩=some (.string sc)∧wa.cell? ⟨w.heap.size,4,none⟩=some (.slice a1 li.length c1)∧wa.cell? ⟨w.heap.size,5,none⟩=some (.slice a2 ma.length c2)∧wa.cell? ⟨w.heap.size,6,none⟩=some (.string erel)∧wa.cell? ⟨w.heap.size,7,none⟩=some (.string rel):=by
  obtain⟨q,_⟩:=A1 HD.out.1
  rw [hwd]at q
  exact⟨q 0,q 1,q 2,q 3,q 4,q 5,q 6,q 7⟩
 have HWD:=Lib.hid hwd.symm
 clear hwd
 go_upto_region 2 with(fail)
 go_cut [3] (fun s3 wx=>∃b:Nat,s3= .pointer (some ⟨b,0,none⟩)∧MapCut H w wd wx ⟨named,nm,⟨sc,li,ma⟩,erel⟩ rel (.cells #[.slice af fields.length cf, .bool named, .string nm, .string sc, .slice a1 li.length c1, .slice a2 ma.length c2, .string erel, .string rel] 48) b)
 case first=>
  have hn3:¬wd.heap.size=w.heap.size:=by have:=HD.out.2.2.2;omega
  have hn4:¬w.heap.size=wd.heap.size:=fun e=>hn3 e.symm
  have hn5:¬wa.heap.size=w.heap.size:=by rw [show wa.heap.size=wd.heap.size by rw [←HWD.out];rfl];exact hn3
  have hn6:¬w.heap.size=wa.heap.size:=fun e=>hn5 e.symm
  go_region_held3 (fun w'=>w'.cell? ⟨w.heap.size,0,none⟩=some (.slice af fields.length cf)∧w'.cell? ⟨w.heap.size,1,none⟩=some (.bool named)∧w'.cell? ⟨w.heap.size,2,none⟩=some (.string nm)∧w'.cell? ⟨w.heap.size,3,none⟩=some (.string sc)∧w'.cell? ⟨w.heap.size,4,none⟩=some (.slice a1 li.length c1)∧w'.cell? ⟨w.heap.size,5,none⟩=some (.slice a2 ma.length c2)∧w'.cell? ⟨w.heap.size,6,none⟩=some (.string erel)∧w'.cell? ⟨w.heap.size,7,none⟩=some (.string rel))
   (first|go_keep|(refine keep8 (by first|assumption|exact A5) ?_;assumption)|(refine keep8a (by assumption) (o:= .cells #[.slice none 0 0, .slice none 0 0, .pointer none, .pointer none, .pointer none, .pointer none, .pointer none, .bool false, .string {data:= #[]}] 182) ?_;assumption))
   ((go_at_call 30;(try rw [HWD.out]);refine(HC.out _ (hi.below (by first|exact HD.out.2.2.1|exact(HA.out.1.al _).dr))).mono ?_;rintro e w1 ⟨hb1,y,rfl,hy⟩;have hn1:¬w1.heap.size=w.heap.size:=(by have:=HD.out.2.2.2;have:=HA.out.2;first|(have:=hb1.size;omega)|(have:wa.heap.size+1≤w1.heap.size:=(by simpa using hb1.size);omega));have hn2:¬w.heap.size=w1.heap.size:=fun e=>hn1 e.symm;try obtain⟨qn,fn⟩:=A1 (A2 hb1 (show((wa.alloc _).drew).heap[wa.heap.size]?=some _ from A4))))
  ·go_wp2_with fail
   go_meet
   have hz:=HD.out.2.2.2
   refine⟨_,rfl,y,A4,by have:=hb1.size;omega,hz,hy.mono (B7 (hi.below HD.out.2.2.1) (Nat.le_refl _) fun k o hk e=>⟨fun h=> ?_,A3 e⟩),(HD.out.2.2.1.tr hb1).al _,A3 (A2 hb1 HD.out.1),A3 (A2 hb1 HD.out.2.1)⟩
   cases h
   exact Nat.lt_irrefl _ (A0 e)
  ·go_wp2_with fail
   go_meet
   have hz:=HA.out.2
   have hbx:w1.heap[wa.heap.size]?=some _:=A2 hb1 (show((wa.alloc _).drew).heap[wa.heap.size]?=some _ from A4)
   have hwb:wa.heap=wd.heap:=by rw [←HWD.out];rfl
   have hwa1:Bw wa w1:=(Bw.rfl.al _).dr.tr hb1
   refine⟨_,rfl,y, ?_,by omega,HD.out.2.2.2,hy.mono (B7 (hi.below HD.out.2.2.1) (by have:=HD.out.2.2.2;simp;omega) fun k o hk e=>⟨fun h=> ?_, ?_⟩), ?_, ?_, ?_⟩
   ·have:=Ae (Ae (Ae (Ae (Ae (Ae (Ae (Ae (Ae hbx 0 (.slice none 0 0)) 1 (.slice none 0 0)) 2 (.pointer y.y0)) 3 (.pointer y.y1)) 4 (.pointer y.y2)) 5 (.pointer y.y3)) 6 (.pointer y.y4)) 7 (.bool false)) 8 (.string rel)
    simpa using this
   ·cases h
    have:wa.heap.size+1≤wa.heap.size:=by simpa using hk
    omega
   ·simp at hk
    repeat rw [Ag _ _ _ _ _ (show ¬k=wa.heap.size by omega)]
    exact e
   ·repeat with_reducible (first|exact HA.out.1.tr hwa1|refine Bw.set ?_ (by omega) _ _)
   ·repeat rw [Ag _ _ _ _ _ (show ¬w.heap.size=wa.heap.size by omega)]
    exact A2 hwa1 (by rw [hwb];exact HD.out.1)
   ·repeat rw [Ag _ _ _ _ _ (show ¬w.heap.size+1=wa.heap.size by omega)]
    exact A2 hwa1 (by rw [hwb];exact HD.out.2.1)
 case rest=>
  obtain⟨b,rfl,y,hb,hbl,hwds,hq,hbw,hx0,hx1⟩:=hcut
  obtain⟨q0,f0⟩:=A1 hx0
  have hlb:=A0 hb
  have HX:=Lib.hid (And.intro hb (And.intro hx0 (And.intro hx1 (And.intro hwds hq))))
  clear hb hx0 hx1 hq hwds HC HWD HD HA S0 S1
  go_wp2_with fail
  clear q0 f0
  go_loopw [15] (fun i wr=>∃(j:Nat) (v:Value),j≤fields.length∧i= .int .i64 j∧PF H w wc wr b y rel fields v j) (fun i _=>fields.length - (intOf i).toNat)
  case atStart=>exact⟨0, .slice none 0 0,by omega,rfl,[],HX.out.1,World.ownsRow_nil _ _ _ _,by simp,by simp,hbw,Nat.le_refl _,fun _ _ _=>rfl⟩
  case round=>
   rename_i wr
   obtain⟨j,v,hj,rfl,L,hb,ho,hL,hQ,hbr,hsr,hfr⟩:=hrel
   obtain⟨av,cv,rfl⟩:=Aj ho
   obtain⟨q2,f2⟩:=A1 hb
   have HP:=Lib.hid (And.intro hb (And.intro ho (And.intro hL (And.intro hQ (And.intro hbr hfr)))))
   have hiw:=hi.below hbr
   have hlb2:b<wr.heap.size:=A0 hb
   clear hb ho hL hQ hfr
   by_cases hjf:j<fields.length
   ·obtain⟨b',o',e1,d1,e2,d2,e3,d3,rfl,hv,c0,c1,c2,c3,c4,c5,c6,c7⟩:=hatf.look hiw hjf
    have HCF:=Lib.hid (fun w0 h0=>HF.out j hjf H _ _ _ w0 h0 hv)
    clear hv
    cases hdn:dnull fields[j].dflt
    ·have HDN:=Lib.hid hdn
     clear hdn
     go_upto_region 5 with(fail)
     obtain⟨wa,hwa⟩:∃wa,wa=wr.alloc (.cells #[.string fields[j].name, .bool fields[j].type.named, .string fields[j].type.name, .string fields[j].type.atom.sc, .slice e1 fields[j].type.atom.li.length d1, .slice e2 fields[j].type.atom.ma.length d2, .string fields[j].type.rel, .slice e3 fields[j].dflt.length d3] 45):=⟨_,rfl⟩
     obtain⟨wd,hwd⟩:∃wd,wd=wa.drew:=⟨_,rfl⟩
     have HA:Hid (Bw wr wa∧wa.heap.size=wr.heap.size+1):=by subst hwa;exact⟨A5,by simp⟩
     have hbx:=A4 (w:=wr) (o:= .cells #[.string fields[j].name, .bool fields[j].type.named, .string fields[j].type.name, .string fields[j].type.atom.sc, .slice e1 fields[j].type.atom.li.length d1, .slice e2 fields[j].type.atom.ma.length d2, .string fields[j].type.rel, .slice e3 fields[j].dflt.length d3] 45)
     rw [←hwa]at hbx
     rw [←hwa]
     clear hwa
     obtain⟨q,_⟩:=A1 hbx
     have S0:wa.cell? ⟨wr.heap.size,0,none⟩=some (.string fields[j].name)∧wa.cell? ⟨wr.heap.size,1,none⟩=some (.bool fields[j].type.named)∧wa.cell? ⟨wr.heap.size,2,none⟩=some (.string fields[j].type.name)∧wa.cell? ⟨wr.heap.size,3,none⟩=some (.string fields[j].type.atom.sc)∧wa.cell? ⟨wr.heap.size,4,none⟩=some (.slice e1 fields[j].type.atom.li.length d1)∧wa.cell? ⟨wr.heap.size,5,none⟩=some (.slice e2 fields[j].type.atom.ma.length d2)∧wa.cell? ⟨wr.heap.size,6,none⟩=some (.string fields[j].type.rel)∧wa.cell? ⟨wr.heap.size,7,none⟩=some (.slice e3 fields[j].dflt.length d3):=⟨q 0,q 1,q 2,q 3,q 4,q 5,q 6,q 7⟩
     have S1:wd.cell? ⟨wr.heap.size,0,none⟩=some (.string fields[j].name)∧wd.cell? ⟨wr.heap.size,1,none⟩=some (.bool fields[j].type.named)∧wd.cell? ⟨wr.heap.size,2,none⟩=some (.string fields[j].type.name)∧wd.cell? ⟨wr.heap.size,3,none⟩=some (.string fields[j].type.atom.sc)∧wd.cell? ⟨wr.heap.size,4,none⟩=some (.slice e1 fields[j].type.atom.li.length d1)∧wd.cell? ⟨wr.heap.size,5,none⟩=some (.slice e2 fields[j].type.atom.ma.length d2)∧wd.cell? ⟨wr.heap.size,6,none⟩=some (.string fields[j].type.rel)∧wd.cell? ⟨wr.heap.size,7,none⟩=some (.slice e3 fields[j].dflt.length d3):=by rw [hwd];exact S0
     have HD:Hid (Bw wr wd∧wd.heap.size=wr.heap.size+1):=by rw [hwd];exact⟨HA.out.1.dr,HA.out.2⟩
     obtain⟨q2a,f2a⟩:=A1 (A2 HA.out.1 HP.out.1)
     obtain⟨q2d,f2d⟩:=A1 (A2 HD.out.1 HP.out.1)
     have HWD:=Lib.hid hwd.symm
     clear hwd q hbx q2 f2 c0 c1 c2 c3 c4 c5 c6 c7
     obtain⟨s0,s1,s2,s3,s4,s5,s6,s7⟩:=S0
     clear S1
     have hnb:¬b=wr.heap.size:=by omega
     have hnb2:¬wr.heap.size=b:=by omega
     go_region_law
      (first
       |(refine AH _ (by rfl) _ _ 179 (by rfl) wc.heap.size 241 _ 8 80 und_flds info_fld (by rfl) (by decide) (by decide) (.slice av j cv) j (Ey L) (by rfl) (Cq HP.out.2.1 ((HD.out.1.tr hb1).al _)) w1.heap.size _ _ (by rfl) A4 (by rfl) (by simp [Value.oneCell']) (by unfold lim;omega) (by have:=hb1.size;have:=HD.out.2;simp;omega) ?_;intro v' w2 ho2 hg2 hwh2;obtain⟨av2,cv2,rfl⟩:=Aj ho2;have hbz:=(hg2.block b (by have:=hb1.size;have:=HD.out.2;simp;omega) (fun e=>by have:=(HP.out.2.1.lt b e.symm).1;omega)).trans (A3 (A2 hb1 (A2 HD.out.1 HP.out.1)));obtain⟨q2z,f2z⟩:=A1 hbz)
       |(go_simp;(try rw [HWD.out]);refine(HCF.out _ (hiw.below HD.out.1)).mono ?_;rintro e w1 ⟨hb1,y',xd,rfl,hform,hqf⟩;obtain⟨T,z,rfl⟩:=hform.2 HDN.out;obtain⟨q2w,f2w⟩:=A1 (A2 hb1 (A2 HD.out.1 HP.out.1));have hbw1:b<w1.heap.size:=A0 (A2 hb1 (A2 HD.out.1 HP.out.1))))
     all_goals
      go_wp2_with fail
      go_roundw
      case rel=>exact⟨j+1,_,by omega,by go_num,PF.step (f:=⟨fields[j],y',_⟩) (hi.below hbw) (by omega) hlb HP.out.1 HP.out.2.1 HP.out.2.2.1 HP.out.2.2.2.1 hbr hsr HP.out.2.2.2.2.2 HD.out.1 hb1 hjf rfl hqf (by simpa [FT.cells]using ho2) hg2 hwh2⟩
      case measure=>simp [intOf];omega
    ·have HDN:=Lib.hid hdn
     clear hdn
     go_upto_region 5 with(fail)
     obtain⟨wa,hwa⟩:∃wa,wa=wr.alloc (.cells #[.string fields[j].name, .bool fields[j].type.named, .string fields[j].type.name, .string fields[j].type.atom.sc, .slice e1 fields[j].type.atom.li.length d1, .slice e2 fields[j].type.atom.ma.length d2, .string fields[j].type.rel, .slice e3 fields[j].dflt.length d3] 45):=⟨_,rfl⟩
     obtain⟨wd,hwd⟩:∃wd,wd=wa.drew:=⟨_,rfl⟩
     have HA:Hid (Bw wr wa∧wa.heap.size=wr.heap.size+1):=by subst hwa;exact⟨A5,by simp⟩
     have hbx:=A4 (w:=wr) (o:= .cells #[.string fields[j].name, .bool fields[j].type.named, .string fields[j].type.name, .string fields[j].type.atom.sc, .slice e1 fields[j].type.atom.li.length d1, .slice e2 fields[j].type.atom.ma.length d2, .string fields[j].type.rel, .slice e3 fields[j].dflt.length d3] 45)
     rw [←hwa]at hbx
     rw [←hwa]
     clear hwa
     obtain⟨q,_⟩:=A1 hbx
     have S0:wa.cell? ⟨wr.heap.size,0,none⟩=some (.string fields[j].name)∧wa.cell? ⟨wr.heap.size,1,none⟩=some (.bool fields[j].type.named)∧wa.cell? ⟨wr.heap.size,2,none⟩=some (.string fields[j].type.name)∧wa.cell? ⟨wr.heap.size,3,none⟩=some (.string fields[j].type.atom.sc)∧wa.cell? ⟨wr.heap.size,4,none⟩=some (.slice e1 fields[j].type.atom.li.length d1)∧wa.cell? ⟨wr.heap.size,5,none⟩=some (.slice e2 fields[j].type.atom.ma.length d2)∧wa.cell? ⟨wr.heap.size,6,none⟩=some (.string fields[j].type.rel)∧wa.cell? ⟨wr.heap.size,7,none⟩=some (.slice e3 fields[j].dflt.length d3):=⟨q 0,q 1,q 2,q 3,q 4,q 5,q 6,q 7⟩
     have S1:wd.cell? ⟨wr.heap.size,0,none⟩=some (.string fields[j].name)∧wd.cell? ⟨wr.heap.size,1,none⟩=some (.bool fields[j].type.named)∧wd.cell? ⟨wr.heap.size,2,none⟩=some (.string fields[j].type.name)∧wd.cell? ⟨wr.heap.size,3,none⟩=some (.string fields[j].type.atom.sc)∧wd.cell? ⟨wr.heap.size,4,none⟩=some (.slice e1 fields[j].type.atom.li.length d1)∧wd.cell? ⟨wr.heap.size,5,none⟩=some (.slice e2 fields[j].type.atom.ma.length d2)∧wd.cell? ⟨wr.heap.size,6,none⟩=some (.string fields[j].type.rel)∧wd.cell? ⟨wr.heap.size,7,none⟩=some (.slice e3 fields[j].dflt.length d3):=by rw [hwd];exact S0
     have HD:Hid (Bw wr wd∧wd.heap.size=wr.heap.size+1):=by rw [hwd];exact⟨HA.out.1.dr,HA.out.2⟩
     obtain⟨q2a,f2a⟩:=A1 (A2 HA.out.1 HP.out.1)
     obtain⟨q2d,f2d⟩:=A1 (A2 HD.out.1 HP.out.1)
     have HWD:=Lib.hid hwd.symm
     clear hwd q hbx q2 f2 c0 c1 c2 c3 c4 c5 c6 c7
     obtain⟨s0,s1,s2,s3,s4,s5,s6,s7⟩:=S0
     clear S1
     have hnb:¬b=wr.heap.size:=by omega
     have hnb2:¬wr.heap.size=b:=by omega
     go_region_law
      (first
       |(refine AH _ (by rfl) _ _ 179 (by rfl) wc.heap.size 241 _ 8 80 und_flds info_fld (by rfl) (by decide) (by decide) (.slice av j cv) j (Ey L) (by rfl) (Cq HP.out.2.1 ((HD.out.1.tr hb1).al _)) w1.heap.size _ _ (by rfl) A4 (by rfl) (by simp [Value.oneCell']) (by unfold lim;omega) (by have:=hb1.size;have:=HD.out.2;simp;omega) ?_;intro v' w2 ho2 hg2 hwh2;obtain⟨av2,cv2,rfl⟩:=Aj ho2;have hbz:=(hg2.block b (by have:=hb1.size;have:=HD.out.2;simp;omega) (fun e=>by have:=(HP.out.2.1.lt b e.symm).1;omega)).trans (A3 (A2 hb1 (A2 HD.out.1 HP.out.1)));obtain⟨q2z,f2z⟩:=A1 hbz)
       |(go_simp;(try rw [HWD.out]);refine(HCF.out _ (hiw.below HD.out.1)).mono ?_;rintro e w1 ⟨hb1,y',xd,rfl,hform,hqf⟩;obtain rfl:=hform.1 HDN.out;obtain⟨q2w,f2w⟩:=A1 (A2 hb1 (A2 HD.out.1 HP.out.1));have hbw1:b<w1.heap.size:=A0 (A2 hb1 (A2 HD.out.1 HP.out.1))))
     all_goals
      go_wp2_with fail
      go_roundw
      case rel=>exact⟨j+1,_,by omega,by go_num,PF.step (f:=⟨fields[j],y',_⟩) (hi.below hbw) (by omega) hlb HP.out.1 HP.out.2.1 HP.out.2.2.1 HP.out.2.2.2.1 hbr hsr HP.out.2.2.2.2.2 HD.out.1 hb1 hjf rfl hqf (by simpa [FT.cells]using ho2) hg2 hwh2⟩
      case measure=>simp [intOf];omega
   ·have hx1:wr.heap[w.heap.size+1]?=some _:=(HP.out.2.2.2.2.2 _ (by have:=hbw.size;have:=A0 HX.out.2.2.1;omega) (by omega)).trans HX.out.2.2.1
    obtain⟨q1,f1⟩:=A1 hx1
    have n1:¬b=w.heap.size+1:=by omega
    have n2:¬w.heap.size+1=b:=by omega
    clear hx1
    go_wp2_with fail
    have:j=fields.length:=by omega
    subst this
    refine bodyPost_ret (v:= .agg #[.slice av fields.length cv, .slice none 0 0, .pointer y.y0, .pointer y.y1, .pointer y.y2, .pointer y.y3, .pointer y.y4, .bool false, .string rel]) (by simp [results,Tryz.results85,go_sem,q1]) rfl ?_
    have hz:=HX.out.2.2.2.1
    obtain⟨hb',ho',hL',hQ',hbr',hfr'⟩:=HP.out
    rw [List.take_of_length_le (Nat.le_refl _)]at hL'
    have hbs:=hbw.size
    have hsr1:w.heap.size+1<wc.heap.size:=A0 HX.out.2.2.1
    have far:∀k o,w.heap.size+2≤k→wr.heap[k]?=some o→(((((((((wr.setCell ⟨w.heap.size+1,0,none⟩ (.slice av fields.length cv)).setCell ⟨w.heap.size+1,1,none⟩ (.slice none 0 0)).setCell ⟨w.heap.size+1,2,none⟩ (.pointer y.y0)).setCell ⟨w.heap.size+1,3,none⟩ (.pointer y.y1)).setCell ⟨w.heap.size+1,4,none⟩ (.pointer y.y2)).setCell ⟨w.heap.size+1,5,none⟩ (.pointer y.y3)).setCell ⟨w.heap.size+1,6,none⟩ (.pointer y.y4)).setCell ⟨w.heap.size+1,7,none⟩ (.bool false)).setCell ⟨w.heap.size+1,8,none⟩ (.string rel)).heap[k]?=some o:=by
     intro k o hk e
     repeat rw [Ag _ _ _ _ _ (show ¬k=w.heap.size+1 by omega)]
     exact e
    refine⟨by repeat with_reducible (first|exact hbr'|refine Bw.set ?_ (by omega) _ _),y,av,cv,rfl, ?_,HX.out.2.2.2.2.mono (Bc hi (by omega) fun k o hk e hne=>far k o (by omega) ?_),HREL.out⟩
    ·obtain⟨a',c',e',h1,h2,h3⟩:=own_form (H:=A6 H w (((((((((wr.setCell ⟨w.heap.size+1,0,none⟩ (.slice av fields.length cv)).setCell ⟨w.heap.size+1,1,none⟩ (.slice none 0 0)).setCell ⟨w.heap.size+1,2,none⟩ (.pointer y.y0)).setCell ⟨w.heap.size+1,3,none⟩ (.pointer y.y1)).setCell ⟨w.heap.size+1,4,none⟩ (.pointer y.y2)).setCell ⟨w.heap.size+1,5,none⟩ (.pointer y.y3)).setCell ⟨w.heap.size+1,6,none⟩ (.pointer y.y4)).setCell ⟨w.heap.size+1,7,none⟩ (.bool false)).setCell ⟨w.heap.size+1,8,none⟩ (.string rel))) ho' (by
      intro g hg
      have hgl:=ho'.lt g hg
      unfold A6;rw [if_neg (by omega)]
      repeat rw [Ag _ _ _ _ _ (show ¬g=w.heap.size+1 by omega)])
     cases e'
     refine⟨av,cv,rfl,h1,HLF.out,h2, ?_⟩
     have hLl:L.length=fields.length:=by rw [←hL'];simp
     rcases h3 with⟨rfl,hx⟩|⟨g,rfl,hx⟩
     ·have h0:fields=[]:=List.eq_nil_of_length_eq_zero (h1 rfl).2
      simp only [h0,AW]
     ·refine AW.mk _ fun i hi'=> ?_
      have hi2:i<fields.length:=hi'
      have hiL:i<L.length:=by omega
      have eL:L[i].t=fields[i]:=by have:=List.getElem_map FT.t (l:=L) (i:=i) (h:=by simpa using hiL);rw [←this];simp [hL']
      have hqf:=hQ' L[i] (List.getElem_mem hiL)
      rw [eL]at hqf
      refine⟨g,0,L[i].y,L[i].xd,rfl, ?_,hqf.mono (Bc hi hbs fun k o hk e hne=>far k o (by omega) e)⟩
      have hc:∀u,u<8→A8 _ g (i * 8+u)=L[i].cells[u]?:=fun u hu=>by rw [hx _ (by omega),fcells_get hiL hu]
      simp only [Nat.zero_add]
      rw [←eL]
      exact⟨hc 0 (by omega),⟨hc 1 (by omega),hc 2 (by omega),hc 3 (by omega),hc 4 (by omega),hc 5 (by omega),hc 6 (by omega)⟩,hc 7 (by omega)⟩
    ·rw [hfr' k (A0 e) (fun h=>hne (by rw [h]))];exact e
end
section
open Go.RowKit
def AtC (H:Hp)(w wb wx:World)(sc:ByteArray)(li:List B3)(ma:List Bp)(x1 x2:Value)(n1:Nat):Prop:=∃p1 p2 p3:Option Addr,
 wx.heap[w.heap.size+1+1]?=some (.cells #[.pointer p1, .pointer p2, .pointer p3] 80)∧wx.heap[w.heap.size]?=some (.cells #[.string sc,x1,x2] 28)∧wx.heap[w.heap.size+1]?=some (.cells #[.pointer none, .pointer none, .pointer none] 80)∧Bw w wx∧wb.heap.size=w.heap.size+3∧
 (if n1=0 then p1=none else Bk (A6 H wb wx) sc p1)∧(if n1≤1 then p2=none else QLi Ak (A6 H wb wx) li p2)∧(if n1≤2 then p3=none else QMa Ak (A6 H wb wx) ma p3)
theorem toAtom_of (a:Ap)(hl:∀t r,a.li=t::r→CToList t)(hm:∀t r,a.ma=t::r→CToMap t):CToAtom a:=by
 intro H x1 x2 w hi hr
 obtain⟨hsc,⟨a1,c1,rfl,hn1,hl1,hc1,hat1⟩,⟨a2,c2,rfl,hn2,hl2,hc2,hat2⟩⟩:=Bd.1 hr
 rcases a with⟨sc,li,ma⟩
 simp only at *
 have HSC:=Lib.hid hsc
 have HL:=Lib.hid hl
 have HM:=Lib.hid hm
 clear hsc hl hm hr
 unfold lim at hl1 hl2
 obtain⟨wb,hwb⟩:∃wb,wb=((w.alloc (.cells #[.string sc, .slice a1 li.length c1, .slice a2 ma.length c2] 28)).alloc (.cells #[.pointer none, .pointer none, .pointer none] 80)).alloc (.cells #[.pointer none, .pointer none, .pointer none] 80):=⟨_,rfl⟩
 have HB:Hid (wb.heap[w.heap.size+1+1]?=some (.cells #[.pointer none, .pointer none, .pointer none] 80)∧wb.heap[w.heap.size]?=some (.cells #[.string sc, .slice a1 li.length c1, .slice a2 ma.length c2] 28)∧wb.heap[w.heap.size+1]?=some (.cells #[.pointer none, .pointer none, .pointer none] 80)∧Bw w wb∧wb.heap.size=w.heap.size+3):=by
  subst hwb;exact⟨ET,b3_0,b3_1,Co,by simp⟩
 have HWB:=Lib.hid hwb.symm
 clear hwb
 go_enter Tryz.func52,Tryz.ntmps52
 go_upto_region 2 with(fail)
 rw [HWB.out]
 obtain⟨q0,f0⟩:=A1 HB.out.2.1
 go_upto_if 10 with(fail)
 clear q0 f0
 go_cut [] (fun wx=>AtC H w wb wx sc li ma (.slice a1 li.length c1) (.slice a2 ma.length c2) 1)
 case first=>
  obtain⟨q0,f0⟩:=A1 HB.out.2.1
  obtain⟨q2,f2⟩:=A1 HB.out.1
  have hlb:=A0 HB.out.1
  cases hse:sc.toList.isEmpty
  ·have hs2:(!sc.toList.isEmpty)=true:=by rw [hse];rfl
   go_wp2_with fail
   go_meet
   have hz:=HB.out.2.2.2.2
   refine⟨some ⟨wb.heap.size,0,none⟩,none,none, ?_, ?_, ?_, ?_,hz, ?_,by simp,by simp⟩
   ·rw [Ad,if_neg (by simp;omega)];simpa using Ae HB.out.1 0 (.pointer (some ⟨wb.heap.size,0,none⟩))
   ·rw [Ad,if_neg (by simp;omega),Ag _ _ _ _ _ (by omega)];exact HB.out.2.1
   ·rw [Ad,if_neg (by simp;omega),Ag _ _ _ _ _ (by omega)];exact HB.out.2.2.1
   ·exact(Bw.set HB.out.2.2.2.1 (by omega) _ _).al _
   ·rw [if_neg (by decide)]
    refine Bk.ptr hse ?_ HSC.out
    rw [Bh (Nat.le_refl _),(A1 (t:=175) (cs:= #[.string sc]) (by rw [Ad,if_pos (by simp)])).1];rfl
  ·have hs2:(!sc.toList.isEmpty)=false:=by rw [hse];rfl
   go_wp2_with fail
   go_meet
   exact⟨none,none,none,HB.out.1,HB.out.2.1,HB.out.2.2.1,HB.out.2.2.2.1,HB.out.2.2.2.2,by rw [if_neg (by decide)];exact Bk.nil hse,by simp,by simp⟩
 case rest=>
  obtain⟨p1,p2,p3,hA,hA0,hA1,hbw,hwbs,hq1,hq2,hq3⟩:=hcut
  obtain⟨q0,f0⟩:=A1 hA0
  have HA:=Lib.hid (And.intro hA (And.intro hA0 (And.intro hA1 (And.intro hwbs (And.intro hq1 (And.intro hq2 hq3))))))
  have hlb:=A0 hA
  clear hA hA0 hA1 hwbs hq1 hq2 hq3
  go_upto_if 17 with(fail)
  go_cut [] (fun wx=>AtC H w wb wx sc li ma (.slice a1 li.length c1) (.slice a2 ma.length c2) 2)
  case first=>
   rcases li with _|⟨t,r⟩
   ·go_wp2_with fail
    go_meet
    have hh:=HA.out
    exact⟨p1,p2,p3,hh.1,hh.2.1,hh.2.2.1,hbw,hh.2.2.2.1,by rw [if_neg (by decide)];have:=hh.2.2.2.2.1;rwa [if_neg (by decide)]at this,by rw [if_neg (by decide)];have:=hh.2.2.2.2.2.1;rw [if_pos (by decide)]at this;rw [this];simp only [QLi],hh.2.2.2.2.2.2⟩
   ·obtain⟨b',o',e1,d1,e2,d2,e3,d3,rfl,hv,c0,c1,c2,c3,c4,c5,c6,c7⟩:=hat1.look0 (hi.below hbw)
    have hpos:0<(t::r).length:=Nat.succ_pos _
    have HC:=Lib.hid (fun w0 h0=>HL.out t r rfl H _ _ _ w0 h0 hv)
    clear hv
    go_wp2_with fail
    refine(HC.out _ (hi.below hbw)).mono ?_
    rintro e w1 ⟨hb1,y,ak,ck,rfl,hq,hk,hrl⟩
    have HJ:=Lib.hid (And.intro hb1 (And.intro hq (And.intro hk hrl)))
    clear hq hk hrl q0 f0 c0 c1 c2 c3 c4 c5 c6 c7 HC
    obtain⟨q2,f2⟩:=A1 (A2 hb1 HA.out.1)
    have hlb1:=A0 (A2 hb1 HA.out.1)
    clear hb1
    go_wp2_with fail
    go_meet
    have hh:=HA.out
    have hj:=HJ.out
    have hz:=hh.2.2.2.1
    have hbs:=hbw.size
    have hb1s:=hj.1.size
    have far:∀k o,w.heap.size+3≤k→w1.heap[k]?=some o→((w1.setCell ⟨w.heap.size+1+1,1,none⟩ (.pointer (some ⟨w1.heap.size,0,none⟩))).alloc (.cells #[.pointer y.y0, .pointer y.y1, .pointer y.y2, .pointer y.y3, .pointer y.y4, .bool false, .string t.rel, .slice ak t.keys.length ck] 177)).heap[k]?=some o:=by
     intro k o hk e
     refine A3 ?_
     rw [Ag _ _ _ _ _ (by omega)];exact e
    have hm:∀Hx,Hle (A6 Hx wb wc) (A6 Hx wb ((w1.setCell ⟨w.heap.size+1+1,1,none⟩ (.pointer (some ⟨w1.heap.size,0,none⟩))).alloc (.cells #[.pointer y.y0, .pointer y.y1, .pointer y.y2, .pointer y.y3, .pointer y.y4, .bool false, .string t.rel, .slice ak t.keys.length ck] 177))):=by
     intro Hx k o e
     unfold A6 at e⊢
     by_cases hk:k<wb.heap.size
     ·rw [if_pos hk]at e⊢;exact e
     ·rw [if_neg hk]at e⊢;exact far k o (by omega) (A2 hj.1 e)
    have hg:Hle (A6 H wc w1) (A6 H wb ((w1.setCell ⟨w.heap.size+1+1,1,none⟩ (.pointer (some ⟨w1.heap.size,0,none⟩))).alloc (.cells #[.pointer y.y0, .pointer y.y1, .pointer y.y2, .pointer y.y3, .pointer y.y4, .bool false, .string t.rel, .slice ak t.keys.length ck] 177))):=
     Ba (hi.below HB.out.2.2.2.1) (by have:=A0 hh.1;omega) fun k o hk e=>far k o (by have:=A0 hh.1;omega) e
    have hnew:=(A1 (A4 (w:=w1.setCell ⟨w.heap.size+1+1,1,none⟩ (.pointer (some ⟨w1.heap.size,0,none⟩))) (o:= .cells #[.pointer y.y0, .pointer y.y1, .pointer y.y2, .pointer y.y3, .pointer y.y4, .bool false, .string t.rel, .slice ak t.keys.length ck] 177))).1
    refine⟨p1,some ⟨w1.heap.size,0,none⟩,none, ?_, ?_, ?_, ?_,hz, ?_, ?_,by simp⟩
    ·refine A3 ?_
     have e3:=hh.2.2.2.2.2.2;rw [if_pos (by decide)]at e3
     have:=Ae (A2 hj.1 hh.1) 1 (.pointer (some ⟨w1.heap.size,0,none⟩))
     simpa [e3]using this
    ·exact A3 (by rw [Ag _ _ _ _ _ (by omega)];exact A2 hj.1 hh.2.1)
    ·exact A3 (by rw [Ag _ _ _ _ _ (by omega)];exact A2 hj.1 hh.2.2.1)
    ·exact(Bw.set (hbw.tr hj.1) (by omega) _ _).al _
    ·rw [if_neg (by decide)];have:=hh.2.2.2.2.1;rw [if_neg (by decide)]at this;exact this.mono (hm H)
    ·rw [if_neg (by decide)]
     rcases t with⟨elem,rel,keys⟩
     simp only [QLi]
     have hnew':∀i,A8 (A6 H wb ((w1.setCell ⟨w.heap.size+1+1,1,none⟩ (.pointer (some ⟨w1.heap.size,0,none⟩))).alloc (.cells #[.pointer y.y0, .pointer y.y1, .pointer y.y2, .pointer y.y3, .pointer y.y4, .bool false, .string rel, .slice ak keys.length ck] 177))) w1.heap.size i=(#[.pointer y.y0, .pointer y.y1, .pointer y.y2, .pointer y.y3, .pointer y.y4, .bool false, .string rel, .slice ak keys.length ck]:Array Value)[i]?:=by
      intro i
      rw [Bh (by omega)]
      simpa using hnew i
     exact⟨_,y,_,rfl,⟨hnew' 0,hnew' 1,hnew' 2,hnew' 3,hnew' 4,hnew' 5⟩,hnew' 6,hnew' 7,hj.2.2.2,hj.2.2.1.mono hg,hj.2.1.mono hg⟩
  case rest=>
   obtain⟨p1,p2,p3,hA,hA0,hA1,hbw,hwbs,hq1,hq2,hq3⟩:=hcut
   obtain⟨q0,f0⟩:=A1 hA0
   have HA:=Lib.hid (And.intro hA (And.intro hA0 (And.intro hA1 (And.intro hwbs (And.intro hq1 (And.intro hq2 hq3))))))
   have hlb:=A0 hA
   clear hA hA0 hA1 hwbs hq1 hq2 hq3
   go_upto_if 27 with(fail)
   go_cut [] (fun wx=>AtC H w wb wx sc li ma (.slice a1 li.length c1) (.slice a2 ma.length c2) 3)
   case first=>
    rcases ma with _|⟨t,r⟩
    ·go_wp2_with fail
     go_meet
     have hh:=HA.out
     exact⟨p1,p2,p3,hh.1,hh.2.1,hh.2.2.1,hbw,hh.2.2.2.1,by rw [if_neg (by decide)];have:=hh.2.2.2.2.1;rwa [if_neg (by decide)]at this,by rw [if_neg (by decide)];have:=hh.2.2.2.2.2.1;rwa [if_neg (by decide)]at this,by rw [if_neg (by decide)];have:=hh.2.2.2.2.2.2;rw [if_pos (by decide)]at this;rw [this];simp only [QMa]⟩
    ·obtain⟨b',o',e3,d3,e1,d1,e2,d2,rfl,hv,c0,c1,c2,c3,c4,c5,c6,c7⟩:=hat2.look0 (hi.below hbw)
     have hpos:0<(t::r).length:=Nat.succ_pos _
     have HC:=Lib.hid (fun w0 h0=>HM.out t r rfl H _ _ _ w0 h0 hv)
     clear hv
     go_wp2_with fail
     refine(HC.out _ (hi.below hbw)).mono ?_
     rintro e w1 ⟨hb1,y,ak,ck,rfl,hk,hq,hrl⟩
     have HJ:=Lib.hid (And.intro hb1 (And.intro hq (And.intro hk hrl)))
     clear hq hk hrl q0 f0 c0 c1 c2 c3 c4 c5 c6 c7 HC
     obtain⟨q2,f2⟩:=A1 (A2 hb1 HA.out.1)
     have hlb1:=A0 (A2 hb1 HA.out.1)
     clear hb1
     go_wp2_with fail
     go_meet
     have hh:=HA.out
     have hj:=HJ.out
     have hz:=hh.2.2.2.1
     have hbs:=hbw.size
     have hb1s:=hj.1.size
     have far:∀k o,w.heap.size+3≤k→w1.heap[k]?=some o→((w1.setCell ⟨w.heap.size+1+1,2,none⟩ (.pointer (some ⟨w1.heap.size,0,none⟩))).alloc (.cells #[.slice ak t.fields.length ck, .slice none 0 0, .pointer y.y0, .pointer y.y1, .pointer y.y2, .pointer y.y3, .pointer y.y4, .bool false, .string t.rel] 182)).heap[k]?=some o:=by
      intro k o hk e
      refine A3 ?_
      rw [Ag _ _ _ _ _ (by omega)];exact e
     have hm:∀Hx,Hle (A6 Hx wb wc) (A6 Hx wb ((w1.setCell ⟨w.heap.size+1+1,2,none⟩ (.pointer (some ⟨w1.heap.size,0,none⟩))).alloc (.cells #[.slice ak t.fields.length ck, .slice none 0 0, .pointer y.y0, .pointer y.y1, .pointer y.y2, .pointer y.y3, .pointer y.y4, .bool false, .string t.rel] 182))):=by
      intro Hx k o e
      unfold A6 at e⊢
      by_cases hk:k<wb.heap.size
      ·rw [if_pos hk]at e⊢;exact e
      ·rw [if_neg hk]at e⊢;exact far k o (by omega) (A2 hj.1 e)
     have hg:Hle (A6 H wc w1) (A6 H wb ((w1.setCell ⟨w.heap.size+1+1,2,none⟩ (.pointer (some ⟨w1.heap.size,0,none⟩))).alloc (.cells #[.slice ak t.fields.length ck, .slice none 0 0, .pointer y.y0, .pointer y.y1, .pointer y.y2, .pointer y.y3, .pointer y.y4, .bool false, .string t.rel] 182))):=
      Ba (hi.below HB.out.2.2.2.1) (by have:=A0 hh.1;omega) fun k o hk e=>far k o (by have:=A0 hh.1;omega) e
     have hnew:=(A1 (A4 (w:=w1.setCell ⟨w.heap.size+1+1,2,none⟩ (.pointer (some ⟨w1.heap.size,0,none⟩))) (o:= .cells #[.slice ak t.fields.length ck, .slice none 0 0, .pointer y.y0, .pointer y.y1, .pointer y.y2, .pointer y.y3, .pointer y.y4, .bool false, .string t.rel] 182))).1
     refine⟨p1,p2,some ⟨w1.heap.size,0,none⟩, ?_, ?_, ?_, ?_,hz, ?_, ?_, ?_⟩
     ·refine A3 ?_
      have e3:=hh.2.2.2.2.2.2;rw [if_pos (by decide)]at e3
      have:=Ae (A2 hj.1 hh.1) 2 (.pointer (some ⟨w1.heap.size,0,none⟩))
      simpa [e3]using this
     ·exact A3 (by rw [Ag _ _ _ _ _ (by omega)];exact A2 hj.1 hh.2.1)
     ·exact A3 (by rw [Ag _ _ _ _ _ (by omega)];exact A2 hj.1 hh.2.2.1)
     ·exact(Bw.set (hbw.tr hj.1) (by omega) _ _).al _
     ·rw [if_neg (by decide)];have:=hh.2.2.2.2.1;rw [if_neg (by decide)]at this;exact this.mono (hm H)
     ·rw [if_neg (by decide)];have:=hh.2.2.2.2.2.1;rw [if_neg (by decide)]at this;exact this.mono (hm H)
     ·rw [if_neg (by decide)]
      rcases t with⟨fields,elem,rel⟩
      simp only [QMa]
      have hnew':∀i,A8 (A6 H wb ((w1.setCell ⟨w.heap.size+1+1,2,none⟩ (.pointer (some ⟨w1.heap.size,0,none⟩))).alloc (.cells #[.slice ak fields.length ck, .slice none 0 0, .pointer y.y0, .pointer y.y1, .pointer y.y2, .pointer y.y3, .pointer y.y4, .bool false, .string rel] 182))) w1.heap.size i=(#[.slice ak fields.length ck, .slice none 0 0, .pointer y.y0, .pointer y.y1, .pointer y.y2, .pointer y.y3, .pointer y.y4, .bool false, .string rel]:Array Value)[i]?:=by
       intro i
       rw [Bh (by omega)]
       simpa using hnew i
      exact⟨_,_,y,rfl,hnew' 0,hnew' 1,⟨hnew' 2,hnew' 3,hnew' 4,hnew' 5,hnew' 6,hnew' 7⟩,hnew' 8,hj.2.2.2,hj.2.2.1.mono fun _ g=>AW.mono hg g,hj.2.1.mono hg⟩
   case rest=>
    obtain⟨p1,p2,p3,hA,hA0,hA1,hbw,hwbs,hq1,hq2,hq3⟩:=hcut
    obtain⟨q1,f1⟩:=A1 hA1
    obtain⟨q2,f2⟩:=A1 hA
    have HA:=Lib.hid (And.intro hA (And.intro hA0 (And.intro hA1 (And.intro hwbs (And.intro hq1 (And.intro hq2 hq3))))))
    have hlb:=A0 hA
    clear hA hA0 hA1 hwbs hq1 hq2 hq3
    go_wp2_with fail
    refine bodyPost_ret (v:= .agg #[.pointer p1, .pointer p2, .pointer p3]) (by simp [results,Tryz.results52,go_sem,q1]) rfl ?_
    have hh:=HA.out
    have hz:=hh.2.2.2.1
    have hg:Hle (A6 H wb wc) (A6 H w (((wc.setCell ⟨w.heap.size+1,0,none⟩ (.pointer p1)).setCell ⟨w.heap.size+1,1,none⟩ (.pointer p2)).setCell ⟨w.heap.size+1,2,none⟩ (.pointer p3))):=by
     refine Ba hi (by omega) fun k o hk e=> ?_
     repeat rw [Ag _ _ _ _ _ (show ¬k=w.heap.size+1 by omega)]
     exact e
    refine⟨by repeat with_reducible (first|exact hbw|refine Bw.set ?_ (by omega) _ _),p1,p2,p3,rfl,Ej.2 ⟨?_, ?_, ?_⟩⟩
    ·have:=hh.2.2.2.2.1;rw [if_neg (by decide)]at this;exact this.mono hg
    ·have:=hh.2.2.2.2.2.1;rw [if_neg (by decide)]at this;exact this.mono hg
    ·have:=hh.2.2.2.2.2.2;rw [if_neg (by decide)]at this;exact this.mono hg
theorem toAtom_c:∀(z:Nat) (a:Ap),a.sz≤z→CToAtom a
 |0,a,h=>by have:=a.sz_eq;omega
 |z+1,a,h=>by
  have hs:=a.sz_eq
  refine toAtom_of a (fun t r e=> ?_) (fun t r e=> ?_)
  ·rw [e]at hs
   simp only [szLs]at hs
   have:=t.sz_eq;have:=t.elem.sz_eq
   exact toList_of t (toRef_of _ (toAtom_c z _ (by omega)))
  ·rw [e]at hs
   simp only [szMs]at hs
   have:=t.sz_eq;have:=t.elem.sz_eq
   refine toMap_of t (toRef_of _ (toAtom_c z _ (by omega))) fun j hj=> ?_
   have h1:=F0 hj;have h2:=t.fields[j].sz_eq;have h3:=t.fields[j].type.sz_eq
   exact toField_of _ (toRef_of _ (toAtom_c z _ (by omega)))
theorem toRef_c (r:As):CToRef r:=toRef_of r (toAtom_c _ _ (Nat.le_refl _))
end
section
open Go.RowKit
structure TD where
 t:Ax
 p1:Option Addr
 p2:Option Addr
 p3:Option Addr
def TD.cells (f:TD):List Value:=[.string f.t.name, .pointer f.p1, .pointer f.p2, .pointer f.p3]
def EO (l:List TD):List Value:=l.flatMap TD.cells
theorem tcells_get:∀{l:List TD} {j:Nat} (hj:j<l.length) {i:Nat} (hi:i<4),(EO l)[j * 4+i]?=l[j].cells[i]?
 |t::r,0,_,i,hi=>by
  simp only [EO,List.flatMap_cons,Nat.zero_mul,Nat.zero_add,List.getElem_cons_zero]
  rw [List.getElem?_append_left (by simp [TD.cells];omega)]
 |t::r,j+1,hj,i,hi=>by
  have:=tcells_get (l:=r) (j:=j) (by simpa using hj) hi
  simp only [EO,List.flatMap_cons,List.getElem_cons_succ]at this⊢
  rw [List.getElem?_append_right (by simp [TD.cells];omega)]
  have e:(j+1) * 4+i - t.cells.length=j * 4+i:=by simp [TD.cells];omega
  rw [e];exact this
theorem tcells_snoc (l:List TD)(t:TD):EO (l++[t])=EO l++t.cells:=by simp [EO]
def PS (H:Hp)(w wx wr:World)(b:Nat)(fs:List Ax)(v:Value)(j:Nat):Prop:=∃L:List TD,wr.heap[b]?=some (.cells #[v] 118)∧
 wr.ownsRow wx.heap.size 121 4 v j (EO L)∧L.map TD.t=fs.take j∧(∀t ∈ L,t.t.name.size≤lim∧AI Ak (AX H wx wr v.ownBlock) t.t.atom t.p1 t.p2 t.p3)∧Bw w wr∧wx.heap.size≤wr.heap.size∧∀k,k<wx.heap.size→k≠b→wr.heap[k]?=wx.heap[k]?
theorem PS.step {H:Hp}{w wx wr wd w1 w2:World}{b:Nat}{fs:List Ax}{v v2:Value}{j:Nat}{L:List TD}{f:TD}{O:Obj}
  (hi:Imm H wx) (hbl:w.heap.size≤b) (hbx:b<wx.heap.size)
  (hb:wr.heap[b]?=some (.cells #[v] 118))
  (ho:wr.ownsRow wx.heap.size 121 4 v j (EO L)) (hL:L.map TD.t=fs.take j) (hQ:∀t ∈ L,t.t.name.size≤lim∧AI Ak (AX H wx wr v.ownBlock) t.t.atom t.p1 t.p2 t.p3) (hbr:Bw w wr) (hsr:wx.heap.size≤wr.heap.size) (hfr:∀k,k<wx.heap.size→k≠b→wr.heap[k]?=wx.heap[k]?)
  (hd:Bw wr wd) (hb1:Bw wd w1) (hj:j<fs.length) (hft:f.t=fs[j]) (hq:f.t.name.size≤lim∧AI Ak (A6 H wd w1) f.t.atom f.p1 f.p2 f.p3)
  (ho2:w2.ownsRow wx.heap.size 121 4 v2 (j+1) (EO L++f.cells)) (hg:(w1.alloc O).grownBy w2 v.ownBlock) (hv:v2.ownBlock=v.ownBlock∨v2.ownBlock=some (w1.alloc O).heap.size):
  PS H w wx (w2.setCell ⟨b,0,none⟩ v2) b fs v2 (j+1):=by
 have hr1:Bw wr w1:=hd.tr hb1
 have hs1:=hr1.size
 have hsd:=hd.size
 have hsd1:=hb1.size
 have hsg:=hg.size
 simp at hsg
 have own:∀k,v.ownBlock=some k→wx.heap.size≤k∧k<wr.heap.size:=fun k hk=>ho.lt k hk
 have keep:∀k,k<w1.heap.size→v.ownBlock≠some k→k≠b→(w2.setCell ⟨b,0,none⟩ v2).heap[k]?=w1.heap[k]?:=by
  intro k hk hne hkb
  rw [Ag _ _ _ _ _ hkb,hg.block k (by simp;omega) (fun e=>hne e.symm),Ad,if_neg (by omega)]
 have hv2:∀k,k<w1.heap.size→v.ownBlock≠some k→v2.ownBlock≠some k:=by
  intro k hk hne
  rcases hv with e|e
  ·rw [e];exact hne
  ·rw [e];intro h;cases h;simp at hk;omega
 have hnb:v.ownBlock≠some b:=fun e=>by have:=(own b e).1;omega
 refine⟨L++[f], ?_, ?_, ?_, ?_, ?_, ?_, ?_⟩
 ·have h1:w2.heap[b]?=wr.heap[b]?:=by
   rw [hg.block b (by simp;omega) (fun e=>hnb e.symm),Ad,if_neg (by omega),hr1.block b (by omega)]
  have:=Ae (h1.trans hb) 0 v2
  simpa using this
 ·rw [tcells_snoc];exact Bj ho2 hbx
 ·rw [List.map_append,hL,List.take_succ_eq_append_getElem hj];simp [hft]
 ·intro t ht
  rcases List.mem_append.1 ht with ht|ht
  ·refine⟨(hQ t ht).1,(hQ t ht).2.mono (BE fun k o hk e hne=> ?_)⟩
   have hkl:=A0 e
   refine⟨hv2 k (by omega) hne, ?_⟩
   rw [keep k (by omega) hne (by omega),hr1.block k hkl];exact e
  ·simp at ht;subst ht
   refine⟨hq.1,hq.2.mono (B7 hi (by omega) fun k o hk e=> ?_)⟩
   have hkl:=A0 e
   have hne:v.ownBlock≠some k:=fun h=>by have:=(own k h).2;omega
   exact⟨hv2 k hkl hne,by rw [keep k hkl hne (by omega)];exact e⟩
 ·refine Bw.set (Bi ((hbr.tr hr1).al O) hg fun k hk=> ?_) hbl _ _
  have:=(own k hk).1;omega
 ·simp;omega
 ·intro k hk hkb
  have hne:v.ownBlock≠some k:=fun h=>by have:=(own k h).1;omega
  rw [keep k (by omega) hne hkb,hr1.block k (by omega)];exact hfr k hk hkb
theorem info_td:(Tryz.prog.info? 121).map (fun i=>(i.zero,i.size,i.bytes))=some (some (.agg #[.string {data:= #[]}, .pointer none, .pointer none, .pointer none]),4,40):=by kernel_rfl
theorem und_tds:Tryz.prog.underlying 116=some (.slice 121):=by kernel_rfl
def RetQS (H:Hp)(w:World)(s:List Ax):Ending→World→Prop:=fun e w'=>Bw w w'∧∃X,e= .returned X∧AO Ak (A6 H w w') s X
theorem toSchema_c (s:List Ax)(H:Hp)(x:Value)(w:World)(hi:Imm H w)(hs:DH H s x):Calls Tryz.prog 29 #[E1 x] w (RetQS H w s):=by
 obtain⟨ax,cs,rfl,hns,hls,hcs,hats⟩:=hs
 have HLS:=Lib.hid hls
 unfold lim at hls
 obtain⟨wb,hwb⟩:∃wb,wb=(w.alloc (.cells #[.slice ax s.length cs] 24)).alloc (.cells #[.slice none 0 0] 118):=⟨_,rfl⟩
 have HB:Hid (wb.heap[w.heap.size]?=some (.cells #[.slice ax s.length cs] 24)∧wb.heap[w.heap.size+1]?=some (.cells #[.slice none 0 0] 118)∧Bw w wb∧wb.heap.size=w.heap.size+2):=by
  subst hwb;exact⟨Cs,BF,Am,by simp⟩
 have HWB:=Lib.hid hwb.symm
 clear hwb
 go_enter Tryz.func29,Tryz.ntmps29
 go_wp2_with fail
 rw [HWB.out]
 go_loopw [11] (fun i wr=>∃(j:Nat) (v:Value),j≤s.length∧i= .int .i64 j∧PS H w wb wr (w.heap.size+1) s v j) (fun i _=>s.length - (intOf i).toNat)
 case atStart=>exact⟨0, .slice none 0 0,by omega,rfl,[],HB.out.2.1,World.ownsRow_nil _ _ _ _,by simp,by simp,HB.out.2.2.1,Nat.le_refl _,fun _ _ _=>rfl⟩
 case round=>
  rename_i wr
  obtain⟨j,v,hj,rfl,L,hb,ho,hL,hQ,hbr,hsr,hfr⟩:=hrel
  obtain⟨av,cv,rfl⟩:=Aj ho
  obtain⟨q2,f2⟩:=A1 hb
  have HP:=Lib.hid (And.intro hb (And.intro ho (And.intro hL (And.intro hQ (And.intro hbr hfr)))))
  have hiw:=hi.below hbr
  have hlb2:w.heap.size+1<wr.heap.size:=A0 hb
  have hlb:w.heap.size+1<wb.heap.size:=A0 HB.out.2.1
  clear hb ho hL hQ hfr
  by_cases hjs:j<s.length
  ·obtain⟨b',o',e1,d1,e2,d2,rfl,hv,hnm,c0,c1,c2,c3⟩:=hats.look hiw hjs
   have HNM:=Lib.hid hnm
   have HCF:=Lib.hid (fun w0 h0=>toAtom_c _ s[j].atom (Nat.le_refl _) H _ _ w0 h0 hv)
   clear hv hnm
   go_upto_region 5 with(fail)
   obtain⟨wa,hwa⟩:∃wa,wa=wr.alloc (.cells #[.string s[j].name, .string s[j].atom.sc, .slice e1 s[j].atom.li.length d1, .slice e2 s[j].atom.ma.length d2] 72):=⟨_,rfl⟩
   obtain⟨wd,hwd⟩:∃wd,wd=wa.drew:=⟨_,rfl⟩
   have HA:Hid (Bw wr wa∧wa.heap.size=wr.heap.size+1):=by subst hwa;exact⟨A5,by simp⟩
   have hbx:=A4 (w:=wr) (o:= .cells #[.string s[j].name, .string s[j].atom.sc, .slice e1 s[j].atom.li.length d1, .slice e2 s[j].atom.ma.length d2] 72)
   rw [←hwa]at hbx⊢
   clear hwa
   obtain⟨q,fq⟩:=A1 hbx
   have HD:Hid (Bw wr wd∧wd.heap.size=wr.heap.size+1∧wd.heap[wr.heap.size]?=wa.heap[wr.heap.size]?):=by rw [hwd];exact⟨HA.out.1.dr,HA.out.2,rfl⟩
   obtain⟨q2a,f2a⟩:=A1 (A2 HA.out.1 HP.out.1)
   have HWD:=Lib.hid hwd.symm
   have HBX:=Lib.hid hbx
   clear hwd hbx q2 f2 c0 c1 c2 c3
   have hnb:¬w.heap.size+1=wr.heap.size:=by omega
   have hnb2:¬wr.heap.size=w.heap.size+1:=by omega
   go_region_law
    (first
     |(refine AH _ (by rfl) _ _ 116 (by rfl) wb.heap.size 121 _ 4 40 und_tds info_td (by rfl) (by decide) (by decide) (.slice av j cv) j (EO L) (by rfl) (Cq HP.out.2.1 ((HD.out.1.tr hb1).al _)) w1.heap.size _ _ (by rfl) A4 (by rfl) (by simp [Value.oneCell']) (by unfold lim;omega) (by have:=hb1.size;have:=HD.out.2.1;simp;omega) ?_;intro v' w2 ho2 hg2 hwh2;obtain⟨av2,cv2,rfl⟩:=Aj ho2;have hbz:=(hg2.block (w.heap.size+1) (by have:=hb1.size;have:=HD.out.2.1;simp;omega) (fun e=>by have:=(HP.out.2.1.lt _ e.symm).1;omega)).trans (A3 (A2 hb1 (A2 HD.out.1 HP.out.1)));obtain⟨q2z,f2z⟩:=A1 hbz)
     |(go_simp;(try rw [HWD.out]);refine(HCF.out _ (hiw.below HD.out.1)).mono ?_;rintro e w1 ⟨hb1,p1,p2,p3,rfl,hqf⟩;obtain⟨q2w,f2w⟩:=A1 (A2 hb1 (A2 HD.out.1 HP.out.1));have hbw1:w.heap.size+1<w1.heap.size:=A0 (A2 hb1 (A2 HD.out.1 HP.out.1));obtain⟨q2v,f2v⟩:=A1 (A2 hb1 (HD.out.2.2.trans HBX.out));have hbw2:wr.heap.size<w1.heap.size:=A0 (A2 hb1 (HD.out.2.2.trans HBX.out))))
   all_goals
    go_wp2_with fail
    go_roundw
    case rel=>exact⟨j+1,_,by omega,by go_num,PS.step (f:=⟨s[j],p1,p2,p3⟩) (hi.below HB.out.2.2.1) (by omega) hlb HP.out.1 HP.out.2.1 HP.out.2.2.1 HP.out.2.2.2.1 hbr hsr HP.out.2.2.2.2.2 HD.out.1 hb1 hjs rfl ⟨HNM.out,hqf⟩ (by simpa [TD.cells]using ho2) hg2 hwh2⟩
    case measure=>simp [intOf];omega
  ·go_wp2_with fail
   have:j=s.length:=by omega
   subst this
   go_ret
   obtain⟨hb',ho',hL',hQ',hbr',hfr'⟩:=HP.out
   rw [List.take_of_length_le (Nat.le_refl _)]at hL'
   have hz:=HB.out.2.2.2
   have hLl:L.length=s.length:=by rw [←hL'];simp
   refine⟨hbr',_,rfl,w.heap.size+1,_,rfl,by rw [Bh (by omega)];exact(A1 hb').1 0, ?_⟩
   obtain⟨a',c',e',h1,h2,h3⟩:=own_form (H:=A6 H w wr) ho' (by
    intro g hg
    have hgl:=ho'.lt g hg
    unfold A6;rw [if_neg (by omega)])
   cases e'
   refine⟨av,cv,rfl,h1,HLS.out,h2, ?_⟩
   intro i hi'
   rcases h3 with⟨rfl,hx⟩|⟨g,rfl,hx⟩
   ·have:=(h1 rfl).2;omega
   ·have hiL:i<L.length:=by omega
    have eL:L[i].t=s[i]:=by have:=List.getElem_map TD.t (l:=L) (i:=i) (h:=by simpa using hiL);rw [←this];simp [hL']
    have hqf:=hQ' L[i] (List.getElem_mem hiL)
    rw [eL]at hqf
    refine⟨g,0,L[i].p1,L[i].p2,L[i].p3,rfl, ?_,hqf.1,hqf.2.mono (Bc hi (by omega) fun k o hk e hne=>e)⟩
    have hc:∀u,u<4→A8 _ g (i * 4+u)=L[i].cells[u]?:=fun u hu=>by rw [hx _ (by omega),tcells_get hiL hu]
    simp only [Nat.zero_add]
    rw [←eL]
    exact⟨hc 0 (by omega),hc 1 (by omega),hc 2 (by omega),hc 3 (by omega)⟩
end
section
open Go.RowKit
def DW (s:List Ax)(name:ByteArray):Nat→Option Ax
 |0=>none
 |j+1=>match s[j]? with
  |some d=>if d.name.toList==name.toList then some d else DW s name j
  |none=>none
def Dy (s:List Au)(name:ByteArray):Nat→Option Au
 |0=>none
 |j+1=>match s[j]? with
  |some d=>if d.name.toList==name.toList then some d else Dy s name j
  |none=>none
theorem E7.look {H:Hp}{w:World}(hi:Imm H w){b o:Nat}{y:Six}(h:E7 H b o y):
  w.cell? ⟨b,o,none⟩=some (.pointer y.y0)∧w.cell? ⟨b,o+1,none⟩=some (.pointer y.y1)∧w.cell? ⟨b,o+2,none⟩=some (.pointer y.y2)∧w.cell? ⟨b,o+3,none⟩=some (.pointer y.y3)∧w.cell? ⟨b,o+4,none⟩=some (.pointer y.y4)∧w.cell? ⟨b,o+5,none⟩=some (.bool false):=
 ⟨hi.cell h.1,hi.cell h.2.1,hi.cell h.2.2.1,hi.cell h.2.2.2.1,hi.cell h.2.2.2.2.1,hi.cell h.2.2.2.2.2⟩
def RetTD (H:Hp)(w:World)(o:Option Ax):Ending→World→Prop:=fun e w'=>Bw w w'∧match o with
 |some d=>∃p1 p2 p3,e= .returned (.tuple #[.agg #[.string d.name, .pointer p1, .pointer p2, .pointer p3], .bool true])∧AI Ak H d.atom p1 p2 p3
 |none=>e= .returned (.tuple #[.agg #[.string {data:= #[]}, .pointer none, .pointer none, .pointer none], .bool false])
theorem RetTD.yes {H:Hp}{w w1:World}{o:Option Ax}{d:Ax}{p1 p2 p3:Option Addr}(ho:Hid (o=some d))(hb:Bw w w1)(hv:AI Ak H d.atom p1 p2 p3):
  RetTD H w o (.returned (.tuple #[.agg #[.string d.name, .pointer p1, .pointer p2, .pointer p3], .bool true])) w1:=by
 unfold RetTD;rw [ho.out];exact⟨hb,_,_,_,rfl,hv⟩
theorem RetTD.no {H:Hp}{w w1:World}{o:Option Ax}(ho:Hid (o=none))(hb:Bw w w1):
  RetTD H w o (.returned (.tuple #[.agg #[.string {data:= #[]}, .pointer none, .pointer none, .pointer none], .bool false])) w1:=by
 unfold RetTD;rw [ho.out];exact⟨hb,rfl⟩
theorem sl_drop {P:Option Addr→Prop}{n:Nat}{x:Value}(h:Sl P n x):∃a c,x= .slice a n c∧(a=none→c=0∧n=0)∧n≤lim∧n≤c∧P a:=h
theorem findNamed_c (H:Hp)(s:List Ax)(name:ByteArray)(X:Value)(w:World)(hi:Imm H w)(hs:AO Ak H s X):
  Calls Tryz.prog 144 #[X, .string name] w (RetTD H w (DW s name s.length)):=by
 obtain⟨bs,x,rfl,hcs,a,c,rfl,hnil,hl,hlc,hat⟩:=hs
 have HCS:=Lib.hid hcs
 have HAT:=Lib.hid hat
 have k0:=hi.cell hcs
 have hlb:=Ah k0
 clear hcs hat
 unfold lim at hl
 go_enter Tryz.func144,Tryz.ntmps144
 simp only at hlb
 go_wp2_with fail
 clear k0
 go_loopw [6] (fun i wr=>∃j:Nat,j≤s.length∧i= .int .i64 ((j:Int) - 1)∧Hid (DW s name s.length=DW s name j)∧Bw w wr∧wr.heap[w.heap.size]?=some (.cells #[.string {data:= #[]}, .pointer none, .pointer none, .pointer none] 121))
  (fun i _=>(intOf i+1).toNat)
 case atStart=>exact⟨s.length,Nat.le_refl _,rfl,by simp [Hid],A5,A4⟩
 case round=>
  rename_i wr
  obtain⟨j,hj,rfl,hd,hb,hbox⟩:=hrel
  have hiw:=hi.below hb
  obtain⟨q,f⟩:=A1 hbox
  have k0:=hiw.cell HCS.out
  have hlr:=A0 hbox
  have hbs:=hb.size
  rcases j with _|j
  ·go_wp2_with fail
   have hres:Hid (DW s name s.length=none):=by unfold Hid;rw [hd.out];simp [DW]
   refine bodyPost_ret (v:= .tuple #[.agg #[.string {data:= #[]}, .pointer none, .pointer none, .pointer none], .bool false]) (by simp [results,Tryz.results144,go_sem,q]) rfl ?_
   exact RetTD.no hres (by repeat with_reducible (first|exact hb|refine Bw.set ?_ (by omega) _ _))
  ·have e1:(((j+1:Nat):Int) - 1)=(j:Int):=by omega
   rw [e1]
   have hjs:j<s.length:=by omega
   obtain⟨b,o,p1,p2,p3,rfl,⟨c0,c1,c2,c3⟩,hn,hq⟩:=HAT.out j hjs
   have i0:=hiw.cell c0;have i1:=hiw.cell c1;have i2:=hiw.cell c2;have i3:=hiw.cell c3
   have HQ:=Lib.hid hq
   have hnn:s[j]?=some s[j]:=List.getElem?_eq_getElem hjs
   have HN:=Lib.hid hnn
   clear c0 c1 c2 c3 hq hn hnn e1
   cases hq:(s[j].name.toList==name.toList)
   all_goals
    have HE:=Lib.hid hq
    go_wp2_with fail
   ·go_roundw
    case rel=>exact⟨j,by omega,by go_num,by unfold Hid;rw [hd.out];simp [DW,HN.out,HE.out],hb,hbox⟩
    case measure=>simp [intOf]
   ·have hres:Hid (DW s name s.length=some s[j]):=by unfold Hid;rw [hd.out];simp [DW,HN.out,HE.out]
    refine bodyPost_ret (v:= .tuple #[.agg #[.string s[j].name, .pointer p1, .pointer p2, .pointer p3], .bool true]) (by simp [results,Tryz.results144,go_sem,q]) rfl ?_
    exact RetTD.yes hres (by repeat with_reducible (first|exact hb|refine Bw.set ?_ (by omega) _ _)) HQ.out
def RetFF (H:Hp)(w:World)(o:Option Au):Ending→World→Prop:=fun e w'=>Bw w w'∧match o with
 |some t=>∃y xd,e= .returned (.tuple #[.agg #[.string t.name, .pointer y.y0, .pointer y.y1, .pointer y.y2, .pointer y.y3, .pointer y.y4, .bool false,xd], .bool true])∧E' Ak H t y xd
 |none=>e= .returned (.tuple #[.agg #[.string {data:= #[]}, .pointer none, .pointer none, .pointer none, .pointer none, .pointer none, .bool false, .nilIface], .bool false])
theorem RetFF.yes {H:Hp}{w w1:World}{o:Option Au}{t:Au}{y:Six}{xd:Value}(ho:Hid (o=some t))(hb:Bw w w1)(hv:E' Ak H t y xd):
  RetFF H w o (.returned (.tuple #[.agg #[.string t.name, .pointer y.y0, .pointer y.y1, .pointer y.y2, .pointer y.y3, .pointer y.y4, .bool false,xd], .bool true])) w1:=by
 unfold RetFF;rw [ho.out];exact⟨hb,_,_,rfl,hv⟩
theorem RetFF.no {H:Hp}{w w1:World}{o:Option Au}(ho:Hid (o=none))(hb:Bw w w1):
  RetFF H w o (.returned (.tuple #[.agg #[.string {data:= #[]}, .pointer none, .pointer none, .pointer none, .pointer none, .pointer none, .bool false, .nilIface], .bool false])) w1:=by
 unfold RetFF;rw [ho.out];exact⟨hb,rfl⟩
theorem QDflt.isAny {H:Hp}{l:List GV}{x:Value}(h:QDflt H l x Ak):IsAny x:=by
 cases l with
 |nil=>exact .inl h
 |cons d r=>exact RJ.isAny h
theorem findField_c (H:Hp)(s:List Au)(name:ByteArray)(bs:Nat)(x:Value)(w:World)(hi:Imm H w)(hcs:A8 H bs 0=some x)(hs:Sl (fun a=>AW Ak H a 0 s) s.length x):
  Calls Tryz.prog 232 #[.pointer (some ⟨bs,0,none⟩), .string name] w (RetFF H w (Dy s name s.length)):=by
 obtain⟨a,c,rfl,hnil,hl,hlc,hat⟩:=hs
 have HCS:=Lib.hid hcs
 have HAT:=Lib.hid hat
 have k0:=hi.cell hcs
 have hlb:=Ah k0
 clear hcs hat
 unfold lim at hl
 go_enter Tryz.func232,Tryz.ntmps232
 simp only at hlb
 go_wp2_with fail
 clear k0
 go_loopw [6] (fun i wr=>∃j:Nat,j≤s.length∧i= .int .i64 ((j:Int) - 1)∧Hid (Dy s name s.length=Dy s name j)∧Bw w wr∧wr.heap[w.heap.size]?=some (.cells #[.string {data:= #[]}, .pointer none, .pointer none, .pointer none, .pointer none, .pointer none, .bool false, .nilIface] 241))
  (fun i _=>(intOf i+1).toNat)
 case atStart=>exact⟨s.length,Nat.le_refl _,rfl,by simp [Hid],A5,A4⟩
 case round=>
  rename_i wr
  obtain⟨j,hj,rfl,hd,hb,hbox⟩:=hrel
  have hiw:=hi.below hb
  obtain⟨q,f⟩:=A1 hbox
  have k0:=hiw.cell HCS.out
  have hlr:=A0 hbox
  have hbs:=hb.size
  rcases j with _|j
  ·go_wp2_with fail
   have hres:Hid (Dy s name s.length=none):=by unfold Hid;rw [hd.out];simp [Dy]
   refine bodyPost_ret (v:= .tuple #[.agg #[.string {data:= #[]}, .pointer none, .pointer none, .pointer none, .pointer none, .pointer none, .bool false, .nilIface], .bool false]) (by simp [results,Tryz.results232,go_sem,q]) rfl ?_
   exact RetFF.no hres (by repeat with_reducible (first|exact hb|refine Bw.set ?_ (by omega) _ _))
  ·have e1:(((j+1:Nat):Int) - 1)=(j:Int):=by omega
   rw [e1]
   have hjs:j<s.length:=by omega
   obtain⟨b,o,y,xd,rfl,⟨c0,c1,c7⟩,hq⟩:=HAT.out.get _ j hjs
   simp only [Nat.zero_add]at c0 c1 c7
   have hany:=hq.2.2.isAny
   have i0:=hiw.cell c0;have i7:=hiw.cell c7
   obtain⟨i1,i2,i3,i4,i5,i6⟩:=c1.look hiw
   have i2:wr.cell? ⟨b,o+j * 8+2,none⟩=some (.pointer y.y1):=i2
   have i3:wr.cell? ⟨b,o+j * 8+3,none⟩=some (.pointer y.y2):=i3
   have i4:wr.cell? ⟨b,o+j * 8+4,none⟩=some (.pointer y.y3):=i4
   have i5:wr.cell? ⟨b,o+j * 8+5,none⟩=some (.pointer y.y4):=i5
   have i6:wr.cell? ⟨b,o+j * 8+6,none⟩=some (.bool false):=i6
   have HQ:=Lib.hid hq
   have hnn:s[j]?=some s[j]:=List.getElem?_eq_getElem hjs
   have HN:=Lib.hid hnn
   clear c0 c1 c7 hq hnn e1
   rcases hany with rfl|⟨T,z,rfl⟩
   ·cases hq:(s[j].name.toList==name.toList)
    all_goals
     have HE:=Lib.hid hq
     go_wp2_with fail
    ·go_roundw
     case rel=>exact⟨j,by omega,by go_num,by unfold Hid;rw [hd.out];simp [Dy,HN.out,HE.out],hb,hbox⟩
     case measure=>simp [intOf]
    ·have hres:Hid (Dy s name s.length=some s[j]):=by unfold Hid;rw [hd.out];simp [Dy,HN.out,HE.out]
     refine bodyPost_ret (v:= .tuple #[.agg #[.string s[j].name, .pointer y.y0, .pointer y.y1, .pointer y.y2, .pointer y.y3, .pointer y.y4, .bool false, .nilIface], .bool true]) (by simp [results,Tryz.results232,go_sem,q]) rfl ?_
     exact RetFF.yes hres (by repeat with_reducible (first|exact hb|refine Bw.set ?_ (by omega) _ _)) HQ.out
   ·cases hq:(s[j].name.toList==name.toList)
    all_goals
     have HE:=Lib.hid hq
     go_wp2_with fail
    ·go_roundw
     case rel=>exact⟨j,by omega,by go_num,by unfold Hid;rw [hd.out];simp [Dy,HN.out,HE.out],hb,hbox⟩
     case measure=>simp [intOf]
    ·have hres:Hid (Dy s name s.length=some s[j]):=by unfold Hid;rw [hd.out];simp [Dy,HN.out,HE.out]
     refine bodyPost_ret (v:= .tuple #[.agg #[.string s[j].name, .pointer y.y0, .pointer y.y1, .pointer y.y2, .pointer y.y3, .pointer y.y4, .bool false, .iface T z], .bool true]) (by simp [results,Tryz.results232,go_sem,q]) rfl ?_
     exact RetFF.yes hres (by repeat with_reducible (first|exact hb|refine Bw.set ?_ (by omega) _ _)) HQ.out
end
end Go.Proofs.YtmghkmhgpmcoaaaGreat
