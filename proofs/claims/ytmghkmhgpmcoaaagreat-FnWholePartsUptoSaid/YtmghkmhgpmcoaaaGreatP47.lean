/- What the claim's theorem 'proved' rests on: AsIsF. -/
import Derived.Test.YtmghkmhgpmcoaaaGreatP37
import Derived.Test.YtmghkmhgpmcoaaaGreatP46
set_option linter.unusedVariables false
set_option linter.unusedSimpArgs false
set_option maxRecDepth 100000
set_option maxHeartbeats 10000000
namespace Go.Proofs.YtmghkmhgpmcoaaaGreat
section
open Go Go.RowKit Go.MapKept
theorem keepB13 {w w1:World}(hb:Bw w w1){p0 p1 p2 p3 p4 p5 p6 p7 p8 p9 p10 p11 p12:Addr}{u0 u1 u2 u3 u4 u5 u6 u7 u8 u9 u10 u11 u12:Value}(h:w.cell? p0=some u0∧w.cell? p1=some u1∧w.cell? p2=some u2∧w.cell? p3=some u3∧w.cell? p4=some u4∧w.cell? p5=some u5∧w.cell? p6=some u6∧w.cell? p7=some u7∧w.cell? p8=some u8∧w.cell? p9=some u9∧w.cell? p10=some u10∧w.cell? p11=some u11∧w.cell? p12=some u12):w1.cell? p0=some u0∧w1.cell? p1=some u1∧w1.cell? p2=some u2∧w1.cell? p3=some u3∧w1.cell? p4=some u4∧w1.cell? p5=some u5∧w1.cell? p6=some u6∧w1.cell? p7=some u7∧w1.cell? p8=some u8∧w1.cell? p9=some u9∧w1.cell? p10=some u10∧w1.cell? p11=some u11∧w1.cell? p12=some u12:=by
 obtain⟨h0,h1,h2,h3,h4,h5,h6,h7,h8,h9,h10,h11,h12⟩:=h
 exact⟨cell_later hb h0,cell_later hb h1,cell_later hb h2,cell_later hb h3,cell_later hb h4,cell_later hb h5,cell_later hb h6,cell_later hb h7,cell_later hb h8,cell_later hb h9,cell_later hb h10,cell_later hb h11,cell_later hb h12⟩
theorem fieldSetAsIs_c (s:List Ax)(rr:As)(sc:ByteArray)(key:ByteArray)(r fe:As)(rel:ByteArray)(rest:List Bp)(a:Ap)(t:JT)(va:GV)(hta:Ak va= .map [key] [t])(hres:Av s rr=some ⟨sc,[],⟨[⟨key,r,[]⟩],fe,rel⟩::rest⟩)(hrel:(rel.toList==An)=false)(hsc:sc.toList.isEmpty=true)
  (hrec:Av s r=some a) (h1:Ck a t) (hnull:t.isNull=false) (hem:∀ks vs,t= .map ks vs→0<ks.length) (hks:key.size≤lim)
  (H:Hp) (w:World) (xs x1 x2 a4 a5:Value) (hi:Imm H w) (hS:DH H s xs) (hr:Cy H rr x1 x2) (hva:RV H va a4 a5):
  Calls Tryz.prog 16 #[E1 xs,E8 rr x1 x2,Ar va a4 a5] w (fun e w'=>Bw w w'∧∃v1,e= .returned (.tuple #[v1, .bool true])∧Bz (At w') [[Bs key]] v1):=by
 have HSC:=Lib.hid (fun w0 h0=>toSchema_c s H xs w0 h0 hS)
 have HRC:=Lib.hid (fun w0 h0=>toRef_c rr H x1 x2 w0 h0 hr)
 have HVA:=Lib.hid (fun w0 h0=>EZ va H a4 a5 w0 h0 hva)
 have HTM:=Lib.hid (fun bl S y (w4:World) (hp1:AO Ak (At w4) s (.pointer S)) (hp2:BM Ak (At w4) rr y) (hp3:∃x,A8 (At w4) bl 0=some x∧RJ (At w4) (.map [key] [t]) x)=>by
  obtain⟨x,cx,hx⟩:=hp3
  exact fs_ToFieldSet s rr sc key r fe rel rest a t hres hrel hsc hrec h1 hnull hem hks bl S y (At w4) w4 (Imm.self w4) hp1 hp2 x cx hx)
 have HI:=Lib.hid hi
 obtain⟨as_,cs_,rfl,_⟩:=hS
 obtain⟨l1,d1,l2,d2,rfl,rfl⟩:=hr.open
 obtain⟨p4,e4,p5,e5,rfl,rfl⟩:=hva.open
 clear hi hr hva h1 hnull hem
 unfold E1 E8 at *
 unfold Ar at HVA⊢
 go_enter Tryz.func16,Tryz.ntmps16
 go_upto_region 1 with(fail)
 obtain⟨wz,hwz⟩:∃wz,wz=((w.alloc (.cells #[.slice as_ s.length cs_] 24)).alloc (.cells #[.bool rr.named, .string rr.name, .string rr.atom.sc, .slice l1 rr.atom.li.length d1, .slice l2 rr.atom.ma.length d2, .string rr.rel] 30)).alloc (.cells #[.int .i64 va.k, .int .i64 va.n, .float .f64 va.f, .string va.s, .slice p4 va.ks.length e4, .slice p5 va.l.length e5] 35):=⟨_,rfl⟩
 have HZ:Hid (Bw w wz∧wz.heap[w.heap.size]?=some (.cells #[.slice as_ s.length cs_] 24)∧wz.heap[w.heap.size+1]?=some (.cells #[.bool rr.named, .string rr.name, .string rr.atom.sc, .slice l1 rr.atom.li.length d1, .slice l2 rr.atom.ma.length d2, .string rr.rel] 30)∧wz.heap[w.heap.size+1+1]?=some (.cells #[.int .i64 va.k, .int .i64 va.n, .float .f64 va.f, .string va.s, .slice p4 va.ks.length e4, .slice p5 va.l.length e5] 35)):=by
  subst hwz;exact⟨Co,b3_0,b3_1,ET⟩
 rw [←hwz]
 clear hwz
 have HIX:=Lib.hid (HI.out.below HZ.out.1)
 have S0:wz.cell? ⟨w.heap.size,0,none⟩=some (.slice as_ s.length cs_)∧wz.cell? ⟨w.heap.size+1,0,none⟩=some (.bool rr.named)∧wz.cell? ⟨w.heap.size+1,1,none⟩=some (.string rr.name)∧wz.cell? ⟨w.heap.size+1,2,none⟩=some (.string rr.atom.sc)∧wz.cell? ⟨w.heap.size+1,3,none⟩=some (.slice l1 rr.atom.li.length d1)∧wz.cell? ⟨w.heap.size+1,4,none⟩=some (.slice l2 rr.atom.ma.length d2)∧wz.cell? ⟨w.heap.size+1,5,none⟩=some (.string rr.rel)∧wz.cell? ⟨w.heap.size+1+1,0,none⟩=some (.int .i64 va.k)∧wz.cell? ⟨w.heap.size+1+1,1,none⟩=some (.int .i64 va.n)∧wz.cell? ⟨w.heap.size+1+1,2,none⟩=some (.float .f64 va.f)∧wz.cell? ⟨w.heap.size+1+1,3,none⟩=some (.string va.s)∧wz.cell? ⟨w.heap.size+1+1,4,none⟩=some (.slice p4 va.ks.length e4)∧wz.cell? ⟨w.heap.size+1+1,5,none⟩=some (.slice p5 va.l.length e5):=by
  have g0:=(A1 HZ.out.2.1).1
  have g1:=(A1 HZ.out.2.2.1).1
  have g2:=(A1 HZ.out.2.2.2).1
  exact⟨g0 0,g1 0,g1 1,g1 2,g1 3,g1 4,g1 5,g2 0,g2 1,g2 2,g2 3,g2 4,g2 5⟩
 have S1:wz.drew.cell? ⟨w.heap.size,0,none⟩=some (.slice as_ s.length cs_)∧wz.drew.cell? ⟨w.heap.size+1,0,none⟩=some (.bool rr.named)∧wz.drew.cell? ⟨w.heap.size+1,1,none⟩=some (.string rr.name)∧wz.drew.cell? ⟨w.heap.size+1,2,none⟩=some (.string rr.atom.sc)∧wz.drew.cell? ⟨w.heap.size+1,3,none⟩=some (.slice l1 rr.atom.li.length d1)∧wz.drew.cell? ⟨w.heap.size+1,4,none⟩=some (.slice l2 rr.atom.ma.length d2)∧wz.drew.cell? ⟨w.heap.size+1,5,none⟩=some (.string rr.rel)∧wz.drew.cell? ⟨w.heap.size+1+1,0,none⟩=some (.int .i64 va.k)∧wz.drew.cell? ⟨w.heap.size+1+1,1,none⟩=some (.int .i64 va.n)∧wz.drew.cell? ⟨w.heap.size+1+1,2,none⟩=some (.float .f64 va.f)∧wz.drew.cell? ⟨w.heap.size+1+1,3,none⟩=some (.string va.s)∧wz.drew.cell? ⟨w.heap.size+1+1,4,none⟩=some (.slice p4 va.ks.length e4)∧wz.drew.cell? ⟨w.heap.size+1+1,5,none⟩=some (.slice p5 va.l.length e5):=S0
 refine wp_region_held_drew (S:=fun w'=>w'.cell? ⟨w.heap.size,0,none⟩=some (.slice as_ s.length cs_)∧w'.cell? ⟨w.heap.size+1,0,none⟩=some (.bool rr.named)∧w'.cell? ⟨w.heap.size+1,1,none⟩=some (.string rr.name)∧w'.cell? ⟨w.heap.size+1,2,none⟩=some (.string rr.atom.sc)∧w'.cell? ⟨w.heap.size+1,3,none⟩=some (.slice l1 rr.atom.li.length d1)∧w'.cell? ⟨w.heap.size+1,4,none⟩=some (.slice l2 rr.atom.ma.length d2)∧w'.cell? ⟨w.heap.size+1,5,none⟩=some (.string rr.rel)∧w'.cell? ⟨w.heap.size+1+1,0,none⟩=some (.int .i64 va.k)∧w'.cell? ⟨w.heap.size+1+1,1,none⟩=some (.int .i64 va.n)∧w'.cell? ⟨w.heap.size+1+1,2,none⟩=some (.float .f64 va.f)∧w'.cell? ⟨w.heap.size+1+1,3,none⟩=some (.string va.s)∧w'.cell? ⟨w.heap.size+1+1,4,none⟩=some (.slice p4 va.ks.length e4)∧w'.cell? ⟨w.heap.size+1+1,5,none⟩=some (.slice p5 va.l.length e5)) (by kernel_rfl) S1 (fun hHeld=> ?_)
 refine tk 0 ?_
 try simp only [Act.put,tka,tkb,tkc]
 refine tk 2 ?_
 try simp only [Act.put,tka,tkb,tkc]
 refine tk 4 ?_
 try simp only [Act.put,tka,tkb,tkc]
 refine wpAnyH_ready (rs:=[1]) (by kernel_rfl) (by simp) ?_
 refine AllReadyH.cons rfl (fun K hK=> ?_) AllReadyH.nil
 go_simp
 refine(HVA.out _ (HIX.out.below Bw.rfl.dr)).mono ?_
 rintro _ w1 ⟨hb1',X1,rfl,hX1'⟩
 have hb1:Bw wz w1:=Bw.rfl.dr.tr hb1'
 have hX1:RVal (At w1) (Ak va) X1:=hX1'.mono (Imm.grow (HIX.out.below Bw.rfl.dr) hb1')
 have H1:=Lib.hid (And.intro hb1 hX1)
 obtain⟨bl,xl,rfl,_,_⟩:=hX1
 have S2:=keepB13 hb1 S0
 clear hb1' hX1' hb1
 refine hK.out _ _ S2 (fun hHeld=> ?_)
 clear hK K
 try simp only [Act.put,tka,tkb,tkc]
 refine wpAnyH_ready (rs:=[3]) (by kernel_rfl) (by simp) ?_
 refine AllReadyH.cons rfl (fun K hK=> ?_) AllReadyH.nil
 go_simp
 refine(HSC.out w1 (HIX.out.below H1.out.1)).mono ?_
 rintro _ w2 ⟨hb2,X2,rfl,hX2'⟩
 have hX2:AO Ak (At w2) s X2:=hX2'.mono (Imm.grow (HIX.out.below H1.out.1) hb2)
 have H2:=Lib.hid (And.intro hb2 hX2)
 obtain⟨bs,xs_,rfl,_⟩:=hX2
 have S3:=keepB13 hb2 S2
 clear hX2' hb2
 refine hK.out _ _ S3 (fun hHeld=> ?_)
 clear hK K
 try simp only [Act.put,tka,tkb,tkc]
 refine wpAnyH_ready (rs:=[5]) (by kernel_rfl) (by simp) ?_
 refine AllReadyH.cons rfl (fun K hK=> ?_) AllReadyH.nil
 go_simp
 refine(HRC.out w2 (HIX.out.below (H1.out.1.tr H2.out.1))).mono ?_
 rintro _ w3 ⟨hb3,y,rfl,hY'⟩
 have hY:BM Ak (At w3) rr y:=hY'.mono (Imm.grow (HIX.out.below (H1.out.1.tr H2.out.1)) hb3)
 have H3:=Lib.hid (And.intro hb3 hY)
 have S4:=keepB13 hb3 S3
 clear hY hY' hb3
 rcases y with⟨y0,y1,y2,y3,y4⟩
 refine hK.out _ _ S4 (fun hHeld=> ?_)
 clear hK K
 try simp only [Act.put,tka,tkb,tkc]
 refine wpAnyH_ready (rs:=[6]) (by kernel_rfl) (by simp) ?_
 refine AllReadyH.cons rfl (fun K hK=> ?_) AllReadyH.nil
 go_simp
 refine(typedfieldset_asTV bl ⟨y0,y1,y2,y3,y4⟩ (some ⟨bs,0,none⟩) w3).mono ?_
 rintro _ w4 ⟨hb4,bo1,rfl,hlo1,hbo1⟩
 have H4:=Lib.hid hb4
 have S5:=keepB13 hb4 S4
 unfold BV at hbo1
 obtain⟨r1,e1⟩:=A1 hbo1
 have hlb1:=A0 hbo1
 clear hbo1 hb4
 refine hK.out _ _ S5 (fun hHeld=> ?_)
 clear hK K
 try simp only [Act.put,tka,tkb,tkc]
 refine tk 7 ?_
 try simp only [Act.put,tka,tkb,tkc]
 refine wpAnyH_ready (rs:=[8]) (by kernel_rfl) (by simp) ?_
 refine AllReadyH.cons rfl (fun K hK=> ?_) AllReadyH.nil
 go_simp
 refine hK.out _ _ S5 (fun hHeld=> ?_)
 clear hK K
 try simp only [Act.put,tka,tkb,tkc]
 clear r1 e1
 refine wpAnyH_ready (rs:=[9]) (by kernel_rfl) (by simp) ?_
 refine AllReadyH.cons rfl (fun K hK=> ?_) AllReadyH.nil
 go_simp
 refine(HTM.out bl (some ⟨bs,0,none⟩) ⟨y0,y1,y2,y3,y4⟩ w4 (H2.out.2.mono (AG (H3.out.1.tr H4.out))) (H3.out.2.mono (AG H4.out)) ((by rw [←hta];exact(H1.out.2.mono (AG ((H2.out.1.tr H3.out.1).tr H4.out))).at_))).mono ?_
 rintro _ w5 ⟨hb5,bM,rfl,hmod⟩
 have H5:=Lib.hid (And.intro hb5 hmod)
 have S6:=keepB13 hb5 S5
 clear hb5 hmod
 refine hK.out _ _ S6 (fun hHeld=> ?_)
 clear hK K
 try simp only [Act.put,tka,tkb,tkc]
 refine tk 10 ?_
 try simp only [Act.put,tka,tkb,tkc]
 refine tk 11 ?_
 try simp only [Act.put,tka,tkb,tkc]
 refine tk 12 ?_
 try simp only [Act.put,tka,tkb,tkc]
 refine tk 13 ?_
 try simp only [Act.put,tka,tkb,tkc]
 refine tk 14 ?_
 try simp only [Act.put,tka,tkb,tkc]
 refine wpAnyH_done (by kernel_rfl) ?_ _
 clear hHeld S0 S1 S2 S3 S4 S5 S6
 go_wp2_with fail
 refine(fromSetM_c w4.heap.size bM key false w5 hks H5.out.2).mono ?_
 rintro _ w6 ⟨hb6,v1,rfl,hp1⟩
 have H6:=Lib.hid (And.intro hb6 hp1)
 obtain⟨av1,cv1,rfl,_⟩:=hp1
 clear hb6
 go_wp2_with fail
 go_ret2
 obtain⟨hb6,hp1⟩:=H6.out
 refine⟨(((((HZ.out.1.tr H1.out.1).tr H2.out.1).tr H3.out.1).tr H4.out).tr H5.out.1).tr hb6,_,rfl, ?_⟩
 have hE:Hle (A6 E0 w5 w6) (At w6):=fun k o e=>by
  unfold A6 at e
  split at e
  ·cases e
  ·exact e
 exact hp1.mono hE
end
end Go.Proofs.YtmghkmhgpmcoaaaGreat
