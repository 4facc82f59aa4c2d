/- What the claim's theorem 'proved' rests on: SpecH, SpecI, SpecJ, SpecK, SpecL, SpecM, SpecN, SpecO. -/
import Derived.Deep.RegionWith
import Derived.StillTailTactics
import Derived.Deep.CutBlock
import Derived.Lib.QuietBelow
import Derived.Test.YtmghkmhgpmcoaaaGreatP02
set_option linter.unusedVariables false
set_option linter.unusedSimpArgs false
set_option maxRecDepth 100000
set_option maxHeartbeats 10000000
namespace Go.Proofs.YtmghkmhgpmcoaaaGreat
section
open Go.RowKit
theorem Bw.dn {a b:World}(h:Bw a b)(n:Nat):Bw a (b.drewN n):=⟨h.os,h.tape,h.output,h.size,h.block⟩
theorem Cz.open {H:Hp}{f:Au}{x1 x2 xd:Value}(h:Cz H f x1 x2 xd):
  ∃a1 c1 a2 c2 ad cd,x1= .slice a1 f.type.atom.li.length c1∧x2= .slice a2 f.type.atom.ma.length c2∧xd= .slice ad f.dflt.length cd:=by
 obtain⟨_,hr,hd⟩:=C3.1 h
 obtain⟨a1,c1,a2,c2,e1,e2⟩:=hr.open
 obtain⟨ad,cd,e3⟩:=hd.open
 exact⟨a1,c1,a2,c2,ad,cd,e1,e2,e3⟩
def underS (m:Bp)(name:ByteArray):As × Bool:=match EI m.fields name with
 |some f=>(f.type,true)
 |none=>(m.elem, !Ds m.elem)
def RetUnder (H:Hp)(w:World)(o:As × Bool):Ending→World→Prop:=fun e w'=>Bw w w'∧∃x1 x2,e= .returned (.tuple #[E8 o.1 x1 x2, .bool o.2])∧Cy H o.1 x1 x2
theorem under_c (H:Hp)(m:Bp)(name:ByteArray)(xf x1 x2:Value)(w:World)(hi:Imm H w)(hm:RMap H m xf x1 x2):
  Calls Tryz.prog 82 #[aggM m xf x1 x2, .string name] w (RetUnder H w (underS m name)):=by
 obtain⟨_,hf,hr⟩:=Cl.1 hm
 have HF:=Lib.hid (fun w0 h0=>findF_c H m name xf x1 x2 w0 h0 hf)
 have HN:=Lib.hid (noOther_c (BP.1 hr).2.2)
 obtain⟨af,cf,rfl,_⟩:=hf
 obtain⟨a1,c1,a2,c2,rfl,rfl⟩:=hr.open
 go_enter Tryz.func82,Tryz.ntmps82
 go_wp2_with fail
 refine(HF.out _ (hi.below Am)).mono ?_
 clear HF
 rintro e w1 hpost
 unfold CO at hpost
 obtain⟨hb1,hpost⟩:=hpost
 have hx:=A2 (k:=w.heap.size) (p:= .cells #[.slice af m.fields.length cf, .bool m.elem.named, .string m.elem.name, .string m.elem.atom.sc, .slice a1 m.elem.atom.li.length c1, .slice a2 m.elem.atom.ma.length c2, .string m.elem.rel, .string m.rel] 48) hb1
  (by repeat (first|(rw [Ad,if_pos (by simp;done)];done)|rw [Ad,if_neg (by simp;done)]))
 have hy:=A2 (k:=w.heap.size+1) (p:= .cells #[.bool false, .string {data:= #[]}, .string {data:= #[]}, .slice none 0 0, .slice none 0 0, .string {data:= #[]}] 30) hb1
  (by repeat (first|(rw [Ad,if_pos (by simp;done)];done)|rw [Ad,if_neg (by simp;done)]))
 have hbw:Bw w w1:=Bw.tr Am hb1
 have hz:w.heap.size+1<w1.heap.size:=A0 hy
 obtain⟨t0,t1,t2,t3,_⟩:=ltx hz
 obtain⟨r0,r1,r2,r3,_⟩:=ltx (by omega:w.heap.size<w1.heap.size)
 obtain⟨q1,f1⟩:=A1 hx
 obtain⟨q2,f2⟩:=A1 hy
 have HX:=Lib.hid hx;have HY:=Lib.hid hy
 clear hx hy hb1
 cases hq:EI m.fields name with
 |some f=>
  rw [hq]at hpost
  obtain⟨y1,y2,yd,rfl,hfd⟩:=hpost
  have hspec:Hid (underS m name=(f.type,true)):=by simp [Hid,underS,hq]
  obtain⟨b1,e1,b2,e2,bd,ed,rfl,rfl,rfl⟩:=hfd.open
  clear hq
  go_wp2_with fail
  refine bodyPost_ret (v:= .tuple #[E8 f.type (.slice b1 f.type.atom.li.length e1) (.slice b2 f.type.atom.ma.length e2), .bool true]) (by simp [results,Tryz.results82,go_sem,q1,q2,t0,t1,t2,t3]) rfl ?_
  unfold RetUnder
  rw [hspec.out]
  exact⟨(by repeat with_reducible (first|exact hbw|refine Bw.al ?_ _|refine Bw.set ?_ (by omega) _ _)),_,_,rfl,(C3.1 hfd).2.1⟩
 |none=>
  rw [hq]at hpost
  simp only at hpost
  subst hpost
  have hspec:Hid (underS m name=(m.elem, !Ds m.elem)):=by simp [Hid,underS,hq]
  clear hq
  go_wp2_with fail
  go_region_with (go_at_call 105;refine(HN.out _).mono ?_;rintro e w2 ⟨rfl,hb2⟩;have q3:=(A1 (A2 hb2 (A3 HX.out))).1;have q4:=A1 (A2 hb2 (A3 HY.out));obtain⟨q4,f4⟩:=q4)
  all_goals
   go_wp2_with fail
   refine bodyPost_ret (v:= .tuple #[E8 m.elem (.slice a1 m.elem.atom.li.length c1) (.slice a2 m.elem.atom.ma.length c2), .bool (!Ds m.elem)]) (by simp [results,Tryz.results82,go_sem,q4]) rfl ?_
   unfold RetUnder
   rw [hspec.out]
   have hbw2:Bw w w2:=Bw.tr (by repeat with_reducible (first|exact hbw|refine Bw.al ?_ _|refine Bw.dr ?_)) hb2
   exact⟨(by repeat with_reducible (first|exact hbw2|refine Bw.al ?_ _|refine Bw.set ?_ (by omega) _ _)),_,_,rfl,hr⟩
theorem keyFormed_c (H:Hp)(s:List Ax)(m:Bp)(key:ByteArray)(xs xf x1 x2:Value)(w:World)(hi:Imm H w)(hs:DH H s xs)(hf:Fu H m.fields xf):
  Calls Tryz.prog 106 #[E1 xs,aggM m xf x1 x2, .string key] w (Pur w (.bool (BH s m key))):=by
 have HF:=Lib.hid (fun w0 h0=>findF_c H m key xf x1 x2 w0 h0 hf)
 have HR:=Lib.hid (fun r y1 y2 w0 h0 h1=>Eg H s r xs y1 y2 w0 h0 hs h1)
 obtain⟨af,cf,rfl,_⟩:=hf
 obtain⟨aq,cq,rfl,_⟩:=hs
 go_enter Tryz.func106,Tryz.ntmps106
 go_wp2_with fail
 refine(HF.out _ (hi.below Am)).mono ?_
 clear HF
 rintro e w1 hpost
 unfold CO at hpost
 obtain⟨hb1,hpost⟩:=hpost
 have hx:=A2 (k:=w.heap.size) (p:= .cells #[.slice aq s.length cq] 24) hb1 (by repeat (first|(rw [Ad,if_pos (by simp;done)];done)|rw [Ad,if_neg (by simp;done)]))
 have hbw:Bw w w1:=Bw.tr Am hb1
 have hz:w.heap.size+1<w1.heap.size:=by have:=hb1.size;simp at this;omega
 obtain⟨t0,t1,t2,t3,_⟩:=ltx (by omega:w.heap.size<w1.heap.size)
 obtain⟨q1,f1⟩:=A1 hx
 clear hx hb1
 cases hq:EI m.fields key with
 |none=>
  rw [hq]at hpost
  simp only at hpost
  subst hpost
  have hspec:Hid (BH s m key=false):=by simp [Hid,BH,hq]
  clear hq
  go_wp2_with fail
  go_ret
  exact⟨AQ hspec.out.symm,hbw.al _⟩
 |some f=>
  rw [hq]at hpost
  obtain⟨y1,y2,yd,rfl,hfd⟩:=hpost
  obtain⟨hns,hfr,hfdv⟩:=C3.1 hfd
  obtain⟨b1,e1,b2,e2,bd,ed,rfl,rfl,rfl⟩:=hfd.open
  go_wp2_with fail
  refine(HR.out f.type _ _ _ ((hi.below hbw).below A5) hfr).mono ?_
  clear HR
  rintro e w2 hpost
  unfold Cx at hpost
  obtain⟨hb2,hpost⟩:=hpost
  have hx2:=A2 (k:=w1.heap.size) (p:= .cells #[.string f.name, .bool f.type.named, .string f.type.name, .string f.type.atom.sc, .slice b1 f.type.atom.li.length e1, .slice b2 f.type.atom.ma.length e2, .string f.type.rel, .slice bd f.dflt.length ed] 45) hb2 (by repeat (first|(rw [Ad,if_pos (by simp;done)];done)|rw [Ad,if_neg (by simp;done)]))
  have hbw2:Bw w w2:=Bw.tr (hbw.al _) hb2
  have hz2:w1.heap.size<w2.heap.size:=A0 hx2
  clear q1 f1 t0 t1 t2 t3
  obtain⟨t0,t1,t2,t3,_⟩:=ltx hz2
  have HX2:=Lib.hid hx2
  obtain⟨q1,f1⟩:=A1 hx2
  clear hx2
  cases hqr:AJ s f.type with
  |none=>
   rw [hqr]at hpost
   simp only at hpost
   subst hpost
   have hspec:Hid (BH s m key=false):=by simp [Hid,BH,hq,hqr]
   clear hq hqr
   go_wp2_with fail
   go_ret
   exact⟨AQ hspec.out.symm,hbw2.al _⟩
  |some a=>
   rw [hqr]at hpost
   obtain⟨z1,z2,rfl,ha⟩:=hpost
   obtain⟨g1,k1,g2,k2,rfl,rfl⟩:=ha.open
   have HP:=Lib.hid (F3 ha)
   have hspec:Hid (BH s m key=(AB a==1 && !a.sc.toList.isEmpty && (match f.dflt with|[]=>true|d::_=>d.k !=0 && fitsS a.sc d))):=by unfold Hid BH;rw [hq];simp only;rw [hqr];rfl
   clear hq hqr ha
   cases hp:(AB a !=1)
   ·cases hsce:a.sc.toList.isEmpty
    ·have hsn:(!a.sc.toList.isEmpty)=true:=by rw [hsce];rfl
     have hspec2:Hid (BH s m key=(match f.dflt with|[]=>true|d::_=>d.k !=0 && fitsS a.sc d)):=by
      unfold Hid;rw [hspec.out,hsce];have:(AB a==1)=true:=by simpa using hp
      rw [this];simp
     clear hspec
     go_wp2_with fail
     refine(HP.out _).mono ?_
     rintro e w3 ⟨rfl,hb3⟩
     have hy3:=A2 (k:=w2.heap.size) (p:= .cells #[.string a.sc, .slice g1 a.li.length k1, .slice g2 a.ma.length k2] 28) hb3 (by repeat (first|(rw [Ad,if_pos (by simp;done)];done)|rw [Ad,if_neg (by simp;done)]))
     have hx3:=A2 hb3 (A3 HX2.out)
     have hbw3:Bw w w3:=Bw.tr (hbw2.al _) hb3
     have hz3:w2.heap.size<w3.heap.size:=A0 hy3
     have HX3:=Lib.hid hx3;have HY3:=Lib.hid hy3
     clear q1 f1
     obtain⟨q1,f1⟩:=A1 hx3
     obtain⟨q2,f2⟩:=A1 hy3
     clear hx3 hy3 HP
     have hi3:=hi.below hbw3
     obtain⟨ad,cd,e,hnd,hld,hcd,hatd⟩:=hfdv
     cases e
     rcases hdf:f.dflt with _|⟨d,dr⟩
     ·have hspec3:Hid (BH s m key=true):=by unfold Hid;rw [hspec2.out,hdf]
      have hlen:((f.dflt.length:Int)==0)=true:=by rw [hdf];rfl
      go_wp2_with fail
      go_quiet (fail)
      go_wp2_with fail
      go_ret
      exact⟨AQ hspec3.out.symm,hbw3.dn _⟩
     ·rw [hdf]at hatd
      have hspec3:Hid (BH s m key=(d.k !=0 && fitsS a.sc d)):=by unfold Hid;rw [hspec2.out,hdf]
      obtain⟨bv,ov,a4,c4,a5,c5,rfl,hdv,k0,k1',k2',k3,k4,k5⟩:=hatd.look0 hi3
      have HFit:=Lib.hid (fits_c a.sc d (.slice a4 d.ks.length c4) (.slice a5 d.l.length c5))
      have hlen:((f.dflt.length:Int)==0)=false:=by rw [hdf];simp;omega
      have hlen2:(((dr.length:Int)+1)==0)=false:=by simp;omega
      cases hdk:(d.k !=0)
      ·go_wp2_with fail
       go_quiet (fail)
       go_wp2_with fail
       go_ret
       exact⟨AQ (by rw [hspec3.out,hdk];rfl),hbw3.dn _⟩
      ·go_wp2_with fail
       go_still_tail 18,(by kernel_rfl)
       change wpList _ _ _ _ _ w3.drew
       go_wp2_with fail
       refine(HFit.out _).mono ?_
       rintro e w5 ⟨rfl,hb5⟩
       go_wp2_with fail
       go_ret
       exact⟨AQ (by rw [hspec3.out,hdk];rfl),hbw3.dr.tr hb5⟩
    ·have hsn:(!a.sc.toList.isEmpty)=false:=by rw [hsce];rfl
     have hspec2:Hid (BH s m key=false):=by unfold Hid;rw [hspec.out,hsce];simp
     go_wp2_with fail
     refine(HP.out _).mono ?_
     rintro e w3 ⟨rfl,hb3⟩
     obtain⟨q2,f2⟩:=A1 (A2 (k:=w2.heap.size) (p:= .cells #[.string a.sc, .slice g1 a.li.length k1, .slice g2 a.ma.length k2] 28) hb3 (by repeat (first|(rw [Ad,if_pos (by simp;done)];done)|rw [Ad,if_neg (by simp;done)])))
     go_wp2_with fail
     go_ret
     exact⟨AQ hspec2.out.symm,Bw.tr (hbw2.al _) hb3⟩
   ·have hspec2:Hid (BH s m key=false):=by
     unfold Hid;rw [hspec.out];have:(AB a==1)=false:=by simpa using hp
     rw [this];rfl
    go_wp2_with fail
    refine(HP.out _).mono ?_
    rintro e w3 ⟨rfl,hb3⟩
    go_wp2_with fail
    go_ret
    exact⟨AQ hspec2.out.symm,Bw.tr (hbw2.al _) hb3⟩
end
section
open Go.RowKit
theorem hle_grow2 {H:Hp}{w w1:World}(hi:Imm H w)(hb:Bw w w1):Hle H (A6 H w w1):=AY hi
theorem pos_ne {n:Nat}(h:0<n):((n:Int)==0)=false:=by simp;omega
theorem take_get {α:Type}{l:List α}{j:Nat}(h:j<l.length):l.take (j+1)=l.take j++[l[j]]:=by
 rw [List.take_succ_eq_append_getElem h]
theorem anyB_drop {α:Type}{p:α→Bool}{l:List α}{j t:Nat}(h:t<j)(hj:j≤l.length):((l.take j).drop t).any p=(p (l[t]'(by omega))||((l.take j).drop (t+1)).any p):=by
 rw [C1 (l:=l.take j) (j:=t) (by simp;omega)]
 simp
def CItems (s:List Ax)(l:B3):Prop:=∀(H:Hp) (xs x1 x2 xk:Value) (w:World),Imm H w→DH H s xs→D4 H l x1 x2 xk→Calls Tryz.prog 78 #[E1 xs,aggL l x1 x2 xk] w (Pur w (.bool (AS s l)))
theorem items_c (s:List Ax)(l:B3):CItems s l:=by
 intro H xs x1 x2 xk w hi hs hl
 have HR:=Lib.hid (fun r y1 y2 w0 h0 h1=>Eg H s r xs y1 y2 w0 h0 hs h1)
 have HS0:=Lib.hid hs
 obtain⟨aq,cq,rfl,_⟩:=hs
 obtain⟨_,hk,hr⟩:=C8.1 hl
 obtain⟨a1,c1,a2,c2,rfl,rfl⟩:=hr.open
 obtain⟨ak,ck,rfl,hnk,hlk,hck,hatk⟩:=hk
 unfold lim at hlk
 go_enter Tryz.func78,Tryz.ntmps78
 go_wp2_with fail
 refine(HR.out l.elem _ _ _ (hi.below Am) hr).mono ?_
 clear HR
 rintro e w2 hpost
 unfold Cx at hpost
 obtain⟨hb2,hpost⟩:=hpost
 have hx2:=A2 (k:=w.heap.size) (p:= .cells #[.slice aq s.length cq] 24) hb2 (by repeat (first|(rw [Ad,if_pos (by simp;done)];done)|rw [Ad,if_neg (by simp;done)]))
 have hy2:=A2 (k:=w.heap.size+1) (p:= .cells #[.bool l.elem.named, .string l.elem.name, .string l.elem.atom.sc, .slice a1 l.elem.atom.li.length c1, .slice a2 l.elem.atom.ma.length c2, .string l.elem.rel, .string l.rel, .slice ak l.keys.length ck] 67) hb2 (by repeat (first|(rw [Ad,if_pos (by simp;done)];done)|rw [Ad,if_neg (by simp;done)]))
 have hbw2:Bw w w2:=Bw.tr Am hb2
 have hz2:w.heap.size+1<w2.heap.size:=A0 hy2
 have HX2:=Lib.hid hx2;have HY2:=Lib.hid hy2
 clear hx2 hy2
 cases hqr:AJ s l.elem with
 |none=>
  rw [hqr]at hpost
  simp only at hpost
  subst hpost
  have hspec:Hid (AS s l=false):=by simp [Hid,AS,hqr]
  clear hqr
  go_wp2_with fail
  go_ret
  exact⟨AQ hspec.out.symm,hbw2.al _⟩
 |some a=>
  rw [hqr]at hpost
  obtain⟨z1,z2,rfl,ha⟩:=hpost
  obtain⟨hasc,⟨g1,k1,rfl,hng1,hlg1,hcg1,hatg1⟩,⟨g2,k2,rfl,hng2,hlg2,hcg2,hatg2⟩⟩:=Bd.1 ha
  unfold lim at hlg1 hlg2
  have HP:=Lib.hid (F3 ha)
  have hspec:Hid (AS s l=(AB a==1 && (match l.keys with|[]=> !a.sc.toList.isEmpty|_::_=>match a.ma with|[]=>false|m::_=>BY s m [] l.keys))):=by unfold Hid AS;rw [hqr];rfl
  have hi2g:Imm (A6 H _ w2) w2:=Imm.grow (hi.below Am) hb2
  have HSG:=Lib.hid (HS0.out.mono (hle_grow2 (hi.below Am) hb2))
  clear hqr ha
  cases hp:(AB a !=1)
  ·have hspec2:Hid (AS s l=(match l.keys with|[]=> !a.sc.toList.isEmpty|_::_=>match a.ma with|[]=>false|m::_=>BY s m [] l.keys)):=by
    unfold Hid;rw [hspec.out];have:(AB a==1)=true:=by simpa using hp
    rw [this];rfl
   clear hspec
   go_wp2_with fail
   refine(HP.out _).mono ?_
   rintro e w3 ⟨rfl,hb3⟩
   have hy3:=A2 (k:=w2.heap.size) (p:= .cells #[.string a.sc, .slice g1 a.li.length k1, .slice g2 a.ma.length k2] 28) hb3 (by repeat (first|(rw [Ad,if_pos (by simp;done)];done)|rw [Ad,if_neg (by simp;done)]))
   have hx3:=A2 hb3 (A3 HX2.out)
   have hl3:=A2 hb3 (A3 HY2.out)
   have hbw3:Bw w w3:=Bw.tr (hbw2.al _) hb3
   have hbw23:Bw w2 w3:=Bw.tr A5 hb3
   have HX3:=Lib.hid hx3;have HY3:=Lib.hid hy3;have HL3:=Lib.hid hl3
   obtain⟨q1,f1⟩:=A1 hx3
   obtain⟨q2,f2⟩:=A1 hy3
   obtain⟨q3,f3⟩:=A1 hl3
   clear hx3 hy3 hl3 HP
   have hi3:=hi.below hbw3
   rcases hks:l.keys with _|⟨kh,kt⟩
   ·have hspec3:Hid (AS s l= !a.sc.toList.isEmpty):=by unfold Hid;rw [hspec2.out,hks]
    go_wp2_with fail
    go_ret
    exact⟨AQ hspec3.out.symm,hbw3⟩
   ·have hkl:0<l.keys.length:=by rw [hks];simp
    have hkl0:((l.keys.length:Int)==0)=false:=pos_ne hkl
    rcases hma:a.ma with _|⟨m,mr⟩
    ·have hspec3:Hid (AS s l=false):=by unfold Hid;rw [hspec2.out,hks,hma]
     have hml0:((a.ma.length:Int)==0)=true:=by rw [hma];rfl
     clear hks
     go_wp2_with fail
     go_ret
     exact⟨AQ hspec3.out.symm,hbw3⟩
    ·have hspec3:Hid (AS s l=BY s m [] l.keys):=by unfold Hid;rw [hspec2.out,hks,hma]
     have hml1:0<a.ma.length:=by rw [hma];simp
     have hml0:((a.ma.length:Int)==0)=false:=pos_ne hml1
     have HMA:=Lib.hid hma
     clear hks hma
     go_wp2_with fail
     clear q1 q2 q3 f1 f2 f3
     go_loopw [39] (fun i wr=>∃j:Nat,j≤l.keys.length∧i= .int .i64 j∧Hid (BY s m [] l.keys=BY s m (l.keys.take j) (l.keys.drop j))∧Bw w3 wr) (fun i _=>l.keys.length - (intOf i).toNat)
     case atStart=>exact⟨0,by omega,rfl,by simp [Hid],Bw.rfl⟩
     case round=>
      rename_i wr
      obtain⟨j,hj,rfl,hd,hb⟩:=hrel
      have hir:=hi.below (hbw3.tr hb)
      by_cases hjl:j<l.keys.length
      ·obtain⟨b,o,rfl,c0,hcs⟩:=hatk.look hir hjl
       have hdr:Hid (l.keys.drop j=l.keys[j]::l.keys.drop (j+1)):=C1 hjl
       have htk:Hid (l.keys.take (j+1)=l.keys.take j++[l.keys[j]]):=take_get hjl
       obtain⟨q3,f3⟩:=A1 (A2 hb HL3.out)
       go_wp2_with fail
       have HC0:=Lib.hid c0
       clear c0
       go_loopw [49] (fun i wx=>∃t:Nat,t≤j∧i= .int .i64 t∧Hid (((l.keys.take j).any fun g=>g.toList==l.keys[j].toList)=(((l.keys.take j).drop t).any fun g=>g.toList==l.keys[j].toList))∧wx=wr) (fun i _=>j - (intOf i).toNat)
       case atStart=>exact⟨0,by omega,rfl,by simp [Hid],rfl⟩
       case round=>
        obtain⟨t,ht,rfl,hdt,rfl⟩:=hrel
        by_cases htj:t<j
        ·obtain⟨b2,o2,e2,c2,hcs2⟩:=hatk.look hir (by omega:t<l.keys.length)
         cases e2
         have hst:=Lib.hid (anyB_drop (p:=fun g=>g.toList==l.keys[j].toList) htj hj)
         cases hq:(l.keys[t].toList==l.keys[j].toList)
         all_goals
          clear HC0
          go_wp2_with fail
         ·exact⟨⟨t+1,by omega,by go_num,by unfold Hid;rw [hdt.out,hst.out,hq];rfl,trivial⟩,by simp [intOf];omega⟩
         ·go_ret
          exact⟨AQ (by rw [hspec3.out,hd.out,hdr.out];simp only [BY];rw [hdt.out,hst.out,hq];rfl),hbw3.tr hb⟩
        ·have:t=j:=by omega
         subst this
         have hc0:=HC0.out
         have hany:Hid (((l.keys.take t).any fun g=>g.toList==l.keys[t].toList)=false):=by unfold Hid;rw [hdt.out];simp
         clear q3 f3
         obtain⟨q1,f1⟩:=A1 (A2 hb HX3.out)
         obtain⟨q2,f2⟩:=A1 (A2 hb HY3.out)
         have hig:=hi2g.below (hbw23.tr hb)
         have hatm:=hatg2
         rw [HMA.out]at hatm
         obtain⟨b3,o3,af,cf,a3,c3,a4,c4,e3,hm,k0,k1,k2,k3,k4,k5,k6,k7⟩:=hatm.look0 hig
         subst e3
         obtain⟨_,hmf,_⟩:=Cl.1 hm
         cases hkf:BH s m l.keys[t]
         all_goals
          have HKF:=Lib.hid hkf
          clear hkf
          go_wp2_with fail
          go_still_tail 6,(by kernel_rfl)
          change wpList _ _ _ _ _ (World.drew _)
          go_wp2_with fail
          refine(keyFormed_c _ s m l.keys[t] _ _ _ _ _ (hig.below (Bw.dr Bw.rfl)) HSG.out hmf).mono ?_
          rintro e w5 ⟨rfl,hb5⟩
          rw [HKF.out]
          go_wp2_with fail
         ·go_ret
          exact⟨AQ (by rw [hspec3.out,hd.out,hdr.out];simp only [BY];rw [hany.out,HKF.out];rfl),(hbw3.tr hb).dr.tr hb5⟩
         ·exact⟨⟨t+1,by omega,by go_num,by unfold Hid;rw [hd.out,hdr.out,htk.out];simp only [BY];rw [hany.out,HKF.out];rfl,hb.dr.tr hb5⟩,by simp [intOf];omega⟩
      ·have:j=l.keys.length:=by omega
       subst this
       go_wp2_with fail
       go_ret
       exact⟨AQ (by rw [hspec3.out,hd.out];simp [BY]),hbw3.tr hb⟩
  ·have hspec2:Hid (AS s l=false):=by
    unfold Hid;rw [hspec.out];have:(AB a==1)=false:=by simpa using hp
    rw [this];rfl
   go_wp2_with fail
   refine(HP.out _).mono ?_
   rintro e w3 ⟨rfl,hb3⟩
   go_wp2_with fail
   go_ret
   exact⟨AQ hspec2.out.symm,Bw.tr (hbw2.al _) hb3⟩
end
section
open Go.RowKit
def CAtomF (s:List Ax)(a:Ap):Prop:=∀(H:Hp) (xs x1 x2:Value) (w:World),Imm H w→DH H s xs→BQ H a x1 x2→Calls Tryz.prog 46 #[E1 xs,aggA a x1 x2] w (Pur w (.bool (BL s a)))
def CRefF (s:List Ax)(r:As):Prop:=∀(H:Hp) (xs x1 x2:Value) (w:World),Imm H w→DH H s xs→Cy H r x1 x2→Calls Tryz.prog 47 #[E1 xs,E8 r x1 x2] w (Pur w (.bool (AP s r)))
theorem refFormed_eq (s:List Ax)(r:As):AP s r=((r.named||BL s r.atom) && Eh s r):=by cases r;simp only [AP]
theorem override_li {s:List Ax}{r:As}{a:Ap}(h:AJ s r=some a)(hr:r.rel.toList.isEmpty=false)(hm:a.ma=[]):∃l lr,a.li=l::lr:=by
 unfold AJ at h
 split at h
 ·cases h
 ·rename_i b _
  rw [hr]at h
  simp only [Bool.false_eq_true,if_false,BG]at h
  rcases b with⟨sc,li,ma⟩
  rcases ma with _|⟨m,mr⟩
  ·rcases li with _|⟨l,lr⟩
   ·simp at h
   ·simp at h;subst h;exact⟨_,_,rfl⟩
  ·simp at h;subst h;simp at hm
theorem refF_of (s:List Ax)(r:As)(hA:r.named=false→CAtomF s r.atom):CRefF s r:=by
 intro H xs x1 x2 w hi hs hr
 have HR:=Lib.hid (fun y1 y2 w0 h0 h1=>Eg H s r xs y1 y2 w0 h0 hs h1)
 have HS0:=Lib.hid hs
 have HA:=Lib.hid hA
 clear hA
 obtain⟨aq,cq,rfl,_⟩:=hs
 obtain⟨_,_,hra⟩:=BP.1 hr
 obtain⟨a1,c1,a2,c2,rfl,rfl⟩:=hr.open
 rcases r with⟨named,name,⟨sc0,li0,ma0⟩,rel⟩
 simp only at *
 have hspec:Hid (AP s ⟨named,name,⟨sc0,li0,ma0⟩,rel⟩=((named||BL s ⟨sc0,li0,ma0⟩) && Eh s ⟨named,name,⟨sc0,li0,ma0⟩,rel⟩)):=refFormed_eq _ _
 go_enter Tryz.func47,Tryz.ntmps47
 go_upto_region 1 with(fail)
 go_cut [16] (fun s16 wx=>s16= .bool (!(named||BL s ⟨sc0,li0,ma0⟩))∧Bw w wx∧wx.heap[w.heap.size]?=some (.cells #[.slice aq s.length cq] 24)∧
  wx.heap[w.heap.size+1]?=some (.cells #[.bool named, .string name, .string sc0, .slice a1 li0.length c1, .slice a2 ma0.length c2, .string rel] 30))
 case first=>
  cases named
  ·go_wp2_with fail
   refine(HA.out (by first|trivial|rfl) H _ _ _ _ (hi.below Am) HS0.out hra).mono ?_
   rintro e w1 ⟨rfl,hb1⟩
   go_wp2_with fail
   go_meet
   exact⟨by simp,Bw.tr Am hb1,A2 hb1 (by repeat (first|(rw [Ad,if_pos (by simp;done)];done)|rw [Ad,if_neg (by simp;done)])),A2 hb1 (by repeat (first|(rw [Ad,if_pos (by simp;done)];done)|rw [Ad,if_neg (by simp;done)]))⟩
  ·go_wp2_with fail
   go_meet
   exact⟨by simp,Am,(by repeat (first|(rw [Ad,if_pos (by simp;done)];done)|rw [Ad,if_neg (by simp;done)])),(by repeat (first|(rw [Ad,if_pos (by simp;done)];done)|rw [Ad,if_neg (by simp;done)]))⟩
 case rest=>
  obtain⟨rfl,hbw,hx,hy⟩:=hcut
  have HX:=Lib.hid hx;have HY:=Lib.hid hy
  obtain⟨q1,f1⟩:=A1 hx
  obtain⟨q2,f2⟩:=A1 hy
  clear hx hy
  cases hn:(named||BL s ⟨sc0,li0,ma0⟩)
  ·go_wp2_with fail
   go_ret
   exact⟨AQ (by rw [hspec.out,hn];rfl),hbw⟩
  ·have hspec2:Hid (AP s ⟨named,name,⟨sc0,li0,ma0⟩,rel⟩=Eh s ⟨named,name,⟨sc0,li0,ma0⟩,rel⟩):=by unfold Hid;rw [hspec.out,hn];rfl
   clear hspec
   have HN:=Lib.hid hn
   clear hn
   go_wp2_with fail
   refine(HR.out _ _ _ (hi.below hbw) hr).mono ?_
   clear HR
   rintro e w2 hpost
   unfold Cx at hpost
   obtain⟨hb2,hpost⟩:=hpost
   have hbw2:Bw w w2:=hbw.tr hb2
   have HX2:=Lib.hid (A2 hb2 HX.out);have HY2:=Lib.hid (A2 hb2 HY.out)
   have hz2:w.heap.size+1<w2.heap.size:=A0 HY2.out
   clear q1 f1 q2 f2
   cases hqr:AJ s ⟨named,name,⟨sc0,li0,ma0⟩,rel⟩with
   |none=>
    rw [hqr]at hpost
    simp only at hpost
    subst hpost
    have hspec3:Hid (AP s ⟨named,name,⟨sc0,li0,ma0⟩,rel⟩=false):=by unfold Hid;rw [hspec2.out];simp [Eh,hqr]
    clear hqr
    go_wp2_with fail
    go_ret
    exact⟨AQ hspec3.out.symm,hbw2.al _⟩
   |some a=>
    rw [hqr]at hpost
    obtain⟨z1,z2,rfl,ha⟩:=hpost
    have HOL:=Lib.hid (fun h=>override_li hqr h)
    have hig:Imm (A6 H wc w2) w2:=Imm.grow (hi.below hbw) hb2
    have HSG:=Lib.hid (HS0.out.mono (hle_grow2 (hi.below hbw) hb2))
    obtain⟨hasc,⟨g1,k1,rfl,hng1,hlg1,hcg1,hatg1⟩,⟨g2,k2,rfl,hng2,hlg2,hcg2,hatg2⟩⟩:=Bd.1 ha
    unfold lim at hlg1 hlg2
    have HP:=Lib.hid (F3 ha)
    have hspec3:Hid (AP s ⟨named,name,⟨sc0,li0,ma0⟩,rel⟩=(AB a !=0 && (rel.toList.isEmpty||(AB a==1 && (match a.ma with
     |_::_=>rel.toList==sSep||rel.toList==An
     |[]=>rel.toList==An||(rel.toList==E3 && (match a.li with
      |[]=>false
      |l::_=>AS s l))))))):=by unfold Hid;rw [hspec2.out];unfold Eh;rw [hqr];rfl
    clear hqr ha hspec2
    have hpa:Hid (AB a=AB a):=rfl
    go_wp2_with fail
    cases hp0:(AB a==0)
    case true=>
     have hspec4:Hid (AP s ⟨named,name,⟨sc0,li0,ma0⟩,rel⟩=false):=by
      unfold Hid;rw [hspec3.out];have:(AB a !=0)=false:=by simpa using hp0
      rw [this];rfl
     refine(HP.out _).mono ?_
     rintro e w3 ⟨rfl,hb3⟩
     go_wp2_with fail
     go_ret
     exact⟨AQ hspec4.out.symm,(hbw2.al _).tr hb3⟩
    case false=>
    have hspec4:Hid (AP s ⟨named,name,⟨sc0,li0,ma0⟩,rel⟩=(rel.toList.isEmpty||(AB a==1 && (match a.ma with
     |_::_=>rel.toList==sSep||rel.toList==An
     |[]=>rel.toList==An||(rel.toList==E3 && (match a.li with
      |[]=>false
      |l::_=>AS s l)))))):=by
     unfold Hid;rw [hspec3.out];have:(AB a !=0)=true:=by simpa using hp0
     rw [this];rfl
    clear hspec3 hpa
    refine(HP.out _).mono ?_
    rintro e w3 ⟨rfl,hb3⟩
    have hbw3:Bw w w3:=(hbw2.al _).tr hb3
    have hbw23:Bw w2 w3:=Bw.tr A5 hb3
    have HX3:=Lib.hid (A2 hb3 (A3 HX2.out));have HY3:=Lib.hid (A2 hb3 (A3 HY2.out))
    have HB3:=Lib.hid (A2 (k:=w2.heap.size) (p:= .cells #[.string a.sc, .slice g1 a.li.length k1, .slice g2 a.ma.length k2] 28) hb3 (by repeat (first|(rw [Ad,if_pos (by simp;done)];done)|rw [Ad,if_neg (by simp;done)])))
    obtain⟨q1,f1⟩:=A1 HX3.out
    obtain⟨q2,f2⟩:=A1 HY3.out
    obtain⟨q3,f3⟩:=A1 HB3.out
    cases hre:rel.toList.isEmpty
    case true=>
     go_wp2_with fail
     go_ret
     exact⟨AQ (by rw [hspec4.out,hre];rfl),hbw3⟩
    case false=>
    have hspec5:Hid (AP s ⟨named,name,⟨sc0,li0,ma0⟩,rel⟩=(AB a==1 && (match a.ma with
     |_::_=>rel.toList==sSep||rel.toList==An
     |[]=>rel.toList==An||(rel.toList==E3 && (match a.li with
      |[]=>false
      |l::_=>AS s l))))):=by unfold Hid;rw [hspec4.out,hre];rfl
    clear hspec4
    go_wp2_with fail
    cases hp1:(AB a !=1)
    case true=>
     refine(HP.out _).mono ?_
     rintro e w4 ⟨rfl,hb4⟩
     go_wp2_with fail
     go_ret
     exact⟨AQ (by rw [hspec5.out];have:(AB a==1)=false:=(by simpa using hp1);rw [this];rfl),hbw3.tr hb4⟩
    case false=>
    have hspec6:Hid (AP s ⟨named,name,⟨sc0,li0,ma0⟩,rel⟩=(match a.ma with
     |_::_=>rel.toList==sSep||rel.toList==An
     |[]=>rel.toList==An||(rel.toList==E3 && (match a.li with
      |[]=>false
      |l::_=>AS s l)))):=by
     unfold Hid;rw [hspec5.out];have:(AB a==1)=true:=by simpa using hp1
     rw [this];rfl
    clear hspec5
    refine(HP.out _).mono ?_
    rintro e w4 ⟨rfl,hb4⟩
    have hbw4:=hbw3.tr hb4
    clear q1 f1 q2 f2 q3 f3
    have HX4:=Lib.hid (A2 hb4 HX3.out);have HY4:=Lib.hid (A2 hb4 HY3.out);have HB4:=Lib.hid (A2 hb4 HB3.out)
    obtain⟨q1,f1⟩:=A1 HX4.out
    obtain⟨q2,f2⟩:=A1 HY4.out
    obtain⟨q3,f3⟩:=A1 HB4.out
    have hig4:=(hig.below hbw23).below hb4
    rcases hma:a.ma with _|⟨m,mr⟩
    case cons=>
     have hml:0<a.ma.length:=by rw [hma];simp
     have hspec7:Hid (AP s ⟨named,name,⟨sc0,li0,ma0⟩,rel⟩=(rel.toList==sSep||rel.toList==An)):=by unfold Hid;rw [hspec6.out,hma]
     clear hma
     cases he1:(rel.toList==sSep)
     all_goals
      go_wp2_with fail
      go_ret
      exact⟨AQ (by rw [hspec7.out,he1];simp),hbw4⟩
    case nil=>
     have hml:¬0<a.ma.length:=by rw [hma];simp
     obtain⟨l,lr,hli⟩:=HOL.out hre hma
     have hspec7:Hid (AP s ⟨named,name,⟨sc0,li0,ma0⟩,rel⟩=(rel.toList==An||(rel.toList==E3 && AS s l))):=by unfold Hid;rw [hspec6.out,hma,hli]
     have hatl:=hatg1
     rw [hli]at hatl
     obtain⟨b3,o3,a3,c3,a4,c4,ak,ck,e3,hm,k0,k1',k2',k3,k4,k5,k6,k7⟩:=hatl.look0 hig4
     subst e3
     have hlen:0<a.li.length:=by rw [hli];simp
     have HI:=Lib.hid (items_c s l)
     clear hma hspec6 hli
     go_wp2_with fail
     cases he1:(rel.toList==An)
     case true=>
      go_quiet (fail)
      go_wp2_with fail
      go_ret
      exact⟨AQ (by rw [hspec7.out,he1];rfl),Below.trans hbw4 (Bw.dn Bw.rfl _|>.mono hbw4.size)⟩
     case false=>
     cases he2:(rel.toList==E3)
     case false=>
      go_quiet (fail)
      go_wp2_with fail
      go_ret
      exact⟨AQ (by rw [hspec7.out,he1,he2];rfl),hbw4.dn _⟩
     case true=>
      go_still_tail 13,(by kernel_rfl)
      change wpList _ _ _ _ _ (World.drew _)
      go_wp2_with fail
      refine(HI.out _ _ _ _ _ _ (hig4.below (Bw.dr Bw.rfl)) HSG.out hm).mono ?_
      rintro e w5 ⟨rfl,hb5⟩
      go_wp2_with fail
      go_ret
      exact⟨AQ (by rw [hspec7.out,he1,he2];simp),hbw4.dr.tr hb5⟩
end
section
open Go.RowKit
def CListF (s:List Ax)(l:B3):Prop:=∀(H:Hp) (xs x1 x2 xk:Value) (w:World),Imm H w→DH H s xs→D4 H l x1 x2 xk→Calls Tryz.prog 76 #[E1 xs,aggL l x1 x2 xk] w (Pur w (.bool (Ev s l)))
def CMapF (s:List Ax)(m:Bp):Prop:=∀(H:Hp) (xs xf x1 x2:Value) (w:World),Imm H w→DH H s xs→RMap H m xf x1 x2→Calls Tryz.prog 77 #[E1 xs,aggM m xf x1 x2] w (Pur w (.bool (Ei s m)))
theorem listF_of (s:List Ax)(l:B3)(hE:CRefF s l.elem):CListF s l:=by
 intro H xs x1 x2 xk w hi hs hl
 have HS0:=Lib.hid hs
 have HI:=Lib.hid (items_c s l)
 obtain⟨aq,cq,rfl,_⟩:=hs
 obtain⟨_,hk,hr⟩:=C8.1 hl
 obtain⟨a1,c1,a2,c2,rfl,rfl⟩:=hr.open
 obtain⟨ak,ck,rfl⟩:=hk.open
 have hspec:Hid (Ev s l=(AP s l.elem && (l.rel.toList==An||(l.rel.toList==E3 && AS s l)))):=by cases l;simp only [Hid,Ev]
 go_enter Tryz.func76,Tryz.ntmps76
 go_wp2_with fail
 cases hq:AP s l.elem
 all_goals
  have HQ:=Lib.hid hq
  clear hq
  refine(hE H _ _ _ _ (hi.below Am) HS0.out hr).mono ?_
  rintro e w1 ⟨rfl,hb1⟩
  rw [HQ.out]
 ·go_wp2_with fail
  go_ret
  exact⟨AQ (by rw [hspec.out,HQ.out];rfl),Bw.tr Am hb1⟩
 ·have hspec2:Hid (Ev s l=(l.rel.toList==An||(l.rel.toList==E3 && AS s l))):=by unfold Hid;rw [hspec.out,HQ.out];rfl
  have hbw:Bw w w1:=Bw.tr Am hb1
  have hx:=A2 (k:=w.heap.size) (p:= .cells #[.slice aq s.length cq] 24) hb1 (by repeat (first|(rw [Ad,if_pos (by simp;done)];done)|rw [Ad,if_neg (by simp;done)]))
  have hy:=A2 (k:=w.heap.size+1) (p:= .cells #[.bool l.elem.named, .string l.elem.name, .string l.elem.atom.sc, .slice a1 l.elem.atom.li.length c1, .slice a2 l.elem.atom.ma.length c2, .string l.elem.rel, .string l.rel, .slice ak l.keys.length ck] 67) hb1 (by repeat (first|(rw [Ad,if_pos (by simp;done)];done)|rw [Ad,if_neg (by simp;done)]))
  obtain⟨q1,f1⟩:=A1 hx
  obtain⟨q2,f2⟩:=A1 hy
  clear hx hy hspec
  cases he1:(l.rel.toList==An)
  case true=>
   go_wp2_with fail
   go_ret
   exact⟨AQ (by rw [hspec2.out,he1];rfl),hbw⟩
  case false=>
  cases he2:(l.rel.toList==E3)
  case false=>
   go_wp2_with fail
   go_ret
   exact⟨AQ (by rw [hspec2.out,he1,he2];rfl),hbw⟩
  case true=>
   go_wp2_with fail
   refine(HI.out _ _ _ _ _ _ (hi.below hbw) HS0.out hl).mono ?_
   rintro e w2 ⟨rfl,hb2⟩
   go_wp2_with fail
   go_ret
   exact⟨AQ (by rw [hspec2.out,he1,he2];simp),hbw.tr hb2⟩
theorem fieldFormed_eq (s:List Ax)(f:Au):fieldFormed s f=AP s f.type:=by cases f;rfl
theorem mapF_of (s:List Ax)(m:Bp)(hE:CRefF s m.elem)(hF:∀j (h:j<m.fields.length),CRefF s m.fields[j].type):CMapF s m:=by
 intro H xs xf x1 x2 w hi hs hm
 have HS0:=Lib.hid hs
 have HF:=Lib.hid hF
 clear hF
 obtain⟨aq,cq,rfl,_⟩:=hs
 obtain⟨_,hf,hr⟩:=Cl.1 hm
 have HN:=Lib.hid (noOther_c (BP.1 hr).2.2)
 obtain⟨a1,c1,a2,c2,rfl,rfl⟩:=hr.open
 obtain⟨af,cf,rfl,hnf,hlf,hcf,hatf⟩:=hf
 unfold lim at hlf
 rcases m with⟨fields,elem,rel⟩
 simp only at *
 have hspec:Hid (Ei s ⟨fields,elem,rel⟩=((rel.toList.isEmpty||rel.toList==sSep||rel.toList==An) && BB s [] fields && (Ds elem||AP s elem))):=by simp only [Hid,Ei]
 go_enter Tryz.func77,Tryz.ntmps77
 go_upto_region 1 with(fail)
 go_cut [21] (fun s21 wx=>s21= .bool (!(rel.toList.isEmpty||rel.toList==sSep||rel.toList==An))∧Bw w wx∧wx.heap[w.heap.size]?=some (.cells #[.slice aq s.length cq] 24)∧
  wx.heap[w.heap.size+1]?=some (.cells #[.slice af fields.length cf, .bool elem.named, .string elem.name, .string elem.atom.sc, .slice a1 elem.atom.li.length c1, .slice a2 elem.atom.ma.length c2, .string elem.rel, .string rel] 48))
 case first=>
  cases h1:rel.toList.isEmpty
  ·have h1n:(!rel.toList.isEmpty)=true:=by rw [h1];rfl
   cases h2:(rel.toList==sSep)
   ·have h2n:(rel.toList !=sSep)=true:=by simp [bne,h2]
    cases h3:(rel.toList==An)
    all_goals
     first|have h3n:(rel.toList !=An)=true:=by simp [bne,h3]
          |have h3n:(rel.toList !=An)=false:=by simp [bne,h3]
     go_wp2_with fail
     go_meet
     exact⟨by simp [h1,h2,h3],Am,(by repeat (first|(rw [Ad,if_pos (by simp;done)];done)|rw [Ad,if_neg (by simp;done)])),(by repeat (first|(rw [Ad,if_pos (by simp;done)];done)|rw [Ad,if_neg (by simp;done)]))⟩
   ·have h2n:(rel.toList !=sSep)=false:=by simp [bne,h2]
    go_wp2_with fail
    go_meet
    exact⟨by simp [h1,h2],Am,(by repeat (first|(rw [Ad,if_pos (by simp;done)];done)|rw [Ad,if_neg (by simp;done)])),(by repeat (first|(rw [Ad,if_pos (by simp;done)];done)|rw [Ad,if_neg (by simp;done)]))⟩
  ·have h1n:(!rel.toList.isEmpty)=false:=by rw [h1];rfl
   go_wp2_with fail
   go_meet
   exact⟨by simp [h1],Am,(by repeat (first|(rw [Ad,if_pos (by simp;done)];done)|rw [Ad,if_neg (by simp;done)])),(by repeat (first|(rw [Ad,if_pos (by simp;done)];done)|rw [Ad,if_neg (by simp;done)]))⟩
 case rest=>
  obtain⟨rfl,hbw,hx,hy⟩:=hcut
  have HX:=Lib.hid hx;have HY:=Lib.hid hy
  clear hx hy
  cases hn:(rel.toList.isEmpty||rel.toList==sSep||rel.toList==An)
  ·go_wp2_with fail
   go_ret
   exact⟨AQ (by rw [hspec.out,hn];rfl),hbw⟩
  ·have hspec2:Hid (Ei s ⟨fields,elem,rel⟩=(BB s [] fields && (Ds elem||AP s elem))):=by unfold Hid;rw [hspec.out,hn];rfl
   clear hspec
   obtain⟨q2,f2⟩:=A1 HY.out
   go_wp2_with fail
   clear q2 f2
   go_loopw [25] (fun i wr=>∃j:Nat,j≤fields.length∧i= .int .i64 j∧Hid (BB s [] fields=BB s (fields.take j) (fields.drop j))∧Bw wc wr) (fun i _=>fields.length - (intOf i).toNat)
   case atStart=>exact⟨0,by omega,rfl,by simp [Hid],Bw.rfl⟩
   case round=>
    obtain⟨j,hj,rfl,hd,hb⟩:=hrel
    have hir:=hi.below (hbw.tr hb)
    have hbr:=hbw.tr hb
    by_cases hjl:j<fields.length
    ·obtain⟨b,o,a3,c3,a4,c4,ad,cd,rfl,hv,k0,k1,k2,k3,k4,k5,k6,k7⟩:=hatf.look hir hjl
     have hdr:Hid (fields.drop j=fields[j]::fields.drop (j+1)):=C1 hjl
     have htk:Hid (fields.take (j+1)=fields.take j++[fields[j]]):=take_get hjl
     obtain⟨hvn,hvr,hvd⟩:=C3.1 hv
     have hyr:=A2 hb HY.out
     have hlt:w.heap.size+1<wr.heap.size:=A0 hyr
     obtain⟨t0,t1,t2,t3⟩:=ltx hlt
     obtain⟨u0,u1,u2,u3⟩:=ltx (by omega:w.heap.size<wr.heap.size)
     obtain⟨q2,f2⟩:=A1 hyr
     clear hyr
     go_wp2_with fail
     clear k0 k1 k2 k3 k4 k5 k6 k7 q2 f2
     obtain⟨wo,hwo⟩:∃wo:World,wo=wr:=⟨_,rfl⟩
     subst hwo
     go_loopw [35] (fun i wx=>∃t:Nat,t≤j∧i= .int .i64 t∧Hid (((fields.take j).any fun g=>g.name.toList==fields[j].name.toList)=(((fields.take j).drop t).any fun g=>g.name.toList==fields[j].name.toList))∧Bw wo wx∧
      wx.heap[wo.heap.size]?=some (.cells #[.string fields[j].name, .bool fields[j].type.named, .string fields[j].type.name, .string fields[j].type.atom.sc, .slice a3 fields[j].type.atom.li.length c3, .slice a4 fields[j].type.atom.ma.length c4, .string fields[j].type.rel, .slice ad fields[j].dflt.length cd] 45)) (fun i _=>j - (intOf i).toNat)
     case atStart=>exact⟨0,by omega,rfl,by simp [Hid],A5,A4⟩
     case round=>
      obtain⟨t,ht,rfl,hdt,hb2,hxf⟩:=hrel
      have hix:=hir.below hb2
      have hltx:wo.heap.size<wr.heap.size:=A0 hxf
      obtain⟨v0,v1,v2,v3⟩:=ltx hltx
      have HXF:=Lib.hid hxf
      obtain⟨q5,f5⟩:=A1 hxf
      clear hxf
      by_cases htj:t<j
      ·obtain⟨b2,o2,a5,c5,a6,c6,ae,ce,e2,hv2,k0,k1,k2,k3,k4,k5,k6,k7⟩:=hatf.look hix (by omega:t<fields.length)
       cases e2
       have hst:=Lib.hid (anyB_drop (p:=fun g=>g.name.toList==fields[j].name.toList) htj hj)
       cases hq:(fields[t].name.toList==fields[j].name.toList)
       all_goals
        go_wp2_with fail
       ·exact⟨⟨t+1,by omega,by go_num,by unfold Hid;rw [hdt.out,hst.out,hq,Bool.false_or],hb2.al _,A3 HXF.out⟩,by simp [intOf];omega⟩
       ·go_ret
        exact⟨AQ (by rw [hspec2.out,hd.out,hdr.out];simp only [BB];rw [hdt.out,hst.out,hq];rfl),(hbr.tr hb2).al _⟩
      ·have:t=j:=by omega
       subst this
       have hany:Hid (((fields.take t).any fun g=>g.name.toList==fields[t].name.toList)=false):=by unfold Hid;rw [hdt.out];simp
       obtain⟨q1,f1⟩:=A1 (A2 (hb.tr hb2) HX.out)
       obtain⟨x0,x1,x2,x3⟩:=ltx (by omega:w.heap.size<wr.heap.size)
       go_wp2_with fail
       refine(HF.out t hjl H _ _ _ _ hix HS0.out hvr).mono ?_
       rintro e w3 ⟨rfl,hb3⟩
       cases hq:AP s fields[t].type
       all_goals
        go_wp2_with fail
       ·go_ret
        exact⟨AQ (by rw [hspec2.out,hd.out,hdr.out];simp only [BB];rw [hany.out,fieldFormed_eq,hq];rfl),(hbr.tr hb2).tr hb3⟩
       ·refine⟨?_,by simp [intOf];omega⟩
        (repeat apply Exists.intro)
        exact⟨⟨t+1,by omega,by go_num,by unfold Hid;rw [hd.out,hdr.out,htk.out];simp only [BB];rw [hany.out,fieldFormed_eq,hq];rfl,(hb.tr hb2).tr hb3⟩,rfl⟩
    ·have:j=fields.length:=by omega
     subst this
     obtain⟨q1,f1⟩:=A1 (A2 hb HX.out)
     obtain⟨q2,f2⟩:=A1 (A2 hb HY.out)
     have hspec3:Hid (Ei s ⟨fields,elem,rel⟩=(Ds elem||AP s elem)):=by unfold Hid;rw [hspec2.out,hd.out];simp [BB]
     go_wp2_with fail
     refine(HN.out _).mono ?_
     rintro e w3 ⟨rfl,hb3⟩
     cases hno:Ds elem
     ·obtain⟨q1,f1⟩:=A1 (A2 (hb.tr hb3) HX.out)
      obtain⟨q2,f2⟩:=A1 (A2 (hb.tr hb3) HY.out)
      have hl3:w.heap.size+1<w3.heap.size:=A0 (A2 (hb.tr hb3) HY.out)
      go_wp2_with fail
      refine(hE H _ _ _ _ (hi.below (hbr.tr hb3)) HS0.out hr).mono ?_
      rintro e w4 ⟨rfl,hb4⟩
      go_wp2_with fail
      go_ret
      exact⟨AQ (by rw [hspec3.out,hno];simp),(hbr.tr hb3).tr hb4⟩
     ·go_wp2_with fail
      go_ret
      exact⟨AQ (by rw [hspec3.out,hno];rfl),hbr.tr hb3⟩
end
section
open Go.RowKit
theorem box_regrown {w:World}{k:Nat}{o:Obj}(h:w.heap[k]?=some o)(d:Nat)(os:Array Obj):(Go.Sort.grow (redrawn w d) os).heap[k]?=some o:=A2 (below_regrown w d os) h
theorem DL {w:World}{k:Nat}{c:Array Value}{t:Nat}(h:w.heap[k]?=some (.cells c t)):(∀d os i,(Go.Sort.grow (redrawn w d) os).cell? ⟨k,i,none⟩=c[i]?)∧∀d os i,(Go.Sort.grow (redrawn w d) os).frozen? ⟨k,i,none⟩=false:=
 ⟨fun d os=>(A1 (box_regrown h d os)).1,fun d os=>(A1 (box_regrown h d os)).2⟩
theorem atomF_c (s:List Ax):∀(z:Nat) (a:Ap),a.sz≤z→CAtomF s a:=by
 intro z
 induction z with
 |zero=>intro v hz;have:=v.sz_eq;omega
 |succ z ih=>
  intro a hz H xs x1 x2 w hi hs ha
  have HS0:=Lib.hid hs
  obtain⟨aq,cq,rfl,_⟩:=hs
  have hsz:=a.sz_eq
  have HP:=Lib.hid (F3 ha)
  obtain⟨hsc,⟨a1,d1,rfl,hn1,hl1,hc1,hat1⟩,⟨a2,d2,rfl,hn2,hl2,hc2,hat2⟩⟩:=Bd.1 ha
  rcases a with⟨sc,li,ma⟩
  simp only at *
  unfold lim at hl1 hl2
  have hspec:Hid (BL s ⟨sc,li,ma⟩=(scOk sc && AB ⟨sc,li,ma⟩ !=0 && Dg s li && DE s ma)):=by simp only [Hid,BL]
  have HL:∀l lr,li=l::lr→CListF s l:=by
   rintro l lr rfl
   refine listF_of s l (refF_of s _ fun _=>ih _ ?_)
   simp only [szLs]at hsz;have:=l.sz_eq;have:=l.elem.sz_eq;omega
  have HM:∀m mr,ma=m::mr→CMapF s m:=by
   rintro m mr rfl
   simp only [szMs]at hsz
   have h1:=m.sz_eq
   have h2:=m.elem.sz_eq
   refine mapF_of s m (refF_of s _ fun _=>ih _ (by omega)) (fun j h=>refF_of s _ fun _=>ih _ ?_)
   have h3:=F0 h
   have h4:=m.fields[j].sz_eq
   have h5:=m.fields[j].type.sz_eq
   omega
  have HL:=Lib.hid HL
  have HM:=Lib.hid HM
  clear ih
  go_enter Tryz.func46,Tryz.ntmps46
  cases hok:scOk sc
  case false=>
   have hok':=hok
   simp only [scOk,Bool.or_eq_false_iff]at hok'
   obtain⟨⟨⟨⟨k1,k2⟩,k3⟩,k4⟩,k5⟩:=hok'
   go_wp2_with fail
   go_ret
   exact⟨AQ (by rw [hspec.out,hok];rfl),Am⟩
  case true=>
   go_upto_block 0 with(fail)
   go_cut [7] from 8 to 12 (fun s7 wx=>s7= .bool true∧Bw w wx∧wx.heap[w.heap.size]?=some (.cells #[.slice aq s.length cq] 24)∧wx.heap[w.heap.size+1]?=some (.cells #[.string sc, .slice a1 li.length d1, .slice a2 ma.length d2] 28))
   case first=>
    have hok2:=hok
    simp only [scOk]at hok2
    cases k1:sc.toList.isEmpty
    ·cases k2:(sc.toList==Bv)
     ·cases k3:(sc.toList==Cg)
      ·cases k4:(sc.toList==C')
       ·have k5:(sc.toList==D1)=true:=by rw [k1,k2,k3,k4]at hok2;exact hok2
        clear hok2
        go_wp2_with fail
        go_meet
        exact⟨rfl,Am,(by repeat (first|(rw [Ad,if_pos (by simp;done)];done)|rw [Ad,if_neg (by simp;done)])),(by repeat (first|(rw [Ad,if_pos (by simp;done)];done)|rw [Ad,if_neg (by simp;done)]))⟩
       ·clear hok2
        go_wp2_with fail
        go_meet
        exact⟨rfl,Am,(by repeat (first|(rw [Ad,if_pos (by simp;done)];done)|rw [Ad,if_neg (by simp;done)])),(by repeat (first|(rw [Ad,if_pos (by simp;done)];done)|rw [Ad,if_neg (by simp;done)]))⟩
      ·clear hok2
       go_wp2_with fail
       go_meet
       exact⟨rfl,Am,(by repeat (first|(rw [Ad,if_pos (by simp;done)];done)|rw [Ad,if_neg (by simp;done)])),(by repeat (first|(rw [Ad,if_pos (by simp;done)];done)|rw [Ad,if_neg (by simp;done)]))⟩
     ·clear hok2
      go_wp2_with fail
      go_meet
      exact⟨rfl,Am,(by repeat (first|(rw [Ad,if_pos (by simp;done)];done)|rw [Ad,if_neg (by simp;done)])),(by repeat (first|(rw [Ad,if_pos (by simp;done)];done)|rw [Ad,if_neg (by simp;done)]))⟩
    ·clear hok2
     go_wp2_with fail
     go_meet
     exact⟨rfl,Am,(by repeat (first|(rw [Ad,if_pos (by simp;done)];done)|rw [Ad,if_neg (by simp;done)])),(by repeat (first|(rw [Ad,if_pos (by simp;done)];done)|rw [Ad,if_neg (by simp;done)]))⟩
   case rest=>
    obtain⟨rfl,hbw,hx,hy⟩:=hcut
    have HX:=Lib.hid hx;have HY:=Lib.hid hy
    obtain⟨q1,f1⟩:=DL hx
    obtain⟨q2,f2⟩:=DL hy
    clear hx hy
    have hi1:=hi.below hbw
    have hspec2:Hid (BL s ⟨sc,li,ma⟩=(!(AB ⟨sc,li,ma⟩==0|| !Dg s li) && DE s ma)):=by
     unfold Hid;rw [hspec.out,hok];cases hp:(AB ⟨sc,li,ma⟩==0)<;>simp [bne,hp]
    clear hspec
    go_upto_region 8 with(fail)
    go_cut [30] (fun s30 wx=>s30= .bool (AB ⟨sc,li,ma⟩==0|| !Dg s li)∧Bw wc wx)
    case first=>
     by_cases hp:AB ⟨sc,li,ma⟩=0
     ·have CP:=fun d os=>Calls.regrown_of (HP.out (Go.Sort.grow (redrawn wc d) os))
      rw [hp]at CP
      go_wp2_with fail
      refine wp_region_quiet_below (by kernel_rfl) (by kernel_rfl) ?_
      repeat (go_big_quiet_step (exact CP _ _))
      refine wpQuiet_nil ?_
      intro _ hw'
      obtain⟨⟨dq,osq⟩,hw''⟩:=hw'
      subst hw''
      go_wp2_with fail
      go_meet
      exact⟨by rw [hp];rfl,below_regrown wc dq osq⟩
     ·have hp1:(AB ⟨sc,li,ma⟩==0)=false:=by simp [hp]
      have hp2:decide (AB ⟨sc,li,ma⟩=0)=false:=by simp [hp]
      have CP:=fun d os=>Calls.regrown_of (HP.out (Go.Sort.grow (redrawn wc d) os))
      rcases li with _|⟨l,lr⟩
      ·go_wp2_with fail
       refine wp_region_quiet_below (by kernel_rfl) (by kernel_rfl) ?_
       repeat (go_big_quiet_step (exact CP _ _))
       refine wpQuiet_nil ?_
       intro _ hw'
       obtain⟨⟨dq,osq⟩,hw''⟩:=hw'
       subst hw''
       go_wp2_with fail
       go_meet
       exact⟨by rw [hp1];rfl,below_regrown wc dq osq⟩
      ·have hlen:decide ((0:Int)<((l::lr).length:Int))=true:=by simp
       have hlenp:(0:Int)<((l::lr).length:Int):=by simp
       obtain⟨b,o,a3,c3,a4,c4,ak,ck,rfl,hm,k0,k1,k2,k3,k4,k5,k6,k7⟩:=hat1.look0 hi1
       have g0:=cell_regrown k0
       have g1:=cell_regrown k1
       have g2:=cell_regrown k2
       have g3:=cell_regrown k3
       have g4:=cell_regrown k4
       have g5:=cell_regrown k5
       have g6:=cell_regrown k6
       have g7:=cell_regrown k7
       clear k0 k1 k2 k3 k4 k5 k6 k7
       have CL:=fun d os=>Calls.regrown_of (HL.out l lr rfl H _ _ _ _ (Go.Sort.grow (redrawn wc d) os) (hi1.below (below_regrown wc d os)) HS0.out hm)
       go_wp2_with fail
       refine wp_region_quiet_below (by kernel_rfl) (by kernel_rfl) ?_
       repeat (go_big_quiet_step (first|exact CP _ _|exact CL _ _))
       refine wpQuiet_nil ?_
       intro _ hw'
       obtain⟨⟨dq,osq⟩,hw''⟩:=hw'
       subst hw''
       go_wp2_with fail
       go_meet
       exact⟨by rw [hp1];simp [Dg],below_regrown wc dq osq⟩
    case rest=>
     clear q1 q2 f1 f2
     obtain⟨rfl,hbq⟩:=hcut
     cases hgo:(AB ⟨sc,li,ma⟩==0|| !Dg s li)
     ·have hspec3:Hid (BL s ⟨sc,li,ma⟩=DE s ma):=by unfold Hid;rw [hspec2.out,hgo];rfl
      go_wp2_with fail
      obtain⟨q1,f1⟩:=DL (A2 hbq HX.out)
      obtain⟨q2,f2⟩:=DL (A2 hbq HY.out)
      have hi2:=hi1.below hbq
      rcases ma with _|⟨m,mr⟩
      ·refine wp_region_quiet_below (by kernel_rfl) (by kernel_rfl) ?_
       repeat (go_big_quiet_step (fail))
       refine wpQuiet_nil ?_
       intro _ hw'
       obtain⟨⟨dq,osq⟩,hw''⟩:=hw'
       subst hw''
       go_wp2_with fail
       go_ret
       exact⟨AQ (by rw [hspec3.out];simp [DE]),(hbw.tr hbq).tr (below_regrown wc dq osq)⟩
      ·have hlen:(((m::mr).length:Int)==0)=false:=by simp;omega
       have hlen2:(((mr.length:Int)+1)==0)=false:=by simp;omega
       have hlen3:decide ((mr.length:Int)+1=0)=false:=by simp;omega
       have hlen4:¬((mr.length:Int)+1=0):=by omega
       have hlenp:(0:Int)<((m::mr).length:Int):=by simp
       obtain⟨b,o,af,cf,a3,c3,a4,c4,rfl,hm,k0,k1,k2,k3,k4,k5,k6,k7⟩:=hat2.look0 hi2
       have g0:=cell_regrown k0
       have g1:=cell_regrown k1
       have g2:=cell_regrown k2
       have g3:=cell_regrown k3
       have g4:=cell_regrown k4
       have g5:=cell_regrown k5
       have g6:=cell_regrown k6
       have g7:=cell_regrown k7
       clear k0 k1 k2 k3 k4 k5 k6 k7
       have CM:=fun d os=>Calls.regrown_of (HM.out m mr rfl H _ _ _ _ (Go.Sort.grow (redrawn wc d) os) (hi2.below (below_regrown wc d os)) HS0.out hm)
       refine wp_region_quiet_below (by kernel_rfl) (by kernel_rfl) ?_
       repeat (go_big_quiet_step (exact CM _ _))
       refine wpQuiet_nil ?_
       intro _ hw'
       obtain⟨⟨dq,osq⟩,hw''⟩:=hw'
       subst hw''
       go_wp2_with fail
       go_ret
       exact⟨AQ (by rw [hspec3.out];simp [DE]),(hbw.tr hbq).tr (below_regrown wc dq osq)⟩
     ·go_wp2_with fail
      go_ret
      exact⟨AQ (by rw [hspec2.out,hgo];rfl),hbw.tr hbq⟩
end
section
open Go.RowKit
theorem refF_c (s:List Ax)(r:As):CRefF s r:=refF_of s r fun _=>atomF_c s _ _ (Nat.le_refl _)
theorem wellFormed_c (H:Hp)(s:List Ax)(r:As)(xs x1 x2:Value)(w:World)(hi:Imm H w)(hs:DH H s xs)(hr:Cy H r x1 x2):
  Calls Tryz.prog 23 #[E1 xs,E8 r x1 x2] w (Pur w (.bool (Dz s r))):=by
 have HS0:=Lib.hid hs
 have HA:=Lib.hid (fun a=>atomF_c s a.sz a (Nat.le_refl _))
 have HR:=Lib.hid (refF_c s r)
 obtain⟨aq,cq,rfl,hnf,hlf,hcf,hatf⟩:=hs
 unfold lim at hlf
 obtain⟨a1,c1,a2,c2,rfl,rfl⟩:=hr.open
 have hspec:Hid (Dz s r=(BK s [] s && AP s r)):=rfl
 go_enter Tryz.func23,Tryz.ntmps23
 go_wp2_with fail
 obtain⟨wz,hwz⟩:∃wz,wz=(w.alloc (.cells #[.slice aq s.length cq] 24)).alloc (.cells #[.bool r.named, .string r.name, .string r.atom.sc, .slice a1 r.atom.li.length c1, .slice a2 r.atom.ma.length c2, .string r.rel] 30):=⟨_,rfl⟩
 have HX:Hid (wz.heap[w.heap.size]?=some (.cells #[.slice aq s.length cq] 24)):=by subst hwz;unfold Hid;repeat (first|(rw [Ad,if_pos (by simp;done)];done)|rw [Ad,if_neg (by simp;done)])
 have HY:Hid (wz.heap[w.heap.size+1]?=some (.cells #[.bool r.named, .string r.name, .string r.atom.sc, .slice a1 r.atom.li.length c1, .slice a2 r.atom.ma.length c2, .string r.rel] 30)):=by subst hwz;unfold Hid;repeat (first|(rw [Ad,if_pos (by simp;done)];done)|rw [Ad,if_neg (by simp;done)])
 have hbw:Bw w wz:=by subst hwz;exact Am
 rw [←hwz]
 clear hwz
 go_loopw [12] (fun i wr=>∃j:Nat,j≤s.length∧i= .int .i64 j∧Hid (BK s [] s=BK s (s.take j) (s.drop j))∧Bw wz wr) (fun i _=>s.length - (intOf i).toNat)
 case atStart=>exact⟨0,by omega,rfl,by simp [Hid],Bw.rfl⟩
 case round=>
  obtain⟨j,hj,rfl,hd,hb⟩:=hrel
  have hir:=hi.below (hbw.tr hb)
  have hbr:=hbw.tr hb
  by_cases hjl:j<s.length
  ·obtain⟨b,o,a3,c3,a4,c4,rfl,hv,hns,k0,k1,k2,k3⟩:=hatf.look hir hjl
   have hdr:Hid (s.drop j=s[j]::s.drop (j+1)):=C1 hjl
   have htk:Hid (s.take (j+1)=s.take j++[s[j]]):=take_get hjl
   have hyr:=A2 hb HX.out
   have hlt:w.heap.size<wr.heap.size:=A0 hyr
   obtain⟨u0,u1,u2,u3⟩:=ltx hlt
   obtain⟨q2,f2⟩:=A1 hyr
   clear hyr
   go_wp2_with fail
   clear k0 k1 k2 k3 q2 f2
   obtain⟨wo,hwo⟩:∃wo:World,wo=wr:=⟨_,rfl⟩
   subst hwo
   go_loopw [22] (fun i wx=>∃t:Nat,t≤j∧i= .int .i64 t∧Hid (((s.take j).any fun g=>g.name.toList==s[j].name.toList)=(((s.take j).drop t).any fun g=>g.name.toList==s[j].name.toList))∧Bw wo wx∧
    wx.heap[wo.heap.size]?=some (.cells #[.string s[j].name, .string s[j].atom.sc, .slice a3 s[j].atom.li.length c3, .slice a4 s[j].atom.ma.length c4] 72)) (fun i _=>j - (intOf i).toNat)
   case atStart=>exact⟨0,by omega,rfl,by simp [Hid],A5,A4⟩
   case round=>
    obtain⟨t,ht,rfl,hdt,hb2,hxf⟩:=hrel
    have hix:=hir.below hb2
    have hltx:wo.heap.size<wr.heap.size:=A0 hxf
    obtain⟨v0,v1,v2,v3⟩:=ltx hltx
    have HXF:=Lib.hid hxf
    obtain⟨q5,f5⟩:=A1 hxf
    clear hxf
    by_cases htj:t<j
    ·obtain⟨b2,o2,a5,c5,a6,c6,e2,hv2,hns2,k0,k1,k2,k3⟩:=hatf.look hix (by omega:t<s.length)
     cases e2
     have hst:=Lib.hid (anyB_drop (p:=fun g:Ax=>g.name.toList==s[j].name.toList) htj hj)
     cases hq:(s[t].name.toList==s[j].name.toList)
     all_goals
      go_wp2_with fail
     ·exact⟨⟨t+1,by omega,by go_num,by unfold Hid;rw [hdt.out,hst.out,hq,Bool.false_or],hb2.al _,A3 HXF.out⟩,by simp [intOf];omega⟩
     ·go_ret
      exact⟨AQ (by rw [hspec.out,hd.out,hdr.out];simp only [BK];rw [hdt.out,hst.out,hq];rfl),(hbr.tr hb2).al _⟩
    ·have:t=j:=by omega
     subst this
     have hany:Hid (((s.take t).any fun g=>g.name.toList==s[t].name.toList)=false):=by unfold Hid;rw [hdt.out];simp
     obtain⟨q1,f1⟩:=A1 (A2 (hb.tr hb2) HX.out)
     obtain⟨x0,x1,x2,x3⟩:=ltx (by omega:w.heap.size<wr.heap.size)
     go_wp2_with fail
     refine(HA.out s[t].atom H _ _ _ _ hix HS0.out hv).mono ?_
     rintro e w3 ⟨rfl,hb3⟩
     cases hq:BL s s[t].atom
     all_goals
      go_wp2_with fail
     ·go_ret
      exact⟨AQ (by rw [hspec.out,hd.out,hdr.out];simp only [BK];rw [hany.out,hq];rfl),(hbr.tr hb2).tr hb3⟩
     ·exact⟨⟨t+1,by omega,by go_num,by unfold Hid;rw [hd.out,hdr.out,htk.out];simp only [BK];rw [hany.out,hq];rfl,(hb.tr hb2).tr hb3⟩,by simp [intOf];omega⟩
  ·have:j=s.length:=by omega
   subst this
   obtain⟨q1,f1⟩:=A1 (A2 hb HX.out)
   obtain⟨q2,f2⟩:=A1 (A2 hb HY.out)
   have hlt:=A0 (A2 hb HY.out)
   have hspec3:Hid (Dz s r=AP s r):=by unfold Hid;rw [hspec.out,hd.out];simp [BK]
   go_wp2_with fail
   refine(HR.out H _ _ _ _ hir HS0.out hr).mono ?_
   rintro e w3 ⟨rfl,hb3⟩
   go_wp2_with fail
   go_ret
   exact⟨AQ (by rw [hspec3.out]),hbr.tr hb3⟩
end
section
open Go.RowKit
def bLt (a b:ByteArray):Bool:=Op.bytesLess a.toList b.toList
def A9 (ks:List ByteArray)(key:ByteArray):Nat:=(ks.takeWhile fun k=>bLt k key).length
def Ea (ks:List ByteArray)(key:ByteArray):Bool:=match ks[A9 ks key]? with|some k=>k.toList==key.toList|none=>false
def AN (ks:List ByteArray):Prop:=ks.Pairwise fun a b=>bLt a b=true
theorem bytesLess_trans:∀{a b c:List UInt8},Op.bytesLess a b=true→Op.bytesLess b c=true→Op.bytesLess a c=true
 |_,b,[],_,h=>by cases b<;>simp [Op.bytesLess]at h
 |a,[],c::zs,h,_=>by cases a<;>simp [Op.bytesLess]at h
 |[],b::ys,c::zs,_,_=>by simp [Op.bytesLess]
 |a::xs,b::ys,c::zs,h,g=>by
  simp only [Op.bytesLess,Bool.or_eq_true,decide_eq_true_eq,Bool.and_eq_true,beq_iff_eq]at h g⊢
  rcases h with h|⟨rfl,h⟩
  ·rcases g with g|⟨rfl,g⟩
   ·exact .inl (UInt8.lt_trans h g)
   ·exact .inl h
  ·rcases g with g|⟨rfl,g⟩
   ·exact .inl g
   ·exact .inr ⟨rfl,bytesLess_trans h g⟩
theorem F8 {a b c:ByteArray}(h:bLt a b=true)(g:bLt b c=true):bLt a c=true:=bytesLess_trans h g
theorem AN.get {ks:List ByteArray}(h:AN ks){i j:Nat}(hij:i<j)(hj:j<ks.length):bLt (ks[i]'(by omega)) ks[j]=true:=
 List.pairwise_iff_getElem.1 h i j (by omega) hj hij
theorem lowerIx_of {ks:List ByteArray}{key:ByteArray}{n:Nat}(hn:n≤ks.length)(hl:∀t (h:t<ks.length),t<n→bLt ks[t] key=true)(hr:∀(h:n<ks.length),bLt ks[n] key=false):A9 ks key=n:=by
 unfold A9
 induction ks generalizing n with
 |nil=>simp at hn;simp [hn]
 |cons k ks ih=>
  rcases n with _|n
  ·have:=hr (by simp)
   simp only [List.getElem_cons_zero]at this
   simp [List.takeWhile,this]
  ·have h0:=hl 0 (by simp) (by omega)
   simp only [List.getElem_cons_zero]at h0
   have:=ih (n:=n) (by simpa using hn) (fun t h ht=>by have:=hl (t+1) (by simpa using h) (by omega);simpa using this) (fun h=>by have:=hr (by simpa using h);simpa using this)
   simp [List.takeWhile,h0,this]
theorem fieldIndex_c (v:GV)(key:ByteArray)(H:Hp)(x4 x5:Value)(w:World)(hi:Imm H w)(hv:RV H v x4 x5)(hsort:AN v.ks):
  Calls Tryz.prog 127 #[Ar v x4 x5, .string key] w (Pur w (.tuple #[.int .i64 (A9 v.ks key), .bool (Ea v.ks key)])):=by
 obtain⟨hk,hn,hf,hs,h4,a5,c5,rfl,hn5,hl5,hc5,hat5⟩:=By.1 hv
 obtain⟨a4,c4,rfl,hn4,hl4,hc4,hat4⟩:=h4
 unfold lim at hl4 hl5 hs
 rcases v with⟨k,n,f,s,ks,l⟩
 unfold Ar
 simp only at *
 have HS:=Lib.hid hsort
 clear hsort
 go_enter Tryz.func127,Tryz.ntmps127
 go_wp2_with fail
 go_quiet (fail)
 go_wp2_with fail
 obtain⟨wz,hwz⟩:∃wz,wz=((w.alloc (.cells #[.int .i64 k, .int .i64 n, .float .f64 f, .string s, .slice a4 ks.length c4, .slice a5 l.length c5] 35)).drewN nq):=⟨_,rfl⟩
 have HX:Hid (wz.heap[w.heap.size]?=some (.cells #[.int .i64 k, .int .i64 n, .float .f64 f, .string s, .slice a4 ks.length c4, .slice a5 l.length c5] 35)):=by subst hwz;exact A2 (Bw.dn Bw.rfl nq) A4
 have hbw:Bw w wz:=by subst hwz;exact Bw.dn A5 nq
 rw [←hwz]
 clear hwz
 have hlow:∀(t u:Nat) (htu:t≤u) (hu:u<ks.length),bLt ks[u] key=true→bLt (ks[t]'(by omega)) key=true:=by
  intro t u htu hu h
  rcases Nat.lt_or_ge t u with g|g
  ·exact F8 (AN.get HS.out g hu) h
  ·have:t=u:=by omega
   subst this;exact h
 have HL:=Lib.hid hlow
 clear hlow
 have hiz:=hi.below hbw
 go_loopw [6,7] (fun x y wr=>∃lo up:Nat,lo≤up∧up≤ks.length∧x= .int .i64 lo∧y= .int .i64 up∧Hid (∀t (h:t<ks.length),t<lo→bLt ks[t] key=true)∧Hid (∀t (h:t<ks.length),up≤t→bLt ks[t] key=false)∧wr=wz) (fun x y _=>(intOf y).toNat - (intOf x).toNat)
 case atStart=>exact⟨0,ks.length,by omega,by omega,rfl,rfl,(by unfold Hid;intro t _ h;omega),(by unfold Hid;intro t h g;omega),rfl⟩
 case round=>
  obtain⟨lo,up,hlu,hup,rfl,rfl,hA,hB,rfl⟩:=hrel
  obtain⟨q1,f1⟩:=A1 HX.out
  by_cases hlt:lo<up
  ·obtain⟨d,rfl⟩:∃d,up=lo+d:=⟨up - lo,by omega⟩
   have hmid:lo+d / 2<ks.length:=by omega
   obtain⟨b,o,rfl,c0,hsz⟩:=hat4.look hiz hmid
   cases hq:Op.bytesLess ks[lo+d / 2].toList key.toList
   all_goals
    go_wp2_with fail
   ·exact⟨⟨lo,lo+d / 2,by omega,by omega,rfl,by go_num,hA,(by
     unfold Hid;intro t h ht
     cases hc:bLt ks[t] key
     ·rfl
     ·have:=HL.out _ t ht h hc
      unfold bLt at this;rw [hq]at this;cases this),trivial⟩,by simp [intOf];omega⟩
   ·exact⟨⟨lo+d / 2+1,lo+d,by omega,by omega,by go_num,by go_num,(by
     unfold Hid;intro t h ht
     exact HL.out t _ (by omega) hmid hq),hB,trivial⟩,by simp [intOf];omega⟩
  ·have:up=lo:=by omega
   subst this
   have hix:A9 ks key=up:=lowerIx_of hup (fun t h ht=>hA.out t h ht) (fun h=>hB.out up h (Nat.le_refl _))
   clear hlt
   go_wp2_with fail
   by_cases hul:up<ks.length
   ·obtain⟨b,o,rfl,c0,hsz⟩:=hat4.look hiz hul
    have hui:((up:Nat):Int)<ks.length:=by omega
    have hud:decide (((up:Nat):Int)<ks.length)=true:=by simp [hul]
    have hres:Ea ks key=(ks[up].toList==key.toList):=by unfold Ea;rw [hix,List.getElem?_eq_getElem hul]
    go_quiet (fail)
    go_wp2_with fail
    refine bodyPost_ret (v:= .tuple #[.int .i64 (A9 ks key), .bool (Ea ks key)]) (by simp [results,Tryz.results127,go_sem,hix,hres]) rfl ⟨rfl,Bw.dn hbw _⟩
   ·have hui:¬((up:Nat):Int)<ks.length:=by omega
    have hud:decide (((up:Nat):Int)<ks.length)=false:=by simp [hul]
    have hres:Ea ks key=false:=by unfold Ea;rw [hix,List.getElem?_eq_none (by omega)]
    go_quiet (fail)
    go_wp2_with fail
    refine bodyPost_ret (v:= .tuple #[.int .i64 (A9 ks key), .bool (Ea ks key)]) (by simp [results,Tryz.results127,go_sem,hix,hres]) rfl ⟨by simp [hix,hres],Bw.dn hbw _⟩
end
section
open Go.RowKit
def Ay:GV:=⟨0,0,0,⟨#[]⟩,[],[]⟩
def getF (v:GV)(key:ByteArray):Option GV:=if v.k=6∧Ea v.ks key=true then v.l[A9 v.ks key]? else none
def RetOptV (H:Hp)(w:World)(o:Option GV):Ending→World→Prop:=fun e w'=>Bw w w'∧match o with
 |some v=>∃x4 x5,e= .returned (.tuple #[Ar v x4 x5, .bool true])∧RV H v x4 x5
 |none=>e= .returned (.tuple #[Ar Ay (.slice none 0 0) (.slice none 0 0), .bool false])
theorem hasIx_lt {ks:List ByteArray}{key:ByteArray}(h:Ea ks key=true):∃hl:A9 ks key<ks.length,ks[A9 ks key].toList=key.toList:=by
 unfold Ea at h
 by_cases hl:A9 ks key<ks.length
 ·rw [List.getElem?_eq_getElem hl]at h
  exact⟨hl,by simpa using h⟩
 ·rw [List.getElem?_eq_none (by omega)]at h;cases h
theorem field_c (v:GV)(key:ByteArray)(H:Hp)(x4 x5:Value)(w:World)(hi:Imm H w)(hv:RV H v x4 x5)(hsort:AN v.ks)(hlen:v.ks.length=v.l.length):
  Calls Tryz.prog 131 #[Ar v x4 x5, .string key] w (RetOptV H w (getF v key)):=by
 have HI:=Lib.hid (fun w0 h0=>fieldIndex_c v key H x4 x5 w0 h0 hv hsort)
 obtain⟨hk,hn,hf,hs,h4,a5,c5,rfl,hn5,hl5,hc5,hat5⟩:=By.1 hv
 obtain⟨a4,c4,rfl,hn4,hl4,hc4,hat4⟩:=h4
 unfold lim at hl4 hl5 hs
 rcases v with⟨k,n,f,s,ks,l⟩
 unfold Ar
 simp only at *
 unfold Ar at HI
 simp only at HI
 have HLEN:=Lib.hid hlen
 clear hlen
 go_enter Tryz.func131,Tryz.ntmps131
 go_wp2_with fail
 refine(HI.out _ (hi.below Am)).mono ?_
 rintro e w1 ⟨rfl,hb1⟩
 have hx:=A2 (k:=w.heap.size) (p:= .cells #[.int .i64 k, .int .i64 n, .float .f64 f, .string s, .slice a4 ks.length c4, .slice a5 l.length c5] 35) hb1
  (by repeat (first|(rw [Ad,if_pos (by simp;done)];done)|rw [Ad,if_neg (by simp;done)]))
 have hy:=A2 (k:=w.heap.size+1) (p:= .cells #[.int .i64 0, .int .i64 0, .float .f64 0, .string {data:= #[]}, .slice none 0 0, .slice none 0 0] 35) hb1
  (by repeat (first|(rw [Ad,if_pos (by simp;done)];done)|rw [Ad,if_neg (by simp;done)]))
 have hbw:Bw w w1:=Bw.tr Am hb1
 have hz:w.heap.size+1<w1.heap.size:=A0 hy
 obtain⟨t0,t1,t2,t3⟩:=ltx hz
 obtain⟨r0,r1,r2,r3⟩:=ltx (by omega:w.heap.size<w1.heap.size)
 obtain⟨q1,f1⟩:=A1 hx
 obtain⟨q2,f2⟩:=A1 hy
 clear hx hy hb1
 have hi1:=hi.below hbw
 by_cases h6:k=6
 ·subst h6
  cases hq:Ea ks key
  ·have hspec:getF ⟨6,n,f,s,ks,l⟩ key=none:=by simp [getF,hq]
   go_wp2_with fail
   refine bodyPost_ret (v:= .tuple #[Ar Ay (.slice none 0 0) (.slice none 0 0), .bool false]) (by simp [results,Tryz.results131,go_sem,q1,q2,t0,t1,t2,t3,Ar,Ay]) rfl ?_
   unfold RetOptV
   rw [hspec]
   exact⟨(by repeat with_reducible (first|exact hbw|refine Bw.al ?_ _|refine Bw.set ?_ (by omega) _ _)),rfl⟩
  ·obtain⟨hlx,heq⟩:=hasIx_lt hq
   have hlx5:A9 ks key<l.length:=by have:=HLEN.out;omega
   have hspec:getF ⟨6,n,f,s,ks,l⟩ key=some l[A9 ks key]:=by simp [getF,hq,List.getElem?_eq_getElem hlx5]
   obtain⟨b,o,b4,d4,b5,d5,rfl,hv',c0,c1,c2,c3,c4',c5'⟩:=hat5.look hi1 hlx5
   go_wp2_with fail
   refine bodyPost_ret (v:= .tuple #[Ar l[A9 ks key] (.slice b4 l[A9 ks key].ks.length d4) (.slice b5 l[A9 ks key].l.length d5), .bool true]) (by simp [results,Tryz.results131,go_sem,q1,q2,t0,t1,t2,t3,Ar]) rfl ?_
   unfold RetOptV
   rw [hspec]
   exact⟨(by repeat with_reducible (first|exact hbw|refine Bw.al ?_ _|refine Bw.set ?_ (by omega) _ _)),_,_,rfl,hv'⟩
 ·have h6b:(k==6)=false:=by simp [h6]
  have h6n:(k !=6)=true:=by simp [bne,h6]
  have hspec:getF ⟨k,n,f,s,ks,l⟩ key=none:=by simp [getF,h6]
  go_wp2_with fail
  refine bodyPost_ret (v:= .tuple #[Ar Ay (.slice none 0 0) (.slice none 0 0), .bool false]) (by simp [results,Tryz.results131,go_sem,q1,q2,t0,t1,t2,t3,Ar,Ay]) rfl ?_
  unfold RetOptV
  rw [hspec]
  exact⟨(by repeat with_reducible (first|exact hbw|refine Bw.al ?_ _|refine Bw.set ?_ (by omega) _ _)),rfl⟩
end
end Go.Proofs.YtmghkmhgpmcoaaaGreat
