/- What the claim's theorem 'proved' rests on: SortK, FromTree. -/
import Derived.BigRegion
import Derived.Test.YtmghkmhgpmcoaaaGreatP15
import Derived.Test.YtmghkmhgpmcoaaaGreatP16
import Derived.Test.YtmghkmhgpmcoaaaGreatP28
set_option linter.unusedVariables false
set_option linter.unusedSimpArgs false
set_option maxRecDepth 100000
set_option maxHeartbeats 10000000
namespace Go.Proofs.YtmghkmhgpmcoaaaGreat
section
open Go Go.RowKit Go.MapKept
theorem nodup_len {α:Type}[BEq α][LawfulBEq α]:∀{l m:List α},l.Nodup→(∀x ∈ l,x ∈ m)→l.length≤m.length
 |[],_,_,_=>by simp
 |a::r,m,hn,h=>by
  have ha:=h a (by simp)
  have hr:=List.nodup_cons.1 hn
  have:=nodup_len (l:=r) (m:=m.erase a) hr.2 fun x hx=>by
   have hne:x≠a:=fun e=>hr.1 (e▸hx)
   exact(List.mem_erase_of_ne hne).2 (h x (by simp [hx]))
  rw [List.length_erase_of_mem ha]at this
  have:=List.length_pos_of_mem ha
  simp;omega
theorem own_cell {w:World}{base g e n c:Nat}{xs:List Value}(h:w.ownsRow base e 1 (.slice (some ⟨g,0,none⟩) n c) n xs){i:Nat}(hi:i<n):w.cell? ⟨g,i,none⟩=xs[i]?∧w.frozen? ⟨g,i,none⟩=false:=by
 rcases h.2 with⟨h1,_⟩|⟨g',cap,cur,h1,hb,hg,hnc,hcm,hcs,htake⟩
 ·cases h1
 ·cases h1
  obtain⟨q,f⟩:=A1 hg
  refine⟨?_,f i⟩
  rw [q i,←htake,List.getElem?_take_of_lt (by omega)]
  simp
theorem own_put {w:World}{base g e n c:Nat}{xs:List Value}(h:w.ownsRow base e 1 (.slice (some ⟨g,0,none⟩) n c) n xs){i:Nat}(hi:i<n)(u:Value):(w.setCell ⟨g,i,none⟩ u).ownsRow base e 1 (.slice (some ⟨g,0,none⟩) n c) n (xs.set i u):=by
 rcases h.2 with⟨h1,_⟩|⟨g',cap,cur,h1,hb,hg,hnc,hcm,hcs,htake⟩
 ·cases h1
 ·cases h1
  refine⟨by simpa using h.1, .inr ⟨g,c,cur.setIfInBounds i u,rfl,hb,Ae hg i u,hnc,hcm,by simpa using hcs, ?_⟩⟩
  rw [←htake,Array.toList_setIfInBounds,List.take_set]
theorem own_some {w:World}{base e n:Nat}{v:Value}{xs:List Value}(h:w.ownsRow base e 1 v (n+1) xs):∃g c,v= .slice (some ⟨g,0,none⟩) (n+1) c∧base≤g∧g<w.heap.size:=by
 rcases h.2 with⟨_,h1⟩|⟨g,cap,cur,h1,hb,hg,_⟩
 ·omega
 ·exact⟨g,cap,h1,hb,A0 hg⟩
structure SortSt (es:Array MapEntry) (ks:List ByteArray) (r ck:Nat) (w:World) (S:List ByteArray) (seen:Array Nat) (v:Value) (wr:World):Prop where
 bw:Bw w wr
 it:wr.heap[w.heap.size]?=some (.mapIter (some r) ck seen ck)
 own:wr.ownsRow (w.heap.size+1) 9 1 v S.length (S.map Value.string)
 sorted:AN S
 sub:∀k ∈ S,k ∈ ks
 left:∀(j:Nat) (e:MapEntry) (k:ByteArray),es[j]?=some e→ks[j]?=some k→(k ∈ S∨e ∈ (leftOf es seen).toList)
 right:∀(j:Nat) (e:MapEntry) (k:ByteArray),es[j]?=some e→ks[j]?=some k→e ∈ (leftOf es seen).toList→k ∉ S
structure SortIn (r ck:Nat) (w:World) (S:List ByteArray) (k:ByteArray) (seen:Array Nat) (v:Value) (A C:List ByteArray) (wr:World):Prop where
 bw:Bw w wr
 it:wr.heap[w.heap.size]?=some (.mapIter (some r) ck seen ck)
 own:wr.ownsRow (w.heap.size+1) 9 1 v (S.length+1) ((A++k::C).map Value.string)
 eq:A++C=S
 gt:∀x ∈ C,bLt k x=true
theorem sorted_ins {A C:List ByteArray}{k:ByteArray}(h:AN (A++C))(hC:∀x ∈ C,bLt k x=true)(hA:∀x ∈ A,bLt x k=true):AN (A++k::C):=by
 unfold AN at h⊢
 rw [List.pairwise_append]at h⊢
 refine⟨h.1,List.pairwise_cons.2 ⟨hC,h.2.1⟩,fun a ha b hb=> ?_⟩
 rcases List.mem_cons.1 hb with rfl|hb
 ·exact hA a ha
 ·exact h.2.2 a ha b hb
theorem SortIn.shut {es:Array MapEntry}{ks:List ByteArray}{r ck:Nat}{w:World}{S:List ByteArray}{k:ByteArray}{seen:Array Nat}{v:Value}{A C:List ByteArray}{wr:World}{j b:Nat}{e:MapEntry}
  (h:SortIn r ck w S k (seen.push b) v A C wr) (hs:AN S) (hsub:∀x ∈ S,x ∈ ks) (hst:Stamped es ck) (hnd:ks.Nodup) (hj:es[j]?=some e) (hk:ks[j]?=some k) (he:e.born=b)
  (hl:∀(i:Nat) (e:MapEntry) (x:ByteArray),es[i]?=some e→ks[i]?=some x→(x ∈ S∨e ∈ (leftOf es seen).toList))
  (hr:∀(i:Nat) (e:MapEntry) (x:ByteArray),es[i]?=some e→ks[i]?=some x→e ∈ (leftOf es seen).toList→x ∉ S) (hlast:∀z,A.getLast?=some z→bLt k z=false) (hkS:k ∉ S):
  SortSt es ks r ck w (A++k::C) (seen.push b) v wr:=by
 have hmem:∀x,x ∈ A++k::C↔x ∈ S∨x=k:=fun x=>by
  rw [←h.eq];simp only [List.mem_append,List.mem_cons]
  constructor
  ·rintro(h1|h1|h1)
   ·exact .inl (.inl h1)
   ·exact .inr h1
   ·exact .inl (.inr h1)
  ·rintro((h1|h1)|h1)
   ·exact .inl h1
   ·exact .inr (.inr h1)
   ·exact .inr (.inl h1)
 have hA:∀x ∈ A,bLt x k=true:=by
  intro x hx
  have hne:x≠k:=fun e=>hkS (by rw [←h.eq];simp [←e,hx])
  obtain⟨A',z,rfl⟩:∃A' z,A=A'++[z]:=⟨A.dropLast,A.getLast (by intro e;subst e;simp at hx),(List.dropLast_concat_getLast _).symm⟩
  have hz:=hlast z (by simp)
  have hzk:z≠k:=fun e=>hkS (by rw [←h.eq];simp [←e])
  have hzl:bLt z k=true:=by
   rcases bLt_tri z k with g|g|g
   ·exact g
   ·exact absurd g hzk
   ·rw [hz]at g;cases g
  rcases List.mem_append.1 hx with hx|hx
  ·have h2:=hs
   rw [←h.eq]at h2
   unfold AN at h2
   rw [List.pairwise_append]at h2
   have h3:=(List.pairwise_append.1 h2.1).2.2 x hx z (by simp)
   exact F8 h3 hzl
  ·simp at hx;subst hx;exact hzl
 refine⟨h.bw,h.it, ?_,sorted_ins (by rw [h.eq];exact hs) h.gt hA, ?_, ?_, ?_⟩
 ·have hlen:(A++k::C).length=S.length+1:=by rw [←h.eq];simp;omega
  rw [hlen];exact h.own
 ·intro x hx
  rcases(hmem x).1 hx with hx|rfl
  ·exact hsub x hx
  ·exact List.mem_of_getElem? hk
 ·intro i e2 x h2 hx
  by_cases hm:e2 ∈ (leftOf es (seen.push b)).toList
  ·exact .inr hm
  ·left
   rcases not_left (List.mem_of_getElem? (by simpa using h2)) hm with h1|h1
   ·rcases hl i e2 x h2 hx with h3|h3
    ·exact(hmem x).2 (.inl h3)
    ·exact absurd h3 h1
   ·have:=stamped_inj hst h2 hj (h1.trans he.symm)
    subst this
    rw [hk]at hx;cases hx
    exact(hmem k).2 (.inr rfl)
 ·intro i e2 x h2 hx hm hxs
  have hml:=mem_left hm
  have h3:=hml.2
  rw [contains_push]at h3
  rcases(hmem x).1 hxs with hxs|rfl
  ·refine hr i e2 x h2 hx (Array.mem_toList_iff.2 (Array.mem_filter.2 ⟨Array.mem_toList_iff.1 hml.1, ?_⟩)) hxs
   have h4:=(Bool.or_eq_false_iff.1 h3).1
   rw [h4];rfl
  ·have hij:i=j:=by
    have h5:i<ks.length:=(List.getElem?_eq_some_iff.1 hx).1
    have h6:j<ks.length:=(List.getElem?_eq_some_iff.1 hk).1
    exact(List.getElem_inj hnd).1 ((List.getElem?_eq_some_iff.1 hx).2.trans (List.getElem?_eq_some_iff.1 hk).2.symm)
   subst hij
   rw [hj]at h2;cases h2
   rw [he]at h3;simp at h3
theorem list_snoc {α:Type}(A:List α):A=[]∨∃A' z,A=A'++[z]:=by
 rcases A with _|⟨a,r⟩
 ·exact .inl rfl
 ·exact .inr ⟨(a::r).dropLast,(a::r).getLast (by simp),(List.dropLast_concat_getLast _).symm⟩
theorem swap_row {α:Type}(A C:List α)(z k:α):((A++[z]++k::C).set (A.length+1) z).set A.length k=A++k::(z::C):=by
 rw [show A++[z]++k::C=A++(z::k::C) by simp]
 rw [List.set_append_right _ _ (by omega)]
 rw [List.set_append_right _ _ (by omega)]
 simp
def RetKeys (ks:List ByteArray)(w:World):Ending→World→Prop:=fun e w'=>Bw w w'∧∃v,e= .returned v∧w'.ownsRow (w.heap.size+1) 9 1 v (AV ks).length ((AV ks).map Value.string)
theorem sortedKeys_c {H:Hp}{r:Nat}{ks:List ByteArray}{vs:List JT}{es:Array MapEntry}{ck:Nat}(h:Cw H r ks vs es ck)(w:World)(hi:Imm H w):
  Calls Tryz.prog 91 #[.map (some r)] w (RetKeys ks w):=by
 have q:=hi _ _ h.at_
 have hrg:=run_range_j q
 have HA:=Lib.hid (And.intro h hi)
 have hltr:r<w.heap.size:=A0 q
 clear h hi q
 go_enter Tryz.func91,Tryz.ntmps91
 go_wp2_with fail
 clear hrg
 go_loopw [3] (fun v wr=>∃S seen,SortSt es ks r ck w S seen v wr) (fun _ wr=>(leftOf es (wr.iterSeen w.heap.size)).size)
 case atStart=>
  exact⟨[], #[],A5,A4,World.ownsRow_nil _ _ _ _,List.Pairwise.nil,by simp,fun j e k he _=> .inr (Classical.byContradiction fun hx=>left_none (List.mem_of_getElem? (by simpa using he)) hx),by simp⟩
 case round=>
  rename_i wr
  obtain⟨S,seen,hs⟩:=hrel
  have HI:=Lib.hid hs
  obtain⟨ao,co,rfl⟩:=Aj hs.own
  have hiw:=HA.out.2.below hs.bw
  have hbox:=hs.it
  clear hs
  rcases iter_next hbox (hiw _ _ HA.out.1.at_) (by omega) HA.out.1.stamped with⟨hz,hnx⟩|⟨e,he,w2,ht,hx,hnx,hen⟩
  ·have HZ:=Lib.hid hz
   clear hz hbox
   go_wp2_with fail
   go_ret
   have hS:S=AV ks:=(sortK_eq HI.out.sorted fun x=>⟨HI.out.sub x,fun hxk=>by
    obtain⟨j,hj,rfl⟩:=List.mem_iff_getElem.1 hxk
    have hje:j<es.size:=by rw [HA.out.1.size];exact hj
    rcases HI.out.left j _ _ (Array.getElem?_eq_getElem hje) (List.getElem?_eq_getElem hj)with h1|h1
    ·exact h1
    ·exfalso
     have h2:(leftOf es seen)= #[]:=Array.size_eq_zero_iff.1 HZ.out
     rw [h2]at h1;simp at h1⟩).symm
   subst hS
   exact⟨HI.out.bw,_,rfl,HI.out.own⟩
  ·have hown:=HA.out.1.own hiw
   obtain⟨j,hj,k,hk,hje,hkey,hks,hv⟩:=hown.entry (mem_left he).1
   rw [hkey]at hnx hen
   have hbw2:Bw w w2:=HI.out.bw.turn (Nat.le_refl _) ht
   have hkS:k ∉ S:=HI.out.right j e k hje hk he
   have hlen:S.length+1≤ks.length:=by
    have:=nodup_len (l:=k::S) (m:=ks) (List.nodup_cons.2 ⟨hkS,HI.out.sorted.nodup⟩) (fun x hx=>by
     rcases List.mem_cons.1 hx with rfl|hx
     ·exact List.mem_of_getElem? hk
     ·exact HI.out.sub x hx)
    simpa using this
   have hown2:w2.ownsRow (w.heap.size+1) 9 1 (.slice ao S.length co) S.length (S.map Value.string):=by
    refine HI.out.own.kept (row:=some w.heap.size) ⟨ht.os,ht.tape,ht.output,by rw [ht.size];exact Nat.le_refl _,fun b hb hne=>ht.block b (fun e=>hne (by rw [e]))⟩ ?_
    right;intro e;have:=(HI.out.own.lt _ e).1;omega
   have HE:=Lib.hid (And.intro he (And.intro hje (And.intro hk (And.intro hx (And.intro hbw2 (And.intro hkS (And.intro hlen hown2)))))))
   have hlw2:w.heap.size<w2.heap.size:=A0 hx
   have hva:=Lib.hid hv.isAny
   clear he hje hkey hks hv hown ht hx hk hbw2 hown2 hbox hkS hlen
   go_wp2_with (at_builtin;refine AF _ rfl (.tmp 12) (.tmp 14) 32 rfl (w.heap.size+1) 9 (.string ⟨#[]⟩) 1 16 und_strs info_str rfl (by decide) (by decide) (.slice ao S.length co) S.length (S.map Value.string) rfl ((Cq HE.out.2.2.2.2.2.2.2 A5)) w2.heap.size _ 9 rfl A4 rfl (by simp [Value.oneCell']) (by have:=HE.out.2.2.2.2.2.2.1;have:=HA.out.1.lim_;omega) (by simp;omega) ?_)
   intro v' w3 ho2 hg2 hwh2
   obtain⟨g,c',rfl,hg0,hgl⟩:=own_some ho2
   have hit:w3.heap[w.heap.size]?=some (.mapIter (some r) ck (seen.push e.born) ck):=by
    rw [hg2.block _ (by simp;omega) (fun h=>by have:=(HE.out.2.2.2.2.2.2.2.lt _ h.symm).1;omega)]
    exact A3 HE.out.2.2.2.1
   have hin:SortIn r ck w S k (seen.push e.born) (.slice (some ⟨g,0,none⟩) (S.length+1) c') S [] w3:=
    ⟨Bi (HE.out.2.2.2.2.1.al _) hg2 (fun b hb=>by have:=(HE.out.2.2.2.2.2.2.2.lt _ hb).1;omega),hit,by simpa using ho2,by simp,by simp⟩
   have HIN:=Lib.hid hin
   have HG:=Lib.hid (And.intro hg0 hgl)
   have hll:S.length+1≤4294967296:=by have:=HE.out.2.2.2.2.2.2.1;have:=HA.out.1.lim_;unfold lim at this;omega
   clear ho2 hg2 hwh2 hit hin hnx hen hg0 hgl
   go_wp2_with fail
   go_loopw [5] (fun i wr2=>∃A C,i= .int .i64 (A.length:Int)∧SortIn r ck w S k (seen.push e.born) (.slice (some ⟨g,0,none⟩) (S.length+1) c') A C wr2) (fun i _=>(intOf i).toNat)
   case atStart=>exact⟨S,[],by go_num,HIN.out⟩
   case round=>
    obtain⟨A,C,rfl,hin⟩:=hrel
    have HN:=Lib.hid hin
    have hAC:A.length+C.length=S.length:=by rw [←hin.eq];simp
    have OUT:Hid (∀wx:World,(∀z,A.getLast?=some z→bLt k z=false)→Bw wr wx→(∃S2 seen2,SortSt es ks r ck w S2 seen2 (.slice (some ⟨g,0,none⟩) (S.length+1) c') wx)∧wx.iterSeen w.heap.size=seen.push e.born):=by
     intro wx hz hbx
     have h0:=HN.out
     have h1:SortIn r ck w S k (seen.push e.born) (.slice (some ⟨g,0,none⟩) (S.length+1) c') A C wx:=⟨h0.bw.tr hbx,A2 hbx h0.it,Cq h0.own hbx,h0.eq,h0.gt⟩
     exact⟨⟨_,_,h1.shut HI.out.sorted HI.out.sub HA.out.1.stamped HA.out.1.nodup HE.out.2.1 HE.out.2.2.1 rfl HI.out.left HI.out.right hz HE.out.2.2.2.2.2.1⟩,CN h1.it⟩
    have hown3:=hin.own
    rcases list_snoc A with rfl|⟨A',z,rfl⟩
    ·clear hin hown3
     go_wp2_with fail
     go_quiet (fail)
     go_wp2_with fail
     go_roundw
     case rel=>exact(OUT.out _ (by simp) (Bw.dn Bw.rfl nq)).1
     case measure=>
      rw [(OUT.out _ (by simp) (Bw.dn Bw.rfl nq)).2,CN HI.out.it]
      exact left_shrinks es seen _ HE.out.1
    ·obtain⟨m,hm⟩:∃m,m=A'.length:=⟨_,rfl⟩
     have hlA:(A'++[z]).length=m+1:=by simp [hm]
     have hmS:m+1<S.length+1:=by rw [hlA]at hAC;omega
     have c1:=own_cell hown3 (i:=m+1) (by omega)
     have c2:=own_cell hown3 (i:=m) (by omega)
     have e1:((A'++[z]++k::C).map Value.string)[m+1]?=some (.string k):=by
      rw [List.getElem?_map,List.getElem?_append_right (by omega),hlA];simp
     have e2:((A'++[z]++k::C).map Value.string)[m]?=some (.string z):=by
      rw [List.getElem?_map,List.getElem?_append_left (by omega),List.getElem?_append_right (by omega),hm];simp
     rw [e1]at c1
     rw [e2]at c2
     obtain⟨c1,f1⟩:=c1
     obtain⟨c2,f2⟩:=c2
     have hgl3:g<wr.heap.size:=Ah c1
     rw [hlA,show(((m+1:Nat):Int))=(m:Int)+1 by omega]
     have p1:(0:Int)<(m:Int)+1:=by omega
     have p2:(m:Int)+1<(S.length:Int)+1:=by omega
     have p2':(m:Int)<(S.length:Int):=by omega
     have p3:(m:Int)+1 - 1=(m:Int):=by omega
     have p4:(m:Int)<(S.length:Int)+1:=by omega
     have p5:((m:Int)+1).toNat=m+1:=by omega
     have p6:(0:Int)≤(m:Int)+1:=by omega
     have HMM:=Lib.hid hm
     clear hin hown3 hlA e1 e2 hm hAC
     cases hq:Op.bytesLess k.toList z.toList
     ·go_wp2_with fail
      go_quiet (fail)
      go_wp2_with fail
      go_roundw
      case rel=>exact(OUT.out _ (by intro z' hz';simp at hz';subst hz';exact hq) (Bw.dn Bw.rfl nq)).1
      case measure=>
       rw [(OUT.out _ (by intro z' hz';simp at hz';subst hz';exact hq) (Bw.dn Bw.rfl nq)).2,CN HI.out.it]
       exact left_shrinks es seen _ HE.out.1
     ·go_wp2_with fail
      go_quiet (fail)
      go_wp2_with fail
      go_region
      all_goals go_wp2_with fail
      go_roundw
      case rel=>
       refine⟨A',z::C,by rw [←HMM.out], ?_⟩
       have h0:=HN.out
       have hg:=HG.out.1
       have hmm:=HMM.out
       refine⟨((Bw.dn h0.bw (nq+1)).set (by omega) _ _).set (by omega) _ _,Cd (Cd (A2 (Bw.dn Bw.rfl _) h0.it) (by omega) _ _) (by omega) _ _, ?_,by rw [←h0.eq];simp, ?_⟩
       ·have h1:=own_put (own_put (Cq h0.own (Bw.dn Bw.rfl (nq+1))) (i:=m+1) (by omega) (.string z)) (i:=m) (by omega) (.string k)
        have h2:(((A'++[z]++k::C).map Value.string).set (m+1) (.string z)).set m (.string k)=(A'++k::(z::C)).map Value.string:=by
         rw [←List.map_set,←List.map_set,hmm,swap_row]
        rw [h2]at h1
        exact h1
       ·intro x hx
        rcases List.mem_cons.1 hx with rfl|hx
        ·exact hq
        ·exact h0.gt x hx
      case measure=>simp [intOf]
end
section
open Go Go.RowKit Go.MapKept
abbrev E0:Hp:=fun _=>none
theorem E0i (w:World):Imm E0 w:=fun _ _ e=>by cases e
def CFrom (t:JT):Prop:=∀(H:Hp) (x:Value) (w:World),Imm H w→RJ H t x→Calls Tryz.prog 57 #[x] w (RetV E0 w (AE t))
def CY (kk:Int)(x4 v:Value):Obj:= .cells #[.int .i64 kk, .int .i64 0, .float .f64 0, .string ⟨#[]⟩,x4,v] 35
def PLf (H:Hp)(w wx wr:World)(b:Nat)(kk:Int)(x4:Value)(ts:List GV)(v:Value)(j:Nat):Prop:=∃L:List VC,wr.heap[b]?=some (CY kk x4 v)∧
 wr.ownsRow wx.heap.size 35 6 v j (AL L)∧L.map VC.v=ts.take j∧(∀t ∈ L,RV (AX H wx wr v.ownBlock) t.v t.x4 t.x5)∧Bw w wr∧wx.heap.size≤wr.heap.size∧∀k,k<wx.heap.size→k≠b→wr.heap[k]?=wx.heap[k]?
theorem PLf.step {H:Hp}{w wx wr wd w1 w2:World}{b:Nat}{kk:Int}{x4:Value}{ts:List GV}{v v2:Value}{j:Nat}{L:List VC}{f:VC}{O:Obj}
  (hi:Imm H wx) (hbl:w.heap.size≤b) (hbx:b<wx.heap.size)
  (hb:wr.heap[b]?=some (CY kk x4 v))
  (ho:wr.ownsRow wx.heap.size 35 6 v j (AL L)) (hL:L.map VC.v=ts.take j) (hQ:∀t ∈ L,RV (AX H wx wr v.ownBlock) t.v t.x4 t.x5) (hbr:Bw w wr) (hsr:wx.heap.size≤wr.heap.size) (hfr:∀k,k<wx.heap.size→k≠b→wr.heap[k]?=wx.heap[k]?)
  (hd:Bw wr wd) (hb1:Bw wd w1) (hj:j<ts.length) (hft:f.v=ts[j]) (hq:RV (A6 H wd w1) f.v f.x4 f.x5)
  (ho2:w2.ownsRow wx.heap.size 35 6 v2 (j+1) (AL L++f.cells)) (hg:(w1.alloc O).grownBy w2 v.ownBlock) (hv:v2.ownBlock=v.ownBlock∨v2.ownBlock=some (w1.alloc O).heap.size):
  PLf H w wx (w2.setCell ⟨b,5,none⟩ v2) b kk x4 ts v2 (j+1):=by
 have hr1:Bw wr w1:=hd.tr hb1
 have hs1:=hr1.size
 have hsd:=hd.size
 have hsd1:=hb1.size
 have hsg:=hg.size
 simp at hsg
 have own:∀k,v.ownBlock=some k→wx.heap.size≤k∧k<wr.heap.size:=fun k hk=>ho.lt k hk
 have keep:∀k,k<w1.heap.size→v.ownBlock≠some k→k≠b→(w2.setCell ⟨b,5,none⟩ v2).heap[k]?=w1.heap[k]?:=by
  intro k hk hne hkb
  rw [Ag _ _ _ _ _ hkb,hg.block k (by simp;omega) (fun e=>hne e.symm),Ad,if_neg (by omega)]
 have hv2:∀k,k<w1.heap.size→v.ownBlock≠some k→v2.ownBlock≠some k:=by
  intro k hk hne
  rcases hv with e|e
  ·rw [e];exact hne
  ·rw [e];intro h;cases h;simp at hk;omega
 have hnb:v.ownBlock≠some b:=fun e=>by have:=(own b e).1;omega
 refine⟨L++[f], ?_, ?_, ?_, ?_, ?_, ?_, ?_⟩
 ·have h1:w2.heap[b]?=wr.heap[b]?:=by
   rw [hg.block b (by simp;omega) (fun e=>hnb e.symm),Ad,if_neg (by omega),hr1.block b (by omega)]
  have:=Ae (h1.trans hb) 5 v2
  unfold CY
  simpa using this
 ·rw [DJ,Ek];exact Bj ho2 hbx
 ·rw [List.map_append,hL,List.take_succ_eq_append_getElem hj];simp [hft]
 ·intro t ht
  rcases List.mem_append.1 ht with ht|ht
  ·refine(hQ t ht).mono (BE fun k o hk e hne=> ?_)
   have hkl:=A0 e
   refine⟨hv2 k (by omega) hne, ?_⟩
   rw [keep k (by omega) hne (by omega),hr1.block k hkl];exact e
  ·simp at ht;subst ht
   refine hq.mono (B7 hi (by omega) fun k o hk e=> ?_)
   have hkl:=A0 e
   have hne:v.ownBlock≠some k:=fun h=>by have:=(own k h).2;omega
   exact⟨hv2 k hkl hne,by rw [keep k hkl hne (by omega)];exact e⟩
 ·refine Bw.set (Bi ((hbr.tr hr1).al O) hg fun k hk=> ?_) hbl _ _
  have:=(own k hk).1;omega
 ·simp;omega
 ·intro k hk hkb
  have hne:v.ownBlock≠some k:=fun h=>by have:=(own k h).1;omega
  rw [keep k (by omega) hne hkb,hr1.block k (by omega)];exact hfr k hk hkb
def six6 (w:World)(b:Nat)(kk:Int)(x4 x5:Value):World:=(((((w.setCell ⟨b,0,none⟩ (.int .i64 kk)).setCell ⟨b,1,none⟩ (.int .i64 0)).setCell ⟨b,2,none⟩ (.float .f64 0)).setCell ⟨b,3,none⟩ (.string ⟨#[]⟩)).setCell ⟨b,4,none⟩ x4).setCell ⟨b,5,none⟩ x5
theorem six6_turn (w:World)(b:Nat)(kk:Int)(x4 x5:Value):Az w (six6 w b kk x4 x5) b:=((((((Az.refl w b).set _ _).set _ _).set _ _).set _ _).set _ _).set _ _
theorem PLf.shut {H:Hp}{w wx wr w2:World}{b b0:Nat}{kk:Int}{x4 v:Value}{ts:List GV}(h:PLf H w wx wr b kk x4 ts v ts.length)(hi:Imm H w)(hs:w.heap.size≤wx.heap.size)(hl:ts.length≤lim)(t:Az wr w2 b0)(hb0:b0<wx.heap.size):RVs (A6 H w w2) ts v:=by
 obtain⟨L,hb,ho,hL,hQ,hbr,hsr,hfr⟩:=h
 rw [List.take_length]at hL
 have hLl:L.length=ts.length:=by rw [←hL];simp
 rw [←hLl]at ho
 have hgo:∀g,v.ownBlock=some g→wx.heap.size≤g:=fun g hg=>(ho.lt g hg).1
 have ho2:w2.ownsRow wx.heap.size 35 6 v L.length (AL L):=by
  refine ho.kept (row:=some b0) ⟨t.os,t.tape,t.output,by rw [t.size];exact Nat.le_refl _,fun k hk hne=>t.block k (fun e=>hne (by rw [e]))⟩ ?_
  right;intro e;have:=hgo _ e;omega
 have:=Db (H:=A6 H w w2) ho2 (by
  intro g hg
  have:=hgo g hg
  unfold A6;rw [if_neg (by omega)]) (by omega) fun t' ht=>(hQ t' ht).mono (Bc hi hs fun k o hk e hne=>by rw [t.block k (by omega)];exact e)
 rwa [hL]at this
theorem fromTree_list (l:List JT)(hc:∀j (h:j<l.length),CFrom l[j]):CFrom (.list l):=by
 intro H x w hi hr
 simp only [RJ]at hr
 obtain⟨a,c,rfl,hnil,hl,hlc,hat⟩:=hr
 have HL:=Lib.hid hl
 have HC:=Lib.hid (And.intro hc hat)
 clear hc hnil hat
 unfold lim at hl
 go_enter Tryz.func57,Tryz.ntmps57
 go_upto_region 19 with(fail)
 obtain⟨wx,hwx⟩:∃wx,wx=(w.alloc (CY 0 (.slice none 0 0) (.slice none 0 0))).alloc (CY 5 (.slice none 0 0) (.slice none 0 0)):=⟨_,rfl⟩
 have HX:Hid (Bw w wx∧wx.heap[w.heap.size]?=some (CY 0 (.slice none 0 0) (.slice none 0 0))∧wx.heap[w.heap.size+1]?=some (CY 5 (.slice none 0 0) (.slice none 0 0))∧wx.heap.size=w.heap.size+2):=by
  subst hwx;exact⟨Am,Cs,BF,by simp⟩
 unfold CY at hwx
 rw [←hwx]
 clear hwx
 go_wp2_with fail
 go_loopw [43] (fun i wr=>∃(j:Nat) (v:Value),j≤l.length∧i= .int .i64 j∧PLf E0 w wx wr (w.heap.size+1) 5 (.slice none 0 0) (BT l) v j) (fun i _=>l.length - (intOf i).toNat)
 case atStart=>exact⟨0, .slice none 0 0,by omega,rfl,[],HX.out.2.2.1,World.ownsRow_nil _ _ _ _,by simp,by simp,HX.out.1,Nat.le_refl _,fun _ _ _=>rfl⟩
 case round=>
  rename_i wr
  obtain⟨j,v,hj,rfl,hp⟩:=hrel
  have HPL:=Lib.hid hp
  obtain⟨L,hb,ho,hL,hQ,hbr,hsr,hfr⟩:=hp
  obtain⟨av,cv,rfl⟩:=Aj ho
  have HP:=Lib.hid (And.intro hb (And.intro ho (And.intro hL (And.intro hQ (And.intro hbr hfr)))))
  have hiw:=hi.below hbr
  unfold CY at hb
  obtain⟨q2,f2⟩:=A1 hb
  have hlb2:w.heap.size+1<wr.heap.size:=A0 hb
  clear hb ho hL hQ hfr
  by_cases hjl:j<l.length
  ·obtain⟨bj,oj,u,rfl,hcj,hv⟩:=HC.out.2.get j hjl
   rw [Nat.zero_add]at hcj
   have k0:=hiw.cell hcj
   have hva:=RJ.isAny hv
   have HCF:=Lib.hid (fun w0 h0=>HC.out.1 j hjl H u w0 h0 hv)
   clear hv hcj
   rcases hva with rfl|⟨T,z,rfl⟩
   all_goals
    go_upto_region 22 with(fail)
    clear k0
    go_region_law
     (first
      |(refine AH _ (by rfl) _ _ 33 (by rfl) wx.heap.size 35 CQ 6 88 DN DX (by rfl) (by decide) (by decide) (.slice av j cv) j (AL L) (by rfl) (Cq HP.out.2.1 (hb1.al _)) w1.heap.size _ _ (by rfl) A4 (by rfl) (by simp [Value.oneCell']) (by unfold lim;omega) (by have:=hb1.size;have:=HX.out.2.2.2;simp;omega) ?_;intro v' w2 ho2 hg2 hwh2;obtain⟨av2,cv2,rfl⟩:=Aj ho2;have hbz:=(hg2.block (w.heap.size+1) (by have:=hb1.size;simp;omega) (fun e=>by have:=(HP.out.2.1.lt (w.heap.size+1) e.symm).1;have:=HX.out.2.2.2;omega)).trans (A3 (A2 hb1 HP.out.1));unfold CY at hbz;obtain⟨q2z,f2z⟩:=A1 hbz)
      |(go_simp;refine(HCF.out _ (by first|exact hiw|exact hiw.below Bw.rfl.dr)).mono ?_;rintro e w1 ⟨hb1',x4,x5,rfl,hq'⟩;have hb1:Bw wr w1:=(by first|with_reducible exact hb1'|exact Bw.rfl.dr.tr hb1');have hq:RV (A6 E0 wr w1) (AE l[j]) x4 x5:=hq';clear hb1' hq';obtain⟨z4,d4,z5,d5,rfl,rfl⟩:=hq.open;unfold Ar;have hbx1:=A2 hb1 HP.out.1;unfold CY at hbx1;obtain⟨q2w,f2w⟩:=A1 hbx1;have hbw1:w.heap.size+1<w1.heap.size:=A0 hbx1))
    all_goals
     go_wp2_with fail
     go_roundw
     case rel=>exact⟨j+1,_,by omega,by go_num,PLf.step (f:=⟨AE l[j],_,_⟩) (E0i _) (by omega) (by have:=HX.out.2.2.2;omega) HP.out.1 HP.out.2.1 HP.out.2.2.1 HP.out.2.2.2.1 hbr hsr HP.out.2.2.2.2.2 Bw.rfl hb1 (by rw [Bg];simpa using hjl) (by simp [Bg]) hq (by simpa [VC.cells]using ho2) hg2 hwh2⟩
     case measure=>simp [intOf];omega
  ·have hx1:wr.heap[w.heap.size]?=some _:=(HP.out.2.2.2.2.2 _ (by have:=HX.out.2.2.2;omega) (by omega)).trans HX.out.2.1
   unfold CY at hx1
   obtain⟨q1,f1⟩:=A1 hx1
   clear hx1
   go_wp2_with fail
   have:j=l.length:=by omega
   subst this
   refine bodyPost_ret (v:= .agg #[.int .i64 5, .int .i64 0, .float .f64 0, .string ⟨#[]⟩, .slice none 0 0, .slice av l.length cv]) (by simp [results,Tryz.results57,go_sem,q1]) rfl ?_
   have e1:AE (.list l)=⟨5,0,0,⟨#[]⟩,[],BT l⟩:=by simp [AE]
   have hpl:=HPL.out
   have hjl:(BT l).length=l.length:=by rw [Bg,List.length_map]
   rw [←hjl]at hpl
   refine⟨hbr.turn (Nat.le_refl _) (six6_turn wr w.heap.size 5 (.slice none 0 0) (.slice av l.length cv)), .slice none 0 0, .slice av l.length cv,by rw [e1];simp [Ar], ?_⟩
   rw [e1]
   exact By.2 ⟨AR (by simp) (by simp),AR (by simp) (by simp),by simp,Nat.zero_le _,Cv.nil,by
    have:=PLf.shut hpl (E0i _) HX.out.1.size (by rw [hjl];exact HL.out) (six6_turn wr w.heap.size 5 (.slice none 0 0) (.slice av l.length cv)) (by have:=HX.out.2.2.2;omega)
    rw [hjl]at this;exact this⟩
theorem Cw.get1 {H:Hp}{r:Nat}{ks:List ByteArray}{vs:List JT}{es:Array MapEntry}{ck:Nat}(h:Cw H r ks vs es ck){k:ByteArray}(hk:k ∈ ks):
  ∃i,∃hi:i<vs.length,∃u,ks.idxOf k=i∧RJ H vs[i] u∧∀w,Imm H w→(Instr.lookup 190 (.map (some r)) (.string k) false).run Tryz.prog w= .ok u w:=by
 have hik:IsKey .string (.string k):=trivial
 have hown:=fun w hi=>h.own (w:=w) hi
 obtain⟨i,hi,rfl⟩:=List.mem_iff_getElem.1 hk
 have hil:i<vs.length:=by rw [←h.len];exact hi
 obtain⟨e,k',g1,g2,g3,g4,g5⟩:=h.es_.get i hil
 rw [Nat.zero_add]at g1 g2
 rw [List.getElem?_eq_getElem hi]at g2;cases g2
 refine⟨i,hil,e.val,h.nodup.idxOf_getElem i hi,g5,fun w hw=> ?_⟩
 have ho:=hown w hw
 rcases findNow_spec hik es.toList 0 ho.isKey with⟨h1,h2⟩|⟨j,e2,h1,h2,h3⟩
 ·exact absurd g3 (h2 e (by rw [List.mem_iff_getElem?];exact⟨i,by simpa using g1⟩))
 ·have hj:es[j]?=some e2:=by simpa using h2
  obtain⟨k2,q1,q2⟩:=ho.keys hj
  rw [h3]at q2;cases q2
  have hij:i=j:=by
   have h5:j<ks.length:=(List.getElem?_eq_some_iff.1 q1).1
   exact(List.getElem_inj h.nodup).1 (List.getElem?_eq_some_iff.1 q1).2.symm
  subst hij
  rw [g1]at hj;cases hj
  simp [Instr.lookup,run_underlying Fa,Go.MapKept.run_getObj_map ho.at_,run_checkKey CG hik,run_findKey CG h1,Result.andThen]
theorem DT {w:World}{B B' e size n:Nat}{v:Value}{xs:List Value}(h:w.ownsRow B' e size v n xs)(hB:B≤B'):w.ownsRow B e size v n xs:=by
 refine⟨h.1, ?_⟩
 rcases h.2 with h1|⟨g,cap,cur,h1,h2,h3⟩
 ·exact .inl h1
 ·exact .inr ⟨g,cap,cur,h1,by omega,h3⟩
theorem own_eq {w w2:World}{B e size n:Nat}{v:Value}{xs:List Value}(h:w.ownsRow B e size v n xs)(he:∀g,v.ownBlock=some g→w2.heap[g]?=w.heap[g]?):w2.ownsRow B e size v n xs:=by
 refine⟨h.1, ?_⟩
 rcases h.2 with h1|⟨g,cap,cur,rfl,h2,h3,h4⟩
 ·exact .inl h1
 ·exact .inr ⟨g,cap,cur,rfl,h2,(he g rfl).trans h3,h4⟩
def skipB (w:World)(b:Nat):Hp:=fun k=>if k=b then none else w.heap[k]?
theorem skipB_imm {w wr:World}{b:Nat}(h:∀k,k<w.heap.size→k≠b→wr.heap[k]?=w.heap[k]?):Imm (skipB w b) wr:=by
 intro k o e
 unfold skipB at e
 split at e
 ·cases e
 ·rename_i hk
  show wr.heap[k]?=some o
  rw [h k (A0 e) hk];exact e
theorem fromTree_map (ks:List ByteArray)(vs:List JT)(hc:∀j (h:j<vs.length),CFrom vs[j]):CFrom (.map ks vs):=by
 intro H x w hi hr
 obtain⟨r,es,ck,rfl,hm⟩:=hr.mapAt
 change Calls Tryz.prog 57 #[.iface 190 (.map (some r))] w _
 have hn:(AV ks).length=ks.length:=Cp hm.nodup
 have hlim:=hm.lim_
 have hkl:∀s ∈ AV ks,s.size≤lim:=fun s hs=>by
  obtain⟨i,hi',rfl⟩:=List.mem_iff_getElem.1 ((Cc ks).2 s|>.1 hs)
  obtain⟨e,k',g1,g2,g3,g4,g5⟩:=hm.es_.get i (by rw [←hm.len];exact hi')
  rw [Nat.zero_add]at g2
  rw [List.getElem?_eq_getElem hi']at g2;cases g2
  exact g4
 have HC:=Lib.hid (And.intro hc (And.intro hm (And.intro hkl (And.intro hn hlim))))
 clear hc hm hr hkl
 rw [←hn]at hlim
 clear hn
 unfold lim at hlim
 go_enter Tryz.func57,Tryz.ntmps57
 go_upto_region 28 with(fail)
 obtain⟨wa,hwa⟩:∃wx,wx=(w.alloc (CY 0 (.slice none 0 0) (.slice none 0 0))).alloc (CY 6 (.slice none 0 0) (.slice none 0 0)):=⟨_,rfl⟩
 have HA:Hid (Bw w wa∧wa.heap[w.heap.size]?=some (CY 0 (.slice none 0 0) (.slice none 0 0))∧wa.heap[w.heap.size+1]?=some (CY 6 (.slice none 0 0) (.slice none 0 0))∧wa.heap.size=w.heap.size+2):=by
  subst hwa;exact⟨Am,Cs,BF,by simp⟩
 unfold CY at hwa
 rw [←hwa]
 clear hwa
 go_wp2_with fail
 refine(sortedKeys_c HC.out.2.1 wa (hi.below HA.out.1)).mono ?_
 rintro _ w1 ⟨hb1,vk,rfl,hok⟩
 obtain⟨ak,ckk,rfl⟩:=Aj hok
 have hx1:=A2 hb1 HA.out.2.2.1
 have HK:=Lib.hid (And.intro hb1 hok)
 unfold CY at hx1
 obtain⟨qx,fx⟩:=A1 hx1
 have hlx:=A0 hx1
 clear hok hb1 hx1
 go_upto_region 29 with(fail)
 obtain⟨wx,hwx⟩:∃wx,wx=w1.setCell ⟨w.heap.size+1,4,none⟩ (.slice ak (AV ks).length ckk):=⟨_,rfl⟩
 have HX:Hid (Bw w wx∧wx.heap[w.heap.size]?=some (CY 0 (.slice none 0 0) (.slice none 0 0))∧wx.heap[w.heap.size+1]?=some (CY 6 (.slice ak (AV ks).length ckk) (.slice none 0 0))∧w.heap.size+2≤wx.heap.size∧wx.ownsRow (w.heap.size+2) 9 1 (.slice ak (AV ks).length ckk) (AV ks).length ((AV ks).map Value.string)):=by
  have t:Az w1 wx (w.heap.size+1):=by subst hwx;exact(Az.refl w1 _).set _ _
  have hs:=HA.out.2.2.2
  have hs1:=HK.out.1.size
  refine⟨(HA.out.1.tr HK.out.1).turn (by omega) t, ?_, ?_,by rw [t.size];omega, ?_⟩
  ·rw [t.block _ (by omega)];exact A2 HK.out.1 HA.out.2.1
  ·have:=Ae (A2 HK.out.1 HA.out.2.2.1) 4 (.slice ak (AV ks).length ckk)
   rw [hwx]
   unfold CY
   simpa using this
  ·refine(DT HK.out.2 (show w.heap.size+2≤wa.heap.size+1 by omega)).kept (row:=some (w.heap.size+1)) ⟨t.os,t.tape,t.output,by rw [t.size];exact Nat.le_refl _,fun k hk hne=>t.block k (fun e=>hne (by rw [e]))⟩ ?_
   right;intro e;have:=(HK.out.2.lt _ e).1;omega
 rw [←hwx]
 clear hwx qx fx hlx
 have hx1:=HX.out.2.2.1
 unfold CY at hx1
 obtain⟨qx,fx⟩:=A1 hx1
 have hlx:=A0 hx1
 clear hx1
 have HR:Hid (Cv (skipB wx (w.heap.size+1)) (AV ks) (.slice ak (AV ks).length ckk)):=by
  refine Cn HX.out.2.2.2.2 (fun g hg=> ?_) (by rw [HC.out.2.2.2.1];exact HC.out.2.2.2.2) HC.out.2.2.1
  have:=(HX.out.2.2.2.2.lt g hg).1
  unfold skipB;rw [if_neg (by omega)]
 go_wp2_with fail
 clear qx fx
 go_loopw [66] (fun i wr=>∃(j:Nat) (v:Value),j≤(AV ks).length∧i= .int .i64 j∧PLf E0 w wx wr (w.heap.size+1) 6 (.slice ak (AV ks).length ckk) ((AV ks).map (DV ks (BT vs))) v j) (fun i _=>(AV ks).length - (intOf i).toNat)
 case atStart=>exact⟨0, .slice none 0 0,by omega,rfl,[],HX.out.2.2.1,World.ownsRow_nil _ _ _ _,by simp,by simp,HX.out.1,Nat.le_refl _,fun _ _ _=>rfl⟩
 case round=>
  rename_i wr
  obtain⟨j,v,hj,rfl,hp⟩:=hrel
  have HPL:=Lib.hid hp
  obtain⟨L,hb,ho,hL,hQ,hbr,hsr,hfr⟩:=hp
  obtain⟨av,cv,rfl⟩:=Aj ho
  have HP:=Lib.hid (And.intro hb (And.intro ho (And.intro hL (And.intro hQ (And.intro hbr hfr)))))
  have hiw:=hi.below hbr
  unfold CY at hb
  obtain⟨q2,f2⟩:=A1 hb
  have hlb2:w.heap.size+1<wr.heap.size:=A0 hb
  have hik:=skipB_imm hfr
  clear hb ho hL hQ hfr
  by_cases hjl:j<(AV ks).length
  ·obtain⟨a',c',e',hnil,hll,hcc,hat⟩:=HR.out
   cases e'
   obtain⟨bj,oj,rfl,hcj,hsj⟩:=hat.get j hjl
   rw [Nat.zero_add]at hcj
   have k0:=hik.cell hcj
   obtain⟨i,hil,u,hix,hv,hlk⟩:=HC.out.2.1.get1 ((Cc ks).2 _|>.1 (List.getElem_mem hjl))
   have hva:=RJ.isAny hv
   have HV:=Lib.hid (And.intro hix hv)
   have hlk0:=hlk wr hiw
   have hlk1:=hlk wr.drew (hiw.below Bw.rfl.dr)
   have HCF:=Lib.hid (fun w0 h0=>HC.out.1 i hil H u w0 h0 hv)
   clear hv hcj hlk hat hnil hll hcc hix hik
   obtain⟨key,hkey⟩:∃key,key=(AV ks)[j]:=⟨_,rfl⟩
   rw [←hkey]at k0 hlk0 hlk1
   have HKEY:=Lib.hid hkey
   clear hkey
   rcases hva with rfl|⟨T,z,rfl⟩
   all_goals
    go_upto_region 32 with(fail)
    clear k0
    go_region_law
     (first
      |(refine AH _ (by rfl) _ _ 33 (by rfl) wx.heap.size 35 CQ 6 88 DN DX (by rfl) (by decide) (by decide) (.slice av j cv) j (AL L) (by rfl) (Cq HP.out.2.1 (hb1.al _)) w1.heap.size _ _ (by rfl) A4 (by rfl) (by simp [Value.oneCell']) (by unfold lim;omega) (by have:=hb1.size;simp;omega) ?_;intro v' w2 ho2 hg2 hwh2;obtain⟨av2,cv2,rfl⟩:=Aj ho2;have hbz:=(hg2.block (w.heap.size+1) (by have:=hb1.size;simp;omega) (fun e=>by have:=(HP.out.2.1.lt (w.heap.size+1) e.symm).1;have:=HX.out.2.2.2.1;omega)).trans (A3 (A2 hb1 HP.out.1));unfold CY at hbz;obtain⟨q2z,f2z⟩:=A1 hbz)
      |(go_simp;refine(HCF.out _ (by first|exact hiw|exact hiw.below Bw.rfl.dr)).mono ?_;rintro e w1 ⟨hb1',x4,x5,rfl,hq'⟩;have hb1:Bw wr w1:=(by first|with_reducible exact hb1'|exact Bw.rfl.dr.tr hb1');have hq:RV (A6 E0 wr w1) (AE vs[i]) x4 x5:=hq';clear hb1' hq';obtain⟨z4,d4,z5,d5,rfl,rfl⟩:=hq.open;unfold Ar;have hbx1:=A2 hb1 HP.out.1;unfold CY at hbx1;obtain⟨q2w,f2w⟩:=A1 hbx1;have hbw1:w.heap.size+1<w1.heap.size:=A0 hbx1))
    all_goals
     go_wp2_with fail
     go_roundw
     case rel=>exact⟨j+1,_,by omega,by go_num,PLf.step (f:=⟨AE vs[i],_,_⟩) (E0i _) (by omega) (by have:=HX.out.2.2.2.1;omega) HP.out.1 HP.out.2.1 HP.out.2.2.1 HP.out.2.2.2.1 hbr hsr HP.out.2.2.2.2.2 Bw.rfl hb1 (by simpa using hjl) (by simp only [List.getElem_map];unfold DV;rw [HV.out.1];simp [Bg,hil]) hq (by simpa [VC.cells]using ho2) hg2 hwh2⟩
     case measure=>simp [intOf];omega
  ·have hx1:wr.heap[w.heap.size]?=some _:=(HP.out.2.2.2.2.2 _ (by have:=HX.out.2.2.2.1;omega) (by omega)).trans HX.out.2.1
   unfold CY at hx1
   obtain⟨q1,f1⟩:=A1 hx1
   clear hx1
   go_wp2_with fail
   have:j=(AV ks).length:=by omega
   subst this
   refine bodyPost_ret (v:= .agg #[.int .i64 6, .int .i64 0, .float .f64 0, .string ⟨#[]⟩, .slice ak (AV ks).length ckk, .slice av (AV ks).length cv]) (by simp [results,Tryz.results57,go_sem,q1]) rfl ?_
   have e1:AE (.map ks vs)=⟨6,0,0,⟨#[]⟩,AV ks,(AV ks).map (DV ks (BT vs))⟩:=by simp [AE,DA]
   have hpl:=HPL.out
   have hjl2:((AV ks).map (DV ks (BT vs))).length=(AV ks).length:=by simp
   rw [←hjl2]at hpl
   have ht:=six6_turn wr w.heap.size 6 (.slice ak (AV ks).length ckk) (.slice av (AV ks).length cv)
   refine⟨hbr.turn (Nat.le_refl _) ht, .slice ak (AV ks).length ckk, .slice av (AV ks).length cv,by rw [e1];simp [Ar], ?_⟩
   rw [e1]
   refine By.2 ⟨AR (by simp) (by simp),AR (by simp) (by simp),by simp,Nat.zero_le _,Cn (w:=six6 wr w.heap.size 6 (.slice ak (AV ks).length ckk) (.slice av (AV ks).length cv)) (H:=A6 E0 w (six6 wr w.heap.size 6 (.slice ak (AV ks).length ckk) (.slice av (AV ks).length cv))) (own_eq HX.out.2.2.2.2 fun g hg=> ?_) (fun g hg=> ?_) (by rw [HC.out.2.2.2.1];exact HC.out.2.2.2.2) HC.out.2.2.1,by
    have:=PLf.shut hpl (E0i _) HX.out.1.size (by rw [hjl2,HC.out.2.2.2.1];exact HC.out.2.2.2.2) ht (by have:=HX.out.2.2.2.1;omega)
    rw [hjl2]at this;exact this⟩
   ·have h1:=HX.out.2.2.2.2.lt g hg
    rw [ht.block g (by omega)]
    exact HP.out.2.2.2.2.2 g h1.2 (by omega)
   ·have h1:=HX.out.2.2.2.2.lt g hg
    unfold A6;rw [if_neg (by omega)]
theorem fromTree_plain (t:JT)(ht:t.isList=false∧t.isMap=false):CFrom t:=by
 intro H x w hi hr
 cases t with
 |list l=>simp [JT.isList]at ht
 |map ks vs=>simp [JT.isMap]at ht
 |null=>
  simp only [RJ]at hr
  subst hr
  go_enter Tryz.func57,Tryz.ntmps57
  go_wp2_with fail
  refine bodyPost_ret (v:= .agg #[.int .i64 0, .int .i64 0, .float .f64 0, .string ⟨#[]⟩, .slice none 0 0, .slice none 0 0]) (by simp [results,Tryz.results57,go_sem]) rfl ?_
  refine⟨A5, .slice none 0 0, .slice none 0 0,by simp [Ar,AE,Ay], ?_⟩
  simp only [AE,Ay]
  exact RV.mk0 (AR (by simp) (by simp)) (AR (by simp) (by simp)) (by simp) (Nat.zero_le _) rfl rfl
 |bool b=>
  simp only [RJ]at hr
  subst hr
  cases b
  ·go_enter Tryz.func57,Tryz.ntmps57
   go_wp2_with fail
   refine bodyPost_ret (v:= .agg #[.int .i64 1, .int .i64 0, .float .f64 0, .string ⟨#[]⟩, .slice none 0 0, .slice none 0 0]) (by simp [results,Tryz.results57,go_sem]) rfl ?_
   refine⟨A5, .slice none 0 0, .slice none 0 0,by simp [Ar,AE,Ay], ?_⟩
   simp only [AE,Ay]
   exact RV.mk0 (AR (by simp) (by simp)) (AR (by simp) (by simp)) (by simp) (Nat.zero_le _) rfl rfl
  ·go_enter Tryz.func57,Tryz.ntmps57
   go_wp2_with fail
   refine bodyPost_ret (v:= .agg #[.int .i64 1, .int .i64 1, .float .f64 0, .string ⟨#[]⟩, .slice none 0 0, .slice none 0 0]) (by simp [results,Tryz.results57,go_sem]) rfl ?_
   refine⟨A5, .slice none 0 0, .slice none 0 0,by simp [Ar,AE,Ay], ?_⟩
   simp only [AE,Ay]
   exact RV.mk0 (AR (by simp) (by simp)) (AR (by simp) (by simp)) (by simp) (Nat.zero_le _) rfl rfl
 |int n=>
  simp only [RJ]at hr
  obtain⟨rfl,hn⟩:=hr
  have HN:=Lib.hid hn
  clear hn
  go_enter Tryz.func57,Tryz.ntmps57
  go_wp2_with fail
  refine bodyPost_ret (v:= .agg #[.int .i64 2, .int .i64 n, .float .f64 0, .string ⟨#[]⟩, .slice none 0 0, .slice none 0 0]) (by simp [results,Tryz.results57,go_sem]) rfl ?_
  refine⟨A5, .slice none 0 0, .slice none 0 0,by simp [Ar,AE,Ay], ?_⟩
  simp only [AE,Ay]
  exact RV.mk0 (AR (by simp) (by simp)) (HN.out) (by simp) (Nat.zero_le _) rfl rfl
 |flt f=>
  simp only [RJ]at hr
  obtain⟨rfl,hn⟩:=hr
  have HN:=Lib.hid hn
  clear hn
  go_enter Tryz.func57,Tryz.ntmps57
  go_wp2_with fail
  refine bodyPost_ret (v:= .agg #[.int .i64 3, .int .i64 0, .float .f64 f, .string ⟨#[]⟩, .slice none 0 0, .slice none 0 0]) (by simp [results,Tryz.results57,go_sem]) rfl ?_
  refine⟨A5, .slice none 0 0, .slice none 0 0,by simp [Ar,AE,Ay], ?_⟩
  simp only [AE,Ay]
  exact RV.mk0 (AR (by simp) (by simp)) (AR (by simp) (by simp)) (HN.out) (Nat.zero_le _) rfl rfl
 |str s=>
  simp only [RJ]at hr
  obtain⟨rfl,hn⟩:=hr
  have HN:=Lib.hid hn
  clear hn
  go_enter Tryz.func57,Tryz.ntmps57
  go_wp2_with fail
  refine bodyPost_ret (v:= .agg #[.int .i64 4, .int .i64 0, .float .f64 0, .string s, .slice none 0 0, .slice none 0 0]) (by simp [results,Tryz.results57,go_sem]) rfl ?_
  refine⟨A5, .slice none 0 0, .slice none 0 0,by simp [Ar,AE,Ay], ?_⟩
  simp only [AE,Ay]
  exact RV.mk0 (AR (by simp) (by simp)) (AR (by simp) (by simp)) (by simp) (HN.out) rfl rfl
theorem fromTree_c:∀(n:Nat) (t:JT),t.sz≤n→CFrom t
 |0,t,h=>by cases t<;>simp [JT.sz]at h
 |n+1,t,h=>by
  cases t
  case list l=>exact fromTree_list l fun j hj=>fromTree_c n _ (by have:=CJ hj;simp only [JT.sz]at h;omega)
  case map ks vs=>exact fromTree_map ks vs fun j hj=>fromTree_c n _ (by have:=CJ hj;simp only [JT.sz]at h;omega)
  all_goals exact fromTree_plain _ ⟨rfl,rfl⟩
end
end Go.Proofs.YtmghkmhgpmcoaaaGreat
