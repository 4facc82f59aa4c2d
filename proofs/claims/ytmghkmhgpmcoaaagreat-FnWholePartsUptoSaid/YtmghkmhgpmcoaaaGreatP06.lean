/- What the claim's theorem 'proved' rests on: SpecP, CleanP, RowV. -/
import Derived.Sort.Walk0
import Derived.Lib.SlicesS
import Derived.Test.YtmghkmhgpmcoaaaGreatP03
import Derived.Test.YtmghkmhgpmcoaaaGreatP04
import Derived.Test.YtmghkmhgpmcoaaaGreatP05
import Derived.Test.YtmghkmhgpmcoaaaGreatP08
set_option linter.unusedVariables false
set_option linter.unusedSimpArgs false
set_option maxRecDepth 100000
set_option maxHeartbeats 10000000
namespace Go.Proofs.YtmghkmhgpmcoaaaGreat
section
open Go.RowKit
def Ce (m:GV)(key:ByteArray)(v:GV):GV:=
 let i:=A9 m.ks key
 let j:=if Ea m.ks key then i+1 else i
 ⟨6,0,0,⟨#[]⟩,m.ks.take i++[key]++m.ks.drop j,m.l.take i++[v]++m.l.drop j⟩
def RetV (H:Hp)(w:World)(v:GV):Ending→World→Prop:=fun e w'=>Bw w w'∧∃x4 x5,e= .returned (Ar v x4 x5)∧RV (A6 H w w') v x4 x5
theorem withF_post {H:Hp}{w w1 wy wz:World}{m v:GV}{key:ByteArray}{vk vl:Value}{L:List VC}{tv:VC}{jx:Nat}{a4:Option Addr}
  (hi:Imm H w) (hB:w.heap.size≤w1.heap.size) (hT:Two w1 w1.heap.size wy vk vl (m.ks.take (A9 m.ks key)++[key]++m.ks.drop jx) (L.take (A9 m.ks key)++[tv]++L.drop jx))
  (hz:∀k,w1.heap.size<k→wz.heap[k]?=wy.heap[k]?) (hj:jx=if Ea m.ks key then A9 m.ks key+1 else A9 m.ks key)
  (hks:Bt H a4 0 m.ks) (hkey:key.size≤lim) (hL:L.map VC.v=m.l) (hLr:∀t ∈ L,RV H t.v t.x4 t.x5) (htv:tv.v=v) (htr:RV H tv.v tv.x4 tv.x5) (hlim:m.ks.length+1≤lim) (hlen:m.ks.length=m.l.length) (hlx:A9 m.ks key≤m.ks.length) (hij:A9 m.ks key≤jx):
  RV (A6 H w wz) (Ce m key v) vk vl:=by
 have hg:Hle H (A6 H w wz):=AY hi
 have hrow:∀{x:Value} {e s n:Nat} {xs:List Value},wy.ownsRow (w1.heap.size+1) e s x n xs→HasRow (A6 H w wz) wy x:=by
  intro x e s n xs ho g hgx
  have h1:=(ho.lt g hgx).1
  unfold A6
  rw [if_neg (by omega),hz g (by omega)]
 have hLl:L.length=m.l.length:=by rw [←hL];simp
 unfold Ce
 simp only [←hj]
 refine By.2 ⟨by constructor<;>simp,by constructor<;>simp,by simp,Nat.zero_le _, ?_, ?_⟩
 ·refine Cn hT.rk (hrow hT.rk) (by simp;omega) ?_
  intro s hs
  simp only [List.mem_append,List.mem_singleton]at hs
  rcases hs with(hs|rfl)|hs
  ·exact strs_lim hks s (List.mem_of_mem_take hs)
  ·exact hkey
  ·exact strs_lim hks s (List.mem_of_mem_drop hs)
 ·have:=Db (H:=A6 H w wz) hT.rl (hrow hT.rl) (by simp;omega) (by
   intro t ht
   simp only [List.mem_append,List.mem_singleton]at ht
   rcases ht with(ht|rfl)|ht
   ·exact(hLr t (List.mem_of_mem_take ht)).mono hg
   ·exact htr.mono hg
   ·exact(hLr t (List.mem_of_mem_drop ht)).mono hg)
  simpa [hL,htv]using this
theorem withField_c (m v:GV)(key:ByteArray)(H:Hp)(x4 x5 y4 y5:Value)(w:World)(hi:Imm H w)(hm:RV H m x4 x5)(hv:RV H v y4 y5)(hsort:AN m.ks)(hlen:m.ks.length=m.l.length)(hlim:m.ks.length+1≤lim)(hkey:key.size≤lim):
  Calls Tryz.prog 101 #[Ar m x4 x5, .string key,Ar v y4 y5] w (RetV H w (Ce m key v)):=by
 have HI:=Lib.hid (fun w0 h0=>fieldIndex_c m key H x4 x5 w0 h0 hm hsort)
 have HV:=Lib.hid hv
 have HM:=Lib.hid hm
 have HLEN:=Lib.hid hlen
 clear hlen
 obtain⟨hk,hn,hf,hs,h4,a5,c5,rfl,hn5,hl5,hc5,hat5⟩:=By.1 hm
 obtain⟨a4,c4,rfl,hn4,hl4,hc4,hat4⟩:=h4
 obtain⟨b4,d4,b5,d5,rfl,rfl⟩:=hv.open
 clear hm hv
 unfold lim at hl4 hl5 hs hlim
 rcases m with⟨k,n,f,s,ks,l⟩
 unfold Ar at HI⊢
 simp only at *
 go_enter Tryz.func101,Tryz.ntmps101
 go_wp2_with fail
 refine(HI.out _ (hi.below Co)).mono ?_
 rintro e w1 ⟨rfl,hb1⟩
 obtain⟨hb,hhb⟩:∃hb:Bool,hb=Ea ks key:=⟨_,rfl⟩
 rw [←hhb]
 have HHB:=Lib.hid hhb
 clear hhb
 have hx:=A2 (k:=w.heap.size) (p:= .cells #[.int .i64 k, .int .i64 n, .float .f64 f, .string s, .slice a4 ks.length c4, .slice a5 l.length c5] 35) hb1
  b3_0
 have hx2:=A2 (k:=w.heap.size+1) (p:= .cells #[.int .i64 v.k, .int .i64 v.n, .float .f64 v.f, .string v.s, .slice b4 v.ks.length d4, .slice b5 v.l.length d5] 35) hb1
  b3_1
 have hy:=A2 (k:=w.heap.size+2) (p:= .cells #[.int .i64 0, .int .i64 0, .float .f64 0, .string {data:= #[]}, .slice none 0 0, .slice none 0 0] 35) hb1
  ET
 have hbw:Bw w w1:=Bw.tr Co hb1
 have hz:w.heap.size+2<w1.heap.size:=A0 hy
 have HX:=Lib.hid hx;have HX2:=Lib.hid hx2;have HY:=Lib.hid hy
 clear hx hx2 hy hb1
 have hi1:=hi.below hbw
 go_wp2_with fail
 obtain⟨wz,hwz⟩:∃wz,wz=w1.alloc (.cells #[.int .i64 6, .int .i64 0, .float .f64 0, .string {data:= #[]}, .slice none 0 0, .slice none 0 0] 35):=⟨_,rfl⟩
 have HO:Hid (wz.heap[w1.heap.size]?=some (.cells #[.int .i64 6, .int .i64 0, .float .f64 0, .string {data:= #[]}, .slice none 0 0, .slice none 0 0] 35)):=by subst hwz;exact A4
 have HXz:Hid (wz.heap[w.heap.size]?=some (.cells #[.int .i64 k, .int .i64 n, .float .f64 f, .string s, .slice a4 ks.length c4, .slice a5 l.length c5] 35)):=by subst hwz;exact A3 HX.out
 have hbz1:Bw w1 wz:=by subst hwz;exact Bw.rfl.al _
 have hbz:Bw w wz:=hbw.tr hbz1
 have hsz:wz.heap.size=w1.heap.size+1:=by subst hwz;simp
 have HSZ:=Lib.hid hsz
 rw [←hwz]
 clear hwz hsz
 have hiz:=hi.below hbz
 obtain⟨q1,f1⟩:=A1 HO.out
 obtain⟨q2,f2⟩:=A1 HXz.out
 have hT0:Two w1 w1.heap.size wz (.slice none 0 0) (.slice none 0 0) [] []:=⟨Nat.le_refl _,hbz1,HO.out,World.ownsRow_nil _ _ _ _,World.ownsRow_nil _ _ _ _⟩
 have HT0:=Lib.hid hT0
 have HZ:=Lib.hid hz
 clear hT0 hz
 have hlx:A9 ks key≤ks.length:=by have:=(List.takeWhile_sublist (fun k=>bLt k key) (l:=ks)).length_le;unfold A9;omega
 have hlow:((A9 ks key:Nat):Int)≤c4:=by omega
 have hlow5:((A9 ks key:Nat):Int)≤c5:=by have:=HLEN.out;omega
 obtain⟨i9,hi9,hz9,hs9,hb9⟩:=info_parts (P:=Tryz.prog) (e:=9) (z:= .string {data:= #[]}) (size:=1) (bytes:=16) (by kernel_rfl)
 have HI9:=Lib.hid (And.intro hi9 (And.intro hz9 (And.intro hs9 hb9)))
 clear hi9 hz9 hs9 hb9
 refine wp_region_still_tail 6 (by kernel_rfl) (by kernel_rfl) ?_
 change wpStill _ _ wz.drew _ _ _
 simp only [List.take_succ_cons,List.take_zero,List.drop_succ_cons,List.drop_zero]
 repeat still_step
 refine wpStill_nil ?_
 change wpList _ _ _ _ _ (World.drew _)
 clear q1 q2 f1 f2
 refine Bl _ rfl (.tmp 18) (.tmp 22) 32 rfl (w1.heap.size+1) 9 i9 (.string {data:= #[]}) 1 16 (by kernel_rfl) HI9.out.1 HI9.out.2.1 HI9.out.2.2.1 HI9.out.2.2.2 rfl (by decide) _ 0 [] rfl HT0.out.drew.rk
  a4 (A9 ks key) c4 ((ks.take (A9 ks key)).map Value.string) rfl (by simp;omega) (src_strs (hiz.below Bw.rfl.dr) hn4 hat4 hlx) (Ed _) (by unfold maxLen;omega) (by omega) (by show _≤wz.heap.size;rw [HSZ.out];omega) ?_
 intro v1 w2 ho hg hwh
 obtain⟨ao1,co1,rfl⟩:=Aj ho
 have hT1:=Lib.hid (HT0.out.drew.keys (ys:=ks.take (A9 ks key)) (v':= .slice ao1 (0+A9 ks key) co1) (by simpa [Nat.min_eq_left hlx]using ho) hg)
 obtain⟨q1,f1⟩:=A1 (HT0.out.drew.keys_box hg)
 have HG:=Lib.hid hg
 clear ho hg hwh
 go_wp2_with fail
 clear q1 f1 HG
 obtain⟨L,hLv,hLr,hLa⟩:=vals_open hat5
 have hLlen:L.length=l.length:=by rw [←hLv];simp
 have HL:=Lib.hid (And.intro hLv (And.intro hLr hLa))
 have HLL:=Lib.hid hLlen
 clear hLv hLr hLa hLlen
 obtain⟨i35,hi35,hz35,hs35,hb35⟩:=info_parts (P:=Tryz.prog) (e:=35) (z:= .agg #[.int .i64 0, .int .i64 0, .float .f64 0, .string {data:= #[]}, .slice none 0 0, .slice none 0 0]) (size:=6) (bytes:=88) (by kernel_rfl)
 have HI35:=Lib.hid (And.intro hi35 (And.intro hz35 (And.intro hs35 hb35)))
 clear hi35 hz35 hs35 hb35
 have hT1b:Two w1 w1.heap.size (w2.setCell ⟨w1.heap.size,4,none⟩ (.slice ao1 (A9 ks key) co1)) (.slice ao1 (A9 ks key) co1) (.slice none 0 0) (ks.take (A9 ks key)) []:=by have:=hT1.out;simpa using this
 clear hT1
 obtain⟨wy,hwy⟩:∃wy,wy=w2.setCell ⟨w1.heap.size,4,none⟩ (.slice ao1 (A9 ks key) co1):=⟨_,rfl⟩
 rw [←hwy]at hT1b⊢
 clear hwy
 have HT1:=Lib.hid hT1b
 have hbwy:Bw w wy:=hbw.tr hT1b.bw
 have hiy:=hi.below hbwy
 obtain⟨q1,f1⟩:=A1 hT1b.out
 obtain⟨q2,f2⟩:=A1 (A2 hT1b.bw HX.out)
 have hzy:w1.heap.size+1≤wy.heap.size:=A0 hT1b.out
 clear hT1b
 refine wp_region_still_tail 6 (by kernel_rfl) (by kernel_rfl) ?_
 change wpStill _ _ wy.drew _ _ _
 simp only [List.take_succ_cons,List.take_zero,List.drop_succ_cons,List.drop_zero]
 repeat still_step
 refine wpStill_nil ?_
 change wpList _ _ _ _ _ (World.drew _)
 clear q1 q2 f1 f2
 have hlx5:A9 ks key≤L.length:=by rw [HLL.out,←HLEN.out];exact hlx
 refine Bl _ rfl (.tmp 26) (.tmp 30) 33 rfl (w1.heap.size+1) 35 i35 (.agg #[.int .i64 0, .int .i64 0, .float .f64 0, .string {data:= #[]}, .slice none 0 0, .slice none 0 0]) 6 88 (by kernel_rfl) HI35.out.1 HI35.out.2.1 HI35.out.2.2.1 HI35.out.2.2.2 rfl (by decide) _ 0 [] rfl HT1.out.drew.rl
  a5 (A9 ks key) c5 (AL (L.take (A9 ks key))) rfl (by rw [CZ,List.length_take];omega) (src_vals (hiy.below Bw.rfl.dr) (by rw [HLL.out];exact hn5) HL.out.2.2 hlx5) (vcells_oneCell _ fun t ht=>RV.oneCell (HL.out.2.1 t (List.mem_of_mem_take ht))) (by unfold maxLen;omega) (by omega) (by show _≤wy.heap.size;exact hzy) ?_
 intro v2 w3 ho hg hwh
 obtain⟨ao2,co2,rfl⟩:=Aj ho
 have hT2:=Lib.hid (HT1.out.drew.vals (ys:=L.take (A9 ks key)) (v':= .slice ao2 (0+A9 ks key) co2) (by simpa [Nat.min_eq_left hlx5,AL]using ho) hg)
 obtain⟨q1,f1⟩:=A1 (HT1.out.drew.vals_box hg)
 clear ho hg hwh
 go_upto_region 5 with(fail)
 have hT2b:Two w1 w1.heap.size (w3.setCell ⟨w1.heap.size,5,none⟩ (.slice ao2 (A9 ks key) co2)) (.slice ao1 (A9 ks key) co1) (.slice ao2 (A9 ks key) co2) (ks.take (A9 ks key)) (L.take (A9 ks key)):=by have:=hT2.out;simpa using this
 clear hT2 q1 f1
 obtain⟨wy2,hwy2⟩:∃wy2,wy2=w3.setCell ⟨w1.heap.size,5,none⟩ (.slice ao2 (A9 ks key) co2):=⟨_,rfl⟩
 rw [←hwy2]at hT2b⊢
 clear hwy2
 have HT2:=Lib.hid hT2b
 have hbw2:Bw w wy2:=hbw.tr hT2b.bw
 have hiy2:=hi.below hbw2
 obtain⟨q1,f1⟩:=A1 hT2b.out
 obtain⟨q3,f3⟩:=A1 (A2 hT2b.bw HX2.out)
 have hzy2:w1.heap.size+1≤wy2.heap.size:=A0 hT2b.out
 clear hT2b
 have hsrc3:Hid (Src (wy2.alloc (.cells #[.string key] 9)) (some ⟨wy2.heap.size,0,none⟩) 1 1 [.string key]):=by
  refine⟨by simp,fun ad e j u hu=> ?_⟩
  cases e
  match j,hu with
  |0,hu=>simp at hu;subst hu;simp [Addr.add]
 go_upto_region 6 with(at_builtin;refine Bl _ rfl (.tmp 34) (.tmp 36) 32 rfl (w1.heap.size+1) 9 i9 (.string {data:= #[]}) 1 16 (by kernel_rfl) HI9.out.1 HI9.out.2.1 HI9.out.2.2.1 HI9.out.2.2.2 rfl (by decide) _ (ks.take (A9 ks key)).length ((ks.take (A9 ks key)).map Value.string) rfl (HT2.out.alloc _).rk (some ⟨wy2.heap.size,0,none⟩) 1 1 [.string key] rfl rfl hsrc3.out (Ed [key]) (by unfold maxLen;simp;omega) (by simp;omega) (by simp;omega) ?_;intro v3 w4 ho3 hg3 hwh3;obtain⟨ao3,co3,rfl⟩:=Aj ho3;have q4:=(A1 ((HT2.out.alloc _).keys_box hg3)).1;have f4:=(A1 ((HT2.out.alloc _).keys_box hg3)).2)
 have hT3b:Two w1 w1.heap.size (w4.setCell ⟨w1.heap.size,4,none⟩ (.slice ao3 (A9 ks key+1) co3)) (.slice ao3 (A9 ks key+1) co3) (.slice ao2 (A9 ks key) co2) (ks.take (A9 ks key)++[key]) (L.take (A9 ks key)):=by
  have:=(HT2.out.alloc (.cells #[.string key] 9)).keys (ys:=[key]) (v':= .slice ao3 ((ks.take (A9 ks key)).length+1) co3) (by simpa using ho3) hg3
  simpa [Nat.min_eq_left hlx]using this
 clear ho3 hg3 hwh3 q4 f4 q1 f1 q3 f3 hsrc3
 obtain⟨wy3,hwy3⟩:∃wy3,wy3=w4.setCell ⟨w1.heap.size,4,none⟩ (.slice ao3 (A9 ks key+1) co3):=⟨_,rfl⟩
 rw [←hwy3]at hT3b⊢
 clear hwy3
 have HT3:=Lib.hid hT3b
 have hbw3:Bw w wy3:=hbw.tr hT3b.bw
 have hiy3:=hi.below hbw3
 obtain⟨q1,f1⟩:=A1 hT3b.out
 obtain⟨q3,f3⟩:=A1 (A2 hT3b.bw HX2.out)
 have hzy3:w1.heap.size+1≤wy3.heap.size:=A0 hT3b.out
 clear hT3b
 obtain⟨tv,htv⟩:∃tv:VC,tv=⟨v, .slice b4 v.ks.length d4, .slice b5 v.l.length d5⟩:=⟨_,rfl⟩
 have htc:tv.cells=[.int .i64 v.k, .int .i64 v.n, .float .f64 v.f, .string v.s, .slice b4 v.ks.length d4, .slice b5 v.l.length d5]:=by rw [htv];rfl
 have HTV:=Lib.hid htv;have HTC:=Lib.hid htc
 clear htv htc
 have hsrc4:Hid (Src (wy3.alloc (.cells #[.int .i64 v.k, .int .i64 v.n, .float .f64 v.f, .string v.s, .slice b4 v.ks.length d4, .slice b5 v.l.length d5] 35)) (some ⟨wy3.heap.size,0,none⟩) 1 1 (AL [tv])):=by
  refine⟨by simp,fun ad e j u hu=> ?_⟩
  cases e
  rw [Ek,HTC.out]at hu
  have hadd:(⟨wy3.heap.size,0,none⟩:Addr).add j=⟨wy3.heap.size,j,none⟩:=by unfold Addr.add;split<;>simp_all
  rw [hadd,(A1 A4).1]
  simpa using hu
 have hone4:Hid (∀u ∈ AL [tv],u.oneCell'=true):=by
  unfold Hid;rw [Ek,HTC.out];intro u hu;simp at hu;rcases hu with rfl|rfl|rfl|rfl|rfl|rfl<;>rfl
 go_upto_region 7 with(at_builtin;refine Bl _ rfl (.tmp 40) (.tmp 42) 33 rfl (w1.heap.size+1) 35 i35 (.agg #[.int .i64 0, .int .i64 0, .float .f64 0, .string {data:= #[]}, .slice none 0 0, .slice none 0 0]) 6 88 (by kernel_rfl) HI35.out.1 HI35.out.2.1 HI35.out.2.2.1 HI35.out.2.2.2 rfl (by decide) _ (L.take (A9 ks key)).length (AL (L.take (A9 ks key))) rfl (HT3.out.alloc _).rl (some ⟨wy3.heap.size,0,none⟩) 1 1 (AL [tv]) rfl rfl hsrc4.out hone4.out (by unfold maxLen;simp;omega) (by simp;omega) (by simp;omega) ?_;intro v4 w5 ho4 hg4 hwh4;obtain⟨ao4,co4,rfl⟩:=Aj ho4;have q4:=(A1 ((HT3.out.alloc _).vals_box hg4)).1;have f4:=(A1 ((HT3.out.alloc _).vals_box hg4)).2)
 have hT4b:Two w1 w1.heap.size (w5.setCell ⟨w1.heap.size,5,none⟩ (.slice ao4 (A9 ks key+1) co4)) (.slice ao3 (A9 ks key+1) co3) (.slice ao4 (A9 ks key+1) co4) (ks.take (A9 ks key)++[key]) (L.take (A9 ks key)++[tv]):=by
  have:=(HT3.out.alloc (.cells #[.int .i64 v.k, .int .i64 v.n, .float .f64 v.f, .string v.s, .slice b4 v.ks.length d4, .slice b5 v.l.length d5] 35)).vals (ys:=[tv]) (v':= .slice ao4 ((L.take (A9 ks key)).length+1) co4) (by simpa using ho4) hg4
  simpa [Nat.min_eq_left hlx5]using this
 clear ho4 hg4 hwh4 q4 f4 q1 f1 q3 f3 hsrc4 hone4
 obtain⟨wy4,hwy4⟩:∃wy4,wy4=w5.setCell ⟨w1.heap.size,5,none⟩ (.slice ao4 (A9 ks key+1) co4):=⟨_,rfl⟩
 rw [←hwy4]at hT4b⊢
 clear hwy4
 have HT4:=Lib.hid hT4b
 have hbw4:Bw w wy4:=hbw.tr hT4b.bw
 have hiy4:=hi.below hbw4
 obtain⟨q1,f1⟩:=A1 hT4b.out
 obtain⟨q2,f2⟩:=A1 (A2 hT4b.bw HX.out)
 have hzy4:w1.heap.size+1≤wy4.heap.size:=A0 hT4b.out
 clear hT4b
 obtain⟨jx,hjx⟩:∃jx:Nat,jx=(if hb then A9 ks key+1 else A9 ks key):=⟨_,rfl⟩
 have hjl:jx≤ks.length:=by
  rw [hjx];split
  ·rename_i hh;have:=(hasIx_lt (HHB.out.symm.trans hh)).1;omega
  ·exact hlx
 have HJX:=Lib.hid hjx
 clear hjx
 go_upto_if 45 with(fail)
 go_cut [7] (fun s7 wx=>s7= .int .i64 jx∧wx=wy4)
 case first=>
  cases hb
  ·have e:jx=A9 ks key:=by rw [HJX.out];rfl
   go_wp2_with fail
   go_meet
   exact⟨by rw [e],rfl⟩
  ·have e:jx=A9 ks key+1:=by rw [HJX.out];rfl
   have he:=Lib.hid e
   clear e
   go_wp2_with fail
   go_meet
   exact⟨by rw [he.out];rfl,rfl⟩
 case rest=>
  obtain⟨rfl,rfl⟩:=hcut
  have hjc:((jx:Nat):Int)≤ks.length:=by omega
  go_wp2_with fail
  refine wp_region_still_tail 6 (by kernel_rfl) (by kernel_rfl) ?_
  change wpStill _ _ wc.drew _ _ _
  simp only [List.take_succ_cons,List.take_zero,List.drop_succ_cons,List.drop_zero]
  repeat still_step
  refine wpStill_nil ?_
  change wpList _ _ _ _ _ (World.drew _)
  clear q1 q2 f1 f2
  refine Bl _ rfl (.tmp 49) (.tmp 53) 32 rfl (w1.heap.size+1) 9 i9 (.string {data:= #[]}) 1 16 (by kernel_rfl) HI9.out.1 HI9.out.2.1 HI9.out.2.2.1 HI9.out.2.2.2 rfl (by decide) (.slice ao3 (A9 ks key+1) co3) (ks.take (A9 ks key)++[key]).length ((ks.take (A9 ks key)++[key]).map Value.string) rfl HT4.out.drew.rk
   (if c4=jx then a4 else Option.map (fun x=>x.add jx) a4) (ks.length - jx) (c4 - jx) ((ks.drop jx).map Value.string) rfl (by simp) (src_strs_drop (hiy4.below Bw.rfl.dr) hn4 hc4 hat4 hjl) (Ed _) (by unfold maxLen;simp;omega) (by simp;omega) (by show _≤wc.heap.size;exact hzy4) ?_
  intro v5 w6 ho5 hg5 hwh5
  obtain⟨ao5,co5,rfl⟩:=Aj ho5
  obtain⟨q1,f1⟩:=A1 (HT4.out.drew.keys_box hg5)
  go_upto_region 10 with(fail)
  have hT5b:Two w1 w1.heap.size (w6.setCell ⟨w1.heap.size,4,none⟩ (.slice ao5 (A9 ks key+1+(ks.length - jx)) co5)) (.slice ao5 (A9 ks key+1+(ks.length - jx)) co5) (.slice ao4 (A9 ks key+1) co4) (ks.take (A9 ks key)++[key]++ks.drop jx) (L.take (A9 ks key)++[tv]):=by
   have:=HT4.out.drew.keys (ys:=ks.drop jx) (v':= .slice ao5 ((ks.take (A9 ks key)++[key]).length+(ks.length - jx)) co5) (by simpa using ho5) hg5
   simpa [Nat.min_eq_left hlx]using this
  clear ho5 hg5 hwh5 q1 f1
  obtain⟨wy5,hwy5⟩:∃wy5,wy5=w6.setCell ⟨w1.heap.size,4,none⟩ (.slice ao5 (A9 ks key+1+(ks.length - jx)) co5):=⟨_,rfl⟩
  rw [←hwy5]at hT5b⊢
  clear hwy5
  have HT5:=Lib.hid hT5b
  have hbw5:Bw w wy5:=hbw.tr hT5b.bw
  have hiy5:=hi.below hbw5
  obtain⟨q1,f1⟩:=A1 hT5b.out
  obtain⟨q2,f2⟩:=A1 (A2 hT5b.bw HX.out)
  have hzy5:w1.heap.size+1≤wy5.heap.size:=A0 hT5b.out
  clear hT5b
  have hjl5:jx≤l.length:=by rw [←HLEN.out];exact hjl
  have hjc5:((jx:Nat):Int)≤l.length:=by omega
  refine wp_region_still_tail 6 (by kernel_rfl) (by kernel_rfl) ?_
  change wpStill _ _ wy5.drew _ _ _
  simp only [List.take_succ_cons,List.take_zero,List.drop_succ_cons,List.drop_zero]
  repeat still_step
  refine wpStill_nil ?_
  change wpList _ _ _ _ _ (World.drew _)
  clear q1 q2 f1 f2
  refine Bl _ rfl (.tmp 57) (.tmp 61) 33 rfl (w1.heap.size+1) 35 i35 (.agg #[.int .i64 0, .int .i64 0, .float .f64 0, .string {data:= #[]}, .slice none 0 0, .slice none 0 0]) 6 88 (by kernel_rfl) HI35.out.1 HI35.out.2.1 HI35.out.2.2.1 HI35.out.2.2.2 rfl (by decide) (.slice ao4 (A9 ks key+1) co4) (L.take (A9 ks key)++[tv]).length (AL (L.take (A9 ks key)++[tv])) rfl HT5.out.drew.rl
   (if c5=jx then a5 else Option.map (fun x=>x.add (jx * 6)) a5) (l.length - jx) (c5 - jx) (AL (L.drop jx)) rfl (by rw [CZ,List.length_drop,HLL.out]) (by have:=src_vals_drop (j:=jx) (c:=c5) (hiy5.below Bw.rfl.dr) (by rw [HLL.out];exact hn5) (by rw [HLL.out];exact hc5) HL.out.2.2 (by rw [HLL.out];exact hjl5);rw [HLL.out]at this;exact this) (vcells_oneCell _ fun t ht=>RV.oneCell (HL.out.2.1 t (List.mem_of_mem_drop ht))) (by have:=HLEN.out;unfold maxLen;simp;omega) (by have:=HLEN.out;simp;omega) (by show _≤wy5.heap.size;exact hzy5) ?_
  intro v6 w7 ho6 hg6 hwh6
  obtain⟨ao6,co6,rfl⟩:=Aj ho6
  obtain⟨q1,f1⟩:=A1 (HT5.out.drew.vals_box hg6)
  have hzz:w1.heap.size<w7.heap.size:=A0 (HT5.out.drew.vals_box hg6)
  go_upto_region 11 with(fail)
  have hT6b:Two w1 w1.heap.size (w7.setCell ⟨w1.heap.size,5,none⟩ (.slice ao6 (A9 ks key+1+(l.length - jx)) co6)) (.slice ao5 (A9 ks key+1+(ks.length - jx)) co5) (.slice ao6 (A9 ks key+1+(l.length - jx)) co6) (ks.take (A9 ks key)++[key]++ks.drop jx) (L.take (A9 ks key)++[tv]++L.drop jx):=by
   have:=HT5.out.drew.vals (ys:=L.drop jx) (v':= .slice ao6 ((L.take (A9 ks key)++[tv]).length+(l.length - jx)) co6) (by have:=HLL.out;simpa [this]using ho6) hg6
   simpa [Nat.min_eq_left hlx5]using this
  clear ho6 hg6 hwh6 q1 f1
  obtain⟨wy6,hwy6⟩:∃wy6,wy6=w7.setCell ⟨w1.heap.size,5,none⟩ (.slice ao6 (A9 ks key+1+(l.length - jx)) co6):=⟨_,rfl⟩
  rw [←hwy6]at hT6b⊢
  clear hwy6
  have HT6:=Lib.hid hT6b
  have hbw6:Bw w wy6:=hbw.tr hT6b.bw
  have hiy6:=hi.below hbw6
  obtain⟨q1,f1⟩:=A1 hT6b.out
  obtain⟨q2,f2⟩:=A1 (A2 hT6b.bw HY.out)
  have hzy6:w1.heap.size+1≤wy6.heap.size:=A0 hT6b.out
  clear hT6b
  have hz:=HZ.out
  have hz2:w.heap.size+1+1<w1.heap.size:=hz
  have hz3:¬w1.heap.size=w.heap.size+1+1:=by omega
  have hz4:¬w.heap.size+1+1=w1.heap.size:=by omega
  have hz5:w.heap.size+1+1<wy6.heap.size:=by omega
  go_wp2_with fail
  all_goals
   refine bodyPost_ret (v:= .agg #[.int .i64 6, .int .i64 0, .float .f64 0, .string {data:= #[]}, .slice ao5 (A9 ks key+1+(ks.length - jx)) co5, .slice ao6 (A9 ks key+1+(l.length - jx)) co6]) (by simp [results,Tryz.results101,go_sem,q2,hz5]) rfl ?_
   refine⟨by repeat with_reducible (first|exact hbw6|refine Bw.set ?_ (by omega) _ _),_,_,by unfold Ar Ce;rfl, ?_⟩
   refine withF_post (L:=L) (tv:=tv) (jx:=jx) (a4:=a4) (wy:=wy6) hi (by omega) HT6.out ?_ (by rw [HJX.out,HHB.out]) hat4 hkey HL.out.1 HL.out.2.1 (by rw [HTV.out]) (by rw [HTV.out];exact HV.out) hlim HLEN.out hlx (by rw [HJX.out];split<;>simp)
   intro k hk
   repeat (rw [Ag _ _ _ _ _ (by omega)])
end
section
open Go.RowKit
theorem bLt_eq (a b:ByteArray):bLt a b=decide (a.toList<b.toList):=by unfold bLt;rw [bytesLess_eq]
theorem toList_inj {a b:ByteArray}(h:a.toList=b.toList):a=b:=(Lib.bytes_beq_iff a b).1 (by simp [h])
theorem Da (a:ByteArray):bLt a a=false:=by rw [bLt_eq];simp
theorem bLt_tri (a b:ByteArray):bLt a b=true∨a=b∨bLt b a=true:=by
 simp only [bLt_eq,decide_eq_true_eq]
 by_cases h1:a.toList<b.toList
 ·exact .inl h1
 ·by_cases h2:b.toList<a.toList
  ·exact .inr (.inr h2)
  ·exact .inr (.inl (toList_inj (List.le_antisymm (List.not_lt.1 h2) (List.not_lt.1 h1))))
theorem bLt_asymm {a b:ByteArray}(h:bLt a b=true):bLt b a=false:=by
 cases g:bLt b a
 ·rfl
 ·have:=F8 h g;rw [Da]at this;cases this
theorem AN.ext:∀{l m:List ByteArray},AN l→AN m→(∀k,k ∈ l↔k ∈ m)→l=m
 |[],[],_,_,_=>rfl
 |[],b::m,_,_,h=>by have:=(h b).2 (by simp);simp at this
 |a::l,[],_,_,h=>by have:=(h a).1 (by simp);simp at this
 |a::l,b::m,hl,hm,h=>by
  have hl':=List.pairwise_cons.1 hl
  have hm':=List.pairwise_cons.1 hm
  have e:a=b:=by
   have h1:=(h a).1 (by simp)
   have h2:=(h b).2 (by simp)
   simp only [List.mem_cons]at h1 h2
   rcases h1 with h1|h1
   ·exact h1
   ·rcases h2 with h2|h2
    ·exact h2.symm
    ·have g1:=hm'.1 a h1
     have g2:=hl'.1 b h2
     rw [bLt_asymm g1]at g2;cases g2
  subst e
  rw [AN.ext hl'.2 hm'.2 fun k=> ?_]
  constructor
  ·intro hk
   have:=(h k).1 (by simp [hk])
   simp only [List.mem_cons]at this
   rcases this with rfl|this
   ·have:=hl'.1 k hk;rw [Da]at this;cases this
   ·exact this
  ·intro hk
   have:=(h k).2 (by simp [hk])
   simp only [List.mem_cons]at this
   rcases this with rfl|this
   ·have:=hm'.1 k hk;rw [Da]at this;cases this
   ·exact this
theorem AN.nodup {l:List ByteArray}(h:AN l):l.Nodup:=by
 refine List.Pairwise.imp ?_ h
 intro a b hab e
 subst e;rw [Da]at hab;cases hab
theorem lowerIx_le (ks:List ByteArray)(k:ByteArray):A9 ks k≤ks.length:=by
 unfold A9;exact(List.takeWhile_prefix _).length_le
theorem lower_lt {ks:List ByteArray}{k x:ByteArray}(h:x ∈ ks.take (A9 ks k)):bLt x k=true:=by
 unfold A9 at h
 have e:ks.take (ks.takeWhile fun y=>bLt y k).length=ks.takeWhile fun y=>bLt y k:=(List.prefix_iff_eq_take.1 (List.takeWhile_prefix _)).symm
 rw [e]at h
 exact(List.all_eq_true.1 (List.all_takeWhile (p:=fun y=>bLt y k) (l:=ks))) x h
theorem lower_ge {ks:List ByteArray}{k:ByteArray}(h:A9 ks k<ks.length):bLt (ks[A9 ks k]) k=false:=by
 unfold A9 at h⊢
 induction ks with
 |nil=>simp at h
 |cons a ks ih=>
  cases g:bLt a k
  ·simp [List.takeWhile,g]
  ·simp only [List.takeWhile,g,List.length_cons,List.getElem_cons_succ]at h⊢
   exact ih (by simpa using h)
theorem drop_gt {ks:List ByteArray}(hs:AN ks){k x:ByteArray}{i:Nat}(hi:∀h:i<ks.length,bLt k ks[i]=true)(h:x ∈ ks.drop i):bLt k x=true:=by
 obtain⟨j,hj,rfl⟩:=List.mem_iff_getElem.1 h
 simp only [List.length_drop]at hj
 rw [List.getElem_drop]
 rcases j with _|j
 ·exact hi (by omega)
 ·exact F8 (hi (by omega)) (hs.get (by omega) (by omega))
def updG (g:ByteArray→GV)(k:ByteArray)(v:GV):ByteArray→GV:=fun x=>if x=k then v else g x
def DA (S:List ByteArray)(g:ByteArray→GV):GV:=⟨6,0,0,⟨#[]⟩,S,S.map g⟩
theorem updG_map {A:List ByteArray}{g:ByteArray→GV}{k:ByteArray}{v:GV}(h:k ∉ A):A.map (updG g k v)=A.map g:=
 List.map_congr_left fun x hx=>by unfold updG;rw [if_neg (fun e:x=k=>h (e▸hx))]
theorem withF_rep {S:List ByteArray}{g:ByteArray→GV}{k:ByteArray}{v:GV}(hs:AN S):∃S',Ce (DA S g) k v=DA S' (updG g k v)∧AN S'∧(∀x,x ∈ S'↔x ∈ S∨x=k)∧S'.length≤S.length+1:=by
 have key:∀A B:List ByteArray,k ∉ A→k ∉ B→A.map g++[v]++B.map g=(A++[k]++B).map (updG g k v):=by
  intro A B ha hb
  simp only [List.map_append,List.map_cons,List.map_nil,updG_map ha,updG_map hb]
  unfold updG;rw [if_pos rfl]
 have hA:∀x ∈ S.take (A9 S k),bLt x k=true:=fun x=>lower_lt
 have hkA:k ∉ S.take (A9 S k):=fun h=>by have:=hA k h;rw [Da]at this;cases this
 unfold Ce DA
 simp only
 cases hx:Ea S k
 ·
  have hB:∀x ∈ S.drop (A9 S k),bLt k x=true:=fun x h=>drop_gt hs (fun hl=>by
   rcases bLt_tri k S[A9 S k]with h1|h1|h1
   ·exact h1
   ·unfold Ea at hx;rw [List.getElem?_eq_getElem hl]at hx;simp only at hx;rw [←h1]at hx;simp at hx
   ·rw [lower_ge hl]at h1;cases h1) h
  have hkB:k ∉ S.drop (A9 S k):=fun h=>by have:=hB k h;rw [Da]at this;cases this
  refine⟨S.take (A9 S k)++[k]++S.drop (A9 S k), ?_, ?_, ?_, ?_⟩
  ·simp only [Bool.false_eq_true,if_false,←key _ _ hkA hkB,List.map_take,List.map_drop]
  ·have h1:AN (S.take (A9 S k)):=List.Pairwise.sublist (List.take_sublist _ _) hs
   have h2:AN (S.drop (A9 S k)):=List.Pairwise.sublist (List.drop_sublist _ _) hs
   refine List.pairwise_append.2 ⟨List.pairwise_append.2 ⟨h1,by simp,by simpa using hA⟩,h2, ?_⟩
   intro a ha b hb
   simp only [List.mem_append,List.mem_singleton]at ha
   rcases ha with ha|rfl
   ·exact F8 (hA a ha) (hB b hb)
   ·exact hB b hb
  ·intro x
   have:=List.take_append_drop (A9 S k) S
   constructor
   ·intro h
    simp only [List.mem_append,List.mem_singleton]at h
    rcases h with(h|h)|h
    ·exact .inl (List.mem_of_mem_take h)
    ·exact .inr h
    ·exact .inl (List.mem_of_mem_drop h)
   ·rintro(h|h)
    ·rw [←this]at h
     simp only [List.mem_append,List.mem_singleton]at h⊢
     rcases h with h|h
     ·exact .inl (.inl h)
     ·exact .inr h
    ·simp [h]
  ·have:=lowerIx_le S k
   simp;omega
 ·obtain⟨hl,he⟩:=hasIx_lt hx
  have he2:=toList_inj he
  have hS:S.take (A9 S k)++[k]++S.drop (A9 S k+1)=S:=by
   have h1:=List.take_append_drop (A9 S k) S
   rw [C1 hl,he2]at h1
   simpa using h1
  have hkB:k ∉ S.drop (A9 S k+1):=fun h=>by
   have:=drop_gt (k:=k) hs (i:=A9 S k+1) (fun h2=>by have:=hs.get (i:=A9 S k) (j:=A9 S k+1) (by omega) h2;rwa [he2]at this) h
   rw [Da]at this;cases this
  refine⟨S, ?_,hs, ?_,by omega⟩
  ·simp only [if_true,←List.map_take,←List.map_drop,key _ _ hkA hkB,hS]
  ·intro x
   constructor
   ·exact .inl
   ·rintro(h|h)
    ·exact h
    ·rw [h,←he2];exact List.getElem_mem _
def Dj:List (ByteArray × GV)→GV→GV
 |[],m=>m
 |(k,v)::r,m=>Dj r (Ce m k v)
def Ci:GV:=⟨6,0,0,⟨#[]⟩,[],[]⟩
mutual
def Aa:GV→GV
 |⟨k,n,f,s,ks,l⟩=>if k=1 then⟨1,if n=0 then 0 else 1,0,⟨#[]⟩,[],[]⟩else if k=2 then⟨2,n,0,⟨#[]⟩,[],[]⟩else if k=3 then⟨3,0,f,⟨#[]⟩,[],[]⟩else if k=4 then⟨4,0,0,s,[],[]⟩
  else if k=5 then⟨5,0,0,⟨#[]⟩,[],Bo l⟩else if k=6 then Dj (ks.zip (Bo l)) Ci else Ay
def Bo:List GV→List GV
 |[]=>[]
 |v::r=>Aa v::Bo r
end
theorem Ca:∀l:List GV,Bo l=l.map Aa
 |[]=>rfl
 |v::r=>by simp only [Bo,List.map_cons,Ca r]
def lastG:List (ByteArray × GV)→(ByteArray→GV)→ByteArray→GV
 |[],g=>g
 |(k,v)::r,g=>lastG r (updG g k v)
theorem DF:∀(L:List (ByteArray × GV)) {S:List ByteArray} {g:ByteArray→GV},AN S→
  ∃S',Dj L (DA S g)=DA S' (lastG L g)∧AN S'∧(∀x,x ∈ S'↔x ∈ S∨x ∈ L.map Prod.fst)∧S'.length≤S.length+L.length
 |[],S,g,h=>⟨S,rfl,h,by simp,by simp⟩
 |(k,v)::r,S,g,h=>by
  obtain⟨S1,e1,h1,m1,l1⟩:=withF_rep (k:=k) (v:=v) (g:=g) h
  obtain⟨S2,e2,h2,m2,l2⟩:=DF r (g:=updG g k v) h1
  refine⟨S2,by simp only [Dj,e1,e2,lastG],h2,fun x=> ?_,by simp only [List.length_cons];omega⟩
  rw [m2,m1];simp only [List.map_cons,List.mem_cons]
  constructor
  ·rintro((h|h)|h)
   ·exact .inl h
   ·exact .inr (.inl h)
   ·exact .inr (.inr h)
  ·rintro(h|h|h)
   ·exact .inl (.inl h)
   ·exact .inl (.inr h)
   ·exact .inr h
theorem D':Ci=DA [] (fun _=>Ay):=rfl
def AV (ks:List ByteArray):List ByteArray:=(Dj (ks.map fun k=>(k,Ay)) Ci).ks
theorem Cc (ks:List ByteArray):AN (AV ks)∧∀x,x ∈ AV ks↔x ∈ ks:=by
 obtain⟨S,e,h,m,_⟩:=DF (ks.map fun k=>(k,Ay)) (S:=[]) (g:=fun _=>Ay) List.Pairwise.nil
 unfold AV
 rw [D',e]
 refine⟨h,fun x=> ?_⟩
 show x ∈ S↔_
 rw [m];simp
theorem sortK_eq {ks S:List ByteArray}(h:AN S)(hm:∀x,x ∈ S↔x ∈ ks):AV ks=S:=
 AN.ext (Cc ks).1 h fun x=>by rw [(Cc ks).2,hm]
theorem Cp {ks:List ByteArray}(h:ks.Nodup):(AV ks).length=ks.length:=
 ((List.perm_ext_iff_of_nodup (Cc ks).1.nodup h).2 fun x=>(Cc ks).2 x).length_eq
def DV (ks:List ByteArray)(vs:List GV)(k:ByteArray):GV:=vs.getD (ks.idxOf k) Ay
mutual
def AE:JT→GV
 | .null=>Ay
 | .bool b=>⟨1,if b then 1 else 0,0,⟨#[]⟩,[],[]⟩
 | .int n=>⟨2,n,0,⟨#[]⟩,[],[]⟩
 | .flt f=>⟨3,0,f,⟨#[]⟩,[],[]⟩
 | .str s=>⟨4,0,0,s,[],[]⟩
 | .list l=>⟨5,0,0,⟨#[]⟩,[],BT l⟩
 | .map ks vs=>DA (AV ks) (DV ks (BT vs))
def BT:List JT→List GV
 |[]=>[]
 |t::r=>AE t::BT r
end
theorem Bg:∀l:List JT,BT l=l.map AE
 |[]=>rfl
 |v::r=>by simp only [BT,List.map_cons,Bg r]
theorem idxOf_inj {ks:List ByteArray}{x y:ByteArray}(hx:x ∈ ks)(hy:y ∈ ks)(h:ks.idxOf x=ks.idxOf y):x=y:=by
 have h1:=List.getElem_idxOf (List.idxOf_lt_length_of_mem hx)
 have h2:=List.getElem_idxOf (List.idxOf_lt_length_of_mem hy)
 rw [←h1,←h2];simp only [h]
theorem look_put {ks:List ByteArray}{vs:List GV}{k x:ByteArray}{v:GV}(hl:ks.length=vs.length)(hx:x ∈ E4 ks k):
  DV (E4 ks k) (if k ∈ ks then vs.set (ks.idxOf k) v else vs++[v]) x=updG (DV ks vs) k v x:=by
 unfold E4 at hx⊢
 unfold DV updG
 by_cases hk:k ∈ ks
 ·simp only [if_pos hk]at hx⊢
  by_cases e:x=k
  ·subst e
   have:=List.idxOf_lt_length_of_mem hk
   simp [List.getD_eq_getElem?_getD,List.getElem?_set,show ks.idxOf x<vs.length by omega]
  ·have h1:¬ks.idxOf k=ks.idxOf x:=fun h=>e (idxOf_inj hk hx h).symm
   simp [if_neg e,List.getD_eq_getElem?_getD,List.getElem?_set,h1]
 ·simp only [if_neg hk]at hx⊢
  by_cases e:x=k
  ·subst e
   have:(ks++[x]).idxOf x=ks.length:=by simp [List.idxOf_append,hk]
   simp [this,hl]
  ·have hxk:x ∈ ks:=by simpa [e]using hx
   have h1:(ks++[k]).idxOf x=ks.idxOf x:=by simp [List.idxOf_append,hxk]
   have h2:=List.idxOf_lt_length_of_mem hxk
   rw [h1,if_neg e]
   simp [List.getD_eq_getElem?_getD,List.getElem?_append,show ks.idxOf x<vs.length by omega]
theorem putV_map {ks:List ByteArray}{vs:List JT}{k:ByteArray}{t:JT}:BT (putV ks vs k t)=if k ∈ ks then(BT vs).set (ks.idxOf k) (AE t)else BT vs++[AE t]:=by
 unfold putV;split<;>simp [Bg,List.map_set]
theorem putK_mem {ks:List ByteArray}{k x:ByteArray}:x ∈ E4 ks k↔x ∈ ks∨x=k:=by
 unfold E4;split
 ·rename_i h
  constructor
  ·exact .inl
  ·rintro(g|rfl)
   ·exact g
   ·exact h
 ·simp
theorem putKV_len {ks:List ByteArray}{vs:List JT}{k:ByteArray}{t:JT}(h:ks.length=vs.length):(E4 ks k).length=(putV ks vs k t).length:=by
 unfold E4 putV;split<;>simp [h]
theorem foldJ_from:∀(L:List (ByteArray × JT)) (ks:List ByteArray) (vs:List JT) (S:List ByteArray) (g:ByteArray→GV),AN S→ks.length=vs.length→(∀x,x ∈ S↔x ∈ ks)→(∀x ∈ ks,g x=DV ks (BT vs) x)→
  AE (D3 L ks vs)=Dj (L.map fun p=>(p.1,AE p.2)) (DA S g)
 |[],ks,vs,S,g,hs,hl,hm,hg=>by
  simp only [D3,List.map_nil,Dj,AE]
  rw [sortK_eq hs hm]
  unfold DA
  rw [List.map_congr_left fun x hx=>(hg x ((hm x).1 hx)).symm]
 |(k,t)::r,ks,vs,S,g,hs,hl,hm,hg=>by
  obtain⟨S1,e1,h1,m1,_⟩:=withF_rep (k:=k) (v:=AE t) (g:=g) hs
  simp only [D3,List.map_cons,Dj,e1]
  refine foldJ_from r _ _ S1 _ h1 (putKV_len hl) (fun x=>by rw [m1,putK_mem,hm]) fun x hx=> ?_
  rw [putV_map,look_put (by rw [hl,Bg,List.length_map]) hx]
  unfold updG
  by_cases e:x=k
  ·simp [e]
  ·rw [if_neg e,if_neg e]
   refine hg x ?_
   rcases putK_mem.1 hx with h|h
   ·exact h
   ·exact absurd h e
theorem zip_map_right {α β γ:Type}(f:β→γ):∀(a:List α) (b:List β),a.zip (b.map f)=(a.zip b).map fun p=>(p.1,f p.2)
 |[],_=>by simp
 |_::_,[]=>by simp
 |x::a,y::b=>by simp [zip_map_right f a b]
mutual
theorem Fs:∀v:GV,AE (Ak v)=Aa v
 |⟨k,n,f,s,ks,l⟩=>by
  have hl:=fromJs_jtsOf l
  simp only [Ak,Aa]
  by_cases h1:k=1
  ·simp only [if_pos h1,AE];by_cases h:n=0<;>simp [h]
  ·by_cases h2:k=2
   ·simp only [if_neg h1,if_pos h2,AE]
   ·by_cases h3:k=3
    ·simp only [if_neg h1,if_neg h2,if_pos h3,AE]
    ·by_cases h4:k=4
     ·simp only [if_neg h1,if_neg h2,if_neg h3,if_pos h4,AE]
     ·by_cases h5:k=5
      ·simp only [if_neg h1,if_neg h2,if_neg h3,if_neg h4,if_pos h5,AE,hl]
      ·by_cases h6:k=6
       ·simp only [if_neg h1,if_neg h2,if_neg h3,if_neg h4,if_neg h5,if_pos h6]
        rw [foldJ_from _ [] [] [] (fun _=>Ay) List.Pairwise.nil rfl (by simp) (by simp),D',←hl,Bg,zip_map_right]
       ·simp only [if_neg h1,if_neg h2,if_neg h3,if_neg h4,if_neg h5,if_neg h6,AE]
theorem fromJs_jtsOf:∀l:List GV,BT (Cu l)=Bo l
 |[]=>rfl
 |v::r=>by simp only [Cu,BT,Bo,Fs v,fromJs_jtsOf r]
end
theorem lastG_not:∀(L:List (ByteArray × GV)) (g:ByteArray→GV) (x:ByteArray),x ∉ L.map Prod.fst→lastG L g x=g x
 |[],_,_,_=>rfl
 |(k,v)::r,g,x,h=>by
  simp only [List.map_cons,List.mem_cons,not_or]at h
  simp only [lastG]
  rw [lastG_not r _ x h.2]
  unfold updG;rw [if_neg h.1]
theorem lastG_mem:∀(L:List (ByteArray × GV)) (g:ByteArray→GV) (x:ByteArray),x ∈ L.map Prod.fst→∃v,(x,v) ∈ L∧lastG L g x=v
 |[],_,_,h=>by simp at h
 |(k,v)::r,g,x,h=>by
  simp only [lastG]
  by_cases hr:x ∈ r.map Prod.fst
  ·obtain⟨u,h1,h2⟩:=lastG_mem r (updG g k v) x hr
   exact⟨u,by simp [h1],h2⟩
  ·have hk:x=k:=by
    simp only [List.map_cons,List.mem_cons]at h
    rcases h with h|h
    ·exact h
    ·exact absurd h hr
   subst hk
   refine⟨v,by simp, ?_⟩
   rw [lastG_not r _ x hr];unfold updG;rw [if_pos rfl]
theorem foldF_zip {S:List ByteArray}{g:ByteArray→GV}(h:AN S):Dj (S.zip (S.map g)) Ci=DA S g:=by
 obtain⟨S',e,h',m,_⟩:=DF (S.zip (S.map g)) (S:=[]) (g:=fun _=>Ay) List.Pairwise.nil
 have hf:(S.zip (S.map g)).map Prod.fst=S:=by rw [List.map_fst_zip];simp
 rw [D',e]
 have hS:S'=S:=AN.ext h' h fun x=>by rw [m,hf];simp
 subst hS
 unfold DA
 congr 1
 refine List.map_congr_left fun x hx=> ?_
 obtain⟨v,h1,h2⟩:=lastG_mem (S'.zip (S'.map g)) (fun _=>Ay) x (by rw [hf];exact hx)
 rw [h2]
 obtain⟨j,hj,e2⟩:=List.mem_iff_getElem.1 h1
 simp only [List.getElem_zip,List.getElem_map,Prod.mk.injEq]at e2
 rw [←e2.2,e2.1]
def CleanFix (v:GV):Prop:=Aa v=v
theorem repM_fix {S:List ByteArray}{g:ByteArray→GV}(h:AN S)(hg:∀x ∈ S,Aa (g x)=g x):Aa (DA S g)=DA S g:=by
 have e:Bo (S.map g)=S.map g:=by
  rw [Ca,List.map_map];exact List.map_congr_left fun x hx=>hg x hx
 have:=foldF_zip (g:=g) h
 unfold DA at this⊢
 simp only [Aa,e]
 simpa using this
theorem clean_sz:∀(z:Nat) (v:GV),v.sz≤z→Aa (Aa v)=Aa v
 |0,v,h=>by have:=v.sz_eq;omega
 |z+1,v,h=>by
  have hsz:=v.sz_eq
  rcases v with⟨k,n,f,s,ks,l⟩
  simp only at hsz
  have ih:∀u ∈ l,Aa (Aa u)=Aa u:=by
   intro u hu
   obtain⟨j,hj,rfl⟩:=List.mem_iff_getElem.1 hu
   exact clean_sz z _ (by have:=D0 hj;omega)
  by_cases h6:k=6
  ·subst h6
   have e:Aa ⟨6,n,f,s,ks,l⟩=Dj (ks.zip (Bo l)) Ci:=by simp [Aa]
   rw [e]
   obtain⟨S',e',h',m,_⟩:=DF (ks.zip (Bo l)) (S:=[]) (g:=fun _=>Ay) List.Pairwise.nil
   rw [D',e']
   refine repM_fix h' fun x hx=> ?_
   have hm:=(m x).1 hx
   simp only [List.not_mem_nil,false_or]at hm
   obtain⟨v,h1,h2⟩:=lastG_mem _ (fun _=>Ay) x hm
   rw [h2]
   have h3:=(List.of_mem_zip h1).2
   rw [Ca,List.mem_map]at h3
   obtain⟨u,hu,rfl⟩:=h3
   exact ih u hu
  ·by_cases h5:k=5
   ·subst h5
    have e1:Aa ⟨5,n,f,s,ks,l⟩=⟨5,0,0,⟨#[]⟩,[],l.map Aa⟩:=by simp [Aa,Ca]
    rw [e1]
    have e2:(l.map Aa).map Aa=l.map Aa:=by
     rw [List.map_map];exact List.map_congr_left fun u hu=>ih u hu
    simp [Aa,Ca, -List.map_map,e2]
   ·by_cases h1:k=1
    ·subst h1;by_cases hn:n=0<;>simp [Aa,hn]
    ·by_cases h2:k=2
     ·subst h2;simp [Aa]
     ·by_cases h3:k=3
      ·subst h3;simp [Aa]
      ·by_cases h4:k=4
       ·subst h4;simp [Aa]
       ·simp [Aa,h1,h2,h3,h4,h5,h6,Ay]
theorem clean_idem (v:GV):Aa (Aa v)=Aa v:=clean_sz _ v (Nat.le_refl _)
def BS:List ByteArray→List ByteArray→Bool
 |a::l,b::m=>a.toList==b.toList && BS l m
 |_,_=>true
mutual
def identP:GV→GV→Bool
 |⟨k,n,f,s,ks,l⟩,b=>k==b.k && n==b.n && s.toList==b.s.toList && f==b.f && ks.length==b.ks.length && l.length==b.l.length && BS ks b.ks && identPs l b.l
def identPs:List GV→List GV→Bool
 |a::l,b::m=>identP a b && identPs l m
 |_,_=>true
end
theorem keysEq_refl:∀l,BS l l=true
 |[]=>rfl
 |a::l=>by simp [BS,keysEq_refl l]
theorem Fq:∀{l m:List ByteArray},l.length=m.length→(BS l m=true↔l=m)
 |[],[],_=>by simp [BS]
 |a::l,b::m,h=>by
  have:=Fq (l:=l) (m:=m) (by simpa using h)
  simp only [BS,Bool.and_eq_true,this,List.cons.injEq]
  exact⟨fun⟨h1,h2⟩=>⟨toList_inj (by simpa using h1),h2⟩,fun⟨h1,h2⟩=>⟨by simp [h1],h2⟩⟩
mutual
theorem identP_refl:∀v,identP v v=true
 |⟨k,n,f,s,ks,l⟩=>by simp [identP,keysEq_refl,identPs_refl l]
theorem identPs_refl:∀l,identPs l l=true
 |[]=>rfl
 |v::r=>by simp [identPs,identP_refl v,identPs_refl r]
end
def Dx (k:Int):Bool:=k==2||k==3
def asF (v:GV):Nat:=if v.k=2 then toF v.n else v.f
mutual
def eqP:GV→GV→Bool
 |⟨k,n,f,s,ks,l⟩,b=>if Dx k && Dx b.k then(if k=2∧b.k=2 then n==b.n else BZ (if k=2 then toF n else f) (asF b))else
   (k==b.k && n==b.n && s.toList==b.s.toList && ks.length==b.ks.length && l.length==b.l.length && BS ks b.ks && E5 l b.l)
def E5:List GV→List GV→Bool
 |a::l,b::m=>eqP a b && E5 l m
 |_,_=>true
end
theorem eqPs_iff:∀{l m:List GV},l.length=m.length→(E5 l m=true↔∀j (h1:j<l.length) (h2:j<m.length),eqP l[j] m[j]=true)
 |[],[],_=>by simp [E5]
 |a::l,b::m,h=>by
  have:=eqPs_iff (l:=l) (m:=m) (by simpa using h)
  simp only [E5,Bool.and_eq_true,this]
  constructor
  ·rintro⟨h1,h2⟩ j g1 g2
   cases j with
   |zero=>exact h1
   |succ j=>exact h2 j (by simpa using g1) (by simpa using g2)
  ·intro h
   exact⟨h 0 (by simp) (by simp),fun j g1 g2=>h (j+1) (by simpa using g1) (by simpa using g2)⟩
mutual
def okJ:JT→Prop
 | .list l=>EP l
 | .map ks vs=>ks.Nodup∧ks.length=vs.length∧EP vs
 |_=>True
def EP:List JT→Prop
 |[]=>True
 |t::r=>okJ t∧EP r
end
theorem D2:∀{l:List JT} (h:EP l) {j:Nat} (hj:j<l.length),okJ l[j]
 |t::r,h,0,_=>by simp only [EP]at h;exact h.1
 |t::r,h,j+1,hj=>by simp only [EP]at h;exact D2 h.2 (by simpa using hj)
theorem eqJs_iff:∀{l m:List JT},l.length=m.length→(eqJs l m=true↔∀j (h1:j<l.length) (h2:j<m.length),eqJ l[j] m[j]=true)
 |[],[],_=>by simp [eqJs]
 |a::l,b::m,h=>by
  have:=eqJs_iff (l:=l) (m:=m) (by simpa using h)
  simp only [eqJs,Bool.and_eq_true,this]
  constructor
  ·rintro⟨h1,h2⟩ j g1 g2
   cases j with
   |zero=>exact h1
   |succ j=>exact h2 j (by simpa using g1) (by simpa using g2)
  ·intro h
   exact⟨h 0 (by simp) (by simp),fun j g1 g2=>h (j+1) (by simpa using g1) (by simpa using g2)⟩
theorem eqJm_iff {ka:List ByteArray}{va:List JT}:∀{kb:List ByteArray} {vb:List JT},kb.length=vb.length→(eqJm ka va kb vb=true↔∀j (h1:j<kb.length) (h2:j<vb.length),∃v,va[ka.idxOf kb[j]]?=some v∧eqJ v vb[j]=true)
 |[],[],_=>by simp [eqJm]
 |a::l,b::m,h=>by
  have:=eqJm_iff (ka:=ka) (va:=va) (kb:=l) (vb:=m) (by simpa using h)
  simp only [eqJm,Bool.and_eq_true,this]
  constructor
  ·rintro⟨h1,h2⟩ j g1 g2
   cases j with
   |zero=>
    simp only [List.getElem_cons_zero]
    split at h1
    ·rename_i v hv;exact⟨v,hv,h1⟩
    ·cases h1
   |succ j=>exact h2 j (by simpa using g1) (by simpa using g2)
  ·intro h
   refine⟨?_,fun j g1 g2=>h (j+1) (by simpa using g1) (by simpa using g2)⟩
   obtain⟨v,h1,h2⟩:=h 0 (by simp) (by simp)
   simp only [List.getElem_cons_zero]at h1 h2
   rw [h1];exact h2
theorem idxOf_get {ks:List ByteArray}(hn:ks.Nodup){j:Nat}(hj:j<ks.length):ks.idxOf ks[j]=j:=hn.idxOf_getElem j hj
theorem lookG_get {ks:List ByteArray}{vs:List JT}(hn:ks.Nodup)(hl:ks.length=vs.length){j:Nat}(hj:j<ks.length):DV ks (BT vs) ks[j]=AE (vs[j]'(by omega)):=by
 unfold DV
 rw [idxOf_get hn hj,Bg]
 simp [List.getD_eq_getElem?_getD,show j<vs.length by omega]
theorem cover:∀(b a:List ByteArray),b.Nodup→a.Nodup→(∀x ∈ b,x ∈ a)→a.length≤b.length→∀x ∈ a,x ∈ b
 |[],a,_,_,_,hl,x,hx=>by
  have:a=[]:=List.length_eq_zero_iff.1 (by simpa using hl)
  rw [this]at hx;exact hx
 |y::b,a,hb,ha,h,hl,x,hx=>by
  have hb':=List.nodup_cons.1 hb
  by_cases e:x=y
  ·simp [e]
  ·have hy:y ∈ a:=h y (by simp)
   have hlen:=List.length_erase_of_mem hy
   have hpos:0<a.length:=List.length_pos_of_mem hy
   have:=cover b (a.erase y) hb'.2 (ha.erase y) (fun z hz=>(List.mem_erase_of_ne (fun e2:z=y=>hb'.1 (e2▸hz))).2 (h z (by simp [hz]))) (by simp only [List.length_cons]at hl;omega) x ((List.mem_erase_of_ne e).2 hx)
   simp [this]
theorem nodup_cover {a b:List ByteArray}(ha:a.Nodup)(hb:b.Nodup)(hl:a.length=b.length)(h:∀x ∈ b,x ∈ a):∀x,x ∈ a↔x ∈ b:=
 fun x=>⟨cover b a hb ha h (by omega) x,h x⟩
theorem eqJ_eqP:∀(z:Nat) (t u:JT),u.sz≤z→okJ t→okJ u→eqJ t u=eqP (AE t) (AE u)
 |0,t,u,h,_,_=>by cases u<;>simp [JT.sz]at h
 |z+1,t,u,h,ht,hu=>by
  cases u with
  |null=>cases t<;>simp [eqJ,AE,eqP,Dx,asF,Ay,DA,BS,E5]
  |bool b=>
   cases t with
   |bool a=>cases a<;>cases b<;>simp [eqJ,AE,eqP,Dx,BS,E5]
   |_=>simp [eqJ,AE,eqP,Dx,asF,Ay,DA]
  |int b=>cases t<;>simp [eqJ,AE,eqP,Dx,asF,Ay,DA]
  |flt b=>cases t<;>simp [eqJ,AE,eqP,Dx,asF,Ay,DA]
  |str b=>cases t<;>simp [eqJ,AE,eqP,Dx,asF,Ay,DA,BS,E5]
  |list b=>
   cases t with
   |list a=>
    simp only [okJ]at ht hu
    simp only [JT.sz]at h
    by_cases hl:a.length=b.length
    ·have e:eqJs a b=E5 (BT a) (BT b):=by
      rw [Bool.eq_iff_iff,eqJs_iff hl,eqPs_iff (by simp [Bg,hl])]
      simp only [Bg,List.length_map,List.getElem_map]
      constructor
      ·intro g j h1 h2
       rw [←eqJ_eqP z _ _ (by have:=CJ h2;omega) (D2 ht h1) (D2 hu h2)];exact g j h1 h2
      ·intro g j h1 h2
       rw [eqJ_eqP z _ _ (by have:=CJ h2;omega) (D2 ht h1) (D2 hu h2)];exact g j h1 h2
     simp [eqJ,AE,eqP,Dx,BS,e,hl,Bg]
    ·simp [eqJ,AE,eqP,Dx,hl,Bg]
   |_=>simp [eqJ,AE,eqP,Dx,asF,Ay,DA]
  |map kb vb=>
   cases t with
   |map ka va=>
    simp only [okJ]at ht hu
    simp only [JT.sz]at h
    obtain⟨na,la,oa⟩:=ht
    obtain⟨nb,lb,ob⟩:=hu
    have h1:∀x,x ∈ AV ka↔x ∈ ka:=(Cc ka).2
    have h2:∀x,x ∈ AV kb↔x ∈ kb:=(Cc kb).2
    by_cases hl:ka.length=kb.length
    ·have e:eqJm ka va kb vb=(BS (AV ka) (AV kb) && E5 ((AV ka).map (DV ka (BT va))) ((AV kb).map (DV kb (BT vb)))):=by
      rw [Bool.eq_iff_iff,eqJm_iff lb,Bool.and_eq_true,Fq (by rw [Cp na,Cp nb,hl])]
      constructor
      ·intro g
       have hc:∀x ∈ kb,x ∈ ka:=by
        intro x hx
        obtain⟨j,hj,rfl⟩:=List.mem_iff_getElem.1 hx
        obtain⟨v,hv,_⟩:=g j hj (by omega)
        have:ka.idxOf kb[j]<va.length:=(List.getElem?_eq_some_iff.1 hv).1
        exact List.idxOf_lt_length_iff.1 (by omega)
       have hS:AV ka=AV kb:=AN.ext (Cc ka).1 (Cc kb).1 fun x=>by rw [h1,h2];exact nodup_cover na nb hl hc x
       refine⟨hS, ?_⟩
       rw [eqPs_iff (by simp [hS])]
       intro j g1 g2
       simp only [List.getElem_map]
       have hx:(AV kb)[j]'(by simpa using g2) ∈ kb:=(h2 _).1 (List.getElem_mem _)
       have hx2:(AV ka)[j]'(by simpa using g1)=(AV kb)[j]'(by simpa using g2):=by simp only [hS]
       rw [hx2]
       obtain⟨i,hi,e1⟩:=List.mem_iff_getElem.1 hx
       rw [←e1,lookG_get nb lb hi]
       obtain⟨v,hv,hq⟩:=g i hi (by omega)
       obtain⟨hv1,hv2⟩:=List.getElem?_eq_some_iff.1 hv
       have:DV ka (BT va) kb[i]=AE v:=by
        unfold DV
        rw [Bg]
        simp [List.getD_eq_getElem?_getD,hv]
       rw [this,←eqJ_eqP z _ _ (by have:=CJ (show i<vb.length by omega);omega) (by rw [←hv2];exact D2 oa hv1) (D2 ob (by omega))]
       exact hq
      ·rintro⟨hS,g⟩ j g1 g2
       rw [eqPs_iff (by simp [hS])]at g
       have hjb:kb[j] ∈ AV kb:=(h2 _).2 (List.getElem_mem _)
       have hja:kb[j] ∈ ka:=(h1 _).1 (by rw [hS];exact hjb)
       have hia:=List.idxOf_lt_length_of_mem hja
       refine⟨va[ka.idxOf kb[j]]'(by omega),List.getElem?_eq_getElem _, ?_⟩
       obtain⟨i,hi,e1⟩:=List.mem_iff_getElem.1 hjb
       have q:=g i (by simpa [hS]using hi) (by simpa using hi)
       simp only [List.getElem_map]at q
       have hx2:(AV ka)[i]'(by rw [hS];exact hi)=(AV kb)[i]:=by simp only [hS]
       rw [hx2,e1,lookG_get nb lb g1]at q
       have:DV ka (BT va) kb[j]=AE (va[ka.idxOf kb[j]]'(by omega)):=by
        unfold DV
        rw [Bg]
        simp [List.getD_eq_getElem?_getD,show ka.idxOf kb[j]<va.length by omega]
       rw [this]at q
       rw [eqJ_eqP z _ _ (by have:=CJ g2;omega) (D2 oa (by omega)) (D2 ob g2)]
       exact q
     simp [eqJ,AE,eqP,Dx,e,DA,hl,Cp na,Cp nb]
    ·simp [eqJ,AE,eqP,Dx,DA,hl,Cp na,Cp nb]
   |_=>simp [eqJ,AE,eqP,Dx,asF,Ay,DA]
theorem datum_symm (a b:Ieee.Datum):(a.order b==some .eq)=(b.order a==some .eq):=by
 cases a with
 |nan=>cases b<;>rfl
 |infinity s=>cases b with
  |nan=>rfl
  |infinity t=>cases s<;>cases t<;>rfl
  |number t n j=>cases s<;>rfl
 |number s m i=>cases b with
  |nan=>rfl
  |infinity t=>cases t<;>rfl
  |number t n j=>
   simp only [Ieee.Datum.order]
   rw [Bool.eq_iff_iff]
   simp only [beq_iff_eq,Option.some.injEq,Int.min_comm j i]
   constructor
   ·intro h;have:=Std.LawfulEqCmp.eq_of_compare h;rw [this];exact Std.ReflCmp.compare_self
   ·intro h;have:=Std.LawfulEqCmp.eq_of_compare h;rw [this];exact Std.ReflCmp.compare_self
theorem fltEq_symm (a b:Nat):BZ a b=BZ b a:=datum_symm _ _
theorem F7 {α:Type}[BEq α][LawfulBEq α](a b:α):(a==b)=(b==a):=by
 rw [Bool.eq_iff_iff,beq_iff_eq,beq_iff_eq];exact eq_comm
mutual
theorem eqP_symm:∀a b:GV,eqP a b=eqP b a
 |⟨k,n,f,s,ks,l⟩,⟨k2,n2,f2,s2,ks2,l2⟩=>by
  have hs:=eqPs_symm l l2
  simp only [eqP,asF]
  have hbr:(k==k2 && n==n2 && s.toList==s2.toList && ks.length==ks2.length && l.length==l2.length && BS ks ks2 && E5 l l2)=(k2==k && n2==n && s2.toList==s.toList && ks2.length==ks.length && l2.length==l.length && BS ks2 ks && E5 l2 l):=by
   rw [F7 k,F7 n,F7 s.toList,F7 ks.length,F7 l.length,hs]
   by_cases hk:ks.length=ks2.length
   ·have e1:BS ks ks2=BS ks2 ks:=by rw [Bool.eq_iff_iff,Fq hk,Fq hk.symm];exact eq_comm
    rw [e1]
   ·have:(ks2.length==ks.length)=false:=by simp only [beq_eq_false_iff_ne];exact fun h=>hk h.symm
    rw [this];simp only [Bool.and_false,Bool.false_and]
  cases h1:Dx k<;>cases h2:Dx k2
  ·exact hbr
  ·exact hbr
  ·exact hbr
  ·simp only [Bool.and_self,if_true]
   by_cases h3:k=2∧k2=2
   ·rw [if_pos h3,if_pos ⟨h3.2,h3.1⟩];exact F7 _ _
   ·rw [if_neg h3,if_neg (show ¬(k2=2∧k=2) from fun g=>h3 ⟨g.2,g.1⟩)];exact fltEq_symm _ _
theorem eqPs_symm:∀l m:List GV,E5 l m=E5 m l
 |[],[]=>rfl
 |[],_::_=>by simp [E5]
 |_::_,[]=>by simp [E5]
 |a::l,b::m=>by simp only [E5,eqP_symm a b,eqPs_symm l m]
end
theorem foldJ_ok:∀(L:List (ByteArray × JT)) (ks:List ByteArray) (vs:List JT),ks.Nodup→ks.length=vs.length→EP vs→(∀p ∈ L,okJ p.2)→okJ (D3 L ks vs)
 |[],ks,vs,h1,h2,h3,_=>by simp only [D3,okJ];exact⟨h1,h2,h3⟩
 |(k,t)::r,ks,vs,h1,h2,h3,h4=>by
  simp only [D3]
  refine foldJ_ok r _ _ ?_ (putKV_len h2) ?_ fun p hp=>h4 p (by simp [hp])
  ·unfold E4;split
   ·exact h1
   ·rename_i hk;exact List.nodup_append.2 ⟨h1,by simp,by intro a ha b hb;simp at hb;subst hb;intro e;subst e;exact hk ha⟩
  ·have ht:okJ t:=h4 (k,t) (by simp)
   have hset:∀(l:List JT) (i:Nat),EP l→EP (l.set i t):=by
    intro l
    induction l with
    |nil=>intro i h;exact h
    |cons a l ih=>
     intro i h
     simp only [EP]at h
     cases i with
     |zero=>simp only [List.set_cons_zero,EP];exact⟨ht,h.2⟩
     |succ i=>simp only [List.set_cons_succ,EP];exact⟨h.1,ih i h.2⟩
   have happ:∀l:List JT,EP l→EP (l++[t]):=by
    intro l
    induction l with
    |nil=>intro _;simp only [List.nil_append,EP];exact⟨ht,trivial⟩
    |cons a l ih=>intro h;simp only [EP]at h;simp only [List.cons_append,EP];exact⟨h.1,ih h.2⟩
   unfold putV;split
   ·exact hset _ _ h3
   ·exact happ _ h3
mutual
theorem jtOf_ok:∀v:GV,okJ (Ak v)
 |⟨k,n,f,s,ks,l⟩=>by
  have hl:=jtsOf_ok l
  simp only [Ak]
  by_cases h1:k=1
  ·simp only [if_pos h1,okJ]
  ·by_cases h2:k=2
   ·simp only [if_neg h1,if_pos h2,okJ]
   ·by_cases h3:k=3
    ·simp only [if_neg h1,if_neg h2,if_pos h3,okJ]
    ·by_cases h4:k=4
     ·simp only [if_neg h1,if_neg h2,if_neg h3,if_pos h4,okJ]
     ·by_cases h5:k=5
      ·simp only [if_neg h1,if_neg h2,if_neg h3,if_neg h4,if_pos h5,okJ];exact hl
      ·by_cases h6:k=6
       ·simp only [if_neg h1,if_neg h2,if_neg h3,if_neg h4,if_neg h5,if_pos h6]
        refine foldJ_ok _ _ _ List.nodup_nil rfl (by simp only [EP]) fun p hp=> ?_
        obtain⟨j,hj,e⟩:=List.mem_iff_getElem.1 (List.of_mem_zip hp).2
        rw [←e];exact D2 hl hj
       ·simp only [if_neg h1,if_neg h2,if_neg h3,if_neg h4,if_neg h5,if_neg h6,okJ]
theorem jtsOf_ok:∀l:List GV,EP (Cu l)
 |[]=>by simp only [Cu,EP]
 |v::r=>by simp only [Cu,EP];exact⟨jtOf_ok v,jtsOf_ok r⟩
end
theorem eq_plain (a b:GV):eqJ (Ak a) (Ak b)=eqP (Aa a) (Aa b):=by
 rw [eqJ_eqP _ _ _ (Nat.le_refl _) (jtOf_ok a) (jtOf_ok b),Fs,Fs]
end
section
open Go.RowKit
abbrev tVal:TypeId:=35
abbrev CQ:Value:= .agg #[.int .i64 0, .int .i64 0, .float .f64 0, .string ⟨#[]⟩, .slice none 0 0, .slice none 0 0]
theorem DX:(Tryz.prog.info? 35).map (fun i=>(i.zero,i.size,i.bytes))=some (some CQ,6,88):=by kernel_rfl
theorem DN:Tryz.prog.underlying 33=some (.slice 35):=by kernel_rfl
theorem make_vals (n:Nat)(hn:n≤lim)(w:World):(Instr.makeSlice 33 (.int .i64 0) (.int .i64 (n:Int))).run Tryz.prog w= .ok (.slice (some ⟨w.heap.size,0,none⟩) 0 n) (w.alloc (.cells (madeCells CQ.cells (n * 6)) 35)):=by
 obtain⟨i,hi,hz,hs,hb⟩:=info_parts DX
 unfold lim at hn
 have:=run_make (P:=Tryz.prog) w 33 35 i CQ DN hi hz .i64 .i64 0 n (by omega) (by omega) (by rw [hb];omega) (by omega)
 simpa [hs,Value.cells]using this
def PV (H:Hp)(w wr:World)(B:Nat)(v:Value)(ts:List GV)(j:Nat):Prop:=
 ∃L:List VC,wr.ownsRow B 35 6 v j (AL L)∧L.map VC.v=ts.take j∧∀t ∈ L,RV (AX H w wr v.ownBlock) t.v t.x4 t.x5
theorem PV.own {H:Hp}{w wr:World}{B:Nat}{v:Value}{ts:List GV}{j:Nat}(h:PV H w wr B v ts j):
  ∃L:List VC,wr.ownsRow B 35 6 v j (AL L)∧(L.map VC.v=ts.take j∧∀t ∈ L,RV (AX H w wr v.ownBlock) t.v t.x4 t.x5):=h
theorem PV.nil (H:Hp)(w wr:World)(B:Nat)(ts:List GV):PV H w wr B (.slice none 0 0) ts 0:=⟨[],World.ownsRow_nil _ _ _ _,by simp,by simp⟩
theorem take_snoc' {α:Type}{l:List α}{j:Nat}(h:j<l.length):l.take (j+1)=l.take j++[l[j]]:=by
 rw [List.take_succ_eq_append_getElem h]
theorem PV.step {H:Hp}{w wr w1 w2:World}{B:Nat}{v v':Value}{ts:List GV}{j:Nat}{L:List VC}{x4 x5:Value}
  (hi:Imm H w) (hB:w.heap.size≤B) (ho:wr.ownsRow B 35 6 v j (AL L)) (hx:L.map VC.v=ts.take j∧∀t ∈ L,RV (AX H w wr v.ownBlock) t.v t.x4 t.x5)
  (hb:Bw wr w1) (hj:j<ts.length) (ht:RV (A6 H wr w1) ts[j] x4 x5) (hs:w.heap.size≤wr.heap.size)
  (ho':w2.ownsRow B 35 6 v' (j+1) (AL L++VC.cells ⟨ts[j],x4,x5⟩)) (hg:∀k o,w1.heap[k]?=some o→v.ownBlock≠some k→w2.heap[k]?=some o) (hv:v'.ownBlock=v.ownBlock∨∃k,v'.ownBlock=some k∧w1.heap.size≤k):PV H w w2 B v' ts (j+1):=by
 have hstep:Hle (AX H w w1 v.ownBlock) (AX H w w2 v'.ownBlock):=by
  refine BE fun k o hk he hne=>⟨?_,hg k o he hne⟩
  rcases hv with e|⟨k',e,hk'⟩
  ·rw [e];exact hne
  ·rw [e];intro h;cases h
   have:=A0 he
   omega
 refine⟨L++[⟨ts[j],x4,x5⟩],by rw [DJ,Ek];exact ho',by rw [List.map_append,hx.1,take_snoc' hj];rfl,fun t h=> ?_⟩
 simp only [List.mem_append,List.mem_singleton]at h
 rcases h with h|rfl
 ·exact((hx.2 t h).mono (Ee hb)).mono hstep
 ·exact(ht.mono (Ex hi hs fun k hk=>(ho.lt k hk).2)).mono hstep
theorem PV.shut {H K:Hp}{w wr:World}{B:Nat}{v:Value}{ts:List GV}(h:PV H w wr B v ts ts.length)(hk:Hle (AX H w wr v.ownBlock) K)(hr:∀g,v.ownBlock=some g→K g=wr.heap[g]?)(hl:ts.length≤lim):RVs K ts v:=by
 obtain⟨L,ho,hm,hx⟩:=h
 rw [List.take_length]at hm
 have hL:L.length=ts.length:=by rw [←hm];simp
 rw [←hL]at ho
 have:=Db (H:=K) ho hr (by omega) fun t ht=>(hx t ht).mono hk
 rwa [hm]at this
def CClean (v:GV):Prop:=∀(H:Hp) (x4 x5:Value) (w:World),Imm H w→RV H v x4 x5→Calls Tryz.prog 43 #[Ar v x4 x5] w (RetV H w (Aa v))
def RetVs (H:Hp)(w:World)(l:List GV):Ending→World→Prop:=fun e w'=>Bw w w'∧∃x,e= .returned x∧RVs (A6 H w w') l x
end
end Go.Proofs.YtmghkmhgpmcoaaaGreat
