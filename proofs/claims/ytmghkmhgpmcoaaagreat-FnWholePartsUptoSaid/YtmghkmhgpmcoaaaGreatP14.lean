/- What the claim's theorem 'proved' rests on: ListM, Item, ListE. -/
import Derived.Test.YtmghkmhgpmcoaaaGreatP12
set_option linter.unusedVariables false
set_option linter.unusedSimpArgs false
set_option maxRecDepth 100000
set_option maxHeartbeats 10000000
namespace Go.Proofs.YtmghkmhgpmcoaaaGreat
section
open Go Go.RowKit
theorem Dh (a:Option Addr)(n c:Nat)(w:World):Calls Tryz.prog 320 #[.slice a n c] w (Pur w (.int .i64 n)):=by
 go_enter Tryz.func320,Tryz.ntmps320
 go_wp2_with fail
 go_ret
 exact⟨rfl,Bw.rfl⟩
theorem emptyNext_c (a:Addr)(w:World):Calls Tryz.prog 348 #[.pointer (some a)] w (Pur w (.bool false)):=by
 go_enter Tryz.func348,Tryz.ntmps348
 go_wp2_with fail
 go_ret
 exact⟨rfl,Bw.rfl⟩
theorem listRange0_c (ha:Addr)(a:Option Addr)(c:Nat)(w:World):Calls Tryz.prog 322 #[.slice a 0 c, .iface 185 (.pointer (some ha))] w
  (fun e w'=>Bw w w'∧∃b,e= .returned (.iface 487 (.pointer (some ⟨b,0,none⟩)))):=by
 go_enter Tryz.func322,Tryz.ntmps322
 go_wp2_with fail
 go_ret
 exact⟨A5,_,rfl⟩
def BC (w w':World)(rb vb:Nat)(a:Option Addr)(n c:Nat)(i:Int)(x:Value):Prop:=w.heap.size≤rb∧w.heap.size≤vb∧¬rb=vb∧
 w'.heap[rb]?=some (.cells #[.slice a n c, .pointer (some ⟨vb,0,none⟩), .int .i64 i] 490)∧w'.heap[vb]?=some (.cells #[x] 244)
theorem allocRange_c (u:Value)(w:World):Calls Tryz.prog 275 #[u] w
  (fun e w'=>Bw w w'∧∃rb vb,e= .returned (.pointer (some ⟨rb,0,none⟩))∧BC w w' rb vb none 0 0 0 .nilIface):=by
 go_enter Tryz.func275,Tryz.ntmps275
 go_wp2_with fail
 go_ret
 refine⟨Am,_,w.heap.size,rfl, ?_,Nat.le_refl _, ?_, ?_, ?_⟩
 ·simp
 ·simp
 ·simpa using BF
 ·exact Cs
theorem listRange_c (ha:Addr)(a:Option Addr)(n c:Nat)(hn:0<n)(w:World):Calls Tryz.prog 322 #[.slice a n c, .iface 185 (.pointer (some ha))] w
  (fun e w'=>Bw w w'∧∃rb vb,e= .returned (.iface 484 (.pointer (some ⟨rb,0,none⟩)))∧BC w w' rb vb a n c (-1) .nilIface):=by
 have hm:=fun w=>meth_allocRange ha w
 have hn2:¬n=0:=by omega
 go_enter Tryz.func322,Tryz.ntmps322
 go_wp2_with fail
 refine(allocRange_c _ w).mono ?_
 rintro _ w1 ⟨hb,rb,vb,rfl,h1,h2,h3,h4,h5⟩
 have HB:=Lib.hid (And.intro hb (And.intro h5 h4))
 have hlt:=A0 h4
 obtain⟨q,f⟩:=A1 h4
 clear hb h5 h4
 go_wp2_with fail
 go_ret
 refine⟨Bw.set (Bw.set HB.out.1 h1 _ _) h1 _ _,rb,vb,rfl,h1,h2,h3, ?_, ?_⟩
 ·simpa using Ae (Ae HB.out.2.2 0 (.slice a n c)) 2 (.int .i64 (-1))
 ·rw [Ag _ _ _ _ _ (fun e=>h3 e.symm),Ag _ _ _ _ _ (fun e=>h3 e.symm)];exact HB.out.2.1
theorem rangeNext_c (w w0:World)(rb vb:Nat)(a:Option Addr)(n c:Nat)(i:Int)(x:Value)(hi: -1≤i)(hin:i<n)(hn:n≤lim)(h:BC w w0 rb vb a n c i x):Calls Tryz.prog 346 #[.pointer (some ⟨rb,0,none⟩)] w0
  (fun e w'=>e= .returned (.bool (decide (i+1<n)))∧(Bw w w0→Bw w w')∧(∀k,k<w0.heap.size→k≠rb→w'.heap[k]?=w0.heap[k]?)∧BC w w' rb vb a n c (i+1) x):=by
 obtain⟨h1,h2,h3,h4,h5⟩:=h
 have HB:=Lib.hid (And.intro h5 h4)
 obtain⟨q,f⟩:=A1 h4
 clear h4 h5
 unfold lim at hn
 go_enter Tryz.func346,Tryz.ntmps346
 go_wp2_with fail
 obtain⟨wy,hwy⟩:∃wy,wy=w0.setCell ⟨rb,2,none⟩ (.int .i64 (i+1)):=⟨_,rfl⟩
 have HV:Hid (wy.heap[rb]?=some (.cells #[.slice a n c, .pointer (some ⟨vb,0,none⟩), .int .i64 (i+1)] 490)∧wy.heap[vb]?=some (.cells #[x] 244)∧(Bw w w0→Bw w wy)∧∀k,k≠rb→wy.heap[k]?=w0.heap[k]?):=by
  subst hwy
  refine⟨by simpa using Ae HB.out.2 2 (.int .i64 (i+1)), ?_,fun hb=>Bw.set hb h1 _ _,fun k hk=> ?_⟩
  ·rw [Ag _ _ _ _ _ (fun e=>h3 e.symm)];exact HB.out.1
  ·rw [Ag _ _ _ _ _ hk]
 have hsz:wy.heap.size=w0.heap.size:=by subst hwy;simp
 rw [←hwy]
 clear hwy q f
 obtain⟨q,f⟩:=A1 HV.out.1
 have k0:wy.cell? ⟨rb,0,none⟩=some (.slice a n c):=by rw [q];rfl
 have k2:wy.cell? ⟨rb,2,none⟩=some (.int .i64 (i+1)):=by rw [q];rfl
 have g0:=cell_regrown k0
 have g2:=cell_regrown k2
 clear q f
 refine wp_region_quiet_below (by kernel_rfl) (by kernel_rfl) ?_
 repeat (go_big_quiet_step (fail))
 refine wpQuiet_nil ?_
 intro _ hw'
 obtain⟨⟨dq,osq⟩,hw''⟩:=hw'
 subst hw''
 obtain⟨wz,hwz,hw'⟩:∃x,Bw wy x∧x=Go.Sort.grow (redrawn wy dq) osq:=⟨_,below_regrown _ _ _,rfl⟩
 rw [←hw']
 clear hw'
 go_wp2_with fail
 go_ret
 refine⟨by simp,fun hb=>(HV.out.2.2.1 hb).tr hwz,fun k hk hne=> ?_,h1,h2,h3,A2 hwz HV.out.1,A2 hwz HV.out.2.1⟩
 rw [hwz.block k (by omega)]
 exact HV.out.2.2.2 k hne
end
section
open Go Go.RowKit
theorem keepI {w:World}{rb vb b:Nat}{i:Nat}{u0 u1 u2 u3 x:Value}(h3:¬rb=vb)(h4:¬b=vb)
  (h:w.cell? ⟨rb,0,none⟩=some u0∧w.cell? ⟨rb,1,none⟩=some u1∧w.cell? ⟨rb,2,none⟩=some u2∧w.cell? ⟨b,i,none⟩=some u3):
  (w.setCell ⟨vb,0,none⟩ x).cell? ⟨rb,0,none⟩=some u0∧(w.setCell ⟨vb,0,none⟩ x).cell? ⟨rb,1,none⟩=some u1∧(w.setCell ⟨vb,0,none⟩ x).cell? ⟨rb,2,none⟩=some u2∧(w.setCell ⟨vb,0,none⟩ x).cell? ⟨b,i,none⟩=some u3:=by
 simpa [World.cell?_setCell_other,h3,h4]using h
theorem keepId {w:World}{rb vb b:Nat}{i:Nat}{u0 u1 u2 u3 x:Value}(h3:¬rb=vb)(h4:¬b=vb)
  (h:w.cell? ⟨rb,0,none⟩=some u0∧w.cell? ⟨rb,1,none⟩=some u1∧w.cell? ⟨rb,2,none⟩=some u2∧w.cell? ⟨b,i,none⟩=some u3):
  (w.setCell ⟨vb,0,none⟩ x).drew.cell? ⟨rb,0,none⟩=some u0∧(w.setCell ⟨vb,0,none⟩ x).drew.cell? ⟨rb,1,none⟩=some u1∧(w.setCell ⟨vb,0,none⟩ x).drew.cell? ⟨rb,2,none⟩=some u2∧(w.setCell ⟨vb,0,none⟩ x).drew.cell? ⟨b,i,none⟩=some u3:=by
 exact keepI h3 h4 h
theorem rangeItem_c (w w0:World)(rb vb:Nat)(b o n c j:Nat)(x y:Value)(hj:j<n)(hn:n≤lim)(hx:IsAny x)(hb:b<w.heap.size)(hc:w0.cell? ⟨b,o+j,none⟩=some x)(h:BC w w0 rb vb (some ⟨b,o,none⟩) n c j y):
  Calls Tryz.prog 345 #[.pointer (some ⟨rb,0,none⟩)] w0
  (fun e w'=>e= .returned (.tuple #[.int .i64 j, .iface 184 (.pointer (some ⟨vb,0,none⟩))])∧(Bw w w0→Bw w w')∧(∀k,k<w0.heap.size→k≠vb→w'.heap[k]?=w0.heap[k]?)∧BC w w' rb vb (some ⟨b,o,none⟩) n c j x):=by
 obtain⟨h1,h2,h3,h4,h5⟩:=h
 have HB:=Lib.hid (And.intro h5 h4)
 obtain⟨q,f⟩:=A1 h4
 have k0:w0.cell? ⟨rb,0,none⟩=some (.slice (some ⟨b,o,none⟩) n c):=by rw [q];rfl
 have k1:w0.cell? ⟨rb,1,none⟩=some (.pointer (some ⟨vb,0,none⟩)):=by rw [q];rfl
 have k2:w0.cell? ⟨rb,2,none⟩=some (.int .i64 j):=by rw [q];rfl
 clear h4 h5 q f
 have g0:=cell_regrown k0
 have g2:=cell_regrown k2
 unfold lim at hn
 have hjn:(j:Int)<(n:Int):=by omega
 go_enter Tryz.func345,Tryz.ntmps345
 go_wp2_with fail
 refine wp_region_quiet_below (by kernel_rfl) (by kernel_rfl) ?_
 repeat (go_big_quiet_step (fail))
 refine wpQuiet_nil ?_
 intro _ hw'
 obtain⟨⟨dq,osq⟩,hw''⟩:=hw'
 subst hw''
 obtain⟨wz,hwz,hw'⟩:∃x,Bw w0 x∧x=Go.Sort.grow (redrawn w0 dq) osq:=⟨_,below_regrown _ _ _,rfl⟩
 rw [←hw']
 clear hw'
 have l0:=cell_later hwz k0
 have l1:=cell_later hwz k1
 have l2:=cell_later hwz k2
 have l3:=cell_later hwz hc
 clear k0 k1 k2 g0 g2 hc
 go_wp2_with fail
 have HV:=Lib.hid (A2 hwz HB.out.1)
 have hbv:¬b=vb:=by omega
 go_region_held3 (fun w'=>w'.cell? ⟨rb,0,none⟩=some (.slice (some ⟨b,o,none⟩) n c)∧w'.cell? ⟨rb,1,none⟩=some (.pointer (some ⟨vb,0,none⟩))∧w'.cell? ⟨rb,2,none⟩=some (.int .i64 j)∧w'.cell? ⟨b,o+j,none⟩=some x)
  (first|exact keepId h3 hbv ⟨l0,l1,l2,l3⟩|exact keepI h3 hbv ⟨l0,l1,l2,l3⟩|(refine keepId h3 hbv ?_;assumption)|(refine keepI h3 hbv ?_;assumption)|go_keep)
  ((go_at_call 87;refine(reuse_c vb _ y _ hx (by exact HV.out)).mono ?_;rintro e w1 ⟨rfl,rfl⟩))
 go_wp2_with fail
 refine bodyPost_ret (v:= .tuple #[.int .i64 j, .iface 184 (.pointer (some ⟨vb,0,none⟩))]) (by simp [results,Tryz.results345,go_sem]) rfl ?_
 refine⟨rfl,fun hb2=>(Bw.set (hb2.tr hwz) h2 _ _).dr,fun k hk hne=> ?_,h1,h2,h3, ?_, ?_⟩
 ·show(wz.setCell ⟨vb,0,none⟩ x).heap[k]?=_
  rw [Ag _ _ _ _ _ hne];exact hwz.block k hk
 ·show(wz.setCell ⟨vb,0,none⟩ x).heap[rb]?=_
  rw [Ag _ _ _ _ _ h3];exact A2 hwz HB.out.2
 ·show(wz.setCell ⟨vb,0,none⟩ x).heap[vb]?=_
  simpa using Ae HV.out 0 x
end
section
open Go Go.RowKit
theorem Bn (p:Value)(x:Value)(u:FrameMode)(w:World):CallsD Tryz.prog 274 #[p,x] u w fun e u' w'=>u'=u∧(e= .returned (.tuple #[])∧w'=w):=by
 go_enter_d Tryz.func274,Tryz.ntmps274
 go_wp2_with fail
 go_end0
 exact⟨rfl,rfl⟩
theorem load_lu {w:World}{b:Nat}{x:Value}(h:w.cell? ⟨b,0,none⟩=some x):(loadVar 445 ⟨b,0,none⟩).run Tryz.prog w= .ok x w:=by
 simp [go_sem,h]
theorem Fl {w:World}{b:Nat}{x:Value}(h:w.cell? ⟨b,0,none⟩=some x):(method 594 486 (.pointer (some ⟨b,0,none⟩)) "Length").run Tryz.prog w= .ok (320,x) w:=
 AC (by kernel_rfl) (by kernel_rfl) (load_lu h)
theorem F5 {w:World}{b:Nat}{x:Value}(h:w.cell? ⟨b,0,none⟩=some x):(method 594 486 (.pointer (some ⟨b,0,none⟩)) "RangeUsing").run Tryz.prog w= .ok (322,x) w:=
 AC (by kernel_rfl) (by kernel_rfl) (load_lu h)
theorem listEq_ne (H:Hp)(bl:Nat)(ha:Nat)(a b:Option Addr)(n m c d:Nat)(hne:¬n=m)(hn:n≤lim)(hm:m≤lim)(w:World)(hi:Imm H w)(hbl:A8 H bl 0=some (.slice a n c)):
  Calls Tryz.prog 323 #[.iface 185 (.pointer (some ⟨ha,0,none⟩)), .iface 486 (.pointer (some ⟨bl,0,none⟩)), .iface 445 (.slice b m d)] w (Pur w (.bool false)):=by
 have k:=hi.cell hbl
 have m1:=Fl k
 have m2:=fun w=>Du b m d w
 have hne2:¬(n:Int)=(m:Int):=by omega
 unfold lim at hn hm
 go_enter_defers Tryz.func323,Tryz.ntmps323
 go_wp2_with fail
 refine(Dh a n c w).mono ?_
 rintro _ w1 ⟨rfl,h1⟩
 clear m1 k
 go_wp2_with fail
 refine(Dh b m d w1).mono ?_
 rintro _ w2 ⟨rfl,h2⟩
 go_wp2_with fail
 exact⟨.bool false,(by simp [results,Tryz.results323,go_sem]),rfl,Bw.tr h1 h2⟩
theorem listEq_00 (H:Hp)(bl:Nat)(ha:Nat)(a b:Option Addr)(c d:Nat)(w:World)(hi:Imm H w)(hbl:A8 H bl 0=some (.slice a 0 c)):
  Calls Tryz.prog 323 #[.iface 185 (.pointer (some ⟨ha,0,none⟩)), .iface 486 (.pointer (some ⟨bl,0,none⟩)), .iface 445 (.slice b 0 d)] w (Pur w (.bool true)):=by
 have k:=hi.cell hbl
 have m1:=Fl k
 have m2:=fun w=>Du b 0 d w
 have m4:=fun w=>F6 b 0 d w
 have m5:=fun a w=>methe_Next a w
 have m6:=fun a w=>Bq a w
 go_enter_defers Tryz.func323,Tryz.ntmps323
 go_wp2_with fail
 refine(Dh a 0 c w).mono ?_
 rintro _ w1 ⟨rfl,h1⟩
 clear m1 k
 go_wp2_with fail
 refine(Dh b 0 d w1).mono ?_
 rintro _ w2 ⟨rfl,h2⟩
 have k:=(hi.below (Bw.tr h1 h2)).cell hbl
 have m3:=F5 k
 go_wp2_with fail
 refine(listRange0_c ⟨ha,0,none⟩ a c w2).mono ?_
 rintro _ w3 ⟨h3,e1,rfl⟩
 clear m3 k
 go_wp2_with fail
 refine(listRange0_c ⟨ha,0,none⟩ b d w3).mono ?_
 rintro _ w4 ⟨h4,e2,rfl⟩
 go_wp2_with fail
 go_loopw [] (fun wr=>Bw w4 wr) (fun wr=>0)
 case atStart=>exact Bw.rfl
 case round=>
  rename_i wr
  go_wp2_with fail
  refine(emptyNext_c _ wr).mono ?_
  rintro _ w5 ⟨rfl,h5⟩
  go_wp2_with fail
  refine leaves_cons (f:=274) (args:= #[.pointer (some ⟨ha,0,none⟩), .iface 487 (.pointer (some ⟨e2,0,none⟩))]) (by simp) (by simp [go_sem,m6]) ?_
  refine(Bn _ _ _ _).mono ?_
  rintro _ _ _ ⟨rfl,rfl,rfl⟩
  refine leaves_cons (f:=274) (args:= #[.pointer (some ⟨ha,0,none⟩), .iface 487 (.pointer (some ⟨e1,0,none⟩))]) (by simp [settle]) (by simp [go_sem,m6]) ?_
  refine(Bn _ _ _ _).mono ?_
  rintro _ _ _ ⟨rfl,rfl,rfl⟩
  exact⟨.bool true,(by simp [results,Tryz.results323,go_sem]),rfl,Bw.tr h1 (Bw.tr h2 (Bw.tr h3 (Bw.tr h4 (Bw.tr hrel h5))))⟩
theorem eqJs_drop:∀(l m:List JT) (j:Nat) (h1:j<l.length) (h2:j<m.length),eqJs (l.drop j) (m.drop j)=(eqJ l[j] m[j] && eqJs (l.drop (j+1)) (m.drop (j+1)))
 |[],_,_,h,_=>by simp at h
 |_::_,[],_,_,h=>by simp at h
 |t::l,u::m,0,_,_=>by simp [eqJs]
 |t::l,u::m,j+1,h1,h2=>by
  have:=eqJs_drop l m j (by simpa using h1) (by simpa using h2)
  simpa using this
def rangePos (w:World)(rb:Nat):Int:=match w.cell? ⟨rb,2,none⟩with|some v=>intOf v|none=>0
theorem BC.pos {w w':World}{rb vb:Nat}{a:Option Addr}{n c:Nat}{i:Int}{x:Value}(h:BC w w' rb vb a n c i x):rangePos w' rb=i:=by
 obtain⟨_,_,_,h4,_⟩:=h
 have:=(A1 h4).1 2
 unfold rangePos;rw [this];rfl
theorem BC.keep {w w' w2:World}{rb vb:Nat}{a:Option Addr}{n c:Nat}{i:Int}{x:Value}(h:BC w w' rb vb a n c i x)(h1:w2.heap[rb]?=w'.heap[rb]?)(h2:w2.heap[vb]?=w'.heap[vb]?):BC w w2 rb vb a n c i x:=
 ⟨h.1,h.2.1,h.2.2.1,h1.trans h.2.2.2.1,h2.trans h.2.2.2.2⟩
end
end Go.Proofs.YtmghkmhgpmcoaaaGreat
