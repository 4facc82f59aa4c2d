/- What the claim's theorem 'proved' rests on: CmpStr. -/
import Derived.Test.YtmghkmhgpmcoaaaGreatP12
set_option linter.unusedVariables false
set_option linter.unusedSimpArgs false
set_option maxRecDepth 100000
set_option maxHeartbeats 10000000
namespace Go.Proofs.YtmghkmhgpmcoaaaGreat
section
open Go Go.RowKit
def cmpG (a b:ByteArray):Nat→Nat→Int
 |0,_=>cmpI a.size b.size
 |n+1,j=>if h:j<a.size∧j<b.size then(if(a[j].toNat:Int)=(b[j].toNat:Int)then cmpG a b n (j+1)else cmpI (wrap64 (a[j].toNat:Int)) (wrap64 (b[j].toNat:Int)))else cmpI a.size b.size
def cmpS (a b:ByteArray):Int:=cmpG a b a.size 0
theorem cmpG_same {a b:ByteArray}{j:Nat}(h1:j<a.size)(h2:j<b.size)(hq:(a[j].toNat:Int)=(b[j].toNat:Int))(h:cmpG a b (a.size - j) j=cmpS a b):cmpG a b (a.size - (j+1)) (j+1)=cmpS a b:=by
 obtain⟨n,hn⟩:∃n,a.size - j=n+1:=⟨a.size - j - 1,by omega⟩
 rw [hn]at h
 rw [←h,show a.size - (j+1)=n by omega]
 simp only [cmpG,dif_pos (And.intro h1 h2),if_pos hq]
theorem cmpG_diff {a b:ByteArray}{j:Nat}(h1:j<a.size)(h2:j<b.size)(hq:¬(a[j].toNat:Int)=(b[j].toNat:Int))(h:cmpG a b (a.size - j) j=cmpS a b):cmpI (wrap64 (a[j].toNat:Int)) (wrap64 (b[j].toNat:Int))=cmpS a b:=by
 obtain⟨n,hn⟩:∃n,a.size - j=n+1:=⟨a.size - j - 1,by omega⟩
 rw [hn]at h
 rw [←h]
 simp only [cmpG,dif_pos (And.intro h1 h2),if_neg hq]
theorem cmpG_end {a b:ByteArray}{j:Nat}(hx:¬(j<a.size∧j<b.size))(h:cmpG a b (a.size - j) j=cmpS a b):cmpI a.size b.size=cmpS a b:=by
 rw [←h]
 cases a.size - j with
 |zero=>rfl
 |succ n=>simp only [cmpG,dif_neg hx]
theorem cmpStr_c (a b:ByteArray)(w:World)(ha:a.size≤lim)(hb:b.size≤lim):Calls Tryz.prog 147 #[.string a, .string b] w (Pur w (.int .i64 (cmpS a b))):=by
 unfold lim at ha hb
 go_enter Tryz.func147,Tryz.ntmps147
 go_wp2_with fail
 go_loopw [5] (fun i wr=>∃j:Nat,j≤a.size∧i= .int .i64 (j:Int)∧cmpG a b (a.size - j) j=cmpS a b∧Bw w wr) (fun i _=>a.size - (intOf i).toNat)
 case atStart=>exact⟨0,Nat.zero_le _,rfl,rfl,Bw.rfl⟩
 case round=>
  obtain⟨j,hj,rfl,hg,hbw⟩:=hrel
  have HG:=Lib.hid hg
  clear hg
  obtain⟨wq,hwq⟩:∃x:World,x=wr:=⟨_,rfl⟩
  rw [←hwq]at hbw⊢
  clear hwq
  have HB:=Lib.hid hbw
  clear hbw
  by_cases h1:j<a.size
  ·by_cases h2:j<b.size
   ·have p1:(j:Int)<(a.size:Int):=by omega
    have p2:(j:Int)<(b.size:Int):=by omega
    have HQ:=Lib.hid (fun w0=>cmpInts_c (wrap64 (a[j].toNat:Int)) (wrap64 (b[j].toNat:Int)) w0)
    rcases Decidable.em ((a[j].toNat:Int)=(b[j].toNat:Int))with hq|hq
    ·have HQQ:=Lib.hid hq
     go_wp2_with fail
     refine wp_region_quiet_below (by kernel_rfl) (by kernel_rfl) ?_
     repeat (go_big_quiet_step (fail))
     refine wpQuiet_nil ?_
     intro _ hw'
     obtain⟨⟨dq,osq⟩,hw''⟩:=hw'
     subst hw''
     obtain⟨wn,hwn,hw'⟩:∃x,Bw wq x∧x=Go.Sort.grow (redrawn wq dq) osq:=⟨_,below_regrown _ _ _,rfl⟩
     rw [←hw']
     clear hw'
     go_wp2_with fail
     go_roundw
     case rel=>exact⟨j+1,by omega,by go_num,cmpG_same h1 h2 HQQ.out HG.out,HB.out.tr hwn⟩
     case measure=>simp [intOf];omega
    ·have HQQ:=Lib.hid hq
     go_wp2_with fail
     refine wp_region_quiet_below (by kernel_rfl) (by kernel_rfl) ?_
     repeat (go_big_quiet_step (fail))
     refine wpQuiet_nil ?_
     intro _ hw'
     obtain⟨⟨dq,osq⟩,hw''⟩:=hw'
     subst hw''
     obtain⟨wn,hwn,hw'⟩:∃x,Bw wq x∧x=Go.Sort.grow (redrawn wq dq) osq:=⟨_,below_regrown _ _ _,rfl⟩
     rw [←hw']
     clear hw'
     go_wp2_with fail
     have CP:=fun d os=>Calls.regrown_of (HQ.out (Go.Sort.grow (redrawn wn d) os))
     refine wp_region_quiet_below (by kernel_rfl) (by kernel_rfl) ?_
     repeat (go_big_quiet_step (exact CP _ _))
     refine wpQuiet_nil ?_
     intro _ hw'
     obtain⟨⟨dq,osq⟩,hw''⟩:=hw'
     subst hw''
     obtain⟨wm,hwm,hw'⟩:∃x,Bw wn x∧x=Go.Sort.grow (redrawn wn dq) osq:=⟨_,below_regrown _ _ _,rfl⟩
     rw [←hw']
     clear hw'
     go_wp2_with fail
     go_ret
     exact⟨by rw [←cmpG_diff h1 h2 HQQ.out HG.out];rfl,(HB.out.tr hwn).tr hwm⟩
   ·have p1:(j:Int)<(a.size:Int):=by omega
    have p2:¬(j:Int)<(b.size:Int):=by omega
    go_wp2_with fail
    refine(cmpInts_c _ _ wq).mono ?_
    rintro _ w2 ⟨rfl,hb2⟩
    have H2:=Lib.hid hb2
    clear hb2
    go_wp2_with fail
    go_ret
    exact⟨by rw [←cmpG_end (fun h=>h2 h.2) HG.out];rfl,HB.out.tr H2.out⟩
  ·have p1:¬(j:Int)<(a.size:Int):=by omega
   go_wp2_with fail
   refine(cmpInts_c _ _ wq).mono ?_
   rintro _ w2 ⟨rfl,hb2⟩
   have H2:=Lib.hid hb2
   clear hb2
   go_wp2_with fail
   go_ret
   exact⟨by rw [←cmpG_end (fun h=>h1 h.1) HG.out];rfl,HB.out.tr H2.out⟩
end
end Go.Proofs.YtmghkmhgpmcoaaaGreat
