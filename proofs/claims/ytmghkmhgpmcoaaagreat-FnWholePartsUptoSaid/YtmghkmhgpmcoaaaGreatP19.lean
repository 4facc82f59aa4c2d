/- What the claim's theorem 'proved' rests on: ValSc, TmLeaf, Handle, DoLM. -/
import Derived.Test.YtmghkmhgpmcoaaaGreatP18
set_option linter.unusedVariables false
set_option linter.unusedSimpArgs false
set_option maxRecDepth 100000
set_option maxHeartbeats 10000000
namespace Go.Proofs.YtmghkmhgpmcoaaaGreat
section
open Go Go.RowKit Go.MapKept
def fitsJ (sc:ByteArray)(t:JT):Bool:=
 if sc.toList==Bv then t.isFlt||t.isInt else if sc.toList==Cg then t.isStr else if sc.toList==C' then t.isBool else if sc.toList==D1 then t.isSc else false
theorem Di {t:JT}(h:t.isSc=true):t.isNull=false:=by cases t<;>simp [JT.isSc,JT.isFlt,JT.isInt,JT.isStr,JT.isBool]at h<;>rfl
theorem EU (sc pre:ByteArray)(t:JT)(ht:fitsJ sc t=true)(H:Hp)(bs bx:Nat)(x:Value)(w:World)(hi:Imm H w)(cs:A8 H bs 0=some (.string sc))(cx:A8 H bx 0=some x)(hx:RJ H t x):
  Calls Tryz.prog 285 #[.pointer (some ⟨bs,0,none⟩), .iface 184 (.pointer (some ⟨bx,0,none⟩)), .string pre] w (Pur w (.slice none 0 0)):=by
 obtain⟨m1,m2,m3,_,_⟩:=Ew (t:=t)
 have M1:=Lib.hid m1;have M2:=Lib.hid m2;have M3:=Lib.hid m3
 clear m1 m2 m3
 have HI:=Lib.hid hi
 have hBz:=(Bw.rfl:Bw w w)
 have kx:=hi.cell cx
 have ks:=hi.cell cs
 replace hx:=Lib.hid hx
 clear hi
 unfold fitsJ at ht
 by_cases e1:sc.toList=Bv
 ·have q1:(sc.toList==Bv)=true:=by simp [e1]
  rw [if_pos q1]at ht
  have hsc:t.isSc=true:=by simp only [Bool.or_eq_true]at ht;unfold JT.isSc;rcases ht with h|h<;>simp [h]
  have hn:=Di hsc
  have HT:=Lib.hid ht
  clear ht hsc e1
  unfold Bv at q1
  go_enter Tryz.func285,Tryz.ntmps285
  have mm:=Aw kx
  have CC:=fun w0=>AU t H x w0 hx.out
  rw [hn]at CC
  go_wp2_with fail
  refine(CC _).mono ?_
  rintro _ wa ⟨rfl,hwa⟩
  clear mm kx CC
  have hBwa:=Bw.tr hBz hwa
  have kx:=(HI.out.below hBwa).cell cx
  have ks:=(HI.out.below hBwa).cell cs
  clear hwa
  cases h1:t.isFlt
  ·have h2:t.isInt=true:=by have:=HT.out;rw [h1]at this;simpa using this
   have mm:=Af kx
   have CC:=fun w0=>AA t H x w0 hx.out
   rw [h1]at CC
   go_wp2_with fail
   refine(CC _).mono ?_
   rintro _ wb ⟨rfl,hwb⟩
   clear mm kx CC
   have hBwb:=Bw.tr hBwa hwb
   have kx:=(HI.out.below hBwb).cell cx
   have ks:=(HI.out.below hBwb).cell cs
   clear hwb
   have mm:=Aq kx
   have CC:=fun w0=>AM t H x w0 hx.out
   rw [h2]at CC
   go_wp2_with fail
   refine(CC _).mono ?_
   rintro _ wc ⟨rfl,hwc⟩
   clear mm kx CC
   have hBwc:=Bw.tr hBwb hwc
   have kx:=(HI.out.below hBwc).cell cx
   have ks:=(HI.out.below hBwc).cell cs
   clear hwc
   go_wp2_with fail
   go_ret
   exact⟨rfl,hBwc⟩
  ·skip
   have mm:=Af kx
   have CC:=fun w0=>AA t H x w0 hx.out
   rw [h1]at CC
   go_wp2_with fail
   refine(CC _).mono ?_
   rintro _ wb ⟨rfl,hwb⟩
   clear mm kx CC
   have hBwb:=Bw.tr hBwa hwb
   have kx:=(HI.out.below hBwb).cell cx
   have ks:=(HI.out.below hBwb).cell cs
   clear hwb
   go_wp2_with fail
   go_ret
   exact⟨rfl,hBwb⟩
 ·have q1:(sc.toList==Bv)=false:=by simpa using e1
  rw [if_neg (by rw [q1];simp)]at ht
  by_cases e2:sc.toList=Cg
  ·have q2:(sc.toList==Cg)=true:=by simp [e2]
   rw [if_pos q2]at ht
   have hsc:t.isSc=true:=by unfold JT.isSc;simp [ht]
   have hn:=Di hsc
   clear hsc e1 e2
   unfold Bv at q1
   unfold Cg at q2
   go_enter Tryz.func285,Tryz.ntmps285
   have mm:=Aw kx
   have CC:=fun w0=>AU t H x w0 hx.out
   rw [hn]at CC
   go_wp2_with fail
   refine(CC _).mono ?_
   rintro _ wa ⟨rfl,hwa⟩
   clear mm kx CC
   have hBwa:=Bw.tr hBz hwa
   have kx:=(HI.out.below hBwa).cell cx
   have ks:=(HI.out.below hBwa).cell cs
   clear hwa
   have mm:=Ao kx
   have CC:=fun w0=>B5 t H x w0 hx.out
   rw [ht]at CC
   go_wp2_with fail
   refine(CC _).mono ?_
   rintro _ wb ⟨rfl,hwb⟩
   clear mm kx CC
   have hBwb:=Bw.tr hBwa hwb
   have kx:=(HI.out.below hBwb).cell cx
   have ks:=(HI.out.below hBwb).cell cs
   clear hwb
   go_wp2_with fail
   go_ret
   exact⟨rfl,hBwb⟩
  ·have q2:(sc.toList==Cg)=false:=by simpa using e2
   rw [if_neg (by rw [q2];simp)]at ht
   by_cases e3:sc.toList=C'
   ·have q3:(sc.toList==C')=true:=by simp [e3]
    rw [if_pos q3]at ht
    have hsc:t.isSc=true:=by unfold JT.isSc;simp [ht]
    have hn:=Di hsc
    clear hsc e1 e2 e3
    unfold Bv at q1
    unfold Cg at q2
    unfold C' at q3
    go_enter Tryz.func285,Tryz.ntmps285
    have mm:=Aw kx
    have CC:=fun w0=>AU t H x w0 hx.out
    rw [hn]at CC
    go_wp2_with fail
    refine(CC _).mono ?_
    rintro _ wa ⟨rfl,hwa⟩
    clear mm kx CC
    have hBwa:=Bw.tr hBz hwa
    have kx:=(HI.out.below hBwa).cell cx
    have ks:=(HI.out.below hBwa).cell cs
    clear hwa
    have mm:=AD kx
    have CC:=fun w0=>B6 t H x w0 hx.out
    rw [ht]at CC
    go_wp2_with fail
    refine(CC _).mono ?_
    rintro _ wb ⟨rfl,hwb⟩
    clear mm kx CC
    have hBwb:=Bw.tr hBwa hwb
    have kx:=(HI.out.below hBwb).cell cx
    have ks:=(HI.out.below hBwb).cell cs
    clear hwb
    go_wp2_with fail
    go_ret
    exact⟨rfl,hBwb⟩
   ·have q3:(sc.toList==C')=false:=by simpa using e3
    rw [if_neg (by rw [q3];simp)]at ht
    by_cases e4:sc.toList=D1
    ·have q4:(sc.toList==D1)=true:=by simp [e4]
     rw [if_pos q4]at ht
     have hn:=Di ht
     have HT:=Lib.hid ht
     clear ht e1 e2 e3 e4
     unfold Bv at q1
     unfold Cg at q2
     unfold C' at q3
     unfold D1 at q4
     cases h1:t.isFlt
     ·cases h2:t.isInt
      ·cases h3:t.isStr
       ·have h4:t.isBool=true:=by have:=HT.out;simpa [JT.isSc,h1,h2,h3]using this
        go_enter Tryz.func285,Tryz.ntmps285
        have mm:=Aw kx
        have CC:=fun w0=>AU t H x w0 hx.out
        rw [hn]at CC
        go_wp2_with fail
        refine(CC _).mono ?_
        rintro _ wa ⟨rfl,hwa⟩
        clear mm kx CC
        have hBwa:=Bw.tr hBz hwa
        have kx:=(HI.out.below hBwa).cell cx
        have ks:=(HI.out.below hBwa).cell cs
        clear hwa
        have mm:=Af kx
        have CC:=fun w0=>AA t H x w0 hx.out
        rw [h1]at CC
        go_wp2_with fail
        refine(CC _).mono ?_
        rintro _ wb ⟨rfl,hwb⟩
        clear mm kx CC
        have hBwb:=Bw.tr hBwa hwb
        have kx:=(HI.out.below hBwb).cell cx
        have ks:=(HI.out.below hBwb).cell cs
        clear hwb
        have mm:=Aq kx
        have CC:=fun w0=>AM t H x w0 hx.out
        rw [h2]at CC
        go_wp2_with fail
        refine(CC _).mono ?_
        rintro _ wc ⟨rfl,hwc⟩
        clear mm kx CC
        have hBwc:=Bw.tr hBwb hwc
        have kx:=(HI.out.below hBwc).cell cx
        have ks:=(HI.out.below hBwc).cell cs
        clear hwc
        have mm:=Ao kx
        have CC:=fun w0=>B5 t H x w0 hx.out
        rw [h3]at CC
        go_wp2_with fail
        refine(CC _).mono ?_
        rintro _ wd ⟨rfl,hwd⟩
        clear mm kx CC
        have hBwd:=Bw.tr hBwc hwd
        have kx:=(HI.out.below hBwd).cell cx
        have ks:=(HI.out.below hBwd).cell cs
        clear hwd
        have mm:=AD kx
        have CC:=fun w0=>B6 t H x w0 hx.out
        rw [h4]at CC
        go_wp2_with fail
        refine(CC _).mono ?_
        rintro _ we ⟨rfl,hwe⟩
        clear mm kx CC
        have hBwe:=Bw.tr hBwd hwe
        have kx:=(HI.out.below hBwe).cell cx
        have ks:=(HI.out.below hBwe).cell cs
        clear hwe
        go_wp2_with fail
        go_ret
        exact⟨rfl,hBwe⟩
       ·go_enter Tryz.func285,Tryz.ntmps285
        have mm:=Aw kx
        have CC:=fun w0=>AU t H x w0 hx.out
        rw [hn]at CC
        go_wp2_with fail
        refine(CC _).mono ?_
        rintro _ wa ⟨rfl,hwa⟩
        clear mm kx CC
        have hBwa:=Bw.tr hBz hwa
        have kx:=(HI.out.below hBwa).cell cx
        have ks:=(HI.out.below hBwa).cell cs
        clear hwa
        have mm:=Af kx
        have CC:=fun w0=>AA t H x w0 hx.out
        rw [h1]at CC
        go_wp2_with fail
        refine(CC _).mono ?_
        rintro _ wb ⟨rfl,hwb⟩
        clear mm kx CC
        have hBwb:=Bw.tr hBwa hwb
        have kx:=(HI.out.below hBwb).cell cx
        have ks:=(HI.out.below hBwb).cell cs
        clear hwb
        have mm:=Aq kx
        have CC:=fun w0=>AM t H x w0 hx.out
        rw [h2]at CC
        go_wp2_with fail
        refine(CC _).mono ?_
        rintro _ wc ⟨rfl,hwc⟩
        clear mm kx CC
        have hBwc:=Bw.tr hBwb hwc
        have kx:=(HI.out.below hBwc).cell cx
        have ks:=(HI.out.below hBwc).cell cs
        clear hwc
        have mm:=Ao kx
        have CC:=fun w0=>B5 t H x w0 hx.out
        rw [h3]at CC
        go_wp2_with fail
        refine(CC _).mono ?_
        rintro _ wd ⟨rfl,hwd⟩
        clear mm kx CC
        have hBwd:=Bw.tr hBwc hwd
        have kx:=(HI.out.below hBwd).cell cx
        have ks:=(HI.out.below hBwd).cell cs
        clear hwd
        go_wp2_with fail
        go_ret
        exact⟨rfl,hBwd⟩
      ·go_enter Tryz.func285,Tryz.ntmps285
       have mm:=Aw kx
       have CC:=fun w0=>AU t H x w0 hx.out
       rw [hn]at CC
       go_wp2_with fail
       refine(CC _).mono ?_
       rintro _ wa ⟨rfl,hwa⟩
       clear mm kx CC
       have hBwa:=Bw.tr hBz hwa
       have kx:=(HI.out.below hBwa).cell cx
       have ks:=(HI.out.below hBwa).cell cs
       clear hwa
       have mm:=Af kx
       have CC:=fun w0=>AA t H x w0 hx.out
       rw [h1]at CC
       go_wp2_with fail
       refine(CC _).mono ?_
       rintro _ wb ⟨rfl,hwb⟩
       clear mm kx CC
       have hBwb:=Bw.tr hBwa hwb
       have kx:=(HI.out.below hBwb).cell cx
       have ks:=(HI.out.below hBwb).cell cs
       clear hwb
       have mm:=Aq kx
       have CC:=fun w0=>AM t H x w0 hx.out
       rw [h2]at CC
       go_wp2_with fail
       refine(CC _).mono ?_
       rintro _ wc ⟨rfl,hwc⟩
       clear mm kx CC
       have hBwc:=Bw.tr hBwb hwc
       have kx:=(HI.out.below hBwc).cell cx
       have ks:=(HI.out.below hBwc).cell cs
       clear hwc
       go_wp2_with fail
       go_ret
       exact⟨rfl,hBwc⟩
     ·go_enter Tryz.func285,Tryz.ntmps285
      have mm:=Aw kx
      have CC:=fun w0=>AU t H x w0 hx.out
      rw [hn]at CC
      go_wp2_with fail
      refine(CC _).mono ?_
      rintro _ wa ⟨rfl,hwa⟩
      clear mm kx CC
      have hBwa:=Bw.tr hBz hwa
      have kx:=(HI.out.below hBwa).cell cx
      have ks:=(HI.out.below hBwa).cell cs
      clear hwa
      have mm:=Af kx
      have CC:=fun w0=>AA t H x w0 hx.out
      rw [h1]at CC
      go_wp2_with fail
      refine(CC _).mono ?_
      rintro _ wb ⟨rfl,hwb⟩
      clear mm kx CC
      have hBwb:=Bw.tr hBwa hwb
      have kx:=(HI.out.below hBwb).cell cx
      have ks:=(HI.out.below hBwb).cell cs
      clear hwb
      go_wp2_with fail
      go_ret
      exact⟨rfl,hBwb⟩
    ·rw [if_neg (by simpa using e4)]at ht
     cases ht
theorem En (sc pre:ByteArray)(t:JT)(ht:fitsJ sc t=true)(H:Hp)(bs bx:Nat)(x:Value)(w:World)(hi:Imm H w)(cs:A8 H bs 0=some (.string sc))(cx:A8 H bx 0=some x)(hx:RJ H t x):
  Calls Tryz.prog 211 #[.pointer (some ⟨bs,0,none⟩), .iface 184 (.pointer (some ⟨bx,0,none⟩)), .string pre] w (Pur w (.slice none 0 0)):=by
 obtain⟨m1,m2,m3,_,_⟩:=Ew (t:=t)
 have M1:=Lib.hid m1;have M2:=Lib.hid m2;have M3:=Lib.hid m3
 clear m1 m2 m3
 have HI:=Lib.hid hi
 have hBz:=(Bw.rfl:Bw w w)
 have kx:=hi.cell cx
 have ks:=hi.cell cs
 replace hx:=Lib.hid hx
 clear hi
 unfold fitsJ at ht
 by_cases e1:sc.toList=Bv
 ·have q1:(sc.toList==Bv)=true:=by simp [e1]
  rw [if_pos q1]at ht
  have hsc:t.isSc=true:=by simp only [Bool.or_eq_true]at ht;unfold JT.isSc;rcases ht with h|h<;>simp [h]
  have hn:=Di hsc
  have HT:=Lib.hid ht
  clear ht hsc e1
  unfold Bv at q1
  go_enter Tryz.func211,Tryz.ntmps211
  have mm:=Aw kx
  have CC:=fun w0=>AU t H x w0 hx.out
  rw [hn]at CC
  go_wp2_with fail
  refine(CC _).mono ?_
  rintro _ wa ⟨rfl,hwa⟩
  clear mm kx CC
  have hBwa:=Bw.tr hBz hwa
  have kx:=(HI.out.below hBwa).cell cx
  have ks:=(HI.out.below hBwa).cell cs
  clear hwa
  cases h1:t.isFlt
  ·have h2:t.isInt=true:=by have:=HT.out;rw [h1]at this;simpa using this
   have mm:=Af kx
   have CC:=fun w0=>AA t H x w0 hx.out
   rw [h1]at CC
   go_wp2_with fail
   refine(CC _).mono ?_
   rintro _ wb ⟨rfl,hwb⟩
   clear mm kx CC
   have hBwb:=Bw.tr hBwa hwb
   have kx:=(HI.out.below hBwb).cell cx
   have ks:=(HI.out.below hBwb).cell cs
   clear hwb
   have mm:=Aq kx
   have CC:=fun w0=>AM t H x w0 hx.out
   rw [h2]at CC
   go_wp2_with fail
   refine(CC _).mono ?_
   rintro _ wc ⟨rfl,hwc⟩
   clear mm kx CC
   have hBwc:=Bw.tr hBwb hwc
   have kx:=(HI.out.below hBwc).cell cx
   have ks:=(HI.out.below hBwc).cell cs
   clear hwc
   go_wp2_with fail
   go_ret
   exact⟨rfl,hBwc⟩
  ·skip
   have mm:=Af kx
   have CC:=fun w0=>AA t H x w0 hx.out
   rw [h1]at CC
   go_wp2_with fail
   refine(CC _).mono ?_
   rintro _ wb ⟨rfl,hwb⟩
   clear mm kx CC
   have hBwb:=Bw.tr hBwa hwb
   have kx:=(HI.out.below hBwb).cell cx
   have ks:=(HI.out.below hBwb).cell cs
   clear hwb
   go_wp2_with fail
   go_ret
   exact⟨rfl,hBwb⟩
 ·have q1:(sc.toList==Bv)=false:=by simpa using e1
  rw [if_neg (by rw [q1];simp)]at ht
  by_cases e2:sc.toList=Cg
  ·have q2:(sc.toList==Cg)=true:=by simp [e2]
   rw [if_pos q2]at ht
   have hsc:t.isSc=true:=by unfold JT.isSc;simp [ht]
   have hn:=Di hsc
   clear hsc e1 e2
   unfold Bv at q1
   unfold Cg at q2
   go_enter Tryz.func211,Tryz.ntmps211
   have mm:=Aw kx
   have CC:=fun w0=>AU t H x w0 hx.out
   rw [hn]at CC
   go_wp2_with fail
   refine(CC _).mono ?_
   rintro _ wa ⟨rfl,hwa⟩
   clear mm kx CC
   have hBwa:=Bw.tr hBz hwa
   have kx:=(HI.out.below hBwa).cell cx
   have ks:=(HI.out.below hBwa).cell cs
   clear hwa
   have mm:=Ao kx
   have CC:=fun w0=>B5 t H x w0 hx.out
   rw [ht]at CC
   go_wp2_with fail
   refine(CC _).mono ?_
   rintro _ wb ⟨rfl,hwb⟩
   clear mm kx CC
   have hBwb:=Bw.tr hBwa hwb
   have kx:=(HI.out.below hBwb).cell cx
   have ks:=(HI.out.below hBwb).cell cs
   clear hwb
   go_wp2_with fail
   go_ret
   exact⟨rfl,hBwb⟩
  ·have q2:(sc.toList==Cg)=false:=by simpa using e2
   rw [if_neg (by rw [q2];simp)]at ht
   by_cases e3:sc.toList=C'
   ·have q3:(sc.toList==C')=true:=by simp [e3]
    rw [if_pos q3]at ht
    have hsc:t.isSc=true:=by unfold JT.isSc;simp [ht]
    have hn:=Di hsc
    clear hsc e1 e2 e3
    unfold Bv at q1
    unfold Cg at q2
    unfold C' at q3
    go_enter Tryz.func211,Tryz.ntmps211
    have mm:=Aw kx
    have CC:=fun w0=>AU t H x w0 hx.out
    rw [hn]at CC
    go_wp2_with fail
    refine(CC _).mono ?_
    rintro _ wa ⟨rfl,hwa⟩
    clear mm kx CC
    have hBwa:=Bw.tr hBz hwa
    have kx:=(HI.out.below hBwa).cell cx
    have ks:=(HI.out.below hBwa).cell cs
    clear hwa
    have mm:=AD kx
    have CC:=fun w0=>B6 t H x w0 hx.out
    rw [ht]at CC
    go_wp2_with fail
    refine(CC _).mono ?_
    rintro _ wb ⟨rfl,hwb⟩
    clear mm kx CC
    have hBwb:=Bw.tr hBwa hwb
    have kx:=(HI.out.below hBwb).cell cx
    have ks:=(HI.out.below hBwb).cell cs
    clear hwb
    go_wp2_with fail
    go_ret
    exact⟨rfl,hBwb⟩
   ·have q3:(sc.toList==C')=false:=by simpa using e3
    rw [if_neg (by rw [q3];simp)]at ht
    by_cases e4:sc.toList=D1
    ·have q4:(sc.toList==D1)=true:=by simp [e4]
     rw [if_pos q4]at ht
     have hn:=Di ht
     have HT:=Lib.hid ht
     clear ht e1 e2 e3 e4
     unfold Bv at q1
     unfold Cg at q2
     unfold C' at q3
     unfold D1 at q4
     cases h1:t.isFlt
     ·cases h2:t.isInt
      ·cases h3:t.isStr
       ·have h4:t.isBool=true:=by have:=HT.out;simpa [JT.isSc,h1,h2,h3]using this
        go_enter Tryz.func211,Tryz.ntmps211
        have mm:=Aw kx
        have CC:=fun w0=>AU t H x w0 hx.out
        rw [hn]at CC
        go_wp2_with fail
        refine(CC _).mono ?_
        rintro _ wa ⟨rfl,hwa⟩
        clear mm kx CC
        have hBwa:=Bw.tr hBz hwa
        have kx:=(HI.out.below hBwa).cell cx
        have ks:=(HI.out.below hBwa).cell cs
        clear hwa
        have mm:=Af kx
        have CC:=fun w0=>AA t H x w0 hx.out
        rw [h1]at CC
        go_wp2_with fail
        refine(CC _).mono ?_
        rintro _ wb ⟨rfl,hwb⟩
        clear mm kx CC
        have hBwb:=Bw.tr hBwa hwb
        have kx:=(HI.out.below hBwb).cell cx
        have ks:=(HI.out.below hBwb).cell cs
        clear hwb
        have mm:=Aq kx
        have CC:=fun w0=>AM t H x w0 hx.out
        rw [h2]at CC
        go_wp2_with fail
        refine(CC _).mono ?_
        rintro _ wc ⟨rfl,hwc⟩
        clear mm kx CC
        have hBwc:=Bw.tr hBwb hwc
        have kx:=(HI.out.below hBwc).cell cx
        have ks:=(HI.out.below hBwc).cell cs
        clear hwc
        have mm:=Ao kx
        have CC:=fun w0=>B5 t H x w0 hx.out
        rw [h3]at CC
        go_wp2_with fail
        refine(CC _).mono ?_
        rintro _ wd ⟨rfl,hwd⟩
        clear mm kx CC
        have hBwd:=Bw.tr hBwc hwd
        have kx:=(HI.out.below hBwd).cell cx
        have ks:=(HI.out.below hBwd).cell cs
        clear hwd
        have mm:=AD kx
        have CC:=fun w0=>B6 t H x w0 hx.out
        rw [h4]at CC
        go_wp2_with fail
        refine(CC _).mono ?_
        rintro _ we ⟨rfl,hwe⟩
        clear mm kx CC
        have hBwe:=Bw.tr hBwd hwe
        have kx:=(HI.out.below hBwe).cell cx
        have ks:=(HI.out.below hBwe).cell cs
        clear hwe
        go_wp2_with fail
        go_ret
        exact⟨rfl,hBwe⟩
       ·go_enter Tryz.func211,Tryz.ntmps211
        have mm:=Aw kx
        have CC:=fun w0=>AU t H x w0 hx.out
        rw [hn]at CC
        go_wp2_with fail
        refine(CC _).mono ?_
        rintro _ wa ⟨rfl,hwa⟩
        clear mm kx CC
        have hBwa:=Bw.tr hBz hwa
        have kx:=(HI.out.below hBwa).cell cx
        have ks:=(HI.out.below hBwa).cell cs
        clear hwa
        have mm:=Af kx
        have CC:=fun w0=>AA t H x w0 hx.out
        rw [h1]at CC
        go_wp2_with fail
        refine(CC _).mono ?_
        rintro _ wb ⟨rfl,hwb⟩
        clear mm kx CC
        have hBwb:=Bw.tr hBwa hwb
        have kx:=(HI.out.below hBwb).cell cx
        have ks:=(HI.out.below hBwb).cell cs
        clear hwb
        have mm:=Aq kx
        have CC:=fun w0=>AM t H x w0 hx.out
        rw [h2]at CC
        go_wp2_with fail
        refine(CC _).mono ?_
        rintro _ wc ⟨rfl,hwc⟩
        clear mm kx CC
        have hBwc:=Bw.tr hBwb hwc
        have kx:=(HI.out.below hBwc).cell cx
        have ks:=(HI.out.below hBwc).cell cs
        clear hwc
        have mm:=Ao kx
        have CC:=fun w0=>B5 t H x w0 hx.out
        rw [h3]at CC
        go_wp2_with fail
        refine(CC _).mono ?_
        rintro _ wd ⟨rfl,hwd⟩
        clear mm kx CC
        have hBwd:=Bw.tr hBwc hwd
        have kx:=(HI.out.below hBwd).cell cx
        have ks:=(HI.out.below hBwd).cell cs
        clear hwd
        go_wp2_with fail
        go_ret
        exact⟨rfl,hBwd⟩
      ·go_enter Tryz.func211,Tryz.ntmps211
       have mm:=Aw kx
       have CC:=fun w0=>AU t H x w0 hx.out
       rw [hn]at CC
       go_wp2_with fail
       refine(CC _).mono ?_
       rintro _ wa ⟨rfl,hwa⟩
       clear mm kx CC
       have hBwa:=Bw.tr hBz hwa
       have kx:=(HI.out.below hBwa).cell cx
       have ks:=(HI.out.below hBwa).cell cs
       clear hwa
       have mm:=Af kx
       have CC:=fun w0=>AA t H x w0 hx.out
       rw [h1]at CC
       go_wp2_with fail
       refine(CC _).mono ?_
       rintro _ wb ⟨rfl,hwb⟩
       clear mm kx CC
       have hBwb:=Bw.tr hBwa hwb
       have kx:=(HI.out.below hBwb).cell cx
       have ks:=(HI.out.below hBwb).cell cs
       clear hwb
       have mm:=Aq kx
       have CC:=fun w0=>AM t H x w0 hx.out
       rw [h2]at CC
       go_wp2_with fail
       refine(CC _).mono ?_
       rintro _ wc ⟨rfl,hwc⟩
       clear mm kx CC
       have hBwc:=Bw.tr hBwb hwc
       have kx:=(HI.out.below hBwc).cell cx
       have ks:=(HI.out.below hBwc).cell cs
       clear hwc
       go_wp2_with fail
       go_ret
       exact⟨rfl,hBwc⟩
     ·go_enter Tryz.func211,Tryz.ntmps211
      have mm:=Aw kx
      have CC:=fun w0=>AU t H x w0 hx.out
      rw [hn]at CC
      go_wp2_with fail
      refine(CC _).mono ?_
      rintro _ wa ⟨rfl,hwa⟩
      clear mm kx CC
      have hBwa:=Bw.tr hBz hwa
      have kx:=(HI.out.below hBwa).cell cx
      have ks:=(HI.out.below hBwa).cell cs
      clear hwa
      have mm:=Af kx
      have CC:=fun w0=>AA t H x w0 hx.out
      rw [h1]at CC
      go_wp2_with fail
      refine(CC _).mono ?_
      rintro _ wb ⟨rfl,hwb⟩
      clear mm kx CC
      have hBwb:=Bw.tr hBwa hwb
      have kx:=(HI.out.below hBwb).cell cx
      have ks:=(HI.out.below hBwb).cell cs
      clear hwb
      go_wp2_with fail
      go_ret
      exact⟨rfl,hBwb⟩
    ·rw [if_neg (by simpa using e4)]at ht
     cases ht
theorem typedmerge_listValue (l:List JT)(H:Hp)(bx:Nat)(a:Option Addr)(c:Nat)(A:Value)(w:World)(hi:Imm H w)(cx:A8 H bx 0=some (.iface 189 (.slice a l.length c)))(hx:RJ H (.list l) (.iface 189 (.slice a l.length c))):
  Calls Tryz.prog 286 #[A, .iface 184 (.pointer (some ⟨bx,0,none⟩))] w (Pur w (.tuple #[.iface 445 (.slice a l.length c), .nilIface])):=by
 have HI:=Lib.hid hi
 have hBz:=(Bw.rfl:Bw w w)
 have kx:=hi.cell cx
 replace hx:=Lib.hid hx
 clear hi
 have mm:=Aw kx
 go_enter Tryz.func286,Tryz.ntmps286
 go_wp2_with fail
 refine(AU (.list l) H _ _ hx.out).mono ?_
 rintro _ wa ⟨rfl,hwa⟩
 clear mm kx
 have hBa:=Bw.tr hBz hwa
 have kx:=(HI.out.below hBa).cell cx
 have mm:=AT kx
 have e1:(JT.list l).isNull=false:=rfl
 go_wp2_with fail
 refine(Bx (.list l) H _ _ hx.out).mono ?_
 rintro _ wb ⟨rfl,hwb⟩
 clear mm kx e1
 have hBb:=Bw.tr hBa hwb
 have kx:=(HI.out.below hBb).cell cx
 have mm:=Ch kx
 have e1:(JT.list l).isList=true:=rfl
 go_wp2_with fail
 refine(asList_c _ _ _ _ wb).mono ?_
 rintro _ wc ⟨rfl,hwc⟩
 go_wp2_with fail
 go_ret2
 exact⟨rfl,Bw.tr hBb hwc⟩
theorem typedmerge_mapValue (ks:List ByteArray)(vs:List JT)(H:Hp)(bx r:Nat)(A:Value)(w:World)(hi:Imm H w)(cx:A8 H bx 0=some (.iface 190 (.map (some r))))(hx:RJ H (.map ks vs) (.iface 190 (.map (some r)))):
  Calls Tryz.prog 291 #[A, .iface 184 (.pointer (some ⟨bx,0,none⟩))] w (Pur w (.tuple #[.iface 446 (.map (some r)), .nilIface])):=by
 have HI:=Lib.hid hi
 have hBz:=(Bw.rfl:Bw w w)
 have kx:=hi.cell cx
 replace hx:=Lib.hid hx
 clear hi
 have mm:=Aw kx
 go_enter Tryz.func291,Tryz.ntmps291
 go_wp2_with fail
 refine(AU (.map ks vs) H _ _ hx.out).mono ?_
 rintro _ wa ⟨rfl,hwa⟩
 clear mm kx
 have hBa:=Bw.tr hBz hwa
 have kx:=(HI.out.below hBa).cell cx
 have mm:=Bm kx
 have e1:(JT.map ks vs).isNull=false:=rfl
 go_wp2_with fail
 refine(CH (.map ks vs) H _ _ hx.out).mono ?_
 rintro _ wb ⟨rfl,hwb⟩
 clear mm kx e1
 have hBb:=Bw.tr hBa hwb
 have kx:=(HI.out.below hBb).cell cx
 have mm:=Ct kx
 have e1:(JT.map ks vs).isMap=true:=rfl
 go_wp2_with fail
 refine(asMap_c _ _ wb).mono ?_
 rintro _ wc ⟨rfl,hwc⟩
 go_wp2_with fail
 go_ret2
 exact⟨rfl,Bw.tr hBb hwc⟩
theorem Fd (l:List JT)(H:Hp)(bx:Nat)(a:Option Addr)(c:Nat)(A:Value)(w:World)(hi:Imm H w)(cx:A8 H bx 0=some (.iface 189 (.slice a l.length c)))(hx:RJ H (.list l) (.iface 189 (.slice a l.length c))):
  Calls Tryz.prog 212 #[A, .iface 184 (.pointer (some ⟨bx,0,none⟩))] w (Pur w (.tuple #[.iface 445 (.slice a l.length c), .nilIface])):=by
 have HI:=Lib.hid hi
 have hBz:=(Bw.rfl:Bw w w)
 have kx:=hi.cell cx
 replace hx:=Lib.hid hx
 clear hi
 have mm:=Aw kx
 go_enter Tryz.func212,Tryz.ntmps212
 go_wp2_with fail
 refine(AU (.list l) H _ _ hx.out).mono ?_
 rintro _ wa ⟨rfl,hwa⟩
 clear mm kx
 have hBa:=Bw.tr hBz hwa
 have kx:=(HI.out.below hBa).cell cx
 have mm:=AT kx
 have e1:(JT.list l).isNull=false:=rfl
 go_wp2_with fail
 refine(Bx (.list l) H _ _ hx.out).mono ?_
 rintro _ wb ⟨rfl,hwb⟩
 clear mm kx e1
 have hBb:=Bw.tr hBa hwb
 have kx:=(HI.out.below hBb).cell cx
 have mm:=Ch kx
 have e1:(JT.list l).isList=true:=rfl
 go_wp2_with fail
 refine(asList_c _ _ _ _ wb).mono ?_
 rintro _ wc ⟨rfl,hwc⟩
 go_wp2_with fail
 go_ret2
 exact⟨rfl,Bw.tr hBb hwc⟩
theorem typedcompare_mapValue (ks:List ByteArray)(vs:List JT)(H:Hp)(bx r:Nat)(A:Value)(w:World)(hi:Imm H w)(cx:A8 H bx 0=some (.iface 190 (.map (some r))))(hx:RJ H (.map ks vs) (.iface 190 (.map (some r)))):
  Calls Tryz.prog 220 #[A, .iface 184 (.pointer (some ⟨bx,0,none⟩))] w (Pur w (.tuple #[.iface 446 (.map (some r)), .nilIface])):=by
 have HI:=Lib.hid hi
 have hBz:=(Bw.rfl:Bw w w)
 have kx:=hi.cell cx
 replace hx:=Lib.hid hx
 clear hi
 have mm:=Aw kx
 go_enter Tryz.func220,Tryz.ntmps220
 go_wp2_with fail
 refine(AU (.map ks vs) H _ _ hx.out).mono ?_
 rintro _ wa ⟨rfl,hwa⟩
 clear mm kx
 have hBa:=Bw.tr hBz hwa
 have kx:=(HI.out.below hBa).cell cx
 have mm:=Bm kx
 have e1:(JT.map ks vs).isNull=false:=rfl
 go_wp2_with fail
 refine(CH (.map ks vs) H _ _ hx.out).mono ?_
 rintro _ wb ⟨rfl,hwb⟩
 clear mm kx e1
 have hBb:=Bw.tr hBa hwb
 have kx:=(HI.out.below hBb).cell cx
 have mm:=Ct kx
 have e1:(JT.map ks vs).isMap=true:=rfl
 go_wp2_with fail
 refine(asMap_c _ _ wb).mono ?_
 rintro _ wc ⟨rfl,hwc⟩
 go_wp2_with fail
 go_ret2
 exact⟨rfl,Bw.tr hBb hwc⟩
theorem EV (l:List JT)(H:Hp)(bx:Nat)(a:Option Addr)(c:Nat)(A:Value)(w:World)(hi:Imm H w)(cx:A8 H bx 0=some (.iface 189 (.slice a l.length c)))(hx:RJ H (.list l) (.iface 189 (.slice a l.length c))):
  Calls Tryz.prog 243 #[A, .iface 184 (.pointer (some ⟨bx,0,none⟩))] w (Pur w (.tuple #[.iface 445 (.slice a l.length c), .nilIface])):=by
 have HI:=Lib.hid hi
 have hBz:=(Bw.rfl:Bw w w)
 have kx:=hi.cell cx
 replace hx:=Lib.hid hx
 clear hi
 have mm:=Aw kx
 go_enter Tryz.func243,Tryz.ntmps243
 go_wp2_with fail
 refine(AU (.list l) H _ _ hx.out).mono ?_
 rintro _ wa ⟨rfl,hwa⟩
 clear mm kx
 have hBa:=Bw.tr hBz hwa
 have kx:=(HI.out.below hBa).cell cx
 have mm:=AT kx
 have e1:(JT.list l).isNull=false:=rfl
 go_wp2_with fail
 refine(Bx (.list l) H _ _ hx.out).mono ?_
 rintro _ wb ⟨rfl,hwb⟩
 clear mm kx e1
 have hBb:=Bw.tr hBa hwb
 have kx:=(HI.out.below hBb).cell cx
 have mm:=Ch kx
 have e1:(JT.list l).isList=true:=rfl
 go_wp2_with fail
 refine(asList_c _ _ _ _ wb).mono ?_
 rintro _ wc ⟨rfl,hwc⟩
 go_wp2_with fail
 go_ret2
 exact⟨rfl,Bw.tr hBb hwc⟩
theorem Dm (ks:List ByteArray)(vs:List JT)(H:Hp)(bx r:Nat)(A:Value)(w:World)(hi:Imm H w)(cx:A8 H bx 0=some (.iface 190 (.map (some r))))(hx:RJ H (.map ks vs) (.iface 190 (.map (some r)))):
  Calls Tryz.prog 245 #[A, .iface 184 (.pointer (some ⟨bx,0,none⟩))] w (Pur w (.tuple #[.iface 446 (.map (some r)), .nilIface])):=by
 have HI:=Lib.hid hi
 have hBz:=(Bw.rfl:Bw w w)
 have kx:=hi.cell cx
 replace hx:=Lib.hid hx
 clear hi
 have mm:=Aw kx
 go_enter Tryz.func245,Tryz.ntmps245
 go_wp2_with fail
 refine(AU (.map ks vs) H _ _ hx.out).mono ?_
 rintro _ wa ⟨rfl,hwa⟩
 clear mm kx
 have hBa:=Bw.tr hBz hwa
 have kx:=(HI.out.below hBa).cell cx
 have mm:=Bm kx
 have e1:(JT.map ks vs).isNull=false:=rfl
 go_wp2_with fail
 refine(CH (.map ks vs) H _ _ hx.out).mono ?_
 rintro _ wb ⟨rfl,hwb⟩
 clear mm kx e1
 have hBb:=Bw.tr hBa hwb
 have kx:=(HI.out.below hBb).cell cx
 have mm:=Ct kx
 have e1:(JT.map ks vs).isMap=true:=rfl
 go_wp2_with fail
 refine(asMap_c _ _ wb).mono ?_
 rintro _ wc ⟨rfl,hwc⟩
 go_wp2_with fail
 go_ret2
 exact⟨rfl,Bw.tr hBb hwc⟩
end
section
open Go Go.RowKit Go.MapKept
structure MW where
 L:Value
 R:Value
 S:Option Addr
 y:Six
 pa:Option Addr
 pn:Nat
 pc:Nat
 out:Option Addr
 leaf:Bool
 spare:Option Addr
 ha:Nat
def MW.obj (m:MW):Obj:= .cells #[m.L,m.R, .pointer m.S, .pointer m.y.y0, .pointer m.y.y1, .pointer m.y.y2, .pointer m.y.y3, .pointer m.y.y4, .bool false, .slice m.pa m.pn m.pc, .func (.func 56) #[] #[], .nilFunc, .pointer m.out, .bool m.leaf, .pointer m.spare, .iface 185 (.pointer (some ⟨m.ha,0,none⟩))] 200
abbrev Ab (b:Nat):Value:= .iface 184 (.pointer (some ⟨b,0,none⟩))
def TmOut (w:World)(wb:Nat)(m:MW)(y:Value)(w':World):Prop:=Fr (fun k=>k=wb) w.heap.size w w'∧∃ob,w.heap.size≤ob∧w'.heap[ob]?=some (.cells #[y] 20)∧w'.heap[wb]?=some ({m with out:=some ⟨ob,0,none⟩}:MW).obj
theorem Ac {w:World}{b:Nat}{c:Array Value}{t:Nat}(h:w.heap[b]?=some (.cells c t))(i:Nat)(v:Value):(w.setCell ⟨b,i,none⟩ v).heap[b]?=some (.cells (c.setIfInBounds i v) t):=Ae h i v
theorem tm_rule (m:MW)(br wb:Nat)(hR:m.R=Ab br)(H:Hp)(y:Value)(w:World)(hi:Imm H w)(cy:A8 H br 0=some y)(hy:IsAny y)(hb:w.heap[wb]?=some m.obj):
  Calls Tryz.prog 56 #[.pointer (some ⟨wb,0,none⟩)] w (fun e w'=>e= .returned (.tuple #[])∧TmOut w wb m y w'):=by
 rcases m with⟨L,R,S,⟨y0,y1,y2,y3,y4⟩,pa,pn,pc,out,leaf,spare,ha⟩
 simp only at hR
 subst hR
 unfold MW.obj at hb
 simp only at hb
 have HB:=Lib.hid hb
 have HI:=Lib.hid hi
 obtain⟨q,f⟩:=A1 hb
 have ky:=hi.cell cy
 have mm:=EG ky
 have hlt:=A0 hb
 clear hb hi ky
 go_enter Tryz.func56,Tryz.ntmps56
 go_wp2_with fail
 refine(unstr_c y w).mono ?_
 rintro _ w1 ⟨rfl,hb1⟩
 have HB1:=Lib.hid hb1
 clear q f mm
 obtain⟨q,f⟩:=A1 (A2 hb1 HB.out)
 have hlt1:=A0 (A2 hb1 HB.out)
 rcases hy with rfl|⟨T,v,rfl⟩
 ·obtain⟨wa,hwa⟩:∃wa,wa=w1.alloc (.cells #[.nilIface] 20):=⟨_,rfl⟩
  have HA:Hid (Bw w1 wa∧wa.heap[w1.heap.size]?=some (.cells #[.nilIface] 20)∧wa.heap.size=w1.heap.size+1):=by subst hwa;exact⟨A5,A4,by simp⟩
  go_upto_region 2 with(fail)
  rw [←hwa]
  clear hwa q f
  have hbw:wa.heap[wb]?=_:=A2 HA.out.1 (A2 HB1.out HB.out)
  obtain⟨q,f⟩:=A1 hbw
  have hlt2:=A0 hbw
  have HBW:=Lib.hid hbw
  clear hbw
  go_wp2_with fail
  go_end0
  have hne:¬w1.heap.size=wb:=by omega
  have hs1:=HB1.out.size
  have hbw:Bw w wa:=Bw.tr HB1.out HA.out.1
  have ht:Az wa (wa.setCell ⟨wb,12,none⟩ (.pointer (some ⟨w1.heap.size,0,none⟩))) wb:=(Az.refl wa wb).set _ _
  refine⟨rfl,⟨ht.os.trans hbw.os,ht.tape.trans hbw.tape,ht.output.trans hbw.output,by have:=hbw.size;rw [ht.size];exact this,fun k hk hx=>(ht.block k hx).trans (hbw.block k hk)⟩,w1.heap.size,hs1, ?_, ?_⟩
  ·rw [ht.block _ hne];exact HA.out.2.1
  ·have:=Ac HBW.out 12 (.pointer (some ⟨w1.heap.size,0,none⟩))
   unfold MW.obj
   simpa using this
 ·obtain⟨wa,hwa⟩:∃wa,wa=w1.alloc (.cells #[.iface T v] 20):=⟨_,rfl⟩
  have HA:Hid (Bw w1 wa∧wa.heap[w1.heap.size]?=some (.cells #[.iface T v] 20)∧wa.heap.size=w1.heap.size+1):=by subst hwa;exact⟨A5,A4,by simp⟩
  go_upto_region 2 with(fail)
  rw [←hwa]
  clear hwa q f
  have hbw:wa.heap[wb]?=_:=A2 HA.out.1 (A2 HB1.out HB.out)
  obtain⟨q,f⟩:=A1 hbw
  have hlt2:=A0 hbw
  have HBW:=Lib.hid hbw
  clear hbw
  go_wp2_with fail
  go_end0
  have hne:¬w1.heap.size=wb:=by omega
  have hs1:=HB1.out.size
  have hbw:Bw w wa:=Bw.tr HB1.out HA.out.1
  have ht:Az wa (wa.setCell ⟨wb,12,none⟩ (.pointer (some ⟨w1.heap.size,0,none⟩))) wb:=(Az.refl wa wb).set _ _
  refine⟨rfl,⟨ht.os.trans hbw.os,ht.tape.trans hbw.tape,ht.output.trans hbw.output,by have:=hbw.size;rw [ht.size];exact this,fun k hk hx=>(ht.block k hx).trans (hbw.block k hk)⟩,w1.heap.size,hs1, ?_, ?_⟩
  ·rw [ht.block _ hne];exact HA.out.2.1
  ·have:=Ac HBW.out 12 (.pointer (some ⟨w1.heap.size,0,none⟩))
   unfold MW.obj
   simpa using this
theorem tm_doLeaf (m:MW)(br wb:Nat)(hR:m.R=Ab br)(hl:m.leaf=false)(H:Hp)(y:Value)(w:World)(hi:Imm H w)(hHw:H wb=none)(cy:A8 H br 0=some y)(hy:IsAny y)(hb:w.heap[wb]?=some m.obj):
  Calls Tryz.prog 277 #[.pointer (some ⟨wb,0,none⟩)] w (fun e w'=>e= .returned (.tuple #[])∧TmOut w wb {m with leaf:=true} y w'):=by
 rcases m with⟨L,R,S,⟨y0,y1,y2,y3,y4⟩,pa,pn,pc,out,leaf,spare,ha⟩
 simp only at hR hl
 subst hR
 subst hl
 have HR:=Lib.hid (fun w0 h0=>tm_rule ⟨L,Ab br,S,⟨y0,y1,y2,y3,y4⟩,pa,pn,pc,out,true,spare,ha⟩ br wb rfl H y w0 h0 cy hy)
 unfold MW.obj at hb
 simp only at hb
 have HB:=Lib.hid hb
 have HI:=Lib.hid hi
 obtain⟨q,f⟩:=A1 hb
 have hlt:=A0 hb
 clear hb hi hy
 go_enter Tryz.func277,Tryz.ntmps277
 go_upto_region 2 with(fail)
 obtain⟨wa,hwa⟩:∃wa,wa=w.setCell ⟨wb,13,none⟩ (.bool true):=⟨_,rfl⟩
 have ht:Az w wa wb:=by subst hwa;exact(Az.refl w wb).set _ _
 have hbw:wa.heap[wb]?=some (⟨L,Ab br,S,⟨y0,y1,y2,y3,y4⟩,pa,pn,pc,out,true,spare,ha⟩:MW).obj:=by
  subst hwa
  have:=Ac HB.out 13 (.bool true)
  unfold MW.obj
  simpa using this
 rw [←hwa]
 clear hwa q f
 have HBW:=Lib.hid (And.intro ht hbw)
 obtain⟨q,f⟩:=A1 hbw
 have hlt2:=A0 hbw
 have him:Hid (Imm H wa):=fun k o e=>by
  show wa.heap[k]?=_
  rw [HBW.out.1.block k (fun h=>by subst h;rw [hHw]at e;cases e)];exact HI.out k o e
 clear hbw ht
 go_wp2_with fail
 refine(HR.out wa him.out HBW.out.2).mono ?_
 rintro _ w2 ⟨rfl,ho⟩
 have HO:=Lib.hid ho
 clear ho q f
 go_wp2_with fail
 go_end0
 obtain⟨hfr,ob,h1,h2,h3⟩:=HO.out
 have ht:=HBW.out.1
 refine⟨rfl,⟨hfr.os.trans ht.os,hfr.tape.trans ht.tape,hfr.output.trans ht.output,by have:=hfr.size;rw [ht.size]at this;exact this,fun k hk hx=>(hfr.block k (by rw [ht.size];exact hk) hx).trans (ht.block k hx)⟩,ob,by rw [ht.size]at h1;exact h1,h2,h3⟩
theorem tm_doScalar (m:MW)(sc:ByteArray)(t u:JT)(bs bl br wb:Nat)(hL:m.L=Ab bl)(hR:m.R=Ab br)(hl:m.leaf=false)(ht:fitsJ sc t=true)(hu:fitsJ sc u=true)(H:Hp)(x y:Value)(w:World)(hi:Imm H w)(hHw:H wb=none)
  (cs:A8 H bs 0=some (.string sc)) (cx:A8 H bl 0=some x) (cy:A8 H br 0=some y) (hx:RJ H t x) (hy:RJ H u y) (hb:w.heap[wb]?=some m.obj):
  Calls Tryz.prog 280 #[.pointer (some ⟨wb,0,none⟩), .pointer (some ⟨bs,0,none⟩)] w (fun e w'=>e= .returned (.slice none 0 0)∧TmOut w wb {m with leaf:=true} y w'):=by
 have HD:=Lib.hid (fun w0 h0=>tm_doLeaf m br wb hR hl H y w0 h0 hHw cy hy.isAny)
 have HV1:=Lib.hid (fun pre w0 h0=>EU sc pre t ht H bs bl x w0 h0 cs cx hx)
 have HV2:=Lib.hid (fun pre w0 h0=>EU sc pre u hu H bs br y w0 h0 cs cy hy)
 rcases m with⟨L,R,S,⟨y0,y1,y2,y3,y4⟩,pa,pn,pc,out,leaf,spare,ha⟩
 simp only at hR hl hL
 subst hR
 subst hL
 subst hl
 have HBO:=Lib.hid hb
 unfold MW.obj at hb
 simp only at hb
 have HB:=Lib.hid hb
 have HI:=Lib.hid hi
 obtain⟨q,f⟩:=A1 hb
 have hlt:=A0 hb
 clear hb hi hy hx ht hu
 go_enter Tryz.func280,Tryz.ntmps280
 go_wp2_with fail
 refine(HV1.out _ w HI.out).mono ?_
 rintro _ w1 ⟨rfl,hb1⟩
 clear q f
 obtain⟨q,f⟩:=A1 (A2 hb1 HB.out)
 have hlt1:=A0 (A2 hb1 HB.out)
 have HB1:=Lib.hid hb1
 clear hb1
 go_wp2_with fail
 refine(HV2.out _ w1 (HI.out.below HB1.out)).mono ?_
 rintro _ w2 ⟨rfl,hb2⟩
 have HB2:=Lib.hid (Bw.tr HB1.out hb2)
 clear hb2 q f
 go_wp2_with fail
 refine(HD.out w2 (HI.out.below HB2.out) (A2 HB2.out HBO.out)).mono ?_
 rintro _ w3 ⟨rfl,ho⟩
 have HO:=Lib.hid ho
 clear ho
 go_wp2_with fail
 go_ret
 obtain⟨hfr,ob,h1,h2,h3⟩:=HO.out
 have hs:=HB2.out.size
 exact⟨rfl,(Fr.of_bw HB2.out (Nat.le_refl _)).trans hfr hs,ob,by omega,h2,h3⟩
end
section
open Go Go.RowKit Go.MapKept
theorem typedmerge_m_doMap (a:Addr)(w:World):(method 594 196 (.pointer (some a)) "pub-coparcener/pub/structuredmerge/typedmerge.doMap").run Tryz.prog w= .ok (279, .pointer (some a)) w:=by kernel_rfl
theorem typedmerge_m_doList (a:Addr)(w:World):(method 594 196 (.pointer (some a)) "pub-coparcener/pub/structuredmerge/typedmerge.doList").run Tryz.prog w= .ok (278, .pointer (some a)) w:=by kernel_rfl
theorem typedmerge_m_doScalar (a:Addr)(w:World):(method 594 196 (.pointer (some a)) "pub-coparcener/pub/structuredmerge/typedmerge.doScalar").run Tryz.prog w= .ok (280, .pointer (some a)) w:=by kernel_rfl
theorem typedcompare_m_doMap (a:Addr)(w:World):(method 594 138 (.pointer (some a)) "pub-coparcener/pub/structuredmerge/typedcompare.doMap").run Tryz.prog w= .ok (202, .pointer (some a)) w:=by kernel_rfl
theorem typedcompare_m_doList (a:Addr)(w:World):(method 594 138 (.pointer (some a)) "pub-coparcener/pub/structuredmerge/typedcompare.doList").run Tryz.prog w= .ok (201, .pointer (some a)) w:=by kernel_rfl
theorem EY (a:Addr)(w:World):(method 594 138 (.pointer (some a)) "pub-coparcener/pub/structuredmerge/typedcompare.doScalar").run Tryz.prog w= .ok (203, .pointer (some a)) w:=by kernel_rfl
theorem typedfieldset_m_doMap (a:Addr)(w:World):(method 594 154 (.pointer (some a)) "pub-coparcener/pub/structuredmerge/typedfieldset.doMap").run Tryz.prog w= .ok (241, .pointer (some a)) w:=by kernel_rfl
theorem Fc (a:Addr)(w:World):(method 594 154 (.pointer (some a)) "pub-coparcener/pub/structuredmerge/typedfieldset.doList").run Tryz.prog w= .ok (240, .pointer (some a)) w:=by kernel_rfl
theorem EN (a:Addr)(w:World):(method 594 154 (.pointer (some a)) "pub-coparcener/pub/structuredmerge/typedfieldset.doScalar").run Tryz.prog w= .ok (242, .pointer (some a)) w:=by kernel_rfl
theorem Dc (p a:Addr)(y:Six)(w:World)(Q:World→World→Prop)(h:∀w1,Bw w w1→Calls Tryz.prog 279 #[.pointer (some a), .pointer (some p)] w1 (fun e w2=>e= .returned (.slice none 0 0)∧Q w1 w2)):
  Calls Tryz.prog 113 #[.agg #[.pointer (none), .pointer (none), .pointer (some p)], .agg #[.pointer y.y0, .pointer y.y1, .pointer y.y2, .pointer y.y3, .pointer y.y4, .bool false], .iface 196 (.pointer (some a))] w (fun e w2=>e= .returned (.slice none 0 0)∧∃w1,Bw w w1∧Q w1 w2):=by
 have m1:=fun w=>typedmerge_m_doMap a w
 have HH:=Lib.hid h
 have HB:=Lib.hid (Am (w:=w) (o:= .cells #[.pointer (none), .pointer (none), .pointer (some p)] 80) (p:= .cells #[.pointer y.y0, .pointer y.y1, .pointer y.y2, .pointer y.y3, .pointer y.y4, .bool false] 83))
 clear h
 go_enter Tryz.func113,Tryz.ntmps113
 go_wp2_with fail
 refine(HH.out _ HB.out).mono ?_
 rintro _ w2 ⟨rfl,hq⟩
 have HQ:=Lib.hid hq
 clear hq
 go_wp2_with fail
 go_ret
 exact⟨rfl,_,HB.out,HQ.out⟩
theorem CU (p a:Addr)(y:Six)(w:World)(Q:World→World→Prop)(h:∀w1,Bw w w1→Calls Tryz.prog 202 #[.pointer (some a), .pointer (some p)] w1 (fun e w2=>e= .returned (.slice none 0 0)∧Q w1 w2)):
  Calls Tryz.prog 96 #[.agg #[.pointer (none), .pointer (none), .pointer (some p)], .agg #[.pointer y.y0, .pointer y.y1, .pointer y.y2, .pointer y.y3, .pointer y.y4, .bool false], .iface 138 (.pointer (some a))] w (fun e w2=>e= .returned (.slice none 0 0)∧∃w1,Bw w w1∧Q w1 w2):=by
 have m1:=fun w=>typedcompare_m_doMap a w
 have HH:=Lib.hid h
 have HB:=Lib.hid (Am (w:=w) (o:= .cells #[.pointer (none), .pointer (none), .pointer (some p)] 80) (p:= .cells #[.pointer y.y0, .pointer y.y1, .pointer y.y2, .pointer y.y3, .pointer y.y4, .bool false] 83))
 clear h
 go_enter Tryz.func96,Tryz.ntmps96
 go_wp2_with fail
 refine(HH.out _ HB.out).mono ?_
 rintro _ w2 ⟨rfl,hq⟩
 have HQ:=Lib.hid hq
 clear hq
 go_wp2_with fail
 go_ret
 exact⟨rfl,_,HB.out,HQ.out⟩
theorem CI (p a:Addr)(y:Six)(w:World)(Q:World→World→Prop)(h:∀w1,Bw w w1→Calls Tryz.prog 241 #[.pointer (some a), .pointer (some p)] w1 (fun e w2=>e= .returned (.slice none 0 0)∧Q w1 w2)):
  Calls Tryz.prog 126 #[.agg #[.pointer (none), .pointer (none), .pointer (some p)], .agg #[.pointer y.y0, .pointer y.y1, .pointer y.y2, .pointer y.y3, .pointer y.y4, .bool false], .iface 154 (.pointer (some a))] w (fun e w2=>e= .returned (.slice none 0 0)∧∃w1,Bw w w1∧Q w1 w2):=by
 have m1:=fun w=>typedfieldset_m_doMap a w
 have HH:=Lib.hid h
 have HB:=Lib.hid (Am (w:=w) (o:= .cells #[.pointer (none), .pointer (none), .pointer (some p)] 80) (p:= .cells #[.pointer y.y0, .pointer y.y1, .pointer y.y2, .pointer y.y3, .pointer y.y4, .bool false] 83))
 clear h
 go_enter Tryz.func126,Tryz.ntmps126
 go_wp2_with fail
 refine(HH.out _ HB.out).mono ?_
 rintro _ w2 ⟨rfl,hq⟩
 have HQ:=Lib.hid hq
 clear hq
 go_wp2_with fail
 go_ret
 exact⟨rfl,_,HB.out,HQ.out⟩
theorem Em (p a:Addr)(y:Six)(w:World)(Q:World→World→Prop)(h:∀w1,Bw w w1→Calls Tryz.prog 280 #[.pointer (some a), .pointer (some p)] w1 (fun e w2=>e= .returned (.slice none 0 0)∧Q w1 w2)):
  Calls Tryz.prog 113 #[.agg #[.pointer (some p), .pointer (none), .pointer (none)], .agg #[.pointer y.y0, .pointer y.y1, .pointer y.y2, .pointer y.y3, .pointer y.y4, .bool false], .iface 196 (.pointer (some a))] w (fun e w2=>e= .returned (.slice none 0 0)∧∃w1,Bw w w1∧Q w1 w2):=by
 have m1:=fun w=>typedmerge_m_doScalar a w
 have HH:=Lib.hid h
 have HB:=Lib.hid (Am (w:=w) (o:= .cells #[.pointer (some p), .pointer (none), .pointer (none)] 80) (p:= .cells #[.pointer y.y0, .pointer y.y1, .pointer y.y2, .pointer y.y3, .pointer y.y4, .bool false] 83))
 clear h
 go_enter Tryz.func113,Tryz.ntmps113
 go_wp2_with fail
 refine(HH.out _ HB.out).mono ?_
 rintro _ w2 ⟨rfl,hq⟩
 have HQ:=Lib.hid hq
 clear hq
 go_wp2_with fail
 go_ret
 exact⟨rfl,_,HB.out,HQ.out⟩
theorem E2 (p a:Addr)(y:Six)(w:World)(Q:World→World→Prop)(h:∀w1,Bw w w1→Calls Tryz.prog 203 #[.pointer (some a), .pointer (some p)] w1 (fun e w2=>e= .returned (.slice none 0 0)∧Q w1 w2)):
  Calls Tryz.prog 96 #[.agg #[.pointer (some p), .pointer (none), .pointer (none)], .agg #[.pointer y.y0, .pointer y.y1, .pointer y.y2, .pointer y.y3, .pointer y.y4, .bool false], .iface 138 (.pointer (some a))] w (fun e w2=>e= .returned (.slice none 0 0)∧∃w1,Bw w w1∧Q w1 w2):=by
 have m1:=fun w=>EY a w
 have HH:=Lib.hid h
 have HB:=Lib.hid (Am (w:=w) (o:= .cells #[.pointer (some p), .pointer (none), .pointer (none)] 80) (p:= .cells #[.pointer y.y0, .pointer y.y1, .pointer y.y2, .pointer y.y3, .pointer y.y4, .bool false] 83))
 clear h
 go_enter Tryz.func96,Tryz.ntmps96
 go_wp2_with fail
 refine(HH.out _ HB.out).mono ?_
 rintro _ w2 ⟨rfl,hq⟩
 have HQ:=Lib.hid hq
 clear hq
 go_wp2_with fail
 go_ret
 exact⟨rfl,_,HB.out,HQ.out⟩
theorem DR (p a:Addr)(y:Six)(w:World)(Q:World→World→Prop)(h:∀w1,Bw w w1→Calls Tryz.prog 242 #[.pointer (some a), .pointer (some p)] w1 (fun e w2=>e= .returned (.slice none 0 0)∧Q w1 w2)):
  Calls Tryz.prog 126 #[.agg #[.pointer (some p), .pointer (none), .pointer (none)], .agg #[.pointer y.y0, .pointer y.y1, .pointer y.y2, .pointer y.y3, .pointer y.y4, .bool false], .iface 154 (.pointer (some a))] w (fun e w2=>e= .returned (.slice none 0 0)∧∃w1,Bw w w1∧Q w1 w2):=by
 have m1:=fun w=>EN a w
 have HH:=Lib.hid h
 have HB:=Lib.hid (Am (w:=w) (o:= .cells #[.pointer (some p), .pointer (none), .pointer (none)] 80) (p:= .cells #[.pointer y.y0, .pointer y.y1, .pointer y.y2, .pointer y.y3, .pointer y.y4, .bool false] 83))
 clear h
 go_enter Tryz.func126,Tryz.ntmps126
 go_wp2_with fail
 refine(HH.out _ HB.out).mono ?_
 rintro _ w2 ⟨rfl,hq⟩
 have HQ:=Lib.hid hq
 clear hq
 go_wp2_with fail
 go_ret
 exact⟨rfl,_,HB.out,HQ.out⟩
theorem EM (p a:Addr)(y:Six)(w:World)(Q:World→World→Prop)(h:∀w1,Bw w w1→Calls Tryz.prog 278 #[.pointer (some a), .pointer (some p)] w1 (fun e w2=>e= .returned (.slice none 0 0)∧Q w1 w2)):
  Calls Tryz.prog 113 #[.agg #[.pointer (none), .pointer (some p), .pointer (none)], .agg #[.pointer y.y0, .pointer y.y1, .pointer y.y2, .pointer y.y3, .pointer y.y4, .bool false], .iface 196 (.pointer (some a))] w (fun e w2=>e= .returned (.slice none 0 0)∧∃w1,Bw w w1∧Q w1 w2):=by
 have m1:=fun w=>typedmerge_m_doList a w
 have HH:=Lib.hid h
 have HB:=Lib.hid (Am (w:=w) (o:= .cells #[.pointer (none), .pointer (some p), .pointer (none)] 80) (p:= .cells #[.pointer y.y0, .pointer y.y1, .pointer y.y2, .pointer y.y3, .pointer y.y4, .bool false] 83))
 clear h
 go_enter Tryz.func113,Tryz.ntmps113
 go_wp2_with fail
 refine(HH.out _ HB.out).mono ?_
 rintro _ w2 ⟨rfl,hq⟩
 have HQ:=Lib.hid hq
 clear hq
 go_wp2_with fail
 go_ret
 exact⟨rfl,_,HB.out,HQ.out⟩
theorem Eo (p a:Addr)(y:Six)(w:World)(Q:World→World→Prop)(h:∀w1,Bw w w1→Calls Tryz.prog 201 #[.pointer (some a), .pointer (some p)] w1 (fun e w2=>e= .returned (.slice none 0 0)∧Q w1 w2)):
  Calls Tryz.prog 96 #[.agg #[.pointer (none), .pointer (some p), .pointer (none)], .agg #[.pointer y.y0, .pointer y.y1, .pointer y.y2, .pointer y.y3, .pointer y.y4, .bool false], .iface 138 (.pointer (some a))] w (fun e w2=>e= .returned (.slice none 0 0)∧∃w1,Bw w w1∧Q w1 w2):=by
 have m1:=fun w=>typedcompare_m_doList a w
 have HH:=Lib.hid h
 have HB:=Lib.hid (Am (w:=w) (o:= .cells #[.pointer (none), .pointer (some p), .pointer (none)] 80) (p:= .cells #[.pointer y.y0, .pointer y.y1, .pointer y.y2, .pointer y.y3, .pointer y.y4, .bool false] 83))
 clear h
 go_enter Tryz.func96,Tryz.ntmps96
 go_wp2_with fail
 refine(HH.out _ HB.out).mono ?_
 rintro _ w2 ⟨rfl,hq⟩
 have HQ:=Lib.hid hq
 clear hq
 go_wp2_with fail
 go_ret
 exact⟨rfl,_,HB.out,HQ.out⟩
theorem Ec (p a:Addr)(y:Six)(w:World)(Q:World→World→Prop)(h:∀w1,Bw w w1→Calls Tryz.prog 240 #[.pointer (some a), .pointer (some p)] w1 (fun e w2=>e= .returned (.slice none 0 0)∧Q w1 w2)):
  Calls Tryz.prog 126 #[.agg #[.pointer (none), .pointer (some p), .pointer (none)], .agg #[.pointer y.y0, .pointer y.y1, .pointer y.y2, .pointer y.y3, .pointer y.y4, .bool false], .iface 154 (.pointer (some a))] w (fun e w2=>e= .returned (.slice none 0 0)∧∃w1,Bw w w1∧Q w1 w2):=by
 have m1:=fun w=>Fc a w
 have HH:=Lib.hid h
 have HB:=Lib.hid (Am (w:=w) (o:= .cells #[.pointer (none), .pointer (some p), .pointer (none)] 80) (p:= .cells #[.pointer y.y0, .pointer y.y1, .pointer y.y2, .pointer y.y3, .pointer y.y4, .bool false] 83))
 clear h
 go_enter Tryz.func126,Tryz.ntmps126
 go_wp2_with fail
 refine(HH.out _ HB.out).mono ?_
 rintro _ w2 ⟨rfl,hq⟩
 have HQ:=Lib.hid hq
 clear hq
 go_wp2_with fail
 go_ret
 exact⟨rfl,_,HB.out,HQ.out⟩
end
section
open Go Go.RowKit Go.MapKept
@[go_sem] theorem err_nil_nil (w:World):(binOp .neq 87 .nilIface .nilIface).run Tryz.prog w= .ok (.bool false) w:=by kernel_rfl
theorem DO (l:List JT)(H:Hp)(bx wb ha:Nat)(a:Option Addr)(c:Nat)(pre:ByteArray)(w:World)(hi:Imm H w)(cx:A8 H bx 0=some (.iface 189 (.slice a l.length c)))(hx:RJ H (.list l) (.iface 189 (.slice a l.length c)))
  (ka:w.cell? ⟨wb,15,none⟩=some (.iface 185 (.pointer (some ⟨ha,0,none⟩)))):
  Calls Tryz.prog 281 #[.pointer (some ⟨wb,0,none⟩), .string pre,Ab bx] w (Pur w (.tuple #[.iface 445 (.slice a l.length c), .slice none 0 0])):=by
 have HC:=Lib.hid (fun A=>typedmerge_listValue l H bx a c A w hi cx hx)
 have hlt:=Ah ka
 clear hi cx hx
 go_enter Tryz.func281,Tryz.ntmps281
 go_wp2_with fail
 refine(HC.out _).mono ?_
 rintro _ w1 ⟨rfl,hb1⟩
 go_wp2_with fail
 go_ret2
 exact⟨rfl,hb1⟩
theorem Cf (ks:List ByteArray)(vs:List JT)(H:Hp)(bx wb ha r:Nat)(pre:ByteArray)(w:World)(hi:Imm H w)(cx:A8 H bx 0=some (.iface 190 (.map (some r))))(hx:RJ H (.map ks vs) (.iface 190 (.map (some r))))
  (ka:w.cell? ⟨wb,15,none⟩=some (.iface 185 (.pointer (some ⟨ha,0,none⟩)))):
  Calls Tryz.prog 283 #[.pointer (some ⟨wb,0,none⟩), .string pre,Ab bx] w (Pur w (.tuple #[.iface 446 (.map (some r)), .slice none 0 0])):=by
 have HC:=Lib.hid (fun A=>typedmerge_mapValue ks vs H bx r A w hi cx hx)
 have hlt:=Ah ka
 clear hi cx hx
 go_enter Tryz.func283,Tryz.ntmps283
 go_wp2_with fail
 refine(HC.out _).mono ?_
 rintro _ w1 ⟨rfl,hb1⟩
 go_wp2_with fail
 go_ret2
 exact⟨rfl,hb1⟩
theorem typedmerge_doListA (l r:List JT)(hl:0<l.length)(H:Hp)(bl br wb bt ha:Nat)(a a2:Option Addr)(c c2:Nat)(rel:ByteArray)(hrel:(rel.toList==An)=true)(w:World)(Q:World→World→Prop)(hi:Imm H w)
  (cx:A8 H bl 0=some (.iface 189 (.slice a l.length c))) (hx:RJ H (.list l) (.iface 189 (.slice a l.length c)))
  (cy:A8 H br 0=some (.iface 189 (.slice a2 r.length c2))) (hy:RJ H (.list r) (.iface 189 (.slice a2 r.length c2))) (ct:A8 H bt 6=some (.string rel))
  (k0:w.cell? ⟨wb,0,none⟩=some (Ab bl)) (k1:w.cell? ⟨wb,1,none⟩=some (Ab br)) (ka:w.cell? ⟨wb,15,none⟩=some (.iface 185 (.pointer (some ⟨ha,0,none⟩))))
  (hD:∀w1,Bw w w1→Calls Tryz.prog 277 #[.pointer (some ⟨wb,0,none⟩)] w1 (fun e w2=>e= .returned (.tuple #[])∧Q w1 w2)):
  Calls Tryz.prog 278 #[.pointer (some ⟨wb,0,none⟩), .pointer (some ⟨bt,0,none⟩)] w (fun e w2=>e= .returned (.slice none 0 0)∧∃w1,Bw w w1∧Q w1 w2):=by
 have HI:=Lib.hid hi
 have HX:=Lib.hid (And.intro cx (And.intro hx (And.intro cy (And.intro hy ct))))
 have hll:l.length≤4294967296:=by have:=hx;simp only [RJ]at this;obtain⟨_,_,_,_,h,_⟩:=this;exact h
 have HK:=Lib.hid (And.intro k0 (And.intro k1 ka))
 have HD:=Lib.hid hD
 have hlt:=Ah ka
 have hz:((l.length:Int)==0)=false:=by have:¬(l.length:Int)=0:=(by omega);simpa using this
 have m1:=fun w=>Du a l.length c w
 have m7:=fun a w=>Bq a w
 unfold An at hrel
 clear hi cx hx cy hy ct hD hl
 go_enter_defers Tryz.func278,Tryz.ntmps278
 go_wp2_with fail
 refine(DO l H bl wb ha a c _ w HI.out HX.out.1 HX.out.2.1 ka).mono ?_
 rintro _ wa ⟨rfl,hwa⟩
 have HBa:=Lib.hid hwa
 have l0:=cell_later hwa k0
 have l1:=cell_later hwa k1
 have la:=cell_later hwa ka
 have hla:=Ah la
 clear k0 k1 ka hwa
 go_wp2_with fail
 refine(DO r H br wb ha a2 c2 _ wa (HI.out.below HBa.out) HX.out.2.2.1 HX.out.2.2.2.1 la).mono ?_
 rintro _ wc ⟨rfl,hwc⟩
 have HBc:=Lib.hid (Bw.tr HBa.out hwc)
 have la':=cell_later hwc la
 have hlc:=Ah la'
 clear l0 l1 la hwc
 go_wp2_with fail
 refine(Dh a l.length c wc).mono ?_
 rintro _ wd ⟨rfl,hwd⟩
 have HBd:=Lib.hid (Bw.tr HBc.out hwd)
 have kt:=(HI.out.below HBd.out).cell HX.out.2.2.2.2
 clear la' hwd
 go_wp2_with fail
 refine(HD.out wd HBd.out).mono ?_
 rintro _ we ⟨rfl,hq⟩
 have HQ:=Lib.hid hq
 clear hq kt
 go_wp2_with fail
 refine leaves_cons (f:=274) (args:= #[.pointer (some ⟨ha,0,none⟩), .iface 445 (.slice a2 r.length c2)]) (by simp) (by simp [go_sem,m7]) ?_
 refine(Bn _ _ _ _).mono ?_
 rintro _ _ _ ⟨rfl,rfl,rfl⟩
 refine leaves_cons (f:=274) (args:= #[.pointer (some ⟨ha,0,none⟩), .iface 445 (.slice a l.length c)]) (by simp [settle]) (by simp [go_sem,m7]) ?_
 refine(Bn _ _ _ _).mono ?_
 rintro _ _ _ ⟨rfl,rfl,rfl⟩
 exact⟨.slice none 0 0,(by simp [results,Tryz.results278,go_sem]),rfl,wd,HBd.out,HQ.out⟩
theorem typedmerge_doMapA (ks ks2:List ByteArray)(vs vs2:List JT)(hl:0<ks.length)(H:Hp)(bl br wb bt ha r r2:Nat)(rel:ByteArray)(hrel:(rel.toList==An)=true)(w:World)(Q:World→World→Prop)(hi:Imm H w)
  (cx:A8 H bl 0=some (.iface 190 (.map (some r)))) (hx:RJ H (.map ks vs) (.iface 190 (.map (some r))))
  (cy:A8 H br 0=some (.iface 190 (.map (some r2)))) (hy:RJ H (.map ks2 vs2) (.iface 190 (.map (some r2)))) (ct:A8 H bt 8=some (.string rel))
  (k0:w.cell? ⟨wb,0,none⟩=some (Ab bl)) (k1:w.cell? ⟨wb,1,none⟩=some (Ab br)) (ka:w.cell? ⟨wb,15,none⟩=some (.iface 185 (.pointer (some ⟨ha,0,none⟩))))
  (hD:∀w1,Bw w w1→Calls Tryz.prog 277 #[.pointer (some ⟨wb,0,none⟩)] w1 (fun e w2=>e= .returned (.tuple #[])∧Q w1 w2)):
  Calls Tryz.prog 279 #[.pointer (some ⟨wb,0,none⟩), .pointer (some ⟨bt,0,none⟩)] w (fun e w2=>e= .returned (.slice none 0 0)∧∃w1,Bw w w1∧Q w1 w2):=by
 have HI:=Lib.hid hi
 have HX:=Lib.hid (And.intro cx (And.intro hx (And.intro cy (And.intro hy ct))))
 obtain⟨r',es,ck,e,hm⟩:=hx.mapAt
 cases e
 have HM:=Lib.hid hm
 have hll:ks.length≤4294967296:=hm.lim_
 have HD:=Lib.hid hD
 have hlt:=Ah ka
 have hz:((ks.length:Int)==0)=false:=by have:¬(ks.length:Int)=0:=(by omega);simpa using this
 have m1:=fun w=>DU (some r) w
 have m7:=fun a w=>Bq a w
 unfold An at hrel
 clear hi cx hx cy hy ct hD hl hm
 go_enter_defers Tryz.func279,Tryz.ntmps279
 go_wp2_with fail
 refine(Cf ks vs H bl wb ha r _ w HI.out HX.out.1 HX.out.2.1 ka).mono ?_
 rintro _ wa ⟨rfl,hwa⟩
 have HBa:=Lib.hid hwa
 have l0:=cell_later hwa k0
 have l1:=cell_later hwa k1
 have la:=cell_later hwa ka
 have hla:=Ah la
 clear k0 k1 ka hwa
 go_wp2_with fail
 refine(Cf ks2 vs2 H br wb ha r2 _ wa (HI.out.below HBa.out) HX.out.2.2.1 HX.out.2.2.2.1 la).mono ?_
 rintro _ wc ⟨rfl,hwc⟩
 have HBc:=Lib.hid (Bw.tr HBa.out hwc)
 have la':=cell_later hwc la
 have hlc:=Ah la'
 clear l0 l1 la hwc
 go_wp2_with fail
 refine(Eu HM.out wc (HI.out.below HBc.out)).mono ?_
 rintro _ wd ⟨rfl,hwd⟩
 have HBd:=Lib.hid (Bw.tr HBc.out hwd)
 have kt:=(HI.out.below HBd.out).cell HX.out.2.2.2.2
 clear la' hwd
 go_wp2_with fail
 refine(HD.out wd HBd.out).mono ?_
 rintro _ we ⟨rfl,hq⟩
 have HQ:=Lib.hid hq
 clear hq kt
 go_wp2_with fail
 refine leaves_cons (f:=274) (args:= #[.pointer (some ⟨ha,0,none⟩), .iface 446 (.map (some r2))]) (by simp) (by simp [go_sem,m7]) ?_
 refine(Bn _ _ _ _).mono ?_
 rintro _ _ _ ⟨rfl,rfl,rfl⟩
 refine leaves_cons (f:=274) (args:= #[.pointer (some ⟨ha,0,none⟩), .iface 446 (.map (some r))]) (by simp [settle]) (by simp [go_sem,m7]) ?_
 refine(Bn _ _ _ _).mono ?_
 rintro _ _ _ ⟨rfl,rfl,rfl⟩
 exact⟨.slice none 0 0,(by simp [results,Tryz.results279,go_sem]),rfl,wd,HBd.out,HQ.out⟩
theorem Dn (l:List JT)(H:Hp)(bx wb ha:Nat)(a:Option Addr)(c:Nat)(pre:ByteArray)(w:World)(hi:Imm H w)(cx:A8 H bx 0=some (.iface 189 (.slice a l.length c)))(hx:RJ H (.list l) (.iface 189 (.slice a l.length c)))
  (ka:w.cell? ⟨wb,13,none⟩=some (.iface 185 (.pointer (some ⟨ha,0,none⟩)))):
  Calls Tryz.prog 204 #[.pointer (some ⟨wb,0,none⟩), .string pre,Ab bx] w (Pur w (.tuple #[.iface 445 (.slice a l.length c), .slice none 0 0])):=by
 have HC:=Lib.hid (fun A=>Fd l H bx a c A w hi cx hx)
 have hlt:=Ah ka
 clear hi cx hx
 go_enter Tryz.func204,Tryz.ntmps204
 go_wp2_with fail
 refine(HC.out _).mono ?_
 rintro _ w1 ⟨rfl,hb1⟩
 go_wp2_with fail
 go_ret2
 exact⟨rfl,hb1⟩
theorem C4 (ks:List ByteArray)(vs:List JT)(H:Hp)(bx wb ha r:Nat)(pre:ByteArray)(w:World)(hi:Imm H w)(cx:A8 H bx 0=some (.iface 190 (.map (some r))))(hx:RJ H (.map ks vs) (.iface 190 (.map (some r))))
  (ka:w.cell? ⟨wb,13,none⟩=some (.iface 185 (.pointer (some ⟨ha,0,none⟩)))):
  Calls Tryz.prog 207 #[.pointer (some ⟨wb,0,none⟩), .string pre,Ab bx] w (Pur w (.tuple #[.iface 446 (.map (some r)), .slice none 0 0])):=by
 have HC:=Lib.hid (fun A=>typedcompare_mapValue ks vs H bx r A w hi cx hx)
 have hlt:=Ah ka
 clear hi cx hx
 go_enter Tryz.func207,Tryz.ntmps207
 go_wp2_with fail
 refine(HC.out _).mono ?_
 rintro _ w1 ⟨rfl,hb1⟩
 go_wp2_with fail
 go_ret2
 exact⟨rfl,hb1⟩
theorem typedcompare_doListA (l r:List JT)(hl:0<l.length)(H:Hp)(bl br wb bt ha:Nat)(a a2:Option Addr)(c c2:Nat)(rel:ByteArray)(hrel:(rel.toList==An)=true)(w:World)(Q:World→World→Prop)(hi:Imm H w)
  (cx:A8 H bl 0=some (.iface 189 (.slice a l.length c))) (hx:RJ H (.list l) (.iface 189 (.slice a l.length c)))
  (cy:A8 H br 0=some (.iface 189 (.slice a2 r.length c2))) (hy:RJ H (.list r) (.iface 189 (.slice a2 r.length c2))) (ct:A8 H bt 6=some (.string rel))
  (k0:w.cell? ⟨wb,0,none⟩=some (Ab bl)) (k1:w.cell? ⟨wb,1,none⟩=some (Ab br)) (ka:w.cell? ⟨wb,13,none⟩=some (.iface 185 (.pointer (some ⟨ha,0,none⟩))))
  (hD:∀w1,Bw w w1→Calls Tryz.prog 200 #[.pointer (some ⟨wb,0,none⟩)] w1 (fun e w2=>e= .returned (.tuple #[])∧Q w1 w2)):
  Calls Tryz.prog 201 #[.pointer (some ⟨wb,0,none⟩), .pointer (some ⟨bt,0,none⟩)] w (fun e w2=>e= .returned (.slice none 0 0)∧∃w1,Bw w w1∧Q w1 w2):=by
 have HI:=Lib.hid hi
 have HX:=Lib.hid (And.intro cx (And.intro hx (And.intro cy (And.intro hy ct))))
 have hll:l.length≤4294967296:=by have:=hx;simp only [RJ]at this;obtain⟨_,_,_,_,h,_⟩:=this;exact h
 have HK:=Lib.hid (And.intro k0 (And.intro k1 ka))
 have HD:=Lib.hid hD
 have hlt:=Ah ka
 have hz:((l.length:Int)==0)=false:=by have:¬(l.length:Int)=0:=(by omega);simpa using this
 have m1:=fun w=>Du a l.length c w
 have m7:=fun a w=>Bq a w
 unfold An at hrel
 clear hi cx hx cy hy ct hD hl
 go_enter_defers Tryz.func201,Tryz.ntmps201
 go_wp2_with fail
 refine(Dn l H bl wb ha a c _ w HI.out HX.out.1 HX.out.2.1 ka).mono ?_
 rintro _ wa ⟨rfl,hwa⟩
 have HBa:=Lib.hid hwa
 have l0:=cell_later hwa k0
 have l1:=cell_later hwa k1
 have la:=cell_later hwa ka
 have hla:=Ah la
 clear k0 k1 ka hwa
 go_wp2_with fail
 refine(Dn r H br wb ha a2 c2 _ wa (HI.out.below HBa.out) HX.out.2.2.1 HX.out.2.2.2.1 la).mono ?_
 rintro _ wc ⟨rfl,hwc⟩
 have HBc:=Lib.hid (Bw.tr HBa.out hwc)
 have la':=cell_later hwc la
 have hlc:=Ah la'
 clear l0 l1 la hwc
 go_wp2_with fail
 refine(Dh a l.length c wc).mono ?_
 rintro _ wd ⟨rfl,hwd⟩
 have HBd:=Lib.hid (Bw.tr HBc.out hwd)
 have kt:=(HI.out.below HBd.out).cell HX.out.2.2.2.2
 clear la' hwd
 go_wp2_with fail
 refine(HD.out wd HBd.out).mono ?_
 rintro _ we ⟨rfl,hq⟩
 have HQ:=Lib.hid hq
 clear hq kt
 go_wp2_with fail
 refine leaves_cons (f:=274) (args:= #[.pointer (some ⟨ha,0,none⟩), .iface 445 (.slice a2 r.length c2)]) (by simp) (by simp [go_sem,m7]) ?_
 refine(Bn _ _ _ _).mono ?_
 rintro _ _ _ ⟨rfl,rfl,rfl⟩
 refine leaves_cons (f:=274) (args:= #[.pointer (some ⟨ha,0,none⟩), .iface 445 (.slice a l.length c)]) (by simp [settle]) (by simp [go_sem,m7]) ?_
 refine(Bn _ _ _ _).mono ?_
 rintro _ _ _ ⟨rfl,rfl,rfl⟩
 exact⟨.slice none 0 0,(by simp [results,Tryz.results201,go_sem]),rfl,wd,HBd.out,HQ.out⟩
theorem typedcompare_doMapA (ks ks2:List ByteArray)(vs vs2:List JT)(hl:0<ks.length)(H:Hp)(bl br wb bt ha r r2:Nat)(rel:ByteArray)(hrel:(rel.toList==An)=true)(w:World)(Q:World→World→Prop)(hi:Imm H w)
  (cx:A8 H bl 0=some (.iface 190 (.map (some r)))) (hx:RJ H (.map ks vs) (.iface 190 (.map (some r))))
  (cy:A8 H br 0=some (.iface 190 (.map (some r2)))) (hy:RJ H (.map ks2 vs2) (.iface 190 (.map (some r2)))) (ct:A8 H bt 8=some (.string rel))
  (k0:w.cell? ⟨wb,0,none⟩=some (Ab bl)) (k1:w.cell? ⟨wb,1,none⟩=some (Ab br)) (ka:w.cell? ⟨wb,13,none⟩=some (.iface 185 (.pointer (some ⟨ha,0,none⟩))))
  (hD:∀w1,Bw w w1→Calls Tryz.prog 200 #[.pointer (some ⟨wb,0,none⟩)] w1 (fun e w2=>e= .returned (.tuple #[])∧Q w1 w2)):
  Calls Tryz.prog 202 #[.pointer (some ⟨wb,0,none⟩), .pointer (some ⟨bt,0,none⟩)] w (fun e w2=>e= .returned (.slice none 0 0)∧∃w1,Bw w w1∧Q w1 w2):=by
 have HI:=Lib.hid hi
 have HX:=Lib.hid (And.intro cx (And.intro hx (And.intro cy (And.intro hy ct))))
 obtain⟨r',es,ck,e,hm⟩:=hx.mapAt
 cases e
 have HM:=Lib.hid hm
 have hll:ks.length≤4294967296:=hm.lim_
 have HD:=Lib.hid hD
 have hlt:=Ah ka
 have hz:((ks.length:Int)==0)=false:=by have:¬(ks.length:Int)=0:=(by omega);simpa using this
 have m1:=fun w=>DU (some r) w
 have m7:=fun a w=>Bq a w
 unfold An at hrel
 clear hi cx hx cy hy ct hD hl hm
 go_enter_defers Tryz.func202,Tryz.ntmps202
 go_wp2_with fail
 refine(C4 ks vs H bl wb ha r _ w HI.out HX.out.1 HX.out.2.1 ka).mono ?_
 rintro _ wa ⟨rfl,hwa⟩
 have HBa:=Lib.hid hwa
 have l0:=cell_later hwa k0
 have l1:=cell_later hwa k1
 have la:=cell_later hwa ka
 have hla:=Ah la
 clear k0 k1 ka hwa
 go_wp2_with fail
 refine(C4 ks2 vs2 H br wb ha r2 _ wa (HI.out.below HBa.out) HX.out.2.2.1 HX.out.2.2.2.1 la).mono ?_
 rintro _ wc ⟨rfl,hwc⟩
 have HBc:=Lib.hid (Bw.tr HBa.out hwc)
 have la':=cell_later hwc la
 have hlc:=Ah la'
 clear l0 l1 la hwc
 go_wp2_with fail
 refine(Eu HM.out wc (HI.out.below HBc.out)).mono ?_
 rintro _ wd ⟨rfl,hwd⟩
 have HBd:=Lib.hid (Bw.tr HBc.out hwd)
 have kt:=(HI.out.below HBd.out).cell HX.out.2.2.2.2
 clear la' hwd
 go_wp2_with fail
 refine(HD.out wd HBd.out).mono ?_
 rintro _ we ⟨rfl,hq⟩
 have HQ:=Lib.hid hq
 clear hq kt
 go_wp2_with fail
 refine leaves_cons (f:=274) (args:= #[.pointer (some ⟨ha,0,none⟩), .iface 446 (.map (some r2))]) (by simp) (by simp [go_sem,m7]) ?_
 refine(Bn _ _ _ _).mono ?_
 rintro _ _ _ ⟨rfl,rfl,rfl⟩
 refine leaves_cons (f:=274) (args:= #[.pointer (some ⟨ha,0,none⟩), .iface 446 (.map (some r))]) (by simp [settle]) (by simp [go_sem,m7]) ?_
 refine(Bn _ _ _ _).mono ?_
 rintro _ _ _ ⟨rfl,rfl,rfl⟩
 exact⟨.slice none 0 0,(by simp [results,Tryz.results202,go_sem]),rfl,wd,HBd.out,HQ.out⟩
end
end Go.Proofs.YtmghkmhgpmcoaaaGreat
