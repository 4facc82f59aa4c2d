/- What the claim's theorem 'proved' rests on: EquA, EquB. -/
import Derived.Test.YtmghkmhgpmcoaaaGreatP12
set_option linter.unusedVariables false
set_option linter.unusedSimpArgs false
set_option maxRecDepth 100000
set_option maxHeartbeats 10000000
namespace Go.Proofs.YtmghkmhgpmcoaaaGreat
section
open Go Go.RowKit
theorem isInt_get {H:Hp}{t:JT}{x:Value}(h:t.isInt=true)(hx:RJ H t x):∃n,t= .int n∧x= .iface 2 (.int .i64 n):=by
 cases t<;>simp [JT.isInt]at h;simp only [RJ]at hx;exact⟨_,rfl,hx.1⟩
theorem isFlt_get {H:Hp}{t:JT}{x:Value}(h:t.isFlt=true)(hx:RJ H t x):∃n,t= .flt n∧x= .iface 31 (.float .f64 n):=by
 cases t<;>simp [JT.isFlt]at h;simp only [RJ]at hx;exact⟨_,rfl,hx.1⟩
theorem isStr_get {H:Hp}{t:JT}{x:Value}(h:t.isStr=true)(hx:RJ H t x):∃n,t= .str n∧x= .iface 9 (.string n):=by
 cases t<;>simp [JT.isStr]at h;simp only [RJ]at hx;exact⟨_,rfl,hx.1⟩
theorem isBool_get {H:Hp}{t:JT}{x:Value}(h:t.isBool=true)(hx:RJ H t x):∃n,t= .bool n∧x= .iface 4 (.bool n):=by
 cases t<;>simp [JT.isBool]at h;simp only [RJ]at hx;exact⟨_,rfl,hx⟩
def CEqu (t u:JT):Prop:=∀(H:Hp) (ha bx bY:Nat) (x y:Value) (w:World),Imm H w→A8 H bx 0=some x→A8 H bY 0=some y→RJ H t x→RJ H u y→
 Calls Tryz.prog 206 #[.iface 185 (.pointer (some ⟨ha,0,none⟩)), .iface 184 (.pointer (some ⟨bx,0,none⟩)), .iface 184 (.pointer (some ⟨bY,0,none⟩))] w (Pur w (.bool (eqJ t u)))
theorem equ_flt (t u:JT)(hf:t.isFlt=true∨u.isFlt=true):CEqu t u:=by
 intro H ha bx bY x y w hi cx cy hx hy
 have kx:=hi.cell cx
 have ky:=hi.cell cy
 replace hx:=Lib.hid hx
 replace hy:=Lib.hid hy
 have hiw:=hi
 have hBw:Bw w w:=Bw.rfl
 clear hi
 go_enter_defers Tryz.func206,Tryz.ntmps206
 cases htF:t.isFlt
 ·have huF:u.isFlt=true:=by rcases hf with h|h;(rw [htF]at h;cases h);exact h
  obtain⟨b,rfl,rfl⟩:=isFlt_get huF hy.out
  have mm:=Af kx
  have CC:=AA t H _ w hx.out
  rw [htF]at CC
  go_wp2_with fail
  refine CC.mono ?_
  rintro _ wa ⟨rfl,hwa⟩
  clear mm kx ky CC
  have hiwa:=hiw.below hwa
  have hBwa:=hBw.tr hwa
  have kx:=hiwa.cell cx
  have ky:=hiwa.cell cy
  clear hwa
  have mm:=Af ky
  have CC:=AA (.flt b) H _ wa hy.out
  rw [huF]at CC
  go_wp2_with fail
  refine CC.mono ?_
  rintro _ wb ⟨rfl,hwb⟩
  clear mm kx ky CC
  have hiwb:=hiwa.below hwb
  have hBwb:=hBwa.tr hwb
  have kx:=hiwb.cell cx
  have ky:=hiwb.cell cy
  clear hwb
  have mm:=Af kx
  have CC:=AA t H _ wb hx.out
  rw [htF]at CC
  go_wp2_with fail
  refine CC.mono ?_
  rintro _ wc ⟨rfl,hwc⟩
  clear mm kx ky CC
  have hiwc:=hiwb.below hwc
  have hBwc:=hBwb.tr hwc
  have kx:=hiwc.cell cx
  have ky:=hiwc.cell cy
  clear hwc
  cases htI:t.isInt
  ·have mm:=Aq kx
   have CC:=AM t H _ wc hx.out
   rw [htI]at CC
   go_wp2_with fail
   refine CC.mono ?_
   rintro _ wd ⟨rfl,hwd⟩
   clear mm kx ky CC
   have hiwd:=hiwc.below hwd
   have hBwd:=hBwc.tr hwd
   have kx:=hiwd.cell cx
   have ky:=hiwd.cell cy
   clear hwd
   go_wp2_with fail
   exact⟨.bool (false),(by simp [results,Tryz.results206,go_sem,BZ,toF]),congrArg (fun z=>Ending.returned (.bool z)) ((eqJ_fltL htF rfl htI).symm),hBwd⟩
  ·obtain⟨a,rfl,rfl⟩:=isInt_get htI hx.out
   have mm:=Aq kx
   have CC:=AM (.int a) H _ wc hx.out
   rw [htI]at CC
   go_wp2_with fail
   refine CC.mono ?_
   rintro _ wd ⟨rfl,hwd⟩
   clear mm kx ky CC
   have hiwd:=hiwc.below hwd
   have hBwd:=hBwc.tr hwd
   have kx:=hiwd.cell cx
   have ky:=hiwd.cell cy
   clear hwd
   have mm:=Fo kx
   go_wp2_with fail
   refine(asInt_c a wd).mono ?_
   rintro _ we ⟨rfl,hwe⟩
   clear mm kx ky
   have hiwe:=hiwd.below hwe
   have hBwe:=hBwd.tr hwe
   have kx:=hiwe.cell cx
   have ky:=hiwe.cell cy
   clear hwe
   have mm:=Af ky
   have CC:=AA (.flt b) H _ we hy.out
   rw [huF]at CC
   go_wp2_with fail
   refine CC.mono ?_
   rintro _ wf ⟨rfl,hwf⟩
   clear mm kx ky CC
   have hiwf:=hiwe.below hwf
   have hBwf:=hBwe.tr hwf
   have kx:=hiwf.cell cx
   have ky:=hiwf.cell cy
   clear hwf
   have mm:=Fp ky
   go_wp2_with fail
   refine(asFlt_c b wf).mono ?_
   rintro _ wg ⟨rfl,hwg⟩
   clear mm kx ky
   have hiwg:=hiwf.below hwg
   have hBwg:=hBwf.tr hwg
   have kx:=hiwg.cell cx
   have ky:=hiwg.cell cy
   clear hwg
   go_wp2_with fail
   exact⟨.bool (BZ (toF a) b),(by simp [results,Tryz.results206,go_sem,BZ,toF]),congrArg (fun z=>Ending.returned (.bool z)) (by simp only [eqJ]),hBwg⟩
 ·obtain⟨a,rfl,rfl⟩:=isFlt_get htF hx.out
  have mm:=Af kx
  have CC:=AA (.flt a) H _ w hx.out
  rw [htF]at CC
  go_wp2_with fail
  refine CC.mono ?_
  rintro _ wa ⟨rfl,hwa⟩
  clear mm kx ky CC
  have hiwa:=hiw.below hwa
  have hBwa:=hBw.tr hwa
  have kx:=hiwa.cell cx
  have ky:=hiwa.cell cy
  clear hwa
  have mm:=Af kx
  have CC:=AA (.flt a) H _ wa hx.out
  rw [htF]at CC
  go_wp2_with fail
  refine CC.mono ?_
  rintro _ wb ⟨rfl,hwb⟩
  clear mm kx ky CC
  have hiwb:=hiwa.below hwb
  have hBwb:=hBwa.tr hwb
  have kx:=hiwb.cell cx
  have ky:=hiwb.cell cy
  clear hwb
  have mm:=Fp kx
  go_wp2_with fail
  refine(asFlt_c a wb).mono ?_
  rintro _ wc ⟨rfl,hwc⟩
  clear mm kx ky
  have hiwc:=hiwb.below hwc
  have hBwc:=hBwb.tr hwc
  have kx:=hiwc.cell cx
  have ky:=hiwc.cell cy
  clear hwc
  cases huF:u.isFlt
  ·have mm:=Af ky
   have CC:=AA u H _ wc hy.out
   rw [huF]at CC
   go_wp2_with fail
   refine CC.mono ?_
   rintro _ wd ⟨rfl,hwd⟩
   clear mm kx ky CC
   have hiwd:=hiwc.below hwd
   have hBwd:=hBwc.tr hwd
   have kx:=hiwd.cell cx
   have ky:=hiwd.cell cy
   clear hwd
   cases huI:u.isInt
   ·have mm:=Aq ky
    have CC:=AM u H _ wd hy.out
    rw [huI]at CC
    go_wp2_with fail
    refine CC.mono ?_
    rintro _ we ⟨rfl,hwe⟩
    clear mm kx ky CC
    have hiwe:=hiwd.below hwe
    have hBwe:=hBwd.tr hwe
    have kx:=hiwe.cell cx
    have ky:=hiwe.cell cy
    clear hwe
    go_wp2_with fail
    exact⟨.bool (false),(by simp [results,Tryz.results206,go_sem,BZ,toF]),congrArg (fun z=>Ending.returned (.bool z)) ((eqJ_fltR rfl huF huI).symm),hBwe⟩
   ·obtain⟨b,rfl,rfl⟩:=isInt_get huI hy.out
    have mm:=Aq ky
    have CC:=AM (.int b) H _ wd hy.out
    rw [huI]at CC
    go_wp2_with fail
    refine CC.mono ?_
    rintro _ we ⟨rfl,hwe⟩
    clear mm kx ky CC
    have hiwe:=hiwd.below hwe
    have hBwe:=hBwd.tr hwe
    have kx:=hiwe.cell cx
    have ky:=hiwe.cell cy
    clear hwe
    have mm:=Fo ky
    go_wp2_with fail
    refine(asInt_c b we).mono ?_
    rintro _ wf ⟨rfl,hwf⟩
    clear mm kx ky
    have hiwf:=hiwe.below hwf
    have hBwf:=hBwe.tr hwf
    have kx:=hiwf.cell cx
    have ky:=hiwf.cell cy
    clear hwf
    go_wp2_with fail
    exact⟨.bool (BZ a (toF b)),(by simp [results,Tryz.results206,go_sem,BZ,toF]),congrArg (fun z=>Ending.returned (.bool z)) (by simp only [eqJ]),hBwf⟩
  ·obtain⟨b,rfl,rfl⟩:=isFlt_get huF hy.out
   have mm:=Af ky
   have CC:=AA (.flt b) H _ wc hy.out
   rw [huF]at CC
   go_wp2_with fail
   refine CC.mono ?_
   rintro _ wd ⟨rfl,hwd⟩
   clear mm kx ky CC
   have hiwd:=hiwc.below hwd
   have hBwd:=hBwc.tr hwd
   have kx:=hiwd.cell cx
   have ky:=hiwd.cell cy
   clear hwd
   have mm:=Fp ky
   go_wp2_with fail
   refine(asFlt_c b wd).mono ?_
   rintro _ we ⟨rfl,hwe⟩
   clear mm kx ky
   have hiwe:=hiwd.below hwe
   have hBwe:=hBwd.tr hwe
   have kx:=hiwe.cell cx
   have ky:=hiwe.cell cy
   clear hwe
   go_wp2_with fail
   exact⟨.bool (BZ a b),(by simp [results,Tryz.results206,go_sem,BZ,toF]),congrArg (fun z=>Ending.returned (.bool z)) (by simp only [eqJ]),hBwe⟩
end
section
open Go Go.RowKit
theorem equ_rest (t u:JT)(htFlt:t.isFlt=false)(huFlt:u.isFlt=false)(hList:¬(t.isList=true∧u.isList=true))(hMap:¬(t.isMap=true∧u.isMap=true)):CEqu t u:=by
 intro H ha bx bY x y w hi cx cy hx hy
 have kx:=hi.cell cx
 have ky:=hi.cell cy
 replace hx:=Lib.hid hx
 replace hy:=Lib.hid hy
 have hiw:=hi
 have hBw:Bw w w:=Bw.rfl
 clear hi
 go_enter_defers Tryz.func206,Tryz.ntmps206
 have mm:=Af kx
 have CC:=AA t H _ w hx.out
 rw [htFlt]at CC
 go_wp2_with fail
 refine CC.mono ?_
 rintro _ wa ⟨rfl,hwa⟩
 clear mm kx ky CC
 have hiwa:=hiw.below hwa
 have hBwa:=hBw.tr hwa
 have kx:=hiwa.cell cx
 have ky:=hiwa.cell cy
 clear hwa
 have mm:=Af ky
 have CC:=AA u H _ wa hy.out
 rw [huFlt]at CC
 go_wp2_with fail
 refine CC.mono ?_
 rintro _ wb ⟨rfl,hwb⟩
 clear mm kx ky CC
 have hiwb:=hiwa.below hwb
 have hBwb:=hBwa.tr hwb
 have kx:=hiwb.cell cx
 have ky:=hiwb.cell cy
 clear hwb
 cases htInt:t.isInt
 ·skip
  have mm:=Aq kx
  have CC:=AM t H _ wb hx.out
  rw [htInt]at CC
  go_wp2_with fail
  refine CC.mono ?_
  rintro _ wc ⟨rfl,hwc⟩
  clear mm kx ky CC
  have hiwc:=hiwb.below hwc
  have hBwc:=hBwb.tr hwc
  have kx:=hiwc.cell cx
  have ky:=hiwc.cell cy
  clear hwc
  cases huInt:u.isInt
  ·skip
   have mm:=Aq ky
   have CC:=AM u H _ wc hy.out
   rw [huInt]at CC
   go_wp2_with fail
   refine CC.mono ?_
   rintro _ wd ⟨rfl,hwd⟩
   clear mm kx ky CC
   have hiwd:=hiwc.below hwd
   have hBwd:=hBwc.tr hwd
   have kx:=hiwd.cell cx
   have ky:=hiwd.cell cy
   clear hwd
   cases htStr:t.isStr
   ·skip
    have mm:=Ao kx
    have CC:=B5 t H _ wd hx.out
    rw [htStr]at CC
    go_wp2_with fail
    refine CC.mono ?_
    rintro _ we ⟨rfl,hwe⟩
    clear mm kx ky CC
    have hiwe:=hiwd.below hwe
    have hBwe:=hBwd.tr hwe
    have kx:=hiwe.cell cx
    have ky:=hiwe.cell cy
    clear hwe
    cases huStr:u.isStr
    ·skip
     have mm:=Ao ky
     have CC:=B5 u H _ we hy.out
     rw [huStr]at CC
     go_wp2_with fail
     refine CC.mono ?_
     rintro _ wf ⟨rfl,hwf⟩
     clear mm kx ky CC
     have hiwf:=hiwe.below hwf
     have hBwf:=hBwe.tr hwf
     have kx:=hiwf.cell cx
     have ky:=hiwf.cell cy
     clear hwf
     cases htBool:t.isBool
     ·skip
      have mm:=AD kx
      have CC:=B6 t H _ wf hx.out
      rw [htBool]at CC
      go_wp2_with fail
      refine CC.mono ?_
      rintro _ wg ⟨rfl,hwg⟩
      clear mm kx ky CC
      have hiwg:=hiwf.below hwg
      have hBwg:=hBwf.tr hwg
      have kx:=hiwg.cell cx
      have ky:=hiwg.cell cy
      clear hwg
      cases huBool:u.isBool
      ·skip
       have mm:=AD ky
       have CC:=B6 u H _ wg hy.out
       rw [huBool]at CC
       go_wp2_with fail
       refine CC.mono ?_
       rintro _ wh ⟨rfl,hwh⟩
       clear mm kx ky CC
       have hiwh:=hiwg.below hwh
       have hBwh:=hBwg.tr hwh
       have kx:=hiwh.cell cx
       have ky:=hiwh.cell cy
       clear hwh
       cases htList:t.isList
       ·skip
        have mm:=AT kx
        have CC:=Bx t H _ wh hx.out
        rw [htList]at CC
        go_wp2_with fail
        refine CC.mono ?_
        rintro _ wi ⟨rfl,hwi⟩
        clear mm kx ky CC
        have hiwi:=hiwh.below hwi
        have hBwi:=hBwh.tr hwi
        have kx:=hiwi.cell cx
        have ky:=hiwi.cell cy
        clear hwi
        cases huList:u.isList
        ·skip
         have mm:=AT ky
         have CC:=Bx u H _ wi hy.out
         rw [huList]at CC
         go_wp2_with fail
         refine CC.mono ?_
         rintro _ wj ⟨rfl,hwj⟩
         clear mm kx ky CC
         have hiwj:=hiwi.below hwj
         have hBwj:=hBwi.tr hwj
         have kx:=hiwj.cell cx
         have ky:=hiwj.cell cy
         clear hwj
         cases htMap:t.isMap
         ·skip
          have mm:=Bm kx
          have CC:=CH t H _ wj hx.out
          rw [htMap]at CC
          go_wp2_with fail
          refine CC.mono ?_
          rintro _ wk ⟨rfl,hwk⟩
          clear mm kx ky CC
          have hiwk:=hiwj.below hwk
          have hBwk:=hBwj.tr hwk
          have kx:=hiwk.cell cx
          have ky:=hiwk.cell cy
          clear hwk
          cases huMap:u.isMap
          ·skip
           have mm:=Bm ky
           have CC:=CH u H _ wk hy.out
           rw [huMap]at CC
           go_wp2_with fail
           refine CC.mono ?_
           rintro _ wl ⟨rfl,hwl⟩
           clear mm kx ky CC
           have hiwl:=hiwk.below hwl
           have hBwl:=hBwk.tr hwl
           have kx:=hiwl.cell cx
           have ky:=hiwl.cell cy
           clear hwl
           cases htNull:t.isNull
           ·skip
            have mm:=Aw kx
            have CC:=AU t H _ wl hx.out
            rw [htNull]at CC
            go_wp2_with fail
            refine CC.mono ?_
            rintro _ wm ⟨rfl,hwm⟩
            clear mm kx ky CC
            have hiwm:=hiwl.below hwm
            have hBwm:=hBwl.tr hwm
            have kx:=hiwm.cell cx
            have ky:=hiwm.cell cy
            clear hwm
            cases huNull:u.isNull
            ·skip
             have mm:=Aw ky
             have CC:=AU u H _ wm hy.out
             rw [huNull]at CC
             go_wp2_with fail
             refine CC.mono ?_
             rintro _ wn ⟨rfl,hwn⟩
             clear mm kx ky CC
             have hiwn:=hiwm.below hwn
             have hBwn:=hBwm.tr hwn
             have kx:=hiwn.cell cx
             have ky:=hiwn.cell cy
             clear hwn
             exact absurd htNull (by cases t<;>simp_all [JT.isFlt,JT.isInt,JT.isStr,JT.isBool,JT.isList,JT.isMap,JT.isNull])
            ·skip
             have mm:=Aw ky
             have CC:=AU u H _ wm hy.out
             rw [huNull]at CC
             go_wp2_with fail
             refine CC.mono ?_
             rintro _ wn ⟨rfl,hwn⟩
             clear mm kx ky CC
             have hiwn:=hiwm.below hwn
             have hBwn:=hBwm.tr hwn
             have kx:=hiwn.cell cx
             have ky:=hiwn.cell cy
             clear hwn
             go_wp2_with fail
             exact⟨.bool (false),(by simp [results,Tryz.results206,go_sem,BZ,toF]),congrArg (fun z=>Ending.returned (.bool z)) ((C7 htFlt huFlt (by simp [htNull,huNull])).symm),hBwn⟩
           ·skip
            have mm:=Aw kx
            have CC:=AU t H _ wl hx.out
            rw [htNull]at CC
            go_wp2_with fail
            refine CC.mono ?_
            rintro _ wm ⟨rfl,hwm⟩
            clear mm kx ky CC
            have hiwm:=hiwl.below hwm
            have hBwm:=hBwl.tr hwm
            have kx:=hiwm.cell cx
            have ky:=hiwm.cell cy
            clear hwm
            cases huNull:u.isNull
            ·skip
             have mm:=Aw ky
             have CC:=AU u H _ wm hy.out
             rw [huNull]at CC
             go_wp2_with fail
             refine CC.mono ?_
             rintro _ wn ⟨rfl,hwn⟩
             clear mm kx ky CC
             have hiwn:=hiwm.below hwn
             have hBwn:=hBwm.tr hwn
             have kx:=hiwn.cell cx
             have ky:=hiwn.cell cy
             clear hwn
             go_wp2_with fail
             exact⟨.bool (false),(by simp [results,Tryz.results206,go_sem,BZ,toF]),congrArg (fun z=>Ending.returned (.bool z)) ((C7 htFlt huFlt (by simp [htNull,huNull])).symm),hBwn⟩
            ·skip
             have mm:=Aw ky
             have CC:=AU u H _ wm hy.out
             rw [huNull]at CC
             go_wp2_with fail
             refine CC.mono ?_
             rintro _ wn ⟨rfl,hwn⟩
             clear mm kx ky CC
             have hiwn:=hiwm.below hwn
             have hBwn:=hBwm.tr hwn
             have kx:=hiwn.cell cx
             have ky:=hiwn.cell cy
             clear hwn
             go_wp2_with fail
             exact⟨.bool (true),(by simp [results,Tryz.results206,go_sem,BZ,toF]),congrArg (fun z=>Ending.returned (.bool z)) (by cases t<;>cases u<;>simp_all [JT.isNull,eqJ]),hBwn⟩
          ·skip
           have mm:=Bm ky
           have CC:=CH u H _ wk hy.out
           rw [huMap]at CC
           go_wp2_with fail
           refine CC.mono ?_
           rintro _ wl ⟨rfl,hwl⟩
           clear mm kx ky CC
           have hiwl:=hiwk.below hwl
           have hBwl:=hBwk.tr hwl
           have kx:=hiwl.cell cx
           have ky:=hiwl.cell cy
           clear hwl
           go_wp2_with fail
           exact⟨.bool (false),(by simp [results,Tryz.results206,go_sem,BZ,toF]),congrArg (fun z=>Ending.returned (.bool z)) ((C7 htFlt huFlt (by simp [htMap,huMap])).symm),hBwl⟩
         ·skip
          have mm:=Bm kx
          have CC:=CH t H _ wj hx.out
          rw [htMap]at CC
          go_wp2_with fail
          refine CC.mono ?_
          rintro _ wk ⟨rfl,hwk⟩
          clear mm kx ky CC
          have hiwk:=hiwj.below hwk
          have hBwk:=hBwj.tr hwk
          have kx:=hiwk.cell cx
          have ky:=hiwk.cell cy
          clear hwk
          cases huMap:u.isMap
          ·skip
           have mm:=Bm ky
           have CC:=CH u H _ wk hy.out
           rw [huMap]at CC
           go_wp2_with fail
           refine CC.mono ?_
           rintro _ wl ⟨rfl,hwl⟩
           clear mm kx ky CC
           have hiwl:=hiwk.below hwl
           have hBwl:=hBwk.tr hwl
           have kx:=hiwl.cell cx
           have ky:=hiwl.cell cy
           clear hwl
           go_wp2_with fail
           exact⟨.bool (false),(by simp [results,Tryz.results206,go_sem,BZ,toF]),congrArg (fun z=>Ending.returned (.bool z)) ((C7 htFlt huFlt (by simp [htMap,huMap])).symm),hBwl⟩
          ·skip
           exact absurd ⟨htMap,huMap⟩ hMap
        ·skip
         have mm:=AT ky
         have CC:=Bx u H _ wi hy.out
         rw [huList]at CC
         go_wp2_with fail
         refine CC.mono ?_
         rintro _ wj ⟨rfl,hwj⟩
         clear mm kx ky CC
         have hiwj:=hiwi.below hwj
         have hBwj:=hBwi.tr hwj
         have kx:=hiwj.cell cx
         have ky:=hiwj.cell cy
         clear hwj
         go_wp2_with fail
         exact⟨.bool (false),(by simp [results,Tryz.results206,go_sem,BZ,toF]),congrArg (fun z=>Ending.returned (.bool z)) ((C7 htFlt huFlt (by simp [htList,huList])).symm),hBwj⟩
       ·skip
        have mm:=AT kx
        have CC:=Bx t H _ wh hx.out
        rw [htList]at CC
        go_wp2_with fail
        refine CC.mono ?_
        rintro _ wi ⟨rfl,hwi⟩
        clear mm kx ky CC
        have hiwi:=hiwh.below hwi
        have hBwi:=hBwh.tr hwi
        have kx:=hiwi.cell cx
        have ky:=hiwi.cell cy
        clear hwi
        cases huList:u.isList
        ·skip
         have mm:=AT ky
         have CC:=Bx u H _ wi hy.out
         rw [huList]at CC
         go_wp2_with fail
         refine CC.mono ?_
         rintro _ wj ⟨rfl,hwj⟩
         clear mm kx ky CC
         have hiwj:=hiwi.below hwj
         have hBwj:=hBwi.tr hwj
         have kx:=hiwj.cell cx
         have ky:=hiwj.cell cy
         clear hwj
         go_wp2_with fail
         exact⟨.bool (false),(by simp [results,Tryz.results206,go_sem,BZ,toF]),congrArg (fun z=>Ending.returned (.bool z)) ((C7 htFlt huFlt (by simp [htList,huList])).symm),hBwj⟩
        ·skip
         exact absurd ⟨htList,huList⟩ hList
      ·skip
       have mm:=AD ky
       have CC:=B6 u H _ wg hy.out
       rw [huBool]at CC
       go_wp2_with fail
       refine CC.mono ?_
       rintro _ wh ⟨rfl,hwh⟩
       clear mm kx ky CC
       have hiwh:=hiwg.below hwh
       have hBwh:=hBwg.tr hwh
       have kx:=hiwh.cell cx
       have ky:=hiwh.cell cy
       clear hwh
       go_wp2_with fail
       exact⟨.bool (false),(by simp [results,Tryz.results206,go_sem,BZ,toF]),congrArg (fun z=>Ending.returned (.bool z)) ((C7 htFlt huFlt (by simp [htBool,huBool])).symm),hBwh⟩
     ·skip
      have mm:=AD kx
      have CC:=B6 t H _ wf hx.out
      rw [htBool]at CC
      go_wp2_with fail
      refine CC.mono ?_
      rintro _ wg ⟨rfl,hwg⟩
      clear mm kx ky CC
      have hiwg:=hiwf.below hwg
      have hBwg:=hBwf.tr hwg
      have kx:=hiwg.cell cx
      have ky:=hiwg.cell cy
      clear hwg
      cases huBool:u.isBool
      ·skip
       have mm:=AD ky
       have CC:=B6 u H _ wg hy.out
       rw [huBool]at CC
       go_wp2_with fail
       refine CC.mono ?_
       rintro _ wh ⟨rfl,hwh⟩
       clear mm kx ky CC
       have hiwh:=hiwg.below hwh
       have hBwh:=hBwg.tr hwh
       have kx:=hiwh.cell cx
       have ky:=hiwh.cell cy
       clear hwh
       go_wp2_with fail
       exact⟨.bool (false),(by simp [results,Tryz.results206,go_sem,BZ,toF]),congrArg (fun z=>Ending.returned (.bool z)) ((C7 htFlt huFlt (by simp [htBool,huBool])).symm),hBwh⟩
      ·skip
       have mm:=AD ky
       have CC:=B6 u H _ wg hy.out
       rw [huBool]at CC
       go_wp2_with fail
       refine CC.mono ?_
       rintro _ wh ⟨rfl,hwh⟩
       clear mm kx ky CC
       have hiwh:=hiwg.below hwh
       have hBwh:=hBwg.tr hwh
       have kx:=hiwh.cell cx
       have ky:=hiwh.cell cy
       clear hwh
       obtain⟨a,rfl,rfl⟩:=isBool_get htBool hx.out
       obtain⟨b,rfl,rfl⟩:=isBool_get huBool hy.out
       have mm:=meth_AsBool kx
       go_wp2_with fail
       refine(asBool_c a wh).mono ?_
       rintro _ wi ⟨rfl,hwi⟩
       clear mm kx ky
       have hiwi:=hiwh.below hwi
       have hBwi:=hBwh.tr hwi
       have kx:=hiwi.cell cx
       have ky:=hiwi.cell cy
       clear hwi
       have mm:=meth_AsBool ky
       go_wp2_with fail
       refine(asBool_c b wi).mono ?_
       rintro _ wj ⟨rfl,hwj⟩
       clear mm kx ky
       have hiwj:=hiwi.below hwj
       have hBwj:=hBwi.tr hwj
       have kx:=hiwj.cell cx
       have ky:=hiwj.cell cy
       clear hwj
       go_wp2_with fail
       exact⟨.bool (a==b),(by simp [results,Tryz.results206,go_sem,BZ,toF]),congrArg (fun z=>Ending.returned (.bool z)) (by simp only [eqJ]),hBwj⟩
    ·skip
     have mm:=Ao ky
     have CC:=B5 u H _ we hy.out
     rw [huStr]at CC
     go_wp2_with fail
     refine CC.mono ?_
     rintro _ wf ⟨rfl,hwf⟩
     clear mm kx ky CC
     have hiwf:=hiwe.below hwf
     have hBwf:=hBwe.tr hwf
     have kx:=hiwf.cell cx
     have ky:=hiwf.cell cy
     clear hwf
     go_wp2_with fail
     exact⟨.bool (false),(by simp [results,Tryz.results206,go_sem,BZ,toF]),congrArg (fun z=>Ending.returned (.bool z)) ((C7 htFlt huFlt (by simp [htStr,huStr])).symm),hBwf⟩
   ·skip
    have mm:=Ao kx
    have CC:=B5 t H _ wd hx.out
    rw [htStr]at CC
    go_wp2_with fail
    refine CC.mono ?_
    rintro _ we ⟨rfl,hwe⟩
    clear mm kx ky CC
    have hiwe:=hiwd.below hwe
    have hBwe:=hBwd.tr hwe
    have kx:=hiwe.cell cx
    have ky:=hiwe.cell cy
    clear hwe
    cases huStr:u.isStr
    ·skip
     have mm:=Ao ky
     have CC:=B5 u H _ we hy.out
     rw [huStr]at CC
     go_wp2_with fail
     refine CC.mono ?_
     rintro _ wf ⟨rfl,hwf⟩
     clear mm kx ky CC
     have hiwf:=hiwe.below hwf
     have hBwf:=hBwe.tr hwf
     have kx:=hiwf.cell cx
     have ky:=hiwf.cell cy
     clear hwf
     go_wp2_with fail
     exact⟨.bool (false),(by simp [results,Tryz.results206,go_sem,BZ,toF]),congrArg (fun z=>Ending.returned (.bool z)) ((C7 htFlt huFlt (by simp [htStr,huStr])).symm),hBwf⟩
    ·skip
     have mm:=Ao ky
     have CC:=B5 u H _ we hy.out
     rw [huStr]at CC
     go_wp2_with fail
     refine CC.mono ?_
     rintro _ wf ⟨rfl,hwf⟩
     clear mm kx ky CC
     have hiwf:=hiwe.below hwf
     have hBwf:=hBwe.tr hwf
     have kx:=hiwf.cell cx
     have ky:=hiwf.cell cy
     clear hwf
     obtain⟨a,rfl,rfl⟩:=isStr_get htStr hx.out
     obtain⟨b,rfl,rfl⟩:=isStr_get huStr hy.out
     have mm:=meth_AsString kx
     go_wp2_with fail
     refine(asStr_c a wf).mono ?_
     rintro _ wg ⟨rfl,hwg⟩
     clear mm kx ky
     have hiwg:=hiwf.below hwg
     have hBwg:=hBwf.tr hwg
     have kx:=hiwg.cell cx
     have ky:=hiwg.cell cy
     clear hwg
     have mm:=meth_AsString ky
     go_wp2_with fail
     refine(asStr_c b wg).mono ?_
     rintro _ wh ⟨rfl,hwh⟩
     clear mm kx ky
     have hiwh:=hiwg.below hwh
     have hBwh:=hBwg.tr hwh
     have kx:=hiwh.cell cx
     have ky:=hiwh.cell cy
     clear hwh
     go_wp2_with fail
     exact⟨.bool (a.toList==b.toList),(by simp [results,Tryz.results206,go_sem,BZ,toF]),congrArg (fun z=>Ending.returned (.bool z)) (by simp only [eqJ]),hBwh⟩
  ·skip
   have mm:=Aq ky
   have CC:=AM u H _ wc hy.out
   rw [huInt]at CC
   go_wp2_with fail
   refine CC.mono ?_
   rintro _ wd ⟨rfl,hwd⟩
   clear mm kx ky CC
   have hiwd:=hiwc.below hwd
   have hBwd:=hBwc.tr hwd
   have kx:=hiwd.cell cx
   have ky:=hiwd.cell cy
   clear hwd
   go_wp2_with fail
   exact⟨.bool (false),(by simp [results,Tryz.results206,go_sem,BZ,toF]),congrArg (fun z=>Ending.returned (.bool z)) ((C7 htFlt huFlt (by simp [htInt,huInt])).symm),hBwd⟩
 ·skip
  have mm:=Aq kx
  have CC:=AM t H _ wb hx.out
  rw [htInt]at CC
  go_wp2_with fail
  refine CC.mono ?_
  rintro _ wc ⟨rfl,hwc⟩
  clear mm kx ky CC
  have hiwc:=hiwb.below hwc
  have hBwc:=hBwb.tr hwc
  have kx:=hiwc.cell cx
  have ky:=hiwc.cell cy
  clear hwc
  cases huInt:u.isInt
  ·skip
   have mm:=Aq ky
   have CC:=AM u H _ wc hy.out
   rw [huInt]at CC
   go_wp2_with fail
   refine CC.mono ?_
   rintro _ wd ⟨rfl,hwd⟩
   clear mm kx ky CC
   have hiwd:=hiwc.below hwd
   have hBwd:=hBwc.tr hwd
   have kx:=hiwd.cell cx
   have ky:=hiwd.cell cy
   clear hwd
   go_wp2_with fail
   exact⟨.bool (false),(by simp [results,Tryz.results206,go_sem,BZ,toF]),congrArg (fun z=>Ending.returned (.bool z)) ((C7 htFlt huFlt (by simp [htInt,huInt])).symm),hBwd⟩
  ·skip
   have mm:=Aq ky
   have CC:=AM u H _ wc hy.out
   rw [huInt]at CC
   go_wp2_with fail
   refine CC.mono ?_
   rintro _ wd ⟨rfl,hwd⟩
   clear mm kx ky CC
   have hiwd:=hiwc.below hwd
   have hBwd:=hBwc.tr hwd
   have kx:=hiwd.cell cx
   have ky:=hiwd.cell cy
   clear hwd
   obtain⟨a,rfl,rfl⟩:=isInt_get htInt hx.out
   obtain⟨b,rfl,rfl⟩:=isInt_get huInt hy.out
   have mm:=Fo kx
   go_wp2_with fail
   refine(asInt_c a wd).mono ?_
   rintro _ we ⟨rfl,hwe⟩
   clear mm kx ky
   have hiwe:=hiwd.below hwe
   have hBwe:=hBwd.tr hwe
   have kx:=hiwe.cell cx
   have ky:=hiwe.cell cy
   clear hwe
   have mm:=Fo ky
   go_wp2_with fail
   refine(asInt_c b we).mono ?_
   rintro _ wf ⟨rfl,hwf⟩
   clear mm kx ky
   have hiwf:=hiwe.below hwf
   have hBwf:=hBwe.tr hwf
   have kx:=hiwf.cell cx
   have ky:=hiwf.cell cy
   clear hwf
   go_wp2_with fail
   exact⟨.bool (a==b),(by simp [results,Tryz.results206,go_sem,BZ,toF]),congrArg (fun z=>Ending.returned (.bool z)) (by simp only [eqJ]),hBwf⟩
end
end Go.Proofs.YtmghkmhgpmcoaaaGreat
