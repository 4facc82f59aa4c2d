/- The law laws.FnWholeParts answers true and leaves its arguments as they read before, at every argument. Conditions: the arguments' readings together hold at most 1048576 values and letters (the statement FnWholePartsUptoSaid); every order of evaluation that Go leaves open is covered. -/
import Derived.ReadAgain
import Derived.ChangeMaps5
import Derived.Test.YtmghkmhgpmcoaaaGreatP48
import Derived.Test.YtmghkmhgpmcoaaaGreatP49
set_option linter.unusedVariables false
set_option linter.unusedSimpArgs false
set_option maxRecDepth 100000
set_option maxHeartbeats 10000000
namespace Go.Proofs.YtmghkmhgpmcoaaaGreat
section
open Go Go.ChangeMaps Go.ChangeShapes Go.WideShapes Go.ChangeAt Go.RowKit Go.Proofs.YtmghkmhgpmcoaaaGreat
theorem own:ownKnob Tryz.prog.godebug=none:=by kernel_rfl
theorem kids:Kids Tryz.prog (· <Tryz.prog.types.size):=kids_rows (by kernel_rfl) (by kernel_rfl)
theorem full:∀t e,t<Tryz.prog.types.size→Tryz.prog.underlying t=some (.slice e)→0<Tryz.prog.cellsOf e:=slices_full_of Tryz.prog (by kernel_rfl)
theorem small {H:Type}{l:List (DataW H)}(hk:Rows.uptoSmall H l=true):Rows.uptoBulkAll l≤C5:=of_decide_eq_true hk
theorem trod_up {H:Type}{enc:TypeId × Value→H}{P:Program}{W W':World}(hB:Below W.heap.size W W'):∀{ts:List TypeId} {vs:List Value} {ds:List (DataW H)} {ps:List MemPlace},DataW.TrodAll enc P W 0 (fun _=>true) true ts vs ds ps→DataW.TrodAll enc P W' 0 (fun _=>true) true ts vs ds ps
 |[],[],[],_,h=>h
 |_::_,_::_,_::_,_,⟨p,q,⟨n,hn⟩,h2,e⟩=>⟨p,q,⟨n,DataW.trod_carry n _ _ _ hn (fun x hx=>hB.same (DataW.trod_lt n _ _ _ hn x hx))⟩,trod_up hB h2,e⟩
theorem Fe {t:TypeId}{L:List (TypeId × Nat)}{r:Reach}{W:World}{base:Nat}{v:Value}(hL:fieldsL (Tryz.prog.underlying t)=L)(hne:0<L.length)(hv:Value.okWide Tryz.prog W r base t v):∃cs,v= .agg cs:=by
 have hs:∃fs,Tryz.prog.underlying t=some (.struct fs):=by
  unfold fieldsL at hL
  split at hL
  ·rename_i fs hfs;exact⟨fs,hfs⟩
  ·subst hL;simp at hne
 obtain⟨fs,hs⟩:=hs
 obtain⟨cs,rfl,_⟩:=okWide_struct hs hv
 exact⟨cs,rfl⟩
theorem arr_eq {cs:Array Value}{l:List Value}(h:(Value.agg cs).cells.toList=l):Value.agg cs= .agg l.toArray:=by
 have h2:cs.toList=l:=h
 have h3:cs=l.toArray:=by rw [←h2,Array.toArray_toList]
 exact congrArg Value.agg h3
theorem contract (H:Type)(enc:TypeId × Value→H)(W:World)(base:Nat)(args:Array Value)(ds gs:List (DataW H))(before:List MemPlace)
  (hval:∀(j:Nat) t v,Tryz.f3.params[j]?=some t→args[j]?=some v→Value.okWide Tryz.prog W .any base t v)
  (hW:DataW.Whole enc Tryz.prog Tryz.f3.params.toList Rows.fnWholePartsSpec.vars false W args.toList ds gs before) (hk:Rows.uptoSmall H (ds++gs)=true):
  Calls Tryz.prog 3 args W fun e W'=>∃v,e= .returned v∧Rows.fnWholePartsSpec.post enc Tryz.prog Tryz.f3 false true false false W args v W':=by
 have hW':=hW
 obtain⟨p,q,hA0,hV,rfl,hfz,hnd⟩:=hW
 have hA:DataW.TrodAll enc Tryz.prog W 0 (fun _=>true) true Tryz.f3.params.toList args.toList ds p:=hA0
 have hAk:=hA
 rw [Tryz.params3]at hA hval
 obtain⟨v0,vs0,d0,ds0,p0,q0,hargs,rfl,rfl,h0,r0⟩:=trodAll_cons hA
 obtain⟨v1,vs1,d1,ds1,p1,q1,rfl,rfl,rfl,h1,r1⟩:=trodAll_cons r0
 obtain⟨v2,vs2,d2,ds2,p2,q2,rfl,rfl,rfl,h2,r2⟩:=trodAll_cons r1
 obtain⟨v3,vs3,d3,ds3,p3,q3,rfl,rfl,rfl,h3,r3⟩:=trodAll_cons r2
 obtain⟨v4,vs4,d4,ds4,p4,q4,rfl,rfl,rfl,h4,r4⟩:=trodAll_cons r3
 obtain⟨rfl,rfl,rfl⟩:=trodAll_nil r4
 obtain rfl:args= #[v0,v1,v2,v3,v4]:=by cases args;simp_all
 obtain⟨rfl,rfl⟩:=trodVars_none hV
 have hb:=small hk
 simp only [List.append_nil,Rows.uptoBulkAll]at hb
 obtain⟨c0,rfl⟩:=Fe (L:=[(22,0)]) (by kernel_rfl) (by decide) (hval 0 24 v0 rfl rfl)
 obtain⟨c1,rfl⟩:=Fe (L:=[(4,0),(9,1),(28,2),(9,5)]) (by kernel_rfl) (by decide) (hval 1 30 v1 rfl rfl)
 obtain⟨c3,rfl⟩:=Fe (L:=[(3,0),(2,1),(31,2),(9,3),(32,4),(33,5)]) (by kernel_rfl) (by decide) (hval 3 35 v3 rfl rfl)
 obtain⟨c4,rfl⟩:=Fe (L:=[(3,0),(2,1),(31,2),(9,3),(32,4),(33,5)]) (by kernel_rfl) (by decide) (hval 4 35 v4 rfl rfl)
 obtain⟨s2,rfl,rfl,rfl,w2⟩:=open_string (by kernel_rfl) (hval 2 9 v2 rfl rfl) h2
 obtain⟨n0,h0⟩:=h0
 obtain⟨n1,h1⟩:=h1
 obtain⟨n3,h3⟩:=h3
 obtain⟨n4,h4⟩:=h4
 obtain⟨s,xs,e0,hs⟩:=schema_down h0 (by show Rows.uptoBulk d0≤_;omega)
 obtain⟨r,x1,x2,e1,hr⟩:=(types_down n1).2.1 _ _ h1 (by show Rows.uptoBulk d1≤_;omega)
 obtain⟨a,a4,a5,e3,ha⟩:=val_down n3 _ _ h3 (by show Rows.uptoBulk d3≤_;omega)
 obtain⟨b,b4,b5,e4,hb'⟩:=val_down n4 _ _ h4 (by show Rows.uptoBulk d4≤_;omega)
 have hname:s2.size≤lim:=bulk_lim (by
  simp only [Rows.uptoBulk]at hb
  have e:s2.data.toList.length=s2.size:=by rw [Array.length_toList];rfl
  omega)
 rw [arr_eq e0,arr_eq e1,arr_eq e3,arr_eq e4]at hW' hAk⊢
 refine(law_w s r s2 a b (At W) xs x1 x2 a4 a5 b4 b5 W (Imm.self W) hs hr hname ha hb').mono ?_
 rintro e W' ⟨rfl,hB⟩
 refine⟨_,rfl, ?_⟩
 have hold:∀x ∈ p0++(p1++([]++(p3++(p4++[])))),(fun b=>decide (b<W.heap.size)) x.block=true:=fun x hx=>by
  have:=hW'.lt x (by simpa using hx)
  simpa using this
 exact⟨_,_,_,[],_,[],hW',trodAll_mk1 (shut_bool (t:=4) (by kernel_rfl) _),DataW.TrodAll.respare kids full (by rw [Tryz.params3];decide) (trod_up hB hAk) hold,rfl,Below.frame hB _,fun h=>by cases h⟩
theorem lifted (os:Os)(started:os.Started)(H:Type)(enc:TypeId × Value→H)(F:Stop.Interp):
  ReturnsInHanded {} Tryz.checked os 3 .any ((Rows.OpenSpec.upto Rows.fnWholePartsSpec).pre6 enc Tryz.prog Tryz.f3 Rows.fnWholePartsUptoRow.domain false) (((Rows.OpenSpec.upto Rows.fnWholePartsSpec).at F).post enc Tryz.prog Tryz.f3 false true false false):=by
 refine returnsInHanded_of_cond (C:=Tryz.checked) (s:=Rows.OpenSpec.upto Rows.fnWholePartsSpec) (k:=Rows.uptoSmall) rfl own started (by kernel_rfl) Tryz.func3
  (OpenSpec.witness (enc:=enc) (C:=Tryz.checked) (s:=Rows.OpenSpec.upto Rows.fnWholePartsSpec) (k:=Rows.uptoSmall) rfl false ⟨#[], #[.agg #[.slice none 0 0], .agg #[.bool false, .string ⟨#[]⟩, .string ⟨#[]⟩, .slice none 0 0, .slice none 0 0, .string ⟨#[]⟩], .string ⟨#[]⟩, .agg #[.int .i64 0, .int .i64 0, .float .f64 0, .string ⟨#[]⟩, .slice none 0 0, .slice none 0 0], .agg #[.int .i64 0, .int .i64 0, .float .f64 0, .string ⟨#[]⟩, .slice none 0 0, .slice none 0 0]],[]⟩ 8 (by kernel_rfl) (by kernel_rfl) (by kernel_rfl)
   (x:=([.agg [.nil], .agg [.lit (.bool false), .lit (.string []), .agg [.lit (.string []), .nil, .nil], .lit (.string [])], .lit (.string []), .agg [.lit (.int .i64 0), .lit (.int .i64 0), .lit (.float .f64 0), .lit (.string []), .nil, .nil], .agg [.lit (.int .i64 0), .lit (.int .i64 0), .lit (.float .f64 0), .lit (.string []), .nil, .nil]],[],[])) (by kernel_rfl) rfl (by kernel_rfl)) ?_
 intro W base args ds gs before hval hW _ hk _
 exact contract H enc W base args ds gs before hval hW hk
theorem over:Rows.fnWholePartsUptoRow.holds Tryz.pinned (Rows.OpenSpec.upto Rows.fnWholePartsSpec):=
 OpenClaim.holds_of_cond 3 Tryz.f3 rfl rfl rfl rfl rfl rfl rfl ⟨rfl,rfl,rfl,rfl,rfl⟩ rfl rfl rfl rfl rfl fact_named Tryz.func3 fact_joined fact_inst fact_wrap
  (fun os started H enc _ F=>lifted os started H enc F)
theorem proved:Rows.FnWholePartsUptoSaid:=over
end
end Go.Proofs.YtmghkmhgpmcoaaaGreat
