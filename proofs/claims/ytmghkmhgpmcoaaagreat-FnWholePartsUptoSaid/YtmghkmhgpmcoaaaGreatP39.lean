/- What the claim's theorem 'proved' rests on: SkRow, SortKeys, KeyDef. -/
import Derived.Laws.OwnMore
import Derived.Test.YtmghkmhgpmcoaaaGreatP27
import Derived.Test.YtmghkmhgpmcoaaaGreatP40
set_option linter.unusedVariables false
set_option linter.unusedSimpArgs false
set_option maxRecDepth 100000
set_option maxHeartbeats 10000000
namespace Go.Proofs.YtmghkmhgpmcoaaaGreat
section
open Go Go.RowKit
theorem RV.zero {H:Hp}:RV H Ay (.slice none 0 0) (.slice none 0 0):=RV.mk0 (AR (by simp [Ay]) (by simp [Ay])) (AR (by simp [Ay]) (by simp [Ay])) (by simp [Ay]) (Nat.zero_le _) rfl rfl
def gXX (H:Hp)(B:Nat)(X Y:Option Nat)(wr:World):Hp:=fun k=>if k<B then H k else if k=B∨X=some k∨Y=some k then none else wr.heap[k]?
theorem DY {H:Hp}{B:Nat}{X Y X' Y':Option Nat}{wr wr':World}(h:∀k o,B<k→wr.heap[k]?=some o→X≠some k→Y≠some k→X'≠some k∧Y'≠some k∧wr'.heap[k]?=some o):Hle (gXX H B X Y wr) (gXX H B X' Y' wr'):=by
 intro k o e
 unfold gXX at e⊢
 by_cases hk:k<B
 ·rw [if_pos hk]at e⊢;exact e
 ·rw [if_neg hk]at e⊢
  by_cases hx:k=B∨X=some k∨Y=some k
  ·rw [if_pos hx]at e;cases e
  ·rw [if_neg hx]at e
   have h1:¬k=B:=fun e=>hx (.inl e)
   obtain⟨h2,h3,h4⟩:=h k o (by omega) e (fun e=>hx (.inr (.inl e))) (fun e=>hx (.inr (.inr e)))
   rw [if_neg (fun g=>by rcases g with g|g|g;exact h1 g;exact h2 g;exact h3 g)];exact h4
theorem hle_gXX {H:Hp}{B:Nat}{X Y:Option Nat}{w0 wc w1:World}(hi:Imm H w0)(hB:w0.heap.size=B)(hs:B<wc.heap.size)(hX:∀k,X=some k→k<wc.heap.size)(hY:∀k,Y=some k→k<wc.heap.size):Hle (A6 H wc w1) (gXX H B X Y w1):=by
 intro k o e
 unfold A6 at e
 unfold gXX
 by_cases hk:k<wc.heap.size
 ·rw [if_pos hk]at e
  rw [if_pos (by have:=A0 (hi k o e);omega)];exact e
 ·rw [if_neg hk]at e
  rw [if_neg (by omega),if_neg (fun g=>by rcases g with g|g|g;omega;exact hk (hX k g);exact hk (hY k g))];exact e
theorem gXX_grow {H:Hp}{w w0 wr wE:World}{B:Nat}{X Y:Option Nat}(hi:Imm H w)(hB:w.heap.size≤B)(h:∀k o,B<k→wr.heap[k]?=some o→wE.heap[k]?=some o):Hle (gXX H B X Y wr) (A6 H w wE):=by
 intro k o e
 unfold gXX at e
 unfold A6
 by_cases hk:k<B
 ·rw [if_pos hk]at e
  rw [if_pos (A0 (hi k o e))];exact e
 ·rw [if_neg hk]at e
  by_cases hx:k=B∨X=some k∨Y=some k
  ·rw [if_pos hx]at e;cases e
  ·rw [if_neg hx]at e
   have h1:¬k=B:=fun e=>hx (.inl e)
   rw [if_neg (by omega)];exact h k o (by omega) e
def eBox (e:GE)(x2 x3 y4 y5:Value):Obj:= .cells #[.int .i64 e.k, .string e.s,x2,x3, .int .i64 e.v.k, .int .i64 e.v.n, .float .f64 e.v.f, .string e.v.s,y4,y5, .int .i64 e.n] 110
def eZero:Obj:= .cells #[.int .i64 0, .string ⟨#[]⟩, .slice none 0 0, .slice none 0 0, .int .i64 0, .int .i64 0, .float .f64 0, .string ⟨#[]⟩, .slice none 0 0, .slice none 0 0, .int .i64 0] 110
def CK (vk vl:Value):Obj:= .cells #[.int .i64 1, .string ⟨#[]⟩,vk,vl, .int .i64 0, .int .i64 0, .float .f64 0, .string ⟨#[]⟩, .slice none 0 0, .slice none 0 0, .int .i64 0] 110
structure SK (H:Hp) (w0:World) (B:Nat) (vk vl:Value) (K:List ByteArray) (L:List VC) (wr:World):Prop where
 base:w0.heap.size=B
 bw:Bw w0 wr
 out:wr.heap[B]?=some (CK vk vl)
 rk:wr.ownsRow (B+1) 9 1 vk K.length (K.map Value.string)
 rl:wr.ownsRow (B+1) 35 6 vl L.length (AL L)
 ks:∀s ∈ K,s.size≤lim
 vals:∀t ∈ L,RV (gXX H B vk.ownBlock vl.ownBlock wr) t.v t.x4 t.x5
theorem SK.start {H:Hp}{w0:World}{B:Nat}(hB:w0.heap.size=B):SK H w0 B (.slice none 0 0) (.slice none 0 0) [] [] (w0.alloc (CK (.slice none 0 0) (.slice none 0 0))):=
 ⟨hB,A5,by subst hB;exact b1_0,World.ownsRow_nil _ _ _ _,World.ownsRow_nil _ _ _ _,by simp,by simp⟩
theorem SK.later {H:Hp}{w0 wr w1:World}{B:Nat}{vk vl:Value}{K:List ByteArray}{L:List VC}(h:SK H w0 B vk vl K L wr)(hb:Bw wr w1):SK H w0 B vk vl K L w1:=
 ⟨h.base,h.bw.tr hb,A2 hb h.out,Cq h.rk hb,Cq h.rl hb,h.ks,fun t ht=>(h.vals t ht).mono (DY fun k o _ e hx hy=>⟨hx,hy,A2 hb e⟩)⟩
theorem SK.size {H:Hp}{w0 wr:World}{B:Nat}{vk vl:Value}{K:List ByteArray}{L:List VC}(h:SK H w0 B vk vl K L wr):B<wr.heap.size:=A0 h.out
theorem SK.open {H:Hp}{w0 wr:World}{B:Nat}{vk vl:Value}{K:List ByteArray}{L:List VC}(h:SK H w0 B vk vl K L wr):∃ak ck al cl,vk= .slice ak K.length ck∧vl= .slice al L.length cl:=by
 obtain⟨_,_,rfl⟩:=Aj h.rk
 obtain⟨_,_,rfl⟩:=Aj h.rl
 exact⟨_,_,_,_,rfl,rfl⟩
theorem SK.key_box {H:Hp}{w0 wr w2:World}{B:Nat}{vk vl:Value}{K:List ByteArray}{L:List VC}(h:SK H w0 B vk vl K L wr)(hg:wr.grownBy w2 vk.ownBlock):w2.heap[B]?=some (CK vk vl):=by
 rw [hg.block B h.size (fun e=>by have:=(h.rk.lt B e.symm).1;omega)];exact h.out
theorem SK.val_box {H:Hp}{w0 wr w2:World}{B:Nat}{vk vl:Value}{K:List ByteArray}{L:List VC}(h:SK H w0 B vk vl K L wr)(hg:wr.grownBy w2 vl.ownBlock):w2.heap[B]?=some (CK vk vl):=by
 rw [hg.block B h.size (fun e=>by have:=(h.rl.lt B e.symm).1;omega)];exact h.out
theorem SK.key {H:Hp}{w0 wr w2:World}{B:Nat}{vk vl v':Value}{K:List ByteArray}{L:List VC}{s:ByteArray}(h:SK H w0 B vk vl K L wr)(hs:s.size≤lim)
  (ho:w2.ownsRow (B+1) 9 1 v' (K.length+1) (K.map Value.string++[.string s])) (hg:wr.grownBy w2 vk.ownBlock) (hv:v'.ownBlock=vk.ownBlock∨∃k,v'.ownBlock=some k∧wr.heap.size≤k):
  SK H w0 B v' vl (K++[s]) L (w2.setCell ⟨B,2,none⟩ v'):=by
 have hb:=h.key_box hg
 have hB:=h.base
 refine⟨hB, ?_, ?_, ?_, ?_, ?_, ?_⟩
 ·exact Bw.set (Bi h.bw hg (fun k hk=>by have:=(h.rk.lt k hk).1;omega)) (by omega) _ _
 ·have:=Ae hb 2 v'
  simpa [CK]using this
 ·have:=Bj (B:=B) (i:=2) (u:=v') ho (by omega)
  simpa using this
 ·exact Bj (h.rl.kept hg (DB (by decide) h.rk h.rl)) (by omega)
 ·intro x hx
  rcases List.mem_append.1 hx with hx|hx
  ·exact h.ks x hx
  ·simp at hx;subst hx;exact hs
 ·intro t ht
  refine(h.vals t ht).mono (DY fun k o hk e hx hy=>⟨?_,hy, ?_⟩)
  ·rcases hv with e1|⟨k',e1,hk'⟩
   ·rw [e1];exact hx
   ·rw [e1];intro hh;cases hh;have:=A0 e;omega
  ·rw [Ag _ _ _ _ _ (by omega),hg.block k (A0 e) (fun e=>hx e.symm)];exact e
theorem SK.val {H:Hp}{w0 wr w2:World}{B:Nat}{vk vl v':Value}{K:List ByteArray}{L:List VC}{t:VC}(h:SK H w0 B vk vl K L wr)(ht:RV (gXX H B vk.ownBlock vl.ownBlock wr) t.v t.x4 t.x5)
  (ho:w2.ownsRow (B+1) 35 6 v' (L.length+1) (AL L++t.cells)) (hg:wr.grownBy w2 vl.ownBlock) (hv:v'.ownBlock=vl.ownBlock∨∃k,v'.ownBlock=some k∧wr.heap.size≤k):
  SK H w0 B vk v' K (L++[t]) (w2.setCell ⟨B,3,none⟩ v'):=by
 have hb:=h.val_box hg
 have hB:=h.base
 refine⟨hB, ?_, ?_, ?_, ?_,h.ks, ?_⟩
 ·exact Bw.set (Bi h.bw hg (fun k hk=>by have:=(h.rl.lt k hk).1;omega)) (by omega) _ _
 ·have:=Ae hb 3 v'
  simpa [CK]using this
 ·exact Bj (h.rk.kept hg (DB (by decide) h.rl h.rk)) (by omega)
 ·have:=Bj (B:=B) (i:=3) (u:=v') ho (by omega)
  rw [DJ,Ek]
  simpa using this
 ·intro u hu
  have hmono:Hle (gXX H B vk.ownBlock vl.ownBlock wr) (gXX H B vk.ownBlock v'.ownBlock (w2.setCell ⟨B,3,none⟩ v')):=by
   refine DY fun k o hk e hx hy=>⟨hx, ?_, ?_⟩
   ·rcases hv with e1|⟨k',e1,hk'⟩
    ·rw [e1];exact hy
    ·rw [e1];intro hh;cases hh;have:=A0 e;omega
   ·rw [Ag _ _ _ _ _ (by omega),hg.block k (A0 e) (fun e=>hy e.symm)];exact e
  rcases List.mem_append.1 hu with hu|hu
  ·exact(h.vals u hu).mono hmono
  ·simp at hu;subst hu;exact ht.mono hmono
theorem SK.keyset {H:Hp}{w0 wr:World}{B g c:Nat}{n:Nat}{vl:Value}{K:List ByteArray}{L:List VC}{i:Nat}{s:ByteArray}(h:SK H w0 B (.slice (some ⟨g,0,none⟩) n c) vl K L wr)(hn:K.length=n)(hi:i<n)(hs:s.size≤lim):
  SK H w0 B (.slice (some ⟨g,0,none⟩) n c) vl (K.set i s) L (wr.setCell ⟨g,i,none⟩ (.string s)):=by
 subst hn
 have hB:=h.base
 have hg:B+1≤g:=(h.rk.lt g (by simp [Value.ownBlock])).1
 refine⟨hB,h.bw.set (by omega) _ _,Cd h.out (by omega) _ _, ?_, ?_, ?_, ?_⟩
 ·have:=own_put h.rk hi (.string s)
  rw [List.length_set,List.map_set];exact this
 ·refine own_eq h.rl fun k hk=>Ag _ _ _ _ _ ?_
  rcases DB (by decide) h.rk h.rl with e|e
  ·rw [e]at hk;cases hk
  ·intro e2;subst e2;exact e (by rw [hk];simp [Value.ownBlock])
 ·intro x hx
  rcases List.mem_or_eq_of_mem_set hx with hx|hx
  ·exact h.ks x hx
  ·subst hx;exact hs
 ·intro t ht
  exact(h.vals t ht).mono (DY fun k o hk e hx hy=>⟨hx,hy,by rw [Ag _ _ _ _ _ (fun e2=>hx (by rw [e2];simp [Value.ownBlock]))];exact e⟩)
theorem vcells_set:∀(L:List VC) (i:Nat) (t:VC),i<L.length→((((((AL L).set (i * 6) (.int .i64 t.v.k)).set (i * 6+1) (.int .i64 t.v.n)).set (i * 6+2) (.float .f64 t.v.f)).set (i * 6+3) (.string t.v.s)).set (i * 6+4) t.x4).set (i * 6+5) t.x5=AL (L.set i t)
 |[],i,t,h=>by simp at h
 |a::r,0,t,h=>by simp [AL,VC.cells]
 |a::r,i+1,t,h=>by
  have e:∀x:List Value,∀q u,(a.cells++x).set ((i+1) * 6+q) u=a.cells++x.set (i * 6+q) u:=by
   intro x q u
   have hl:a.cells.length=6:=rfl
   rw [List.set_append_right _ _ (by omega),hl]
   congr 2;omega
  have e0:∀x:List Value,∀u,(a.cells++x).set ((i+1) * 6) u=a.cells++x.set (i * 6) u:=fun x u=>e x 0 u
  have ih:=vcells_set r i t (by simpa using h)
  have hv:AL (a::r)=a.cells++AL r:=rfl
  rw [List.set_cons_succ,hv,e0,e,e,e,e,e,ih];rfl
theorem SK.valset {H:Hp}{w0 wr wz:World}{B g c:Nat}{n:Nat}{vk:Value}{K:List ByteArray}{L:List VC}{i:Nat}{t:VC}(h:SK H w0 B vk (.slice (some ⟨g,0,none⟩) n c) K L wr)(hn:L.length=n)(hi:i<n)
  (ht:RV (gXX H B vk.ownBlock (some g) wr) t.v t.x4 t.x5)
  (hz:wz=(((((wr.setCell ⟨g,i * 6,none⟩ (.int .i64 t.v.k)).setCell ⟨g,i * 6+1,none⟩ (.int .i64 t.v.n)).setCell ⟨g,i * 6+2,none⟩ (.float .f64 t.v.f)).setCell ⟨g,i * 6+3,none⟩ (.string t.v.s)).setCell ⟨g,i * 6+4,none⟩ t.x4).setCell ⟨g,i * 6+5,none⟩ t.x5):
  SK H w0 B vk (.slice (some ⟨g,0,none⟩) n c) K (L.set i t) wz:=by
 subst hn
 have hB:=h.base
 have hg:B+1≤g:=(h.rl.lt g (by simp [Value.ownBlock])).1
 have hfar:∀k,¬k=g→wz.heap[k]?=wr.heap[k]?:=by
  intro k hk
  rw [hz,Ag _ _ _ _ _ hk,Ag _ _ _ _ _ hk,Ag _ _ _ _ _ hk,Ag _ _ _ _ _ hk,Ag _ _ _ _ _ hk,Ag _ _ _ _ _ hk]
 refine⟨hB, ?_,by rw [hfar _ (by omega)];exact h.out, ?_, ?_,h.ks, ?_⟩
 ·rw [hz]
  have h1:=h.bw
  repeat with_reducible (first|exact h1|refine Bw.set ?_ (by omega) _ _)
 ·refine own_eq h.rk fun k hk=>hfar k ?_
  rcases DB (by decide) h.rk h.rl with e|e
  ·simp [Value.ownBlock]at e
  ·intro e2;subst e2;exact e (by rw [hk];simp [Value.ownBlock])
 ·have:=(((((((h.rl.stored (i * 6) (.int .i64 t.v.k)).1.stored (i * 6+1) (.int .i64 t.v.n)).1.stored (i * 6+2) (.float .f64 t.v.f)).1.stored (i * 6+3) (.string t.v.s)).1.stored (i * 6+4) t.x4).1.stored (i * 6+5) t.x5)).1
  rw [vcells_set L i t hi]at this
  rw [hz,List.length_set];exact this
 ·intro u hu
  have hmono:Hle (gXX H B vk.ownBlock (some g) wr) (gXX H B vk.ownBlock (some g) wz):=DY fun k o hk e hx hy=>⟨hx,hy,by rw [hfar k (fun e2=>hy (by rw [e2]))];exact e⟩
  rcases List.mem_or_eq_of_mem_set hu with hu|hu
  ·exact(h.vals u hu).mono hmono
  ·subst hu;exact ht.mono hmono
theorem SK.keyAt {H:Hp}{w0 wr:World}{B:Nat}{vk vl:Value}{K:List ByteArray}{L:List VC}(h:SK H w0 B vk vl K L wr)(hm:0<K.length):
  ∃g c,vk= .slice (some ⟨g,0,none⟩) K.length c∧B+1≤g∧g<wr.heap.size∧(∀i,wr.frozen? ⟨g,i,none⟩=false)∧∀i (hi:i<K.length),wr.cell? ⟨g,i,none⟩=some (.string K[i]):=by
 rcases h.rk.2 with⟨_,h1⟩|⟨g,cap,cur,h1,hb,hg,hnc,hcm,hcs,htake⟩
 ·omega
 ·obtain⟨q,f⟩:=A1 hg
  refine⟨g,cap,h1,hb,A0 hg,f,fun i hi=> ?_⟩
  have e:(K.map Value.string)[i]?=some (.string K[i]):=by rw [List.getElem?_map,List.getElem?_eq_getElem hi];rfl
  rw [←htake,List.getElem?_take_of_lt (by omega)]at e
  rw [q i];simpa using e
theorem SK.valAt {H:Hp}{w0 wr:World}{B:Nat}{vk vl:Value}{K:List ByteArray}{L:List VC}(h:SK H w0 B vk vl K L wr)(hm:0<L.length):
  ∃g c,vl= .slice (some ⟨g,0,none⟩) L.length c∧B+1≤g∧g<wr.heap.size∧(∀i,wr.frozen? ⟨g,i,none⟩=false)∧∀i (hi:i<L.length),∀q u,q<6→L[i].cells[q]?=some u→wr.cell? ⟨g,i * 6+q,none⟩=some u:=by
 rcases h.rl.2 with⟨_,h1⟩|⟨g,cap,cur,h1,hb,hg,hnc,hcm,hcs,htake⟩
 ·omega
 ·obtain⟨q,f⟩:=A1 hg
  refine⟨g,cap,h1,hb,A0 hg,f,fun i hi r u hr hu=> ?_⟩
  have e:=El hi hr
  rw [hu,←htake,List.getElem?_take_of_lt (by omega)]at e
  rw [q (i * 6+r)];simpa using e
theorem SK.keyCell {H:Hp}{w0 wr:World}{B g n c:Nat}{vl:Value}{K:List ByteArray}{L:List VC}(h:SK H w0 B (.slice (some ⟨g,0,none⟩) n c) vl K L wr)(i:Nat)(hi:i<K.length):
  wr.cell? ⟨g,i,none⟩=some (.string K[i]):=by
 obtain⟨g',c',e,_,_,_,h5⟩:=h.keyAt (by omega)
 simp only [Value.slice.injEq,Option.some.injEq,Addr.mk.injEq,and_true]at e
 obtain⟨rfl,_,_⟩:=e
 exact h5 i hi
theorem SK.keyFree {H:Hp}{w0 wr:World}{B g n c:Nat}{vl:Value}{K:List ByteArray}{L:List VC}(h:SK H w0 B (.slice (some ⟨g,0,none⟩) n c) vl K L wr)(hi:0<K.length)(i:Nat):
  wr.frozen? ⟨g,i,none⟩=false∧g<wr.heap.size∧B+1≤g:=by
 obtain⟨g',c',e,h2,h3,h4,h5⟩:=h.keyAt hi
 simp only [Value.slice.injEq,Option.some.injEq,Addr.mk.injEq,and_true]at e
 obtain⟨rfl,_,_⟩:=e
 exact⟨h4 i,h3,h2⟩
theorem SK.valCell {H:Hp}{w0 wr:World}{B g n c:Nat}{vk:Value}{K:List ByteArray}{L:List VC}(h:SK H w0 B vk (.slice (some ⟨g,0,none⟩) n c) K L wr)(i:Nat)(hi:i<L.length):
  wr.cell? ⟨g,i * 6,none⟩=some (.int .i64 L[i].v.k)∧wr.cell? ⟨g,i * 6+1,none⟩=some (.int .i64 L[i].v.n)∧wr.cell? ⟨g,i * 6+2,none⟩=some (.float .f64 L[i].v.f)∧wr.cell? ⟨g,i * 6+3,none⟩=some (.string L[i].v.s)∧wr.cell? ⟨g,i * 6+4,none⟩=some L[i].x4∧wr.cell? ⟨g,i * 6+5,none⟩=some L[i].x5:=by
 obtain⟨g',c',e,_,_,_,h5⟩:=h.valAt (by omega)
 simp only [Value.slice.injEq,Option.some.injEq,Addr.mk.injEq,and_true]at e
 obtain⟨rfl,_,_⟩:=e
 exact⟨h5 i hi 0 _ (by omega) rfl,h5 i hi 1 _ (by omega) rfl,h5 i hi 2 _ (by omega) rfl,h5 i hi 3 _ (by omega) rfl,h5 i hi 4 _ (by omega) rfl,h5 i hi 5 _ (by omega) rfl⟩
theorem SK.valFree {H:Hp}{w0 wr:World}{B g n c:Nat}{vk:Value}{K:List ByteArray}{L:List VC}(h:SK H w0 B vk (.slice (some ⟨g,0,none⟩) n c) K L wr)(hi:0<L.length):
  (∀i,wr.frozen? ⟨g,i,none⟩=false)∧g<wr.heap.size∧B+1≤g:=by
 obtain⟨g',c',e,h2,h3,h4,h5⟩:=h.valAt hi
 simp only [Value.slice.injEq,Option.some.injEq,Addr.mk.injEq,and_true]at e
 obtain⟨rfl,_,_⟩:=e
 exact⟨h4,h3,h2⟩
theorem SK.apart {H:Hp}{w0 wr:World}{B g g' n c n' c':Nat}{K:List ByteArray}{L:List VC}(h:SK H w0 B (.slice (some ⟨g,0,none⟩) n c) (.slice (some ⟨g',0,none⟩) n' c') K L wr):¬g=g':=by
 rcases DB (by decide) h.rk h.rl with e|e
 ·simp [Value.ownBlock]at e
 ·simp [Value.ownBlock]at e;exact fun h=>e h.symm
def skE (K:List ByteArray)(L:List VC):GE:=⟨1,⟨#[]⟩,K,L.map VC.v,Ay,0⟩
theorem SK.shut {H:Hp}{w w0 wr wE:World}{B:Nat}{vk vl:Value}{K:List ByteArray}{L:List VC}(h:SK H w0 B vk vl K L wr)(hi:Imm H w)(hB:w.heap.size≤B)(he:∀k o,B<k→wr.heap[k]?=some o→wE.heap[k]?=some o)(hk:K.length≤lim)(hl:L.length≤lim):
  RE (A6 H w wE) (skE K L) vk vl (.slice none 0 0) (.slice none 0 0):=by
 have hrow:∀{x:Value} {e s n:Nat} {xs:List Value},wr.ownsRow (B+1) e s x n xs→HasRow (A6 H w wE) wr x:=by
  intro x e s n xs ho g hgx
  have h1:=(ho.lt g hgx).1
  unfold A6
  rw [if_neg (by omega)]
  obtain⟨o,ho2⟩:∃o,wr.heap[g]?=some o:=⟨_,Array.getElem?_eq_getElem (ho.lt g hgx).2⟩
  rw [ho2];exact he g o (by omega) ho2
 refine⟨AR (by simp [skE]) (by simp [skE]),AR (by simp [skE]) (by simp [skE]),Nat.zero_le _,Cn h.rk (hrow h.rk) hk h.ks, ?_,RV.mk0 (AR (by simp [skE,Ay]) (by simp [skE,Ay])) (AR (by simp [skE,Ay]) (by simp [skE,Ay])) (by simp [skE,Ay]) (Nat.zero_le _) rfl rfl⟩
 exact Db h.rl (hrow h.rl) hl fun t ht=>(h.vals t ht).mono (gXX_grow (w0:=w0) hi hB he)
theorem SK.shutN {H:Hp}{w w0 wr:World}{B:Nat}{vk vl:Value}{K:List ByteArray}{L:List VC}(h:SK H w0 B vk vl K L wr)(hk:K.length≤lim)(hl:L.length≤lim):
  RE (BU H B wr) (skE K L) vk vl (.slice none 0 0) (.slice none 0 0):=by
 have hrow:∀{x:Value} {e s n:Nat} {xs:List Value},wr.ownsRow (B+1) e s x n xs→HasRow (BU H B wr) wr x:=by
  intro x e s n xs ho g hgx
  have h1:=(ho.lt g hgx).1
  unfold BU
  rw [if_neg (by omega)]
 refine⟨AR (by simp [skE]) (by simp [skE]),AR (by simp [skE]) (by simp [skE]),Nat.zero_le _,Cn h.rk (hrow h.rk) hk h.ks, ?_,RV.zero⟩
 refine Db h.rl (hrow h.rl) hl fun t ht=>(h.vals t ht).mono fun k o e=> ?_
 unfold gXX at e
 unfold BU
 split at e
 ·rw [if_pos (by assumption)];exact e
 ·split at e
  ·cases e
  ·rw [if_neg (by assumption)];exact e
theorem growN_far {H:Hp}{w wr w1 w2 wf:World}{B:Nat}(hi:Imm H w)(hB:w.heap.size≤B)(h1:Bw wr w1)(h2:Bw w1 w2)(hf:∀k o,B≤k→w2.heap[k]?=some o→wf.heap[k]?=some o)(hs:B≤wr.heap.size):Hle (A6 (BU H B wr) w1 w2) (A6 H w wf):=by
 intro k o e
 unfold A6 BU at *
 by_cases hx:k<w1.heap.size
 ·rw [if_pos hx]at e
  by_cases hk:k<B
  ·rw [if_pos hk]at e
   rw [if_pos (A0 (hi k o e))];exact e
  ·rw [if_neg hk]at e
   rw [if_neg (by omega)];exact hf k o (by omega) (A2 (h1.tr h2) e)
 ·rw [if_neg hx]at e
  have:=h1.size
  rw [if_neg (by omega)];exact hf k o (by omega) e
theorem hle_gXX_far {H:Hp}{B:Nat}{X Y:Option Nat}{w0 wc w1 w2:World}(hi:Imm H w0)(hB:w0.heap.size=B)(hs:B<wc.heap.size)(hX:∀k,X=some k→k<wc.heap.size)(hY:∀k,Y=some k→k<wc.heap.size)(h:∀k o,wc.heap.size≤k→w1.heap[k]?=some o→w2.heap[k]?=some o):Hle (A6 H wc w1) (gXX H B X Y w2):=by
 intro k o e
 unfold A6 at e
 unfold gXX
 by_cases hk:k<wc.heap.size
 ·rw [if_pos hk]at e
  rw [if_pos (by have:=A0 (hi k o e);omega)];exact e
 ·rw [if_neg hk]at e
  rw [if_neg (by omega),if_neg (fun g=>by rcases g with g|g|g;omega;exact hk (hX k g);exact hk (hY k g))];exact h k o (by omega) e
theorem hle_gXX0 {H:Hp}{B:Nat}{X Y:Option Nat}{w0 w2:World}(hi:Imm H w0)(hB:w0.heap.size=B):Hle H (gXX H B X Y w2):=by
 intro k o e
 unfold gXX
 rw [if_pos (by have:=A0 (hi k o e);omega)];exact e
def RetE (H:Hp)(w:World):Ending→World→Prop:=fun e w'=>Bw w w'∧∃u x2 x3 y4 y5,e= .returned (Dl u x2 x3 y4 y5)∧RE (A6 H w w') u x2 x3 y4 y5
end
section
open Go Go.RowKit
theorem B0 {w:World}{a b:Addr}{u v:Value}(h:w.cell? a=some u)(hne:¬a=b):(w.setCell b v).cell? a=some u:=(World.cell?_setCell_other _ _ _ _ (fun e=>hne (by first|exact e|exact e.symm))).trans h
theorem sortKeys_w (e:GE)(H:Hp)(x2 x3 y4 y5:Value)(w:World)(hi:Imm H w)(he:RE H e x2 x3 y4 y5):
  Calls Tryz.prog 133 #[Dl e x2 x3 y4 y5] w (RetE H w):=by
 obtain⟨_,_,_,⟨p2,e2,rfl,_,hl2,_,ha2⟩,⟨p3,e3,rfl,_,hl3,_,ha3⟩,hvv⟩:=he
 obtain⟨p4,e4,p5,e5,rfl,rfl⟩:=hvv.open
 have HA:=Lib.hid (And.intro hi (And.intro ha2 ha3))
 have HL:=Lib.hid (And.intro hl2 hl3)
 unfold lim at hl2 hl3
 clear hi hvv ha2 ha3
 unfold Dl
 go_enter Tryz.func133,Tryz.ntmps133
 go_upto_region 3 with(fail)
 have hm1:min (e.ks.length:Int) (e.l.length:Int)=((min e.ks.length e.l.length:Nat):Int):=by omega
 rw [hm1]
 obtain⟨n,hn⟩:∃n:Nat,n=min e.ks.length e.l.length:=⟨_,rfl⟩
 rw [←hn]
 have hn2:n≤e.ks.length:=by omega
 have hn3:n≤e.l.length:=by omega
 have HN:=Lib.hid hn
 clear hm1 hn
 obtain⟨w0,hw0⟩:∃x,x=(w.alloc (eBox e (.slice p2 e.ks.length e2) (.slice p3 e.l.length e3) (.slice p4 e.v.ks.length e4) (.slice p5 e.v.l.length e5))).alloc eZero:=⟨_,rfl⟩
 obtain⟨wz,hwz⟩:∃x,x=w0.alloc (CK (.slice none 0 0) (.slice none 0 0)):=⟨_,rfl⟩
 have H0:Hid (Bw w w0∧w0.heap.size=w.heap.size+1+1∧w0.heap[w.heap.size]?=some (eBox e (.slice p2 e.ks.length e2) (.slice p3 e.l.length e3) (.slice p4 e.v.ks.length e4) (.slice p5 e.v.l.length e5))∧w0.heap[w.heap.size+1]?=some eZero):=by
  subst hw0;exact⟨Am,by simp,Cs,BF⟩
 have HS:Hid (SK H w0 (w.heap.size+1+1) (.slice none 0 0) (.slice none 0 0) [] [] wz):=by subst hwz;exact SK.start H0.out.2.1
 rw [hw0]at hwz
 unfold eBox eZero CK at hwz
 rw [←hwz]
 clear hwz hw0
 go_wp2_with fail
 go_loopw [5] (fun i wr=>∃(K:List ByteArray) (L:List VC) (vk vl:Value),i= .int .i64 (K.length:Int)∧K.length≤n∧L.length=K.length∧SK H w0 (w.heap.size+1+1) vk vl K L wr) (fun i _=>n - (intOf i).toNat)
 case atStart=>exact⟨[],[],_,_,rfl,Nat.zero_le _,rfl,HS.out⟩
 case round=>
  rename_i wr
  obtain⟨K,L,vk,vl,rfl,hKn,hLK,hs⟩:=hrel
  obtain⟨ak,ck,al,cl,rfl,rfl⟩:=hs.open
  obtain⟨wq,hwq⟩:∃x:World,x=wr:=⟨_,rfl⟩
  rw [←hwq]at hs⊢
  clear hwq
  have HSK:=Lib.hid (And.intro hs hLK)
  have hiq:=HA.out.1.below (H0.out.1.tr hs.bw)
  have hbE:=A2 hs.bw H0.out.2.2.1
  have hbZ:=A2 hs.bw H0.out.2.2.2
  have hbO:=hs.out
  unfold eBox at hbE
  unfold eZero at hbZ
  unfold CK at hbO
  obtain⟨q0,f0⟩:=A1 hbE
  obtain⟨q1,f1⟩:=A1 hbZ
  obtain⟨q2,f2⟩:=A1 hbO
  have hl0:=A0 hbE
  have hl1:=A0 hbZ
  have hl2:=A0 hbO
  clear hs hLK hbE hbZ hbO
  by_cases hjn:K.length<n
  ·have p1:(K.length:Int)<(n:Int):=by omega
   obtain⟨bk,ok,rfl,c0,hks⟩:=HA.out.2.1.look hiq (j:=K.length) (by omega)
   obtain⟨bl,ol,z4,g4,z5,g5,rfl,hv',i0,i1,i2,i3,i4,i5⟩:=HA.out.2.2.look hiq (j:=K.length) (by omega)
   have HV:=Lib.hid (And.intro hv' hks)
   have c0':=Lib.hid c0
   clear hv' hks
   go_upto_block 2 with(fail)
   go_cut [6] (fun s6 wx=>∃m:Nat,s6= .int .i64 (m:Int)∧m≤K.length∧Bw wq wx)
   case first=>
    go_wp2_with fail
    go_loopw [6] (fun s6 wx=>∃m:Nat,s6= .int .i64 (m:Int)∧m≤K.length∧Bw wq wx) (fun s6 _=>(intOf s6).toNat)
    case atStart=>exact⟨K.length,rfl,Nat.le_refl _,Bw.rfl⟩
    case round=>
     obtain⟨m,rfl,hm,hbx⟩:=hrel
     obtain⟨wy,hwy⟩:∃x:World,x=wr:=⟨_,rfl⟩
     rw [←hwy]at hbx⊢
     clear hwy q0 f0 q1 f1 q2 f2 hl0 hl1 hl2 c0 i0 i1 i2 i3 i4 i5
     have HB:=Lib.hid hbx
     rcases m with _|m
     ·clear hbx
      go_wp2_with fail
      refine wp_region_quiet_below (by kernel_rfl) (by kernel_rfl) ?_
      repeat (go_big_quiet_step (fail))
      refine wpQuiet_nil ?_
      intro _ hw'
      obtain⟨⟨dq,osq⟩,hw''⟩:=hw'
      subst hw''
      obtain⟨wn,hwn,hw'⟩:∃x,Bw wy x∧x=Go.Sort.grow (redrawn wy dq) osq:=⟨_,below_regrown _ _ _,rfl⟩
      rw [←hw']
      clear hw'
      go_wp2_with fail
      go_meet
      exact⟨0,rfl,Nat.zero_le _,HB.out.tr hwn⟩
     ·have hsy:=HSK.out.1.later hbx
      obtain⟨g,cg,hg1,hg2,hg3,hg4,hg5⟩:=hsy.keyAt (by omega)
      cases hg1
      have r0:=hg5 m (by omega)
      have r1:=hg4 m
      have hbE:=A2 hbx (A2 HSK.out.1.bw H0.out.2.2.1)
      have hbO:=hsy.out
      unfold eBox at hbE
      unfold CK at hbO
      obtain⟨q0,f0⟩:=A1 hbE
      obtain⟨q2,f2⟩:=A1 hbO
      have hl0:=A0 hbE
      have hl2:=A0 hbO
      have c0:=cell_later hbx c0'.out
      have p2:(0:Int)<(m:Int)+1:=by omega
      have p3:(m:Int)+1 - 1=(m:Int):=by omega
      have p4:(m:Int)<(K.length:Int):=by omega
      have p5:(((m+1:Nat):Int))=(m:Int)+1:=by omega
      rw [p5]
      have CP:=fun d os=>Calls.regrown_of (cmpStr_c (K[m]'(by omega)) (e.ks[K.length]'(by omega)) (Go.Sort.grow (redrawn wy d) os) (HSK.out.1.ks _ (List.getElem_mem _)) HV.out.2)
      have G0:=cell_regrown (q0 2)
      have G2:=cell_regrown (q2 2)
      have R0:=cell_regrown r0
      have C0:=cell_regrown c0
      clear hsy hg2 hg4 hg5 hbE hbO hbx p5
      by_cases hz:0<cmpS (K[m]'(by omega)) (e.ks[K.length]'(by omega))
      ·go_wp2_with fail
       refine wp_region_quiet_below (by kernel_rfl) (by kernel_rfl) ?_
       repeat (go_big_quiet_step (exact CP _ _))
       refine wpQuiet_nil ?_
       intro _ hw'
       obtain⟨⟨dq,osq⟩,hw''⟩:=hw'
       subst hw''
       obtain⟨wn,hwn,hw'⟩:∃x,Bw wy x∧x=Go.Sort.grow (redrawn wy dq) osq:=⟨_,below_regrown _ _ _,rfl⟩
       rw [←hw']
       clear hw'
       go_wp2_with fail
       go_roundw
       case rel=>exact⟨m,rfl,by omega,HB.out.tr hwn⟩
       case measure=>simp [intOf]
      ·go_wp2_with fail
       refine wp_region_quiet_below (by kernel_rfl) (by kernel_rfl) ?_
       repeat (go_big_quiet_step (exact CP _ _))
       refine wpQuiet_nil ?_
       intro _ hw'
       obtain⟨⟨dq,osq⟩,hw''⟩:=hw'
       subst hw''
       obtain⟨wn,hwn,hw'⟩:∃x,Bw wy x∧x=Go.Sort.grow (redrawn wy dq) osq:=⟨_,below_regrown _ _ _,rfl⟩
       rw [←hw']
       clear hw'
       go_wp2_with fail
       go_meet
       exact⟨m+1,rfl,hm,HB.out.tr hwn⟩
   case rest=>
    obtain⟨m,rfl,hm,hbx⟩:=hcut
    obtain⟨wy,hwy⟩:∃x:World,x=wc:=⟨_,rfl⟩
    rw [←hwy]at hbx⊢
    clear hwy q0 f0 q1 f1 q2 f2 hl0 hl1 hl2 c0 i0 i1 i2 i3 i4 i5
    have HSY:=Lib.hid (HSK.out.1.later hbx)
    have hbO:=HSY.out.out
    unfold CK at hbO
    obtain⟨q2,f2⟩:=A1 hbO
    have hl2:=A0 hbO
    have hlk:K.length+1≤lim:=by have:=HL.out.1;omega
    have HLK:=Lib.hid hlk
    clear hbO hbx hlk
    go_wp2_with (at_builtin;refine AF _ rfl (.tmp 44) (.tmp 45) 32 rfl (w.heap.size+1+1+1) 9 (.string ⟨#[]⟩) 1 16 und_strs info_str rfl (by decide) (by decide) (.slice ak K.length ck) K.length (K.map Value.string) rfl ((HSY.out.later A5).rk) wy.heap.size _ 9 rfl A4 rfl (by simp [Value.oneCell']) (by exact HLK.out) (by simp;omega) ?_)
    intro v' w2 ho2 hg2 hwh2
    obtain⟨ao,co,rfl⟩:=Aj ho2
    have hsk:=(HSY.out.later (A5 (w:=wy) (o:= .cells #[.string ⟨#[]⟩] 9))).key (s:=⟨#[]⟩) (Nat.zero_le _) ho2 hg2 (by rcases hwh2 with h|h;exact .inl h;exact .inr ⟨_,h,by simp⟩)
    have hbO:=(HSY.out.later (A5 (w:=wy) (o:= .cells #[.string ⟨#[]⟩] 9))).key_box hg2
    unfold CK at hbO
    clear q2 f2 hl2
    obtain⟨q2,f2⟩:=A1 hbO
    have hl2:=A0 hbO
    have HK:=Lib.hid hsk
    clear hsk hbO ho2 hg2 hwh2
    go_upto_region 10 with(fail)
    obtain⟨wk,hwk⟩:∃x,x=w2.setCell ⟨w.heap.size+1+1,2,none⟩ (.slice ao (K.length+1) co):=⟨_,rfl⟩
    rw [←hwk]at HK⊢
    clear hwk q2 f2 hl2
    have hbO:=HK.out.out
    unfold CK at hbO
    obtain⟨q2,f2⟩:=A1 hbO
    have hl2:=A0 hbO
    clear hbO
    go_wp2_with (at_builtin;refine AF _ rfl (.tmp 49) (.tmp 51) 33 rfl (w.heap.size+1+1+1) 35 CQ 6 88 DN DX rfl (by decide) (by decide) (.slice al L.length cl) L.length (AL L) rfl ((HK.out.later A5).rl) wk.heap.size _ 35 rfl A4 rfl (by simp [Value.oneCell']) (by have:=HLK.out;have:=HSK.out.2;omega) (by simp;omega) ?_)
    intro v' w3 ho2 hg2 hwh2
    obtain⟨ao3,co3,rfl⟩:=Aj ho2
    have hsk:=(HK.out.later (A5 (w:=wk) (o:= .cells CQ.cells 35))).val (t:=⟨Ay, .slice none 0 0, .slice none 0 0⟩) (RV.zero) ho2 hg2 (by rcases hwh2 with h|h;exact .inl h;exact .inr ⟨_,h,by simp⟩)
    have hbO:=(HK.out.later (A5 (w:=wk) (o:= .cells CQ.cells 35))).val_box hg2
    unfold CK at hbO
    clear q2 f2 hl2
    obtain⟨q2,f2⟩:=A1 hbO
    have hl2:=A0 hbO
    have HW:=Lib.hid hsk
    clear hsk hbO ho2 hg2 hwh2
    go_upto_region 11 with(fail)
    obtain⟨wv,hwv⟩:∃x,x=w3.setCell ⟨w.heap.size+1+1,3,none⟩ (.slice ao3 (L.length+1) co3):=⟨_,rfl⟩
    rw [←hwv]at HW⊢
    have hww:=HW.out
    rw [HSK.out.2]at hww
    clear hwv q2 f2 hl2 HW
    obtain⟨g1,c1,he1,hb1,hx1⟩:=hww.keyAt (by simp)
    obtain⟨g2,c2,he2,hb2,hx2⟩:=hww.valAt (by simp)
    simp only [Value.slice.injEq]at he1 he2
    obtain⟨rfl,he3,he4⟩:=he1
    obtain⟨rfl,he5,he6⟩:=he2
    clear he3 he4 he5 he6
    have HW:=Lib.hid (And.intro hww (And.intro hb1 hb2))
    have hbO:=hww.out
    unfold CK at hbO
    obtain⟨q2,f2⟩:=A1 hbO
    have hl2:=A0 hbO
    have p6:(K.length:Int)+1 - 1=(K.length:Int):=by omega
    have p7:K.length+1≤4294967296:=HLK.out
    clear hww hbO hb1 hb2 hx1 hx2
    go_wp2_with fail
    go_loopw [7] (fun s7 wx=>∃(q:Nat) (K2:List ByteArray) (L2:List VC),s7= .int .i64 (q:Int)∧m≤q∧q≤K.length∧K2.length=K.length+1∧L2.length=K.length+1∧SK H w0 (w.heap.size+1+1) (.slice (some ⟨g1,0,none⟩) (K.length+1) co) (.slice (some ⟨g2,0,none⟩) (K.length+1) co3) K2 L2 wx) (fun s7 _=>(intOf s7).toNat)
    case atStart=>exact⟨K.length,_,_,rfl,hm,Nat.le_refl _,by simp,by simp [HSK.out.2],HW.out.1⟩
    case round=>
     obtain⟨q,K2,L2,rfl,hmq,hqK,hK2,hL2,hs⟩:=hrel
     obtain⟨wx,hwx⟩:∃x:World,x=wr:=⟨_,rfl⟩
     rw [←hwx]at hs⊢
     clear hwx q2 f2 hl2
     have HX:=Lib.hid (And.intro hs (And.intro hK2 hL2))
     have hbO:=hs.out
     unfold CK at hbO
     obtain⟨q2,f2⟩:=A1 hbO
     have hl2:=A0 hbO
     clear hs hbO hK2 hL2
     by_cases hmq2:m<q
     ·obtain⟨r,hr⟩:∃r,q=r+1:=⟨q - 1,by omega⟩
      subst hr
      have hs:=HX.out.1
      have hr2:r<K2.length:=by rw [HX.out.2.1];omega
      have hr3:r<L2.length:=by rw [HX.out.2.2];omega
      obtain⟨s0,hs0⟩:∃s,s=K2[r]:=⟨_,rfl⟩
      obtain⟨t0,ht0⟩:∃t,t=L2[r]:=⟨_,rfl⟩
      have k0:=hs.keyCell r hr2
      have v6:=hs.valCell r hr3
      rw [←hs0]at k0
      rw [←ht0]at v6
      have hss:=hs.ks K2[r] (List.getElem_mem _)
      have htt:=hs.vals L2[r] (List.getElem_mem _)
      have htm:L2[r] ∈ L2:=List.getElem_mem _
      rw [←hs0]at hss
      rw [←ht0]at htt htm
      clear hs0 ht0
      rcases t0 with⟨t0,x4,x5⟩
      obtain⟨z4,g4,z5,g5,hx4,hx5⟩:=htt.open
      simp only at hx4 hx5
      subst hx4 hx5
      obtain⟨v0,v1,v2,v3,v4,v5⟩:=v6
      simp only at v0 v1 v2 v3 v4 v5
      have HXX:=Lib.hid (And.intro hss htm)
      obtain⟨fk,lk,bk⟩:=hs.keyFree (by omega) (r+1)
      obtain⟨fl,ll,bl⟩:=hs.valFree (by omega)
      have na:=hs.apart
      have na2:¬g2=g1:=fun h=>na h.symm
      have nb1:¬w.heap.size+1+1=g1:=by omega
      have nb2:¬w.heap.size+1+1=g2:=by omega
      have nb3:¬g1=w.heap.size+1+1:=by omega
      have nb4:¬g2=w.heap.size+1+1:=by omega
      have p8:((r+1:Nat):Int)=(r:Int)+1:=by omega
      have p9:(m:Int)<(r:Int)+1:=by omega
      have p10:(r:Int)+1 - 1=(r:Int):=by omega
      have p11:(r:Int)<(K.length:Int)+1:=by omega
      have p12:(r:Int)+1<(K.length:Int)+1:=by omega
      have p13:((r:Int)+1).toNat=r+1:=by omega
      have p14:(0:Int)≤(r:Int)+1:=by omega
      have p19:IntKind.i64.wrap (r:Int)=(r:Int):=IntWalk.i64_in _ (by omega)
      have p20:IntKind.i64.wrap ((r:Int)+1)=(r:Int)+1:=IntWalk.i64_in _ (by omega)
      have p15:(r:Int)≤(K.length:Int):=by omega
      have p16:r≤K.length:=by omega
      have p17:(r:Int)<(K.length:Int):=by omega
      have p18:r<K.length:=by omega
      rw [p8]
      have k1:∃u,wx.cell? ⟨g1,r+1,none⟩=some u:=⟨_,hs.keyCell (r+1) (by rw [HX.out.2.1];omega)⟩
      obtain⟨uk,k1⟩:=k1
      clear hs hr2 hr3 hss htt htm p8
      go_upto_region 14 with(fail)
      have S1:(fun w'=>w'.cell? ⟨w.heap.size+1+1,2,none⟩=some (.slice (some ⟨g1,0,none⟩) (K.length+1) co)∧w'.cell? ⟨w.heap.size+1+1,3,none⟩=some (.slice (some ⟨g2,0,none⟩) (K.length+1) co3)∧w'.cell? ⟨g1,r,none⟩=some (.string s0)∧w'.cell? ⟨g2,r * 6,none⟩=some (.int .i64 t0.k)∧w'.cell? ⟨g2,r * 6+1,none⟩=some (.int .i64 t0.n)∧w'.cell? ⟨g2,r * 6+2,none⟩=some (.float .f64 t0.f)∧w'.cell? ⟨g2,r * 6+3,none⟩=some (.string t0.s)∧w'.cell? ⟨g2,r * 6+4,none⟩=some (.slice z4 t0.ks.length g4)∧w'.cell? ⟨g2,r * 6+5,none⟩=some (.slice z5 t0.l.length g5)) wx.drew:=⟨q2 2,q2 3,k0,v0,v1,v2,v3,v4,v5⟩
      refine wp_region_held_drew (S:=(fun w'=>w'.cell? ⟨w.heap.size+1+1,2,none⟩=some (.slice (some ⟨g1,0,none⟩) (K.length+1) co)∧w'.cell? ⟨w.heap.size+1+1,3,none⟩=some (.slice (some ⟨g2,0,none⟩) (K.length+1) co3)∧w'.cell? ⟨g1,r,none⟩=some (.string s0)∧w'.cell? ⟨g2,r * 6,none⟩=some (.int .i64 t0.k)∧w'.cell? ⟨g2,r * 6+1,none⟩=some (.int .i64 t0.n)∧w'.cell? ⟨g2,r * 6+2,none⟩=some (.float .f64 t0.f)∧w'.cell? ⟨g2,r * 6+3,none⟩=some (.string t0.s)∧w'.cell? ⟨g2,r * 6+4,none⟩=some (.slice z4 t0.ks.length g4)∧w'.cell? ⟨g2,r * 6+5,none⟩=some (.slice z5 t0.l.length g5))) (by kernel_rfl) S1 (fun hHeld=> ?_)
      refine tk 0 ?_
      try simp only [Act.put,tka,tkb,tkc]
      refine tk 1 ?_
      try simp only [Act.put,tka,tkb,tkc]
      refine tk 2 ?_
      try simp only [Act.put,tka,tkb,tkc]
      refine tk 3 ?_
      try simp only [Act.put,tka,tkb,tkc]
      refine tk 4 ?_
      try simp only [Act.put,tka,tkb,tkc]
      refine tk 5 ?_
      try simp only [Act.put,tka,tkb,tkc]
      refine tk 6 ?_
      try simp only [Act.put,tka,tkb,tkc]
      refine tk 7 ?_
      try simp only [Act.put,tka,tkb,tkc]
      refine tk 8 ?_
      try simp only [Act.put,tka,tkb,tkc]
      refine tk 9 ?_
      try simp only [Act.put,tka,tkb,tkc]
      refine tk 10 ?_
      try simp only [Act.put,tka,tkb,tkc]
      refine tk 11 ?_
      try simp only [Act.put,tka,tkb,tkc]
      refine tk 12 ?_
      try simp only [Act.put,tka,tkb,tkc]
      refine tk 13 ?_
      try simp only [Act.put,tka,tkb,tkc]
      refine tk 14 ?_
      try simp only [Act.put,tka,tkb,tkc]
      refine tk 15 ?_
      try simp only [Act.put,tka,tkb,tkc]
      refine tk 16 ?_
      try simp only [Act.put,tka,tkb,tkc]
      refine tk 17 ?_
      try simp only [Act.put,tka,tkb,tkc]
      refine tk 18 ?_
      try simp only [Act.put,tka,tkb,tkc]
      refine wpAnyH_ready (rs:=[19]) (by kernel_rfl) (by simp) ?_
      refine AllReadyH.cons rfl (fun Kq hKq=> ?_) AllReadyH.nil
      go_simp
      have HN:=Lib.hid (((HX.out.1.keyset (i:=r+1) (s:=s0) HX.out.2.1 (by omega) HXX.out.1)).later Bw.rfl.dr)
      have S2:∀x:World,x=(wx.setCell ⟨g1,r+1,none⟩ (.string s0)).drew→(fun w'=>w'.cell? ⟨w.heap.size+1+1,2,none⟩=some (.slice (some ⟨g1,0,none⟩) (K.length+1) co)∧w'.cell? ⟨w.heap.size+1+1,3,none⟩=some (.slice (some ⟨g2,0,none⟩) (K.length+1) co3)∧w'.cell? ⟨g1,r,none⟩=some (.string s0)∧w'.cell? ⟨g2,r * 6,none⟩=some (.int .i64 t0.k)∧w'.cell? ⟨g2,r * 6+1,none⟩=some (.int .i64 t0.n)∧w'.cell? ⟨g2,r * 6+2,none⟩=some (.float .f64 t0.f)∧w'.cell? ⟨g2,r * 6+3,none⟩=some (.string t0.s)∧w'.cell? ⟨g2,r * 6+4,none⟩=some (.slice z4 t0.ks.length g4)∧w'.cell? ⟨g2,r * 6+5,none⟩=some (.slice z5 t0.l.length g5)) x:=by
       rintro x rfl
       obtain⟨h1,h2,h3,h4,h5,h6,h7,h8,h9⟩:=S1
       exact⟨B0 h1 (by simp [nb1]),B0 h2 (by simp [nb1]),B0 h3 (by simp),B0 h4 (by simp [na2]),B0 h5 (by simp [na2]),B0 h6 (by simp [na2]),B0 h7 (by simp [na2]),B0 h8 (by simp [na2]),B0 h9 (by simp [na2])⟩
      obtain⟨wn,hwn⟩:∃x,x=(wx.setCell ⟨g1,r+1,none⟩ (.string s0)).drew:=⟨_,rfl⟩
      have S3:=S2 wn hwn
      rw [←hwn]at HN⊢
      clear S2
      obtain⟨u0,u1,u2,u3,u4,u5,w0',w1',w2',w3',w4',w5'⟩:∃u0 u1 u2 u3 u4 u5,wn.cell? ⟨g2,(r+1) * 6,none⟩=some u0∧wn.cell? ⟨g2,(r+1) * 6+1,none⟩=some u1∧wn.cell? ⟨g2,(r+1) * 6+2,none⟩=some u2∧wn.cell? ⟨g2,(r+1) * 6+3,none⟩=some u3∧wn.cell? ⟨g2,(r+1) * 6+4,none⟩=some u4∧wn.cell? ⟨g2,(r+1) * 6+5,none⟩=some u5:=⟨_,_,_,_,_,_,HN.out.valCell (r+1) (by rw [HX.out.2.2];omega)⟩
      obtain⟨fl,ll,bl⟩:=HN.out.valFree (by rw [HX.out.2.2];omega)
      refine hKq.out _ _ S3 (fun hHeld=> ?_)
      clear hKq Kq hwn
      try simp only [Act.put,tka,tkb,tkc]
      refine tk 20 ?_
      try simp only [Act.put,tka,tkb,tkc]
      refine wpAnyH_ready (rs:=[21]) (by kernel_rfl) (by simp) ?_
      refine AllReadyH.cons rfl (fun Kq hKq=> ?_) AllReadyH.nil
      go_simp
      obtain⟨wo,hwo⟩:∃x,x=(((((wn.setCell ⟨g2,(r+1) * 6,none⟩ (.int .i64 t0.k)).setCell ⟨g2,(r+1) * 6+1,none⟩ (.int .i64 t0.n)).setCell ⟨g2,(r+1) * 6+2,none⟩ (.float .f64 t0.f)).setCell ⟨g2,(r+1) * 6+3,none⟩ (.string t0.s)).setCell ⟨g2,(r+1) * 6+4,none⟩ (.slice z4 t0.ks.length g4)).setCell ⟨g2,(r+1) * 6+5,none⟩ (.slice z5 t0.l.length g5):=⟨_,rfl⟩
      have HO:=Lib.hid (HN.out.valset (t:=⟨t0, .slice z4 t0.ks.length g4, .slice z5 t0.l.length g5⟩) (i:=r+1) HX.out.2.2 (by omega) (HN.out.vals _ HXX.out.2) hwo)
      have S4:(fun w'=>w'.cell? ⟨w.heap.size+1+1,2,none⟩=some (.slice (some ⟨g1,0,none⟩) (K.length+1) co)∧w'.cell? ⟨w.heap.size+1+1,3,none⟩=some (.slice (some ⟨g2,0,none⟩) (K.length+1) co3)∧w'.cell? ⟨g1,r,none⟩=some (.string s0)∧w'.cell? ⟨g2,r * 6,none⟩=some (.int .i64 t0.k)∧w'.cell? ⟨g2,r * 6+1,none⟩=some (.int .i64 t0.n)∧w'.cell? ⟨g2,r * 6+2,none⟩=some (.float .f64 t0.f)∧w'.cell? ⟨g2,r * 6+3,none⟩=some (.string t0.s)∧w'.cell? ⟨g2,r * 6+4,none⟩=some (.slice z4 t0.ks.length g4)∧w'.cell? ⟨g2,r * 6+5,none⟩=some (.slice z5 t0.l.length g5)) wo:=by
       subst hwo
       obtain⟨h1,h2,h3,h4,h5,h6,h7,h8,h9⟩:=S3
       refine⟨?_, ?_, ?_, ?_, ?_, ?_, ?_, ?_, ?_⟩
       all_goals repeat refine B0 ?_ (by first|(simp [nb2,na];done)|(simp;omega))
       ·exact h1
       ·exact h2
       ·exact h3
       ·exact h4
       ·exact h5
       ·exact h6
       ·exact h7
       ·exact h8
       ·exact h9
      rw [←hwo]
      refine hKq.out _ _ S4 (fun hHeld=> ?_)
      clear hKq Kq hwo S1 S3 S4 q2 f2 hl2 v0 v1 v2 v3 v4 v5 k0 k1 w0' w1' w2' w3' w4' w5'
      refine wpAnyH_done (by kernel_rfl) ?_ _
      go_wp2_with fail
      go_roundw
      case rel=>exact⟨r,_,_,rfl,by omega,by omega,by rw [List.length_set];exact HX.out.2.1,by rw [List.length_set];exact HX.out.2.2,HO.out⟩
      case measure=>simp [intOf]
     ·have hq:m=q:=by omega
      subst hq
      have hs:=HX.out.1
      have hbx:Bw w wx:=H0.out.1.tr hs.bw
      have hix:=HA.out.1.below hbx
      have hbE:=A2 hs.bw H0.out.2.2.1
      unfold eBox at hbE
      obtain⟨q0,f0⟩:=A1 hbE
      have hl0:=A0 hbE
      obtain⟨_,_,ek,c0w,_⟩:=HA.out.2.1.look HA.out.1 (j:=K.length) (by omega)
      cases ek
      obtain⟨_,_,_,_,_,_,el,_,i0w,_⟩:=HA.out.2.2.look HA.out.1 (j:=K.length) (by omega)
      cases el
      have lk0:=Ah c0w
      have ll0:=Ah i0w
      obtain⟨_,_,ek,c0,hks⟩:=HA.out.2.1.look hix (j:=K.length) (by omega)
      cases ek
      obtain⟨_,_,z4,g4,z5,g5,el,hv',i0,i1,i2,i3,i4,i5⟩:=HA.out.2.2.look hix (j:=K.length) (by omega)
      cases el
      obtain⟨u0,hu0⟩:∃u,u=e.l[K.length]'(by omega):=⟨_,rfl⟩
      rw [←hu0]at hv' i0 i1 i2 i3 i4 i5
      have HV2:=Lib.hid (And.intro hv' (And.intro hks hix))
      obtain⟨fk,lk,bk1⟩:=hs.keyFree (by rw [HX.out.2.1];omega) m
      obtain⟨fl,ll,bl1⟩:=hs.valFree (by rw [HX.out.2.2];omega)
      have na:=hs.apart
      have k1:∃u,wx.cell? ⟨g1,m,none⟩=some u:=⟨_,hs.keyCell m (by rw [HX.out.2.1];omega)⟩
      obtain⟨uk,k1⟩:=k1
      have na2:¬g2=g1:=fun h=>na h.symm
      have nb1:¬w.heap.size+1+1=g1:=by omega
      have nb2:¬w.heap.size+1+1=g2:=by omega
      have nb3:¬w.heap.size=g1:=by omega
      have nb4:¬w.heap.size=g2:=by omega
      have nb5:¬bk=g1:=by simp only at lk0;omega
      have nb6:¬bk=g2:=by simp only at lk0;omega
      have nb7:¬bl=g1:=by simp only at ll0;omega
      have nb8:¬bl=g2:=by simp only at ll0;omega
      have NB:=Lib.hid (And.intro nb1 (And.intro nb2 (And.intro nb3 (And.intro nb4 (And.intro nb5 (And.intro nb6 (And.intro nb7 (And.intro nb8 na2))))))))
      have p9:¬(m:Int)<(m:Int):=by omega
      have p10:(m:Int)<(K.length:Int)+1:=by omega
      have p11:(m:Int)≤(K.length:Int):=by omega
      have p12:m≤K.length:=by omega
      have p13:(K.length:Int)<(e.ks.length:Int):=by omega
      have p14:(K.length:Int)<(e.l.length:Int):=by omega
      have p15:IntKind.i64.wrap (m:Int)=(m:Int):=IntWalk.i64_in _ (by omega)
      have p16:IntKind.i64.wrap (K.length:Int)=(K.length:Int):=IntWalk.i64_in _ (by omega)
      have p17:K.length<e.ks.length:=by omega
      have p18:K.length<e.l.length:=by omega
      clear hs hbx hix hbE c0w i0w lk0 ll0 hu0 hv' hks nb1 nb2 nb3 nb4 nb5 nb6 nb7 nb8 na na2 hmq hmq2
      go_upto_region 15 with(fail)
      have S1:(fun w'=>w'.cell? ⟨w.heap.size+1+1,2,none⟩=some (.slice (some ⟨g1,0,none⟩) (K.length+1) co)∧w'.cell? ⟨w.heap.size+1+1,3,none⟩=some (.slice (some ⟨g2,0,none⟩) (K.length+1) co3)∧w'.cell? ⟨w.heap.size,2,none⟩=some (.slice (some ⟨bk,ok,none⟩) e.ks.length e2)∧w'.cell? ⟨w.heap.size,3,none⟩=some (.slice (some ⟨bl,ol,none⟩) e.l.length e3)∧w'.cell? ⟨bk,ok+K.length,none⟩=some (.string (e.ks[K.length]'(by omega)))∧w'.cell? ⟨bl,ol+K.length * 6,none⟩=some (.int .i64 u0.k)∧w'.cell? ⟨bl,ol+K.length * 6+1,none⟩=some (.int .i64 u0.n)∧w'.cell? ⟨bl,ol+K.length * 6+2,none⟩=some (.float .f64 u0.f)∧w'.cell? ⟨bl,ol+K.length * 6+3,none⟩=some (.string u0.s)∧w'.cell? ⟨bl,ol+K.length * 6+4,none⟩=some (.slice z4 u0.ks.length g4)∧w'.cell? ⟨bl,ol+K.length * 6+5,none⟩=some (.slice z5 u0.l.length g5)) wx.drew:=⟨q2 2,q2 3,q0 2,q0 3,c0,i0,i1,i2,i3,i4,i5⟩
      refine wp_region_held_drew (S:=(fun w'=>w'.cell? ⟨w.heap.size+1+1,2,none⟩=some (.slice (some ⟨g1,0,none⟩) (K.length+1) co)∧w'.cell? ⟨w.heap.size+1+1,3,none⟩=some (.slice (some ⟨g2,0,none⟩) (K.length+1) co3)∧w'.cell? ⟨w.heap.size,2,none⟩=some (.slice (some ⟨bk,ok,none⟩) e.ks.length e2)∧w'.cell? ⟨w.heap.size,3,none⟩=some (.slice (some ⟨bl,ol,none⟩) e.l.length e3)∧w'.cell? ⟨bk,ok+K.length,none⟩=some (.string (e.ks[K.length]'(by omega)))∧w'.cell? ⟨bl,ol+K.length * 6,none⟩=some (.int .i64 u0.k)∧w'.cell? ⟨bl,ol+K.length * 6+1,none⟩=some (.int .i64 u0.n)∧w'.cell? ⟨bl,ol+K.length * 6+2,none⟩=some (.float .f64 u0.f)∧w'.cell? ⟨bl,ol+K.length * 6+3,none⟩=some (.string u0.s)∧w'.cell? ⟨bl,ol+K.length * 6+4,none⟩=some (.slice z4 u0.ks.length g4)∧w'.cell? ⟨bl,ol+K.length * 6+5,none⟩=some (.slice z5 u0.l.length g5))) (by kernel_rfl) S1 (fun hHeld=> ?_)
      refine tk 0 ?_
      try simp only [Act.put,tka,tkb,tkc]
      refine tk 1 ?_
      try simp only [Act.put,tka,tkb,tkc]
      refine tk 2 ?_
      try simp only [Act.put,tka,tkb,tkc]
      refine tk 3 ?_
      try simp only [Act.put,tka,tkb,tkc]
      refine tk 4 ?_
      try simp only [Act.put,tka,tkb,tkc]
      refine tk 5 ?_
      try simp only [Act.put,tka,tkb,tkc]
      refine tk 6 ?_
      try simp only [Act.put,tka,tkb,tkc]
      refine tk 7 ?_
      try simp only [Act.put,tka,tkb,tkc]
      refine tk 8 ?_
      try simp only [Act.put,tka,tkb,tkc]
      refine tk 9 ?_
      try simp only [Act.put,tka,tkb,tkc]
      refine tk 10 ?_
      try simp only [Act.put,tka,tkb,tkc]
      refine tk 11 ?_
      try simp only [Act.put,tka,tkb,tkc]
      refine tk 12 ?_
      try simp only [Act.put,tka,tkb,tkc]
      refine tk 13 ?_
      try simp only [Act.put,tka,tkb,tkc]
      refine tk 14 ?_
      try simp only [Act.put,tka,tkb,tkc]
      refine tk 15 ?_
      try simp only [Act.put,tka,tkb,tkc]
      refine wpAnyH_ready (rs:=[16]) (by kernel_rfl) (by simp) ?_
      refine AllReadyH.cons rfl (fun Kq hKq=> ?_) AllReadyH.nil
      go_simp
      refine(EJ u0.sz u0 (Nat.le_refl _) H _ _ wx.drew (HV2.out.2.2.below Bw.rfl.dr) HV2.out.1).mono ?_
      rintro _ w5 ⟨hb5',x4,x5,rfl,hx5⟩
      obtain⟨z6,g6,z7,g7,rfl,rfl⟩:=hx5.open
      obtain⟨cu,hcu⟩:∃c,c=Aa u0:=⟨_,rfl⟩
      rw [←hcu]at hx5⊢
      unfold Ar
      have hb5:Bw wx w5:=Bw.rfl.dr.tr hb5'
      have H5:=Lib.hid (HX.out.1.later hb5)
      have HX5:=Lib.hid (hx5.mono (hle_gXX (X:=some g1) (Y:=some g2) (HA.out.1.below H0.out.1) H0.out.2.1 HX.out.1.size (fun k hk=>by cases hk;exact lk) (fun k hk=>by cases hk;exact ll)))
      have S2:(fun w'=>w'.cell? ⟨w.heap.size+1+1,2,none⟩=some (.slice (some ⟨g1,0,none⟩) (K.length+1) co)∧w'.cell? ⟨w.heap.size+1+1,3,none⟩=some (.slice (some ⟨g2,0,none⟩) (K.length+1) co3)∧w'.cell? ⟨w.heap.size,2,none⟩=some (.slice (some ⟨bk,ok,none⟩) e.ks.length e2)∧w'.cell? ⟨w.heap.size,3,none⟩=some (.slice (some ⟨bl,ol,none⟩) e.l.length e3)∧w'.cell? ⟨bk,ok+K.length,none⟩=some (.string (e.ks[K.length]'(by omega)))∧w'.cell? ⟨bl,ol+K.length * 6,none⟩=some (.int .i64 u0.k)∧w'.cell? ⟨bl,ol+K.length * 6+1,none⟩=some (.int .i64 u0.n)∧w'.cell? ⟨bl,ol+K.length * 6+2,none⟩=some (.float .f64 u0.f)∧w'.cell? ⟨bl,ol+K.length * 6+3,none⟩=some (.string u0.s)∧w'.cell? ⟨bl,ol+K.length * 6+4,none⟩=some (.slice z4 u0.ks.length g4)∧w'.cell? ⟨bl,ol+K.length * 6+5,none⟩=some (.slice z5 u0.l.length g5)) w5:=by
       obtain⟨h1,h2,h3,h4,h5,h6,h7,h8,h9,h10,h11⟩:=S1
       exact⟨cell_later hb5' h1,cell_later hb5' h2,cell_later hb5' h3,cell_later hb5' h4,cell_later hb5' h5,cell_later hb5' h6,cell_later hb5' h7,cell_later hb5' h8,cell_later hb5' h9,cell_later hb5' h10,cell_later hb5' h11⟩
      refine hKq.out _ _ S2 (fun hHeld=> ?_)
      clear hKq Kq hcu hx5 hb5 hb5' S1 q0 f0 q2 f2 hl0 hl2 c0 i0 i1 i2 i3 i4 i5 fk lk bk1 fl ll bl1 k1
      try simp only [Act.put,tka,tkb,tkc]
      obtain⟨fk,lk,bk1⟩:=H5.out.keyFree (by rw [HX.out.2.1];omega) m
      have k1:∃u,w5.cell? ⟨g1,m,none⟩=some u:=⟨_,H5.out.keyCell m (by rw [HX.out.2.1];omega)⟩
      obtain⟨uk,k1⟩:=k1
      refine tk 17 ?_
      try simp only [Act.put,tka,tkb,tkc]
      refine wpAnyH_ready (rs:=[18]) (by kernel_rfl) (by simp) ?_
      refine AllReadyH.cons rfl (fun Kq hKq=> ?_) AllReadyH.nil
      go_simp
      obtain⟨wn,hwn⟩:∃x,x=w5.setCell ⟨g1,m,none⟩ (.string (e.ks[K.length]'(by omega))):=⟨_,rfl⟩
      have HN:Hid (SK H w0 (w.heap.size+1+1) (.slice (some ⟨g1,0,none⟩) (K.length+1) co) (.slice (some ⟨g2,0,none⟩) (K.length+1) co3) (K2.set m (e.ks[K.length]'(by omega))) L2 wn):=by
       rw [hwn];exact H5.out.keyset HX.out.2.1 (by omega) HV2.out.2.1
      have HXN:Hid (RV (gXX H (w.heap.size+1+1) (some g1) (some g2) wn) cu (.slice z6 cu.ks.length g6) (.slice z7 cu.l.length g7)):=by
       refine HX5.out.mono (DY fun k o hk e hx hy=>⟨hx,hy, ?_⟩)
       rw [hwn,Ag _ _ _ _ _ (fun e2=>hx (by rw [e2]))];exact e
      have S3:(fun w'=>w'.cell? ⟨w.heap.size+1+1,2,none⟩=some (.slice (some ⟨g1,0,none⟩) (K.length+1) co)∧w'.cell? ⟨w.heap.size+1+1,3,none⟩=some (.slice (some ⟨g2,0,none⟩) (K.length+1) co3)∧w'.cell? ⟨w.heap.size,2,none⟩=some (.slice (some ⟨bk,ok,none⟩) e.ks.length e2)∧w'.cell? ⟨w.heap.size,3,none⟩=some (.slice (some ⟨bl,ol,none⟩) e.l.length e3)∧w'.cell? ⟨bk,ok+K.length,none⟩=some (.string (e.ks[K.length]'(by omega)))∧w'.cell? ⟨bl,ol+K.length * 6,none⟩=some (.int .i64 u0.k)∧w'.cell? ⟨bl,ol+K.length * 6+1,none⟩=some (.int .i64 u0.n)∧w'.cell? ⟨bl,ol+K.length * 6+2,none⟩=some (.float .f64 u0.f)∧w'.cell? ⟨bl,ol+K.length * 6+3,none⟩=some (.string u0.s)∧w'.cell? ⟨bl,ol+K.length * 6+4,none⟩=some (.slice z4 u0.ks.length g4)∧w'.cell? ⟨bl,ol+K.length * 6+5,none⟩=some (.slice z5 u0.l.length g5)) wn:=by
       rw [hwn]
       obtain⟨nb1,nb2,nb3,nb4,nb5,nb6,nb7,nb8,na2⟩:=NB.out
       obtain⟨h1,h2,h3,h4,h5,h6,h7,h8,h9,h10,h11⟩:=S2
       exact⟨B0 h1 (by simp [nb1]),B0 h2 (by simp [nb1]),B0 h3 (by simp [nb3]),B0 h4 (by simp [nb3]),B0 h5 (by simp [nb5]),B0 h6 (by simp [nb7]),B0 h7 (by simp [nb7]),B0 h8 (by simp [nb7]),B0 h9 (by simp [nb7]),B0 h10 (by simp [nb7]),B0 h11 (by simp [nb7])⟩
      rw [←hwn]
      refine hKq.out _ _ S3 (fun hHeld=> ?_)
      clear hKq Kq hwn S2 fk lk bk1 k1
      try simp only [Act.put,tka,tkb,tkc]
      obtain⟨fl,ll,bl1⟩:=HN.out.valFree (by rw [HX.out.2.2];omega)
      obtain⟨u0',u1,u2,u3,u4,u5,w0',w1',w2',w3',w4',w5'⟩:∃u0 u1 u2 u3 u4 u5,wn.cell? ⟨g2,m * 6,none⟩=some u0∧wn.cell? ⟨g2,m * 6+1,none⟩=some u1∧wn.cell? ⟨g2,m * 6+2,none⟩=some u2∧wn.cell? ⟨g2,m * 6+3,none⟩=some u3∧wn.cell? ⟨g2,m * 6+4,none⟩=some u4∧wn.cell? ⟨g2,m * 6+5,none⟩=some u5:=⟨_,_,_,_,_,_,HN.out.valCell m (by rw [HX.out.2.2];omega)⟩
      refine tk 19 ?_
      try simp only [Act.put,tka,tkb,tkc]
      refine wpAnyH_ready (rs:=[20]) (by kernel_rfl) (by simp) ?_
      refine AllReadyH.cons rfl (fun Kq hKq=> ?_) AllReadyH.nil
      go_simp
      obtain⟨wo,hwo⟩:∃x,x=(((((wn.setCell ⟨g2,m * 6,none⟩ (.int .i64 cu.k)).setCell ⟨g2,m * 6+1,none⟩ (.int .i64 cu.n)).setCell ⟨g2,m * 6+2,none⟩ (.float .f64 cu.f)).setCell ⟨g2,m * 6+3,none⟩ (.string cu.s)).setCell ⟨g2,m * 6+4,none⟩ (.slice z6 cu.ks.length g6)).setCell ⟨g2,m * 6+5,none⟩ (.slice z7 cu.l.length g7):=⟨_,rfl⟩
      have HO:=Lib.hid (HN.out.valset (t:=⟨cu, .slice z6 cu.ks.length g6, .slice z7 cu.l.length g7⟩) (i:=m) HX.out.2.2 (by omega) HXN.out hwo)
      have S4:(fun w'=>w'.cell? ⟨w.heap.size+1+1,2,none⟩=some (.slice (some ⟨g1,0,none⟩) (K.length+1) co)∧w'.cell? ⟨w.heap.size+1+1,3,none⟩=some (.slice (some ⟨g2,0,none⟩) (K.length+1) co3)∧w'.cell? ⟨w.heap.size,2,none⟩=some (.slice (some ⟨bk,ok,none⟩) e.ks.length e2)∧w'.cell? ⟨w.heap.size,3,none⟩=some (.slice (some ⟨bl,ol,none⟩) e.l.length e3)∧w'.cell? ⟨bk,ok+K.length,none⟩=some (.string (e.ks[K.length]'(by omega)))∧w'.cell? ⟨bl,ol+K.length * 6,none⟩=some (.int .i64 u0.k)∧w'.cell? ⟨bl,ol+K.length * 6+1,none⟩=some (.int .i64 u0.n)∧w'.cell? ⟨bl,ol+K.length * 6+2,none⟩=some (.float .f64 u0.f)∧w'.cell? ⟨bl,ol+K.length * 6+3,none⟩=some (.string u0.s)∧w'.cell? ⟨bl,ol+K.length * 6+4,none⟩=some (.slice z4 u0.ks.length g4)∧w'.cell? ⟨bl,ol+K.length * 6+5,none⟩=some (.slice z5 u0.l.length g5)) wo:=by
       rw [hwo]
       obtain⟨nb1,nb2,nb3,nb4,nb5,nb6,nb7,nb8,na2⟩:=NB.out
       obtain⟨h1,h2,h3,h4,h5,h6,h7,h8,h9,h10,h11⟩:=S3
       refine⟨?_, ?_, ?_, ?_, ?_, ?_, ?_, ?_, ?_, ?_, ?_⟩
       all_goals repeat refine B0 ?_ (by simp [nb2,nb4,nb6,nb8];done)
       ·exact h1
       ·exact h2
       ·exact h3
       ·exact h4
       ·exact h5
       ·exact h6
       ·exact h7
       ·exact h8
       ·exact h9
       ·exact h10
       ·exact h11
      rw [←hwo]
      refine hKq.out _ _ S4 (fun hHeld=> ?_)
      clear hKq Kq hwo S3 S4 fl ll bl1 w0' w1' w2' w3' w4' w5'
      refine wpAnyH_done (by kernel_rfl) ?_ _
      go_wp2_with fail
      go_roundw
      case rel=>exact⟨_,_,_,_,by simp [HX.out.2.1],by rw [List.length_set,HX.out.2.1];omega,by rw [List.length_set,List.length_set,HX.out.2.1,HX.out.2.2],HO.out⟩
      case measure=>simp [intOf];omega
  ·have p1:¬(K.length:Int)<(n:Int):=by omega
   have HU:Hid (RE (A6 H w (((((((((((wq.setCell ⟨w.heap.size+1,0,none⟩ (.int .i64 1)).setCell ⟨w.heap.size+1,1,none⟩ (.string ⟨#[]⟩)).setCell ⟨w.heap.size+1,2,none⟩ (.slice ak K.length ck)).setCell ⟨w.heap.size+1,3,none⟩ (.slice al L.length cl)).setCell ⟨w.heap.size+1,4,none⟩ (.int .i64 0)).setCell ⟨w.heap.size+1,5,none⟩ (.int .i64 0)).setCell ⟨w.heap.size+1,6,none⟩ (.float .f64 0)).setCell ⟨w.heap.size+1,7,none⟩ (.string ⟨#[]⟩)).setCell ⟨w.heap.size+1,8,none⟩ (.slice none 0 0)).setCell ⟨w.heap.size+1,9,none⟩ (.slice none 0 0)).setCell ⟨w.heap.size+1,10,none⟩ (.int .i64 0))) (skE K L) (.slice ak K.length ck) (.slice al L.length cl) (.slice none 0 0) (.slice none 0 0)):=
    HSK.out.1.shut HA.out.1 (by omega) (fun k o hk he=>by
     have hk1:¬k=w.heap.size+1:=by omega
     rw [Ag _ _ _ _ _ hk1,Ag _ _ _ _ _ hk1,Ag _ _ _ _ _ hk1,Ag _ _ _ _ _ hk1,Ag _ _ _ _ _ hk1,Ag _ _ _ _ _ hk1,Ag _ _ _ _ _ hk1,Ag _ _ _ _ _ hk1,Ag _ _ _ _ _ hk1,Ag _ _ _ _ _ hk1,Ag _ _ _ _ _ hk1];exact he) (by have:=HL.out.1;omega) (by have:=HL.out.1;have:=HSK.out.2;omega)
   go_wp2_with fail
   refine bodyPost_ret (v:=Dl (skE K L) (.slice ak K.length ck) (.slice al L.length cl) (.slice none 0 0) (.slice none 0 0)) (by simp [results,Tryz.results133,go_sem,q1,Dl,skE,Ay]) rfl ⟨?_,_,_,_,_,_,rfl,HU.out⟩
   have h1:=H0.out.1.tr HSK.out.1.bw
   repeat with_reducible (first|exact h1|refine Bw.set ?_ (by omega) _ _)
end
section
open Go Go.RowKit
def RetDef (H:Hp)(w:World):Ending→World→Prop:=fun e w'=>Bw w w'∧∃v x4 x5 ok,e= .returned (.tuple #[Ar v x4 x5, .bool ok])∧RV (A6 H w w') v x4 x5
def vboxZ:Obj:= .cells #[.int .i64 0, .int .i64 0, .float .f64 0, .string ⟨#[]⟩, .slice none 0 0, .slice none 0 0] 35
theorem hle_kd {H:Hp}{w w3 w1 wx w2 wf:World}(hi:Imm H w)(hs:w.heap.size≤w3.heap.size)(h1x:Bw w1 wx)(hx2:Bw wx w2)(h3x:w3.heap.size≤wx.heap.size)(hf:∀k o,w3.heap.size≤k→w2.heap[k]?=some o→wf.heap[k]?=some o):
  Hle (A6 (A6 H w3 w1) wx w2) (A6 H w wf):=by
 intro k o e
 unfold A6 at e⊢
 by_cases hx:k<wx.heap.size
 ·rw [if_pos hx]at e
  by_cases h3:k<w3.heap.size
  ·rw [if_pos h3]at e
   rw [if_pos (A0 (hi k o e))];exact e
  ·rw [if_neg h3]at e
   rw [if_neg (by omega)];exact hf k o (by omega) (A2 (h1x.tr hx2) e)
 ·rw [if_neg hx]at e
  rw [if_neg (by omega)];exact hf k o (by omega) e
theorem keyDefault_c (s:List Ax)(l:B3)(key:ByteArray)(H:Hp)(xs x1 x2 xk:Value)(w:World)(hi:Imm H w)(hs:DH H s xs)(hl:D4 H l x1 x2 xk):
  Calls Tryz.prog 132 #[E1 xs,aggL l x1 x2 xk, .string key] w (RetDef H w):=by
 have HR:=Lib.hid (fun r y1 y2 w0 h0 h1=>Eg H s r xs y1 y2 w0 h0 hs h1)
 have HI:=Lib.hid hi
 obtain⟨aq,cq,rfl,_⟩:=hs
 obtain⟨_,hk,hr⟩:=C8.1 hl
 obtain⟨a1,c1,a2,c2,rfl,rfl⟩:=hr.open
 obtain⟨ak,ck,rfl,_⟩:=hk
 have HLR:=Lib.hid hr
 clear hi hl hr
 go_enter Tryz.func132,Tryz.ntmps132
 go_wp2_with fail
 refine(HR.out l.elem _ _ _ (HI.out.below Co) HLR.out).mono ?_
 clear HR
 rintro e w1 hpost
 unfold Cx at hpost
 obtain⟨hb1,hpost⟩:=hpost
 have hz:=A2 hb1 ET
 have HB1:=Lib.hid (Co.tr hb1:Bw w w1)
 have HZ1:=Lib.hid hz
 clear hz
 cases hqr:AJ s l.elem with
 |none=>
  rw [hqr]at hpost
  simp only at hpost
  subst hpost
  obtain⟨q0,f0⟩:=A1 HZ1.out
  have hl0:=A0 HZ1.out
  obtain⟨t0,t1,t2,t3,_⟩:=ltx hl0
  clear hb1 hqr
  go_wp2_with fail
  refine bodyPost_ret (v:= .tuple #[Ar Ay (.slice none 0 0) (.slice none 0 0), .bool false]) (by simp [results,Tryz.results132,go_sem,q0,Ar,Ay,t0,t1,t2,t3]) rfl ⟨?_,_,_,_,_,rfl,RV.zero⟩
  repeat with_reducible (first|exact HB1.out|refine Bw.al ?_ _|refine Bw.dr ?_|refine Bw.set ?_ (by omega) _ _)
 |some a=>
  rw [hqr]at hpost
  obtain⟨z1,z2,rfl,ha⟩:=hpost
  obtain⟨w3,hw3⟩:∃w3,w3=((w.alloc (.cells #[.slice aq s.length cq] 24)).alloc (.cells #[.bool l.elem.named, .string l.elem.name, .string l.elem.atom.sc, .slice a1 l.elem.atom.li.length c1, .slice a2 l.elem.atom.ma.length c2, .string l.elem.rel, .string l.rel, .slice ak l.keys.length ck] 67)).alloc vboxZ:=⟨_,rfl⟩
  have H3:Hid (Bw w w3∧w3.heap.size=w.heap.size+3∧Bw w3 w1∧BQ (A6 H w3 w1) a z1 z2):=by subst hw3;exact⟨Co,by simp,hb1,ha⟩
  clear hb1 ha hw3
  have hig:Imm (A6 H w3 w1) w1:=Imm.grow (HI.out.below H3.out.1) H3.out.2.2.1
  obtain⟨_,⟨g1,k1,rfl,_⟩,⟨g2,k2,rfl,_,hlg2,hcg2,hatg2⟩⟩:=Bd.1 H3.out.2.2.2
  unfold lim at hlg2
  obtain⟨q0,f0⟩:=A1 HZ1.out
  have hl0:=A0 HZ1.out
  obtain⟨t0,t1,t2,t3,_⟩:=ltx hl0
  rcases hma:a.ma with _|⟨m,mr⟩
  ·have hml0:((a.ma.length:Int)==0)=true:=by rw [hma];rfl
   have hml1:(a.ma.length:Int)=0:=by rw [hma];rfl
   clear hqr hma hatg2
   go_wp2_with fail
   refine bodyPost_ret (v:= .tuple #[Ar Ay (.slice none 0 0) (.slice none 0 0), .bool false]) (by simp [results,Tryz.results132,go_sem,q0,Ar,Ay,t0,t1,t2,t3]) rfl ⟨?_,_,_,_,_,rfl,RV.zero⟩
   repeat with_reducible (first|exact HB1.out|refine Bw.al ?_ _|refine Bw.dr ?_|refine Bw.set ?_ (by omega) _ _)
  ·obtain⟨n,hn⟩:∃n,n=(m::mr).length:=⟨_,rfl⟩
   have hn0:0<n:=by rw [hn];simp
   have hml0:((n:Int)==0)=false:=pos_ne hn0
   have hml1:¬(n:Int)=0:=by omega
   have hml2:(0:Int)<(n:Int):=by omega
   obtain⟨wa,hwa⟩:∃wa,wa=w1.alloc (.cells #[.string a.sc, .slice g1 a.li.length k1, .slice g2 (m::mr).length k2] 28):=⟨_,rfl⟩
   have HA:Hid (Bw w1 wa∧wa.heap[w1.heap.size]?=some (.cells #[.string a.sc, .slice g1 a.li.length k1, .slice g2 (m::mr).length k2] 28)):=by subst hwa;exact⟨A5,b1_0⟩
   have hat2:=hatg2
   rw [hma]at hat2
   obtain⟨b,o,af,cf,y1,d1,y2,d2,rfl,hm,i0,i1,i2,i3,i4,i5,i6,i7⟩:=hat2.look0 (hig.below HA.out.1)
   have HM:=Lib.hid (And.intro hm hig)
   clear hqr hma hatg2 hat2 hm hig q0 f0 hl0 t0 t1 t2 t3
   go_upto_region 2 with(fail)
   simp only [List.length_cons]at hwa hn HA
   rw [←hwa]
   rw [←hn]at HA
   clear hwa hn
   obtain⟨qa,fa⟩:=A1 HA.out.2
   obtain⟨q0,f0⟩:=A1 (A2 HA.out.1 HZ1.out)
   have hla:=A0 HA.out.2
   have hl0:=A0 (A2 HA.out.1 HZ1.out)
   go_wp2_with fail
   refine(findF_c (A6 H w3 w1) m key _ _ _ wa (HM.out.2.below HA.out.1) (Cl.1 HM.out.1).2.1).mono ?_
   rintro _ w2 ⟨hb2,hpost⟩
   have H2:Hid (Bw w1 w2):=Lib.hid (HA.out.1.tr hb2)
   clear i0 i1 i2 i3 i4 i5 i6 i7 qa fa q0 f0 hla hl0
   obtain⟨q0,f0⟩:=A1 (A2 H2.out HZ1.out)
   have hl0:=A0 (A2 H2.out HZ1.out)
   clear hb2
   cases hff:EI m.fields key with
   |none=>
    rw [hff]at hpost
    simp only at hpost
    subst hpost
    clear hff
    obtain⟨t0,t1,t2,t3,_⟩:=ltx hl0
    go_wp2_with fail
    refine bodyPost_ret (v:= .tuple #[Ar Ay (.slice none 0 0) (.slice none 0 0), .bool false]) (by simp [results,Tryz.results132,go_sem,q0,Ar,Ay,t0,t1,t2,t3]) rfl ⟨?_,_,_,_,_,rfl,RV.zero⟩
    have h1:=HB1.out.tr H2.out
    repeat with_reducible (first|exact h1|refine Bw.al ?_ _|refine Bw.dr ?_|refine Bw.set ?_ (by omega) _ _)
   |some f=>
    rw [hff]at hpost
    obtain⟨x1,x2,xd,rfl,hf⟩:=hpost
    obtain⟨_,hfr,hfd⟩:=C3.1 hf
    obtain⟨l1,e1,l2,e2,rfl,rfl⟩:=hfr.open
    obtain⟨ad,cd,rfl,_,hld,hcd,had⟩:=hfd
    unfold lim at hld
    clear hff hf hfr
    unfold aggF
    obtain⟨wx,hwx⟩:∃x,x=w2.alloc (.cells #[.string f.name, .bool f.type.named, .string f.type.name, .string f.type.atom.sc, .slice l1 f.type.atom.li.length e1, .slice l2 f.type.atom.ma.length e2, .string f.type.rel, .slice ad f.dflt.length cd] 45):=⟨_,rfl⟩
    have HX:Hid (Bw w1 wx∧wx.heap[w2.heap.size]?=some (.cells #[.string f.name, .bool f.type.named, .string f.type.name, .string f.type.atom.sc, .slice l1 f.type.atom.li.length e1, .slice l2 f.type.atom.ma.length e2, .string f.type.rel, .slice ad f.dflt.length cd] 45)):=by subst hwx;exact⟨H2.out.al _,b1_0⟩
    clear q0 f0 hl0
    by_cases h0:0<f.dflt.length
    ·have hn3:((f.dflt.length:Int)==0)=false:=pos_ne h0
     have hn4:¬(f.dflt.length:Int)=0:=by omega
     have hn5:(0:Int)<(f.dflt.length:Int):=by omega
     go_upto_region 5 with(fail)
     rw [←hwx]
     clear hwx
     obtain⟨qx,fx⟩:=A1 HX.out.2
     obtain⟨q0,f0⟩:=A1 (A2 HX.out.1 HZ1.out)
     have hlx:=A0 HX.out.2
     have hl0:=A0 (A2 HX.out.1 HZ1.out)
     have hix:=HM.out.2.below HX.out.1
     obtain⟨bd,od,r4,s4,r5,s5,rfl,hv',i0,i1,i2,i3,i4,i5⟩:=had.look hix h0
     have HV:=Lib.hid (And.intro hv' hix)
     simp only [Nat.zero_mul,Nat.add_zero]at i0 i1 i2 i3 i4 i5
     clear had hv' hix
     go_wp2_with fail
     refine(EJ (f.dflt[0]).sz _ (Nat.le_refl _) (A6 H w3 w1) _ _ wx HV.out.2 HV.out.1).mono ?_
     rintro _ w5 ⟨hb5,x4,x5,rfl,hx5⟩
     obtain⟨z6,g6,z7,g7,rfl,rfl⟩:=hx5.open
     obtain⟨cu,hcu⟩:∃c,c=Aa (f.dflt[0]):=⟨_,rfl⟩
     rw [←hcu]at hx5⊢
     unfold Ar
     have H5:=Lib.hid (And.intro hb5 hx5)
     clear hx5 hb5 hcu qx fx q0 f0 hlx hl0 i0 i1 i2 i3 i4 i5
     obtain⟨q0,f0⟩:=A1 (A2 H5.out.1 (A2 HX.out.1 HZ1.out))
     have hl0:=A0 (A2 H5.out.1 (A2 HX.out.1 HZ1.out))
     obtain⟨t0,t1,t2,t3,_⟩:=ltx hl0
     go_wp2_with fail
     refine bodyPost_ret (v:= .tuple #[Ar cu (.slice z6 cu.ks.length g6) (.slice z7 cu.l.length g7), .bool true]) (by simp [results,Tryz.results132,go_sem,q0,Ar,t0,t1,t2,t3]) rfl ⟨?_,_,_,_,_,rfl,H5.out.2.mono (hle_kd HI.out (by have:=H3.out.2.1;omega) HX.out.1 H5.out.1 (by have:=H3.out.2.2.1.size;have:=HX.out.1.size;omega) (fun k o hk he=> ?_))⟩
     ·have h1:=(HB1.out.tr HX.out.1).tr H5.out.1
      repeat with_reducible (first|exact h1|refine Bw.al ?_ _|refine Bw.dr ?_|refine Bw.set ?_ (by omega) _ _)
     ·have hk1:¬k=w.heap.size+1+1:=by have:=H3.out.2.1;omega
      rw [Ag _ _ _ _ _ hk1,Ag _ _ _ _ _ hk1,Ag _ _ _ _ _ hk1,Ag _ _ _ _ _ hk1,Ag _ _ _ _ _ hk1,Ag _ _ _ _ _ hk1];exact he
    ·have hn3:((f.dflt.length:Int)==0)=true:=by rw [show f.dflt.length=0 by omega];rfl
     have hn4:(f.dflt.length:Int)=0:=by omega
     obtain⟨qx,fx⟩:=A1 HX.out.2
     obtain⟨q0,f0⟩:=A1 (A2 HX.out.1 HZ1.out)
     have hlx:=A0 HX.out.2
     have hl0:=A0 (A2 HX.out.1 HZ1.out)
     go_upto_region 5 with(fail)
     rw [←hwx]
     clear hwx
     obtain⟨t0,t1,t2,t3,_⟩:=ltx hl0
     go_wp2_with fail
     refine bodyPost_ret (v:= .tuple #[Ar Ay (.slice none 0 0) (.slice none 0 0), .bool false]) (by simp [results,Tryz.results132,go_sem,q0,Ar,Ay,t0,t1,t2,t3]) rfl ⟨?_,_,_,_,_,rfl,RV.zero⟩
     have h1:=HB1.out.tr HX.out.1
     repeat with_reducible (first|exact h1|refine Bw.al ?_ _|refine Bw.dr ?_|refine Bw.set ?_ (by omega) _ _)
end
end Go.Proofs.YtmghkmhgpmcoaaaGreat
