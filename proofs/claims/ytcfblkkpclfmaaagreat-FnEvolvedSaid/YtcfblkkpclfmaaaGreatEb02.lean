/- Part 2 of the proof of FnEvolved; no condition. -/
import Derived.Test.YtcfblkkpclfmaaaGreatEb01
import Derived.Deep.RegionHeld
import Derived.RegionTactic
set_option linter.unusedVariables false
set_option linter.unusedSimpArgs false
set_option maxRecDepth 100000
set_option maxHeartbeats 16000000
namespace Go.Proofs.YtcfblkkpclfmaaaGreat
open Go.RowKit
section
variable {P:Program} {Q:Exit->Act->World->Prop}
def Ahead(P:Program)(ops:Array Oper)(k:Nat)(Q:Exit->Act->World->Prop):Exit->Act->World->Prop
 | .normal,a,w=>wpOp P ops Q k (Q .normal) a w
 | e,a,w=>Q e a w
theorem wpOp_other{ops ops':Array Oper}{i:Nat}{o:Oper}{K K':Act->World->Prop}{Q Q':Exit->Act->World->Prop}{a:Act}{w:World}(h1:ops[i]?=some o)(h2:ops'[i]?=some o)(hg:o.guard=none)
  (hK:∀a w,K a w->K' a w) (hQ:∀e a w,e≠.normal->Q e a w->Q' e a w) (h:wpOp P ops Q i K a w):wpOp P ops' Q' i K' a w:=by
 have hw:∀y,Region.wanted o y=true:=λy=>by simp[Region.wanted,hg]
 unfold wpOp at *;rw[h1] at h;rw[h2];simp only[hw,if_true] at h ⊢;rcases h with h|⟨h,hl⟩
 ·left
  unfold Oper.wp at *;generalize (execOp a.eval o).run P w=r at *;cases r with
  | ok n w' =>
   cases n<;>simp only[Oper.upon] at h ⊢ <;>
    first
     | exact hK _ _ h
     | exact Calls.mono h (λe w'' he=>by
       cases e
       ·exact hK _ _ he
       ·exact hQ _ _ _ (by simp) he
       ·obtain⟨a,w,he⟩:=he;exact⟨a,w,hQ _ _ _ (by simp) he⟩)
     | exact Rows.mono h (λ_ _ he=>hK _ _ he)
  | halt x w' =>
   cases x<;>simp only[Oper.upon] at h ⊢<;>exact hQ _ _ _ (by simp) h
 ·obtain⟨a,w,hl⟩:=hl;exact .inr ⟨h,a,w,hQ _ _ _ (by simp) hl⟩
theorem any_snoc{l:List Oper}{o:Oper}(hel:earlier l.toArray=true)(heo:earlier (l++[o]).toArray=true)(hre:allReach (l++[o]).toArray l.length=true)
  (hg:(l++[o]).all (λx=>x.guard.isNone)=true):
  ∀(fuel:Nat) (listed:Array Bool) (a:Act) (w:World),listed.size=l.length->(∀j oj,l[j]?=some oj->listed.getD j false=true->∀e∈oj.after,Region.binds .any e=true->listed.getD e.on false=true) ->
   wpAny P .any l.toArray (Ahead P (l++[o]).toArray l.length Q) fuel listed a w->wpAny P .any (l++[o]).toArray Q (fuel+1) (listed.push false) a w:=by
 -- what is ready in the whole
 have hget:∀i,i<l.length->(l++[o]).toArray[i]?=l.toArray[i]?:=λi hi=>by simp[List.getElem?_append_left hi]
 have hlastop:(l++[o]).toArray[l.length]?=some o:=by simp
 have hlt:∀(listed:Array Bool),listed.size=l.length->∀i,i<l.length->(i∈Region.ready .any (l++[o]).toArray (listed.push false) ↔ i∈Region.ready .any l.toArray listed):=by
  intro listed hs i hi;rw[mem_ready,mem_ready,getD_push_lt (by omega),hget i hi];simp only[getD_push_false]
 have hlast:∀(listed:Array Bool),listed.size=l.length->(∀j oj,l[j]?=some oj->listed.getD j false=true->∀e∈oj.after,Region.binds .any e=true->listed.getD e.on false=true) ->
   l.length∈Region.ready .any (l++[o]).toArray (listed.push false)->∀i,i<l.length->listed.getD i false=true:=by
  intro listed hs hcl hr i hi;obtain⟨_,o',ho',hall⟩:=mem_ready.1 hr;rw[hlastop] at ho';injection ho' with ho';subst ho';simp only[getD_push_false] at hall;have h1:=(List.all_eq_true.1 hre) i (List.mem_range.2 hi);unfold reach at h1;rw[hlastop] at h1;simp only[List.any_eq_true,Bool.and_eq_true,Bool.or_eq_true,beq_iff_eq] at h1;obtain⟨e,he,hb,hor⟩:=h1;have hel2:=hall e (by simpa using he) hb;rcases hor with h|h
  ·rw[<-h];exact hel2
  ·refine reach_listed (ops:=(l++[o]).toArray) (λj oj hoj hj e' he' hb'=>?_) _ _ h hel2;by_cases hjl:j<l.length
   ·rw[hget j hjl] at hoj;exact hcl j oj (by simpa using hoj) hj e' he' hb'
   ·simp[Array.getD,hs,hjl] at hj
 have hdone:∀(listed:Array Bool),listed.size=l.length->(∀i,i<l.length->listed.getD i false=true)->Region.ready .any (l++[o]).toArray ((listed.push false).setIfInBounds l.length true)=[]:=by
  intro listed hs hall;cases hr:Region.ready .any (l++[o]).toArray ((listed.push false).setIfInBounds l.length true) with
  | nil=>rfl
  | cons j r =>
   exfalso
   have hj:j∈Region.ready .any (l++[o]).toArray ((listed.push false).setIfInBounds l.length true):=(by rw[hr];simp);obtain⟨h1,o',ho',_⟩:=mem_ready.1 hj;have hjs:=(Array.getElem?_eq_some_iff.1 ho').1;simp at hjs;by_cases e:j=l.length
   ·subst e;simp[Array.getD,hs] at h1
   ·have h2:=hall j (by omega);have hjl:j<listed.size:=(by omega);have h3:(listed.push false).getD j true=true:=by
     rw[getD_push_lt hjl];simp only[Array.getD,hjl,dif_pos] at h2 ⊢;exact h2
    have h4:((listed.push false).setIfInBounds l.length true).getD j true=(listed.push false).getD j true:=by
     have hjp:j<(listed.push false).size:=(by simp;omega);simp only[Array.getD,Array.size_setIfInBounds,hjp,dif_pos];exact Array.getElem_setIfInBounds_ne hjp (λx=>e x.symm)
    rw[h4,h3] at h1;cases h1
 have hempty:∀(listed:Array Bool),listed.size=l.length->Region.ready .any (l++[o]).toArray (listed.push false)=[]->False:=by
  intro listed hs hr;have h1:Region.ready .any l.toArray listed=[]:=by
   cases h:Region.ready .any l.toArray listed with
   | nil=>rfl
   | cons j r =>
    exfalso
    have hj:j∈Region.ready .any l.toArray listed:=(by rw[h];simp);have hjs:j<l.length:=by
     obtain⟨_,o',ho',_⟩:=mem_ready.1 hj;simpa using (Array.getElem?_eq_some_iff.1 ho').1
    have:=(hlt listed hs j hjs).2 hj
    rw[hr] at this;cases this
  have hall:=ready_all hel (by simpa using hs) h1;have h2:l.length∈Region.ready .any (l++[o]).toArray (listed.push false):=mem_ready.2 ⟨getD_push_at hs.symm,o,hlastop,λe he hb=>by
   rw[getD_push_false];obtain⟨_,h3⟩:=earlier_rank heo l.length o hlastop e he hb;exact hall e.on (by simpa using h3)⟩
  rw[hr] at h2;cases h2
 have hno:∀(x:Oper) (y:Nat->Option Bool),x∈l++[o]->Region.wanted x y=true:=by
  intro x y hx;have:=(List.all_eq_true.1 hg) x hx
  unfold Region.wanted;cases hx2:x.guard with
  | none=>rfl
  | some g=>rw[hx2] at this;cases this
 have hnone:∀(x:Oper),x∈l++[o]->x.guard=none:=by
  intro x hx;have:=(List.all_eq_true.1 hg) x hx
  cases hx2:x.guard with
  | none=>rfl
  | some g=>rw[hx2] at this;cases this
 intro fuel;induction fuel with
 | zero =>
  intro listed a w hs hcl h;have hall:=ready_all hel (by simpa using hs) h.1;refine⟨λhr=>(hempty listed hs hr).elim,λi hi=>?_⟩;have hil:i=l.length:=by
   by_cases e:i<l.length
   ·have:=(hlt listed hs i e).1 hi
    rw[h.1] at this;cases this
   ·obtain⟨_,o',ho',_⟩:=mem_ready.1 hi;have:=(Array.getElem?_eq_some_iff.1 ho').1
    simp at this;omega
  subst hil;exact wpOp_mono (λa' w' hq=>⟨hdone listed hs hall,hq⟩) h.2
 | succ fuel ih =>
  intro listed a w hs hcl h;refine⟨λhr=>(hempty listed hs hr).elim,λi hi=>?_⟩;by_cases e:i<l.length
  ·have hr:=(hlt listed hs i e).1 hi;have hq:=h.2 i hr;have hl:l.toArray[i]?=some l[i]:=(by simp[e]);refine wpOp_other hl (by rw[hget i e];exact hl) (hnone _ (List.mem_append_left _ (List.getElem_mem e))) (λa' w' hK=>?_) (λex a' w' hne h=>by cases ex<;>first|exact absurd rfl hne|exact h) hq;have hcl2:∀j oj,l[j]?=some oj->(listed.setIfInBounds i true).getD j false=true->∀e∈oj.after,Region.binds .any e=true->(listed.setIfInBounds i true).getD e.on false=true:=by
    intro j oj hoj hj e' he' hb';by_cases hij:j=i
    ·subst hij;obtain⟨_,o',ho',hall⟩:=mem_ready.1 hr;have e1:o'=oj:=by
      have:l.toArray[j]?=some oj:=by simpa using hoj
      rw[this] at ho';injection ho' with h;exact h.symm
     subst e1;exact set_mono (hall e' he' hb')
    ·exact set_mono (hcl j oj hoj (set_true hj hij) e' he' hb')
   have:=ih (listed.setIfInBounds i true) a' w' (by simpa using hs) hcl2 hK
   have e2:(listed.setIfInBounds i true).push false=(listed.push false).setIfInBounds i true:=push_set (by omega);rw[e2] at this;exact this
  ·have hil:i=l.length:=by
    obtain⟨_,o',ho',_⟩:=mem_ready.1 hi;have:=(Array.getElem?_eq_some_iff.1 ho').1
    simp at this;omega
   subst hil;have hall:=hlast listed hs hcl hi;have hr0:Region.ready .any l.toArray listed=[]:=by
    cases hrr:Region.ready .any l.toArray listed with
    | nil=>rfl
    | cons j r =>
     exfalso
     have hj:j∈Region.ready .any l.toArray listed:=(by rw[hrr];simp);obtain⟨h1,o',ho',_⟩:=mem_ready.1 hj;have hjl:j<l.length:=(by simpa using (Array.getElem?_eq_some_iff.1 ho').1);have h2:=hall j hjl;have hjs:j<listed.size:=(by omega);simp only[Array.getD,hjs,dif_pos] at h1 h2;rw[h2] at h1;cases h1
   exact wpOp_mono (λa' w' hq=>⟨λ_=>hq,λi hi=>by rw[hdone listed hs hall] at hi;cases hi⟩) (h.1 hr0)
def wpTail(P:Program)(ops:Array Oper)(Q:Exit->Act->World->Prop):Nat->List Oper->Act->World->Prop
 | _,[],a,w=>Q .normal a w
 | k,_::r,a,w=>wpOp P ops Q k (wpTail P ops Q (k+1) r) a w
def tailB:List Oper->List Oper->Bool
 | l,[]=>true
 | l,o::r=>earlier l.toArray&&earlier (l++[o]).toArray&&allReach (l++[o]).toArray l.length&&(l++[o]).all (λx=>x.guard.isNone)&&tailB (l++[o]) r
def Tailed(P:Program)(ops:Array Oper)(k:Nat)(t:List Oper)(Q:Exit->Act->World->Prop):Exit->Act->World->Prop
 | .normal,a,w=>wpTail P ops Q k t a w
 | e,a,w=>Q e a w
theorem any_mono{ops:Array Oper}{Q Q':Exit->Act->World->Prop}(hQ:∀e a w,Q e a w->Q' e a w)(hg:ops.toList.all (λx=>x.guard.isNone)=true):∀(fuel:Nat) (listed:Array Bool) (a:Act) (w:World),wpAny P .any ops Q fuel listed a w->wpAny P .any ops Q' fuel listed a w
 | 0,_,_,_,h=>⟨h.1,hQ _ _ _ h.2⟩
 | fuel+1,listed,a,w,h=>⟨λhr=>hQ _ _ _ (h.1 hr),λi hi=>by
   obtain⟨_,o',ho',_⟩:=mem_ready.1 hi;have hn:o'.guard=none:=by
    have hm:o'∈ops.toList:=by
     obtain⟨hi2,e⟩:=Array.getElem?_eq_some_iff.1 ho';rw[<-e];simp
    have:=(List.all_eq_true.1 hg) o' hm
    cases hx2:o'.guard with
    | none=>rfl
    | some g=>rw[hx2] at this;cases this
   exact wpOp_other ho' ho' hn (λa' w' hK=>any_mono hQ hg fuel _ _ _ hK) (λe a w _ h=>hQ e a w h) (h.2 i hi)⟩
theorem any_tail:∀(t l:List Oper) (a:Act) (w:World),tailB l t=true->l.all (λx=>x.guard.isNone)=true->wpAny P .any l.toArray (Tailed P (l++t).toArray l.length t Q) l.length (Array.replicate l.length false) a w ->
  wpAny P .any (l++t).toArray Q (l++t).length (Array.replicate (l++t).length false) a w
 | [],l,a,w,_,hgl,h=>by
  rw[List.append_nil];exact any_mono (λe a w h=>by cases e<;>first|exact h) (by simpa using hgl) _ _ _ _ h
 | o::r,l,a,w,hb,hgl,h=>by
  simp only[tailB,Bool.and_eq_true] at hb;obtain⟨⟨⟨⟨h1,h2⟩,h3⟩,h4⟩,h5⟩:=hb;have e1:l++o::r=(l++[o])++r:=by simp
  have hon:o.guard=none:=by
   have:=(List.all_eq_true.1 h4) o (by simp)
   cases hx2:o.guard with
   | none=>rfl
   | some g=>rw[hx2] at this;cases this
  rw[e1] at h ⊢;refine any_tail r (l++[o]) a w h5 h4 ?_;have h6:wpAny P .any l.toArray (Ahead P (l++[o]).toArray l.length (Tailed P (l++[o]++r).toArray (l++[o]).length r Q)) l.length (Array.replicate l.length false) a w:=by
   refine any_mono (λe a w h=>?_) (by simpa using hgl) _ _ _ _ h;cases e
   case normal =>
    refine wpOp_other (o:=o) (by simp) (by simp) hon (λa' w' hK=>?_) (λe a w hne h=>by cases e<;>first|exact absurd rfl hne|exact h) h;show wpTail P _ Q (l++[o]).length r a' w';rw[List.length_append];exact hK
   all_goals exact h
  have h7:=any_snoc h1 h2 h3 h4 l.length (Array.replicate l.length false) a w (by simp) (λj oj _ hj=>by simp[Array.getD] at hj) h6;have e:(Array.replicate l.length false).push false=Array.replicate (l++[o]).length false:=by
   rw[<-Array.replicate_succ];simp
  rw[e] at h7;simpa using h7
theorem wp_region_tail_held(n:Nat){S:World->Prop}{id:Nat}{a:Act}{w:World}(ops:List Oper)(hm:P.follows .mixedOrders=true)(ht:tailB (ops.take n) (ops.drop n)=true)(hg:(ops.take n).all (λx=>x.guard.isNone)=true)(hS:S w.drew)
  (h:S w.drew->wpAnyH P .any (ops.take n).toArray (Tailed P ops.toArray (ops.take n).length (ops.drop n) Q) S (ops.take n).length (Array.replicate (ops.take n).length false) a w.drew):(Code.region id ops.toArray true).wp P Q a w:=by
 refine wp_region_any hm ?_;have h1:=wpAny_of_held _ _ _ _ (h hS);have h2:=any_tail (P:=P) (Q:=Q) (ops.drop n) (ops.take n) a w.drew ht hg (by rw[List.take_append_drop];exact h1);rw[List.take_append_drop] at h2;exact h2
theorem step_append_run{y:Nat->Option Bool}{w w2:World}{o:Oper}{a:Act}{K:Act->World->Prop}{E:Prop}(hgd:o.guard=none)(s x:Operand)(t:TypeId)
  (ho:o.op=.call { callee:=.builtin .append,args:=#[s,x],argTypes:=#[t,t] }) (r vs vx:Value) (hs:a.eval s=vs) (hx:a.eval x=vx)
  (hr:(Builtin.append_ #[t,t] o.type #[vs,vx]).run P w=.ok r w2) (h:K (a.put o.dst r) w2):if Region.wanted o y=true then Oper.wp P o a w K Q else E:=by
 have hw:Region.wanted o y=true:=by simp[Region.wanted,hgd]
 rw[if_pos hw];unfold Oper.wp execOp;simp only[ho,resolve,invoke,builtin,Sem.run_bind,Sem.run_pure,Result.andThen_ok,List.map_toArray,List.map_cons,List.map_nil,hs,hx,hr];exact h
theorem wpTail_step{ops:Array Oper}{k:Nat}{o:Oper}{r:List Oper}{a:Act}{w:World}(ho:ops[k]?=some o)
  (h:∀K':Act->World->Prop,(∀a w,wpTail P ops Q (k+1) r a w->K' a w)->if Region.wanted o (yielded ops a.tmps)=true then Oper.wp P o a w K' Q else K' (a.put o.dst undef) w):wpTail P ops Q k (o::r) a w:=wpOp_step ho h
theorem wpTail_nil{ops:Array Oper}{k:Nat}{a:Act}{w:World}(h:Q .normal a w):wpTail P ops Q k [] a w:=h
end
end Go.Proofs.YtcfblkkpclfmaaaGreat
