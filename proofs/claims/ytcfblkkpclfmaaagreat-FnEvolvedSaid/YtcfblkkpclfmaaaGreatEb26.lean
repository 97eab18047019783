/- Part 26 of the proof of FnEvolved; no condition. -/
import Derived.Test.YtcfblkkpclfmaaaGreatEb19
import Derived.Test.YtcfblkkpclfmaaaGreatEb03
set_option linter.unusedVariables false
set_option linter.unusedSimpArgs false
set_option maxRecDepth 100000
set_option maxHeartbeats 16000000
namespace Go.Proofs.YtcfblkkpclfmaaaGreat
theorem Small.kids{v:Val}(h:Small v):v.kids.length<=1000/\∀c∈v.kids,Small c:=by cases h;exact⟨by assumption,by assumption⟩
theorem Small.slots{v:Val}(h:Small v):v.slots.length<=1000/\∀s∈v.slots,Small s.val:=by cases h;exact⟨by assumption,by assumption⟩
theorem Good.small{v:Val}(h:Good v):Small v:=by
 induction h with
 | mk k e n t ns ks ss hk hnum htext hnums hkids hslots helem lt ln lk ls h13 h17 hk14 hk16 hgk hmer hgs hd1 hd2 h10 ihk ihs =>
  exact .mk k e n t ns ks ss (by omega) (by omega) ihk ihs
theorem both_small:∀(a b c:Val),Small a->Small b->both a b=some c->Small c:=by
 intro a;induction a using Val.ind with
 | h k e n t ns ks ss ihk ihs =>
  intro b c ha hb hc;obtain⟨b1,b2,b3,b4,b5,b6,b7,b8,b9⟩:=both_some hc;obtain⟨sl,si⟩:=bothS_some _ _ _ b8;have hka:=ha.kids;have hsa:=ha.slots;have hkb:=hb.kids;have hsb:=hb.slots;cases c with
  | mk k2 e2 n2 t2 ns2 ks2 ss2 =>
   have sl:ss2.length=ss.length:=sl;have b9:bothK ks b.kids=some ks2:=b9;have hk2:ks2.length<=1000/\∀x∈ks2,Small x:=by
    cases ks with
    | nil =>
     rw[bothK] at b9;injection b9 with b9;rw[<-b9];exact hkb
    | cons x r =>
     cases hbk:b.kids with
     | nil =>
      rw[hbk,bothK] at b9;injection b9 with b9;rw[<-b9];exact hka
     | cons y u =>
      rw[hbk,bothK] at b9;cases hxy:both x y with
      | none=>rw[hxy] at b9;cases b9
      | some z =>
       rw[hxy] at b9;have b9:some [z]=some ks2:=b9;injection b9 with b9;subst b9;refine⟨by simp,λq hq=>?_⟩;rw[List.mem_singleton.1 hq];exact ihk x (List.mem_cons_self ..) y z (hka.2 x (List.mem_cons_self ..)) (hkb.2 y (by rw[hbk];exact List.mem_cons_self ..)) hxy
   refine .mk k2 e2 n2 t2 ns2 ks2 ss2 hk2.1 (by have:=hsa.1;have h0:ss.length<=1000:=this;omega) hk2.2 (λs hs=>?_);obtain⟨i,hi,rfl⟩:=List.getElem_of_mem hs;have hi1:i<ss.length:=(by omega);have hi2:i<b.slots.length:=(by have h3:ss.length=b.slots.length:=b3;omega);exact ihs ss[i] (List.getElem_mem hi1) _ _ (hsa.2 _ (List.getElem_mem hi1)) (hsb.2 _ (List.getElem_mem hi2)) (si i hi1 hi2 hi).1
theorem fold_small:∀(r:List Val) (a m:Val),Small a->(∀x∈r,Small x)->r.foldlM both a=some m->Small m
 | [],a,m,ha,_,h=>by
  have h:some a=some m:=h;injection h with h;rw[<-h];exact ha
 | b::r,a,m,ha,hr,h=>by
  rw[List.foldlM_cons] at h;cases hab:both a b with
  | none=>rw[hab] at h;cases h
  | some c =>
   rw[hab] at h;exact fold_small r c m (both_small a b c ha (hr b (List.mem_cons_self ..)) hab) (λx hx=>hr x (List.mem_cons_of_mem _ hx)) h
def shapeK(k:Nat)(ks:List Val):List Val:=if k=16 then (match ks with|[]=>[]|_::_=>(match merged ks with|some m=>[m]|none=>[])) else []
theorem shape_def2(v:Val):shape v=.mk v.kind v.elem 0 (if v.kind=17 then List.replicate v.text.length 0 else []) [] (shapeK v.kind v.kids) (v.slots.map λs=>⟨false,shape s.val,s.dflt⟩):=shape_def v
theorem merged_small{ks:List Val}{m:Val}(h:merged ks=some m)(hs:∀v∈ks,Small (shape v))(hne:ks≠[]):Small m:=by
 cases ks with
 | nil=>exact absurd rfl hne
 | cons a r =>
  unfold merged at h;rw[List.map_cons,foldBoth] at h;refine fold_small _ _ _ (hs a (List.mem_cons_self ..)) (λy hy=>?_) h;obtain⟨z,hz,rfl⟩:=List.mem_map.1 hy;exact hs z (List.mem_cons_of_mem _ hz)
theorem shapeK_small(k:Nat)(ks:List Val)(hs:∀v∈ks,Small (shape v)):(shapeK k ks).length<=1000/\∀x∈shapeK k ks,Small x:=by
 unfold shapeK;split
 ·cases ks with
  | nil=>exact⟨by simp,λx hx=>by cases hx⟩
  | cons a r =>
   cases hm:merged (a::r) with
   | none=>exact⟨by simp,λx hx=>by cases hx⟩
   | some m =>
    refine⟨by simp,λx hx=>?_⟩;rw[List.mem_singleton.1 hx];exact merged_small hm hs (by simp)
 ·exact⟨by simp,λx hx=>by cases hx⟩
theorem good_small_shape{v:Val}(h:Good v):Small (shape v):=by
 induction h with
 | mk k e n t ns ks ss hk hnum htext hnums hkids hslots helem lt ln lk ls h13 h17 hk14 hk16 hgk hmer hgs hd1 hd2 h10 ihk ihs =>
  rw[shape_def2];have hkk:=shapeK_small k ks ihk;refine .mk _ _ _ _ _ _ _ hkk.1 (by rw[List.length_map];show ss.length<=1000;omega) hkk.2 (λs hs=>?_);obtain⟨q,hq,rfl⟩:=List.mem_map.1 hs;exact ihs q hq
end Go.Proofs.YtcfblkkpclfmaaaGreat
