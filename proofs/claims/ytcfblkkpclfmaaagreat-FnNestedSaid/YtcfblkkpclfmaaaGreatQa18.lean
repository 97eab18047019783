/- Part 18 of the proof of FnRead (Laid4). No condition is laid on the statement. -/
import Derived.Test.YtcfblkkpclfmaaaGreatQa17
set_option linter.unusedVariables false
set_option linter.unusedSimpArgs false
set_option maxRecDepth 100000
set_option maxHeartbeats 16000000
namespace Go.Proofs.YtcfblkkpclfmaaaGreat
open Go.RowKit Go.Maps
inductive Bld:Val->Prop
 | mk (k e n:Nat) (t:List UInt8) (ns:List Nat) (ks:List Val) (ss:List (Slt Val)) (hk:k<=17) (lt:t.length<=1000) (ln:ns.length<=200) (lk:ks.length<=200) (ls:ss.length<=60)
  (h13:k=13->e<=10/\∀x∈ns,OkNum e x) (h17:k=17->(e=1\/e=2\/e=4\/e=8)/\0<t.length/\t.length<=64)
  (hk14:k=14->∀v∈ks,v.kind=11) (hk16:k=16->∀v∈ks,v.kind=15) (hgk:∀v∈ks,Bld v) (hgs:∀s∈ss,s.has=true->Bld s.val) (hd2:∀s∈ss,s.has=true->s.val.kind<=10->OkNum s.val.kind s.dflt)
  (h10:k<=10->OkNum k n):Bld (.mk k e n t ns ks ss)
theorem Good.bld{v:Val}(h:Good v):Bld v:=by
 induction h with
 | mk k e n t ns ks ss hk hnum htext hnums hkids hslots helem lt ln lk ls h13 h17 hk14 hk16 hgk hmer hgs hd1 hd2 h10 ihk ihs =>
  refine .mk k e n t ns ks ss hk lt ln lk ls h13 (λh=>?_) hk14 hk16 ihk (λs hs _=>ihs s hs) (λs hs _=>hd2 s hs) h10;obtain⟨a,b,c,d⟩:=h17 h;exact⟨a,List.length_pos_iff.2 b,c⟩
theorem Bld.num{v:Val}(h:Bld v)(hk:v.kind<=10):OkNum v.kind v.num:=by
 cases h with
 | mk k e n t ns ks ss hk' lt ln lk ls h13 h17 hk14 hk16 hgk hgs hd2 h10=>exact h10 hk
theorem Bld.str{v:Val}(h:Bld v)(hk:v.kind=17):(v.elem=1\/v.elem=2\/v.elem=4\/v.elem=8)/\0<v.text.length/\v.text.length<=64:=by
 cases h with
 | mk k e n t ns ks ss hk' lt ln lk ls h13 h17 hk14 hk16 hgk hgs hd2 h10=>exact h17 hk
theorem StInv.growD{st:BSt}{m':BM}{i k d:Nat}(h:StInv st i)(g:Grow st.m m' k)(hk:k<=5000*d):StInv { st with m:=m' } (i+d):=by
 obtain⟨xs,hx,hxl⟩:=g.bytes;have hl:=g.len;refine⟨⟨λv hvm=>?_,λl hl'=>?_,by have:=h.inv.oend;show st.oend<=m'.bytes.length;omega,h.inv.many⟩,g.least h.least,by have:=h.many;show st.vts.length<=_;omega,by have:=h.sh;show Maps.size (st.shared.getD _)<=_;omega,by have:=h.len;show m'.bytes.length<=_;omega⟩
 ·have:=h.inv.vts v hvm
  show v<=m'.bytes.length/\4<=vtLen m' v/\vtLen m' v<=v;rw[vtLen_app hx v this.1];omega
 ·have:=h.inv.vtab l hl'
  exact⟨this.1,λx hx=>by have:=this.2 x hx;show x<=m'.bytes.length;omega⟩
theorem StInv.le{st:BSt}{i j:Nat}(h:StInv st i)(hij:i<=j):StInv st j :=
 ⟨h.inv,h.least,by have:=h.many;omega,by have:=h.sh;omega,by have:=h.len;omega⟩
theorem StInv.sharedStr{st st':BSt}{t:List UInt8}{o i:Nat}(h:StInv st i)(ht:t.length<=1000)(e:st.sharedStr t=some (o,st')):StInv st' (i+1):=by
 unfold BSt.sharedStr at e;split at e
 ·injection e with e;injection e with _ e;subst e;have:=h.up
  exact⟨⟨this.inv.vts,this.inv.vtab,this.inv.oend,this.inv.many⟩,this.least,this.many,this.sh,this.len⟩
 ·cases hc:BSt.created { st with shared:=some (st.shared.getD (.map [])) } t true with
  | none=>rw[hc] at e;cases e
  | some p =>
   rw[hc] at e;injection e with e;injection e with _ e;subst e;have h0:StInv { st with shared:=some (st.shared.getD (.map [])) } i:=⟨⟨h.inv.vts,h.inv.vtab,h.inv.oend,h.inv.many⟩,h.least,h.many,h.sh,h.len⟩;have h1:=h0.created ht hc;refine⟨⟨h1.inv.vts,h1.inv.vtab,h1.inv.oend,h1.inv.many⟩,h1.least,h1.many,?_,h1.len⟩;have:=put_size (st.shared.getD (.map [])) (.string t) (.lit (.int .u32 p.1))
   have:=h.sh
   show Maps.size ((st.shared.getD (.map [])).put (.string t) (.lit (.int .u32 p.1)))<=i+1;omega
theorem StInv.text{sh:Bool}{st st':BSt}{t:List UInt8}{o i:Nat}(h:StInv st i)(ht:t.length<=1000)(e:bText sh t st=some (o,st')):StInv st' (i+1):=by
 cases sh with
 | true=>exact h.sharedStr ht e
 | false=>exact h.created ht e
theorem bNums_grow(k:Nat)(hk:k<=10)(m:BM):∀ns:List Nat,Grow m (bNums k ns m) (40*ns.length)
 | []=>Grow.refl m
 | n::r=>by
  rw[bNums_cons,List.length_cons];exact ((bNums_grow k hk m r).trans (Grow.scalar _ (k:=(k:Int)) n (by omega) (by omega))).mono (by omega)
theorem bOffs_grow:∀(os:List Nat) (st st':BSt),bOffs os st=some st'->∃m,st'={ st with m:=m }/\Grow st.m m (40*os.length)
 | [],st,st',e=>by
  injection e with e;exact⟨st.m,e.symm,Grow.refl _⟩
 | o::r,st,st',e=>by
  have e':(bOffs r st).bind (λs=>s.refer o)=some st':=e;cases h:bOffs r st with
  | none=>rw[h] at e';cases e'
  | some s1 =>
   rw[h,Option.bind_some] at e';obtain⟨m,rfl,g⟩:=bOffs_grow r st s1 h;unfold BSt.refer at e';cases hm:BM.refer m o with
   | none=>simp only[hm] at e';cases e'
   | some m2 =>
    simp only[hm] at e';injection e' with e';exact⟨m2,e'.symm,by rw[List.length_cons];exact (g.trans (Grow.refer hm)).mono (by omega)⟩
theorem startVec_grow(m:BM)(z n:Nat)(hz:algn z):Grow m ((m.prep 4 (z*n)).prep z (z*n)) 32:=(Grow.prep m 4 _ (by unfold algn;omega)).trans (Grow.prep _ z _ hz)
theorem endVec_some{st st':BSt}{n o:Nat}(e:st.endVec n=some (o,st')):st'={ st with m:=st.m.put (leB 4 n),nested:=false }:=by
 unfold BSt.endVec at e;split at e
 ·split at e
  ·cases e
  ·injection e with e;injection e with _ e;exact e.symm
 ·cases e
theorem StInv.scalars{st st':BSt}{k o i:Nat}{ns:List Nat}(h:StInv st i)(hk:k<=10)(hl:ns.length<=200)(e:bScalars k ns st=some (o,st')):StInv st' (i+2):=by
 have ha:=numSize_algn (k:=(k:Int)) (by omega) (by omega);unfold bScalars BSt.startVec at e;split at e
 ·cases e
 ·rw[Option.bind_some] at e;have:=endVec_some e
  subst this;have g:=((startVec_grow st.m (numSize k) ns.length ha).trans (bNums_grow k hk _ ns)).trans (Grow.put _ (leB 4 ns.length));exact (h.growD (d:=2) g (by rw[leB_length];omega)).same rfl rfl rfl rfl rfl
theorem StInv.vec{st st':BSt}{o i:Nat}{os:List Nat}(h:StInv st i)(hl:os.length<=200)(e:bVec os st=some (o,st')):StInv st' (i+2):=by
 unfold bVec BSt.startVec at e;split at e
 ·cases e
 ·rw[Option.bind_some] at e;cases hb:bOffs os { st with m:=(st.m.prep 4 (4*os.length)).prep 4 (4*os.length),nested:=true } with
  | none=>simp only[hb] at e;cases e
  | some s1 =>
   simp only[hb,Option.bind_some] at e;have:=endVec_some e
   subst this;obtain⟨m,rfl,g⟩:=bOffs_grow _ _ _ hb;have g2:=((startVec_grow st.m 4 os.length (by unfold algn;omega)).trans g).trans (Grow.put _ (leB 4 os.length));exact (h.growD (d:=2) g2 (by rw[leB_length];omega)).same rfl rfl rfl rfl rfl
theorem slot_some{st st':BSt}{i:Int}(e:st.slot i=some st'):st'.m=st.m:=by
 unfold BSt.slot at e;split at e
 ·cases e
 ·split at e
  ·injection e with e;rw[<-e]
  ·cases e
theorem bField_grow{i o:Nat}{s:Slt Val}{st st':BSt}{B:List UInt8}(hs:SlotOk B s o)(e:bField i s o st=some st'):Grow st.m st'.m 80:=by
 unfold bField at e;split at e
 ·injection e with e;subst e;exact (Grow.refl _).mono (by omega)
 ·rename_i hh
  have ht:s.has=true:=by cases hx:s.has<;>simp_all
  split at e
  ·rename_i hk
   unfold BSt.prepSlot at e;split at e
   ·injection e with e;subst e;exact (Grow.refl _).mono (by omega)
   ·rw[slot_some e];exact (Grow.scalar st.m (k:=(s.val.kind:Int)) s.val.num (by omega) (by omega)).mono (by omega)
  ·split at e
   ·rename_i h17
    obtain⟨he,_,ht2⟩:=hs.str ht h17;have ha:algn s.val.elem:=(by unfold algn;omega);have e1:BSt.structSlot { st with m:=(st.m.prep s.val.elem s.val.text.length).put s.val.text } i ((st.m.prep s.val.elem s.val.text.length).put s.val.text).bytes.length 0=some st':=e;clear e;have e:=e1;unfold BSt.structSlot at e;have g:Grow st.m ((st.m.prep s.val.elem s.val.text.length).put s.val.text) 80:=((Grow.prep st.m _ _ ha).trans (Grow.put _ _)).mono (by omega);split at e
    ·injection e with e;subst e;exact g
    ·split at e
     ·split at e
      ·rw[slot_some e];exact g
      ·cases e
     ·cases e
   ·unfold BSt.offSlot at e;split at e
    ·injection e with e;subst e;exact (Grow.refl _).mono (by omega)
    ·unfold BSt.refer at e;cases hm:BM.refer st.m o with
     | none=>simp only[hm] at e;cases e
     | some m2 =>
      simp only[hm,Option.map_some,Option.bind_some] at e;rw[slot_some e];exact (Grow.refer hm).mono (by omega)
theorem bFields_grow{B:List UInt8}:∀(ss:List (Slt Val)) (os:List Nat) (i:Nat) (st st':BSt),(∀j (h:j<ss.length) (h2:j<os.length),SlotOk B ss[j] os[j])->bFields i ss os st=some st'->Grow st.m st'.m (80*ss.length)
 | [],_,i,st,st',_,e=>by
  have e':some st=some st':=by cases ‹List Nat›<;>exact e
  injection e' with e';subst e';exact Grow.refl _
 | s::r,[],i,st,st',_,e=>by
  injection e with e;subst e;exact (Grow.refl _).mono (by omega)
 | s::r,o::os,i,st,st',h,e=>by
  have e':(bField i s o st).bind (λst'=>bFields (i+1) r os st')=some st':=e;cases hb:bField i s o st with
  | none=>rw[hb] at e';cases e'
  | some s1 =>
   rw[hb,Option.bind_some] at e';have g1:=bField_grow (h 0 (by simp) (by simp)) hb;have g2:=bFields_grow r os (i+1) s1 st' (λj h1 h2=>h (j+1) (by simpa using h1) (by simpa using h2)) e';exact (g1.trans g2).mono (by rw[List.length_cons];omega)
structure Out(st st':BSt)(i:Nat):Prop where
 nested:st'.nested=false
 pi:PI st'
 put:Put st st'
 inv:StInv st' i
def LaidAt(sh:Bool)(v:Val):Prop:=Bld v->¬v.kind<=10->v.kind≠17->∀(st:BSt) (i:Nat),st.nested=false->PI st->StInv st i->i+2*nodes v<=300->∃o st',bElse sh v st=some (o,st')/\Out st st' (i+2*nodes v)/\0<o/\o<=st'.m.bytes.length/\LObj true st'.m.bytes v o
theorem LText.len{al:Bool}{B t:List UInt8}{r:Nat}(h:LText al B t r):r<=B.length:=h.1.len
theorem nodes_pos(v:Val):1<=nodes v:=by cases v with|mk k e n t ns ks ss=>rw[nodes];omega
theorem texts_laid(sh:Bool):∀(ks:List Val) (st:BSt) (i:Nat),(∀v∈ks,v.text.length<=1000)->st.nested=false->PI st->StInv st i->∃os st',bTexts sh ks st=some (os,st')/\Out st st' (i+2*nodesL ks)/\os.length=ks.length/\∀j (h:j<ks.length) (h2:j<os.length),0<os[j]/\os[j]<=st'.m.bytes.length/\LText true st'.m.bytes ks[j].text os[j]
 | [],st,i,_,hn,hp,hi=>⟨[],st,rfl,⟨hn,hp,Put.refl _,hi.le (by omega)⟩,rfl,λj h=>by simp at h⟩
 | v::r,st,i,hl,hn,hp,hi=>by
  obtain⟨o,st1,e1,n1,p1,u1,o1,t1⟩:=text_laid sh st v.text hn hp;have i1:=hi.text (hl v (by simp)) e1;obtain⟨os,st2,e2,h2,hlen,hj⟩:=texts_laid sh r st1 (i+1) (λx hx=>hl x (by simp[hx])) n1 p1 i1;obtain⟨xs,hx⟩:=h2.put.bytes;have hnp:=nodes_pos v;refine⟨o::os,st2,?_,⟨h2.nested,h2.pi,u1.trans h2.put,h2.inv.le (by rw[nodesL];omega)⟩,by rw[List.length_cons,List.length_cons,hlen],λj h h'=>?_⟩
  ·rw[bTexts_cons,e1,Option.bind_some,e2];rfl
  ·cases j with
   | zero =>
    have:=t1.len
    have:=h2.put.len
    exact⟨o1,by show o<=_;omega,by show LText true st2.m.bytes v.text o;rw[hx];exact t1.app xs⟩
   | succ j=>exact hj j (by simpa using h) (by simpa using h')
theorem kids_laid(sh:Bool):∀(ks:List Val) (st:BSt) (i:Nat),(∀v∈ks,LaidAt sh v/\Bld v/\v.kind=15)->st.nested=false->PI st->StInv st i->i+2*nodesL ks<=300->∃os st',bKids sh ks st=some (os,st')/\Out st st' (i+2*nodesL ks)/\os.length=ks.length/\∀j (h:j<ks.length) (h2:j<os.length),0<os[j]/\os[j]<=st'.m.bytes.length/\LTab true st'.m.bytes ks[j] os[j]
 | [],st,i,_,hn,hp,hi,_=>⟨[],st,rfl,⟨hn,hp,Put.refl _,hi.le (by omega)⟩,rfl,λj h=>by simp at h⟩
 | v::r,st,i,hl,hn,hp,hi,hb=>by
  rw[nodesL] at hb ⊢;obtain⟨ha,hbv,hk⟩:=hl v (by simp);obtain⟨o,st1,e1,h1,o1,o2,t1⟩:=ha hbv (by omega) (by omega) st i hn hp hi (by omega);have e1':bTab sh v st=some (o,st1):=by rw[<-bElse_tab sh v st hk];exact e1
  have t1':LTab true st1.m.bytes v o:=by
   cases v with
   | mk k e n t ns ks ss =>
    have hk':k=15:=hk;subst hk';rw[LTab];rw[LObj] at t1;simpa using t1
  obtain⟨os,st2,e2,h2,hlen,hj⟩:=kids_laid sh r st1 (i+2*nodes v) (λx hx=>hl x (by simp[hx])) h1.nested h1.pi h1.inv (by omega);obtain⟨xs,hx⟩:=h2.put.bytes;refine⟨o::os,st2,?_,⟨h2.nested,h2.pi,h1.put.trans h2.put,h2.inv.le (by omega)⟩,by rw[List.length_cons,List.length_cons,hlen],λj h h'=>?_⟩
  ·rw[bKids,e1',Option.bind_some,e2];rfl
  ·cases j with
   | zero =>
    have:=h2.put.len
    exact⟨o1,by show o<=_;omega,by show LTab true st2.m.bytes v o;rw[hx];exact LTab_app true _ xs _ _ t1'⟩
   | succ j=>exact hj j (by simpa using h) (by simpa using h')
theorem slots_laid(sh:Bool):∀(ss:List (Slt Val)) (st:BSt) (i:Nat),(∀s∈ss,s.has=true->LaidAt sh s.val/\Bld s.val/\(s.val.kind<=10->OkNum s.val.kind s.dflt))->st.nested=false->PI st->StInv st i->i+2*nodesS ss<=300->∃os st',bSlots sh ss st=some (os,st')/\Out st st' (i+2*nodesS ss)/\os.length=ss.length/\∀j (h:j<ss.length) (h2:j<os.length),SlotOk st'.m.bytes ss[j] os[j]
 | [],st,i,_,hn,hp,hi,_=>⟨[],st,rfl,⟨hn,hp,Put.refl _,hi.le (by omega)⟩,rfl,λj h=>by simp at h⟩
 | s::r,st,i,hl,hn,hp,hi,hb=>by
  rw[nodesS_cons] at hb ⊢;have hnp:=nodes_pos s.val;have key:∃o st1,bSlot sh s st=some (o,st1)/\Out st st1 (i+2*nodes s.val)/\SlotOk st1.m.bytes s o:=by
   rw[bSlot_def];cases hh:s.has with
   | false=>exact⟨0,st,rfl,⟨hn,hp,Put.refl _,hi.le (by omega)⟩,⟨(λh=>by rw[hh] at h;cases h),(λh=>by rw[hh] at h;cases h),(λh=>by rw[hh] at h;cases h)⟩⟩
   | true =>
    obtain⟨ha,hbv,hd⟩:=hl s (by simp) hh;have hnum:s.has=true->s.val.kind<=10->OkNum s.val.kind s.val.num/\OkNum s.val.kind s.dflt:=λ_ hk=>⟨hbv.num hk,hd hk⟩;have hstr:s.has=true->s.val.kind=17->(s.val.elem=1\/s.val.elem=2\/s.val.elem=4\/s.val.elem=8)/\0<s.val.text.length/\s.val.text.length<=64:=λ_ hk=>hbv.str hk;by_cases hk:s.val.kind<=10\/s.val.kind=17
    ·refine⟨0,st,?_,⟨hn,hp,Put.refl _,hi.le (by omega)⟩,⟨hnum,hstr,λ_ h1 h2=>by omega⟩⟩;show bElse sh s.val st=_;cases hv:s.val with
     | mk k e n t ns ks ss =>
      rw[hv] at hk;have hk':k<=10\/k=17:=hk;rw[bElse,if_neg (by omega),if_neg (by omega),if_neg (by omega),if_neg (by omega),if_neg (by omega),if_neg (by omega)]
    ·obtain⟨o,st1,e1,h1,o1,o2,t1⟩:=ha hbv (by omega) (by omega) st i hn hp hi (by omega);exact⟨o,st1,e1,h1,⟨hnum,hstr,λ_ _ _=>⟨o1,o2,t1⟩⟩⟩
  obtain⟨o,st1,e1,h1,s1⟩:=key;obtain⟨os,st2,e2,h2,hlen,hj⟩:=slots_laid sh r st1 (i+2*nodes s.val) (λx hx=>hl x (by simp[hx])) h1.nested h1.pi h1.inv (by omega);obtain⟨xs,hx⟩:=h2.put.bytes;refine⟨o::os,st2,?_,⟨h2.nested,h2.pi,h1.put.trans h2.put,h2.inv.le (by omega)⟩,by rw[List.length_cons,List.length_cons,hlen],λj h h'=>?_⟩
  ·rw[bSlots,e1,Option.bind_some,e2];rfl
  ·cases j with
   | zero =>
    have hpl:=h2.put.len;refine⟨s1.num,s1.str,λa b c=>?_⟩;obtain⟨q1,q2,q3⟩:=s1.obj a b c;exact⟨q1,by show o<=_;omega,by show LObj true st2.m.bytes s.val o;rw[hx];exact LObj_app true _ xs _ _ q3⟩
   | succ j=>exact hj j (by simpa using h) (by simpa using h')
theorem obj_laid(sh:Bool)(ss:List (Slt Val))(st:BSt)(i:Nat)(hls:ss.length<=60)(hl:∀s∈ss,s.has=true->LaidAt sh s.val/\Bld s.val/\(s.val.kind<=10->OkNum s.val.kind s.dflt))(hn:st.nested=false)(hp:PI st)(hi:StInv st i)(hb:i+2*nodesS ss+2<=300):
  ∃o st',((bSlots sh ss st).bind λp=>(p.2.startObj ss.length).bind λst1=>(bFields 0 ss p.1 st1).bind λst2=>st2.endObj)=some (o,st')/\Out st st' (i+2*nodesS ss+2)/\0<o/\o<=st'.m.bytes.length/\TabHead true st'.m.bytes o/\LSlots true st'.m.bytes ss 0 o:=by
 obtain⟨os,st1,e1,h1,hlen,hj⟩:=slots_laid sh ss st i hl hn hp hi (by omega);have hlen1:=h1.inv.len;have es:st1.startObj ss.length=some { st1 with nested:=true,vtab:=some (List.replicate ss.length 0),oend:=st1.m.bytes.length }:=by
  unfold BSt.startObj;rw[h1.nested];rfl
 have hF:FI st1 { st1 with nested:=true,vtab:=some (List.replicate ss.length 0),oend:=st1.m.bytes.length } ss.length 0 ss (List.replicate ss.length 0) :=
  ⟨rfl,by simp,λj _ _ h=>by omega,λj hl _=>by simp,⟨[],rfl⟩,by simp,rfl,rfl,rfl,rfl,rfl⟩
 obtain⟨st2,l,e2,hF2⟩:=bFields_laid (st0:=st1) (n:=ss.length) (ss:=ss) rfl (by omega) os hlen (λj h=>hj j h (by omega)) ss.length 0 _ _ (by omega) hF;rw[List.drop_zero,List.drop_zero] at e2;have g2:Grow st1.m st2.m (80*ss.length):=bFields_grow (B:=st1.m.bytes) ss os 0 { st1 with nested:=true,vtab:=some (List.replicate ss.length 0),oend:=st1.m.bytes.length } st2 (λj a b=>hj j a b) e2;obtain⟨o,st3,e3,n3,p3,u3,o1,o2,t1,t2⟩:=end_laid hF2 h1.pi hls (by omega);have i2:StInv st2 (i+2*nodesS ss+1):=by
  refine h1.inv.grow g2 (by omega) (λl' hl'=>?_) hF2.vts ?_ ?_
  ·rw[hF2.vtab] at hl';injection hl' with hl';subst hl';refine⟨by rw[hF2.len];omega,λx hx=>?_⟩;obtain⟨j,hjl,rfl⟩:=List.getElem_of_mem hx;have:=hF2.some j (by have:=hF2.len;omega) hjl (by have:=hF2.len;omega)
   split at this
   ·exact this.2.1
   ·omega
  ·rw[hF2.oend];exact g2.len.1
  ·rw[hF2.shared];have:=h1.inv.sh;omega
 have e3':st2.endObj=some (st2.vt1.bytes.length,{ st2.writeVt with nested:=false }):=by
  unfold BSt.endObj;rw[if_pos hF2.nested]
 have i3:=i2.writeVt (by omega);rw[e3'] at e3;injection e3 with e3;injection e3 with ea eb;rw[eb] at i3 e3';rw[ea] at e3';refine⟨o,st3,?_,⟨n3,p3,h1.put.trans u3,i3⟩,o1,o2,t1,t2⟩;rw[e1,Option.bind_some];show (st1.startObj ss.length).bind _=_;rw[es,Option.bind_some];show (bFields 0 ss os _).bind _=_;rw[e2,Option.bind_some,e3']
theorem else_laid(sh:Bool):∀v,LaidAt sh v:=by
 intro v;induction v using Val.ind with
 | h k e n t ns ks ss ihk ihs =>
  intro hb h10 h17 st i hn hp hi hbd;rw[nodes] at hbd ⊢;have h10':¬k<=10:=h10;have h17':k≠17:=h17;cases hb with
  | mk _ _ _ _ _ _ _ hk lt ln lk ls h13 hst hk14 hk16 hgk hgs hd2 hnum =>
   have hslots:∀s∈ss,s.has=true->LaidAt sh s.val/\Bld s.val/\(s.val.kind<=10->OkNum s.val.kind s.dflt):=λs hs hh=>⟨ihs s hs,hgs s hs hh,hd2 s hs hh⟩;rw[bElse];unfold LObj;by_cases h11:k=11
   ·rw[if_pos h11];simp only[if_pos h11];obtain⟨o,st',e1,a1,a2,a3,a4,a5⟩:=text_laid sh st t hn hp;have e2:(if sh=true then st.sharedStr t else st.created t true)=some (o,st'):=e1;exact⟨o,st',e2,⟨a1,a2,a3,(hi.text lt e1).le (by omega)⟩,a4,a5.len,a5⟩
   rw[if_neg h11];simp only[if_neg h11];by_cases h12:k=12
   ·rw[if_pos h12];simp only[if_pos h12];obtain⟨o,st',e1,a1,a2,a3,a4,a5,a6,a7⟩:=created_laid st t false hn;exact⟨o,st',e1,⟨a1,hp.put a4 a2 a3,a4,(hi.created lt e1).le (by omega)⟩,by omega,by omega,a7⟩
   rw[if_neg h12];simp only[if_neg h12];by_cases h13':k=13
   ·rw[if_pos h13'];simp only[if_pos h13'];obtain⟨he,hok⟩:=h13 h13';obtain⟨o,st',e1,a1,a2,a3,a4,a5,a6⟩:=scalars_laid st e ns he hok hn;exact⟨o,st',e1,⟨a1,hp.put a4 a2 a3,a4,(hi.scalars he ln e1).le (by omega)⟩,a5,a6.1.len,a6⟩
   rw[if_neg h13'];simp only[if_neg h13'];by_cases h14:k=14
   ·rw[if_pos h14];simp only[if_pos h14];obtain⟨os,st1,e1,h1,hlen,hj⟩:=texts_laid sh ks st i (λv hv=>by
     have:=hgk v hv
     cases this with|mk _ _ _ _ _ _ _ _ lt _ _ _ _ _ _ _ _ _ _ _=>exact lt) hn hp hi
    have hl1:=h1.inv.len;obtain⟨r,st2,e2,a1,a2,a3,a4,a5,a6,a7,a8⟩:=vec_laid st1 os h1.nested (λo ho=>by
     obtain⟨j,hjl,rfl⟩:=List.getElem_of_mem ho;have:=hj j (by omega) hjl
     exact⟨this.1,this.2.1⟩) (by omega)
    obtain⟨xs,hx⟩:=a4.bytes;refine⟨r,st2,by rw[e1,Option.bind_some];exact e2,⟨a1,h1.pi.put a4 a2 a3,h1.put.trans a4,(h1.inv.vec (by omega) e2).le (by omega)⟩,a5,by omega,by rw[hlen] at a7;exact a7,?_⟩;refine texts_of true _ ks _ λj hjl=>?_;obtain⟨b1,b2⟩:=a8 j (by omega);refine⟨b1,?_⟩;rw[b2,hx];exact (hj j hjl (by omega)).2.2.app xs
   rw[if_neg h14];simp only[if_neg h14];by_cases h16:k=16
   ·rw[if_pos h16];simp only[if_pos h16];obtain⟨os,st1,e1,h1,hlen,hj⟩:=kids_laid sh ks st i (λv hv=>⟨ihk v hv,hgk v hv,hk16 h16 v hv⟩) hn hp hi (by omega);have hl1:=h1.inv.len;obtain⟨r,st2,e2,a1,a2,a3,a4,a5,a6,a7,a8⟩:=vec_laid st1 os h1.nested (λo ho=>by
     obtain⟨j,hjl,rfl⟩:=List.getElem_of_mem ho;have:=hj j (by omega) hjl
     exact⟨this.1,this.2.1⟩) (by omega)
    obtain⟨xs,hx⟩:=a4.bytes;refine⟨r,st2,by rw[e1,Option.bind_some];exact e2,⟨a1,h1.pi.put a4 a2 a3,h1.put.trans a4,(h1.inv.vec (by omega) e2).le (by omega)⟩,a5,by omega,by rw[hlen] at a7;exact a7,?_⟩;refine kids_of true _ ks _ λj hjl=>?_;obtain⟨b1,b2⟩:=a8 j (by omega);refine⟨b1,?_⟩;rw[b2,hx];exact LTab_app true _ xs _ _ (hj j hjl (by omega)).2.2
   rw[if_neg h16];simp only[if_neg h16];have h15:k=15:=(by omega);rw[if_pos h15];obtain⟨o,st',e1,a1,a2,a3,a4,a5⟩:=obj_laid sh ss st i ls hslots hn hp hi (by omega);exact⟨o,st',e1,⟨a1.nested,a1.pi,a1.put,a1.inv.le (by omega)⟩,a2,a3,a4,a5⟩
end Go.Proofs.YtcfblkkpclfmaaaGreat
