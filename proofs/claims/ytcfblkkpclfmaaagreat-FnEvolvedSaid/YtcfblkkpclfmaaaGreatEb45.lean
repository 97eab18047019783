/- Part 45 of the proof of FnEvolved; no condition. -/
import Derived.Deep.Slices
import Derived.Deep.Fields
import Derived.ChangeSame
import Derived.ChangeArms
import Derived.OpenShut
import Derived.Test.YtcfblkkpclfmaaaGreatEb01
import Derived.Test.YtcfblkkpclfmaaaGreatProg
import Derived.KernelRfl
set_option linter.unusedVariables false
set_option linter.unusedSimpArgs false
set_option maxRecDepth 100000
set_option maxHeartbeats 16000000
namespace Go.Proofs.YtcfblkkpclfmaaaGreat
open Go.RowKit Go.ChangeShapes Go.WideShapes Go.Deep
theorem rowNumsOf{α:Type}{Q:Nat->α->Prop}:∀(n:Nat),(∀i,i<n->∃x,Q i x)->∃l:List α,l.length=n/\∀i (h:i<l.length),Q i l[i]
 | 0,_=>⟨[],rfl,λi h=>by simp at h⟩
 | n+1,h=>by
  obtain⟨l,h1,h2⟩:=rowNumsOf n (λi hi=>h i (by omega));obtain⟨x,hx⟩:=h n (by omega);refine⟨l++[x],by simp[h1],λi hi=>?_⟩;by_cases hl:i<l.length
  ·rw[List.getElem_append_left hl];exact h2 i hl
  ·have hin:i=n:=by rw[List.length_append,List.length_singleton] at hi;omega
   subst hin;rw[List.getElem_append_right (by omega)];simp only[h1,Nat.sub_self,List.getElem_singleton];exact hx
theorem cells_at{w:World}{base:Nat}{a:Addr}{n:Nat}{cs:List Value}(hn:0<n)(h:w.cells? base a n=some cs):∃g o,a=⟨g,o,none⟩/\g<w.heap.size/\cs=cellsAt w g o n/\cs.length=n/\∀j u,cs[j]?=some u->w.cell? ⟨g,o+j,none⟩=some u:=by
 obtain⟨hb,hl,hc⟩:=World.cells?_some h;have h0:=hc 0 hn;rw[List.getElem?_eq_getElem (by omega)] at h0;have ha0:a.add 0=a:=by unfold Addr.add;rfl
 rw[ha0] at h0;have hsp:a.spot=none:=World.cell?_spot h0;obtain⟨g,o,sp⟩:=a;obtain rfl:sp=none:=hsp;have hadd:∀j,Addr.add ⟨g,o,none⟩ j=⟨g,o+j,none⟩:=by intro j;unfold Addr.add;split<;>simp_all
 have hcell:∀j u,cs[j]?=some u->w.cell? ⟨g,o+j,none⟩=some u:=by
  intro j u hu;have hj:j<n:=by have:=(List.getElem?_eq_some_iff.1 hu).1;omega
  rw[<-hadd,hc j hj];exact hu
 exact⟨g,o,rfl,World.block_lt_of_cell? _ _ h0,(cellsAt_of hl hcell).symm,hl,hcell⟩
theorem list7{α:Type}:∀{l:List α},l.length=7->∃a b c d e f g,l=[a,b,c,d,e,f,g]
 | [a,b,c,d,e,f,g],_=>⟨a,b,c,d,e,f,g,rfl⟩
theorem list9{α:Type}:∀{l:List α},l.length=9->∃a b c d e f g h i,l=[a,b,c,d,e,f,g,h,i]
 | [a,b,c,d,e,f,g,h,i],_=>⟨a,b,c,d,e,f,g,h,i,rfl⟩
theorem some_of{α:Type}{l:List α}{i:Nat}{n:Nat}{x:Option α}(h:x=l[i]?)(hl:l.length=n)(hi:i<n):∃y,x=some y:=⟨l[i]'(by omega),by rw[h];exact List.getElem?_eq_getElem (by omega)⟩
theorem strOf_of(s:ByteArray):∃l:List UInt8,s=strOf l:=⟨s.data.toList,by cases s;rfl⟩
theorem cellsU8:Tryz.prog.cellsOf 5=1:=by kernel_rfl
theorem cellsU64:Tryz.prog.cellsOf 22=1:=by kernel_rfl
theorem cellsStr:Tryz.prog.cellsOf 9=1:=by kernel_rfl
theorem cellsBool:Tryz.prog.cellsOf 4=1:=by kernel_rfl
theorem cellsNums:Tryz.prog.cellsOf 23=1:=by kernel_rfl
theorem cellsKids:Tryz.prog.cellsOf 24=1:=by kernel_rfl
theorem cellsSlots:Tryz.prog.cellsOf 25=1:=by kernel_rfl
theorem cellsVal:Tryz.prog.cellsOf 27=7:=by kernel_rfl
theorem cellsSlot:Tryz.prog.cellsOf 54=9:=by kernel_rfl
section
variable {H:Type} {enc:TypeId × Value->H} {W:World} {base:Nat} {spare:Nat->Bool} {held:Bool}
theorem nums_of{fuel:Nat}{cs:List Value}{x:DataW H × List MemPlace}(h:DataW.trod enc Tryz.prog W base spare held fuel 23 cs=some x):∃nv ns,cs=[nv]/\NumsIs (λ_=>True) W nv ns:=by
 rcases DataW.trod_slice Tryz.underlying23 h with ⟨rfl,_⟩|⟨a,len,cap,elems,rest,n,_,rfl,_,_,hl,hc,hel,hall,_⟩
 ·exact⟨_,[],rfl,⟨none,0,rfl,Nat.le_refl _,Nat.zero_le _,λh=>absurd rfl h,λn hn=>by cases hn⟩⟩
 ·obtain⟨ns,h1,h2⟩:=rowNumsOf (Q:=λi (m:Nat)=>W.cell? (a.add i)=some (.int .u64 m)/\m<2^64/\∃cs,W.cells? base (a.add i) 1=some cs) len (λi hi=>by
   have h1:=hall i hi;rw[cellsU64,Nat.mul_one,List.getElem?_eq_getElem (by omega)] at h1;obtain⟨cs',e1,e2⟩:=Option.bind_eq_some_iff.1 h1;obtain⟨n0,e3,_,e4⟩:=DataW.trod_int Tryz.underlying22 e2;have b:=bounds_u64 e4;obtain⟨_,hlc,hcc⟩:=World.cells?_some e1;have h0:=hcc 0 (by omega);rw[e3] at h0;refine⟨n0.toNat,?_,by omega,cs',e1⟩;rw[show ((n0.toNat:Nat):Int)=n0 by omega];exact h0)
  refine⟨_,ns,rfl,⟨some a,cap,by rw[h1],by omega,hc,λhne=>?_,λn hn=>?_⟩⟩
  ·have h0:0<ns.length:=List.length_pos_iff.2 hne;obtain⟨_,_,cs',hcs⟩:=h2 0 h0;have ha0:a.add 0=a:=(by unfold Addr.add;rfl);rw[ha0] at hcs;obtain⟨g,o,rfl,hg,_⟩:=cells_at (by omega) hcs;refine⟨g,o,rfl,hg,trivial,λi hi=>?_⟩;have hadd:Addr.add ⟨g,o,none⟩ i=⟨g,o+i,none⟩:=by unfold Addr.add;split<;>simp_all
   rw[<-hadd];exact (h2 i hi).1
  ·obtain⟨i,hi,rfl⟩:=List.getElem_of_mem hn;exact (h2 i hi).2.1
theorem val_of:∀(fuel:Nat) (cs:List Value) (x:DataW H × List MemPlace),DataW.trod enc Tryz.prog W base spare held fuel 27 cs=some x->∃v,VIs (λ_=>True) W cs v:=by
 intro fuel;induction fuel using Nat.strongRecOn with
 | ind fuel ih =>
  intro cs x h;obtain⟨xs,n,rfl,_,hcl,hxl,hf⟩:=DataW.trod_struct Tryz.underlying27 h;rw[cellsVal] at hcl;obtain⟨c0,c1,c2,c3,c4,c5,c6,rfl⟩:=list7 hcl;have hxl:xs.length=7:=hxl;have f0:=hf 0 _ rfl;have f1:=hf 1 _ rfl;have f2:=hf 2 _ rfl;have f3:=hf 3 _ rfl;have f4:=hf 4 _ rfl;have f5:=hf 5 _ rfl;have f6:=hf 6 _ rfl;clear hf h;obtain⟨y0,t0⟩:=some_of f0 hxl (by omega);obtain⟨y1,t1⟩:=some_of f1 hxl (by omega);obtain⟨y2,t2⟩:=some_of f2 hxl (by omega);obtain⟨y3,t3⟩:=some_of f3 hxl (by omega);obtain⟨y4,t4⟩:=some_of f4 hxl (by omega);obtain⟨y5,t5⟩:=some_of f5 hxl (by omega);obtain⟨y6,t6⟩:=some_of f6 hxl (by omega);clear f0 f1 f2 f3 f4 f5 f6;have r0:DataW.trod enc Tryz.prog W base spare held n 5 [c0]=some y0:=by rw[<-t0];show _=DataW.trod _ _ _ _ _ _ _ 5 (List.take (Tryz.prog.cellsOf 5) _);rw[cellsU8];rfl
  have r1:DataW.trod enc Tryz.prog W base spare held n 5 [c1]=some y1:=by rw[<-t1];show _=DataW.trod _ _ _ _ _ _ _ 5 (List.take (Tryz.prog.cellsOf 5) _);rw[cellsU8];rfl
  have r2:DataW.trod enc Tryz.prog W base spare held n 22 [c2]=some y2:=by rw[<-t2];show _=DataW.trod _ _ _ _ _ _ _ 22 (List.take (Tryz.prog.cellsOf 22) _);rw[cellsU64];rfl
  have r3:DataW.trod enc Tryz.prog W base spare held n 9 [c3]=some y3:=by rw[<-t3];show _=DataW.trod _ _ _ _ _ _ _ 9 (List.take (Tryz.prog.cellsOf 9) _);rw[cellsStr];rfl
  have r4:DataW.trod enc Tryz.prog W base spare held n 23 [c4]=some y4:=by rw[<-t4];show _=DataW.trod _ _ _ _ _ _ _ 23 (List.take (Tryz.prog.cellsOf 23) _);rw[cellsNums];rfl
  have r5:DataW.trod enc Tryz.prog W base spare held n 24 [c5]=some y5:=by rw[<-t5];show _=DataW.trod _ _ _ _ _ _ _ 24 (List.take (Tryz.prog.cellsOf 24) _);rw[cellsKids];rfl
  have r6:DataW.trod enc Tryz.prog W base spare held n 25 [c6]=some y6:=by rw[<-t6];show _=DataW.trod _ _ _ _ _ _ _ 25 (List.take (Tryz.prog.cellsOf 25) _);rw[cellsSlots];rfl
  clear t0 t1 t2 t3 t4 t5 t6;obtain⟨n0,e0,_,w0⟩:=DataW.trod_int Tryz.underlying5 r0;obtain⟨n1,e1,_,w1⟩:=DataW.trod_int Tryz.underlying5 r1;obtain⟨n2,e2,_,w2⟩:=DataW.trod_int Tryz.underlying22 r2;obtain⟨s3,e3,_,w3⟩:=DataW.trod_string Tryz.underlying9 r3;obtain⟨nv,ns,e4,hns⟩:=nums_of r4;simp only[List.cons.injEq,and_true] at e0 e1 e2 e3 e4;subst e0 e1 e2 e3 e4;have b0:=bounds_u8 w0;have b1:=bounds_u8 w1;have b2:=bounds_u64 w2;obtain⟨T,rfl⟩:=strOf_of s3;have hk:∃ka kc kg ko ks,c5=.slice ka (ks:List Val).length kc/\(ks≠[]->ka=some ⟨kg,ko,none⟩/\kg<W.heap.size)/\(ks.length<=kc/\kc<=maxLen)/\∀i (h:i<ks.length),VIs (λ_=>True) W (cellsAt W kg (ko+i*7) 7) ks[i]:=by
   rcases DataW.trod_slice Tryz.underlying24 r5 with ⟨e5,_⟩|⟨a,len,cap,elems,rest,m,hm,e5,_,_,hl,hc,hel,hall,_⟩
   ·have e5:=(List.cons.inj e5).1;exact⟨none,0,0,0,[],e5,λh=>absurd rfl h,⟨Nat.le_refl _,Nat.zero_le _⟩,λi h=>by simp at h⟩
   ·have e5:=(List.cons.inj e5).1;obtain⟨ks,h1,h2⟩:=rowNumsOf (Q:=λi v=>∃cs',W.cells? base (a.add (i*7)) 7=some cs'/\VIs (λ_=>True) W cs' v) len (λi hi=>by
     have h1:=hall i hi;rw[cellsVal,List.getElem?_eq_getElem (by omega)] at h1;obtain⟨cs',e1,e2⟩:=Option.bind_eq_some_iff.1 h1;obtain⟨v,hv⟩:=ih m (by omega) cs' _ e2;exact⟨v,cs',e1,hv⟩)
    by_cases h0:len=0
    ·have:ks=[]:=List.eq_nil_of_length_eq_zero (by omega)
     subst this;exact⟨some a,cap,0,0,[],by rw[e5,h0];rfl,λh=>absurd rfl h,⟨Nat.zero_le _,hc⟩,λi h=>by simp at h⟩
    ·obtain⟨cs',hcs,_⟩:=h2 0 (by omega);have ha0:a.add (0*7)=a:=(by unfold Addr.add;rfl);rw[ha0] at hcs;obtain⟨g,o,rfl,hg,_⟩:=cells_at (by omega) hcs;refine⟨_,cap,g,o,ks,by rw[e5,h1],λ_=>⟨rfl,hg⟩,⟨by omega,hc⟩,λi hi=>?_⟩;obtain⟨cs2,hc2,hv⟩:=h2 i hi;have hadd:Addr.add ⟨g,o,none⟩ (i*7)=⟨g,o+i*7,none⟩:=by unfold Addr.add;split<;>simp_all
     rw[hadd] at hc2;obtain⟨g2,o2,e,_,e2,_⟩:=cells_at (by omega) hc2;injection e with e3 e4;subst e3 e4;rw[<-e2];exact hv
  have hs:∃sa sc sg so ss,c6=.slice sa (ss:List (Slt Val)).length sc/\(ss≠[]->sa=some ⟨sg,so,none⟩/\sg<W.heap.size)/\(ss.length<=sc/\sc<=maxLen)/\(∀i (h:i<ss.length),W.cell? ⟨sg,so+i*9,none⟩=some (.bool ss[i].has)/\W.cell? ⟨sg,so+i*9+8,none⟩=some (.int .u64 ss[i].dflt)/\ss[i].dflt<2^64) /\
    ∀i (h:i<ss.length),VIs (λ_=>True) W (cellsAt W sg (so+i*9+1) 7) ss[i].val:=by
   rcases DataW.trod_slice Tryz.underlying25 r6 with ⟨e6,_⟩|⟨a,len,cap,elems,rest,m,hm,e6,_,_,hl,hc,hel,hall,_⟩
   ·have e6:=(List.cons.inj e6).1;exact⟨none,0,0,0,[],e6,λh=>absurd rfl h,⟨Nat.le_refl _,Nat.zero_le _⟩,λi h=>by simp at h,λi h=>by simp at h⟩
   ·have e6:=(List.cons.inj e6).1;obtain⟨ss,h1,h2⟩:=rowNumsOf (Q:=λi (s:Slt Val)=>∃cs',W.cells? base (a.add (i*9)) 9=some cs'/\cs'[0]?=some (.bool s.has)/\cs'[8]?=some (.int .u64 s.dflt)/\s.dflt<2^64/\VIs (λ_=>True) W ((cs'.drop 1).take 7) s.val) len (λi hi=>by
     have h1:=hall i hi;rw[cellsSlot,List.getElem?_eq_getElem (by omega)] at h1;obtain⟨cs',e1,e2⟩:=Option.bind_eq_some_iff.1 h1;obtain⟨zs,m2,hm2,_,hcl2,hzl,hf⟩:=DataW.trod_struct Tryz.underlying54 e2;rw[cellsSlot] at hcl2;obtain⟨d0,d1,d2,d3,d4,d5,d6,d7,d8,rfl⟩:=list9 hcl2;have hzl:zs.length=3:=hzl;have g0:=hf 0 _ rfl;have g1:=hf 1 _ rfl;have g2:=hf 2 _ rfl;obtain⟨z0,u0⟩:=some_of g0 hzl (by omega);obtain⟨z1,u1⟩:=some_of g1 hzl (by omega);obtain⟨z2,u2⟩:=some_of g2 hzl (by omega);clear g0 g1 g2 hf;have u0:DataW.trod enc Tryz.prog W base spare held m2 4 [d0]=some z0:=(by rw[<-u0];show _=DataW.trod _ _ _ _ _ _ _ 4 (List.take (Tryz.prog.cellsOf 4) _);rw[cellsBool];rfl);have u1:DataW.trod enc Tryz.prog W base spare held m2 27 [d1,d2,d3,d4,d5,d6,d7]=some z1:=(by rw[<-u1];show _=DataW.trod _ _ _ _ _ _ _ 27 (List.take (Tryz.prog.cellsOf 27) _);rw[cellsVal];rfl);have u2:DataW.trod enc Tryz.prog W base spare held m2 22 [d8]=some z2:=(by rw[<-u2];show _=DataW.trod _ _ _ _ _ _ _ 22 (List.take (Tryz.prog.cellsOf 22) _);rw[cellsU64];rfl);obtain⟨bb,q0,_⟩:=DataW.trod_bool Tryz.underlying4 u0;obtain⟨nd,q2,_,w8⟩:=DataW.trod_int Tryz.underlying22 u2;simp only[List.cons.injEq,and_true] at q0 q2;subst q0 q2;have b8:=bounds_u64 w8;obtain⟨v,hv⟩:=ih m2 (by omega) _ _ u1;have hnd:nd.toNat<18446744073709551616:=(by omega);refine⟨⟨bb,v,nd.toNat⟩,_,e1,rfl,?_,hnd,hv⟩;show some (Value.int .u64 nd)=some (.int .u64 ((nd.toNat:Nat):Int));rw[show ((nd.toNat:Nat):Int)=nd by omega])
    by_cases h0:len=0
    ·have:ss=[]:=List.eq_nil_of_length_eq_zero (by omega)
     subst this;exact⟨some a,cap,0,0,[],by rw[e6,h0];rfl,λh=>absurd rfl h,⟨Nat.zero_le _,hc⟩,λi h=>by simp at h,λi h=>by simp at h⟩
    ·obtain⟨cs',hcs,_⟩:=h2 0 (by omega);have ha0:a.add (0*9)=a:=(by unfold Addr.add;rfl);rw[ha0] at hcs;obtain⟨g,o,rfl,hg,_⟩:=cells_at (by omega) hcs;have hall2:∀i (h:i<ss.length),∃cs':List Value,(∀j u,cs'[j]?=some u->W.cell? ⟨g,o+i*9+j,none⟩=some u)/\cs'.length=9/\cs'[0]?=some (.bool ss[i].has)/\cs'[8]?=some (.int .u64 ss[i].dflt)/\ss[i].dflt<2^64/\VIs (λ_=>True) W ((cs'.drop 1).take 7) ss[i].val:=by
      intro i hi;obtain⟨cs2,hc2,q1,q2,q3,q4⟩:=h2 i hi;have hadd:Addr.add ⟨g,o,none⟩ (i*9)=⟨g,o+i*9,none⟩:=by unfold Addr.add;split<;>simp_all
      rw[hadd] at hc2;obtain⟨g2,o2,e,_,_,e3,e4⟩:=cells_at (by omega) hc2;injection e with e5 e6;subst e5 e6;exact⟨cs2,e4,e3,q1,q2,q3,q4⟩
     refine⟨_,cap,g,o,ss,by rw[e6,h1],λ_=>⟨rfl,hg⟩,⟨by omega,hc⟩,λi hi=>?_,λi hi=>?_⟩
     ·obtain⟨cs2,p1,p2,q1,q2,q3,_⟩:=hall2 i hi;exact⟨by have:=p1 0 _ q1;exact this,p1 8 _ q2,q3⟩
     ·obtain⟨cs2,p1,p2,q1,q2,q3,q4⟩:=hall2 i hi;rw[cellsAt_of (cs:=(cs2.drop 1).take 7) (by rw[List.length_take,List.length_drop,p2];rfl) (λj u hu=>?_)]
      ·exact q4
      ·rw[List.getElem?_take] at hu;split at hu
       ·rw[List.getElem?_drop] at hu;rw[show o+i*9+1+j=o+i*9+(1+j) by omega];exact p1 _ _ hu
       ·cases hu
  obtain⟨ka,kc,kg,ko,ks,rfl,hka,hkc,hks⟩:=hk;obtain⟨sa,sc,sg,so,ss,rfl,hsa,hsc,hsd,hss⟩:=hs;have i0:n0=((n0.toNat:Nat):Int):=by omega
  have i1:n1=((n1.toNat:Nat):Int):=by omega
  have i2:n2=((n2.toNat:Nat):Int):=by omega
  rw[i0,i1,i2];refine⟨.mk n0.toNat n1.toNat n2.toNat T ns ks ss,.mk _ _ _ T ns ks ss _ ka kc kg ko sa sc sg so (by omega) (by omega) (by omega) ?_ hns (λh=>⟨(hka h).1,(hka h).2,trivial⟩) hkc hks (λh=>⟨(hsa h).1,(hsa h).2,trivial⟩) hsc hsd hss⟩;rw[strOf_size] at w3;exact w3
end
end Go.Proofs.YtcfblkkpclfmaaaGreat
namespace Go.Proofs.YtcfblkkpclfmaaaGreat
open Go.RowKit Go.ChangeShapes Go.WideShapes Go.Deep
theorem list3{α:Type}:∀{l:List α},l.length=3->∃a b c,l=[a,b,c]
 | [a,b,c],_=>⟨a,b,c,rfl⟩
theorem cellsOpt:Tryz.prog.cellsOf 29=3:=by kernel_rfl
theorem cellsInt:Tryz.prog.cellsOf 3=1:=by kernel_rfl
theorem opt_of{H:Type}{enc:TypeId × Value->H}{W:World}{base:Nat}{spare:Nat->Bool}{held:Bool}{fuel:Nat}{cs:List Value}{x:DataW H × List MemPlace}(h:DataW.trod enc Tryz.prog W base spare held fuel 29 cs=some x):∃sz id sh,cs=[.int .i64 sz,.string (strOf id),.bool sh]:=by
 obtain⟨xs,n,rfl,_,hcl,hxl,hf⟩:=DataW.trod_struct Tryz.underlying29 h;rw[cellsOpt] at hcl;obtain⟨c0,c1,c2,rfl⟩:=list3 hcl;have hxl:xs.length=3:=hxl;have f0:=hf 0 _ rfl;have f1:=hf 1 _ rfl;have f2:=hf 2 _ rfl;clear hf h;obtain⟨y0,t0⟩:=some_of f0 hxl (by omega);obtain⟨y1,t1⟩:=some_of f1 hxl (by omega);obtain⟨y2,t2⟩:=some_of f2 hxl (by omega);clear f0 f1 f2;have r0:DataW.trod enc Tryz.prog W base spare held n 3 [c0]=some y0:=by rw[<-t0];show _=DataW.trod _ _ _ _ _ _ _ 3 (List.take (Tryz.prog.cellsOf 3) _);rw[cellsInt];rfl
 have r1:DataW.trod enc Tryz.prog W base spare held n 9 [c1]=some y1:=by rw[<-t1];show _=DataW.trod _ _ _ _ _ _ _ 9 (List.take (Tryz.prog.cellsOf 9) _);rw[cellsStr];rfl
 have r2:DataW.trod enc Tryz.prog W base spare held n 4 [c2]=some y2:=by rw[<-t2];show _=DataW.trod _ _ _ _ _ _ _ 4 (List.take (Tryz.prog.cellsOf 4) _);rw[cellsBool];rfl
 clear t0 t1 t2;obtain⟨n0,e0,_,_⟩:=DataW.trod_int Tryz.underlying3 r0;obtain⟨s1,e1,_,_⟩:=DataW.trod_string Tryz.underlying9 r1;obtain⟨b2,e2,_⟩:=DataW.trod_bool Tryz.underlying4 r2;simp only[List.cons.injEq,and_true] at e0 e1 e2;subst e0 e1 e2;obtain⟨T,rfl⟩:=strOf_of s1;exact⟨n0,T,b2,rfl⟩
end Go.Proofs.YtcfblkkpclfmaaaGreat
