/- Part 6 of the proof of FnEvolved; no condition. -/
import Derived.Test.YtcfblkkpclfmaaaGreatEb05
import Derived.Laws.MakeOwn
import Derived.Laws.AppendOwn
import Derived.OwnWalk
import Derived.Maps.Own
import Derived.WalkSmall
import Derived.Deep.RegionHeld
set_option linter.unusedVariables false
set_option linter.unusedSimpArgs false
set_option maxRecDepth 100000
set_option maxHeartbeats 16000000
namespace Go.Proofs.YtcfblkkpclfmaaaGreat
open Go.RowKit
theorem infoU8b:(Tryz.prog.info? 5).map (λi=>(i.zero,i.size,i.bytes))=some (some (.int .u8 0),1,1):=by kernel_rfl
theorem info_parts'{P:Program}{e:TypeId}{z:Value}{size bytes:Nat}(h:(P.info? e).map (λi=>(i.zero,i.size,i.bytes))=some (some z,size,bytes)):∃i,P.info? e=some i/\i.zero=some z/\i.size=size/\i.bytes=bytes:=by
 cases hq:P.info? e with
 | none=>simp[hq] at h
 | some i=>simp[hq] at h;exact⟨i,rfl,h.1,h.2.1,h.2.2⟩
theorem nat_and_high(n:Nat)(h:n<2^30):n &&& 3221225472=0:=by
 apply Nat.eq_of_testBit_eq
 intro i;rw[Nat.testBit_and,Nat.zero_testBit];by_cases hi:i<30
 ·have e:(3221225472:Nat)=3 <<< 30:=by decide
  rw[e,Nat.testBit_shiftLeft];simp;omega
 ·have:n.testBit i=false:=Nat.testBit_lt_two_pow (Nat.lt_of_lt_of_le h (Nat.pow_le_pow_right (by decide) (by omega)))
  rw[this];rfl
theorem bits_and_i64(a b:Nat)(ha:a<2^63)(hb:b<2^63):bits .and .i64 (a:Int) (b:Int)=((a &&& b:Nat):Int):=by
 have hx:a &&& b<2^63:=Nat.and_lt_two_pow _ hb;have h1:(BitVec.ofInt 64 (a:Int)).toNat=a:=by
  rw[BitVec.ofInt_natCast,BitVec.toNat_ofNat];exact Nat.mod_eq_of_lt (by omega)
 have h2:(BitVec.ofInt 64 (b:Int)).toNat=b:=by
  rw[BitVec.ofInt_natCast,BitVec.toNat_ofNat];exact Nat.mod_eq_of_lt (by omega)
 show IntKind.i64.wrap ((BitVec.ofInt 64 (a:Int) &&& BitVec.ofInt 64 (b:Int)).toNat:Int)=_;rw[BitVec.toNat_and,h1,h2,IntKind.wrap_i64];omega
theorem and_high(n:Nat)(h:n<=4000000):bits .and .i64 (n:Int) 3221225472=0:=by
 have:=bits_and_i64 n 3221225472 (by omega) (by omega)
 rw[nat_and_high n (by omega)] at this;exact this
theorem and_mask(x k:Nat)(hk:k<=6):bits .and .i64 (-(x:Int)) ((2^k-1:Nat):Int)=(((2^k-x%2^k)%2^k:Nat):Int):=by
 have hp:2^k<=64:=Nat.pow_le_pow_right (n:=2) (by decide) hk;have hp0:0<2^k:=Nat.pow_pos (by decide);have h2:(BitVec.ofInt 64 ((2^k-1:Nat):Int)).toNat=2^k-1:=by
  rw[BitVec.ofInt_natCast,BitVec.toNat_ofNat];exact Nat.mod_eq_of_lt (by omega)
 have h3:((BitVec.ofInt 64 (-(x:Int))).toNat:Int)=(-(x:Int))%18446744073709551616:=by
  rw[BitVec.toNat_ofInt];exact Int.toNat_of_nonneg (Int.emod_nonneg _ (by decide))
 have h4:(BitVec.ofInt 64 (-(x:Int))).toNat%2^k=(2^k-x%2^k)%2^k:=by
  generalize (BitVec.ofInt 64 (-(x:Int))).toNat=y at h3;have:k=0\/k=1\/k=2\/k=3\/k=4\/k=5\/k=6:=by omega
  rcases this with rfl|rfl|rfl|rfl|rfl|rfl|rfl<;>simp only[Nat.reducePow] at *<;>omega
 show IntKind.i64.wrap ((BitVec.ofInt 64 (-(x:Int)) &&& BitVec.ofInt 64 ((2^k-1:Nat):Int)).toNat:Int)=_;rw[BitVec.toNat_and,h2,Nat.and_two_pow_sub_one_eq_mod,h4,IntKind.wrap_i64];have:=Nat.mod_lt (2^k-x%2^k) hp0
 omega
theorem dbl_eq(c:Array Value)(L:Nat)(h:2*L<=c.size):(c.toList.take L++c.toList.take L++c.toList.drop (L+L)).take (2*L)=c.toList.take L++c.toList.take L:=by
 have h1:(c.toList.take L).length=L:=by simp;omega
 rw[List.take_append_of_le_length (by rw[List.length_append,h1];omega),List.take_of_length_le (by rw[List.length_append,h1];omega)]
theorem setRow_heap'{w:World}{g:Nat}{c:Array Value}{t:TypeId}(c':Array Value)(h0:True)(x:True)(h:w.heap[g]?=some (.cells c t (0,0))):(w.setRow g c').heap[g]?=some (.cells c' t (0,0)):=setRow_heap w g c c' t _ h
theorem setRow_other'(w:World)(g k:Nat)(c':Array Value)(h:k≠g):(w.setRow g c').heap[k]?=w.heap[k]?:=setRow_other w g k c' h
theorem setRow_fr{S:Nat->Prop}{a w:World}(h:Fr S a w){g:Nat}(hg:g<a.heap.size->S g)(c':Array Value):Fr S a (w.setRow g c') :=
 ⟨h.os,h.tape,h.output,by simpa [World.setRow] using h.size,λk hk hn=>by rw[setRow_other' _ _ _ _ (by intro e;subst e;exact hn (hg hk))];exact h.block k hk hn⟩
def newL (L:Nat):Nat:=if L=0 then 1 else 2*L
def Grew (w w':World)(b Y Y':Nat)(r:BRest)(room least L:Nat)(c c':Array Value):Prop :=
 w'.heap[b]?=some (.cells (bCells Y' (newL L) c'.size least room r) 103)/\w'.heap[Y']?=some (.cells c' 5)/\newL L<=c'.size/\c'.size<=maxLen /\
 (c'.toList.take (newL L)).drop (newL L-L)=c.toList.take L/\(∀v∈c'.toList.take (newL L),v.oneCell'=true)/\(Y'=Y\/w.heap.size<=Y')/\b≠Y'/\Fr (λk=>k=b\/k=Y) w w'
theorem grow_re(b Y:Nat)(r:BRest)(room least:Nat)(bytes:List UInt8)(c:Array Value)(w:World)(h:BB w b Y r room least bytes c)(hc:newL (room+bytes.length)<=c.size):
  Calls Tryz.prog 142 #[.pointer (some ⟨b,0,none⟩)] w λe w'=>e=.returned (.tuple #[])/\∃Y' c',Grew w w' b Y Y' r room least (room+bytes.length) c c':=by
 have hlim:=h.lim;have hz:=h.zero;obtain⟨L,hL⟩:=exA (room+bytes.length);have hL0:L≠0:=by
  intro e;have:=hz (by omega)
  rw[this] at hc;unfold newL at hc;split at hc<;>omega
 have c0:w.cell? ⟨b,0,none⟩=some (.slice (some ⟨Y,0,none⟩) L c.size):=by rw[cell_of h.hb,hL];rfl
 have f0:=frozen_of h.hb 0;rw[<-hL] at hc hlim ⊢;have hn:newL L=2*L:=by unfold newL;rw[if_neg hL0]
 rw[hn] at hc;have hb0:(((L:Nat):Int)*2==0)=false:=by simp;omega
 have hand:=and_high L hlim;have hto:=λw'=>run_slice_to (P:=Tryz.prog) Tryz.underlying81 sizeU8b Y 0 L c.size .i64 ((L:Int)*2) (2*L) (by omega) hc w';have hc1:=heap_setCell_same h.hb 0 (.slice (some ⟨Y,0,none⟩) (2*L) c.size);have hy1:(w.setCell ⟨b,0,none⟩ (.slice (some ⟨Y,0,none⟩) (2*L) c.size)).heap[Y]?=some (.cells c 5):=by
  rw[heap_setCell_other _ _ _ _ (show Y≠b from λe=>h.ne e.symm)];exact h.hy
 have d0:(w.setCell ⟨b,0,none⟩ (.slice (some ⟨Y,0,none⟩) (2*L) c.size)).cell? ⟨b,0,none⟩=some (.slice (some ⟨Y,0,none⟩) (2*L) c.size):=by rw[cell_of hc1];rfl
 have hcl:(c.toList.take L).length=L:=by rw[List.length_take];simp;omega
 have hone:∀v∈c.toList.take L,v.oneCell'=true:=by rw[hL];exact h.one
 have hfrom:=λw'=>run_slice_from (P:=Tryz.prog) Tryz.underlying81 sizeU8b Y 0 (2*L) c.size .i64 (L:Int) L rfl (by omega) w';rw[sOff_lt (by omega),Nat.zero_add] at hfrom;have hto2:=λw'=>run_slice_to (P:=Tryz.prog) Tryz.underlying81 sizeU8b Y 0 (2*L) c.size .i64 (L:Int) L rfl (by omega) w';have hcopy:=λnq ty=>run_copy_row (P:=Tryz.prog) ((w.setCell ⟨b,0,none⟩ (.slice (some ⟨Y,0,none⟩) (2*L) c.size)).drewN nq) 81 81 ty 5 Y L (2*L-L) (c.size-L) ⟨Y,0,none⟩ L c.size c 5 (c.toList.take L)
  Tryz.underlying81 sizeU8b hy1 (by rw[hcl];show L=min L (2*L-L);omega) (λj v hj=>by
   have hadd:(⟨Y,0,none⟩:Addr).add j=⟨Y,j,none⟩:=by unfold Addr.add;split<;>simp_all
   have hj2:j<L:=(by have:=(List.getElem?_eq_some_iff.1 hj).1;omega);rw[hadd];refine (cell_of (w:=(w.setCell ⟨b,0,none⟩ (.slice (some ⟨Y,0,none⟩) (2*L) c.size)).drewN nq) hy1 j).trans ?_;rw[List.getElem?_take,if_pos hj2] at hj;simpa using hj) (by rw[hcl];omega) hone
 rw[hcl] at hcopy;have HB:=Hd h;have HL:=Hd hL;have HN:=Hd hn;have HONE:=Hd hone;have HCL:=Hd hcl;have HC1:=Hd hc1;have HY1:=Hd hy1;clear h hc1 hy1 hone hz hcl hL0 hL hn;go_enter Tryz.func142,Tryz.ntmps142;go_wp2_with fail;refine lst _ ?_;simp only[List.dropLast];repeat (go_big_quiet_step (fail))
 refine wpQuiet_nil ?_;intro nq;refine wpOp_step rfl (λK hK=>?_);go_simp;refine hK _ _ ?_;go_wp2_with fail;go_end0
 refine⟨rfl,Y,(List.take L c.toList++(List.take L c.toList++List.drop (L+L) c.toList)).toArray,?_⟩;have hsz:(List.take L c.toList++(List.take L c.toList++List.drop (L+L) c.toList)).toArray.size=c.size:=by simp;omega
 refine⟨?_,setRow_heap' _ trivial trivial HY1.out,?_,by rw[hsz];exact HB.out.cap,?_,?_,.inl rfl,HB.out.ne,?_⟩
 ·rw[setRow_other' _ _ _ _ HB.out.ne,hsz,HN.out];exact HC1.out
 ·rw[hsz,HN.out];exact hc
 ·rw[HN.out,show 2*L-L=L by omega];show ((List.take L c.toList++(List.take L c.toList++List.drop (L+L) c.toList)).take (2*L)).drop L=_;rw[<-List.append_assoc,dbl_eq c L hc,List.drop_append_of_le_length (by rw[HCL.out];exact Nat.le_refl _),List.drop_of_length_le (by rw[HCL.out];exact Nat.le_refl _),List.nil_append]
 ·rw[HN.out];show ∀v∈(List.take L c.toList++(List.take L c.toList++List.drop (L+L) c.toList)).take (2*L),_;rw[<-List.append_assoc,dbl_eq c L hc];intro v hv;rcases List.mem_append.1 hv with hv|hv<;>exact HONE.out v hv
 ·exact setRow_fr (((Fr.refl _ w).setCell (λ_=>.inl rfl) _).drewN _) (λ_=>.inr rfl) _
theorem wpList_append_new{P:Program}{w w2:World}{ops:Array Oper}{rest:List Oper}{o:Oper}{a:Act}{Q:Exit->Act->World->Prop}(hgd:o.guard=none)(s x:Operand)(t:TypeId)
  (ho:o.op=.call { callee:=.builtin .append,args:=#[s,x],argTypes:=#[t,t] }) (r vs vx:Value) (hs:a.eval s=vs) (hx:a.eval x=vx)
  (hr:(Builtin.append_ #[t,t] o.type #[vs,vx]).run P w=.ok r w2) (h:wpList P ops Q rest (a.put o.dst r) w2):wpList P ops Q (o::rest) a w:=by
 refine wpList_plain hgd λK hK=>?_;unfold Oper.wp execOp;simp only[ho,resolve,invoke,builtin,Sem.run_bind,Sem.run_pure,Result.andThen_ok,List.map_toArray,List.map_cons,List.map_nil,hs,hx,hr];exact hK _ _ h
theorem grow_new(b Y:Nat)(r:BRest)(room least:Nat)(bytes:List UInt8)(c:Array Value)(w:World)(h:BB w b Y r room least bytes c)(hc:c.size<newL (room+bytes.length))(hL1:room+bytes.length≠0):
  Calls Tryz.prog 142 #[.pointer (some ⟨b,0,none⟩)] w λe w'=>e=.returned (.tuple #[])/\∃Y' c',Grew w w' b Y Y' r room least (room+bytes.length) c c':=by
 have hlim:=h.lim;have hfit:=h.fit;obtain⟨L,hL⟩:=exA (room+bytes.length);have c0:w.cell? ⟨b,0,none⟩=some (.slice (some ⟨Y,0,none⟩) L c.size):=by rw[cell_of h.hb,hL];rfl
 have f0:=frozen_of h.hb 0;rw[<-hL] at hc hlim hL1 hfit ⊢;have hn:newL L=2*L:=by unfold newL;rw[if_neg hL1]
 rw[hn] at hc;have hb0:(((L:Nat):Int)*2==0)=false:=by simp;omega
 have hand:=and_high L hlim;have hsub:((L:Nat):Int)*2-(L:Nat)=(L:Nat):=by omega
 have hnot:¬((L:Int)*2<=(c.size:Int)):=by omega
 obtain⟨i0,hi,hz0,hz1,hz2⟩:=info_parts' infoU8b;have hmk:=run_make (P:=Tryz.prog) w 81 5 i0 (.int .u8 0) Tryz.underlying81 hi hz0 .i64 .i64 L L (by omega) (by omega) (by rw[hz2];omega) (by omega);rw[hz1] at hmk;simp only[Int.toNat_natCast,Nat.mul_one,Value.cells] at hmk;have hcl:(c.toList.take L).length=L:=by rw[List.length_take];simp;omega
 have hml:(madeCells #[Value.int .u8 0] L).toList=List.replicate L (Value.int .u8 0):=by rw[toList_madeCells_one]
 have hbl:b<w.heap.size:=lt_of_block h.hb;have hyl:Y<w.heap.size:=lt_of_block h.hy;have hya:(w.alloc (.cells (madeCells #[Value.int .u8 0] L) 5)).heap[Y]?=some (.cells c 5):=(heap_alloc_old w _ Y hyl).trans h.hy;have hba:=(heap_alloc_old w (.cells (madeCells #[Value.int .u8 0] L) 5) b hbl).trans h.hb;have hone:∀v∈c.toList.take L,v.oneCell'=true:=by rw[hL];exact h.one
 have happ:=λty=>run_append_grow (P:=Tryz.prog) (w:=w.alloc (.cells (madeCells #[Value.int .u8 0] L) 5)) 81 ty 5 i0 (.int .u8 0) Tryz.underlying81 hi hz0 ⟨Y,0,none⟩ L c.size (c.toList.take L) (by rw[hz1,hcl,Nat.mul_one])
  (λj v hj=>by
   have hadd:(⟨Y,0,none⟩:Addr).add j=⟨Y,j,none⟩:=by unfold Addr.add;split<;>simp_all
   have hj2:j<L:=(by have:=(List.getElem?_eq_some_iff.1 hj).1;omega);rw[hadd,cell_of hya];rw[List.getElem?_take,if_pos hj2] at hj;simpa using hj)
  ⟨w.heap.size,0,none⟩ L L (List.replicate L (Value.int .u8 0)) (by rw[hz1];simp) (λj v hj=>by
   have hadd:(⟨w.heap.size,0,none⟩:Addr).add j=⟨w.heap.size,j,none⟩:=by unfold Addr.add;split<;>simp_all
   rw[hadd,cell_of (heap_alloc_new w _),<-hj,<-hml];simp) (by omega) (by omega) (growslice_fits (by omega) (by rw[hz2];omega))
 obtain⟨gc,hgc⟩:=exA (grownCap (w.alloc (.cells (madeCells #[Value.int .u8 0] L) 5)) (L+L) c.size 5);have hge:L+L<=gc:=by rw[hgc];exact grownCap_ge _ _ _ _
 have hgm:gc<=maxLen:=by rw[hgc];exact grownCap_le_maxLen _ _ _ _ (by unfold maxLen;omega)
 rw[<-hgc] at happ;obtain⟨c1,hc1d⟩:=exA ((c.toList.take L).toArray++(List.replicate L (Value.int .u8 0)).toArray++Builtin.zeroCells #[Value.int .u8 0] (gc-(L+L)));have hc1s:c1.size=gc:=by
  rw[hc1d];simp only[Array.size_append,List.size_toArray,hcl,List.length_replicate,size_zeroCells];simp;omega
 have hc1t:c1.toList.take L=c.toList.take L:=by
  rw[hc1d];simp only[Array.toList_append,List.append_assoc];rw[List.take_append_of_le_length (by simp;omega)];show (c.toList.take L).take L=_;rw[List.take_take,Nat.min_self]
 have e2:(Value.int IntKind.u8 0).cells=#[Value.int .u8 0]:=rfl;rw[e2,<-hc1d,size_alloc] at happ;obtain⟨w1,hw1⟩:=exA ((w.alloc (.cells (madeCells #[Value.int .u8 0] L) 5)).drew.alloc (.cells c1 5));have hf1:Fr0 w w1:=by rw[hw1];exact (((Fr.refl _ w).alloc _).drew).alloc _
 have hb1:w1.heap[b]?=_:=(hf1.block b hbl (λx=>x)).trans h.hb;have hy1:w1.heap[w.heap.size+1]?=some (.cells c1 5):=by
  rw[hw1];have:=heap_alloc_new (w.alloc (.cells (madeCells #[Value.int .u8 0] L) 5)).drew (.cells c1 5)
  have e:(w.alloc (.cells (madeCells #[Value.int .u8 0] L) 5)).drew.heap.size=w.heap.size+1:=by
   show (w.alloc _).heap.size=_;simp
  rwa [e] at this
 rw[<-hw1] at happ;have a0:w1.cell? ⟨b,0,none⟩=some (.slice (some ⟨Y,0,none⟩) L c.size):=by rw[cell_of hb1,hL];rfl
 have g0:=frozen_of hb1 0;obtain⟨w2,hw2⟩:=exA (w1.setCell ⟨b,0,none⟩ (.slice (some ⟨w.heap.size+1,0,none⟩) (L+L) gc));have hb2:=heap_setCell_same hb1 0 (.slice (some ⟨w.heap.size+1,0,none⟩) (L+L) gc);have hy2:(w1.setCell ⟨b,0,none⟩ (.slice (some ⟨w.heap.size+1,0,none⟩) (L+L) gc)).heap[w.heap.size+1]?=some (.cells c1 5):=by
  rw[heap_setCell_other _ _ _ _ (show w.heap.size+1≠b by omega)];exact hy1
 rw[<-hw2] at hb2 hy2;have d0:w2.cell? ⟨b,0,none⟩=some (.slice (some ⟨w.heap.size+1,0,none⟩) (L+L) gc):=by rw[cell_of hb2];rfl
 have hfrom:=λw'=>run_slice_from (P:=Tryz.prog) Tryz.underlying81 sizeU8b (w.heap.size+1) 0 (L+L) gc .i64 (L:Int) L rfl (by omega) w';rw[sOff_lt (by omega),Nat.zero_add] at hfrom;have hto2:=λw'=>run_slice_to (P:=Tryz.prog) Tryz.underlying81 sizeU8b (w.heap.size+1) 0 (L+L) gc .i64 (L:Int) L rfl (by omega) w';have hcopy:=λnq ty=>run_copy_row (P:=Tryz.prog) (w2.drewN nq) 81 81 ty 5 (w.heap.size+1) L L (gc-L) ⟨w.heap.size+1,0,none⟩ L gc c1 5 (c.toList.take L)
  Tryz.underlying81 sizeU8b hy2 (by rw[hcl];show L=min L L;omega) (λj v hj=>by
   have hadd:(⟨w.heap.size+1,0,none⟩:Addr).add j=⟨w.heap.size+1,j,none⟩:=by unfold Addr.add;split<;>simp_all
   have hj2:j<L:=(by have:=(List.getElem?_eq_some_iff.1 hj).1;omega);rw[hadd];refine (cell_of (w:=w2.drewN nq) hy2 j).trans ?_;rw[<-hc1t,List.getElem?_take,if_pos hj2] at hj;simpa using hj) (by rw[hcl];omega) hone
 rw[hcl] at hcopy;have HB:=Hd h;have HL:=Hd hL;have HN:=Hd hn;have HONE:=Hd hone;have HCL:=Hd hcl;have HB2:=Hd hb2;have HY2:=Hd hy2;have HF1:=Hd hf1;have HW2:=Hd hw2;have HW1:=Hd hw1;have HT:=Hd hc1t;have HS:=Hd hc1s;have HAPP:=Hd happ;clear h hb2 hy2 hone hcl hL hn hf1 hw1 hw2 hc1t hc1s happ hc1d hb1 hy1 hba hya hgc hml e2 hL1;go_enter Tryz.func142,Tryz.ntmps142;go_wp2_with (at_builtin;refine wpList_append_new rfl (.tmp 49) (.tmp 50) 81 rfl _ _ _ rfl rfl (HAPP.out _) ?_);rw[<-HW2.out];refine lst _ ?_;simp only[List.dropLast];repeat (go_big_quiet_step (fail))
 refine wpQuiet_nil ?_;intro nq;refine wpOp_step rfl (λK hK=>?_);go_simp;refine hK _ _ ?_;go_wp2_with fail;go_end0
 refine⟨rfl,w.heap.size+1,(List.take L c1.toList++(List.take L c.toList++List.drop (L+L) c1.toList)).toArray,?_⟩;have hsz:(List.take L c1.toList++(List.take L c.toList++List.drop (L+L) c1.toList)).toArray.size=gc:=by
  have h1:=HS.out;have h2:(List.take L c1.toList).length=L:=by rw[HT.out];exact HCL.out
  have h3:(List.take L c.toList).length=L:=HCL.out;have h4:(List.drop (L+L) c1.toList).length=gc-(L+L):=by rw[List.length_drop];show c1.size-(L+L)=_;rw[h1]
  show (List.take L c1.toList++(List.take L c.toList++List.drop (L+L) c1.toList)).length=_;rw[List.length_append,List.length_append,h2,h3,h4];omega
 have h2L:(List.take L c1.toList++(List.take L c.toList++List.drop (L+L) c1.toList)).take (2*L)=List.take L c.toList++List.take L c.toList:=by
  have h3:(List.take L c.toList).length=L:=HCL.out;rw[HT.out,<-List.append_assoc,List.take_append_of_le_length (by rw[List.length_append,h3];omega),List.take_of_length_le (by rw[List.length_append,h3];omega)]
 refine⟨?_,setRow_heap' _ trivial trivial HY2.out,by rw[hsz,HN.out];omega,by rw[hsz];exact hgm,?_,?_,.inr (Nat.le_succ _),by omega,?_⟩
 ·rw[setRow_other' _ _ _ _ (by omega),hsz,HN.out,show 2*L=L+L by omega];exact HB2.out
 ·rw[HN.out,show 2*L-L=L by omega];show ((List.take L c1.toList++(List.take L c.toList++List.drop (L+L) c1.toList)).take (2*L)).drop L=_;rw[h2L,List.drop_append_of_le_length (by rw[HCL.out];exact Nat.le_refl _),List.drop_of_length_le (by rw[HCL.out];exact Nat.le_refl _),List.nil_append]
 ·rw[HN.out];show ∀v∈(List.take L c1.toList++(List.take L c.toList++List.drop (L+L) c1.toList)).take (2*L),_;rw[h2L];intro v hv;rcases List.mem_append.1 hv with hv|hv<;>exact HONE.out v hv
 ·have h1:Fr (λk=>k=b\/k=Y) w w2:=by
   rw[HW2.out];exact (HF1.out.mono (λ_ _ x=>x.elim)).setCell (λ_=>.inl rfl) _
  exact setRow_fr (h1.drewN nq) (λhlt=>absurd hlt (by omega)) _
theorem grow_zero(b Y:Nat)(r:BRest)(room least:Nat)(bytes:List UInt8)(c:Array Value)(w:World)(h:BB w b Y r room least bytes c)(hL1:room+bytes.length=0):
  Calls Tryz.prog 142 #[.pointer (some ⟨b,0,none⟩)] w λe w'=>e=.returned (.tuple #[])/\∃Y' c',Grew w w' b Y Y' r room least (room+bytes.length) c c':=by
 have hcs:c.size=0:=h.zero hL1;have c0:w.cell? ⟨b,0,none⟩=some (.slice (some ⟨Y,0,none⟩) 0 0):=by rw[cell_of h.hb,hL1,hcs];rfl
 have f0:=frozen_of h.hb 0;rw[hL1];have hn:newL 0=1:=rfl;have hand:=and_high 0 (by omega);have hand0:bits .and .i64 0 3221225472=0:=hand;obtain⟨i0,hi,hz0,hz1,hz2⟩:=info_parts' infoU8b;have hmk:=run_make (P:=Tryz.prog) w 81 5 i0 (.int .u8 0) Tryz.underlying81 hi hz0 .i64 .i64 1 1 (by omega) (by omega) (by rw[hz2];omega) (by omega);rw[hz1] at hmk;simp only[Int.toNat_one,Nat.mul_one,Value.cells] at hmk;have hml:(madeCells #[Value.int .u8 0] 1).toList=List.replicate 1 (Value.int .u8 0):=by rw[toList_madeCells_one]
 have hbl:b<w.heap.size:=lt_of_block h.hb;have happ:=λty=>run_append_grow (P:=Tryz.prog) (w:=w.alloc (.cells (madeCells #[Value.int .u8 0] 1) 5)) 81 ty 5 i0 (.int .u8 0) Tryz.underlying81 hi hz0 ⟨Y,0,none⟩ 0 0 [] (by simp)
  (λj v hj=>by simp at hj)
  ⟨w.heap.size,0,none⟩ 1 1 (List.replicate 1 (Value.int .u8 0)) (by rw[hz1];simp) (λj v hj=>by
   have hadd:(⟨w.heap.size,0,none⟩:Addr).add j=⟨w.heap.size,j,none⟩:=by unfold Addr.add;split<;>simp_all
   rw[hadd,cell_of (heap_alloc_new w _),<-hj,<-hml];simp) (by omega) (by omega) (growslice_fits (by omega) (by rw[hz2];omega))
 obtain⟨gc,hgc⟩:=exA (grownCap (w.alloc (.cells (madeCells #[Value.int .u8 0] 1) 5)) (0+1) 0 5);have hge:0+1<=gc:=by rw[hgc];exact grownCap_ge _ _ _ _
 have hgm:gc<=maxLen:=by rw[hgc];exact grownCap_le_maxLen _ _ _ _ (by unfold maxLen;omega)
 rw[<-hgc] at happ;obtain⟨c1,hc1d⟩:=exA (([]:List Value).toArray++(List.replicate 1 (Value.int .u8 0)).toArray++Builtin.zeroCells #[Value.int .u8 0] (gc-(0+1)));have hc1s:c1.size=gc:=by
  rw[hc1d];simp only[Array.size_append,List.size_toArray,List.length_replicate,size_zeroCells];simp;omega
 have hc1t:c1.toList.take 1=[Value.int .u8 0]:=by
  rw[hc1d];simp
 have e2:(Value.int IntKind.u8 0).cells=#[Value.int .u8 0]:=rfl;rw[e2,<-hc1d,size_alloc] at happ;obtain⟨w1,hw1⟩:=exA ((w.alloc (.cells (madeCells #[Value.int .u8 0] 1) 5)).drew.alloc (.cells c1 5));have hf1:Fr0 w w1:=by rw[hw1];exact (((Fr.refl _ w).alloc _).drew).alloc _
 have hb1:w1.heap[b]?=_:=(hf1.block b hbl (λx=>x)).trans h.hb;have hy1:w1.heap[w.heap.size+1]?=some (.cells c1 5):=by
  rw[hw1];have:=heap_alloc_new (w.alloc (.cells (madeCells #[Value.int .u8 0] 1) 5)).drew (.cells c1 5)
  have e:(w.alloc (.cells (madeCells #[Value.int .u8 0] 1) 5)).drew.heap.size=w.heap.size+1:=by
   show (w.alloc _).heap.size=_;simp
  rwa [e] at this
 rw[<-hw1] at happ;have a0:w1.cell? ⟨b,0,none⟩=some (.slice (some ⟨Y,0,none⟩) 0 0):=by rw[cell_of hb1,hL1,hcs];rfl
 have g0:=frozen_of hb1 0;simp only[Nat.zero_add] at happ hge;obtain⟨w2,hw2⟩:=exA (w1.setCell ⟨b,0,none⟩ (.slice (some ⟨w.heap.size+1,0,none⟩) 1 gc));have hb2:=heap_setCell_same hb1 0 (.slice (some ⟨w.heap.size+1,0,none⟩) 1 gc);have hy2:(w1.setCell ⟨b,0,none⟩ (.slice (some ⟨w.heap.size+1,0,none⟩) 1 gc)).heap[w.heap.size+1]?=some (.cells c1 5):=by
  rw[heap_setCell_other _ _ _ _ (show w.heap.size+1≠b by omega)];exact hy1
 rw[<-hw2] at hb2 hy2;have d0:w2.cell? ⟨b,0,none⟩=some (.slice (some ⟨w.heap.size+1,0,none⟩) 1 gc):=by rw[cell_of hb2];rfl
 have hfrom:=λw'=>run_slice_from (P:=Tryz.prog) Tryz.underlying81 sizeU8b (w.heap.size+1) 0 1 gc .i64 0 0 rfl (by omega) w';rw[sOff_zero] at hfrom;have hto2:=λw'=>run_slice_to (P:=Tryz.prog) Tryz.underlying81 sizeU8b (w.heap.size+1) 0 1 gc .i64 0 0 rfl (by omega) w';have hcopy:=λnq ty=>run_copy_row (P:=Tryz.prog) (w2.drewN nq) 81 81 ty 5 (w.heap.size+1) 0 1 gc ⟨w.heap.size+1,0,none⟩ 0 gc c1 5 []
  Tryz.underlying81 sizeU8b hy2 (by show 0=min 0 1;omega) (λj v hj=>by simp at hj) (by simp) (by simp)
 have HB:=Hd h;have HB2:=Hd hb2;have HY2:=Hd hy2;have HF1:=Hd hf1;have HW2:=Hd hw2;have HW1:=Hd hw1;have HT:=Hd hc1t;have HS:=Hd hc1s;have HAPP:=Hd happ;clear h hb2 hy2 hf1 hw1 hw2 hc1t hc1s happ hc1d hb1 hy1 hgc hml e2 hand;go_enter Tryz.func142,Tryz.ntmps142;go_wp2_with (at_builtin;refine wpList_append_new rfl (.tmp 49) (.tmp 50) 81 rfl _ _ _ rfl rfl (HAPP.out _) ?_);rw[<-HW2.out];refine lst _ ?_;simp only[List.dropLast];repeat (go_big_quiet_step (fail))
 refine wpQuiet_nil ?_;intro nq;refine wpOp_step rfl (λK hK=>?_);go_simp;refine hK _ _ ?_;go_wp2_with fail;go_end0
 refine⟨rfl,w.heap.size+1,c1,?_⟩;have hs1:=HS.out;refine⟨?_,setRow_heap' _ trivial trivial HY2.out,by rw[hs1];exact hge,by rw[hs1];exact hgm,?_,?_,.inr (Nat.le_succ _),by omega,?_⟩
 ·rw[setRow_other' _ _ _ _ (by omega),hs1];exact HB2.out
 ·show (c1.toList.take 1).drop 1=_;rw[HT.out];rfl
 ·show ∀v∈c1.toList.take 1,_;rw[HT.out];intro v hv;rw[List.mem_singleton] at hv;rw[hv];rfl
 ·have h1:Fr (λk=>k=b\/k=Y) w w2:=by
   rw[HW2.out];exact (HF1.out.mono (λ_ _ x=>x.elim)).setCell (λ_=>.inl rfl) _
  exact setRow_fr (h1.drewN nq) (λhlt=>absurd hlt (by omega)) _
theorem grow_calls(b Y:Nat)(r:BRest)(room least:Nat)(bytes:List UInt8)(c:Array Value)(w:World)(h:BB w b Y r room least bytes c):
  Calls Tryz.prog 142 #[.pointer (some ⟨b,0,none⟩)] w λe w'=>e=.returned (.tuple #[])/\∃Y' c',Grew w w' b Y Y' r room least (room+bytes.length) c c':=by
 by_cases h0:room+bytes.length=0
 ·exact grow_zero b Y r room least bytes c w h h0
 ·by_cases hc:newL (room+bytes.length)<=c.size
  ·exact grow_re b Y r room least bytes c w h hc
  ·exact grow_new b Y r room least bytes c w h (by omega) h0
def BBx (w w':World)(b Y:Nat)(r:BRest)(room least:Nat)(bytes:List UInt8):Prop :=
 ∃Y' c',(Y'=Y\/w.heap.size<=Y')/\BB w' b Y' r room least bytes c'/\Fr (λk=>k=b\/k=Y) w w'
theorem BBx.here{w w':World}{b Y:Nat}{r:BRest}{room least:Nat}{bytes:List UInt8}(h:∃c',BB w' b Y r room least bytes c')(hf:Fr (λk=>k=b\/k=Y) w w'):BBx w w' b Y r room least bytes:=by
 obtain⟨c',h⟩:=h;exact⟨Y,c',.inl rfl,h,hf⟩
theorem BBx.trans{w w1 w2:World}{b Y Y1:Nat}{r':BRest}{room' least':Nat}{bytes':List UInt8}(hY:Y1=Y\/w.heap.size<=Y1)(hf:Fr (λk=>k=b\/k=Y) w w1)
  (h:BBx w1 w2 b Y1 r' room' least' bytes'):BBx w w2 b Y r' room' least' bytes':=by
 obtain⟨Y2,c2,hY2,hb,hf2⟩:=h;have hs:=hf.size;refine⟨Y2,c2,?_,hb,hf.trans2 hf2 ?_⟩
 ·rcases hY2 with rfl|h
  ·exact hY
  ·right;omega
 ·rintro i hi (rfl|rfl)
  ·exact .inl rfl
  ·rcases hY with rfl|h
   ·exact .inr rfl
   ·omega
theorem ret_u32{a b:Int}(h:a=b):Ending.returned (.int .u32 a)=.returned (.int .u32 b):=by rw[h]
theorem quiet_same2{P:Program}{f:FuncId}{args:Array Value}{w:World}{n:Nat}{v:Value}(h:Calls P f args (w.drewN n) λe w'=>e=.returned v/\w.drewN n=w'):
  Calls P f args (w.drewN n) λe w''=>e=.returned v/\∃m,w''=w.drewN m:=h.mono λ_ _ h=>⟨h.1,n,h.2.symm⟩
theorem Head_calls(b Y:Nat)(r:BRest)(room least:Nat)(bytes:List UInt8)(c:Array Value)(w:World)(h:BB w b Y r room least bytes c):
  Calls Tryz.prog 45 #[.pointer (some ⟨b,0,none⟩)] w λe w'=>e=.returned (.int .u32 room)/\w=w':=by
 have c5:w.cell? ⟨b,5,none⟩=some (.int .u32 room):=by rw[cell_of h.hb];rfl
 clear h;go_enter Tryz.func45,Tryz.ntmps45;go_wp2_with fail;go_ret;exact⟨rfl,rfl⟩
theorem Offset_calls(b Y:Nat)(r:BRest)(room least:Nat)(bytes:List UInt8)(c:Array Value)(w:World)(h:BB w b Y r room least bytes c):
  Calls Tryz.prog 44 #[.pointer (some ⟨b,0,none⟩)] w λe w'=>e=.returned (.int .u32 bytes.length)/\∃n,w'=w.drewN n:=by
 have hlim:=h.lim;have c0:w.cell? ⟨b,0,none⟩=some (.slice (some ⟨Y,0,none⟩) (room+bytes.length) c.size):=by rw[cell_of h.hb];rfl
 have c5:w.cell? ⟨b,5,none⟩=some (.int .u32 room):=by rw[cell_of h.hb];rfl
 clear h;go_enter Tryz.func44,Tryz.ntmps44;go_wp2_with fail;go_quiet (fail)
 go_wp2_with fail;go_ret;exact⟨ret_u32 (by omega),nq,rfl⟩
theorem replicate_snoc(j:Nat)(x:UInt8)(bytes:List UInt8):x::(List.replicate j x++bytes)=List.replicate (j+1) x++bytes:=by
 rw[List.replicate_succ];rfl
theorem leI_zero:leI 1 0=[0]:=by decide
theorem Pad_calls(b Y:Nat)(r:BRest)(room least n:Nat)(bytes:List UInt8)(c:Array Value)(w:World)(h:BB w b Y r room least bytes c)(hn:n<=room):
  Calls Tryz.prog 87 #[.pointer (some ⟨b,0,none⟩),.int .i64 n] w λe w'=>e=.returned (.tuple #[])/\(∃c',BB w' b Y r (room-n) least (List.replicate n 0++bytes) c')/\Fr (λk=>k=b\/k=Y) w w':=by
 have hlim:=h.lim;have HB:=Hd h;clear h;go_enter Tryz.func87,Tryz.ntmps87;go_wp2_with fail;go_loopw [4] (λiv wr=>∃j:Nat,j<=n/\iv=.int .i64 j/\(∃c',BB wr b Y r (room-j) least (List.replicate j 0++bytes) c')/\Fr (λk=>k=b\/k=Y) w wr) (λiv _=>n-(intOf iv).toNat)
 case atStart=>exact⟨0,Nat.zero_le _,rfl,⟨c,HB.out⟩,Fr.refl _ _⟩
 case round =>
  obtain⟨j,hj,rfl,⟨c',hbb⟩,hfr⟩:=hrel;have HBB:=Hd hbb;have HFR:=Hd hfr;clear hbb hfr;by_cases hlt:j<n
  ·go_wp2_with fail;refine (PlaceByte_ok b Y r (room-j) least _ c' 0 (by decide) (by decide) _ HBB.out (by omega)).mono ?_;rintro e w' ⟨rfl,⟨c2,hb2⟩,hf2⟩;have HB2:=Hd hb2;have HF2:=Hd (HFR.out.trans hf2);clear hb2 hf2;go_wp2_with fail;go_roundw
   case rel =>
    refine⟨j+1,by omega,by go_num,⟨c2,?_⟩,HF2.out⟩;have:=HB2.out
    rw[leI_zero] at this;rw[<-replicate_snoc,show room-(j+1)=room-j-1 by omega];exact this
   case measure=>simp[intOf];omega
  ·obtain rfl:j=n:=by omega
   go_wp2_with fail;go_end0
   exact⟨rfl,⟨c',HBB.out⟩,HFR.out⟩
def roomL:Nat->Nat->Nat->Nat->Nat
 | 0,room,_,_=>room
 | f+1,room,used,need=>if room<=need then roomL f (newL (room+used)-used) used need else room
def prepRoom(room used need:Nat):Nat:=roomL (need+2) room used need
def padB (u s:Nat):Nat:=(s-u%s)%s
theorem xor_neg1(x:Nat)(hx:x<2^62):bits .xor .i64 (-1) (x:Int)=-(x:Int)-1:=by
 have h2:(BitVec.ofInt 64 (x:Int)).toNat=x:=by
  rw[BitVec.ofInt_natCast,BitVec.toNat_ofNat];exact Nat.mod_eq_of_lt (by omega)
 have h1:BitVec.ofInt 64 (-1)=BitVec.allOnes 64:=by decide
 show IntKind.i64.wrap ((BitVec.ofInt 64 (-1) ^^^ BitVec.ofInt 64 (x:Int)).toNat:Int)=_;rw[h1,BitVec.allOnes_xor,BitVec.toNat_not,h2,IntKind.wrap_i64];omega
theorem align_eq(room used add size:Nat)(hs:size=1\/size=2\/size=4\/size=8\/size=16)(hl:used+add<=2000000):
  bits .and .i64 (wrap64 (bits .xor .i64 (-1) ((room:Int)+(used:Int)-(room:Int)+(add:Int))+1)) ((size:Int)-1)=((padB (used+add) size:Nat):Int):=by
 have e:(room:Int)+(used:Int)-(room:Int)+(add:Int)=((used+add:Nat):Int):=by omega
 rw[e,xor_neg1 _ (by omega)];have e2:wrap64 (-((used+add:Nat):Int)-1+1)=-((used+add:Nat):Int):=by
  have:-((used+add:Nat):Int)-1+1=-((used+add:Nat):Int):=by omega
  rw[this,<-IntWalk.i64_left];exact IntWalk.i64_in _ (by omega)
 rw[e2];unfold padB;rcases hs with rfl|rfl|rfl|rfl|rfl
 ·exact and_mask (used+add) 0 (by decide)
 ·exact and_mask (used+add) 1 (by decide)
 ·exact and_mask (used+add) 2 (by decide)
 ·exact and_mask (used+add) 3 (by decide)
 ·exact and_mask (used+add) 4 (by decide)
def roomOf(w:World)(b:Nat):Nat:=match w.cell? ⟨b,5,none⟩ with|some (.int _ q)=>q.toNat|_=>0
theorem roomOf_eq{w:World}{b Y:Nat}{r:BRest}{room least:Nat}{bytes:List UInt8}{c:Array Value}(h:BB w b Y r room least bytes c):roomOf w b=room:=by
 have c5:w.cell? ⟨b,5,none⟩=some (.int .u32 room):=by rw[cell_of h.hb];rfl
 unfold roomOf;rw[c5];simp
theorem Prep_calls(b Y:Nat)(r:BRest)(room least size add:Nat)(bytes:List UInt8)(c:Array Value)(w:World)(h:BB w b Y r room least bytes c)(hs:size=1\/size=2\/size=4\/size=8\/size=16)(hadd:bytes.length+add<=1900000):
  Calls Tryz.prog 85 #[.pointer (some ⟨b,0,none⟩),.int .i64 size,.int .i64 add] w λe w'=>e=.returned (.tuple #[]) /\
   BBx w w' b Y r (prepRoom room bytes.length (padB (bytes.length+add) size+size+add)-padB (bytes.length+add) size) (max least size) (List.replicate (padB (bytes.length+add) size) 0++bytes):=by
 have hlim:=h.lim;have hal:=align_eq room bytes.length add size hs (by omega);have hpl:padB (bytes.length+add) size<16:=by
  unfold padB;have:=Nat.mod_lt (size-(bytes.length+add)%size) (show 0<size by omega)
  omega
 have hsz:size<=16:=by omega
 have hsz0:0<size:=by omega
 clear hs;generalize padB (bytes.length+add) size=pad at *;have c1:w.cell? ⟨b,1,none⟩=some (.int .i64 least):=by rw[cell_of h.hb];rfl
 have f1:=frozen_of h.hb 1;have hsg:IntKind.i64.signed=true:=rfl;by_cases hl:least<size
 ·have hm:max least size=size:=by omega
  rw[hm];obtain⟨w1,hw1⟩:=exA (w.setCell ⟨b,1,none⟩ (.int .i64 size));have hf1:Fr (λk=>k=b\/k=Y) w w1:=by rw[hw1];exact (Fr.refl _ w).setCell (λ_=>.inl rfl) _
  have hb1:BB w1 b Y r room size bytes c:=by
   rw[hw1];exact⟨heap_setCell_same h.hb 1 (.int .i64 size),by rw[heap_setCell_other _ _ _ _ (show Y≠b from λe=>h.ne e.symm)];exact h.hy,h.fit,h.eq,h.lim,h.ne,h.cap,h.one,h.zero⟩
  have HW1:=Hd hw1;have HB:=Hd hb1;have HF:=Hd hf1;clear h hw1 hb1 hf1 hm;go_enter Tryz.func85,Tryz.ntmps85;go_wp2_with fail;rw[<-HW1.out];have HH:=Hd (λnq=>Head_calls b Y r room size bytes c (w1.drewN nq) (HB.out.drewN nq));have c0:w1.cell? ⟨b,0,none⟩=some (.slice (some ⟨Y,0,none⟩) (room+bytes.length) c.size):=by rw[cell_of HB.out.hb];rfl
  go_quiet ((go_at_call 45;exact quiet_same2 (HH.out _)))
  go_wp2_with fail;have hbn:=HB.out.drewN nq;have hfn:=HF.out.drewN nq;generalize w1.drewN nq=w2 at *;have HB2:=Hd hbn;have HF2:=Hd hfn;clear hbn hfn c0 HB HF HH;go_loopw [7] (λlv wr=>∃Y' c' room' f,(Y'=Y\/w.heap.size<=Y')/\BB wr b Y' r room' size bytes c'/\Fr (λk=>k=b\/k=Y) w wr/\prepRoom room bytes.length (pad+size+add)=roomL f room' bytes.length (pad+size+add)/\pad+size+add+1<=f+room')
   (λ_ wr=>pad+size+add+1-roomOf wr b)
  case atStart=>exact⟨Y,c,room,_,.inl rfl,HB2.out,HF2.out,rfl,by omega⟩
  case round =>
   obtain⟨Y',c',room',f,hY,hbb,hfr,hpr,hfu⟩:=hrel;have hlim':=hbb.lim;have HBB:=Hd hbb;have HFR:=Hd hfr;have HPR:=Hd hpr;have HY:=Hd hY;have d0:wr.cell? ⟨b,0,none⟩=some (.slice (some ⟨Y',0,none⟩) (room'+bytes.length) c'.size):=(by rw[cell_of hbb.hb];rfl);have d5:wr.cell? ⟨b,5,none⟩=some (.int .u32 room'):=(by rw[cell_of hbb.hb];rfl);clear hbb hfr hpr hY;by_cases hlt:room'<=pad+size+add
   ·go_wp2_with fail;refine (grow_calls b Y' r room' size bytes c' wr HBB.out).mono ?_;rintro e w3 ⟨rfl,Y2,c2,hb3,hy3,hfit3,hcap3,heq3,hone3,hYY,hne3,hf3⟩;have hbl:=HB2.out.lim;obtain⟨nl,hnl⟩:=exA (newL (room'+bytes.length));have hnl2:room'+bytes.length<nl/\nl<=4000000:=by rw[hnl];unfold newL;split<;>omega
    rw[<-hnl] at hb3 hfit3 heq3 hone3;obtain⟨room2,hroom2⟩:=exA (nl-bytes.length);have hval:((room':Int)+((nl:Int)-((room':Int)+(bytes.length:Int))))=((room2:Nat):Int):=(by omega);have hnl3:nl=room2+bytes.length:=(by omega);have hr2:room' < room2:=(by omega);have a0:w3.cell? ⟨b,0,none⟩=some (.slice (some ⟨Y2,0,none⟩) nl c2.size):=(by rw[cell_of hb3];rfl);have a5:w3.cell? ⟨b,5,none⟩=some (.int .u32 room'):=(by rw[cell_of hb3];rfl);have g5:=frozen_of hb3 5;have hb4:∀nq,BB ((w3.drewN nq).setCell ⟨b,5,none⟩ (.int .u32 (room2:Nat))) b Y2 r room2 size bytes c2:=λnq=>by
     refine⟨?_,?_,by omega,?_,by omega,hne3,hcap3,by rw[<-hnl3];exact hone3,λh=>by omega⟩
     ·have:=heap_setCell_same (w:=w3.drewN nq) hb3 5 (.int .u32 (room2:Nat))
      rw[<-hnl3];exact this
     ·rw[heap_setCell_other _ _ _ _ (show Y2≠b from λe=>hne3 e.symm)];exact hy3
     ·rw[<-hnl3];have h1:room2=(nl-(room'+bytes.length))+room':=(by omega);rw[h1,<-List.drop_drop,heq3];exact HBB.out.eq
    have hf4:∀nq,Fr (λk=>k=b\/k=Y) w ((w3.drewN nq).setCell ⟨b,5,none⟩ (.int .u32 (room2:Nat))):=λnq=>by
     refine HFR.out.trans2 (((hf3.drewN nq).setCell (λ_=>.inl rfl) _)) ?_;rintro k hk (rfl|rfl)
     ·exact .inl rfl
     ·rcases HY.out with rfl|h
      ·exact .inr rfl
      ·omega
    have hY4:Y2=Y\/w.heap.size<=Y2:=by
     rcases hYY with rfl|h
     ·exact HY.out
     ·right;have:=HFR.out.size;omega
    have hpr4:prepRoom room bytes.length (pad+size+add)=roomL (f-1) room2 bytes.length (pad+size+add):=by
     rw[HPR.out];obtain⟨f',rfl⟩:∃f',f=f'+1:=⟨f-1,by omega⟩;show (if room'<=pad+size+add then roomL f' (newL (room'+bytes.length)-bytes.length) bytes.length (pad+size+add) else room')=_;rw[if_pos hlt,<-hnl,<-hroom2];rfl
    have HB4:=Hd hb4;have HF4:=Hd hf4;have HY4:=Hd hY4;have HP4:=Hd hpr4;have HR4:=Hd (show pad+size+add+1<=f-1+room2 by omega);have hro:=roomOf_eq HBB.out;have HRO:=Hd hro;clear hb4 hf4 hY4 hpr4 hb3 hy3 hfit3 hcap3 heq3 hone3 hYY hne3 hf3 hnl hroom2 hnl3 d0 d5 hro;go_wp2_with fail;refine lst _ ?_;simp only[List.dropLast];repeat (go_big_quiet_step (fail))
    refine wpQuiet_nil ?_;intro nq;refine wpOp_step rfl (λK hK=>?_);go_simp;refine hK _ _ ?_;have HB5:=Hd (HB4.out nq);have HF5:=Hd (HF4.out nq);have hro2:=roomOf_eq HB5.out;generalize (w3.drewN nq).setCell ⟨b,5,none⟩ (.int .u32 (room2:Nat))=w5 at *;have HRO2:=Hd hro2;clear hro2;go_wp2_with fail;go_roundw
    case rel =>
     exact⟨Y2,c2,room2,f-1,HY4.out,HB5.out,HF5.out,HP4.out,HR4.out⟩
    case measure =>
     rw[HRO2.out,HRO.out];omega
   ·go_wp2_with fail;refine (Pad_calls b Y' r room' size pad bytes c' wr HBB.out (by omega)).mono ?_;rintro e w3 ⟨rfl,⟨c2,hb3⟩,hf3⟩;have HB3:=Hd hb3;have HF3:=Hd hf3;clear hb3 hf3;go_wp2_with fail;go_end0
    have hrl:roomL f room' bytes.length (pad+size+add)=room':=by
     cases f with
     | zero=>rfl
     | succ f=>exact if_neg hlt
    have hpr:=HPR.out;rw[hrl] at hpr;rw[hpr];refine⟨rfl,Y',c2,HY.out,HB3.out,HFR.out.trans2 HF3.out ?_⟩;rintro k hk (rfl|rfl)
    ·exact .inl rfl
    ·rcases HY.out with rfl|h
     ·exact .inr rfl
     ·omega
 ·have hm:max least size=least:=by omega
  rw[hm];have HB:=Hd h;have HF:=Hd (Fr.refl (λk=>k=b\/k=Y) w);clear h hm;go_enter Tryz.func85,Tryz.ntmps85;go_wp2_with fail;have HH:=Hd (λnq=>Head_calls b Y r room least bytes c (w.drewN nq) (HB.out.drewN nq));have c0:w.cell? ⟨b,0,none⟩=some (.slice (some ⟨Y,0,none⟩) (room+bytes.length) c.size):=by rw[cell_of HB.out.hb];rfl
  go_quiet ((go_at_call 45;exact quiet_same2 (HH.out _)))
  go_wp2_with fail;have hbn:=HB.out.drewN nq;have hfn:=HF.out.drewN nq;generalize w.drewN nq=w2 at *;have HB2:=Hd hbn;have HF2:=Hd hfn;clear hbn hfn c0 HB HF HH;go_loopw [7] (λlv wr=>∃Y' c' room' f,(Y'=Y\/w.heap.size<=Y')/\BB wr b Y' r room' least bytes c'/\Fr (λk=>k=b\/k=Y) w wr/\prepRoom room bytes.length (pad+size+add)=roomL f room' bytes.length (pad+size+add)/\pad+size+add+1<=f+room')
   (λ_ wr=>pad+size+add+1-roomOf wr b)
  case atStart=>exact⟨Y,c,room,_,.inl rfl,HB2.out,HF2.out,rfl,by omega⟩
  case round =>
   obtain⟨Y',c',room',f,hY,hbb,hfr,hpr,hfu⟩:=hrel;have hlim':=hbb.lim;have HBB:=Hd hbb;have HFR:=Hd hfr;have HPR:=Hd hpr;have HY:=Hd hY;have d0:wr.cell? ⟨b,0,none⟩=some (.slice (some ⟨Y',0,none⟩) (room'+bytes.length) c'.size):=(by rw[cell_of hbb.hb];rfl);have d5:wr.cell? ⟨b,5,none⟩=some (.int .u32 room'):=(by rw[cell_of hbb.hb];rfl);clear hbb hfr hpr hY;by_cases hlt:room'<=pad+size+add
   ·go_wp2_with fail;refine (grow_calls b Y' r room' least bytes c' wr HBB.out).mono ?_;rintro e w3 ⟨rfl,Y2,c2,hb3,hy3,hfit3,hcap3,heq3,hone3,hYY,hne3,hf3⟩;have hbl:=HB2.out.lim;obtain⟨nl,hnl⟩:=exA (newL (room'+bytes.length));have hnl2:room'+bytes.length<nl/\nl<=4000000:=by rw[hnl];unfold newL;split<;>omega
    rw[<-hnl] at hb3 hfit3 heq3 hone3;obtain⟨room2,hroom2⟩:=exA (nl-bytes.length);have hval:((room':Int)+((nl:Int)-((room':Int)+(bytes.length:Int))))=((room2:Nat):Int):=(by omega);have hnl3:nl=room2+bytes.length:=(by omega);have hr2:room' < room2:=(by omega);have a0:w3.cell? ⟨b,0,none⟩=some (.slice (some ⟨Y2,0,none⟩) nl c2.size):=(by rw[cell_of hb3];rfl);have a5:w3.cell? ⟨b,5,none⟩=some (.int .u32 room'):=(by rw[cell_of hb3];rfl);have g5:=frozen_of hb3 5;have hb4:∀nq,BB ((w3.drewN nq).setCell ⟨b,5,none⟩ (.int .u32 (room2:Nat))) b Y2 r room2 least bytes c2:=λnq=>by
     refine⟨?_,?_,by omega,?_,by omega,hne3,hcap3,by rw[<-hnl3];exact hone3,λh=>by omega⟩
     ·have:=heap_setCell_same (w:=w3.drewN nq) hb3 5 (.int .u32 (room2:Nat))
      rw[<-hnl3];exact this
     ·rw[heap_setCell_other _ _ _ _ (show Y2≠b from λe=>hne3 e.symm)];exact hy3
     ·rw[<-hnl3];have h1:room2=(nl-(room'+bytes.length))+room':=(by omega);rw[h1,<-List.drop_drop,heq3];exact HBB.out.eq
    have hf4:∀nq,Fr (λk=>k=b\/k=Y) w ((w3.drewN nq).setCell ⟨b,5,none⟩ (.int .u32 (room2:Nat))):=λnq=>by
     refine HFR.out.trans2 (((hf3.drewN nq).setCell (λ_=>.inl rfl) _)) ?_;rintro k hk (rfl|rfl)
     ·exact .inl rfl
     ·rcases HY.out with rfl|h
      ·exact .inr rfl
      ·omega
    have hY4:Y2=Y\/w.heap.size<=Y2:=by
     rcases hYY with rfl|h
     ·exact HY.out
     ·right;have:=HFR.out.size;omega
    have hpr4:prepRoom room bytes.length (pad+size+add)=roomL (f-1) room2 bytes.length (pad+size+add):=by
     rw[HPR.out];obtain⟨f',rfl⟩:∃f',f=f'+1:=⟨f-1,by omega⟩;show (if room'<=pad+size+add then roomL f' (newL (room'+bytes.length)-bytes.length) bytes.length (pad+size+add) else room')=_;rw[if_pos hlt,<-hnl,<-hroom2];rfl
    have HB4:=Hd hb4;have HF4:=Hd hf4;have HY4:=Hd hY4;have HP4:=Hd hpr4;have HR4:=Hd (show pad+size+add+1<=f-1+room2 by omega);have hro:=roomOf_eq HBB.out;have HRO:=Hd hro;clear hb4 hf4 hY4 hpr4 hb3 hy3 hfit3 hcap3 heq3 hone3 hYY hne3 hf3 hnl hroom2 hnl3 d0 d5 hro;go_wp2_with fail;refine lst _ ?_;simp only[List.dropLast];repeat (go_big_quiet_step (fail))
    refine wpQuiet_nil ?_;intro nq;refine wpOp_step rfl (λK hK=>?_);go_simp;refine hK _ _ ?_;have HB5:=Hd (HB4.out nq);have HF5:=Hd (HF4.out nq);have hro2:=roomOf_eq HB5.out;generalize (w3.drewN nq).setCell ⟨b,5,none⟩ (.int .u32 (room2:Nat))=w5 at *;have HRO2:=Hd hro2;clear hro2;go_wp2_with fail;go_roundw
    case rel =>
     exact⟨Y2,c2,room2,f-1,HY4.out,HB5.out,HF5.out,HP4.out,HR4.out⟩
    case measure =>
     rw[HRO2.out,HRO.out];omega
   ·go_wp2_with fail;refine (Pad_calls b Y' r room' least pad bytes c' wr HBB.out (by omega)).mono ?_;rintro e w3 ⟨rfl,⟨c2,hb3⟩,hf3⟩;have HB3:=Hd hb3;have HF3:=Hd hf3;clear hb3 hf3;go_wp2_with fail;go_end0
    have hrl:roomL f room' bytes.length (pad+size+add)=room':=by
     cases f with
     | zero=>rfl
     | succ f=>exact if_neg hlt
    have hpr:=HPR.out;rw[hrl] at hpr;rw[hpr];refine⟨rfl,Y',c2,HY.out,HB3.out,HFR.out.trans2 HF3.out ?_⟩;rintro k hk (rfl|rfl)
    ·exact .inl rfl
    ·rcases HY.out with rfl|h
     ·exact .inr rfl
     ·omega
structure BM where
 room:Nat
 least:Nat
 bytes:List UInt8
def BM.pad(m:BM)(size add:Nat):Nat:=padB (m.bytes.length+add) size
def BM.prep(m:BM)(size add:Nat):BM:=⟨prepRoom m.room m.bytes.length (m.pad size add+size+add)-m.pad size add,max m.least size,List.replicate (m.pad size add) 0++m.bytes⟩
def BM.put(m:BM)(xs:List UInt8):BM:=⟨m.room-xs.length,m.least,xs++m.bytes⟩
abbrev BBm(w:World)(b Y:Nat)(r:BRest)(m:BM)(c:Array Value):Prop:=BB w b Y r m.room m.least m.bytes c
abbrev BBy(w w':World)(b Y:Nat)(r:BRest)(m:BM):Prop:=BBx w w' b Y r m.room m.least m.bytes
theorem newL_gt(L:Nat):L<newL L:=by unfold newL;split<;>omega
theorem roomL_gt(used need:Nat):∀(f room:Nat),need+1<=f+room->need<roomL f room used need
 | 0,room,h=>by show need<room;omega
 | f+1,room,h=>by
  show need<(if room<=need then _ else room);split
  ·have:=newL_gt (room+used)
   exact roomL_gt used need f _ (by omega)
  ·omega
theorem prepRoom_gt(room used need:Nat):need<prepRoom room used need:=roomL_gt used need _ room (by omega)
theorem BM.prep_room(m:BM)(size add:Nat):size+add<(m.prep size add).room:=by
 have:=prepRoom_gt m.room m.bytes.length (m.pad size add+size+add)
 show size+add<prepRoom _ _ _-m.pad size add;omega
def algn (s:Nat):Prop:=s=1\/s=2\/s=4\/s=8\/s=16
theorem Prep_m(b Y:Nat)(r:BRest)(m:BM)(size add:Nat)(c:Array Value)(w:World)(h:BBm w b Y r m c)(hs:algn size)(hadd:m.bytes.length+add<=1900000):
  Calls Tryz.prog 85 #[.pointer (some ⟨b,0,none⟩),.int .i64 size,.int .i64 add] w λe w'=>e=.returned (.tuple #[])/\BBy w w' b Y r (m.prep size add) :=
 Prep_calls b Y r m.room m.least size add m.bytes c w h hs hadd
theorem PrependBool_calls(b Y:Nat)(r:BRest)(m:BM)(c:Array Value)(x:Bool)(w:World)(h:BBm w b Y r m c)(hu:m.bytes.length<=1900000):
  Calls Tryz.prog 114 #[.pointer (some ⟨b,0,none⟩),.bool x] w λe w'=>e=.returned (.tuple #[])/\BBy w w' b Y r ((m.prep 1 0).put (leI 1 (b01 x))):=by
 have HP:=Hd (Prep_m b Y r m 1 0 c w h (by unfold algn;omega) hu);clear h hu;have hrm:=m.prep_room 1 0;have hxl:(leI 1 (b01 x)).length=1:=by first|rfl|simp
 have HX:=Hd hxl;have HR:=Hd hrm;clear hxl hrm;go_enter Tryz.func114,Tryz.ntmps114;go_wp2_with fail;refine HP.out.mono ?_;rintro e w1 ⟨rfl,Y1,c1,hY,hb,hf⟩;have HC:=Hd (PlaceBool_ok b Y1 r (m.prep 1 0).room (m.prep 1 0).least (m.prep 1 0).bytes c1 x w1 hb (by have:=HR.out;omega));have HY:=Hd hY;have HF:=Hd hf;clear hY hb hf;go_wp2_with fail;refine HC.out.mono ?_;rintro e w2 ⟨rfl,hb2,hf2⟩;have HE:=Hd (BBx.trans HY.out HF.out (BBx.here hb2 hf2));clear hb2 hf2;go_wp2_with fail;go_end0
 refine⟨rfl,?_⟩;show BBx _ _ _ _ _ ((m.prep 1 0).room-(leI 1 (b01 x)).length) _ _;rw[HX.out];exact HE.out
theorem PrependUint8_calls(b Y:Nat)(r:BRest)(m:BM)(c:Array Value)(x:Int)(h0:0<=x)(h1:x<256)(w:World)(h:BBm w b Y r m c)(hu:m.bytes.length<=1900000):
  Calls Tryz.prog 116 #[.pointer (some ⟨b,0,none⟩),.int .u8 x] w λe w'=>e=.returned (.tuple #[])/\BBy w w' b Y r ((m.prep 1 0).put (leI 1 x)):=by
 have HP:=Hd (Prep_m b Y r m 1 0 c w h (by unfold algn;omega) hu);clear h hu;have hrm:=m.prep_room 1 0;have hxl:(leI 1 x).length=1:=by first|rfl|simp
 have HX:=Hd hxl;have HR:=Hd hrm;clear hxl hrm;go_enter Tryz.func116,Tryz.ntmps116;go_wp2_with fail;refine HP.out.mono ?_;rintro e w1 ⟨rfl,Y1,c1,hY,hb,hf⟩;have HC:=Hd (PlaceUint8_ok b Y1 r (m.prep 1 0).room (m.prep 1 0).least (m.prep 1 0).bytes c1 x h0 h1 w1 hb (by have:=HR.out;omega));have HY:=Hd hY;have HF:=Hd hf;clear hY hb hf;go_wp2_with fail;refine HC.out.mono ?_;rintro e w2 ⟨rfl,hb2,hf2⟩;have HE:=Hd (BBx.trans HY.out HF.out (BBx.here hb2 hf2));clear hb2 hf2;go_wp2_with fail;go_end0
 refine⟨rfl,?_⟩;show BBx _ _ _ _ _ ((m.prep 1 0).room-(leI 1 x).length) _ _;rw[HX.out];exact HE.out
theorem PrependByte_calls(b Y:Nat)(r:BRest)(m:BM)(c:Array Value)(x:Int)(h0:0<=x)(h1:x<256)(w:World)(h:BBm w b Y r m c)(hu:m.bytes.length<=1900000):
  Calls Tryz.prog 245 #[.pointer (some ⟨b,0,none⟩),.int .u8 x] w λe w'=>e=.returned (.tuple #[])/\BBy w w' b Y r ((m.prep 1 0).put (leI 1 x)):=by
 have HP:=Hd (Prep_m b Y r m 1 0 c w h (by unfold algn;omega) hu);clear h hu;have hrm:=m.prep_room 1 0;have hxl:(leI 1 x).length=1:=by first|rfl|simp
 have HX:=Hd hxl;have HR:=Hd hrm;clear hxl hrm;go_enter Tryz.func245,Tryz.ntmps245;go_wp2_with fail;refine HP.out.mono ?_;rintro e w1 ⟨rfl,Y1,c1,hY,hb,hf⟩;have HC:=Hd (PlaceByte_ok b Y1 r (m.prep 1 0).room (m.prep 1 0).least (m.prep 1 0).bytes c1 x h0 h1 w1 hb (by have:=HR.out;omega));have HY:=Hd hY;have HF:=Hd hf;clear hY hb hf;go_wp2_with fail;refine HC.out.mono ?_;rintro e w2 ⟨rfl,hb2,hf2⟩;have HE:=Hd (BBx.trans HY.out HF.out (BBx.here hb2 hf2));clear hb2 hf2;go_wp2_with fail;go_end0
 refine⟨rfl,?_⟩;show BBx _ _ _ _ _ ((m.prep 1 0).room-(leI 1 x).length) _ _;rw[HX.out];exact HE.out
theorem PrependInt8_calls(b Y:Nat)(r:BRest)(m:BM)(c:Array Value)(x:Int)(w:World)(h:BBm w b Y r m c)(hu:m.bytes.length<=1900000):
  Calls Tryz.prog 117 #[.pointer (some ⟨b,0,none⟩),.int .i8 x] w λe w'=>e=.returned (.tuple #[])/\BBy w w' b Y r ((m.prep 1 0).put (leI 1 x)):=by
 have HP:=Hd (Prep_m b Y r m 1 0 c w h (by unfold algn;omega) hu);clear h hu;have hrm:=m.prep_room 1 0;have hxl:(leI 1 x).length=1:=by first|rfl|simp
 have HX:=Hd hxl;have HR:=Hd hrm;clear hxl hrm;go_enter Tryz.func117,Tryz.ntmps117;go_wp2_with fail;refine HP.out.mono ?_;rintro e w1 ⟨rfl,Y1,c1,hY,hb,hf⟩;have HC:=Hd (PlaceInt8_ok b Y1 r (m.prep 1 0).room (m.prep 1 0).least (m.prep 1 0).bytes c1 x w1 hb (by have:=HR.out;omega));have HY:=Hd hY;have HF:=Hd hf;clear hY hb hf;go_wp2_with fail;refine HC.out.mono ?_;rintro e w2 ⟨rfl,hb2,hf2⟩;have HE:=Hd (BBx.trans HY.out HF.out (BBx.here hb2 hf2));clear hb2 hf2;go_wp2_with fail;go_end0
 refine⟨rfl,?_⟩;show BBx _ _ _ _ _ ((m.prep 1 0).room-(leI 1 x).length) _ _;rw[HX.out];exact HE.out
theorem PrependUint16_calls(b Y:Nat)(r:BRest)(m:BM)(c:Array Value)(x:Int)(w:World)(h:BBm w b Y r m c)(hu:m.bytes.length<=1900000):
  Calls Tryz.prog 118 #[.pointer (some ⟨b,0,none⟩),.int .u16 x] w λe w'=>e=.returned (.tuple #[])/\BBy w w' b Y r ((m.prep 2 0).put (leI 2 x)):=by
 have HP:=Hd (Prep_m b Y r m 2 0 c w h (by unfold algn;omega) hu);clear h hu;have hrm:=m.prep_room 2 0;have hxl:(leI 2 x).length=2:=by first|rfl|simp
 have HX:=Hd hxl;have HR:=Hd hrm;clear hxl hrm;go_enter Tryz.func118,Tryz.ntmps118;go_wp2_with fail;refine HP.out.mono ?_;rintro e w1 ⟨rfl,Y1,c1,hY,hb,hf⟩;have HC:=Hd (PlaceUint16_ok b Y1 r (m.prep 2 0).room (m.prep 2 0).least (m.prep 2 0).bytes c1 x w1 hb (by have:=HR.out;omega));have HY:=Hd hY;have HF:=Hd hf;clear hY hb hf;go_wp2_with fail;refine HC.out.mono ?_;rintro e w2 ⟨rfl,hb2,hf2⟩;have HE:=Hd (BBx.trans HY.out HF.out (BBx.here hb2 hf2));clear hb2 hf2;go_wp2_with fail;go_end0
 refine⟨rfl,?_⟩;show BBx _ _ _ _ _ ((m.prep 2 0).room-(leI 2 x).length) _ _;rw[HX.out];exact HE.out
theorem PrependInt16_calls(b Y:Nat)(r:BRest)(m:BM)(c:Array Value)(x:Int)(w:World)(h:BBm w b Y r m c)(hu:m.bytes.length<=1900000):
  Calls Tryz.prog 119 #[.pointer (some ⟨b,0,none⟩),.int .i16 x] w λe w'=>e=.returned (.tuple #[])/\BBy w w' b Y r ((m.prep 2 0).put (leI 2 x)):=by
 have HP:=Hd (Prep_m b Y r m 2 0 c w h (by unfold algn;omega) hu);clear h hu;have hrm:=m.prep_room 2 0;have hxl:(leI 2 x).length=2:=by first|rfl|simp
 have HX:=Hd hxl;have HR:=Hd hrm;clear hxl hrm;go_enter Tryz.func119,Tryz.ntmps119;go_wp2_with fail;refine HP.out.mono ?_;rintro e w1 ⟨rfl,Y1,c1,hY,hb,hf⟩;have HC:=Hd (PlaceInt16_ok b Y1 r (m.prep 2 0).room (m.prep 2 0).least (m.prep 2 0).bytes c1 x w1 hb (by have:=HR.out;omega));have HY:=Hd hY;have HF:=Hd hf;clear hY hb hf;go_wp2_with fail;refine HC.out.mono ?_;rintro e w2 ⟨rfl,hb2,hf2⟩;have HE:=Hd (BBx.trans HY.out HF.out (BBx.here hb2 hf2));clear hb2 hf2;go_wp2_with fail;go_end0
 refine⟨rfl,?_⟩;show BBx _ _ _ _ _ ((m.prep 2 0).room-(leI 2 x).length) _ _;rw[HX.out];exact HE.out
theorem PrependVOffsetT_calls(b Y:Nat)(r:BRest)(m:BM)(c:Array Value)(x:Int)(w:World)(h:BBm w b Y r m c)(hu:m.bytes.length<=1900000):
  Calls Tryz.prog 76 #[.pointer (some ⟨b,0,none⟩),.int .u16 x] w λe w'=>e=.returned (.tuple #[])/\BBy w w' b Y r ((m.prep 2 0).put (leI 2 x)):=by
 have HP:=Hd (Prep_m b Y r m 2 0 c w h (by unfold algn;omega) hu);clear h hu;have hrm:=m.prep_room 2 0;have hxl:(leI 2 x).length=2:=by first|rfl|simp
 have HX:=Hd hxl;have HR:=Hd hrm;clear hxl hrm;go_enter Tryz.func76,Tryz.ntmps76;go_wp2_with fail;refine HP.out.mono ?_;rintro e w1 ⟨rfl,Y1,c1,hY,hb,hf⟩;have HC:=Hd (PlaceVOffsetT_ok b Y1 r (m.prep 2 0).room (m.prep 2 0).least (m.prep 2 0).bytes c1 x w1 hb (by have:=HR.out;omega));have HY:=Hd hY;have HF:=Hd hf;clear hY hb hf;go_wp2_with fail;refine HC.out.mono ?_;rintro e w2 ⟨rfl,hb2,hf2⟩;have HE:=Hd (BBx.trans HY.out HF.out (BBx.here hb2 hf2));clear hb2 hf2;go_wp2_with fail;go_end0
 refine⟨rfl,?_⟩;show BBx _ _ _ _ _ ((m.prep 2 0).room-(leI 2 x).length) _ _;rw[HX.out];exact HE.out
theorem PrependUint32_calls(b Y:Nat)(r:BRest)(m:BM)(c:Array Value)(x:Int)(w:World)(h:BBm w b Y r m c)(hu:m.bytes.length<=1900000):
  Calls Tryz.prog 120 #[.pointer (some ⟨b,0,none⟩),.int .u32 x] w λe w'=>e=.returned (.tuple #[])/\BBy w w' b Y r ((m.prep 4 0).put (leI 4 x)):=by
 have HP:=Hd (Prep_m b Y r m 4 0 c w h (by unfold algn;omega) hu);clear h hu;have hrm:=m.prep_room 4 0;have hxl:(leI 4 x).length=4:=by first|rfl|simp
 have HX:=Hd hxl;have HR:=Hd hrm;clear hxl hrm;go_enter Tryz.func120,Tryz.ntmps120;go_wp2_with fail;refine HP.out.mono ?_;rintro e w1 ⟨rfl,Y1,c1,hY,hb,hf⟩;have HC:=Hd (PlaceUint32_ok b Y1 r (m.prep 4 0).room (m.prep 4 0).least (m.prep 4 0).bytes c1 x w1 hb (by have:=HR.out;omega));have HY:=Hd hY;have HF:=Hd hf;clear hY hb hf;go_wp2_with fail;refine HC.out.mono ?_;rintro e w2 ⟨rfl,hb2,hf2⟩;have HE:=Hd (BBx.trans HY.out HF.out (BBx.here hb2 hf2));clear hb2 hf2;go_wp2_with fail;go_end0
 refine⟨rfl,?_⟩;show BBx _ _ _ _ _ ((m.prep 4 0).room-(leI 4 x).length) _ _;rw[HX.out];exact HE.out
theorem PrependInt32_calls(b Y:Nat)(r:BRest)(m:BM)(c:Array Value)(x:Int)(w:World)(h:BBm w b Y r m c)(hu:m.bytes.length<=1900000):
  Calls Tryz.prog 121 #[.pointer (some ⟨b,0,none⟩),.int .i32 x] w λe w'=>e=.returned (.tuple #[])/\BBy w w' b Y r ((m.prep 4 0).put (leI 4 x)):=by
 have HP:=Hd (Prep_m b Y r m 4 0 c w h (by unfold algn;omega) hu);clear h hu;have hrm:=m.prep_room 4 0;have hxl:(leI 4 x).length=4:=by first|rfl|simp
 have HX:=Hd hxl;have HR:=Hd hrm;clear hxl hrm;go_enter Tryz.func121,Tryz.ntmps121;go_wp2_with fail;refine HP.out.mono ?_;rintro e w1 ⟨rfl,Y1,c1,hY,hb,hf⟩;have HC:=Hd (PlaceInt32_ok b Y1 r (m.prep 4 0).room (m.prep 4 0).least (m.prep 4 0).bytes c1 x w1 hb (by have:=HR.out;omega));have HY:=Hd hY;have HF:=Hd hf;clear hY hb hf;go_wp2_with fail;refine HC.out.mono ?_;rintro e w2 ⟨rfl,hb2,hf2⟩;have HE:=Hd (BBx.trans HY.out HF.out (BBx.here hb2 hf2));clear hb2 hf2;go_wp2_with fail;go_end0
 refine⟨rfl,?_⟩;show BBx _ _ _ _ _ ((m.prep 4 0).room-(leI 4 x).length) _ _;rw[HX.out];exact HE.out
theorem PrependUint64_calls(b Y:Nat)(r:BRest)(m:BM)(c:Array Value)(x:Int)(w:World)(h:BBm w b Y r m c)(hu:m.bytes.length<=1900000):
  Calls Tryz.prog 122 #[.pointer (some ⟨b,0,none⟩),.int .u64 x] w λe w'=>e=.returned (.tuple #[])/\BBy w w' b Y r ((m.prep 8 0).put (leI 8 x)):=by
 have HP:=Hd (Prep_m b Y r m 8 0 c w h (by unfold algn;omega) hu);clear h hu;have hrm:=m.prep_room 8 0;have hxl:(leI 8 x).length=8:=by first|rfl|simp
 have HX:=Hd hxl;have HR:=Hd hrm;clear hxl hrm;go_enter Tryz.func122,Tryz.ntmps122;go_wp2_with fail;refine HP.out.mono ?_;rintro e w1 ⟨rfl,Y1,c1,hY,hb,hf⟩;have HC:=Hd (PlaceUint64_ok b Y1 r (m.prep 8 0).room (m.prep 8 0).least (m.prep 8 0).bytes c1 x w1 hb (by have:=HR.out;omega));have HY:=Hd hY;have HF:=Hd hf;clear hY hb hf;go_wp2_with fail;refine HC.out.mono ?_;rintro e w2 ⟨rfl,hb2,hf2⟩;have HE:=Hd (BBx.trans HY.out HF.out (BBx.here hb2 hf2));clear hb2 hf2;go_wp2_with fail;go_end0
 refine⟨rfl,?_⟩;show BBx _ _ _ _ _ ((m.prep 8 0).room-(leI 8 x).length) _ _;rw[HX.out];exact HE.out
theorem PrependInt64_calls(b Y:Nat)(r:BRest)(m:BM)(c:Array Value)(x:Int)(w:World)(h:BBm w b Y r m c)(hu:m.bytes.length<=1900000):
  Calls Tryz.prog 123 #[.pointer (some ⟨b,0,none⟩),.int .i64 x] w λe w'=>e=.returned (.tuple #[])/\BBy w w' b Y r ((m.prep 8 0).put (leI 8 x)):=by
 have HP:=Hd (Prep_m b Y r m 8 0 c w h (by unfold algn;omega) hu);clear h hu;have hrm:=m.prep_room 8 0;have hxl:(leI 8 x).length=8:=by first|rfl|simp
 have HX:=Hd hxl;have HR:=Hd hrm;clear hxl hrm;go_enter Tryz.func123,Tryz.ntmps123;go_wp2_with fail;refine HP.out.mono ?_;rintro e w1 ⟨rfl,Y1,c1,hY,hb,hf⟩;have HC:=Hd (PlaceInt64_ok b Y1 r (m.prep 8 0).room (m.prep 8 0).least (m.prep 8 0).bytes c1 x w1 hb (by have:=HR.out;omega));have HY:=Hd hY;have HF:=Hd hf;clear hY hb hf;go_wp2_with fail;refine HC.out.mono ?_;rintro e w2 ⟨rfl,hb2,hf2⟩;have HE:=Hd (BBx.trans HY.out HF.out (BBx.here hb2 hf2));clear hb2 hf2;go_wp2_with fail;go_end0
 refine⟨rfl,?_⟩;show BBx _ _ _ _ _ ((m.prep 8 0).room-(leI 8 x).length) _ _;rw[HX.out];exact HE.out
theorem PrependFloat32_calls(b Y:Nat)(r:BRest)(m:BM)(c:Array Value)(x:Nat)(w:World)(h:BBm w b Y r m c)(hu:m.bytes.length<=1900000):
  Calls Tryz.prog 124 #[.pointer (some ⟨b,0,none⟩),.float .f32 x] w λe w'=>e=.returned (.tuple #[])/\BBy w w' b Y r ((m.prep 4 0).put (leI 4 x)):=by
 have HP:=Hd (Prep_m b Y r m 4 0 c w h (by unfold algn;omega) hu);clear h hu;have hrm:=m.prep_room 4 0;have hxl:(leI 4 x).length=4:=by first|rfl|simp
 have HX:=Hd hxl;have HR:=Hd hrm;clear hxl hrm;go_enter Tryz.func124,Tryz.ntmps124;go_wp2_with fail;refine HP.out.mono ?_;rintro e w1 ⟨rfl,Y1,c1,hY,hb,hf⟩;have HC:=Hd (PlaceFloat32_ok b Y1 r (m.prep 4 0).room (m.prep 4 0).least (m.prep 4 0).bytes c1 x w1 hb (by have:=HR.out;omega));have HY:=Hd hY;have HF:=Hd hf;clear hY hb hf;go_wp2_with fail;refine HC.out.mono ?_;rintro e w2 ⟨rfl,hb2,hf2⟩;have HE:=Hd (BBx.trans HY.out HF.out (BBx.here hb2 hf2));clear hb2 hf2;go_wp2_with fail;go_end0
 refine⟨rfl,?_⟩;show BBx _ _ _ _ _ ((m.prep 4 0).room-(leI 4 x).length) _ _;rw[HX.out];exact HE.out
theorem PrependFloat64_calls(b Y:Nat)(r:BRest)(m:BM)(c:Array Value)(x:Nat)(w:World)(h:BBm w b Y r m c)(hu:m.bytes.length<=1900000):
  Calls Tryz.prog 126 #[.pointer (some ⟨b,0,none⟩),.float .f64 x] w λe w'=>e=.returned (.tuple #[])/\BBy w w' b Y r ((m.prep 8 0).put (leI 8 x)):=by
 have HP:=Hd (Prep_m b Y r m 8 0 c w h (by unfold algn;omega) hu);clear h hu;have hrm:=m.prep_room 8 0;have hxl:(leI 8 x).length=8:=by first|rfl|simp
 have HX:=Hd hxl;have HR:=Hd hrm;clear hxl hrm;go_enter Tryz.func126,Tryz.ntmps126;go_wp2_with fail;refine HP.out.mono ?_;rintro e w1 ⟨rfl,Y1,c1,hY,hb,hf⟩;have HC:=Hd (PlaceFloat64_ok b Y1 r (m.prep 8 0).room (m.prep 8 0).least (m.prep 8 0).bytes c1 x w1 hb (by have:=HR.out;omega));have HY:=Hd hY;have HF:=Hd hf;clear hY hb hf;go_wp2_with fail;refine HC.out.mono ?_;rintro e w2 ⟨rfl,hb2,hf2⟩;have HE:=Hd (BBx.trans HY.out HF.out (BBx.here hb2 hf2));clear hb2 hf2;go_wp2_with fail;go_end0
 refine⟨rfl,?_⟩;show BBx _ _ _ _ _ ((m.prep 8 0).room-(leI 8 x).length) _ _;rw[HX.out];exact HE.out
structure BSt where
 m:BM
 vtab:Option (List Nat)
 oend:Nat
 vts:List Nat
 nested:Bool
 fin:Bool
 shared:Option (DataW Unit)
def u32s (l:List Nat):List Value:=l.map λ(x:Nat)=>.int .u32 x
theorem u32s_length(l:List Nat):(u32s l).length=l.length:=by simp[u32s]
def OffRow(w:World)(V:Nat)(v:Value)(l:List Nat):Prop :=
 ∃cv:Array Value,v=.slice (some ⟨V,0,none⟩) l.length cv.size/\w.heap[V]?=some (.cells cv 98)/\l.length<=cv.size/\cv.toList.take l.length=u32s l/\cv.size<=maxLen
def VtRep(w:World)(b V:Nat)(v:Value):Option (List Nat)->Prop
 | none=>v=.slice none 0 0/\V=b
 | some l=>OffRow w V v l
def ShRep(w:World)(b M:Nat)(v:Value):Option (DataW Unit)->Prop
 | none=>v=.map none/\M=b
 | some D=>v=.map (some M)/\∃n,n<=1000000/\w.ownsMap Tryz.prog 9 (plainElem Tryz.prog 98) M n D
structure BOther(w:World)(b V G M:Nat)(r:BRest)(st:BSt):Prop where
 vt:VtRep w b V r.v2 st.vtab
 oe:r.v3=.int .u32 st.oend
 vs:OffRow w G r.v4 st.vts
 ne:r.v6=.bool st.nested
 fi:r.v7=.bool st.fin
 sh:ShRep w b M r.v8 st.shared
 vg:V≠G
def BRep (w:World)(b:Nat)(F:List Nat)(st:BSt):Prop :=
 ∃Y V G M r c,F=[b,Y,V,G,M]/\BBm w b Y r st.m c/\BOther w b V G M r st
def Adv (w w':World)(F F':List Nat):Prop:=Fr (λk=>k∈F) w w'/\∀k∈F',k∈F\/w.heap.size<=k
theorem Adv.refl(w:World)(F:List Nat):Adv w w F F:=⟨Fr.refl _ _,λ_ h=>.inl h⟩
theorem Adv.trans{w w1 w2:World}{F F1 F2:List Nat}(h:Adv w w1 F F1)(k:Adv w1 w2 F1 F2):Adv w w2 F F2:=by
 have hs:=h.1.size;refine⟨h.1.trans2 k.1 (λi hi hm=>?_),λi hi=>?_⟩
 ·rcases h.2 i hm with h|h
  ·exact h
  ·omega
 ·rcases k.2 i hi with h1|h1
  ·exact h.2 i h1
  ·right;omega
theorem Adv.drewN{w w':World}{F F':List Nat}(h:Adv w w' F F')(n:Nat):Adv w (w'.drewN n) F F':=⟨h.1.drewN n,h.2⟩
theorem OffRow.fr{w w':World}{S:Nat->Prop}{V:Nat}{v:Value}{l:List Nat}(h:OffRow w V v l)(hf:Fr S w w')(hV:¬S V):OffRow w' V v l:=by
 obtain⟨cv,h1,h2,h3⟩:=h;exact⟨cv,h1,(hf.block V (lt_of_block h2) hV).trans h2,h3⟩
theorem OffRow.ne_of{w:World}{V k:Nat}{v:Value}{l:List Nat}{c:Array Value}{t:TypeId}{fr:Nat × Nat}(h:OffRow w V v l)(hk:w.heap[k]?=some (.cells c t fr))(ht:t≠98):V≠k:=by
 obtain⟨cv,_,h2,_⟩:=h;rintro rfl;rw[h2] at hk;injection hk with hk;injection hk with _ e _;exact ht e.symm
theorem ShRep.ne_of{w:World}{b M k:Nat}{v:Value}{D:DataW Unit}{c:Array Value}{t:TypeId}{fr:Nat × Nat}(h:ShRep w b M v (some D))(hk:w.heap[k]?=some (.cells c t fr)):M≠k:=by
 obtain⟨_,n,_,es,cl,h2,_⟩:=h;rintro rfl;rw[h2] at hk;cases hk
theorem ShRep.lt{w:World}{b M:Nat}{v:Value}{D:DataW Unit}(h:ShRep w b M v (some D)):M<w.heap.size:=by
 obtain⟨_,n,_,es,cl,h2,_⟩:=h;exact lt_of_block h2
theorem ShRep.fr{w w':World}{S:Nat->Prop}{b M:Nat}{v:Value}{o:Option (DataW Unit)}(h:ShRep w b M v o)(hf:Fr S w w')(hM:o≠none->¬S M):ShRep w' b M v o:=by
 cases o with
 | none=>exact h
 | some D =>
  have hl:=h.lt;obtain⟨e,n,hn,es,cl,h2,h3⟩:=h;exact⟨e,n,hn,es,cl,(hf.block M hl (hM (by simp))).trans h2,h3⟩
theorem BOther.fr{w w':World}{S:Nat->Prop}{b V G M:Nat}{r:BRest}{st:BSt}(h:BOther w b V G M r st)(hf:Fr S w w')(hV:st.vtab≠none->¬S V)(hG:¬S G)(hM:st.shared≠none->¬S M):BOther w' b V G M r st:=by
 refine⟨?_,h.oe,h.vs.fr hf hG,h.ne,h.fi,h.sh.fr hf hM,h.vg⟩;have hv:=h.vt;cases hc:st.vtab with
 | none=>rw[hc] at hv;exact hv
 | some l=>rw[hc] at hv hV;exact OffRow.fr hv hf (hV (by simp))
theorem BRep.bytes{w w':World}{b Y V G M:Nat}{r:BRest}{c:Array Value}{st:BSt}{m':BM}(hb:BBm w b Y r st.m c)(ho:BOther w b V G M r st)(h:BBy w w' b Y r m'):
  ∃F',BRep w' b F' { st with m:=m' }/\Adv w w' [b,Y,V,G,M] F':=by
 obtain⟨Y',c',hY,hb',hf⟩:=h;have hGb:G≠b:=ho.vs.ne_of hb.hb (by decide);have hGY:G≠Y:=ho.vs.ne_of hb.hy (by decide);refine⟨[b,Y',V,G,M],⟨Y',V,G,M,r,c',rfl,hb',?_⟩,hf.mono (λi _ hi=>by rcases hi with rfl|rfl<;>simp),λk hk=>?_⟩
 ·have:=ho.fr hf (λhv=>?_) (λx=>x.elim hGb hGY) (λhs=>?_)
  ·exact⟨this.vt,this.oe,this.vs,this.ne,this.fi,this.sh,this.vg⟩
  ·have hvt:=ho.vt;cases hc:st.vtab with
   | none=>exact absurd hc hv
   | some l =>
    rw[hc] at hvt;exact λx=>x.elim (OffRow.ne_of hvt hb.hb (by decide)) (OffRow.ne_of hvt hb.hy (by decide))
  ·have hsh:=ho.sh;cases hc:st.shared with
   | none=>exact absurd hc hs
   | some D =>
    rw[hc] at hsh;exact λx=>x.elim (ShRep.ne_of hsh hb.hb) (ShRep.ne_of hsh hb.hy)
 ·simp only[List.mem_cons,List.not_mem_nil,or_false] at hk;rcases hk with rfl|rfl|rfl|rfl|rfl
  ·simp
  ·rcases hY with rfl|h
   ·simp
   ·exact .inr h
  ·simp
  ·simp
  ·simp
theorem infoU32o:(Tryz.prog.info? 98).map (λi=>(i.zero,i.size,i.bytes))=some (some (.int .u32 0),1,4):=by kernel_rfl
def st0 (n:Nat):BSt:=⟨⟨n,1,[]⟩,none,0,[],false,false,none⟩
theorem NewBuilder_calls(n:Nat)(w:World)(hn:n<=5000):
  Calls Tryz.prog 41 #[.int .i64 n] w λe w'=>e=.returned (.pointer (some ⟨w.heap.size,0,none⟩))/\∃F',BRep w' w.heap.size F' (st0 n)/\Adv w w' [] F':=by
 obtain⟨i0,hi,hz0,hz1,hz2⟩:=info_parts' infoU8b;obtain⟨i1,hj,hy0,hy1,hy2⟩:=info_parts' infoU32o;have hmk:=λw'=>run_make (P:=Tryz.prog) w' 81 5 i0 (.int .u8 0) Tryz.underlying81 hi hz0 .i64 .i64 n n (by omega) (by omega) (by rw[hz2];omega) (by omega);rw[hz1] at hmk;simp only[Int.toNat_natCast,Nat.mul_one,Value.cells] at hmk;have hmk2:=λw'=>run_make (P:=Tryz.prog) w' 100 98 i1 (.int .u32 0) Tryz.underlying100 hj hy0 .i64 .i64 0 16 (by omega) (by omega) (by rw[hy2];omega) (by omega);rw[hy1] at hmk2;have key:∀w',w'=((w.alloc (.cells (bCells (w.heap.size+1) n n 1 n ⟨.slice none 0 0,.int .u32 0,.slice (some ⟨w.heap.size+2,0,none⟩) 0 16,.bool false,.bool false,.map none⟩) 103)).alloc (.cells (madeCells #[Value.int .u8 0] n) 5)).alloc (.cells (madeCells #[Value.int .u32 0] 16) 98) ->
   ∃F',BRep w' w.heap.size F' (st0 n)/\Adv w w' [] F':=by
  rintro w' rfl;have hs1:(w.alloc (.cells (bCells (w.heap.size+1) n n 1 n ⟨.slice none 0 0,.int .u32 0,.slice (some ⟨w.heap.size+2,0,none⟩) 0 16,.bool false,.bool false,.map none⟩) 103)).heap.size=w.heap.size+1:=by rw[size_alloc]
  refine⟨[w.heap.size,w.heap.size+1,w.heap.size,w.heap.size+2,w.heap.size],⟨w.heap.size+1,w.heap.size,w.heap.size+2,w.heap.size,⟨.slice none 0 0,.int .u32 0,.slice (some ⟨w.heap.size+2,0,none⟩) 0 16,.bool false,.bool false,.map none⟩,madeCells #[Value.int .u8 0] n,rfl,?_,?_⟩,?_,?_⟩
  ·have hsz:(madeCells #[Value.int .u8 0] n).size=n:=by rw[<-Array.length_toList,toList_madeCells_one];simp
   refine⟨?_,?_,by show n+0<=_;omega,?_,by show n+0<=_;omega,by omega,by rw[hsz];unfold maxLen;omega,?_,by intro h;rw[hsz];exact h⟩
   ·rw[heap_alloc_old _ _ _ (by simp only[size_alloc];omega),heap_alloc_old _ _ _ (by simp only[size_alloc];omega),heap_alloc_new,hsz];rfl
   ·rw[heap_alloc_old _ _ _ (by simp only[size_alloc];omega)];have:=heap_alloc_new (w.alloc (.cells (bCells (w.heap.size+1) n n 1 n ⟨.slice none 0 0,.int .u32 0,.slice (some ⟨w.heap.size+2,0,none⟩) 0 16,.bool false,.bool false,.map none⟩) 103)) (.cells (madeCells #[Value.int .u8 0] n) 5)
    rw[hs1] at this;exact this
   ·show List.drop n (List.take (n+0) _)=_;rw[List.drop_of_length_le (by simp only[List.length_take];omega)];rfl
   ·intro v hv;have hv:=List.mem_of_mem_take hv;rw[toList_madeCells_one] at hv;rw[(List.mem_replicate.1 hv).2];rfl
  ·refine⟨⟨rfl,rfl⟩,rfl,⟨madeCells #[Value.int .u32 0] 16,by rw[size_madeCells];rfl,?_,by simp[st0],by simp[st0,u32s],by rw[size_madeCells];decide⟩,rfl,rfl,⟨rfl,rfl⟩,by omega⟩;have:=heap_alloc_new ((w.alloc (.cells (bCells (w.heap.size+1) n n 1 n ⟨.slice none 0 0,.int .u32 0,.slice (some ⟨w.heap.size+2,0,none⟩) 0 16,.bool false,.bool false,.map none⟩) 103)).alloc (.cells (madeCells #[Value.int .u8 0] n) 5)) (.cells (madeCells #[Value.int .u32 0] 16) 98)
   rw[size_alloc,hs1] at this;exact this
  ·exact (((Fr.refl _ w).alloc _).alloc _).alloc _
  ·intro k hk;simp only[List.mem_cons,List.not_mem_nil,or_false] at hk;right;omega
 by_cases h0:n=0
 ·subst h0;have hmk:=λw'=>run_make (P:=Tryz.prog) w' 81 5 i0 (.int .u8 0) Tryz.underlying81 hi hz0 .i64 .i64 0 0 (by omega) (by omega) (by rw[hz2];omega) (by omega);rw[hz1] at hmk;show Calls Tryz.prog 41 #[.int .i64 0] w _;have key:=Hd key;go_enter Tryz.func41,Tryz.ntmps41;go_wp2_with fail;go_ret;exact⟨rfl,key.out _ rfl⟩
 ·have hnp:¬((n:Int)<=0):=by omega
  have key:=Hd key;go_enter Tryz.func41,Tryz.ntmps41;go_wp2_with fail;go_ret;exact⟨rfl,key.out _ rfl⟩
theorem quiet_drew{P:Program}{f:FuncId}{args:Array Value}{w:World}{n:Nat}{v:Value}(h:Calls P f args (w.drewN n) λe w'=>e=.returned v/\∃m,w'=(w.drewN n).drewN m):
  Calls P f args (w.drewN n) λe w''=>e=.returned v/\∃m,w''=w.drewN m:=h.mono λ_ _ h=>by
 obtain⟨h1,m,rfl⟩:=h;exact⟨h1,n+m,World.drewN_drewN _ _ _⟩
def BRes (w:World)(b:Nat)(F:List Nat)(o:Option (Value × BSt)):Ending->World->Prop:=λe w' =>
 match o with
 | none=>Falls2 (λk=>k∈F) w e w'
 | some (v,st')=>e=.returned v/\∃F',BRep w' b F' st'/\Adv w w' F F'
theorem BRep.drewN{w:World}{b:Nat}{F:List Nat}{st:BSt}(h:BRep w b F st)(n:Nat):BRep (w.drewN n) b F st:=by
 obtain⟨Y,V,G,M,r,c,rfl,hb,ho⟩:=h;refine⟨Y,V,G,M,r,c,rfl,hb.drewN n,ho.fr (S:=λ_=>False) ((Fr.refl _ w).drewN n) (λ_ h=>h) (λh=>h) (λ_ h=>h)⟩
theorem Adv.of_drewN{w w':World}{F F':List Nat}{n:Nat}(h:Adv (w.drewN n) w' F F'):Adv w w' F F':=((Adv.refl w F).drewN n).trans h
theorem BRep.mem{w:World}{b:Nat}{F:List Nat}{st:BSt}(h:BRep w b F st):b∈F:=by
 obtain⟨Y,V,G,M,r,c,rfl,hb,ho⟩:=h;simp
theorem BRep.cells{w:World}{b:Nat}{F:List Nat}{st:BSt}(h:BRep w b F st):w.cell? ⟨b,6,none⟩=some (.bool st.nested)/\w.cell? ⟨b,7,none⟩=some (.bool st.fin)/\w.cell? ⟨b,3,none⟩=some (.int .u32 st.oend)/\w.cell? ⟨b,5,none⟩=some (.int .u32 st.m.room)/\w.cell? ⟨b,1,none⟩=some (.int .i64 st.m.least):=by
 obtain⟨Y,V,G,M,r,c,rfl,hb,ho⟩:=h;refine⟨?_,?_,?_,?_,?_⟩
 ·rw[cell_of hb.hb,<-ho.ne];rfl
 ·rw[cell_of hb.hb,<-ho.fi];rfl
 ·rw[cell_of hb.hb,<-ho.oe];rfl
 ·rw[cell_of hb.hb];rfl
 ·rw[cell_of hb.hb];rfl
theorem BRep.frozen{w:World}{b:Nat}{F:List Nat}{st:BSt}(h:BRep w b F st)(k:Nat):w.frozen? ⟨b,k,none⟩=false:=by
 obtain⟨Y,V,G,M,r,c,rfl,hb,ho⟩:=h;exact frozen_of hb.hb k
theorem assertNotNested_calls(b:Nat)(F:List Nat)(st:BSt)(w:World)(h:BRep w b F st):
  Calls Tryz.prog 110 #[.pointer (some ⟨b,0,none⟩)] w λe w'=>(if st.nested then ∃u v,e=.panicked [{ v:=.iface u v,recovered:=false }] else e=.returned (.tuple #[]))/\w'=w:=by
 obtain⟨c6,_⟩:=h.cells;clear h;cases hn:st.nested with
 | true =>
  rw[hn] at c6;go_enter Tryz.func110,Tryz.ntmps110;go_wp2_with fail;exact⟨rfl,⟨_,_,rfl⟩,rfl⟩
 | false =>
  rw[hn] at c6;go_enter Tryz.func110,Tryz.ntmps110;go_wp2_with fail;go_end0
  exact⟨rfl,rfl⟩
theorem assertNested_calls(b:Nat)(F:List Nat)(st:BSt)(w:World)(h:BRep w b F st):
  Calls Tryz.prog 112 #[.pointer (some ⟨b,0,none⟩)] w λe w'=>(if st.nested then e=.returned (.tuple #[]) else ∃u v,e=.panicked [{ v:=.iface u v,recovered:=false }])/\w'=w:=by
 obtain⟨c6,_⟩:=h.cells;clear h;cases hn:st.nested with
 | false =>
  rw[hn] at c6;go_enter Tryz.func112,Tryz.ntmps112;go_wp2_with fail;exact⟨rfl,⟨_,_,rfl⟩,rfl⟩
 | true =>
  rw[hn] at c6;go_enter Tryz.func112,Tryz.ntmps112;go_wp2_with fail;go_end0
  exact⟨rfl,rfl⟩
theorem assertFinished_calls(b:Nat)(F:List Nat)(st:BSt)(w:World)(h:BRep w b F st):
  Calls Tryz.prog 111 #[.pointer (some ⟨b,0,none⟩)] w λe w'=>(if st.fin then e=.returned (.tuple #[]) else ∃u v,e=.panicked [{ v:=.iface u v,recovered:=false }])/\w'=w:=by
 obtain⟨_,c7,_⟩:=h.cells;clear h;cases hn:st.fin with
 | false =>
  rw[hn] at c7;go_enter Tryz.func111,Tryz.ntmps111;go_wp2_with fail;exact⟨rfl,⟨_,_,rfl⟩,rfl⟩
 | true =>
  rw[hn] at c7;go_enter Tryz.func111,Tryz.ntmps111;go_wp2_with fail;go_end0
  exact⟨rfl,rfl⟩
theorem run_index_out'{P:Program}(t:TypeId)(a0:Option Addr)(len cap:Nat)(k:IntKind)(i:Int){e:TypeId}(h0:P.underlying t=some (.slice e))(hnil:a0=none->len=0)(ho:i<0\/(len:Int)<=i):
  ∃(fu:World->TypeId) (fv:World->Value) (fn:World->Nat),∀w,(Instr.indexAt t (.slice a0 len cap) (.int k i)).run P w=.halt (.panic (.iface (fu w) (fv w))) (w.drewN (fn w)):=by
 have h:=λw=>run_index_out (P:=P) w t a0 len cap k i h0 hnil ho;exact⟨λw=>(h w).choose,λw=>(h w).choose_spec.choose,λw=>(h w).choose_spec.choose_spec.choose,λw=>(h w).choose_spec.choose_spec.choose_spec⟩
def BSt.slot(st:BSt)(i:Int):Option BSt :=
 match st.vtab with
 | none=>none
 | some l=>if 0<=i/\i.toNat<l.length then some { st with vtab:=some (l.set i.toNat st.m.bytes.length) } else none
theorem OffRow.set{w:World}{V:Nat}{v:Value}{l:List Nat}(h:OffRow w V v l)(i x:Nat):OffRow (w.setCell ⟨V,i,none⟩ (.int .u32 x)) V v (l.set i x):=by
 obtain⟨cv,h1,h2,h3,h4,h5⟩:=h;refine⟨cv.set! i (.int .u32 x),by rw[h1];simp,heap_setCell_same h2 i _,by simpa using h3,?_,by simpa using h5⟩;simp only[Array.set!_eq_setIfInBounds,Array.toList_setIfInBounds,List.length_set];rw[List.take_set,h4];unfold u32s;rw[List.map_set]
theorem BRep.vtset{w:World}{b Y V G M:Nat}{r:BRest}{c:Array Value}{st:BSt}{l:List Nat}(hb:BBm w b Y r st.m c)(ho:BOther w b V G M r st)(hl:st.vtab=some l)(i x:Nat):
  BRep (w.setCell ⟨V,i,none⟩ (.int .u32 x)) b [b,Y,V,G,M] { st with vtab:=some (l.set i x) }/\Adv w (w.setCell ⟨V,i,none⟩ (.int .u32 x)) [b,Y,V,G,M] [b,Y,V,G,M]:=by
 have hvt:=ho.vt;rw[hl] at hvt;have hVb:=OffRow.ne_of hvt hb.hb (by decide);have hVY:=OffRow.ne_of hvt hb.hy (by decide);have hf:Fr (λk=>k=V) w (w.setCell ⟨V,i,none⟩ (.int .u32 x)):=(Fr.refl (λk=>k=V) w).setCell (λ_=>rfl) _;refine⟨⟨Y,V,G,M,r,c,rfl,hb.fr hf (λe=>hVb e.symm) (λe=>hVY e.symm),?_⟩,hf.mono (λi _ hi=>by subst hi;simp),λk hk=>.inl hk⟩;have hsh:=ho.sh;refine⟨OffRow.set hvt i x,ho.oe,ho.vs.fr hf (λe=>ho.vg e.symm),ho.ne,ho.fi,hsh.fr hf (λhs e=>?_),ho.vg⟩;cases hc:st.shared with
 | none=>exact hs hc
 | some D =>
  rw[hc] at hsh;obtain⟨cv,_,h2,_⟩:=hvt;exact ShRep.ne_of hsh (e▸h2) rfl
theorem Slot_calls(b:Nat)(F:List Nat)(st:BSt)(i:Int)(w:World)(h:BRep w b F st):
  Calls Tryz.prog 78 #[.pointer (some ⟨b,0,none⟩),.int .i64 i] w (BRes w b F ((st.slot i).map λx=>(.tuple #[],x))):=by
 obtain⟨Y,V,G,M,r,c,rfl,hb,ho⟩:=h;have c2:w.cell? ⟨b,2,none⟩=some r.v2:=by rw[cell_of hb.hb];rfl
 have HO:=Hd (λnq=>Offset_calls b Y r st.m.room st.m.least st.m.bytes c (w.drewN nq) (hb.drewN nq));have HO2:∀w',(w'.cell? ⟨b,2,none⟩=some r.v2/\∃k,w'=w.drewN k)->Calls Tryz.prog 44 #[.pointer (some ⟨b,0,none⟩)] w' λe w''=>e=.returned (.int .u32 st.m.bytes.length)/\(w''.cell? ⟨b,2,none⟩=some r.v2/\∃k,w''=w.drewN k):=by
  rintro w' ⟨h1,k,rfl⟩;refine (HO.out k).mono ?_;rintro e w' ⟨rfl,n,rfl⟩;exact⟨rfl,h1,k+n,World.drewN_drewN _ _ _⟩
 have HO2:=Hd HO2;have hfalls:∀(S:Nat->Prop) a0 n cp,r.v2=.slice a0 n cp->(a0=none->n=0)->(i<0\/(n:Int)<=i)->Calls Tryz.prog 78 #[.pointer (some ⟨b,0,none⟩),.int .i64 i] w (Falls2 S w):=by
  intro S a0 n cp hr2 hnil hout;rw[hr2] at c2 HO2;obtain⟨fu,fv,fn,hidx⟩:=run_index_out' (P:=Tryz.prog) 100 a0 n cp .i64 i Tryz.underlying100 hnil hout;have hfal:∀w',(w'.cell? ⟨b,2,none⟩=some (.slice a0 n cp)/\∃k,w'=w.drewN k)->Fr S w (w'.drewN (fn w')):=by
   rintro w' ⟨_,k,rfl⟩;exact ((Fr.refl _ w).drewN _).drewN _
  have HF:=Hd hfal;clear hb ho hr2 hout hnil hfal;go_enter Tryz.func78,Tryz.ntmps78;refine wp_region_held_drew (S:=λw'=>w'.cell? ⟨b,2,none⟩=some (.slice a0 n cp)/\∃k,w'=w.drewN k) kr ⟨c2,1,rfl⟩ (λhHeld=>?_);refine tk 0 (.pointer (some ⟨b,0,none⟩)) rfl ?_ ?_
  ·rintro _ ⟨hc,n,rfl⟩;go_simp
  simp only[Act.put,zA,zB,zC];refine tk 1 (.pointer (some ⟨b,0,none⟩)) rfl ?_ ?_
  ·rintro _ ⟨hc,n,rfl⟩;go_simp
  simp only[Act.put,zA,zB,zC];refine tk 2 (.pointer (some ⟨b,2,none⟩)) rfl ?_ ?_
  ·rintro _ ⟨hc,n,rfl⟩;go_simp
  simp only[Act.put,zA,zB,zC];refine tk 3 (.slice a0 n cp) rfl ?_ ?_
  ·rintro _ ⟨hc,n,rfl⟩;go_simp
  simp only[Act.put,zA,zB,zC];refine tk 4 (.int .i64 i) rfl ?_ ?_
  ·rintro _ ⟨hc,n,rfl⟩;go_simp
  simp only[Act.put,zA,zB,zC];refine tk 5 (.pointer (some ⟨b,0,none⟩)) rfl ?_ ?_
  ·rintro _ ⟨hc,n,rfl⟩;go_simp
  simp only[Act.put,zA,zB,zC];refine rd 6 rfl λK hK=>?_;go_simp;refine (HO2.out _ hHeld).mono ?_;rintro e w' ⟨rfl,hSS⟩;refine hK.out _ _ hSS (λhS2=>?_);try simp only[Act.put,zA,zB,zC]
  refine rd 7 rfl λK hK=>?_;go_simp;exact⟨rfl,⟨_,_,rfl⟩,HF.out _ hS2⟩
 have hvt:=ho.vt;cases hv:st.vtab with
 | none =>
  rw[hv] at hvt;have e:st.slot i=none:=by unfold BSt.slot;rw[hv]
  rw[e];exact hfalls _ none 0 0 hvt.1 (λ_=>rfl) (by omega)
 | some l =>
  have hvs:=BRep.vtset hb ho hv;rw[hv] at hvt;obtain⟨cv,h1,h2,h3,h4,h5⟩:=hvt;by_cases hi:0<=i/\i.toNat<l.length
  ·have e:st.slot i=some { st with vtab:=some (l.set i.toNat st.m.bytes.length) }:=by unfold BSt.slot;rw[hv];exact if_pos hi
   rw[e];clear e;obtain⟨k,rfl⟩:∃k:Nat,i=k:=⟨i.toNat,by omega⟩;have hk:k<l.length:=(by simpa using hi.2);rw[h1] at c2;have fV:=frozen_of h2;obtain⟨v0,cV⟩:∃v0,w.cell? ⟨V,k,none⟩=some v0:=⟨_,(cell_of h2 k).trans (Array.getElem?_eq_getElem (by omega))⟩;have HVS:=Hd (λnq=>BRep.vtset (w:=w.drewN nq) (hb.drewN nq) (ho.fr (S:=λ_=>False) ((Fr.refl _ w).drewN nq) (λ_ h=>h) (λh=>h) (λ_ h=>h)) hv k st.m.bytes.length);clear hb ho h1 h3 h4 h5 hvs hfalls hi HO2 hv;go_enter Tryz.func78,Tryz.ntmps78;refine lst _ ?_;simp only[List.dropLast];repeat (go_big_quiet_step ((go_at_call 44;exact quiet_drew (HO.out _))))
   refine wpQuiet_nil ?_;intro nq;refine wpOp_step rfl (λK hK=>?_);go_simp;refine hK _ _ ?_;go_wp2_with fail;go_end0
   exact⟨rfl,_,(HVS.out nq).1,(HVS.out nq).2.of_drewN⟩
  ·have e:st.slot i=none:=by unfold BSt.slot;rw[hv];exact if_neg hi
   rw[e];exact hfalls _ _ l.length cv.size h1 (λe=>by cases e) (by omega)
theorem BB.to{w:World}{b Y:Nat}{r:BRest}{room least:Nat}{bytes bytes':List UInt8}{c:Array Value}(h:BB w b Y r room least bytes c)(e:bytes=bytes'):BB w b Y r room least bytes' c:=e▸h
theorem BM.pad_lt(m:BM)(size add:Nat)(hs:algn size):m.pad size add<size:=by
 unfold BM.pad padB;unfold algn at hs;exact Nat.mod_lt _ (by omega)
theorem BM.prep_len(m:BM)(size add:Nat)(hs:algn size):(m.prep size add).bytes.length=m.pad size add+m.bytes.length:=by
 show (List.replicate _ _++m.bytes).length=_;simp
theorem BM.prep_le(m:BM)(size add:Nat)(hs:algn size):(m.prep size add).bytes.length<size+m.bytes.length:=by
 rw[m.prep_len size add hs];have:=m.pad_lt size add hs
 omega
theorem algn_le{s:Nat}(h:algn s):s<=16:=by unfold algn at h;omega
def BM.refer(m:BM)(off:Nat):Option BM :=
 if off<=(m.prep 4 0).bytes.length then some ((m.prep 4 0).put (leB 4 ((m.prep 4 0).bytes.length-off+4))) else none
def BOut (w:World)(b Y:Nat)(r:BRest)(o:Option BM):Ending->World->Prop:=λe w' =>
 match o with
 | none=>Falls2 (λk=>k=b\/k=Y) w e w'
 | some m=>e=.returned (.tuple #[])/\BBy w w' b Y r m
theorem PrependUOffsetT_calls(b Y:Nat)(r:BRest)(m:BM)(c:Array Value)(off:Nat)(w:World)(h:BBm w b Y r m c)(hu:m.bytes.length<=1900000)(hoff:off<4294967296):
  Calls Tryz.prog 73 #[.pointer (some ⟨b,0,none⟩),.int .u32 off] w (BOut w b Y r (m.refer off)):=by
 have ha:algn 4:=by unfold algn;omega
 have HP:=Hd (Prep_m b Y r m 4 0 c w h ha hu);have hrm:=m.prep_room 4 0;have hle:=m.prep_le 4 0 ha;clear h;unfold BM.refer;have HR:=Hd hrm;clear hrm ha;obtain⟨n,hn⟩:=exA ((m.prep 4 0).bytes.length);rw[<-hn] at hle ⊢;have hn2:n<=1900004:=by omega
 have HN:=Hd hn;clear hn hle;by_cases hlt:off<=n
 ·rw[if_pos hlt];go_enter Tryz.func73,Tryz.ntmps73;go_wp2_with fail;refine HP.out.mono ?_;rintro e w1 ⟨rfl,Y1,c1,hY,hb,hf⟩;have HB:=Hd hb;have HY:=Hd hY;have HF:=Hd hf;have HO:=λnq=>Hd (Offset_calls b Y1 r (m.prep 4 0).room (m.prep 4 0).least (m.prep 4 0).bytes c1 (w1.drewN nq) (hb.drewN nq));rw[<-HN.out] at HO;clear hY hb hf;go_wp2_with fail;refine (HO 0).out.mono ?_;rintro e w2 ⟨rfl,n2,rfl⟩;go_wp2_with fail;refine (HO n2).out.mono ?_;rintro e w3 ⟨rfl,n3,rfl⟩;go_wp2_with fail;refine (PlaceUOffsetT_ok b Y1 r (m.prep 4 0).room (m.prep 4 0).least (m.prep 4 0).bytes c1 _ (w1.drewN (n2+n3)) (HB.out.drewN _) (by have:=HR.out;omega)).mono ?_;rintro e w4 ⟨rfl,hb4,hf4⟩;have HB4:=Hd hb4;have HF4:=Hd hf4;clear hb4 hf4;go_wp2_with fail;go_end0
  refine⟨rfl,?_⟩;refine BBx.trans HY.out (HF.out.drewN (n2+n3)) (BBx.here ?_ HF4.out);obtain⟨c',hb⟩:=HB4.out;refine⟨c',?_⟩;show BB _ _ _ _ ((m.prep 4 0).room-(leB 4 (n-off+4)).length) _ (leB 4 (n-off+4)++_) _;rw[<-leI_nat,leI_length];refine hb.to (congrArg (·++_) (leI_congr 4 ?_));omega
 ·rw[if_neg hlt];go_enter Tryz.func73,Tryz.ntmps73;go_wp2_with fail;refine HP.out.mono ?_;rintro e w1 ⟨rfl,Y1,c1,hY,hb,hf⟩;have HF:=Hd hf;have HO:=λnq=>Hd (Offset_calls b Y1 r (m.prep 4 0).room (m.prep 4 0).least (m.prep 4 0).bytes c1 (w1.drewN nq) (hb.drewN nq));rw[<-HN.out] at HO;clear hY hb hf;go_wp2_with fail;refine (HO 0).out.mono ?_;rintro e w2 ⟨rfl,n2,rfl⟩;go_wp2_with fail;exact⟨rfl,⟨_,_,rfl⟩,HF.out.drewN _⟩
theorem PrependSOffsetT_calls(b Y:Nat)(r:BRest)(m:BM)(c:Array Value)(x:Int)(w:World)(h:BBm w b Y r m c)(hu:m.bytes.length<=1900000)(h0:-2147483648<=x)(h1:x<2147483648):
  Calls Tryz.prog 75 #[.pointer (some ⟨b,0,none⟩),.int .i32 x] w (BOut w b Y r (m.refer (x%4294967296).toNat)):=by
 have ha:algn 4:=by unfold algn;omega
 have HP:=Hd (Prep_m b Y r m 4 0 c w h ha hu);have hrm:=m.prep_room 4 0;have hle:=m.prep_le 4 0 ha;clear h;unfold BM.refer;have HR:=Hd hrm;clear hrm ha;obtain⟨n,hn⟩:=exA ((m.prep 4 0).bytes.length);rw[<-hn] at hle ⊢;have hn2:n<=1900004:=by omega
 have HN:=Hd hn;clear hn hle;by_cases hlt:(x%4294967296).toNat<=n
 ·rw[if_pos hlt];have hm:x%4294967296=x:=by omega
  have hxn:x<=(n:Int):=by omega
  have hoff:(x%4294967296).toNat=x.toNat:=by rw[hm]
  have HM:=Hd hoff;clear hlt hoff;have hx0:0<=x:=by omega
  go_enter Tryz.func75,Tryz.ntmps75;go_wp2_with fail;refine HP.out.mono ?_;rintro e w1 ⟨rfl,Y1,c1,hY,hb,hf⟩;have HB:=Hd hb;have HY:=Hd hY;have HF:=Hd hf;have HO:=λnq=>Hd (Offset_calls b Y1 r (m.prep 4 0).room (m.prep 4 0).least (m.prep 4 0).bytes c1 (w1.drewN nq) (hb.drewN nq));rw[<-HN.out] at HO;clear hY hb hf;go_wp2_with fail;refine (HO 0).out.mono ?_;rintro e w2 ⟨rfl,n2,rfl⟩;go_wp2_with fail;refine (HO n2).out.mono ?_;rintro e w3 ⟨rfl,n3,rfl⟩;go_wp2_with fail;refine (PlaceSOffsetT_ok b Y1 r (m.prep 4 0).room (m.prep 4 0).least (m.prep 4 0).bytes c1 _ (w1.drewN (n2+n3)) (HB.out.drewN _) (by have:=HR.out;omega)).mono ?_;rintro e w4 ⟨rfl,hb4,hf4⟩;have HB4:=Hd hb4;have HF4:=Hd hf4;clear hb4 hf4;go_wp2_with fail;go_end0
  refine⟨rfl,?_⟩;refine BBx.trans HY.out (HF.out.drewN (n2+n3)) (BBx.here ?_ HF4.out);obtain⟨c',hb⟩:=HB4.out;refine⟨c',?_⟩;show BB _ _ _ _ ((m.prep 4 0).room-(leB 4 (n-(x%4294967296).toNat+4)).length) _ (leB 4 (n-(x%4294967296).toNat+4)++_) _;rw[<-leI_nat,leI_length];refine hb.to (congrArg (·++_) (leI_congr 4 ?_));have:=HM.out
  omega
 ·rw[if_neg hlt];have hlt2:decide (x%4294967296<=(n:Int))=false:=by rw[decide_eq_false_iff_not];omega
  clear hlt;go_enter Tryz.func75,Tryz.ntmps75;go_wp2_with fail;refine HP.out.mono ?_;rintro e w1 ⟨rfl,Y1,c1,hY,hb,hf⟩;have HF:=Hd hf;have HO:=λnq=>Hd (Offset_calls b Y1 r (m.prep 4 0).room (m.prep 4 0).least (m.prep 4 0).bytes c1 (w1.drewN nq) (hb.drewN nq));rw[<-HN.out] at HO;clear hY hb hf;go_wp2_with fail;refine (HO 0).out.mono ?_;rintro e w2 ⟨rfl,n2,rfl⟩;go_wp2_with fail;exact⟨rfl,⟨_,_,rfl⟩,HF.out.drewN _⟩
end Go.Proofs.YtcfblkkpclfmaaaGreat
