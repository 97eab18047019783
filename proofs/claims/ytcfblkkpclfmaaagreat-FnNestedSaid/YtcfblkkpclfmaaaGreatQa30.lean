/- Part 30 of the proof of FnRead (Built, Thrown, BBuild, Read0). No condition is laid on the statement. -/
import Derived.Test.YtcfblkkpclfmaaaGreatQa18
import Derived.Test.YtcfblkkpclfmaaaGreatProg
import Derived.Test.YtcfblkkpclfmaaaGreatQa01
import Derived.Recover
import Derived.Laws.Pointers
import Derived.WalkLawsBesides
import Derived.Lib.Hide
import Derived.Test.YtcfblkkpclfmaaaGreatQa29
import Derived.Test.YtcfblkkpclfmaaaGreatQa03
import Derived.Deep.RegionHeld3
import Derived.Test.YtcfblkkpclfmaaaGreatQa27
import Derived.Test.YtcfblkkpclfmaaaGreatQa20
import Derived.BigQuiet
import Derived.Test.YtcfblkkpclfmaaaGreatQa05
import Derived.Test.YtcfblkkpclfmaaaGreatQa02
import Derived.RegionDies
set_option linter.unusedVariables false
set_option linter.unusedSimpArgs false
set_option maxRecDepth 100000
set_option maxHeartbeats 16000000
namespace Go.Proofs.YtcfblkkpclfmaaaGreat
open Go.RowKit Go.Maps
theorem endObj_least{st st':BSt}{o:Nat}(h:st.endObj=some (o,st')):st'.m.least=max st.m.least 4:=by
 have hn:st.nested=true:=by
  cases hn:st.nested with
  | true=>rfl
  | false=>unfold BSt.endObj at h;rw[hn] at h;simp at h
 cases hf:vtFind st.vt1 st.vt1.bytes.length (trimZ (st.vtab.getD [])) st.vts with
 | none =>
  obtain⟨s,p,_,e,_,_,hl,_⟩:=endObj_fresh st hn hf;rw[h] at e;injection e with e;injection e with _ e;rw[e];exact hl
 | some v =>
  obtain⟨s,p,_,e,_,_,hl,_⟩:=endObj_found st v hn hf;rw[h] at e;injection e with e;injection e with _ e;rw[e];exact hl
theorem bTab_least{sh:Bool}{v:Val}{st st':BSt}{o:Nat}(h:bTab sh v st=some (o,st')):4<=st'.m.least:=by
 rw[bTab_def] at h;cases h1:bSlots sh v.slots st with
 | none=>rw[h1] at h;cases h
 | some p =>
  rw[h1,Option.bind_some] at h;cases h2:p.2.startObj v.slots.length with
  | none=>rw[h2] at h;cases h
  | some st1 =>
   rw[h2,Option.bind_some] at h;cases h3:bFields 0 v.slots p.1 st1 with
   | none=>rw[h3] at h;cases h
   | some st2 =>
    rw[h3,Option.bind_some] at h;rw[endObj_least h];omega
theorem algn_dvd4{s:Nat}(h:algn s)(h4:4<=s):∀n,n%s=0->n%4=0:=by
 unfold algn at h;intro n hn;rcases h with rfl|rfl|rfl|rfl|rfl<;>omega
structure Fini(B B':List UInt8)(off L:Nat):Prop where
 bytes:∃xs,B'=xs++B/\xs.length<=60
 ref:RefOk true B' B'.length
 dst:refE B' B'.length=off
 mod:B'.length%L=0
theorem finish_laid(st:BSt)(off:Nat)(hn:st.nested=false)(h0:0<off)(ho:off<=st.m.bytes.length)(hl:algn st.m.least)(h4:4<=st.m.least)(hb:st.m.bytes.length<1700000):
  ∃st',st.finish off=some st'/\st'.fin=true/\Fini st.m.bytes st'.m.bytes off st'.m.least/\st'.m.least=st.m.least/\∃k,k<16/\st'.m.bytes=leB 4 (st'.m.bytes.length-off)++(List.replicate k 0++st.m.bytes):=by
 obtain⟨m1,hm1⟩:=exA (st.m.prep st.m.least 4);have hp:(m1.bytes.length+4)%st.m.least=0:=by rw[hm1];exact prep_mod st.m st.m.least 4 hl
 have hk:=st.m.pad_lt st.m.least 4 hl;have hlt:=algn_le hl;have hb1:m1.bytes=List.replicate (st.m.pad st.m.least 4) 0++st.m.bytes:=by rw[hm1];rfl
 have hlen:m1.bytes.length=st.m.pad st.m.least 4+st.m.bytes.length:=by rw[hb1];simp
 have h44:m1.bytes.length%4=0:=by have:=algn_dvd4 hl h4 _ hp;omega
 have hleast:m1.least=st.m.least:=by rw[hm1];show max st.m.least st.m.least=_;omega
 have e4:=prep_id m1 4 0 (by unfold algn;omega) (by simpa using h44);have hb':((m1.prep 4 0).put (leB 4 ((m1.prep 4 0).bytes.length-off+4))).bytes=leB 4 (m1.bytes.length-off+4)++m1.bytes:=by
  show leB 4 _++(m1.prep 4 0).bytes=_;rw[e4]
 have hl':((m1.prep 4 0).put (leB 4 ((m1.prep 4 0).bytes.length-off+4))).bytes.length=4+m1.bytes.length:=by rw[hb',List.length_append,leB_length]
 obtain⟨r1,r2⟩:=ref_front hb' (by omega) h0 h44 (by omega);refine⟨{ st with m:=(m1.prep 4 0).put (leB 4 ((m1.prep 4 0).bytes.length-off+4)),fin:=true },?_,rfl,⟨?_,r1,r2,?_⟩,?_,st.m.pad st.m.least 4,by omega,?_⟩
 ·unfold BSt.finish;rw[if_neg (by rw[hn];simp),<-hm1];unfold BSt.refer BM.refer;rw[if_pos (by show off<=(m1.prep 4 0).bytes.length;rw[e4];omega)];rfl
 ·refine⟨leB 4 (m1.bytes.length-off+4)++List.replicate (st.m.pad st.m.least 4) 0,?_,?_⟩
  ·show ((m1.prep 4 0).put (leB 4 ((m1.prep 4 0).bytes.length-off+4))).bytes=_;rw[hb',hb1,List.append_assoc]
  ·simp[leB_length];omega
 ·show ((m1.prep 4 0).put (leB 4 ((m1.prep 4 0).bytes.length-off+4))).bytes.length%max m1.least 4=0;rw[hl',hleast,Nat.max_eq_left h4,Nat.add_comm];exact hp
 ·show max m1.least 4=_;rw[hleast,Nat.max_eq_left h4]
 ·show ((m1.prep 4 0).put (leB 4 ((m1.prep 4 0).bytes.length-off+4))).bytes=leB 4 (((m1.prep 4 0).put (leB 4 ((m1.prep 4 0).bytes.length-off+4))).bytes.length-off)++_;rw[hl',hb',hb1,show 4+(List.replicate (st.m.pad st.m.least 4) (0:UInt8)++st.m.bytes).length-off=(List.replicate (st.m.pad st.m.least 4) (0:UInt8)++st.m.bytes).length-off+4 by rw[<-hb1];omega]
structure BuiltOk(sh:Bool)(id:List UInt8)(v:Val)(st':BSt):Prop where
 fin:st'.fin=true
 ref:RefOk true st'.m.bytes st'.m.bytes.length
 tab:LTab true st'.m.bytes v (refE st'.m.bytes st'.m.bytes.length)
 mod:st'.m.bytes.length%st'.m.least=0
 algn:algn st'.m.least
 four:4<=st'.m.least
 len:st'.m.bytes.length<1700000
 id:id≠[]->BytesAt st'.m.bytes (st'.m.bytes.length-4) id
theorem root_laid(sh:Bool)(v:Val)(hg:Bld v)(hk:v.kind=15)(hn:nodes v<=150)(size:Nat):∃o st1,bTab sh v (st0 size)=some (o,st1)/\Out (st0 size) st1 (2*nodes v)/\0<o/\o<=st1.m.bytes.length/\LTab true st1.m.bytes v o/\algn st1.m.least/\4<=st1.m.least:=by
 have hinv:StInv (st0 size) 0:=StInv.start size;obtain⟨o,st1,e1,ho,h0,hle,hl⟩:=else_laid sh v hg (by omega) (by omega) (st0 size) 0 rfl (PI.start size) hinv (by omega);rw[bElse_tab sh v _ hk] at e1;refine⟨o,st1,e1,by simpa using ho,h0,hle,?_,ho.inv.least,bTab_least e1⟩;cases v with
 | mk k e n t ns ks ss =>
  have hk':k=15:=hk;subst hk';simpa [LObj,LTab] using hl
theorem built_laid(sh:Bool)(id:List UInt8)(v:Val)(hg:Bld v)(hk:v.kind=15)(hn:nodes v<=150)(hid:id=[]\/id.length=4)(size:Nat):∃st',bBuilt sh id v (st0 size)=some st'/\BuiltOk sh id v st':=by
 obtain⟨o,st1,e1,ho,h0,hle,hl,hal,h4⟩:=root_laid sh v hg hk hn size;have hlen:=ho.inv.len;rw[bBuilt,e1,Option.bind_some];by_cases hi:id=[]
 ·rw[if_pos hi];obtain⟨st',e2,hf,⟨⟨xs,hx,hxl⟩,f2,f3,f4⟩,hls,_⟩:=finish_laid st1 o ho.nested h0 hle hal h4 (by omega);refine⟨st',e2,hf,f2,?_,f4,by rw[hls];exact hal,by rw[hls];exact h4,?_,λh=>absurd hi h⟩
  ·rw[f3,hx];exact LTab_app true _ xs v o hl
  ·rw[hx,List.length_append];omega
 ·rw[if_neg hi];have hi4:id.length=4:=by rcases hid with h|h;exact absurd h hi;exact h
  obtain⟨m1,hm1⟩:=exA ((st1.m.prep st1.m.least 8).put id);have hp:((st1.m.prep st1.m.least 8).bytes.length+8)%st1.m.least=0:=prep_mod st1.m st1.m.least 8 hal;have hk:=st1.m.pad_lt st1.m.least 8 hal;have hlt:=algn_le hal;have hb1:m1.bytes=id++(List.replicate (st1.m.pad st1.m.least 8) 0++st1.m.bytes):=by rw[hm1];rfl
  have hpl:(st1.m.prep st1.m.least 8).bytes.length=st1.m.pad st1.m.least 8+st1.m.bytes.length:=by show (List.replicate _ _++st1.m.bytes).length=_;simp
  have hml:m1.bytes.length=4+(st1.m.pad st1.m.least 8+st1.m.bytes.length):=by rw[hb1];simp[hi4]
  have hleast:m1.least=st1.m.least:=by rw[hm1];show max st1.m.least st1.m.least=_;omega
  have hz:m1.pad m1.least 4=0:=by
   unfold BM.pad padB;have:(m1.bytes.length+4)%m1.least=0:=by rw[hleast,hml];rw[hpl] at hp;rw[<-hp];congr 1;omega
   rw[this,Nat.sub_zero,Nat.mod_self]
  obtain⟨st',e2,hf,⟨⟨xs,hx,hxl⟩,f2,f3,f4⟩,hls,k,hk16,hbk⟩:=finish_laid { st1 with m:=m1 } o ho.nested h0 (by show o<=m1.bytes.length;omega) (by rw[show ({ st1 with m:=m1 }:BSt).m.least=st1.m.least from hleast];exact hal) (by rw[show ({ st1 with m:=m1 }:BSt).m.least=st1.m.least from hleast];exact h4) (by show m1.bytes.length<_;omega);have hls':st'.m.least=st1.m.least:=by rw[hls];exact hleast
  have hx2:st'.m.bytes=(xs++(id++List.replicate (st1.m.pad st1.m.least 8) 0))++st1.m.bytes:=by
   rw[hx];show xs++m1.bytes=_;rw[hb1];simp only[List.append_assoc]
  refine⟨st',?_,hf,f2,?_,f4,by rw[hls'];exact hal,by rw[hls'];exact h4,?_,λ_=>?_⟩
  ·unfold BSt.finishId;rw[if_pos hi4,<-hm1];exact e2
  ·rw[f3,hx2];exact LTab_app true _ _ v o hl
  ·rw[hx2];simp only[List.length_append,List.length_replicate];omega
  ·have hxs:xs.length=4:=by
    have hfin:=e2;unfold BSt.finish at hfin;rw[if_neg (by show ¬st1.nested=true;rw[ho.nested];simp)] at hfin;have hb2:(m1.prep m1.least 4).bytes=m1.bytes:=(by show List.replicate (m1.pad m1.least 4) 0++m1.bytes=_;rw[hz];rfl);have h44:m1.bytes.length%4=0:=by
     have:(m1.bytes.length+4)%st1.m.least=0:=by rw[hml];rw[hpl] at hp;rw[<-hp];congr 1;omega
     have:=algn_dvd4 hal h4 _ this;omega
    have e4:=prep_id (m1.prep m1.least 4) 4 0 (by unfold algn;omega) (by rw[hb2];simpa using h44);unfold BSt.refer BM.refer at hfin;rw[if_pos (by show o<=((m1.prep m1.least 4).prep 4 0).bytes.length;rw[e4,hb2];omega)] at hfin;have hfin2:some st'=some _:=hfin.symm;injection hfin2 with hfin2;have hln:st'.m.bytes.length=4+m1.bytes.length:=by
     rw[hfin2];show (leB 4 _++((m1.prep m1.least 4).prep 4 0).bytes).length=_;rw[e4,hb2,List.length_append,leB_length]
    rw[hx] at hln;have:(xs++m1.bytes).length=4+m1.bytes.length:=hln
    rw[List.length_append] at this;omega
   have hbb:BytesAt st'.m.bytes st'.m.bytes.length (xs++id):=BytesAt.front (rest:=List.replicate (st1.m.pad st1.m.least 8) 0++st1.m.bytes) (by rw[hx];show xs++m1.bytes=_;rw[hb1];simp only[List.append_assoc]);have:=hbb.right
   rw[hxs] at this;exact this
end Go.Proofs.YtcfblkkpclfmaaaGreat
namespace Go.Proofs.YtcfblkkpclfmaaaGreat
open Go.RowKit
theorem catch_idle(p:Addr)(x:Bool)(w:World)(hc:w.cell? p=some (.bool x))(hz:w.frozen? p=false):
  CallsD Tryz.prog 64 #[.pointer (some p)] .returning w λe u' w'=>e=.returned (.tuple #[])/\u'=.returning/\w'=w.setCell p (.bool false):=by
 refine callsD_of_wpS Tryz.func64 rfl λc₀ cs hu=>?_;apply wpS_region
 simp[wpOpsS,go_sem,recoverD,hu,Tryz.ntmps64,hc,hz,bodyPostS,results,Tryz.results64]
 rw[<-hu]
def thrownVar:Obj:=.cells #[.bool false] 4
theorem thrown_ok{g:Nat}{caps:Array Value}{w:World}{S:Nat->Prop}{R:World->Prop}(hen:∀w,(callFunc g caps).run Tryz.prog w=.ok (.enter g caps) w)
  (h:Calls Tryz.prog g caps (w.alloc thrownVar) λe w1=>e=.returned (.tuple #[])/\R w1) (hR:∀w1,R w1->Fr S (w.alloc thrownVar) w1) (hS:¬S w.heap.size):
  Calls Tryz.prog 38 #[.func (.func g) #[] caps] w λe w'=>e=.returned (.bool false)/\∃w1,R w1/\Fr (·=w.heap.size) w1 w':=by
 have hmf:∀(fn:Fn) (first cap:Array Value) (w:World),(Instr.makeFunc fn first cap).run Tryz.prog w=.ok (.func fn first cap) w:=λ_ _ _ _=>rfl;have h2:∀w1,R w1->w1.heap[w.heap.size]?=some (.cells #[.bool false] 4):=λw1 hr=>by
  rw[(hR w1 hr).block w.heap.size (by simp) hS];exact heap_alloc_new w thrownVar
 have H2:=Hd h2;clear h2;have HC:=Hd h;clear h;go_enter_defers Tryz.func38,Tryz.ntmps38
 go_wp2_with fail;refine HC.out.mono ?_;rintro e w1 ⟨rfl,hr⟩;have hb:=H2.out w1 hr;have hc:w1.cell? ⟨w.heap.size,0,none⟩=some (.bool false):=by rw[cell_of hb];rfl
 have hf:w1.frozen? ⟨w.heap.size,0,none⟩=false:=frozen_of hb 0;clear hb;have HR:=Hd hr;clear hr;go_wp2_with fail;refine leaves_cons (f:=64) (args:=#[.pointer (some ⟨w.heap.size,0,none⟩)]) (by simp) (by simp[go_sem]) ?_;refine (catch_idle ⟨w.heap.size,0,none⟩ false _ ?_ ?_).mono ?_
 ·simp[go_sem,hc]
 ·simp[go_sem,hf]
 rintro e u' w'' ⟨rfl,rfl,rfl⟩;simp[Leaves,settle,results,Tryz.results38,go_sem,hc]
 exact⟨w1,HR.out,((Fr.refl (λx=>x=w.heap.size) _).setCell (λ_=>rfl) _).setCell (λ_=>rfl) _⟩
theorem results_cell_tmp{P:Program}{fn:Func}{p q:Tmp}{ty:TypeId}(h:fn.results=#[.cell p ty,.tmp q])(tmps:Array Value)(w:World)(a:Addr)(v:Value)(hp:tmps.getD p undef=.pointer (some a))(hl:(loadVar ty a).run P w=.ok v w):
  (results fn tmps).run P w=.ok (.tuple #[v,tmps.getD q undef]) w:=by
 have hp':tmps[p]?.getD undef=.pointer (some a):=by simpa using hp
 simp[results,h,hp',asAddr,hl,Sem.run_bind,Result.andThen]
theorem loadStr(w:World)(a:Addr)(s:ByteArray)(h:w.cell? a=some (.string s)):(loadVar 9 a).run Tryz.prog w=.ok (.string s) w:=by
 simp[loadVar,isAgg,go_sem,h,Tryz.underlying9]
theorem strOf_empty{l:List UInt8}(h:l≠[]):(strOf l).toList.isEmpty=false:=by
 have e:(strOf l).toList=l:=by
  have h0:(strOf l).toList=(strOf l).data.toList:=by simp[ByteArray.toList_eq]
  rw[h0];rfl
 rw[e];cases l with
 | nil=>exact absurd rfl h
 | cons a r=>rfl
theorem built_calls(sh:Bool)(id:List UInt8)(v:Val)(hg:Bld v)(hk15:v.kind=15)(hn150:nodes v<=150)(hid:id=[]\/id.length=4)(size:Nat)(sz:Int)(st':BSt)(he:bBuilt sh id v (st0 size)=some st')(w:World)(b:Nat)(F:List Nat)(cs:List Value)
  (hrep:BRep w b F (st0 size)) (hv:VIs (λk=>k ∉ F) w cs v):
  Calls Tryz.prog 40 #[.pointer (some ⟨b,0,none⟩),.agg cs.toArray,.agg #[.int .i64 sz,.string (strOf id),.bool sh]] w λe w'=>e=.returned (.string (strOf st'.m.bytes))/\Fr (λk=>k∈F) w w':=by
 obtain⟨o,st1,e1,ho,h0,hle,hl,hal,h4⟩:=root_laid sh v hg hk15 hn150 size;have hfin:st'.fin=true:=by
  obtain⟨s2,e2,hb⟩:=built_laid sh id v hg hk15 hn150 hid size;rw[he] at e2;injection e2 with e2;rw[e2];exact hb.fin
 have hlen:=ho.inv.len;rw[bBuilt,e1,Option.bind_some] at he;have hok:BOk (st0 size) 0:=⟨rfl,PI.start size,StInv.start size⟩;obtain⟨S,hS⟩:=exA (strOf id);rw[<-hS];have hfl:=hrep.below;have haa:Adv w ((w.alloc (.cells cs.toArray 46)).alloc (.cells #[.int .i64 sz,.string S,.bool sh] 29)) F F:=(Adv.alloc _).trans (Adv.alloc _);have hra:=hrep.keep (((Fr.refl (λ_=>False) w).alloc (.cells cs.toArray 46)).alloc (.cells #[.int .i64 sz,.string S,.bool sh] 29)) (λ_ _ x=>x);have hcl:=(build_val sh v).2 hg (st0 size) 0 b F _ cs hok (by omega) hra (hv.adv haa);rw[e1] at hcl;have hbl:w.heap.size+1 ∉ F:=λhm=>by have:=hfl _ hm;omega
 have hbx:((w.alloc (.cells cs.toArray 46)).alloc (.cells #[.int .i64 sz,.string S,.bool sh] 29)).heap[w.heap.size+1]?=some (.cells #[.int .i64 sz,.string S,.bool sh] 29):=by
  rw[<-size_alloc w (.cells cs.toArray 46),heap_alloc_new]
 have hws:((w.alloc (.cells cs.toArray 46)).alloc (.cells #[.int .i64 sz,.string S,.bool sh] 29)).heap.size=w.heap.size+2:=by simp
 obtain⟨na,nl,nc,ka,nk,kc,sa,nss,sc,rfl⟩:=hv.lit;obtain⟨k,hk⟩:=exA (v.kind);obtain⟨e,hee⟩:=exA (v.elem);obtain⟨n,hn⟩:=exA (v.num);obtain⟨tt,htt⟩:=exA (strOf v.text);rw[<-hk,<-hee,<-hn,<-htt] at hcl haa hbx hws ⊢;have HC:=Hd hcl;have HAA:=Hd haa;have HBX:=Hd hbx;have HWS:=Hd hws;have HN:=Hd ho.nested;have HST:=Hd hS;have hlb:st1.m.bytes.length<=1500000:=by omega
 have hle':o<=1500000:=by omega
 clear hcl haa hbx hws hv hra hrep hok hS hg hk15 hn150 hk hee hn htt e1 ho hl;go_enter Tryz.func40,Tryz.ntmps40;go_wp2_with fail;refine HC.out.mono ?_;rintro e2 w2 ⟨rfl,F2,hb2,ha2⟩;obtain⟨hn1,hh1⟩:=ha2.out (k:=w.heap.size+1) (by rw[HWS.out];omega) hbl;rw[HBX.out] at hh1;have c1:w2.cell? ⟨w.heap.size+1,1,none⟩=some (.string S):=by rw[cell_of hh1];rfl
 have HA2:=Hd (HAA.out.trans ha2);have HB2:=Hd hb2;have HH1:=Hd hh1;clear hb2 ha2 hh1;rcases hid with hid|hid
 ·subst hid;rw[if_pos rfl] at he;have hS0:S=⟨#[]⟩:=HST.out;subst hS0;have hfc:=Finish_calls b F2 st1 o w2 HB2.out hal (by omega) (by omega);rw[he] at hfc;have HFC:=Hd hfc;clear hfc he HST;go_wp2_with fail;refine HFC.out.mono ?_;rintro e3 w3 ⟨rfl,F3,hb3,ha3⟩;have HFB:=Hd (FinishedBytes_ok b F3 st' w3 hb3 hfin);have HA3:=Hd (HA2.out.trans ha3);clear hb3 ha3;go_wp2_with fail;refine HFB.out.mono ?_;rintro e4 w4 ⟨Y,oo,cap,nn,rfl,hM,rfl⟩;have hc:=run_bytes_string (P:=Tryz.prog) (src:=81) (dst:=9) hM rfl (cap:=cap) Tryz.underlying81 Tryz.underlying5 Tryz.underlying9;clear hM;go_wp2_with fail;go_ret;exact⟨rfl,(HA3.out.drewN nn).1⟩
 ·have hne:id≠[]:=by intro h;rw[h] at hid;cases hid
  rw[if_neg hne] at he;have hSb:S.toList.isEmpty=false:=by rw[HST.out];exact strOf_empty hne
  obtain⟨cap,W3,hrun,hf3,hm3,hs3⟩:=conv_bytesV w2 id;rw[<-HST.out,hid] at hrun;have hb3:=HB2.out.keep hf3 (λ_ _ x=>x);have hsrc:Src W3 F2 (.slice (some ⟨w2.heap.size,0,none⟩) id.length cap) id:=⟨w2.heap.size,0,cap,rfl,hs3,λhm=>by have:=HB2.out.below _ hm;omega,hm3⟩;have hfc:=FinishId_calls b F2 st1 o id _ W3 hb3 hsrc hal (by omega) (by omega) (by omega);rw[he,hid] at hfc;have HFC:=Hd hfc;have HA3:=Hd (HA2.out.trans (show Adv w2 W3 F2 F2 from ⟨hf3.mono (λ_ _ x=>x.elim),λ_ h=>.inl h⟩));clear hfc he hb3 hsrc hf3 hm3 HST hid hne;go_wp2_with fail;refine HFC.out.mono ?_;rintro e3 w3 ⟨rfl,F3,hb3,ha3⟩;have HFB:=Hd (FinishedBytes_ok b F3 st' w3 hb3 hfin);have HA4:=Hd (HA3.out.trans ha3);clear hb3 ha3;go_wp2_with fail;refine HFB.out.mono ?_;rintro e4 w4 ⟨Y,oo,cap2,nn,rfl,hM,rfl⟩;have hc:=run_bytes_string (P:=Tryz.prog) (src:=81) (dst:=9) hM rfl (cap:=cap2) Tryz.underlying81 Tryz.underlying5 Tryz.underlying9;clear hM;go_wp2_with fail;go_ret;exact⟨rfl,(HA4.out.drewN nn).1⟩
theorem Build1_calls(sh:Bool)(id:List UInt8)(v:Val)(hg:Bld v)(hk15:v.kind=15)(hn150:nodes v<=150)(hid:id=[]\/id.length=4)(size:Nat)(hsz:size<=5000)(st':BSt)(he:bBuilt sh id v (st0 size)=some st')(w:World)(O V D:Nat)(cs:List Value)(ds:Value)
  (hO:w.heap[O]?=some (.cells #[.int .i64 size,.string (strOf id),.bool sh] 29)) (hV:w.heap[V]?=some (.cells cs.toArray 46)) (hD:w.heap[D]?=some (.cells #[ds] 9)) (hv:VIs (λ_=>True) w cs v):
  Calls Tryz.prog 39 #[.pointer (some ⟨O,0,none⟩),.pointer (some ⟨V,0,none⟩),.pointer (some ⟨D,0,none⟩)] w λe w'=>e=.returned (.tuple #[])/\Fr (λk=>k=D) w w'/\w'.heap[D]?=some (.cells #[.string (strOf st'.m.bytes)] 9):=by
 have hbt:∀(w':World) (b:Nat) (F:List Nat),BRep w' b F (st0 size)->Fr0 w w'->(∀k∈F,w.heap.size<=k)->Calls Tryz.prog 40 #[.pointer (some ⟨b,0,none⟩),.agg cs.toArray,.agg #[.int .i64 size,.string (strOf id),.bool sh]] w' λe w''=>e=.returned (.string (strOf st'.m.bytes))/\Fr (λk=>k∈F) w' w'' :=
  λw' b F h1 h2 h3=>built_calls sh id v hg hk15 hn150 hid size size st' he w' b F cs h1 (hv.fr0 h2 (λk hk _ hm=>by have:=h3 k hm;omega))
 obtain⟨na,nl,nc,ka,nk,kc,sa,nss,sc,rfl⟩:=hv.lit;obtain⟨k,hk⟩:=exA (v.kind);obtain⟨e,hee⟩:=exA (v.elem);obtain⟨n,hn⟩:=exA (v.num);obtain⟨tt,htt⟩:=exA (strOf v.text);obtain⟨S,hS⟩:=exA (strOf id);obtain⟨R,hR⟩:=exA (strOf st'.m.bytes);rw[<-hk,<-hee,<-hn,<-htt] at hbt hV;rw[<-hS] at hbt hO;rw[<-hR] at hbt ⊢;have HBT:=Hd hbt;have o0:w.cell? ⟨O,0,none⟩=some (.int .i64 size):=by rw[cell_of hO];rfl
 have o1:w.cell? ⟨O,1,none⟩=some (.string S):=by rw[cell_of hO];rfl
 have o2:w.cell? ⟨O,2,none⟩=some (.bool sh):=by rw[cell_of hO];rfl
 have v0:w.cell? ⟨V,0,none⟩=some (.int .u8 k):=by rw[cell_of hV];rfl
 have v1:w.cell? ⟨V,1,none⟩=some (.int .u8 e):=by rw[cell_of hV];rfl
 have v2:w.cell? ⟨V,2,none⟩=some (.int .u64 n):=by rw[cell_of hV];rfl
 have v3:w.cell? ⟨V,3,none⟩=some (.string tt):=by rw[cell_of hV];rfl
 have v4:w.cell? ⟨V,4,none⟩=some (.slice na nl nc):=by rw[cell_of hV];rfl
 have v5:w.cell? ⟨V,5,none⟩=some (.slice ka nk kc):=by rw[cell_of hV];rfl
 have v6:w.cell? ⟨V,6,none⟩=some (.slice sa nss sc):=by rw[cell_of hV];rfl
 have HDB:=Hd hD;have hDz:=frozen_of hD 0;have hD:w.cell? ⟨D,0,none⟩=some ds:=by rw[cell_of hD];rfl
 clear hbt hO hV hv hg hk15 hn150 hid he hk hee hn htt hS hR;go_enter Tryz.func39,Tryz.ntmps39;go_upto_region 0 with fail;refine wp_region_tail_held 6 (S:=(λw'=>Fr0 w w')) _ kr kr kr ((Fr.refl _ w).drew) (λhHeld=>?_);simp only[List.take_succ_cons,List.take_zero,List.drop_succ_cons,List.drop_zero,List.length_cons,List.length_nil,Nat.zero_add,Nat.reduceAdd];refine tk 0 (.pointer (some ⟨O,0,none⟩)) rfl ?_ ?_
 ·intro w' hc;clear hc;go_simp
 simp only[Act.put,zA,zB,zC];refine tk 1 (.int .i64 size) rfl ?_ ?_
 ·intro w' hc;have a0:=keep_fr hc o0 (λx=>x);clear hc;go_simp
 simp only[Act.put,zA,zB,zC];refine tk 3 (.agg #[.int .u8 k,.int .u8 e,.int .u64 n,.string tt,.slice na nl nc,.slice ka nk kc,.slice sa nss sc]) rfl ?_ ?_
 ·intro w' hc;have a0:=keep_fr hc v0 (λx=>x);have a1:=keep_fr hc v1 (λx=>x);have a2:=keep_fr hc v2 (λx=>x);have a3:=keep_fr hc v3 (λx=>x);have a4:=keep_fr hc v4 (λx=>x);have a5:=keep_fr hc v5 (λx=>x);have a6:=keep_fr hc v6 (λx=>x);clear hc;go_simp
 simp only[Act.put,zA,zB,zC];refine tk 4 (.agg #[.int .i64 size,.string S,.bool sh]) rfl ?_ ?_
 ·intro w' hc;have a0:=keep_fr hc o0 (λx=>x);have a1:=keep_fr hc o1 (λx=>x);have a2:=keep_fr hc o2 (λx=>x);clear hc;go_simp
 simp only[Act.put,zA,zB,zC];refine rd 2 rfl λK hK=>?_;go_simp;refine (NewBuilder_calls size _ hsz).mono ?_;rintro e6 w6 ⟨rfl,F6,hb6,ha6⟩;have hf6:Fr0 w w6:=(show Fr (λk=>k∈([]:List Nat)) _ w6 from ha6.1).mono (λ_ _ h=>by cases h) |>.fromDrew;have HB6:=Hd hb6;have HAF6:=Hd ha6;refine hK.out _ _ hf6 (λ_=>?_);try simp only[Act.put,zA,zB,zC]
 refine rd 5 rfl λK hK=>?_;go_simp;refine (HBT.out _ _ _ HB6.out hf6 (λk hk=>?_)).mono ?_
 ·have:=HAF6.out.2 k hk;simp at this;exact this
 rintro e7 w7 ⟨rfl,hf7⟩;have hf7:Fr0 w w7:=hf6.trans2 hf7 (λk hk hm=>by have:=HAF6.out.2 k hm;simp at this;omega);have d0:=(keep_fr hf7 hD (λx=>x));have dz:=(keep_frF hf7 hD hDz (λx=>x));refine hK.out _ _ hf7 (λ_=>?_);try simp only[Act.put,zA,zB,zC]
 have HF7:=Hd hf7;clear hf6 hf7;refine wpAnyH_done kr ?_ _;show wpTail _ _ _ _ _ _ _;refine wpTail_step (by rfl) (λK hK=>?_);go_simp;refine hK _ _ ?_;refine wpTail_nil ?_;clear hK K;go_wp2_with fail;go_end0
 have h1:=(HF7.out.block D (lt_of_block HDB.out) (λx=>x)).trans HDB.out;exact⟨rfl,(HF7.out.mono (S':=λk=>k=D) (λ_ _ x=>x.elim)).setCell (p:=⟨D,0,none⟩) (λ_=>rfl) _,heap_setCell_same h1 0 _⟩
theorem enterBuild1(caps:Array Value)(w:World):(callFunc 39 caps).run Tryz.prog w=.ok (.enter 39 caps) w:=by kernel_rfl
theorem Build_calls(sh:Bool)(id:List UInt8)(v:Val)(hg:Bld v)(hk15:v.kind=15)(hn150:nodes v<=150)(hid:id=[]\/id.length=4)(size:Nat)(hsz:size<=5000)(w:World)(cs:List Value)(hv:VIs (λ_=>True) w cs v):
  Calls Tryz.prog 21 #[.agg cs.toArray,.agg #[.int .i64 size,.string (strOf id),.bool sh]] w λe w'=>∃st',bBuilt sh id v (st0 size)=some st'/\BuiltOk sh id v st'/\e=.returned (.tuple #[.string (strOf st'.m.bytes),.bool true])/\Fr0 w w':=by
 obtain⟨st',he,hok⟩:=built_laid sh id v hg hk15 hn150 hid size;obtain⟨w1,hw1⟩:=exA (((w.alloc (.cells cs.toArray 46)).alloc (.cells #[.int .i64 size,.string (strOf id),.bool sh] 29)).alloc (.cells #[.string ⟨#[]⟩] 9));have hf1:Fr0 w w1:=by rw[hw1];exact (((Fr.refl _ w).alloc _).alloc _).alloc _
 have hs1:w1.heap.size=w.heap.size+3:=by rw[hw1];simp
 have hV1:w1.heap[w.heap.size]?=some (.cells cs.toArray 46):=by
  rw[hw1];simp only[heap_alloc_get,size_alloc];rw[if_neg (by omega),if_neg (by omega),if_pos trivial]
 have hO1:w1.heap[w.heap.size+1]?=some (.cells #[.int .i64 size,.string (strOf id),.bool sh] 29):=by
  rw[hw1];simp only[heap_alloc_get,size_alloc];rw[if_neg (by omega),if_pos trivial]
 have hD1:w1.heap[w.heap.size+2]?=some (.cells #[.string ⟨#[]⟩] 9):=by
  rw[hw1];simp only[heap_alloc_get,size_alloc];rw[if_pos trivial]
 have hal:Fr0 w1 (w1.alloc thrownVar):=(Fr.refl _ w1).alloc _;have h1:=Build1_calls sh id v hg hk15 hn150 hid size hsz st' he (w1.alloc thrownVar) (w.heap.size+1) w.heap.size (w.heap.size+2) cs (.string ⟨#[]⟩) (by rw[heap_alloc_old _ _ _ (by omega)];exact hO1) (by rw[heap_alloc_old _ _ _ (by omega)];exact hV1) (by rw[heap_alloc_old _ _ _ (by omega)];exact hD1) ((hv.fr0 hf1 (λ_ _ h=>h)).fr0 hal (λ_ _ h=>h));have hth:=thrown_ok (S:=λx=>x=w.heap.size+2) (R:=λw'=>Fr (λx=>x=w.heap.size+2) (w1.alloc thrownVar) w'/\w'.heap[w.heap.size+2]?=some (.cells #[.string (strOf st'.m.bytes)] 9)) (λw=>enterBuild1 _ w) h1 (λ_ h=>h.1) (by omega);obtain⟨R,hR⟩:=exA (strOf st'.m.bytes);obtain⟨S,hS⟩:=exA (strOf id);rw[<-hR] at hth;rw[<-hS] at hw1;rw[<-hS];obtain⟨na,nl,nc,ka,nk,kc,sa,nss,sc,rfl⟩:=hv.lit;obtain⟨k,hk⟩:=exA (v.kind);obtain⟨e,hee⟩:=exA (v.elem);obtain⟨n,hn⟩:=exA (v.num);obtain⟨tt,htt⟩:=exA (strOf v.text);rw[<-hk,<-hee,<-hn,<-htt] at hw1 ⊢;rw[hw1] at hth;have HTH:=Hd hth;have HW1:=Hd hw1;have HF1:=Hd hf1;have HS1:=Hd hs1;have HR:=Hd hR;have HOK:=Hd (And.intro he hok);clear hth hw1 hf1 hs1 hV1 hO1 hD1 hal h1 hv hR hS hk hee hn htt he hok hg hk15 hn150 hid;have hmf:∀(fn:Fn) (first cap:Array Value) (w:World),(Instr.makeFunc fn first cap).run Tryz.prog w=.ok (.func fn first cap) w:=λ_ _ _ _=>rfl;go_enter Tryz.func21,Tryz.ntmps21;go_wp2_with fail;refine HTH.out.mono ?_;rintro e2 w2 ⟨rfl,w3,⟨hf3,hb3⟩,hf4⟩;rw[<-HW1.out] at hf3 hf4;have hb4:=(hf4.block (w.heap.size+2) (lt_of_block hb3) (by have:=HS1.out;omega)).trans hb3;have d0:w2.cell? ⟨w.heap.size+2,0,none⟩=some (.string R):=by rw[cell_of hb4];rfl
 have dz:=frozen_of hb4 0;have hf5:Fr0 w w2:=by
  have h0:Fr0 w (w1.alloc thrownVar):=HF1.out.trans ((Fr.refl _ w1).alloc _);have hs:=HS1.out;exact (h0.trans2 hf3 (λq hq hm=>by omega)).trans2 hf4 (λq hq hm=>by omega)
 have HF5:=Hd hf5;have HB4:=Hd hb4;clear hf3 hb3 hf4 hb4 hf5;go_wp2_with fail;refine bodyPost_ret (results_cell_tmp (P:=Tryz.prog) rfl _ _ ⟨w.heap.size+2,0,none⟩ (.string R) rfl (loadStr _ _ _ (by rw[cell_of (heap_setCell_same HB4.out 0 (.string R))];rfl))) rfl ?_;have hc:=HOK.out;refine⟨st',hc.1,hc.2,by rw[<-HR.out];rfl,?_⟩;exact HF5.out.setCell (λh=>absurd (show w.heap.size+2<w.heap.size from h) (by omega)) _
theorem root0Init(a : Addr)(w : World) : (method 397 116 (.pointer (some a)) "Init").run Tryz.prog w = .ok (263, .pointer (some a)) w := by kernel_rfl
theorem Init0_calls(R:Nat)(x0 x1:Value)(b:Addr)(len cap:Nat)(i:Int)(w:World)(hb:w.heap[R]?=some (.cells #[x0,x1] 117)):
  Calls Tryz.prog 263 #[.pointer (some ⟨R,0,none⟩),.slice (some b) len cap,.int .u32 i] w λe w'=>e=.returned (.tuple #[])/\(w.setCell ⟨R,0,none⟩ (.slice (some b) len cap)).setCell ⟨R,1,none⟩ (.int .u32 i)=w':=by
 have c0:w.cell? ⟨R,0,none⟩=some x0:=by rw[cell_of hb];rfl
 have c1:w.cell? ⟨R,1,none⟩=some x1:=by rw[cell_of hb];rfl
 have f0:=frozen_of hb 0;have f1:=frozen_of hb 1;clear hb;go_enter Tryz.func263,Tryz.ntmps263;go_wp2
 go_end0
 exact⟨rfl,rfl⟩
theorem GetRootAs0_ok(R b len cap off:Nat)(l:List UInt8)(x0 x1:Value)(w:World)(hb:w.heap[R]?=some (.cells #[x0,x1] 117))(hm:Mem w b 0 l)(hlen:l.length=len)(hcap:len<=cap)(h:off+4<=len):
  Calls Tryz.prog 49 #[.slice (some ⟨b,0,none⟩) len cap,.int .u32 off,.iface 116 (.pointer (some ⟨R,0,none⟩))] w λe w'=>e=.returned (.tuple #[]) /\
   (w.setCell ⟨R,0,none⟩ (.slice (some ⟨b,0,none⟩) len cap)).setCell ⟨R,1,none⟩ (.int .u32 (IntKind.u32.wrap ((le ((l.drop off).take 4):Nat)+off)))=w':=by
 obtain⟨i0,hi,hz0,hz1,hz2⟩:=info_parts infoU8;have hsl:=run_slice_from (P:=Tryz.prog) Tryz.underlying81 (by rw[hi];simp[hz1]) b 0 len cap .u32 off off rfl (by omega);have HG:=Hd (GetUOffsetT_ok b (sOff 0 off cap) (len-off) (cap-off) (l.drop off) w (hm.cut (by omega)) (by rw[List.length_drop,hlen]) (by omega));have HI:=Hd (λi=>Init0_calls R x0 x1 ⟨b,0,none⟩ len cap i w hb);have h2:=root0Init;clear hb hm hlen h hcap hi hz0 hz1 hz2;go_enter Tryz.func49,Tryz.ntmps49;go_wp2_with (first|(go_at_call 90;refine HG.out.mono ?_;rintro e w' ⟨rfl,rfl⟩)|(go_at_call 263;refine (HI.out _).mono ?_;rintro e w' ⟨rfl,rfl⟩));go_end0
 refine⟨rfl,?_⟩;rw[IntKind.wrap_u32]
structure Buf(al:Bool)(l:List UInt8)(v:Val):Prop where
 small:l.length<=1000000000
 ref:RefOk al l l.length
 tab:LTab al l v (refE l l.length)
theorem Buf.at0{al:Bool}{l:List UInt8}{v:Val}(h:Buf al l v):4<=l.length/\IntKind.u32.wrap (((le ((l.drop 0).take 4):Nat):Int)+(0:Nat))=((l.length-refE l l.length:Nat):Int):=by
 have h1:=h.ref.low;have h2:=h.ref.lt;have h3:=h.small;have e:le ((l.drop 0).take 4)=at4 l l.length:=by unfold at4 fromEnd;rw[Nat.sub_self]
 refine⟨h1,?_⟩;rw[e,IntKind.wrap_u32];unfold refE;omega
theorem Read1_of(v:Val)(hRT:RdT v)(al:Bool)(l:List UInt8)(sv:Val)(hb:Buf al l v)(hpu:Pure v)(hk:v.kind=15)(hsh:ShOk v sv)(w:World)(D S O:Nat)(cs:List Value)(hD:w.heap[D]?=some (.cells #[.string (strOf l)] 9))(hS:w.heap[S]?=some (.cells cs.toArray 46))
  (hO:w.heap[O]?=some (.cells #[.int .u8 0,.int .u8 0,.int .u64 0,.string ⟨#[]⟩,.slice none 0 0,.slice none 0 0,.slice none 0 0] 46)) (hv:VIs (λ_=>True) w cs sv):
  Calls Tryz.prog 55 #[.pointer (some ⟨D,0,none⟩),.pointer (some ⟨S,0,none⟩),.pointer (some ⟨O,0,none⟩)] w λe w'=>e=.returned (.tuple #[])/\Fr (λk=>k=O) w w'/\∃cs',w'.heap[O]?=some (.cells cs'.toArray 46)/\VIs (λb=>w.heap.size<=b) w' cs' (read0 v):=by
 obtain⟨h4,h0⟩:=hb.at0;obtain⟨q,hq⟩:=exA (l.length-refE l l.length);rw[<-hq] at h0;have hq9:q<4294967296:=by have:=hb.small;omega
 obtain⟨L,hL⟩:=exA (l.length);obtain⟨SS,hSS⟩:=exA (strOf l);have hsz:SS.size=L:=by rw[hSS,strOf_size,hL]
 rw[<-hSS] at hD;have hDl:=lt_of_block hD;have hSl:=lt_of_block hS;have hOl:=lt_of_block hO;have hsl:SS.data.toList=l:=by rw[hSS];rfl
 obtain⟨wA,hwA⟩:=exA (w.alloc (.cells #[.slice none 0 0,.int .u32 0] 117));have hsA:wA.heap.size=w.heap.size+1:=by rw[hwA];simp
 have hfA:Fr0 w wA:=by rw[hwA];exact (Fr.refl _ w).alloc _
 have hRA:wA.heap[w.heap.size]?=some (.cells #[.slice none 0 0,.int .u32 0] 117):=by rw[hwA];exact heap_alloc_new _ _
 have hslc:=slice_calls SS wA (by rw[hsz,hL];exact hb.small);rw[hsz,hsl] at hslc;obtain⟨wB,hwB⟩:=exA (wA.alloc (.cells (cellsOf l).toArray 5));have hfB:Fr0 wA wB:=by rw[hwB];exact (Fr.refl _ wA).alloc _
 have hsB:wB.heap.size=wA.heap.size+1:=by rw[hwB];simp
 have hBB:wB.heap[wA.heap.size]?=some (.cells (cellsOf l).toArray 5):=by rw[hwB];exact heap_alloc_new _ _
 have hRB:=(hfB.block w.heap.size (by omega) (λx=>x)).trans hRA;have hgr:=GetRootAs0_ok w.heap.size wA.heap.size L L 0 l (.slice none 0 0) (.int .u32 0) wB hRB (Mem.of_block hBB) hL.symm (Nat.le_refl _) (by omega);rw[h0] at hgr;obtain⟨wC,hwC⟩:=exA ((wB.setCell ⟨w.heap.size,0,none⟩ (.slice (some ⟨wA.heap.size,0,none⟩) L L)).setCell ⟨w.heap.size,1,none⟩ (.int .u32 q));have hfC:Fr (λb=>b=w.heap.size) wB wC:=by rw[hwC];exact (Fr.set1 wB _ 0 _).trans (Fr.set1 _ _ 1 _)
 have hRC:wC.heap[w.heap.size]?=some (.cells #[.slice (some ⟨wA.heap.size,0,none⟩) L L,.int .u32 q] 117):=by
  rw[hwC,heap_setCell_same (heap_setCell_same hRB 0 _) 1 _];rfl
 have hBC:=(hfC.block wA.heap.size (by omega) (by omega)).trans hBB;have hTab:Tab wC w.heap.size wA.heap.size l q:=⟨by rw[cell_of hRC,<-hL];rfl,by rw[cell_of hRC];rfl,hBC,by have:=hb.small;omega,hq9⟩;have hfwC:Fr0 w wC:=(hfA.trans hfB).trans2 hfC (λb hb e=>by omega);have hsC:w.heap.size+2<=wC.heap.size:=by have:=hfC.size;omega
 have hrt:=λ(w':World) (h:Fr0 wC w')=>hRT hpu hk sv al w.heap.size wA.heap.size (refE l l.length) l w' cs hsh (by rw[<-hq];exact hTab.keep0 h (by omega)) (by have:=h.size;omega) hb.tab ((hv.fr0 hfwC (λ_ _ h=>h)).fr0 h (λ_ _ h=>h));rw[<-hwB] at hslc;rw[<-hwC] at hgr;obtain⟨na,nl,nc,ka,nk,kc,sa,nss,sc,rfl⟩:=hv.lit;obtain⟨rv,hrv⟩:=exA (read0 v);rw[<-hrv] at hrt ⊢;obtain⟨k,hkk⟩:=exA (sv.kind);obtain⟨e,hee⟩:=exA (sv.elem);obtain⟨n,hn⟩:=exA (sv.num);obtain⟨tt,htt⟩:=exA (strOf sv.text);rw[<-hkk,<-hee,<-hn,<-htt] at hrt hS;have d0:wA.cell? ⟨D,0,none⟩=some (.string SS):=by rw[cell_of ((hfA.block D hDl (λx=>x)).trans hD)];rfl
 have hSC:=(hfwC.block S hSl (λx=>x)).trans hS;have hOC:=(hfwC.block O hOl (λx=>x)).trans hO;have v0:wC.cell? ⟨S,0,none⟩=some (.int .u8 k):=by rw[cell_of hSC];rfl
 have v1:wC.cell? ⟨S,1,none⟩=some (.int .u8 e):=by rw[cell_of hSC];rfl
 have v2:wC.cell? ⟨S,2,none⟩=some (.int .u64 n):=by rw[cell_of hSC];rfl
 have v3:wC.cell? ⟨S,3,none⟩=some (.string tt):=by rw[cell_of hSC];rfl
 have v4:wC.cell? ⟨S,4,none⟩=some (.slice na nl nc):=by rw[cell_of hSC];rfl
 have v5:wC.cell? ⟨S,5,none⟩=some (.slice ka nk kc):=by rw[cell_of hSC];rfl
 have v6:wC.cell? ⟨S,6,none⟩=some (.slice sa nss sc):=by rw[cell_of hSC];rfl
 rw[hsA] at hslc hgr;rw[hwA] at hslc d0;rw[show (((0:Nat):Int))=0 from rfl] at hgr;have HSLC:=Hd hslc;have HGR:=Hd hgr;have HRT:=Hd hrt;have HOC:=Hd hOC;have HFC:=Hd hfwC;have HW:=Hd hwA;have HSCC:=Hd hsC;clear hwA hslc hgr hrt hOC hfwC hRA hRB hRC hBB hBC hTab hfA hfB hfC hwB hwC hSC hD hS hO hb hv hpu hk hsh hrv hkk hee hn htt hsB hSS hsz hsl hL h0 hq h4;go_enter Tryz.func55,Tryz.ntmps55;clear hsA;go_wp2_with fail;refine HSLC.out.mono ?_;rintro e2 w2 ⟨rfl,rfl⟩;go_wp2_with fail;refine HGR.out.mono ?_;rintro e2 w2 ⟨rfl,rfl⟩;go_wp2_with fail;refine wp_region_tail_held 5 (S:=(λw'=>Fr0 wC w')) _ kr kr kr ((Fr.refl _ wC).drew) (λhHeld=>?_);simp only[List.take_succ_cons,List.take_zero,List.drop_succ_cons,List.drop_zero,List.length_cons,List.length_nil,Nat.zero_add,Nat.reduceAdd];refine tk 0 (.pointer (some ⟨w.heap.size,0,none⟩)) rfl ?_ ?_
 ·intro w' hc;clear hc;go_simp
 simp only[Act.put,zA,zB,zC];refine tk 1 (.pointer (some ⟨w.heap.size,0,none⟩)) rfl ?_ ?_
 ·intro w' hc;clear hc;go_simp
 simp only[Act.put,zA,zB,zC];refine tk 2 (.pointer (some ⟨w.heap.size,0,none⟩)) rfl ?_ ?_
 ·intro w' hc;clear hc;go_simp
 simp only[Act.put,zA,zB,zC];refine tk 3 (.agg #[.int .u8 k,.int .u8 e,.int .u64 n,.string tt,.slice na nl nc,.slice ka nk kc,.slice sa nss sc]) rfl ?_ ?_
 ·intro w' hc;have a0:=keep_fr hc v0 (λx=>x);have a1:=keep_fr hc v1 (λx=>x);have a2:=keep_fr hc v2 (λx=>x);have a3:=keep_fr hc v3 (λx=>x);have a4:=keep_fr hc v4 (λx=>x);have a5:=keep_fr hc v5 (λx=>x);have a6:=keep_fr hc v6 (λx=>x);clear hc;go_simp
 simp only[Act.put,zA,zB,zC];refine rd 4 rfl λK hK=>?_;go_simp;refine (HRT.out _ ((Fr.refl _ wC).drew)).mono ?_;rintro e7 w7 ⟨cs7,rfl,hv7,hf7⟩;obtain⟨na6,nl6,nc6,ka6,nk6,kc6,sa6,ns6,sc6,rfl⟩:=hv7.lit;have hS7:Fr0 wC w7:=((Fr.refl _ wC).drew).trans hf7;refine hK.out _ _ hS7 (λ_=>?_);try simp only[Act.put,zA,zB,zC]
 have hO7:=(hS7.block O (by omega) (λx=>x)).trans HOC.out;have qx:=λj u (hu:(#[.int .u8 0,.int .u8 0,.int .u64 0,.string ⟨#[]⟩,.slice none 0 0,.slice none 0 0,.slice none 0 0]:Array Value)[j]?=some u)=>(cell_of hO7 j).trans hu;have q0:=qx 0 _ rfl;have q1:=qx 1 _ rfl;have q2:=qx 2 _ rfl;have q3:=qx 3 _ rfl;have q4:=qx 4 _ rfl;have q5:=qx 5 _ rfl;have q6:=qx 6 _ rfl;have f0:=frozen_of hO7 0;have f1:=frozen_of hO7 1;have f2:=frozen_of hO7 2;have f3:=frozen_of hO7 3;have f4:=frozen_of hO7 4;have f5:=frozen_of hO7 5;have f6:=frozen_of hO7 6;have HO7:=Hd hO7;have HV7:=Hd hv7;have HS7:=Hd hS7;have HF7:=Hd hf7;clear hO7 qx hv7 hf7 hS7 v0 v1 v2 v3 v4 v5 v6;refine wpAnyH_done kr ?_ _;show wpTail _ _ _ _ _ _ _;refine wpTail_step (by rfl) (λK hK=>?_);go_simp;refine hK _ _ ?_;refine wpTail_nil ?_;clear hK K;go_wp2_with fail;go_end0
 have h7:=fr_set7 w7 O (.int .u8 rv.kind) (.int .u8 rv.elem) (.int .u64 rv.num) (.string (strOf rv.text)) (.slice na6 nl6 nc6) (.slice ka6 nk6 kc6) (.slice sa6 ns6 sc6);have hcs:=heap_setCell_same (heap_setCell_same (heap_setCell_same (heap_setCell_same (heap_setCell_same (heap_setCell_same (heap_setCell_same HO7.out 0 (.int .u8 rv.kind)) 1 (.int .u8 rv.elem)) 2 (.int .u64 rv.num)) 3 (.string (strOf rv.text))) 4 (.slice na6 nl6 nc6)) 5 (.slice ka6 nk6 kc6)) 6 (.slice sa6 ns6 sc6);rw[set7_all] at hcs;refine⟨rfl,((HFC.out.trans HS7.out).mono (S':=λb=>b=O) (λ_ _ x=>x.elim)).trans h7,[.int .u8 rv.kind,.int .u8 rv.elem,.int .u64 rv.num,.string (strOf rv.text),.slice na6 nl6 nc6,.slice ka6 nk6 kc6,.slice sa6 ns6 sc6],hcs,?_⟩;refine HV7.out.fr h7 (λb hb hbb=>?_);have h1:wC.heap.size<=b:=by
  rcases hbb with h|h
  ·exact h.elim
  ·exact h
 have h2:=HSCC.out;exact⟨by omega,λe=>by omega⟩
theorem enterRead1(caps:Array Value)(w:World):(callFunc 55 caps).run Tryz.prog w=.ok (.enter 55 caps) w:=by kernel_rfl
theorem results_cell_tmp7{P:Program}{fn:Func}{p q:Tmp}{ty:TypeId}(h:fn.results=#[.cell p ty,.tmp q])(tmps:Array Value)(w:World)(g:Nat)(t:TypeId)(c:Array Value)(d:TypeDesc)(x0 x1 x2 x3 x4 x5 x6:Value)
  (hp:tmps.getD p undef=.pointer (some ⟨g,0,none⟩)) (hc:c.size=7) (hg:w.heap[g]?=some (.cells c t)) (hu:P.underlying ty=some d) (hd:(match d with|.struct _|.array _ _=>true|_=>false)=true) (hi:(P.info? ty).map (·.size)=some 7):
  (results fn tmps).run P (((((((w.setCell ⟨g,0,none⟩ x0).setCell ⟨g,1,none⟩ x1).setCell ⟨g,2,none⟩ x2).setCell ⟨g,3,none⟩ x3).setCell ⟨g,4,none⟩ x4).setCell ⟨g,5,none⟩ x5).setCell ⟨g,6,none⟩ x6)=.ok (.tuple #[.agg #[x0,x1,x2,x3,x4,x5,x6],tmps.getD q undef]) (((((((w.setCell ⟨g,0,none⟩ x0).setCell ⟨g,1,none⟩ x1).setCell ⟨g,2,none⟩ x2).setCell ⟨g,3,none⟩ x3).setCell ⟨g,4,none⟩ x4).setCell ⟨g,5,none⟩ x5).setCell ⟨g,6,none⟩ x6):=by
 obtain⟨a0,a1,a2,a3,a4,a5,a6,rfl⟩:=arr7 hc;have h7:=heap_setCell_same (heap_setCell_same (heap_setCell_same (heap_setCell_same (heap_setCell_same (heap_setCell_same (heap_setCell_same hg 0 x0) 1 x1) 2 x2) 3 x3) 4 x4) 5 x5) 6 x6;rw[set7_all] at h7;exact results_cell_tmp h tmps _ ⟨g,0,none⟩ _ hp (run_loadVar_row _ g t ty _ (0,0) d h7 hu hd hi)
theorem Read_of(v:Val)(hRT:RdT v)(al:Bool)(l:List UInt8)(sv:Val)(hb:Buf al l v)(hpu:Pure v)(hk:v.kind=15)(hsh:ShOk v sv)(w:World)(cs:List Value)(hv:VIs (λ_=>True) w cs sv):
  Calls Tryz.prog 29 #[.string (strOf l),.agg cs.toArray] w λe w'=>∃cs',e=.returned (.tuple #[.agg cs'.toArray,.bool true])/\VIs (λb=>w.heap.size<=b) w' cs' (read0 v)/\Fr0 w w':=by
 obtain⟨w1,hw1⟩:=exA (((w.alloc (.cells #[.string (strOf l)] 9)).alloc (.cells cs.toArray 46)).alloc (.cells #[.int .u8 0,.int .u8 0,.int .u64 0,.string ⟨#[]⟩,.slice none 0 0,.slice none 0 0,.slice none 0 0] 46));have hf1:Fr0 w w1:=by rw[hw1];exact (((Fr.refl _ w).alloc _).alloc _).alloc _
 have hs1:w1.heap.size=w.heap.size+3:=by rw[hw1];simp
 have hD1:w1.heap[w.heap.size]?=some (.cells #[.string (strOf l)] 9):=by
  rw[hw1];simp only[heap_alloc_get,size_alloc];rw[if_neg (by omega),if_neg (by omega),if_pos trivial]
 have hS1:w1.heap[w.heap.size+1]?=some (.cells cs.toArray 46):=by
  rw[hw1];simp only[heap_alloc_get,size_alloc];rw[if_neg (by omega),if_pos trivial]
 have hO1:w1.heap[w.heap.size+1+1]?=some (.cells #[.int .u8 0,.int .u8 0,.int .u64 0,.string ⟨#[]⟩,.slice none 0 0,.slice none 0 0,.slice none 0 0] 46):=by
  rw[hw1];simp only[heap_alloc_get,size_alloc];rw[if_pos trivial]
 have hal:Fr0 w1 (w1.alloc thrownVar):=(Fr.refl _ w1).alloc _;have h1:=Read1_of v hRT al l sv hb hpu hk hsh (w1.alloc thrownVar) w.heap.size (w.heap.size+1) (w.heap.size+1+1) cs (by rw[heap_alloc_old _ _ _ (by omega)];exact hD1) (by rw[heap_alloc_old _ _ _ (by omega)];exact hS1) (by rw[heap_alloc_old _ _ _ (by omega)];exact hO1) ((hv.fr0 hf1 (λ_ _ h=>h)).fr0 hal (λ_ _ h=>h));have hth:=thrown_ok (S:=λx=>x=w.heap.size+1+1) (R:=λw'=>Fr (λx=>x=w.heap.size+1+1) (w1.alloc thrownVar) w'/\∃cs',w'.heap[w.heap.size+1+1]?=some (.cells cs'.toArray 46)/\VIs (λb=>(w1.alloc thrownVar).heap.size<=b) w' cs' (read0 v)) (λw=>enterRead1 _ w) h1 (λ_ h=>h.1) (by omega);obtain⟨SS,hSS⟩:=exA (strOf l);obtain⟨rv,hrv⟩:=exA (read0 v);rw[<-hrv] at hth ⊢;rw[<-hSS] at hw1 ⊢;obtain⟨na,nl,nc,ka,nk,kc,sa,nss,sc,rfl⟩:=hv.lit;obtain⟨k,hkk⟩:=exA (sv.kind);obtain⟨e,hee⟩:=exA (sv.elem);obtain⟨n,hn⟩:=exA (sv.num);obtain⟨tt,htt⟩:=exA (strOf sv.text);rw[<-hkk,<-hee,<-hn,<-htt] at hw1 ⊢;rw[hw1] at hth;have HTH:=Hd hth;have HW1:=Hd hw1;have HF1:=Hd hf1;have HS1:=Hd hs1;clear hth hw1 hf1 hs1 hD1 hS1 hO1 hal h1 hv hrv hSS hkk hee hn htt hb hpu hk hsh;have hmf:∀(fn:Fn) (first cap:Array Value) (w:World),(Instr.makeFunc fn first cap).run Tryz.prog w=.ok (.func fn first cap) w:=λ_ _ _ _=>rfl;go_enter Tryz.func29,Tryz.ntmps29;go_wp2_with fail;refine HTH.out.mono ?_;rintro e2 w2 ⟨rfl,w3,⟨hf3,cs',hb3,hv3⟩,hf4⟩;rw[<-HW1.out] at hf3 hf4 hv3;have hb4:=(hf4.block (w.heap.size+1+1) (lt_of_block hb3) (by have:=HS1.out;omega)).trans hb3;obtain⟨na6,nl6,nc6,ka6,nk6,kc6,sa6,ns6,sc6,rfl⟩:=hv3.lit;have hv4:VIs (λb=>w.heap.size+4<=b) w2 _ rv:=hv3.fr hf4 (λb hb hbb=>⟨by rw[size_alloc] at hbb;have:=HS1.out;omega,λe=>by rw[size_alloc] at hbb;omega⟩);have hf5:Fr0 w w2:=by
  have h0:Fr0 w (w1.alloc thrownVar):=HF1.out.trans ((Fr.refl _ w1).alloc _);have hs:=HS1.out;exact (h0.trans2 hf3 (λq hq hm=>by omega)).trans2 hf4 (λq hq hm=>by omega)
 have qx:=λj u (hu:(#[.int .u8 rv.kind,.int .u8 rv.elem,.int .u64 rv.num,.string (strOf rv.text),.slice na6 nl6 nc6,.slice ka6 nk6 kc6,.slice sa6 ns6 sc6]:Array Value)[j]?=some u)=>(cell_of hb4 j).trans hu;have q0:=qx 0 _ rfl;have q1:=qx 1 _ rfl;have q2:=qx 2 _ rfl;have q3:=qx 3 _ rfl;have q4:=qx 4 _ rfl;have q5:=qx 5 _ rfl;have q6:=qx 6 _ rfl;have f0:=frozen_of hb4 0;have f1:=frozen_of hb4 1;have f2:=frozen_of hb4 2;have f3:=frozen_of hb4 3;have f4:=frozen_of hb4 4;have f5:=frozen_of hb4 5;have f6:=frozen_of hb4 6;have HF5:=Hd hf5;have HB4:=Hd hb4;have HV4:=Hd hv4;clear hf3 hb3 hf4 hb4 hf5 hv3 hv4 qx;go_wp2_with fail;refine bodyPost_ret (results_cell_tmp7 (P:=Tryz.prog) rfl _ _ (w.heap.size+1+1) 46 _ _ _ _ _ _ _ _ _ rfl rfl HB4.out Tryz.underlying46 rfl infoIVs) rfl ?_;have h7:=fr_set7 w2 (w.heap.size+1+1) (.int .u8 rv.kind) (.int .u8 rv.elem) (.int .u64 rv.num) (.string (strOf rv.text)) (.slice na6 nl6 nc6) (.slice ka6 nk6 kc6) (.slice sa6 ns6 sc6);exact⟨[.int .u8 rv.kind,.int .u8 rv.elem,.int .u64 rv.num,.string (strOf rv.text),.slice na6 nl6 nc6,.slice ka6 nk6 kc6,.slice sa6 ns6 sc6],rfl,HV4.out.fr h7 (λb hb hbb=>⟨by omega,λe=>by omega⟩),HF5.out.trans2 h7 (λb hb e=>by omega)⟩
end Go.Proofs.YtcfblkkpclfmaaaGreat
