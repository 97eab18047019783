/- Part 10 of the proof of FnEvolved; no condition. -/
import Derived.Test.YtcfblkkpclfmaaaGreatEb09
import Derived.IntWalk
import Derived.Deep.CutRange
import Derived.Deep.CutBlock
set_option linter.unusedVariables false
set_option linter.unusedSimpArgs false
set_option maxRecDepth 100000
set_option maxHeartbeats 16000000
namespace Go.Proofs.YtcfblkkpclfmaaaGreat
open Go.RowKit
theorem BM.refer0(m:BM):m.refer 0=some ((m.prep 4 0).put (leB 4 ((m.prep 4 0).bytes.length+4))):=by
 unfold BM.refer;rw[if_pos (Nat.zero_le _)];rfl
def VtR (b:Nat)(F:List Nat)(w:World)(st:BSt)(l:List Nat)(o i:Nat)(wr:World):Prop :=
 ∃F',BRep wr b F' { st with m:=vtPut o (l.drop i) st.vt1,vtab:=some l }/\Adv w wr F F'
theorem WriteVtable_calls(b:Nat)(F:List Nat)(st:BSt)(l0:List Nat)(w:World)(h:BRep w b F st)(hi:BInv st)(hl0:st.vtab=some l0)(hu:st.m.bytes.length<=1700000):
  Calls Tryz.prog 113 #[.pointer (some ⟨b,0,none⟩)] w (BRes w b F (some (.int .u32 st.vt1.bytes.length,st.writeVt))):=by
 have HP:=Hd (h.liftO (λY r c hb=>PrependSOffsetT_calls b Y r st.m c 0 w hb (by omega) (by omega) (by omega)));have e0:(st.m.refer ((0:Int)%4294967296).toNat).map (λm'=>((.tuple #[]:Value),{ st with m:=m' }))=some (.tuple #[],{ st with m:=st.vt1 }):=by
  rw[show ((0:Int)%4294967296).toNat=0 from rfl,BM.refer0];rfl
 rw[e0] at HP;clear e0;have hle:=st.m.prep_le 4 0 (by unfold algn;omega);obtain⟨o,ho⟩:=exA (st.vt1.bytes.length);have hol:o=4+(st.m.prep 4 0).bytes.length:=by
  rw[ho];show (leB 4 _++_).length=_;rw[List.length_append,leB_length]
 have hom:st.m.bytes.length+4<=o:=by
  rw[hol,st.m.prep_len 4 0 (by unfold algn;omega)];omega
 have ho2:o<=1700010:=by omega
 rw[<-ho];have HO:=Hd ho;have HI:=Hd hi;have HOM:=Hd hom;have ho4:4<=o:=by omega
 clear h hi hu hle hol hom ho;go_enter Tryz.func113,Tryz.ntmps113;go_wp2_with fail;refine HP.out.mono ?_;rintro e w1 ⟨rfl,F1,hb1,ha1⟩;have HB:=Hd (Offset_b b F1 _ w1 hb1);have hb1':=λn=>hb1.drewN n;have HB1:=Hd hb1';have HA1:=Hd ha1;clear hb1 hb1' ha1;go_wp2_with fail;refine HB.out.mono ?_;rintro e w2 ⟨rfl,n,rfl⟩;have hb2:=HB1.out n;have ha2:=HA1.out.drewN n;clear HB HB1 HA1;generalize w1.drewN n=w1 at *;obtain⟨V,cap,c2,hlc,hVb,cV,hcut⟩:=hb2.vtabAt (l:=l0) hl0;obtain⟨n0,hn0⟩:=exA (l0.length);rw[<-hn0] at c2 hlc;have hn1:n0<=1000:=by rw[hn0];exact (HI.out.vtab l0 hl0).1
 have g2:=hb2.frozen 2;have HN:=Hd hn0;have HCV:=Hd cV;have HCUT:=Hd hcut;have HB2:=Hd hb2;have HA2:=Hd ha2;have HL0:=Hd hl0;clear hn0 cV hcut hb2 ha2 hl0;rw[show ({ st with m:=st.vt1 }:BSt).m.bytes.length=o from HO.out.symm];go_upto_block 0 with fail
 go_cut [5] from 29 to 42 (λs5 wc=>∃k:Nat,k<=n0/\s5=.int .i64 ((k:Int)-1)/\RowKit.Hid (trimZ l0=l0.take k)/\wc=w1)
 case first =>
  go_wp2_with fail;go_loop [5] (λv=>∃q:Int,-1<=q/\q<n0/\v=.int .i64 q/\RowKit.Hid (trimZ l0=trimZ (l0.take (q+1).toNat))) (λv=>(intOf v+1).toNat)
  case atStart=>exact⟨(n0:Int)-1,by omega,by omega,rfl,Hd (by rw[show ((n0:Int)-1+1).toNat=n0 by omega,HN.out,List.take_length])⟩
  case round =>
   obtain⟨q,hq0,hq1,rfl,hT⟩:=hrel;by_cases hneg:q<0
   ·obtain rfl:q=-1:=(by omega);go_wp2_with fail;go_meet
    exact⟨0,Nat.zero_le _,rfl,Hd (hT.out.trans rfl),rfl⟩
   ·obtain⟨j,rfl⟩:∃j:Nat,q=j:=⟨q.toNat,by omega⟩;have hj:j<l0.length:=(by have:=HN.out;omega);by_cases hz:l0[j]=0
    ·have cj:w1.cell? ⟨V,j,none⟩=some (.int .u32 0):=(by rw[HCV.out j hj,hz];rfl);have HT:=Hd (hT.out.trans (trimZ_take_zero l0 j hj hz));clear hz;go_wp2_with fail;go_round
     case rel=>exact⟨(j:Int)-1,by omega,by omega,rfl,Hd (by rw[show ((j:Int)-1+1).toNat=j by omega];exact HT.out)⟩
     case measure=>simp[intOf]
    ·obtain⟨x,hx⟩:=exA (l0[j]);have cj:w1.cell? ⟨V,j,none⟩=some (.int .u32 x):=(by rw[HCV.out j hj,hx]);have HT:=Hd (hT.out.trans (trimZ_take_stop l0 j hj hz));rw[<-hx] at hz;have hx1:((x:Int)==0)=false:=(by rw[beq_eq_false_iff_ne];omega);have hx2:(x==0)=false:=(by rw[beq_eq_false_iff_ne];omega);clear hx hz;go_wp2_with fail;go_meet
     exact⟨j+1,by omega,by go_num,HT,rfl⟩
 case rest =>
  obtain⟨k,hk,rfl,hTR,rfl⟩:=hcut;have hkc:k<=cap:=by omega
  have hke:(k:Int)-1+1=(k:Int):=by omega
  have hsl:=λw'=>run_slice_to (P:=Tryz.prog) Tryz.underlying100 sizeU32o V 0 n0 cap .i64 k k rfl hkc w';go_upto_region 8 with fail;obtain⟨hb3,ha3⟩:=HCUT.out k (by have:=HN.out;omega);have HAD3:=Hd (HA2.out.trans ha3);generalize wc.setCell ⟨b,2,none⟩ (.slice (some ⟨V,0,none⟩) k cap)=w3 at *;have htk:l0.take k=trimZ l0:=hTR.out.symm;rw[htk] at hb3;obtain⟨l,hl⟩:=exA (trimZ l0);rw[<-hl] at hb3 htk;have hlk:l.length=k:=by rw[<-htk,List.length_take];have:=HN.out;omega
  have HL:=Hd hl;obtain⟨G,capG,c4,cG,hownG,hGl,hGb,hvts⟩:=hb3.vtsAt;obtain⟨V',cap',c2',hlc',hVb',cV',hcut'⟩:=hb3.vtabAt (l:=l) rfl;obtain⟨Y,L,capY,c0,hL,hLc,hL4,hM,hYb,hYF,⟨cY,hYh,hYs⟩,hover⟩:=hb3.bytesAt;dsimp only at c4 cG hownG hvts c2' hlc' cV' hcut' hL hM hover;obtain⟨nv,hnv⟩:=exA (st.vts.length);rw[<-hnv] at c4 hownG;rw[hlk] at c2' hlc';rw[<-HO.out] at hL;have hnvl:nv<=1000000:=by rw[hnv];exact HI.out.many
  have HNV:=Hd hnv;have HCG:=Hd cG;have HOWN:=Hd hownG;have HVTS:=Hd hvts;have HCV2:=Hd cV';have HCUT2:=Hd hcut';have HLL:=Hd hL;have HM:=Hd hM;have HOVER:=Hd hover;have HYH:=Hd hYh;have HYS:=Hd hYs;have HB3:=Hd hb3;have HLK:=Hd hlk;have hroom:o<=L:=by rw[hL];omega
  have hlmem:∀x∈l,x<=4000000:=by
   intro x hx;rw[<-htk] at hx;have:=(HI.out.vtab l0 HL0.out).2 x (List.mem_of_mem_take hx)
   have:=HOM.out
   omega
  have HLM:=Hd hlmem;have hk1:k<=1000:=by omega
  clear hnv cG hownG hvts cV' hcut' hL hM hover hYh hYs hb3 hlk hlmem htk hl c2 HCUT HCV HA2 HB2 HN HP hsl hke g2 hYF;go_upto_block 2 with fail
  go_cut [4,6,7,8,9,10,11,12] from 59 to 105 (λs4 s6 s7 s8 s9 s10 s11 s12 wc=>∃x:Nat,x<=4000000/\s4=.int .u32 x/\RowKit.Hid (x=(vtFind st.vt1 o l st.vts).getD 0)/\wc=w3)
  case first =>
   go_wp2_with fail;go_loop [4,6] (λv4 v=>∃q:Int,-1<=q/\q<nv/\v4=.int .u32 0/\v=.int .i64 q/\RowKit.Hid (vtFind st.vt1 o l st.vts=vtFind st.vt1 o l (st.vts.take (q+1).toNat))) (λv4 v=>(intOf v+1).toNat)
   case atStart=>exact⟨(nv:Int)-1,by omega,by omega,rfl,rfl,Hd (by rw[show ((nv:Int)-1+1).toNat=nv by omega,HNV.out,List.take_length])⟩
   case round =>
    obtain⟨q,hq0,hq1,rfl,rfl,hT⟩:=hrel;by_cases hneg:q<0
    ·obtain rfl:q=-1:=(by omega);go_wp2_with fail;go_meet
     exact⟨0,by omega,rfl,Hd (by rw[hT.out];rfl),rfl⟩
    ·obtain⟨j,rfl⟩:∃j:Nat,q=j:=⟨q.toNat,by omega⟩;have hj:j<st.vts.length:=(by have:=HNV.out;omega);obtain⟨v,hv⟩:=exA (st.vts[j]);have cGj:w3.cell? ⟨G,j,none⟩=some (.int .u32 v):=(by rw[HCG.out j hj,hv]);obtain⟨xs,hxs⟩:=st.vt1_bytes;have hvI:=HI.out.vts v (by rw[hv];exact List.getElem_mem hj);rw[<-vtLen_app hxs v hvI.1] at hvI;have hTF:=vtFind_take st.vt1 o l st.vts j hj;rw[<-hv] at hTF;obtain⟨Lv,hLv⟩:=exA (vtLen st.vt1 v);rw[<-hLv] at hvI;have hvo:v+4<=o:=(by have:=HOM.out;omega);obtain⟨p,hp⟩:=exA (L-v);have hpi:(L:Int)-(v:Int)=(p:Int):=(by omega);obtain⟨e,he⟩:=exA (p+Lv);have hei:(p:Int)+(Lv:Int)=(e:Int):=(by omega);obtain⟨p4,hp4⟩:=exA (p+4);have hp4i:(p:Int)+4=(p4:Int):=(by omega);have hLeq:=HLL.out;have hfl:(fromEnd st.vt1.bytes v).length=v:=fromEnd_length _ _ (by have:=HO.out;omega);have hm1:Mem w3 Y p (fromEnd st.vt1.bytes v):=by
      have:=HM.out.drop (st.vt1.bytes.length-v)
      rw[show st.vt1.room+(st.vt1.bytes.length-v)=p by have:=HO.out;omega] at this;exact this
     have hsl1:=λw'=>run_slice_from (P:=Tryz.prog) Tryz.underlying81 sizeU8b Y 0 L capY .i64 (p:Int) p rfl (by omega) w';rw[sOff_lt (by omega),Nat.zero_add,show L-p=v by omega] at hsl1;have HG:=Hd (GetVOffsetT_ok Y p v (capY-p) (fromEnd st.vt1.bytes v) w3 hm1 hfl (by omega));rw[show le ((fromEnd st.vt1.bytes v).take 2)=Lv from hLv.symm] at HG;have hLv2:Lv<65536:=(by rw[hLv];exact le2_lt _);obtain⟨y0,hy0⟩:=exA (sOff 0 p4 capY);have hsl2:=λw'=>run_slice_cut (P:=Tryz.prog) Tryz.underlying81 sizeU8b Y 0 L capY .i64 .i64 (p4:Int) (e:Int) p4 e rfl rfl (by omega) (by omega) w';rw[<-hy0,show e-p4=Lv-4 by omega] at hsl2;have hm2:Mem w3 Y y0 (vtBytes st.vt1 v):=by
      unfold vtBytes;rw[<-hLv];by_cases hc:p4<capY
      ·have:=(hm1.take Lv).drop 4
       rw[hy0,sOff_lt hc,Nat.zero_add,hp4];exact this
      ·intro i x hx;have:i<((fromEnd st.vt1.bytes v).take Lv |>.drop 4).length:=(List.getElem?_eq_some_iff.1 hx).1
       rw[List.length_drop,List.length_take,hfl] at this;omega
     have hd2:(vtBytes st.vt1 v).length=Lv-4:=(by unfold vtBytes;rw[<-hLv,List.length_drop,List.length_take,hfl];omega);have HV:=Hd (vtableEqual_calls V' cap' Y y0 (Lv-4) (capY-p4) o l (vtBytes st.vt1 v) w3 HCV2.out HLM.out (by rw[HLK.out];omega) (by omega) hm2 hd2 (by omega));rw[HLK.out] at HV;have hB:vtSame o l (vtBytes st.vt1 v)=true\/vtSame o l (vtBytes st.vt1 v)=false:=by cases vtSame o l (vtBytes st.vt1 v)<;>simp
     have hv4:v<=4000000:=(by omega);have hpl:p<=4000000:=(by omega);have hpl4:p4<=4000010:=(by omega);have hel:e<=4000010:=(by omega);clear hv hxs hLv hp he hp4 hLeq hfl hm1 hy0 hm2 hd2 hvI;rcases hB with hB|hB
     ·rw[hB] at HV hTF;rw[if_pos rfl] at hTF;have HT:=Hd (hT.out.trans hTF);clear hB hTF hT;go_wp2_with fail;refine HG.out.mono ?_;rintro e' w' ⟨rfl,rfl⟩;go_wp2_with fail;refine HV.out.mono ?_;rintro e' w' ⟨rfl,rfl⟩;go_wp2_with fail;go_meet
      exact⟨v,hv4,rfl,Hd (by rw[HT.out];rfl),rfl⟩
     ·rw[hB] at HV hTF;have HT:=Hd (hT.out.trans hTF);clear hB hTF hT;go_wp2_with fail;refine HG.out.mono ?_;rintro e' w' ⟨rfl,rfl⟩;go_wp2_with fail;refine HV.out.mono ?_;rintro e' w' ⟨rfl,rfl⟩;go_wp2_with fail;go_round
      case rel=>exact⟨(j:Int)-1,by omega,by omega,rfl,rfl,Hd (by rw[show ((j:Int)-1+1).toNat=j by omega,HT.out];rfl)⟩
      case measure=>simp[intOf]
  case rest =>
   obtain⟨x,hx4,rfl,hX,rfl⟩:=hcut;have hvtab:st.vtab.getD []=l0:=(by rw[HL0.out];rfl);cases hfind:vtFind st.vt1 o l st.vts with
   | some v =>
    rw[hfind] at hX;obtain rfl:x=v:=hX.out;have hwr:st.writeVt={ st with m:=st.vt1.over o (leI 4 ((x:Int)-o)),vtab:=some [] }:=by
     unfold BSt.writeVt;rw[hvtab,<-HL.out,<-HO.out,hfind,HL0.out];rfl
    have HWR:=Hd hwr;have hx1:4<=x:=by
     have hm:=List.mem_of_find?_eq_some hfind;have:=HI.out.vts x (by simpa using hm)
     omega
    have hq1:((x:Int)==0)=false:=(by rw[beq_eq_false_iff_ne];omega);have hq2:(x==0)=false:=(by rw[beq_eq_false_iff_ne];omega);obtain⟨rm,hrm⟩:=exA (st.vt1.room);have hrmi:(L:Int)-(o:Int)=(rm:Int):=(by have:=HLL.out;omega);have HRM:=Hd hrm;have hh:=HB3.out.head5;dsimp only at hh;rw[<-hrm] at hh;obtain⟨hb4,ha4⟩:=hh;have g5:=HB3.out.frozen 5;have c5:wc.cell? ⟨b,5,none⟩=some (.int .u32 rm):=(by rw[hrm];exact HB3.out.cells.2.2.2.1);have HB4:=Hd hb4;have HA4:=Hd (HAD3.out.trans ha4);clear hwr hfind hX hx1 hrm hb4 ha4 hvtab HCG HOWN HVTS;go_upto_region 36 with fail;generalize wc.setCell ⟨b,5,none⟩ (.int .u32 rm)=w4 at *;obtain⟨Y2,L2,capY2,d0,hL2,hLc2,hL42,hM2,hYb2,hYF2,⟨cY2,hYh2,hYs2⟩,hover2⟩:=HB4.out.bytesAt;dsimp only at hL2 hover2;have d5:w4.cell? ⟨b,5,none⟩=some (.int .u32 rm):=(by rw[HRM.out];exact HB4.out.cells.2.2.2.1);have hLo:L2=rm+o:=(by rw[hL2,HRM.out,HO.out]);have hsl1:=λw'=>run_slice_from (P:=Tryz.prog) Tryz.underlying81 sizeU8b Y2 0 L2 capY2 .u32 (rm:Int) rm rfl (by omega) w';rw[sOff_lt (by omega),Nat.zero_add,show L2-rm=o by omega] at hsl1;have hsub:IntKind.i32.wrap ((x:Int)-(o:Int))=(x:Int)-(o:Int):=IntWalk.i32_in _ ⟨by omega,by omega⟩;have HW:=Hd (λnq=>WriteSOffsetT_ok Y2 rm o (capY2-rm) ((x:Int)-o) cY2 5 (w4.drewN nq) hYh2 (by rw[hYs2];omega) (by omega));have HOV:=Hd (λnq=>hover2 nq o (leI 4 ((x:Int)-o)) (by rw[leI_length];omega) (by rw[<-HO.out];exact Nat.le_refl _));have HL2:=Hd hLo;clear hM2 hYh2 hover2 hLo hL2 hYF2 hYs2 c0 c4 c2' c5 g5 HB3 HOVER hrmi;refine lst _ ?_;simp only[List.dropLast];repeat (go_big_quiet_step (fail))
    refine wpQuiet_nil ?_;intro nq;refine wpOp_step rfl (λK hK=>?_);go_simp;refine (HW.out nq).mono ?_;rintro e w' ⟨rfl,rfl⟩;refine hK _ _ ?_;obtain⟨hb5,ha5⟩:=HOV.out nq;rw[show L2-o=rm by have:=HL2.out;omega] at hb5 ha5;generalize (w4.drewN nq).setCells Y2 rm (cellsOf (leI 4 ((x:Int)-o)))=w5 at *;obtain⟨V5,cap5,k2,hlc5,hVb5,cV5,hcut5⟩:=hb5.vtabAt (l:=l) rfl;rw[HLK.out] at k2;have q2:=hb5.frozen 2;obtain⟨hb6,ha6⟩:=hcut5 0 (Nat.zero_le _);have HB6:=Hd hb6;have HA6:=Hd ((HA4.out.trans ha5).trans ha6);clear cV5 hcut5 hb5 ha5 hb6 ha6 hsl1 hsub hlc5 HLK;have hsl0:=λw'=>run_slice_to (P:=Tryz.prog) Tryz.underlying100 sizeU32o V5 0 k cap5 .i64 0 0 rfl (Nat.zero_le _) w';go_wp2_with fail;go_ret;exact⟨rfl,F1,by rw[HWR.out];exact HB6.out,HA6.out⟩
   | none =>
    rw[hfind] at hX;obtain rfl:x=0:=hX.out;rw[show ((0:Nat):Int)=(0:Int) from rfl];obtain⟨m4,hm4⟩:=exA (st.vt4 l);have hwr:st.writeVt={ st with m:=m4.over o (leI 4 ((m4.bytes.length:Int)-o)),vtab:=some [],vts:=st.vts++[m4.bytes.length] }:=by
     unfold BSt.writeVt;rw[hvtab,<-HL.out,<-HO.out,hfind,HL0.out,hm4];rfl
    have HWR:=Hd hwr;have HM4:=Hd hm4;have hoe:st.oend<=o:=(by have:=HI.out.oend;have:=HOM.out;omega);obtain⟨s1,hs1⟩:=exA (o-st.oend);have hs1i:(o:Int)-(st.oend:Int)=(s1:Int):=(by omega);have HS1:=Hd hs1i;have hlmo:∀x∈l,x<=o:=by
     intro x hx;rw[<-hTR.out.symm.trans HL.out.symm] at hx;have:=(HI.out.vtab l0 HL0.out).2 x (List.mem_of_mem_take hx)
     have:=HOM.out
     omega
    have HLMO:=Hd hlmo;clear hwr hfind hX hvtab HCG HOWN HVTS HM HOVER hlmo hm4 hs1 hs1i c0 c4;have c2w:wc.cell? ⟨b,2,none⟩=some (.slice (some ⟨V',0,none⟩) k cap'):=c2';go_upto_block 4 with fail
    go_wp2_with fail;go_loopw [13] (λv wr=>∃q:Int,-1<=q/\q<k/\v=.int .i64 q/\VtR b F w st l o (q+1).toNat wr) (λv wr=>(intOf v+1).toNat)
    case atStart=>exact⟨(k:Int)-1,by omega,by omega,rfl,F1,by rw[show ((k:Int)-1+1).toNat=k by omega,List.drop_of_length_le (by rw[HLK.out];exact Nat.le_refl _)];exact HB3.out,HAD3.out⟩
    case round =>
     obtain⟨q,hq0,hq1,rfl,hR⟩:=hrel;obtain⟨F2,hb4,ha4⟩:=hR;obtain⟨V4,cap4,k2,hlc4,hVb4,cV4,hcut4⟩:=hb4.vtabAt (l:=l) rfl;rw[HLK.out] at k2 hlc4;have hpl:=vtPut_len o (l.drop (q+1).toNat) st.vt1;rw[<-HO.out] at hpl;have hdl:(l.drop (q+1).toNat).length<=k:=(by rw[List.length_drop,HLK.out];omega);by_cases hneg:q<0
     ·obtain rfl:q=-1:=(by omega);have hb5:BRep wr b F2 { st with m:=vtPut o l st.vt1,vtab:=some l }:=hb4;have hpl5:(vtPut o l st.vt1).bytes.length<=o+4*k/\o<=(vtPut o l st.vt1).bytes.length:=by
       have:=vtPut_len o l st.vt1
       rw[<-HO.out,HLK.out] at this;exact this
      have hs1i:=HS1.out;have c3:wr.cell? ⟨b,3,none⟩=some (.int .u32 st.oend):=hb5.cells.2.2.1;have HC5:=Hd (λx:Int=>hb5.lift (v:=.tuple #[]) (m':=((vtPut o l st.vt1).prep 2 0).put (leI 2 x)) (λY r c hb=>PrependVOffsetT_calls b Y r _ c x wr hb (by show (vtPut o l st.vt1).bytes.length<=_;omega)));have HA5:=Hd ha4;have hs14:s1<=4000000:=(by omega);clear cV4 hcut4 hb4 ha4 hb5 hpl hdl;obtain⟨kk,hkk⟩:=exA ((k+2)*2);have hkki:((k:Int)+2)*2=(kk:Int):=(by omega);have hkkl:kk<=2004:=(by omega);have HKK:=Hd hkk;clear hkk;go_wp2_with fail;refine (HC5.out _).mono ?_;rintro e w6 ⟨rfl,F3,hb6,ha6⟩;have hle1:leI 2 (IntKind.u16.wrap (s1:Int))=leI 2 ((o:Int)-st.oend):=by
       rw[HS1.out];exact leI_congr 2 (wrap_emod .u16 _)
      rw[hle1] at hb6;obtain⟨m5,hm5⟩:=exA (((vtPut o l st.vt1).prep 2 0).put (leI 2 ((o:Int)-st.oend)));rw[<-hm5] at hb6;have hm5l:m5.bytes.length<=o+4*k+4/\o<=m5.bytes.length:=by
       have:=BM.step2_len (vtPut o l st.vt1) (leI 2 ((o:Int)-st.oend)) (leI_length _ _)
       rw[<-hm5] at this;omega
      obtain⟨V6,cap6,k6,hlc6,hVb6,cV6,hcut6⟩:=hb6.vtabAt (l:=l) rfl;rw[HLK.out] at k6;have HC6:=Hd (λx:Int=>hb6.lift (v:=.tuple #[]) (m':=(m5.prep 2 0).put (leI 2 x)) (λY r c hb=>PrependVOffsetT_calls b Y r _ c x w6 hb (by show m5.bytes.length<=_;omega)));have HA6:=Hd (HA5.out.trans ha6);have HM5:=Hd hm5;clear hle1 hm5 hb6 ha6 hlc6 cV6 hcut6 HC5 HA5 k2 c3;go_wp2_with fail;refine (HC6.out _).mono ?_;rintro e w7 ⟨rfl,F4,hb7,ha7⟩;have hle2:leI 2 (kk:Int)=leI 2 (((l.length+2)*2:Nat):Int):=by
       rw[HLK.out,<-HKK.out]
      rw[hle2] at hb7;have hm4:(m5.prep 2 0).put (leI 2 (((l.length+2)*2:Nat):Int))=m4:=by
       rw[HM4.out,HM5.out];unfold BSt.vt4;rw[<-HO.out]
      rw[hm4] at hb7;obtain⟨len,hlen⟩:=exA (m4.bytes.length);have hlo:len<=o+4*k+8/\o<=len:=by
       have:=BM.step2_len m5 (leI 2 (((l.length+2)*2:Nat):Int)) (leI_length _ _)
       rw[hm4,<-hlen] at this;omega
      obtain⟨Y7,L7,capY7,d0,hL7,hLc7,hL47,hM7,hYb7,hYF7,⟨cY7,hYh7,hYs7⟩,hover7⟩:=hb7.bytesAt;dsimp only at hL7 hover7;rw[<-hlen] at hL7 hover7;obtain⟨p0,hp0⟩:=exA (L7-o);have hp0i:(L7:Int)-(o:Int)=(p0:Int):=(by omega);have hp04:p0<=4000000:=(by omega);have hsl1:=λw'=>run_slice_from (P:=Tryz.prog) Tryz.underlying81 sizeU8b Y7 0 L7 capY7 .i32 (p0:Int) p0 rfl (by omega) w';rw[sOff_lt (by omega),Nat.zero_add,show L7-p0=o by omega] at hsl1;have hsub:IntKind.i32.wrap ((len:Int)-(o:Int))=(len:Int)-(o:Int):=IntWalk.i32_in _ ⟨by omega,by omega⟩;have HOF:=Hd (λnq=>Offset_b b F4 _ (w7.drewN nq) (hb7.drewN nq));dsimp only at HOF;rw[<-hlen] at HOF;have HW:=Hd (λnq=>WriteSOffsetT_ok Y7 p0 o (capY7-p0) ((len:Int)-o) cY7 5 (w7.drewN nq) hYh7 (by rw[hYs7];omega) (by omega));have HOV:=Hd (λnq=>hover7 nq o (leI 4 ((len:Int)-o)) (by rw[leI_length];omega) (by omega));have HL7:=Hd hp0;have HA7:=Hd (HA6.out.trans ha7);have HLEN:=Hd hlen;clear hle2 hm4 hb7 ha7 hM7 hYh7 hYs7 hover7 hYF7 hL7 hlen hp0 k6 HC6 HA6 HM5;go_upto_region 32 with fail;refine lst _ ?_;simp only[List.dropLast];repeat (go_big_quiet_step ((go_at_call 44;exact quiet_drew (HOF.out _))))
      refine wpQuiet_nil ?_;intro nq;refine wpOp_step rfl (λK hK=>?_);go_simp;refine (HW.out nq).mono ?_;rintro e w' ⟨rfl,rfl⟩;refine hK _ _ ?_;obtain⟨hb8,ha8⟩:=HOV.out nq;rw[show L7-o=p0 from HL7.out.symm] at hb8 ha8;generalize (w7.drewN nq).setCells Y7 p0 (cellsOf (leI 4 ((len:Int)-o)))=w8 at *;have hov:(m4.over o (leI 4 ((len:Int)-o))).bytes.length=len:=(by rw[BM.over_len _ _ _ (by rw[leI_length];omega) (by rw[<-HLEN.out];omega),<-HLEN.out]);have hof:=λnq=>Offset_b b F4 _ (w8.drewN nq) (hb8.drewN nq);dsimp only at hof;rw[hov] at hof;obtain⟨G8,cap8,e4,_,_,hG8l,hGb8,_⟩:=hb8.vtsAt;dsimp only at e4;have q4:=hb8.frozen 4;have HOF8:=Hd hof;have HB8:=Hd hb8;have HA8:=Hd (HA7.out.trans ha8);clear hov hof hb8 ha8 HOF hsl1 hsub HOV HW HA7 d0;go_upto_region 33 with fail;refine wp_region_tail_held 9 (S:=λw'=>w'.cell? ⟨b,4,none⟩=some (.slice (some ⟨G8,0,none⟩) st.vts.length cap8)) _ kr kr kr e4 (λhHeld=>?_);simp only[zD,zE,zF,zG,List.length_cons,List.length_nil,Nat.zero_add,Nat.reduceAdd];refine tk 0 (.pointer (some ⟨b,0,none⟩)) rfl ?_ ?_
      ·intro w' hc;have hc':w'.cell? ⟨b,4,none⟩=some (.slice (some ⟨G8,0,none⟩) st.vts.length cap8):=hc;clear hc;go_simp
      simp only[Act.put,zA,zB,zC];refine tk 1 (.pointer (some ⟨b,0,none⟩)) rfl ?_ ?_
      ·intro w' hc;have hc':w'.cell? ⟨b,4,none⟩=some (.slice (some ⟨G8,0,none⟩) st.vts.length cap8):=hc;clear hc;go_simp
      simp only[Act.put,zA,zB,zC];refine tk 2 (.pointer (some ⟨b,0,none⟩)) rfl ?_ ?_
      ·intro w' hc;have hc':w'.cell? ⟨b,4,none⟩=some (.slice (some ⟨G8,0,none⟩) st.vts.length cap8):=hc;clear hc;go_simp
      simp only[Act.put,zA,zB,zC];refine tk 3 (.pointer (some ⟨b,4,none⟩)) rfl ?_ ?_
      ·intro w' hc;have hc':w'.cell? ⟨b,4,none⟩=some (.slice (some ⟨G8,0,none⟩) st.vts.length cap8):=hc;clear hc;go_simp
      simp only[Act.put,zA,zB,zC];refine tk 4 (.slice (some ⟨G8,0,none⟩) st.vts.length cap8) rfl ?_ ?_
      ·intro w' hc;have hc':w'.cell? ⟨b,4,none⟩=some (.slice (some ⟨G8,0,none⟩) st.vts.length cap8):=hc;clear hc;go_simp
      simp only[Act.put,zA,zB,zC];refine tk 5 (.pointer (some ⟨b,0,none⟩)) rfl ?_ ?_
      ·intro w' hc;have hc':w'.cell? ⟨b,4,none⟩=some (.slice (some ⟨G8,0,none⟩) st.vts.length cap8):=hc;clear hc;go_simp
      simp only[Act.put,zA,zB,zC];refine rd 6 rfl λK hK=>?_;go_simp;refine (HOF8.out 1).mono ?_;rintro e w' ⟨rfl,n9,rfl⟩;refine hK.out _ _ e4 (λhS2=>?_);try simp only[Act.put,zA,zB,zC]
      refine rd 7 rfl λK hK=>?_;go_simp;have hb9:=HB8.out.drewN (1+n9);have hA9:=HA8.out.drewN (1+n9);have f4:(w8.drewN (1+n9)).cell? ⟨b,4,none⟩=some (.slice (some ⟨G8,0,none⟩) st.vts.length cap8):=e4;have r4:(w8.drewN (1+n9)).frozen? ⟨b,4,none⟩=false:=hb9.frozen 4;have hsz9:(w8.drewN (1+n9)).heap.size=w8.heap.size:=rfl;generalize w8.drewN (1+n9)=w9 at *;have hbl9:=hb9.lt;obtain⟨G9,cap9,e49,_,hown9,hG9l,hGb9,hvts9⟩:=hb9.vtsAt;dsimp only at e49 hown9 hvts9;have eqG:G9=G8/\cap9=cap8:=by
       rw[f4] at e49;simp only[Option.some.injEq,Value.slice.injEq,Addr.mk.injEq] at e49;exact⟨e49.1.1.symm,e49.2.2.symm⟩
      obtain⟨rfl,rfl⟩:=eqG;have hS3:(w9.alloc (.cells #[.int .u32 len] 98)).cell? ⟨b,4,none⟩=some (.slice (some ⟨G9,0,none⟩) st.vts.length cap9) :=
       (Fr.cell ((Fr.refl (λ_=>False) w9).alloc _) (p:=⟨b,4,none⟩) hbl9 (λx=>x)).trans f4
      have hr3:(w9.alloc (.cells #[.int .u32 len] 98)).frozen? ⟨b,4,none⟩=false :=
       (Fr.frozen ((Fr.refl (λ_=>False) w9).alloc _) (p:=⟨b,4,none⟩) hbl9 (λx=>x)).trans r4
      refine hK.out _ _ hS3 (λ_=>?_);try simp only[Act.put,zA,zB,zC]
      obtain⟨i1,hj1,hy0,hy1,hy2⟩:=info_parts' infoU32o;have hlv:st.vts.length<=1000000:=HI.out.many;obtain⟨v',w10,hrun,hown10,hgrow,_,hat⟩:=run_append_own_at (P:=Tryz.prog) (w9.alloc (.cells #[.int .u32 len] 98)) 0 100 100 98 i1 (.int .u32 0) 1 4 Tryz.underlying100 hj1 hy0 hy1 hy2 rfl (by decide)
       _ _ _ (hown9.alloc _) ⟨w8.heap.size,0,none⟩ 1 1 [.int .u32 len] rfl (by rw[<-hsz9];exact cell_one_new _ _ _) (by intro u hu;simp at hu;subst hu;rfl) (by unfold maxLen;omega) (by omega) (Nat.zero_le _)
      have hfr10:Fr (λk=>k=G9) w9 w10:=((Fr.refl (λk=>k=G9) w9).alloc _).trans2 (grown_fr hgrow) (λk _ h=>by simpa [Value.ownBlock] using h);have hS4:w10.cell? ⟨b,4,none⟩=some (.slice (some ⟨G9,0,none⟩) st.vts.length cap9):=(Fr.cell hfr10 (p:=⟨b,4,none⟩) hbl9 (λe=>hGb9 e.symm)).trans f4;have hr4:w10.frozen? ⟨b,4,none⟩=false:=(Fr.frozen hfr10 (p:=⟨b,4,none⟩) hbl9 (λe=>hGb9 e.symm)).trans r4;obtain⟨F5,hb11,ha11⟩:=hvts9 w10 v' (st.vts++[len]) (by rw[List.length_append];simpa [u32s] using hown10) (by simp) hfr10 (by
       rcases hat with h|h
       ·left;simpa [Value.ownBlock] using h
       ·right;exact⟨_,h,by simp⟩)
      obtain⟨g10,cap10,rfl⟩:∃g10 cap10,v'=.slice (some ⟨g10,0,none⟩) (st.vts.length+1) cap10:=by
       rcases hown10.2 with ⟨_,h0⟩|⟨g10,cap10,cur10,h,_⟩
       ·omega
       ·exact⟨g10,cap10,h⟩
      refine rd 8 rfl λK hK=>?_;have HA11:=Hd (hA9.trans ha11);have HB11:=Hd hb11;clear hsz9 hb9 hA9 hvts9 hown9 hown10 hgrow hat hfr10 hb11 ha11 e49 hS3 hr3 f4 r4;refine step_append_run (by rfl) (.tmp 186) (.tmp 189) _ (by rfl) _ _ _ (by rfl) (by rfl) hrun ?_;refine hK.out _ _ hS4 (λ_=>?_);try simp only[Act.put,zA,zB,zC]
      clear hrun;refine wpAnyH_done kr ?_ _;show wpTail _ _ _ _ _ _ _;refine wpTail_step (by rfl) (λK hK=>?_);go_simp;refine hK _ _ ?_;refine wpTail_step (by rfl) (λK hK=>?_);go_simp;refine hK _ _ ?_;refine wpTail_step (by rfl) (λK hK=>?_);go_simp;refine hK _ _ ?_;refine wpTail_nil ?_;have hb11:=HB11.out;have hA11:=HA11.out;generalize w10.setCell ⟨b,4,none⟩ (.slice (some ⟨g10,0,none⟩) (st.vts.length+1) cap10)=w11 at *;obtain⟨V5,cap5,k2,hlc5,hVb5,cV5,hcut5⟩:=hb11.vtabAt (l:=l) rfl;rw[HLK.out] at k2;have q2:=hb11.frozen 2;obtain⟨hb6,ha6⟩:=hcut5 0 (Nat.zero_le _);have HB6:=Hd hb6;have HA6:=Hd (hA11.trans ha6);clear cV5 hcut5 hb11 hA11 hb6 ha6 hlc5 HLK HB11 HA11 hS2 hHeld hS4 hr4 e4 q4;have hsl0:=λw'=>run_slice_to (P:=Tryz.prog) Tryz.underlying100 sizeU32o V5 0 k cap5 .i64 0 0 rfl (Nat.zero_le _) w';go_wp2_with fail;go_ret;exact⟨rfl,F5,by rw[HWR.out,<-HLEN.out];exact HB6.out,HA6.out⟩
     ·obtain⟨j,rfl⟩:∃j:Nat,q=j:=⟨q.toNat,by omega⟩;rw[show ((j:Int)+1).toNat=j+1 by omega] at hb4 hpl hdl;have hj:j<l.length:=(by have:=HLK.out;omega);have hjk:j<k:=(by omega);have hcons:l.drop j=l[j]::l.drop (j+1):=List.drop_eq_getElem_cons hj;obtain⟨f,hf⟩:=exA (l[j]);have hfo:f<=o:=(by rw[hf];exact HLMO.out _ (List.getElem_mem hj));have cj:wr.cell? ⟨V4,j,none⟩=some (.int .u32 f):=(by rw[cV4 j hj,hf]);rw[<-hf] at hcons;have HC:=Hd hcons;have hc4:∀x:Int,Calls Tryz.prog 76 #[.pointer (some ⟨b,0,none⟩),.int .u16 x] wr (BRes wr b F2 (some (.tuple #[],{ st with m:=((vtPut o (l.drop (j+1)) st.vt1).prep 2 0).put (leI 2 x),vtab:=some l }))) :=
       λx=>hb4.lift (λY r c hb=>PrependVOffsetT_calls b Y r _ c x wr hb (by omega))
      have HC4:=Hd hc4;have HA4:=Hd ha4;clear cV4 hcut4 hcons hf hb4 ha4 hc4 hpl hdl hj;by_cases hz:f=0
      ·subst hz;have cj0:wr.cell? ⟨V4,j,none⟩=some (.int .u32 0):=cj;clear cj;go_wp2_with fail;refine (HC4.out 0).mono ?_;rintro e w' ⟨rfl,F3,hb5,ha5⟩;have hR:VtR b F w st l o j w':=⟨F3,by rw[HC.out,vtPut_cons,if_pos rfl];exact hb5,HA4.out.trans ha5⟩;have HR:=Hd hR;clear hR hb5 ha5;go_wp2_with fail;go_roundw
       case rel=>exact⟨(j:Int)-1,by omega,by omega,rfl,by rw[show ((j:Int)-1+1).toNat=j by omega];exact HR.out⟩
       case measure=>simp[intOf]
      ·have hx1:((f:Int)==0)=false:=(by rw[beq_eq_false_iff_ne];omega);have hx2:(f==0)=false:=(by rw[beq_eq_false_iff_ne];omega);obtain⟨g,hg⟩:=exA (o-f);have hgi:(o:Int)-(f:Int)=(g:Int):=(by omega);have hg4:g<=4000000:=(by omega);have HZ:=Hd hz;clear hg hz;go_wp2_with fail;refine (HC4.out _).mono ?_;rintro e w' ⟨rfl,F3,hb5,ha5⟩;have hle:leI 2 (IntKind.u16.wrap (g:Int))=leI 2 (if f=0 then 0 else (o:Int)-(f:Int)):=by
        rw[if_neg HZ.out,hgi];exact leI_congr 2 (wrap_emod .u16 _)
       rw[hle] at hb5;have hR:VtR b F w st l o j w':=⟨F3,by rw[HC.out,vtPut_cons];exact hb5,HA4.out.trans ha5⟩;have HR:=Hd hR;clear hR hb5 ha5 hle;go_wp2_with fail;go_roundw
       case rel=>exact⟨(j:Int)-1,by omega,by omega,rfl,by rw[show ((j:Int)-1+1).toNat=j by omega];exact HR.out⟩
       case measure=>simp[intOf]
end Go.Proofs.YtcfblkkpclfmaaaGreat
