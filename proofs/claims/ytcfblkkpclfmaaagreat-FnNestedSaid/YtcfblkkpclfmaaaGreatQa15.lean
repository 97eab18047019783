/- Part 15 of the proof of FnRead (Kinds, KindsB, Keep, StInv). No condition is laid on the statement. -/
import Derived.Test.YtcfblkkpclfmaaaGreatQa14
import Derived.IntWalk
import Derived.Test.YtcfblkkpclfmaaaGreatQa08
set_option linter.unusedVariables false
set_option linter.unusedSimpArgs false
set_option maxRecDepth 100000
set_option maxHeartbeats 16000000
namespace Go.Proofs.YtcfblkkpclfmaaaGreat
open Go.RowKit
theorem run_f32frm(n:Int)(w:World):(callFunc 125 #[.int .u32 n]).run Tryz.prog w=.ok (.value (.float .f32 n.toNat)) w:=by kernel_rfl
theorem run_f64frm(n:Int)(w:World):(callFunc 127 #[.int .u64 n]).run Tryz.prog w=.ok (.value (.float .f64 n.toNat)) w:=by kernel_rfl
theorem wc_mod(s n:Nat)(m:Int)(h:m=2^(8*s)):leI s ((n:Int)%m)=leB s n:=by
 rw[<-leI_nat];exact leI_congr s (by rw[h,Int.emod_emod])
theorem wc_wrap(k:IntKind)(s n:Nat)(h:k.bits=8*s):leI s (k.wrap (n:Int))=leB s n:=by
 rw[<-leI_nat];exact leI_congr s (by rw[<-h,wrap_emod])
theorem wc_32(n:Nat):leI 4 (wrap32 (n:Int))=leB 4 n:=by rw[<-IntWalk.i32_left];exact wc_wrap .i32 4 n rfl
theorem wc_64(n:Nat):leI 8 (wrap64 (n:Int))=leB 8 n:=by rw[<-IntWalk.i64_left];exact wc_wrap .i64 8 n rfl
theorem wc_lit(k:Int)(s n:Nat)(hk:k≠0)(hs:numSize k=s):numB k n=leB s n:=by simp[numB,hk,hs]
theorem wi_wrap(k:IntKind)(a b:Nat)(ha:a<2^k.bits)(hb:b<2^k.bits)(h:a≠b):(k.wrap (a:Int)==k.wrap (b:Int))=false:=by
 rw[beq_eq_false_iff_ne];intro e;have h1:=wrap_emod k (a:Int);rw[e,wrap_emod k (b:Int)] at h1;have ea:((a:Nat):Int)%2^k.bits=a:=Int.emod_eq_of_lt (by omega) (by exact_mod_cast ha);have eb:((b:Nat):Int)%2^k.bits=b:=Int.emod_eq_of_lt (by omega) (by exact_mod_cast hb);rw[ea,eb] at h1;omega
theorem wi_32(a b:Nat)(ha:a<2^32)(hb:b<2^32)(h:a≠b):(wrap32 (a:Int)==wrap32 (b:Int))=false:=by
 rw[<-IntWalk.i32_left,<-IntWalk.i32_left];exact wi_wrap .i32 a b ha hb h
theorem wi_64(a b:Nat)(ha:a<2^64)(hb:b<2^64)(h:a≠b):(wrap64 (a:Int)==wrap64 (b:Int))=false:=by
 rw[<-IntWalk.i64_left,<-IntWalk.i64_left];exact wi_wrap .i64 a b ha hb h
def Right(k:Int)(n:Nat):Prop:=0<=k/\k<=10/\(k=0->n<=1)/\n<2^(8*numSize k)
def sameNum(k:Int)(a b:Nat):Bool:=if k=9 then Op.floatEq .f32 a b else if k=10 then Op.floatEq .f64 a b else decide (a=b)
theorem prepend_0(b:Nat)(F:List Nat)(st:BSt)(num:Nat)(w:World)(h:BRep w b F st)(hu:st.m.bytes.length<=1900000)(hn:num<2^8)(hn1:num<=1):
  Calls Tryz.prog 71 #[.pointer (some ⟨b,0,none⟩),.int .u8 0,.int .u64 num] w (BRes w b F (some (.tuple #[],{ st with m:=(st.m.prep 1 0).put (numB 0 num) }))):=by
 have hc:=λx:Bool=>h.lift (v:=.tuple #[]) (m':=(st.m.prep 1 0).put (leI 1 (b01 x))) (λY r c hb=>PrependBool_calls b Y r st.m c x w hb hu);have HC:=Hd hc;clear hc h hn;rcases (show num=0\/num=1 by omega) with rfl|rfl
 all_goals
  go_enter Tryz.func71,Tryz.ntmps71;go_wp2_with (first|(go_at_call 115;go_in));refine (HC.out _).mono ?_;rintro e w1 ⟨rfl,F1,hb1,ha1⟩;have HB:=Hd hb1;have HA:=Hd ha1;clear hb1 ha1;go_wp2_with fail;go_end0
  exact⟨rfl,F1,HB.out,HA.out⟩
theorem prependSlot_0(b:Nat)(F:List Nat)(st:BSt)(i:Int)(num els:Nat)(w:World)(h:BRep w b F st)(hu:st.m.bytes.length<=1900000)(hn1:num<=1)(hn2:els<=1):
  Calls Tryz.prog 72 #[.pointer (some ⟨b,0,none⟩),.int .u8 0,.int .i64 i,.int .u64 num,.int .u64 els] w (BRes w b F (unitRes (st.prepSlot 1 (numB 0 num) i (sameNum 0 num els)))):=by
 have hc:=λx d:Bool=>PrependBoolSlot_calls b F st i x d w h hu;have HC:=Hd hc;obtain⟨res,hres⟩:=exA (st.prepSlot 1 (numB 0 num) i (sameNum 0 num els));have hcs:res=none\/∃s,res=some s:=by cases res<;>simp
 rw[<-hres];have HR:=Hd hres;clear hc h hres;rcases (show num=0\/num=1 by omega) with rfl|rfl<;>rcases (show els=0\/els=1 by omega) with rfl|rfl
 all_goals
  rcases hcs with rfl|⟨s,rfl⟩
  all_goals
   go_enter Tryz.func72,Tryz.ntmps72;go_wp2_with (first|(go_at_call 115;go_in));refine (HC.out _ _).mono ?_;intro e w1 hbr;have hr2:=HR.out;first
    | (have hbr:BRes w b F (unitRes none) e w1:=by rw[hr2];exact hbr
       obtain⟨⟨u,v,rfl⟩,hf⟩:=hbr;exact⟨rfl,⟨u,v,rfl⟩,hf⟩)
    | (have hbr:BRes w b F (unitRes (some s)) e w1:=by rw[hr2];exact hbr
       obtain⟨rfl,F1,hb1,ha1⟩:=hbr;have HB:=Hd hb1;have HA:=Hd ha1;clear hb1 ha1 hr2;go_wp2_with fail;go_end0
       exact⟨rfl,F1,HB.out,HA.out⟩)
theorem prepend_1(b:Nat)(F:List Nat)(st:BSt)(num:Nat)(w:World)(h:BRep w b F st)(hu:st.m.bytes.length<=1900000)(hn:num<2^8):
  Calls Tryz.prog 71 #[.pointer (some ⟨b,0,none⟩),.int .u8 1,.int .u64 num] w (BRes w b F (some (.tuple #[],{ st with m:=(st.m.prep 1 0).put (numB 1 num) }))):=by
 have hc:=λx h0 h1=>h.lift (v:=.tuple #[]) (m':=(st.m.prep 1 0).put (leI 1 x)) (λY r c hb=>PrependUint8_calls b Y r st.m c x h0 h1 w hb hu);have HC:=Hd hc;clear hc h;go_enter Tryz.func71,Tryz.ntmps71;go_wp2_with fail
 ·refine (HC.out _ (by omega) (by omega)).mono ?_;rintro e w1 ⟨rfl,F1,hb1,ha1⟩;first|rw[wc_mod _ _ _ (by rfl)] at hb1|rw[wc_wrap _ _ _ (by rfl)] at hb1|rw[wc_32] at hb1|rw[wc_64] at hb1|rw[leI_nat] at hb1
  rw[<-wc_lit 1 1 num (by decide) (by decide)] at hb1;have HB:=Hd hb1;have HA:=Hd ha1;clear hb1 ha1;go_wp2_with fail;go_end0
  exact⟨rfl,F1,HB.out,HA.out⟩
theorem prependSlot_1(b:Nat)(F:List Nat)(st:BSt)(i:Int)(num els:Nat)(w:World)(h:BRep w b F st)(hu:st.m.bytes.length<=1900000)(hn1:num<2^8)(hn2:els<2^8):
  Calls Tryz.prog 72 #[.pointer (some ⟨b,0,none⟩),.int .u8 1,.int .i64 i,.int .u64 num,.int .u64 els] w (BRes w b F (unitRes (st.prepSlot 1 (numB 1 num) i (sameNum 1 num els)))):=by
 have hc:=λ(x d:Int) (h0:0<=x) (h1:x<256) (q:Bool) (hq:(x==d)=q)=>PrependUint8Slot_calls b F st i x d h0 h1 q hq w h hu;have HC:=Hd hc;obtain⟨q,hqd⟩:=exA (sameNum 1 num els);have hq1:num=els->q=true:=by rintro rfl;rw[hqd];simp[sameNum]
 have hq2:num≠els->q=false:=by intro hne;rw[hqd];simp[sameNum,hne]
 rw[<-hqd];obtain⟨res,hres⟩:=exA (st.prepSlot 1 (numB 1 num) i q);have hcs:res=none\/∃s,res=some s:=by cases res<;>simp
 rw[<-hres];have HR:=Hd hres;have HQ:=Hd (And.intro hq1 hq2);clear hc h hres hq1 hq2 hqd;rcases hcs with rfl|⟨s,rfl⟩
 all_goals
  go_enter Tryz.func72,Tryz.ntmps72;go_wp2_with fail;refine (HC.out _ _ (by omega) (by omega) q ?hq).mono ?_
  case hq =>
   by_cases he:num=els
   ·rw[HQ.out.1 he,he];simp
   ·rw[HQ.out.2 he];first|exact wi_wrap _ _ _ (by assumption) (by assumption) he|exact wi_32 _ _ (by assumption) (by assumption) he|exact wi_64 _ _ (by assumption) (by assumption) he|(rw[beq_eq_false_iff_ne];omega)
  first|rw[wc_mod _ _ _ (by rfl)]|rw[wc_wrap _ _ _ (by rfl)]|rw[wc_32]|rw[wc_64]|rw[leI_nat]
  rw[<-wc_lit 1 1 num (by decide) (by decide),<-HR.out]
 ·rintro e w1 ⟨⟨u,v,rfl⟩,hf⟩;exact⟨rfl,⟨u,v,rfl⟩,hf⟩
 ·rintro e w1 ⟨rfl,F1,hb1,ha1⟩;have HB:=Hd hb1;have HA:=Hd ha1;clear hb1 ha1;go_wp2_with fail;go_end0
  exact⟨rfl,F1,HB.out,HA.out⟩
theorem prepend_2(b:Nat)(F:List Nat)(st:BSt)(num:Nat)(w:World)(h:BRep w b F st)(hu:st.m.bytes.length<=1900000)(hn:num<2^8):
  Calls Tryz.prog 71 #[.pointer (some ⟨b,0,none⟩),.int .u8 2,.int .u64 num] w (BRes w b F (some (.tuple #[],{ st with m:=(st.m.prep 1 0).put (numB 2 num) }))):=by
 have hc:=λx=>h.lift (v:=.tuple #[]) (m':=(st.m.prep 1 0).put (leI 1 x)) (λY r c hb=>PrependInt8_calls b Y r st.m c x w hb hu);have HC:=Hd hc;clear hc h;go_enter Tryz.func71,Tryz.ntmps71;go_wp2_with fail
 ·refine (HC.out _).mono ?_;rintro e w1 ⟨rfl,F1,hb1,ha1⟩;first|rw[wc_mod _ _ _ (by rfl)] at hb1|rw[wc_wrap _ _ _ (by rfl)] at hb1|rw[wc_32] at hb1|rw[wc_64] at hb1|rw[leI_nat] at hb1
  rw[<-wc_lit 2 1 num (by decide) (by decide)] at hb1;have HB:=Hd hb1;have HA:=Hd ha1;clear hb1 ha1;go_wp2_with fail;go_end0
  exact⟨rfl,F1,HB.out,HA.out⟩
theorem prependSlot_2(b:Nat)(F:List Nat)(st:BSt)(i:Int)(num els:Nat)(w:World)(h:BRep w b F st)(hu:st.m.bytes.length<=1900000)(hn1:num<2^8)(hn2:els<2^8):
  Calls Tryz.prog 72 #[.pointer (some ⟨b,0,none⟩),.int .u8 2,.int .i64 i,.int .u64 num,.int .u64 els] w (BRes w b F (unitRes (st.prepSlot 1 (numB 2 num) i (sameNum 2 num els)))):=by
 have hc:=λ(x d:Int) (q:Bool) (hq:(x==d)=q)=>PrependInt8Slot_calls b F st i x d q hq w h hu;have HC:=Hd hc;obtain⟨q,hqd⟩:=exA (sameNum 2 num els);have hq1:num=els->q=true:=by rintro rfl;rw[hqd];simp[sameNum]
 have hq2:num≠els->q=false:=by intro hne;rw[hqd];simp[sameNum,hne]
 rw[<-hqd];obtain⟨res,hres⟩:=exA (st.prepSlot 1 (numB 2 num) i q);have hcs:res=none\/∃s,res=some s:=by cases res<;>simp
 rw[<-hres];have HR:=Hd hres;have HQ:=Hd (And.intro hq1 hq2);clear hc h hres hq1 hq2 hqd;rcases hcs with rfl|⟨s,rfl⟩
 all_goals
  go_enter Tryz.func72,Tryz.ntmps72;go_wp2_with fail;refine (HC.out _ _ q ?hq).mono ?_
  case hq =>
   by_cases he:num=els
   ·rw[HQ.out.1 he,he];simp
   ·rw[HQ.out.2 he];first|exact wi_wrap _ _ _ (by assumption) (by assumption) he|exact wi_32 _ _ (by assumption) (by assumption) he|exact wi_64 _ _ (by assumption) (by assumption) he|(rw[beq_eq_false_iff_ne];omega)
  first|rw[wc_mod _ _ _ (by rfl)]|rw[wc_wrap _ _ _ (by rfl)]|rw[wc_32]|rw[wc_64]|rw[leI_nat]
  rw[<-wc_lit 2 1 num (by decide) (by decide),<-HR.out]
 ·rintro e w1 ⟨⟨u,v,rfl⟩,hf⟩;exact⟨rfl,⟨u,v,rfl⟩,hf⟩
 ·rintro e w1 ⟨rfl,F1,hb1,ha1⟩;have HB:=Hd hb1;have HA:=Hd ha1;clear hb1 ha1;go_wp2_with fail;go_end0
  exact⟨rfl,F1,HB.out,HA.out⟩
theorem prepend_3(b:Nat)(F:List Nat)(st:BSt)(num:Nat)(w:World)(h:BRep w b F st)(hu:st.m.bytes.length<=1900000)(hn:num<2^16):
  Calls Tryz.prog 71 #[.pointer (some ⟨b,0,none⟩),.int .u8 3,.int .u64 num] w (BRes w b F (some (.tuple #[],{ st with m:=(st.m.prep 2 0).put (numB 3 num) }))):=by
 have hc:=λx=>h.lift (v:=.tuple #[]) (m':=(st.m.prep 2 0).put (leI 2 x)) (λY r c hb=>PrependUint16_calls b Y r st.m c x w hb hu);have HC:=Hd hc;clear hc h;go_enter Tryz.func71,Tryz.ntmps71;go_wp2_with fail
 ·refine (HC.out _).mono ?_;rintro e w1 ⟨rfl,F1,hb1,ha1⟩;first|rw[wc_mod _ _ _ (by rfl)] at hb1|rw[wc_wrap _ _ _ (by rfl)] at hb1|rw[wc_32] at hb1|rw[wc_64] at hb1|rw[leI_nat] at hb1
  rw[<-wc_lit 3 2 num (by decide) (by decide)] at hb1;have HB:=Hd hb1;have HA:=Hd ha1;clear hb1 ha1;go_wp2_with fail;go_end0
  exact⟨rfl,F1,HB.out,HA.out⟩
theorem prependSlot_3(b:Nat)(F:List Nat)(st:BSt)(i:Int)(num els:Nat)(w:World)(h:BRep w b F st)(hu:st.m.bytes.length<=1900000)(hn1:num<2^16)(hn2:els<2^16):
  Calls Tryz.prog 72 #[.pointer (some ⟨b,0,none⟩),.int .u8 3,.int .i64 i,.int .u64 num,.int .u64 els] w (BRes w b F (unitRes (st.prepSlot 2 (numB 3 num) i (sameNum 3 num els)))):=by
 have hc:=λ(x d:Int) (q:Bool) (hq:(x==d)=q)=>PrependUint16Slot_calls b F st i x d q hq w h hu;have HC:=Hd hc;obtain⟨q,hqd⟩:=exA (sameNum 3 num els);have hq1:num=els->q=true:=by rintro rfl;rw[hqd];simp[sameNum]
 have hq2:num≠els->q=false:=by intro hne;rw[hqd];simp[sameNum,hne]
 rw[<-hqd];obtain⟨res,hres⟩:=exA (st.prepSlot 2 (numB 3 num) i q);have hcs:res=none\/∃s,res=some s:=by cases res<;>simp
 rw[<-hres];have HR:=Hd hres;have HQ:=Hd (And.intro hq1 hq2);clear hc h hres hq1 hq2 hqd;rcases hcs with rfl|⟨s,rfl⟩
 all_goals
  go_enter Tryz.func72,Tryz.ntmps72;go_wp2_with fail;refine (HC.out _ _ q ?hq).mono ?_
  case hq =>
   by_cases he:num=els
   ·rw[HQ.out.1 he,he];simp
   ·rw[HQ.out.2 he];first|exact wi_wrap _ _ _ (by assumption) (by assumption) he|exact wi_32 _ _ (by assumption) (by assumption) he|exact wi_64 _ _ (by assumption) (by assumption) he|(rw[beq_eq_false_iff_ne];omega)
  first|rw[wc_mod _ _ _ (by rfl)]|rw[wc_wrap _ _ _ (by rfl)]|rw[wc_32]|rw[wc_64]|rw[leI_nat]
  rw[<-wc_lit 3 2 num (by decide) (by decide),<-HR.out]
 ·rintro e w1 ⟨⟨u,v,rfl⟩,hf⟩;exact⟨rfl,⟨u,v,rfl⟩,hf⟩
 ·rintro e w1 ⟨rfl,F1,hb1,ha1⟩;have HB:=Hd hb1;have HA:=Hd ha1;clear hb1 ha1;go_wp2_with fail;go_end0
  exact⟨rfl,F1,HB.out,HA.out⟩
theorem prepend_4(b:Nat)(F:List Nat)(st:BSt)(num:Nat)(w:World)(h:BRep w b F st)(hu:st.m.bytes.length<=1900000)(hn:num<2^16):
  Calls Tryz.prog 71 #[.pointer (some ⟨b,0,none⟩),.int .u8 4,.int .u64 num] w (BRes w b F (some (.tuple #[],{ st with m:=(st.m.prep 2 0).put (numB 4 num) }))):=by
 have hc:=λx=>h.lift (v:=.tuple #[]) (m':=(st.m.prep 2 0).put (leI 2 x)) (λY r c hb=>PrependInt16_calls b Y r st.m c x w hb hu);have HC:=Hd hc;clear hc h;go_enter Tryz.func71,Tryz.ntmps71;go_wp2_with fail
 ·refine (HC.out _).mono ?_;rintro e w1 ⟨rfl,F1,hb1,ha1⟩;first|rw[wc_mod _ _ _ (by rfl)] at hb1|rw[wc_wrap _ _ _ (by rfl)] at hb1|rw[wc_32] at hb1|rw[wc_64] at hb1|rw[leI_nat] at hb1
  rw[<-wc_lit 4 2 num (by decide) (by decide)] at hb1;have HB:=Hd hb1;have HA:=Hd ha1;clear hb1 ha1;go_wp2_with fail;go_end0
  exact⟨rfl,F1,HB.out,HA.out⟩
theorem prependSlot_4(b:Nat)(F:List Nat)(st:BSt)(i:Int)(num els:Nat)(w:World)(h:BRep w b F st)(hu:st.m.bytes.length<=1900000)(hn1:num<2^16)(hn2:els<2^16):
  Calls Tryz.prog 72 #[.pointer (some ⟨b,0,none⟩),.int .u8 4,.int .i64 i,.int .u64 num,.int .u64 els] w (BRes w b F (unitRes (st.prepSlot 2 (numB 4 num) i (sameNum 4 num els)))):=by
 have hc:=λ(x d:Int) (q:Bool) (hq:(x==d)=q)=>PrependInt16Slot_calls b F st i x d q hq w h hu;have HC:=Hd hc;obtain⟨q,hqd⟩:=exA (sameNum 4 num els);have hq1:num=els->q=true:=by rintro rfl;rw[hqd];simp[sameNum]
 have hq2:num≠els->q=false:=by intro hne;rw[hqd];simp[sameNum,hne]
 rw[<-hqd];obtain⟨res,hres⟩:=exA (st.prepSlot 2 (numB 4 num) i q);have hcs:res=none\/∃s,res=some s:=by cases res<;>simp
 rw[<-hres];have HR:=Hd hres;have HQ:=Hd (And.intro hq1 hq2);clear hc h hres hq1 hq2 hqd;rcases hcs with rfl|⟨s,rfl⟩
 all_goals
  go_enter Tryz.func72,Tryz.ntmps72;go_wp2_with fail;refine (HC.out _ _ q ?hq).mono ?_
  case hq =>
   by_cases he:num=els
   ·rw[HQ.out.1 he,he];simp
   ·rw[HQ.out.2 he];first|exact wi_wrap _ _ _ (by assumption) (by assumption) he|exact wi_32 _ _ (by assumption) (by assumption) he|exact wi_64 _ _ (by assumption) (by assumption) he|(rw[beq_eq_false_iff_ne];omega)
  first|rw[wc_mod _ _ _ (by rfl)]|rw[wc_wrap _ _ _ (by rfl)]|rw[wc_32]|rw[wc_64]|rw[leI_nat]
  rw[<-wc_lit 4 2 num (by decide) (by decide),<-HR.out]
 ·rintro e w1 ⟨⟨u,v,rfl⟩,hf⟩;exact⟨rfl,⟨u,v,rfl⟩,hf⟩
 ·rintro e w1 ⟨rfl,F1,hb1,ha1⟩;have HB:=Hd hb1;have HA:=Hd ha1;clear hb1 ha1;go_wp2_with fail;go_end0
  exact⟨rfl,F1,HB.out,HA.out⟩
theorem prepend_5(b:Nat)(F:List Nat)(st:BSt)(num:Nat)(w:World)(h:BRep w b F st)(hu:st.m.bytes.length<=1900000)(hn:num<2^32):
  Calls Tryz.prog 71 #[.pointer (some ⟨b,0,none⟩),.int .u8 5,.int .u64 num] w (BRes w b F (some (.tuple #[],{ st with m:=(st.m.prep 4 0).put (numB 5 num) }))):=by
 have hc:=λx=>h.lift (v:=.tuple #[]) (m':=(st.m.prep 4 0).put (leI 4 x)) (λY r c hb=>PrependUint32_calls b Y r st.m c x w hb hu);have HC:=Hd hc;clear hc h;go_enter Tryz.func71,Tryz.ntmps71;go_wp2_with fail
 ·refine (HC.out _).mono ?_;rintro e w1 ⟨rfl,F1,hb1,ha1⟩;first|rw[wc_mod _ _ _ (by rfl)] at hb1|rw[wc_wrap _ _ _ (by rfl)] at hb1|rw[wc_32] at hb1|rw[wc_64] at hb1|rw[leI_nat] at hb1
  rw[<-wc_lit 5 4 num (by decide) (by decide)] at hb1;have HB:=Hd hb1;have HA:=Hd ha1;clear hb1 ha1;go_wp2_with fail;go_end0
  exact⟨rfl,F1,HB.out,HA.out⟩
theorem prependSlot_5(b:Nat)(F:List Nat)(st:BSt)(i:Int)(num els:Nat)(w:World)(h:BRep w b F st)(hu:st.m.bytes.length<=1900000)(hn1:num<2^32)(hn2:els<2^32):
  Calls Tryz.prog 72 #[.pointer (some ⟨b,0,none⟩),.int .u8 5,.int .i64 i,.int .u64 num,.int .u64 els] w (BRes w b F (unitRes (st.prepSlot 4 (numB 5 num) i (sameNum 5 num els)))):=by
 have hc:=λ(x d:Int) (q:Bool) (hq:(x==d)=q)=>PrependUint32Slot_calls b F st i x d q hq w h hu;have HC:=Hd hc;obtain⟨q,hqd⟩:=exA (sameNum 5 num els);have hq1:num=els->q=true:=by rintro rfl;rw[hqd];simp[sameNum]
 have hq2:num≠els->q=false:=by intro hne;rw[hqd];simp[sameNum,hne]
 rw[<-hqd];obtain⟨res,hres⟩:=exA (st.prepSlot 4 (numB 5 num) i q);have hcs:res=none\/∃s,res=some s:=by cases res<;>simp
 rw[<-hres];have HR:=Hd hres;have HQ:=Hd (And.intro hq1 hq2);clear hc h hres hq1 hq2 hqd;rcases hcs with rfl|⟨s,rfl⟩
 all_goals
  go_enter Tryz.func72,Tryz.ntmps72;go_wp2_with fail;refine (HC.out _ _ q ?hq).mono ?_
  case hq =>
   by_cases he:num=els
   ·rw[HQ.out.1 he,he];simp
   ·rw[HQ.out.2 he];first|exact wi_wrap _ _ _ (by assumption) (by assumption) he|exact wi_32 _ _ (by assumption) (by assumption) he|exact wi_64 _ _ (by assumption) (by assumption) he|(rw[beq_eq_false_iff_ne];omega)
  first|rw[wc_mod _ _ _ (by rfl)]|rw[wc_wrap _ _ _ (by rfl)]|rw[wc_32]|rw[wc_64]|rw[leI_nat]
  rw[<-wc_lit 5 4 num (by decide) (by decide),<-HR.out]
 ·rintro e w1 ⟨⟨u,v,rfl⟩,hf⟩;exact⟨rfl,⟨u,v,rfl⟩,hf⟩
 ·rintro e w1 ⟨rfl,F1,hb1,ha1⟩;have HB:=Hd hb1;have HA:=Hd ha1;clear hb1 ha1;go_wp2_with fail;go_end0
  exact⟨rfl,F1,HB.out,HA.out⟩
theorem prepend_6(b:Nat)(F:List Nat)(st:BSt)(num:Nat)(w:World)(h:BRep w b F st)(hu:st.m.bytes.length<=1900000)(hn:num<2^32):
  Calls Tryz.prog 71 #[.pointer (some ⟨b,0,none⟩),.int .u8 6,.int .u64 num] w (BRes w b F (some (.tuple #[],{ st with m:=(st.m.prep 4 0).put (numB 6 num) }))):=by
 have hc:=λx=>h.lift (v:=.tuple #[]) (m':=(st.m.prep 4 0).put (leI 4 x)) (λY r c hb=>PrependInt32_calls b Y r st.m c x w hb hu);have HC:=Hd hc;clear hc h;go_enter Tryz.func71,Tryz.ntmps71;go_wp2_with fail
 ·refine (HC.out _).mono ?_;rintro e w1 ⟨rfl,F1,hb1,ha1⟩;first|rw[wc_mod _ _ _ (by rfl)] at hb1|rw[wc_wrap _ _ _ (by rfl)] at hb1|rw[wc_32] at hb1|rw[wc_64] at hb1|rw[leI_nat] at hb1
  rw[<-wc_lit 6 4 num (by decide) (by decide)] at hb1;have HB:=Hd hb1;have HA:=Hd ha1;clear hb1 ha1;go_wp2_with fail;go_end0
  exact⟨rfl,F1,HB.out,HA.out⟩
theorem prependSlot_6(b:Nat)(F:List Nat)(st:BSt)(i:Int)(num els:Nat)(w:World)(h:BRep w b F st)(hu:st.m.bytes.length<=1900000)(hn1:num<2^32)(hn2:els<2^32):
  Calls Tryz.prog 72 #[.pointer (some ⟨b,0,none⟩),.int .u8 6,.int .i64 i,.int .u64 num,.int .u64 els] w (BRes w b F (unitRes (st.prepSlot 4 (numB 6 num) i (sameNum 6 num els)))):=by
 have hc:=λ(x d:Int) (q:Bool) (hq:(x==d)=q)=>PrependInt32Slot_calls b F st i x d q hq w h hu;have HC:=Hd hc;obtain⟨q,hqd⟩:=exA (sameNum 6 num els);have hq1:num=els->q=true:=by rintro rfl;rw[hqd];simp[sameNum]
 have hq2:num≠els->q=false:=by intro hne;rw[hqd];simp[sameNum,hne]
 rw[<-hqd];obtain⟨res,hres⟩:=exA (st.prepSlot 4 (numB 6 num) i q);have hcs:res=none\/∃s,res=some s:=by cases res<;>simp
 rw[<-hres];have HR:=Hd hres;have HQ:=Hd (And.intro hq1 hq2);clear hc h hres hq1 hq2 hqd;rcases hcs with rfl|⟨s,rfl⟩
 all_goals
  go_enter Tryz.func72,Tryz.ntmps72;go_wp2_with fail;refine (HC.out _ _ q ?hq).mono ?_
  case hq =>
   by_cases he:num=els
   ·rw[HQ.out.1 he,he];simp
   ·rw[HQ.out.2 he];first|exact wi_wrap _ _ _ (by assumption) (by assumption) he|exact wi_32 _ _ (by assumption) (by assumption) he|exact wi_64 _ _ (by assumption) (by assumption) he|(rw[beq_eq_false_iff_ne];omega)
  first|rw[wc_mod _ _ _ (by rfl)]|rw[wc_wrap _ _ _ (by rfl)]|rw[wc_32]|rw[wc_64]|rw[leI_nat]
  rw[<-wc_lit 6 4 num (by decide) (by decide),<-HR.out]
 ·rintro e w1 ⟨⟨u,v,rfl⟩,hf⟩;exact⟨rfl,⟨u,v,rfl⟩,hf⟩
 ·rintro e w1 ⟨rfl,F1,hb1,ha1⟩;have HB:=Hd hb1;have HA:=Hd ha1;clear hb1 ha1;go_wp2_with fail;go_end0
  exact⟨rfl,F1,HB.out,HA.out⟩
theorem prepend_7(b:Nat)(F:List Nat)(st:BSt)(num:Nat)(w:World)(h:BRep w b F st)(hu:st.m.bytes.length<=1900000)(hn:num<2^64):
  Calls Tryz.prog 71 #[.pointer (some ⟨b,0,none⟩),.int .u8 7,.int .u64 num] w (BRes w b F (some (.tuple #[],{ st with m:=(st.m.prep 8 0).put (numB 7 num) }))):=by
 have hc:=λx=>h.lift (v:=.tuple #[]) (m':=(st.m.prep 8 0).put (leI 8 x)) (λY r c hb=>PrependUint64_calls b Y r st.m c x w hb hu);have HC:=Hd hc;clear hc h;go_enter Tryz.func71,Tryz.ntmps71;go_wp2_with fail
 ·refine (HC.out _).mono ?_;rintro e w1 ⟨rfl,F1,hb1,ha1⟩;first|rw[wc_mod _ _ _ (by rfl)] at hb1|rw[wc_wrap _ _ _ (by rfl)] at hb1|rw[wc_32] at hb1|rw[wc_64] at hb1|rw[leI_nat] at hb1
  rw[<-wc_lit 7 8 num (by decide) (by decide)] at hb1;have HB:=Hd hb1;have HA:=Hd ha1;clear hb1 ha1;go_wp2_with fail;go_end0
  exact⟨rfl,F1,HB.out,HA.out⟩
theorem prependSlot_7(b:Nat)(F:List Nat)(st:BSt)(i:Int)(num els:Nat)(w:World)(h:BRep w b F st)(hu:st.m.bytes.length<=1900000)(hn1:num<2^64)(hn2:els<2^64):
  Calls Tryz.prog 72 #[.pointer (some ⟨b,0,none⟩),.int .u8 7,.int .i64 i,.int .u64 num,.int .u64 els] w (BRes w b F (unitRes (st.prepSlot 8 (numB 7 num) i (sameNum 7 num els)))):=by
 have hc:=λ(x d:Int) (q:Bool) (hq:(x==d)=q)=>PrependUint64Slot_calls b F st i x d q hq w h hu;have HC:=Hd hc;obtain⟨q,hqd⟩:=exA (sameNum 7 num els);have hq1:num=els->q=true:=by rintro rfl;rw[hqd];simp[sameNum]
 have hq2:num≠els->q=false:=by intro hne;rw[hqd];simp[sameNum,hne]
 rw[<-hqd];obtain⟨res,hres⟩:=exA (st.prepSlot 8 (numB 7 num) i q);have hcs:res=none\/∃s,res=some s:=by cases res<;>simp
 rw[<-hres];have HR:=Hd hres;have HQ:=Hd (And.intro hq1 hq2);clear hc h hres hq1 hq2 hqd;rcases hcs with rfl|⟨s,rfl⟩
 all_goals
  go_enter Tryz.func72,Tryz.ntmps72;go_wp2_with fail;refine (HC.out _ _ q ?hq).mono ?_
  case hq =>
   by_cases he:num=els
   ·rw[HQ.out.1 he,he];simp
   ·rw[HQ.out.2 he];first|exact wi_wrap _ _ _ (by assumption) (by assumption) he|exact wi_32 _ _ (by assumption) (by assumption) he|exact wi_64 _ _ (by assumption) (by assumption) he|(rw[beq_eq_false_iff_ne];omega)
  first|rw[wc_mod _ _ _ (by rfl)]|rw[wc_wrap _ _ _ (by rfl)]|rw[wc_32]|rw[wc_64]|rw[leI_nat]
  rw[<-wc_lit 7 8 num (by decide) (by decide),<-HR.out]
 ·rintro e w1 ⟨⟨u,v,rfl⟩,hf⟩;exact⟨rfl,⟨u,v,rfl⟩,hf⟩
 ·rintro e w1 ⟨rfl,F1,hb1,ha1⟩;have HB:=Hd hb1;have HA:=Hd ha1;clear hb1 ha1;go_wp2_with fail;go_end0
  exact⟨rfl,F1,HB.out,HA.out⟩
theorem prepend_8(b:Nat)(F:List Nat)(st:BSt)(num:Nat)(w:World)(h:BRep w b F st)(hu:st.m.bytes.length<=1900000)(hn:num<2^64):
  Calls Tryz.prog 71 #[.pointer (some ⟨b,0,none⟩),.int .u8 8,.int .u64 num] w (BRes w b F (some (.tuple #[],{ st with m:=(st.m.prep 8 0).put (numB 8 num) }))):=by
 have hc:=λx=>h.lift (v:=.tuple #[]) (m':=(st.m.prep 8 0).put (leI 8 x)) (λY r c hb=>PrependInt64_calls b Y r st.m c x w hb hu);have HC:=Hd hc;clear hc h;go_enter Tryz.func71,Tryz.ntmps71;go_wp2_with fail
 ·refine (HC.out _).mono ?_;rintro e w1 ⟨rfl,F1,hb1,ha1⟩;first|rw[wc_mod _ _ _ (by rfl)] at hb1|rw[wc_wrap _ _ _ (by rfl)] at hb1|rw[wc_32] at hb1|rw[wc_64] at hb1|rw[leI_nat] at hb1
  rw[<-wc_lit 8 8 num (by decide) (by decide)] at hb1;have HB:=Hd hb1;have HA:=Hd ha1;clear hb1 ha1;go_wp2_with fail;go_end0
  exact⟨rfl,F1,HB.out,HA.out⟩
theorem prependSlot_8(b:Nat)(F:List Nat)(st:BSt)(i:Int)(num els:Nat)(w:World)(h:BRep w b F st)(hu:st.m.bytes.length<=1900000)(hn1:num<2^64)(hn2:els<2^64):
  Calls Tryz.prog 72 #[.pointer (some ⟨b,0,none⟩),.int .u8 8,.int .i64 i,.int .u64 num,.int .u64 els] w (BRes w b F (unitRes (st.prepSlot 8 (numB 8 num) i (sameNum 8 num els)))):=by
 have hc:=λ(x d:Int) (q:Bool) (hq:(x==d)=q)=>PrependInt64Slot_calls b F st i x d q hq w h hu;have HC:=Hd hc;obtain⟨q,hqd⟩:=exA (sameNum 8 num els);have hq1:num=els->q=true:=by rintro rfl;rw[hqd];simp[sameNum]
 have hq2:num≠els->q=false:=by intro hne;rw[hqd];simp[sameNum,hne]
 rw[<-hqd];obtain⟨res,hres⟩:=exA (st.prepSlot 8 (numB 8 num) i q);have hcs:res=none\/∃s,res=some s:=by cases res<;>simp
 rw[<-hres];have HR:=Hd hres;have HQ:=Hd (And.intro hq1 hq2);clear hc h hres hq1 hq2 hqd;rcases hcs with rfl|⟨s,rfl⟩
 all_goals
  go_enter Tryz.func72,Tryz.ntmps72;go_wp2_with fail;refine (HC.out _ _ q ?hq).mono ?_
  case hq =>
   by_cases he:num=els
   ·rw[HQ.out.1 he,he];simp
   ·rw[HQ.out.2 he];first|exact wi_wrap _ _ _ (by assumption) (by assumption) he|exact wi_32 _ _ (by assumption) (by assumption) he|exact wi_64 _ _ (by assumption) (by assumption) he|(rw[beq_eq_false_iff_ne];omega)
  first|rw[wc_mod _ _ _ (by rfl)]|rw[wc_wrap _ _ _ (by rfl)]|rw[wc_32]|rw[wc_64]|rw[leI_nat]
  rw[<-wc_lit 8 8 num (by decide) (by decide),<-HR.out]
 ·rintro e w1 ⟨⟨u,v,rfl⟩,hf⟩;exact⟨rfl,⟨u,v,rfl⟩,hf⟩
 ·rintro e w1 ⟨rfl,F1,hb1,ha1⟩;have HB:=Hd hb1;have HA:=Hd ha1;clear hb1 ha1;go_wp2_with fail;go_end0
  exact⟨rfl,F1,HB.out,HA.out⟩
theorem prepend_9(b:Nat)(F:List Nat)(st:BSt)(num:Nat)(w:World)(h:BRep w b F st)(hu:st.m.bytes.length<=1900000)(hn:num<2^32):
  Calls Tryz.prog 71 #[.pointer (some ⟨b,0,none⟩),.int .u8 9,.int .u64 num] w (BRes w b F (some (.tuple #[],{ st with m:=(st.m.prep 4 0).put (numB 9 num) }))):=by
 have hc:=λ(x:Nat)=>h.lift (v:=.tuple #[]) (m':=(st.m.prep 4 0).put (leI 4 x)) (λY r c hb=>PrependFloat32_calls b Y r st.m c x w hb hu);have HC:=Hd hc;have hf32:=run_f32frm;have hf64:=run_f64frm;clear hc h;go_enter Tryz.func71,Tryz.ntmps71;go_wp2_with fail
 ·refine (HC.out _).mono ?_;rintro e w1 ⟨rfl,F1,hb1,ha1⟩;first|rw[wc_mod _ _ _ (by rfl)] at hb1|rw[wc_wrap _ _ _ (by rfl)] at hb1|rw[wc_32] at hb1|rw[wc_64] at hb1|rw[leI_nat] at hb1
  rw[<-wc_lit 9 4 num (by decide) (by decide)] at hb1;have HB:=Hd hb1;have HA:=Hd ha1;clear hb1 ha1;go_wp2_with fail;go_end0
  exact⟨rfl,F1,HB.out,HA.out⟩
theorem prependSlot_9(b:Nat)(F:List Nat)(st:BSt)(i:Int)(num els:Nat)(w:World)(h:BRep w b F st)(hu:st.m.bytes.length<=1900000)(hn1:num<2^32)(hn2:els<2^32):
  Calls Tryz.prog 72 #[.pointer (some ⟨b,0,none⟩),.int .u8 9,.int .i64 i,.int .u64 num,.int .u64 els] w (BRes w b F (unitRes (st.prepSlot 4 (numB 9 num) i (sameNum 9 num els)))):=by
 have hc:=PrependFloat32Slot_calls b F st i num els _ (rfl:Op.floatEq .f32 num els=_) w h hu;rw[leI_nat,<-wc_lit 9 4 num (by decide) (by decide)] at hc;have e:Op.floatEq .f32 num els=sameNum 9 num els:=by simp[sameNum]
 rw[e] at hc;have HC:=Hd hc;have hf32:=run_f32frm;have hf64:=run_f64frm;obtain⟨res,hres⟩:=exA (st.prepSlot 4 (numB 9 num) i (sameNum 9 num els));have hcs:res=none\/∃s,res=some s:=by cases res<;>simp
 rw[<-hres] at HC ⊢;clear hc h hres e;rcases hcs with rfl|⟨s,rfl⟩
 all_goals
  go_enter Tryz.func72,Tryz.ntmps72;go_wp2_with fail;refine HC.out.mono ?_
 ·rintro e w1 ⟨⟨u,v,rfl⟩,hf⟩;exact⟨rfl,⟨u,v,rfl⟩,hf⟩
 ·rintro e w1 ⟨rfl,F1,hb1,ha1⟩;have HB:=Hd hb1;have HA:=Hd ha1;clear hb1 ha1;go_wp2_with fail;go_end0
  exact⟨rfl,F1,HB.out,HA.out⟩
theorem prepend_10(b:Nat)(F:List Nat)(st:BSt)(num:Nat)(w:World)(h:BRep w b F st)(hu:st.m.bytes.length<=1900000)(hn:num<2^64):
  Calls Tryz.prog 71 #[.pointer (some ⟨b,0,none⟩),.int .u8 10,.int .u64 num] w (BRes w b F (some (.tuple #[],{ st with m:=(st.m.prep 8 0).put (numB 10 num) }))):=by
 have hc:=λ(x:Nat)=>h.lift (v:=.tuple #[]) (m':=(st.m.prep 8 0).put (leI 8 x)) (λY r c hb=>PrependFloat64_calls b Y r st.m c x w hb hu);have HC:=Hd hc;have hf32:=run_f32frm;have hf64:=run_f64frm;clear hc h;go_enter Tryz.func71,Tryz.ntmps71;go_wp2_with fail
 ·refine (HC.out _).mono ?_;rintro e w1 ⟨rfl,F1,hb1,ha1⟩;first|rw[wc_mod _ _ _ (by rfl)] at hb1|rw[wc_wrap _ _ _ (by rfl)] at hb1|rw[wc_32] at hb1|rw[wc_64] at hb1|rw[leI_nat] at hb1
  rw[<-wc_lit 10 8 num (by decide) (by decide)] at hb1;have HB:=Hd hb1;have HA:=Hd ha1;clear hb1 ha1;go_wp2_with fail;go_end0
  exact⟨rfl,F1,HB.out,HA.out⟩
theorem prependSlot_10(b:Nat)(F:List Nat)(st:BSt)(i:Int)(num els:Nat)(w:World)(h:BRep w b F st)(hu:st.m.bytes.length<=1900000)(hn1:num<2^64)(hn2:els<2^64):
  Calls Tryz.prog 72 #[.pointer (some ⟨b,0,none⟩),.int .u8 10,.int .i64 i,.int .u64 num,.int .u64 els] w (BRes w b F (unitRes (st.prepSlot 8 (numB 10 num) i (sameNum 10 num els)))):=by
 have hc:=PrependFloat64Slot_calls b F st i num els _ (rfl:Op.floatEq .f64 num els=_) w h hu;rw[leI_nat,<-wc_lit 10 8 num (by decide) (by decide)] at hc;have e:Op.floatEq .f64 num els=sameNum 10 num els:=by simp[sameNum]
 rw[e] at hc;have HC:=Hd hc;have hf32:=run_f32frm;have hf64:=run_f64frm;obtain⟨res,hres⟩:=exA (st.prepSlot 8 (numB 10 num) i (sameNum 10 num els));have hcs:res=none\/∃s,res=some s:=by cases res<;>simp
 rw[<-hres] at HC ⊢;clear hc h hres e;rcases hcs with rfl|⟨s,rfl⟩
 all_goals
  go_enter Tryz.func72,Tryz.ntmps72;go_wp2_with fail;refine HC.out.mono ?_
 ·rintro e w1 ⟨⟨u,v,rfl⟩,hf⟩;exact⟨rfl,⟨u,v,rfl⟩,hf⟩
 ·rintro e w1 ⟨rfl,F1,hb1,ha1⟩;have HB:=Hd hb1;have HA:=Hd ha1;clear hb1 ha1;go_wp2_with fail;go_end0
  exact⟨rfl,F1,HB.out,HA.out⟩
theorem prepend_b(b:Nat)(F:List Nat)(st:BSt)(k:Int)(num:Nat)(w:World)(h:BRep w b F st)(hr:Right k num)(hu:st.m.bytes.length<=1900000):
  Calls Tryz.prog 71 #[.pointer (some ⟨b,0,none⟩),.int .u8 k,.int .u64 num] w (BRes w b F (unitRes (some { st with m:=(st.m.prep (numSize k) 0).put (numB k num) }))):=by
 obtain⟨h0,h1,h2,h3⟩:=hr;have:k=0\/k=1\/k=2\/k=3\/k=4\/k=5\/k=6\/k=7\/k=8\/k=9\/k=10:=by omega
 rcases this with rfl|rfl|rfl|rfl|rfl|rfl|rfl|rfl|rfl|rfl|rfl
 ·exact prepend_0 b F st num w h hu h3 (h2 rfl)
 ·exact prepend_1 b F st num w h hu h3
 ·exact prepend_2 b F st num w h hu h3
 ·exact prepend_3 b F st num w h hu h3
 ·exact prepend_4 b F st num w h hu h3
 ·exact prepend_5 b F st num w h hu h3
 ·exact prepend_6 b F st num w h hu h3
 ·exact prepend_7 b F st num w h hu h3
 ·exact prepend_8 b F st num w h hu h3
 ·exact prepend_9 b F st num w h hu h3
 ·exact prepend_10 b F st num w h hu h3
theorem prependSlot_b(b:Nat)(F:List Nat)(st:BSt)(k i:Int)(num els:Nat)(w:World)(h:BRep w b F st)(hr:Right k num)(hr2:Right k els)(hu:st.m.bytes.length<=1900000):
  Calls Tryz.prog 72 #[.pointer (some ⟨b,0,none⟩),.int .u8 k,.int .i64 i,.int .u64 num,.int .u64 els] w (BRes w b F (unitRes (st.prepSlot (numSize k) (numB k num) i (sameNum k num els)))):=by
 obtain⟨h0,h1,h2,h3⟩:=hr;obtain⟨_,_,g2,g3⟩:=hr2;have:k=0\/k=1\/k=2\/k=3\/k=4\/k=5\/k=6\/k=7\/k=8\/k=9\/k=10:=by omega
 rcases this with rfl|rfl|rfl|rfl|rfl|rfl|rfl|rfl|rfl|rfl|rfl
 ·exact prependSlot_0 b F st i num els w h hu (h2 rfl) (g2 rfl)
 ·exact prependSlot_1 b F st i num els w h hu h3 g3
 ·exact prependSlot_2 b F st i num els w h hu h3 g3
 ·exact prependSlot_3 b F st i num els w h hu h3 g3
 ·exact prependSlot_4 b F st i num els w h hu h3 g3
 ·exact prependSlot_5 b F st i num els w h hu h3 g3
 ·exact prependSlot_6 b F st i num els w h hu h3 g3
 ·exact prependSlot_7 b F st i num els w h hu h3 g3
 ·exact prependSlot_8 b F st i num els w h hu h3 g3
 ·exact prependSlot_9 b F st i num els w h hu h3 g3
 ·exact prependSlot_10 b F st i num els w h hu h3 g3
theorem BRep.below{w:World}{b:Nat}{F:List Nat}{st:BSt}(h:BRep w b F st):∀k∈F,k<w.heap.size:=by
 obtain⟨Y,V,G,M,r,c,rfl,hb,ho⟩:=h;have hbl:=lt_of_block hb.hb;have hYl:=lt_of_block hb.hy;have hG:G<w.heap.size:=by obtain⟨cv,_,h2,_⟩:=ho.vs;exact lt_of_block h2
 have hV:V<w.heap.size:=by
  have hvt:=ho.vt;cases hc:st.vtab with
  | none=>rw[hc] at hvt;rw[hvt.2];exact hbl
  | some l=>rw[hc] at hvt;obtain⟨cv,_,h2,_⟩:=hvt;exact lt_of_block h2
 have hM:M<w.heap.size:=by
  have hsh:=ho.sh;cases hc:st.shared with
  | none=>rw[hc] at hsh;rw[hsh.2];exact hbl
  | some D=>rw[hc] at hsh;exact hsh.lt
 intro k hk;simp only[List.mem_cons,List.not_mem_nil,or_false] at hk;rcases hk with rfl|rfl|rfl|rfl|rfl<;>assumption
theorem BRep.keep{w w':World}{S:Nat->Prop}{b:Nat}{F:List Nat}{st:BSt}(h:BRep w b F st)(hf:Fr S w w')(hS:∀k∈F,¬S k):BRep w' b F st:=by
 obtain⟨Y,V,G,M,r,c,rfl,hb,ho⟩:=h;exact⟨Y,V,G,M,r,c,rfl,hb.fr hf (hS b (by simp)) (hS Y (by simp)),ho.fr hf (λ_=>hS V (by simp)) (hS G (by simp)) (λ_=>hS M (by simp))⟩
structure Grow(m m':BM)(k:Nat):Prop where
 bytes:∃xs,m'.bytes=xs++m.bytes/\xs.length<=k
 least:algn m.least->algn m'.least
theorem Grow.refl(m:BM):Grow m m 0:=⟨⟨[],rfl,Nat.le_refl _⟩,id⟩
theorem Grow.trans{a b c:BM}{k j:Nat}(h:Grow a b k)(g:Grow b c j):Grow a c (k+j):=by
 obtain⟨⟨xs,h1,h2⟩,h3⟩:=h;obtain⟨⟨ys,g1,g2⟩,g3⟩:=g;exact⟨⟨ys++xs,by rw[g1,h1,List.append_assoc],by rw[List.length_append];omega⟩,λx=>g3 (h3 x)⟩
theorem Grow.mono{a b:BM}{k j:Nat}(h:Grow a b k)(hj:k<=j):Grow a b j:=by
 obtain⟨⟨xs,h1,h2⟩,h3⟩:=h;exact⟨⟨xs,h1,by omega⟩,h3⟩
theorem Grow.prep(m:BM)(size add:Nat)(hs:algn size):Grow m (m.prep size add) 16:=by
 refine⟨⟨List.replicate (m.pad size add) 0,rfl,?_⟩,λh=>?_⟩
 ·have:=m.pad_lt size add hs
  have:=algn_le hs
  simp;omega
 ·show algn (max m.least size);rcases Nat.le_total m.least size with h1|h1
  ·rw[Nat.max_eq_right h1];exact hs
  ·rw[Nat.max_eq_left h1];exact h
theorem Grow.put(m:BM)(xs:List UInt8):Grow m (m.put xs) xs.length:=⟨⟨xs,rfl,Nat.le_refl _⟩,id⟩
theorem Grow.len{m m':BM}{k:Nat}(h:Grow m m' k):m.bytes.length<=m'.bytes.length/\m'.bytes.length<=m.bytes.length+k:=by
 obtain⟨⟨xs,h1,h2⟩,_⟩:=h;rw[h1,List.length_append];omega
theorem Grow.prepPut(m:BM)(size:Nat)(xs:List UInt8)(hs:algn size)(hx:xs.length<=16):Grow m ((m.prep size 0).put xs) 40:=((Grow.prep m size 0 hs).trans (Grow.put _ xs)).mono (by omega)
theorem Grow.text(m:BM)(xs:List UInt8)(z:Bool):Grow m (m.text xs z) (xs.length+21):=by
 cases z with
 | true =>
  exact ((((Grow.prep m 4 (xs.length+1) (by unfold algn;omega)).trans (Grow.put _ [0])).trans (Grow.put _ xs)).trans (Grow.put _ (leB 4 xs.length))).mono (by simp[leB_length];omega)
 | false =>
  exact (((Grow.prep m 4 xs.length (by unfold algn;omega)).trans (Grow.put _ xs)).trans (Grow.put _ (leB 4 xs.length))).mono (by simp[leB_length];omega)
theorem Grow.refer{m m':BM}{off:Nat}(h:m.refer off=some m'):Grow m m' 40:=by
 unfold BM.refer at h;split at h
 ·injection h with h;rw[<-h];exact Grow.prepPut m 4 _ (by unfold algn;omega) (by rw[leB_length];omega)
 ·cases h
theorem Grow.vtPut(o:Nat):∀(l:List Nat) (m:BM),Grow m (vtPut o l m) (4*l.length)
 | [],m=>Grow.refl m
 | f::l,m=>by
  rw[vtPut_cons];have h1:=Grow.vtPut o l m;have h2:Grow (Proofs.YtcfblkkpclfmaaaGreat.vtPut o l m) (((Proofs.YtcfblkkpclfmaaaGreat.vtPut o l m).prep 2 0).put (leI 2 (if f=0 then 0 else (o:Int)-(f:Int)))) 4:=by
   refine⟨⟨leI 2 (if f=0 then 0 else (o:Int)-(f:Int))++List.replicate ((Proofs.YtcfblkkpclfmaaaGreat.vtPut o l m).pad 2 0) 0,?_,?_⟩,(Grow.prep _ 2 0 (by unfold algn;omega)).least⟩
   ·show _++(_++_)=_;rw[List.append_assoc]
   ·have:=(Proofs.YtcfblkkpclfmaaaGreat.vtPut o l m).pad_lt 2 0 (by unfold algn;omega)
    simp[leI_length];omega
  exact (h1.trans h2).mono (by simp;omega)
theorem over_app(m:BM)(ys a rest xs:List UInt8)(o:Nat)(h:m.bytes=ys++(a++rest))(ho:o=a.length+rest.length)(hx:xs.length=a.length):(m.over o xs).bytes=ys++(xs++rest):=by
 show m.bytes.take (m.bytes.length-o)++xs++m.bytes.drop (m.bytes.length-o+xs.length)=_;have hl:m.bytes.length-o=ys.length:=by rw[h];simp only[List.length_append];omega
 rw[hl,h,List.take_left,hx,List.append_assoc,<-List.append_assoc ys a rest,show ys.length+a.length=(ys++a).length by simp,List.drop_left]
theorem BSt.vt1_split(st:BSt):∃a zs,st.vt1.bytes=a++(zs++st.m.bytes)/\a.length=4/\zs.length<=3:=by
 refine⟨leB 4 ((st.m.prep 4 0).bytes.length+4),List.replicate (st.m.pad 4 0) 0,rfl,leB_length _ _,?_⟩;have:=st.m.pad_lt 4 0 (by unfold algn;omega)
 simp;omega
theorem Grow.vt1(st:BSt):Grow st.m st.vt1 20:=((Grow.prep st.m 4 0 (by unfold algn;omega)).trans (Grow.put _ _)).mono (by rw[leB_length];omega)
theorem Grow.over{m0 m1 m:BM}{ys a zs xs:List UInt8}{k:Nat}(h1:m1.bytes=a++(zs++m0.bytes))(h:m.bytes=ys++m1.bytes)(hx:xs.length=a.length)(hk:ys.length+a.length+zs.length<=k)(hl:algn m0.least->algn m.least):Grow m0 (m.over m1.bytes.length xs) k:=by
 refine⟨⟨ys++(xs++zs),?_,by simp only[List.length_append];omega⟩,hl⟩;rw[over_app m ys a (zs++m0.bytes) xs _ (by rw[h,h1]) (by rw[h1];simp) hx];simp[List.append_assoc]
theorem Grow.vt4(st:BSt)(l:List Nat):Grow st.vt1 (st.vt4 l) (4*l.length+80):=by
 unfold BSt.vt4;exact (((Grow.vtPut _ l st.vt1).trans (Grow.prepPut _ 2 _ (by unfold algn;omega) (by rw[leI_length];omega))).trans (Grow.prepPut _ 2 _ (by unfold algn;omega) (by rw[leI_length];omega))).mono (by omega)
structure StInv(st:BSt)(i:Nat):Prop where
 inv:BInv st
 least:algn st.m.least
 many:st.vts.length<=i
 sh:Maps.size (st.shared.getD (.map []))<=i
 len:st.m.bytes.length<=5000*i
theorem StInv.start(n:Nat):StInv (st0 n) 0:=⟨⟨λv hv=>by simp[st0] at hv,λl hl=>by simp[st0] at hl,by simp[st0],by simp[st0]⟩,by unfold algn;simp[st0],by simp[st0],by simp[st0,Maps.size],by simp[st0]⟩
theorem StInv.grow{st st':BSt}{i k:Nat}(h:StInv st i)(g:Grow st.m st'.m k)(hk:k<=5000)(hv:∀l,st'.vtab=some l->l.length<=1000/\∀x∈l,x<=st'.m.bytes.length)(hvs:st'.vts=st.vts)(hoe:st'.oend<=st'.m.bytes.length)(hsh:Maps.size (st'.shared.getD (.map []))<=i+1):StInv st' (i+1):=by
 obtain⟨xs,hx,hxl⟩:=g.bytes;have hl:=g.len;refine⟨⟨λv hvm=>?_,hv,hoe,by rw[hvs];exact h.inv.many⟩,g.least h.least,by rw[hvs];have:=h.many;omega,hsh,by have:=h.len;omega⟩;rw[hvs] at hvm;have:=h.inv.vts v hvm
 rw[vtLen_app hx v this.1];omega
theorem StInv.bytes{st:BSt}{m':BM}{i k:Nat}(h:StInv st i)(g:Grow st.m m' k)(hk:k<=5000):StInv { st with m:=m' } (i+1):=by
 have hl:=g.len;refine h.grow (st':={ st with m:=m' }) g hk (λl hl'=>?_) rfl (by have:=h.inv.oend;show st.oend<=m'.bytes.length;omega) (by have:=h.sh;show Maps.size (st.shared.getD _)<=_;omega);have:=h.inv.vtab l hl'
 exact⟨this.1,λx hx=>by have:=this.2 x hx;show x<=m'.bytes.length;omega⟩
theorem StInv.up{st:BSt}{i:Nat}(h:StInv st i):StInv st (i+1):=h.bytes (m':=st.m) (Grow.refl _) (by omega)
theorem numSize_algn{k:Int}(h0:0<=k)(h1:k<=10):algn (numSize k):=by
 have:k=0\/k=1\/k=2\/k=3\/k=4\/k=5\/k=6\/k=7\/k=8\/k=9\/k=10:=by omega
 unfold algn;rcases this with rfl|rfl|rfl|rfl|rfl|rfl|rfl|rfl|rfl|rfl|rfl<;>simp[numSize]
theorem Grow.scalar(m:BM){k:Int}(n:Nat)(h0:0<=k)(h1:k<=10):Grow m ((m.prep (numSize k) 0).put (numB k n)) 40 :=
 Grow.prepPut m _ _ (numSize_algn h0 h1) (by rw[numB_length];have:=numSize_le k;omega)
theorem StInv.same{st st':BSt}{i:Nat}(h:StInv st i)(hm:st'.m=st.m)(hv:st'.vtab=st.vtab)(ho:st'.oend=st.oend)(hvs:st'.vts=st.vts)(hs:st'.shared=st.shared):StInv st' i:=by
 obtain⟨⟨a,b,c,d⟩,e,f,g,l⟩:=h;exact⟨⟨by rw[hvs,hm];exact a,by rw[hv,hm];exact b,by rw[ho,hm];exact c,by rw[hvs];exact d⟩,by rw[hm];exact e,by rw[hvs];exact f,by rw[hs];exact g,by rw[hm];exact l⟩
theorem StInv.created{st st':BSt}{xs:List UInt8}{z:Bool}{n i:Nat}(h:StInv st i)(hx:xs.length<=1000)(e:st.created xs z=some (n,st')):StInv st' (i+1):=by
 cases hn:st.nested with
 | true=>rw[created_none _ _ _ hn] at e;cases e
 | false =>
  rw[created_eq _ _ _ hn] at e;injection e with e;injection e with _ e;subst e;exact (h.bytes (Grow.text st.m xs z) (by omega)).same rfl rfl rfl rfl rfl
theorem trimZ_le(l:List Nat):(trimZ l).length<=l.length:=by
 unfold trimZ;rw[List.length_reverse];have:=List.length_filter_le (λ_:Nat=>true) l.reverse
 have h:=List.dropWhile_suffix (p:=λx:Nat=>x==0) (l:=l.reverse);have:=h.length_le
 simpa using this
theorem BSt.vt4_front(st:BSt)(l:List Nat):∃ys,(st.vt4 l).bytes=leI 2 (((l.length+2)*2:Nat):Int)++ys:=⟨_,rfl⟩
theorem vt4_len(st:BSt)(l:List Nat):st.vt1.bytes.length+4<=(st.vt4 l).bytes.length/\st.vt1.bytes.length+2*l.length+4<=(st.vt4 l).bytes.length:=by
 have h3:∀(l:List Nat) (m:BM),m.bytes.length+2*l.length<=(vtPut st.vt1.bytes.length l m).bytes.length:=by
  intro l;induction l with
  | nil=>intro m;simp[vtPut]
  | cons f l ih =>
   intro m;rw[vtPut_cons,List.length_cons];have:=ih m
   have:=BM.step2_len (vtPut st.vt1.bytes.length l m) (leI 2 (if f=0 then 0 else (st.vt1.bytes.length:Int)-(f:Int))) (leI_length _ _)
   omega
 have h0:=h3 l st.vt1;have h1:=BM.step2_len (vtPut st.vt1.bytes.length l st.vt1) (leI 2 ((st.vt1.bytes.length:Int)-st.oend)) (leI_length _ _);have h2:=BM.step2_len (((vtPut st.vt1.bytes.length l st.vt1).prep 2 0).put (leI 2 ((st.vt1.bytes.length:Int)-st.oend))) (leI 2 (((l.length+2)*2:Nat):Int)) (leI_length _ _);unfold BSt.vt4;omega
theorem writeVt_grow(st:BSt)(l0:List Nat)(hl:st.vtab.getD []=l0)(hl2:l0.length<=1000):Grow st.m st.writeVt.m 4200:=by
 have ht:=trimZ_le l0;obtain⟨a,zs,h1,h2,h3⟩:=st.vt1_split;have g1:=Grow.vt1 st;unfold BSt.writeVt;rw[hl];cases vtFind st.vt1 st.vt1.bytes.length (trimZ l0) st.vts with
 | some v=>exact Grow.over (ys:=[]) h1 (by simp) (by rw[leI_length,h2]) (by simp;omega) g1.least
 | none =>
  have g4:=Grow.vt4 st (trimZ l0);obtain⟨ys,h5,h6⟩:=g4.bytes;exact Grow.over (ys:=ys) h1 h5 (by rw[leI_length,h2]) (by omega) (λx=>g4.least (g1.least x))
theorem leI2_front(n:Nat)(ys:List UInt8)(h:n<65536):le ((leI 2 (n:Int)++ys).take 2)=n:=by
 rw[leI_nat];have:(leB 2 n++ys).take 2=leB 2 n:=by
  have h2:(leB 2 n).length=2:=leB_length 2 n;rw[List.take_append_of_le_length (by omega),List.take_of_length_le (by omega)]
 rw[this,le_leB];exact Nat.mod_eq_of_lt (by omega)
theorem StInv.writeVt{st:BSt}{i:Nat}(h:StInv st i)(hi:i<=300):StInv { st.writeVt with nested:=false } (i+1):=by
 obtain⟨l0,hl0⟩:=exA (st.vtab.getD []);have hl2:l0.length<=1000:=by
  rw[hl0];cases hv:st.vtab with
  | none=>simp
  | some l=>exact (h.inv.vtab l hv).1
 have g:=writeVt_grow st l0 hl0.symm hl2;have ht:=trimZ_le l0;have hvt:∀l,(st.vtab.map λ_=>([]:List Nat))=some l->l=[]:=by
  intro l e;cases hv:st.vtab with
  | none=>rw[hv] at e;cases e
  | some l'=>rw[hv] at e;injection e with e;exact e.symm
 have hgl:=g.len;have hoe:=h.inv.oend;have hsh:st.writeVt.shared=st.shared:=by unfold BSt.writeVt;split<;>rfl
 have hoo:st.writeVt.oend=st.oend:=by unfold BSt.writeVt;split<;>rfl
 have hvv:st.writeVt.vtab=st.vtab.map λ_=>[]:=by unfold BSt.writeVt;split<;>rfl
 cases hf:vtFind st.vt1 st.vt1.bytes.length (trimZ (st.vtab.getD [])) st.vts with
 | some v =>
  have hvs:st.writeVt.vts=st.vts:=by unfold BSt.writeVt;rw[hf]
  exact h.grow (st':={ st.writeVt with nested:=false }) g (by omega) (λl hl=>by
   have hl:st.writeVt.vtab=some l:=hl;rw[hvv] at hl;rw[hvt l hl];simp) hvs (by show st.writeVt.oend<=_;rw[hoo];show _<=st.writeVt.m.bytes.length;omega) (by show Maps.size (st.writeVt.shared.getD _)<=_;rw[hsh];have:=h.sh;omega)
 | none =>
  rw[<-hl0] at hf;obtain⟨m4,hm4⟩:=exA (st.vt4 (trimZ l0));have hw:st.writeVt={ st with m:=m4.over st.vt1.bytes.length (leI 4 ((m4.bytes.length:Int)-st.vt1.bytes.length)),vtab:=st.vtab.map (λ_=>[]),vts:=st.vts++[m4.bytes.length] }:=by
   unfold BSt.writeVt;rw[<-hl0,hf,hm4]
  have h4:=vt4_len st (trimZ l0);rw[<-hm4] at h4;have hol:=BM.over_len m4 st.vt1.bytes.length (leI 4 ((m4.bytes.length:Int)-st.vt1.bytes.length)) (by rw[leI_length];obtain⟨a,zs,h1,h2,h3⟩:=st.vt1_split;rw[h1];simp only[List.length_append];omega) (by omega);have hfr:∃ys,(m4.over st.vt1.bytes.length (leI 4 ((m4.bytes.length:Int)-st.vt1.bytes.length))).bytes=leI 2 ((((trimZ l0).length+2)*2:Nat):Int)++ys:=by
   obtain⟨ys,hys⟩:=BSt.vt4_front st (trimZ l0);rw[<-hm4] at hys;have hyl:2<=m4.bytes.length-st.vt1.bytes.length:=(by omega);refine⟨ys.take (m4.bytes.length-st.vt1.bytes.length-2)++leI 4 ((m4.bytes.length:Int)-st.vt1.bytes.length)++m4.bytes.drop (m4.bytes.length-st.vt1.bytes.length+(leI 4 ((m4.bytes.length:Int)-st.vt1.bytes.length)).length),?_⟩;show m4.bytes.take (m4.bytes.length-st.vt1.bytes.length)++_++_=_;have e:m4.bytes.take (m4.bytes.length-st.vt1.bytes.length)=leI 2 ((((trimZ l0).length+2)*2:Nat):Int)++ys.take (m4.bytes.length-st.vt1.bytes.length-2):=by
    conv=>lhs;arg 2;rw[hys]
    rw[List.take_append,leI_length,List.take_of_length_le (by rw[leI_length];omega)]
   rw[e];simp only[List.append_assoc]
  rw[hw] at g hgl ⊢;obtain⟨xs,hx,hxl⟩:=g.bytes;dsimp only at hx hgl;refine⟨⟨λv hvm=>?_,λl hl=>?_,?_,?_⟩,g.least h.least,?_,?_,?_⟩
  ·dsimp only at hvm ⊢;rcases List.mem_append.1 hvm with hvm|hvm
   ·have:=h.inv.vts v hvm
    rw[vtLen_app hx v this.1];omega
   ·simp only[List.mem_singleton] at hvm;subst hvm;have hlen:vtLen (m4.over st.vt1.bytes.length (leI 4 ((m4.bytes.length:Int)-st.vt1.bytes.length))) m4.bytes.length=((trimZ l0).length+2)*2:=by
     unfold vtLen fromEnd;rw[hol,Nat.sub_self,List.drop_zero];obtain⟨ys,hys⟩:=hfr;rw[hys];exact leI2_front _ ys (by omega)
    rw[hlen,hol];omega
  ·dsimp only at hl ⊢;rw[hvt l hl];simp
  ·dsimp only;omega
  ·dsimp only;rw[List.length_append,List.length_singleton];have:=h.many;omega
  ·dsimp only;rw[List.length_append,List.length_singleton];have:=h.many;omega
  ·dsimp only;have:=h.sh;omega
  ·dsimp only;have:=h.len;omega
theorem put_size(D:DataW Unit)(k:Lit)(d:DataW Unit):Maps.size (D.put k d)<=Maps.size D+1:=by
 cases D with
 | map es =>
  rw[DataW.put_eq];unfold ChangeMaps.putKey;simp only[Maps.size];rw[length_insert];have:=List.length_filter_le (ChangeMaps.notKey k) es
  omega
 | _=>simp[DataW.put,Maps.size]
end Go.Proofs.YtcfblkkpclfmaaaGreat
