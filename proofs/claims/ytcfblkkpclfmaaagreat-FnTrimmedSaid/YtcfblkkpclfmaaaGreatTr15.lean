/- Part 15 of the proof of FnTrimmed (Kinds, KindsB, Keep). No condition is laid on the statement. -/
import Derived.Test.YtcfblkkpclfmaaaGreatTr14
import Derived.IntWalk
import Derived.Test.YtcfblkkpclfmaaaGreatTr08
set_option linter.unusedVariables false
set_option linter.unusedSimpArgs false
namespace Go.Proofs.YtcfblkkpclfmaaaGreat
open Go.RowKit
theorem run_f32frm (n:Int) (w:World):(callFunc 125 #[.int .u32 n]).run Tryz.prog w=.ok (.value (.float .f32 n.toNat)) w:=by kernel_rfl
theorem run_f64frm (n:Int) (w:World):(callFunc 127 #[.int .u64 n]).run Tryz.prog w=.ok (.value (.float .f64 n.toNat)) w:=by kernel_rfl
theorem wc_mod (s n:Nat) (m:Int) (h:m=2 ^ (8*s)):leI s ((n:Int) % m)=leB s n:=by
 rw [← leI_nat];exact leI_congr s (by rw [h,Int.emod_emod])
theorem wc_wrap (k:IntKind) (s n:Nat) (h:k.bits=8*s):leI s (k.wrap (n:Int))=leB s n:=by
 rw [← leI_nat];exact leI_congr s (by rw [← h,wrap_emod])
theorem wc_32 (n:Nat):leI 4 (wrap32 (n:Int))=leB 4 n:=by rw [← IntWalk.i32_left];exact wc_wrap .i32 4 n rfl
theorem wc_64 (n:Nat):leI 8 (wrap64 (n:Int))=leB 8 n:=by rw [← IntWalk.i64_left];exact wc_wrap .i64 8 n rfl
theorem wc_lit (k:Int) (s n:Nat) (hk:k≠0) (hs:numSize k=s):numB k n=leB s n:=by simp [numB,hk,hs]
theorem wi_wrap (k:IntKind) (a b:Nat) (ha:a<2 ^ k.bits) (hb:b<2 ^ k.bits) (h:a≠b):(k.wrap (a:Int) == k.wrap (b:Int))=false:=by
 rw [beq_eq_false_iff_ne]
 intro e
 have h1:=wrap_emod k (a:Int)
 rw [e,wrap_emod k (b:Int)] at h1
 have ea:((a:Nat):Int) % 2 ^ k.bits=a:=Int.emod_eq_of_lt (by omega) (by exact_mod_cast ha)
 have eb:((b:Nat):Int) % 2 ^ k.bits=b:=Int.emod_eq_of_lt (by omega) (by exact_mod_cast hb)
 rw [ea,eb] at h1
 omega
theorem wi_32 (a b:Nat) (ha:a<2 ^ 32) (hb:b<2 ^ 32) (h:a≠b):(wrap32 (a:Int) == wrap32 (b:Int))=false:=by
 rw [← IntWalk.i32_left,← IntWalk.i32_left];exact wi_wrap .i32 a b ha hb h
theorem wi_64 (a b:Nat) (ha:a<2 ^ 64) (hb:b<2 ^ 64) (h:a≠b):(wrap64 (a:Int) == wrap64 (b:Int))=false:=by
 rw [← IntWalk.i64_left,← IntWalk.i64_left];exact wi_wrap .i64 a b ha hb h
/-- The bits of a scalar are those of its kind. -/
def Right (k:Int) (n:Nat):Prop:=0≤k∧k≤10∧(k=0→n≤1)∧n<2 ^ (8*numSize k)
/-- Two scalars are one: floating point numbers as numbers. -/
def sameNum (k:Int) (a b:Nat):Bool:=if k=9 then Op.floatEq .f32 a b else if k=10 then Op.floatEq .f64 a b else decide (a=b)
theorem prepend_0 (b:Nat) (F:List Nat) (st:BSt) (num:Nat) (w:World) (h:BRep w b F st) (hu:st.m.bytes.length≤1900000) (hn:num<2 ^ 8) (hn1:num≤1) :
  Calls Tryz.prog 71 #[.pointer (some ⟨b,0,none⟩),.int .u8 0,.int .u64 num] w (BRes w b F (some (.tuple #[],{ st with m:=(st.m.prep 1 0).put (numB 0 num) }))):=by
 have hc:=fun x:Bool=>h.lift (v:=.tuple #[]) (m':=(st.m.prep 1 0).put (leI 1 (b01 x))) (fun Y r c hb=>PrependBool_calls b Y r st.m c x w hb hu)
 have HC:=Hd hc
 clear hc h hn
 rcases (show num=0∨num=1 by omega) with rfl | rfl
 all_goals
  go_enter Tryz.func71,Tryz.ntmps71
  go_wp2_with (first | (go_at_call 115;go_in))
  refine (HC.out _).mono ?_
  rintro e w1 ⟨rfl,F1,hb1,ha1⟩
  have HB:=Hd hb1
  have HA:=Hd ha1
  clear hb1 ha1
  go_wp2_with fail
  go_end0
  exact ⟨rfl,F1,HB.out,HA.out⟩
theorem prependSlot_0 (b:Nat) (F:List Nat) (st:BSt) (i:Int) (num els:Nat) (w:World) (h:BRep w b F st) (hu:st.m.bytes.length≤1900000) (hn1:num≤1) (hn2:els≤1) :
  Calls Tryz.prog 72 #[.pointer (some ⟨b,0,none⟩),.int .u8 0,.int .i64 i,.int .u64 num,.int .u64 els] w (BRes w b F (unitRes (st.prepSlot 1 (numB 0 num) i (sameNum 0 num els)))):=by
 have hc:=fun x d:Bool=>PrependBoolSlot_calls b F st i x d w h hu
 have HC:=Hd hc
 obtain ⟨res,hres⟩:∃ res,res=st.prepSlot 1 (numB 0 num) i (sameNum 0 num els):=⟨_,rfl⟩
 have hcs:res=none∨∃ s,res=some s:=by cases res <;> simp
 rw [← hres]
 have HR:=Hd hres
 clear hc h hres
 rcases (show num=0∨num=1 by omega) with rfl | rfl <;> rcases (show els=0∨els=1 by omega) with rfl | rfl
 all_goals
  rcases hcs with rfl | ⟨s,rfl⟩
  all_goals
   go_enter Tryz.func72,Tryz.ntmps72
   go_wp2_with (first | (go_at_call 115;go_in))
   refine (HC.out _ _).mono ?_
   intro e w1 hbr
   have hr2:=HR.out
   first
    | (have hbr:BRes w b F (unitRes none) e w1:=by rw [hr2];exact hbr
       obtain ⟨⟨u,v,rfl⟩,hf⟩:=hbr
       exact ⟨rfl,⟨u,v,rfl⟩,hf⟩)
    | (have hbr:BRes w b F (unitRes (some s)) e w1:=by rw [hr2];exact hbr
       obtain ⟨rfl,F1,hb1,ha1⟩:=hbr
       have HB:=Hd hb1
       have HA:=Hd ha1
       clear hb1 ha1 hr2
       go_wp2_with fail
       go_end0
       exact ⟨rfl,F1,HB.out,HA.out⟩)
theorem prepend_1 (b:Nat) (F:List Nat) (st:BSt) (num:Nat) (w:World) (h:BRep w b F st) (hu:st.m.bytes.length≤1900000) (hn:num<2 ^ 8) :
  Calls Tryz.prog 71 #[.pointer (some ⟨b,0,none⟩),.int .u8 1,.int .u64 num] w (BRes w b F (some (.tuple #[],{ st with m:=(st.m.prep 1 0).put (numB 1 num) }))):=by
 have hc:=fun x h0 h1=>h.lift (v:=.tuple #[]) (m':=(st.m.prep 1 0).put (leI 1 x)) (fun Y r c hb=>PrependUint8_calls b Y r st.m c x h0 h1 w hb hu)
 have HC:=Hd hc
 clear hc h
 go_enter Tryz.func71,Tryz.ntmps71
 go_wp2_with fail
 ·refine (HC.out _ (by omega) (by omega)).mono ?_
  rintro e w1 ⟨rfl,F1,hb1,ha1⟩
  first | rw [wc_mod _ _ _ (by rfl)] at hb1 | rw [wc_wrap _ _ _ (by rfl)] at hb1 | rw [wc_32] at hb1 | rw [wc_64] at hb1 | rw [leI_nat] at hb1
  rw [← wc_lit 1 1 num (by decide) (by decide)] at hb1
  have HB:=Hd hb1
  have HA:=Hd ha1
  clear hb1 ha1
  go_wp2_with fail
  go_end0
  exact ⟨rfl,F1,HB.out,HA.out⟩
theorem prependSlot_1 (b:Nat) (F:List Nat) (st:BSt) (i:Int) (num els:Nat) (w:World) (h:BRep w b F st) (hu:st.m.bytes.length≤1900000) (hn1:num<2 ^ 8) (hn2:els<2 ^ 8) :
  Calls Tryz.prog 72 #[.pointer (some ⟨b,0,none⟩),.int .u8 1,.int .i64 i,.int .u64 num,.int .u64 els] w (BRes w b F (unitRes (st.prepSlot 1 (numB 1 num) i (sameNum 1 num els)))):=by
 have hc:=fun (x d:Int) (h0:0≤x) (h1:x<256) (q:Bool) (hq:(x == d)=q)=>PrependUint8Slot_calls b F st i x d h0 h1 q hq w h hu
 have HC:=Hd hc
 obtain ⟨q,hqd⟩:∃ q,q=sameNum 1 num els:=⟨_,rfl⟩
 have hq1:num=els→q=true:=by rintro rfl;rw [hqd];simp [sameNum]
 have hq2:num≠els→q=false:=by intro hne;rw [hqd];simp [sameNum,hne]
 rw [← hqd]
 obtain ⟨res,hres⟩:∃ res,res=st.prepSlot 1 (numB 1 num) i q:=⟨_,rfl⟩
 have hcs:res=none∨∃ s,res=some s:=by cases res <;> simp
 rw [← hres]
 have HR:=Hd hres
 have HQ:=Hd (And.intro hq1 hq2)
 clear hc h hres hq1 hq2 hqd
 rcases hcs with rfl | ⟨s,rfl⟩
 all_goals
  go_enter Tryz.func72,Tryz.ntmps72
  go_wp2_with fail
  refine (HC.out _ _ (by omega) (by omega) q ?hq).mono ?_
  case hq =>
   by_cases he:num=els
   ·rw [HQ.out.1 he,he];simp
   ·rw [HQ.out.2 he]
    first | exact wi_wrap _ _ _ (by assumption) (by assumption) he | exact wi_32 _ _ (by assumption) (by assumption) he | exact wi_64 _ _ (by assumption) (by assumption) he | (rw [beq_eq_false_iff_ne];omega)
  first | rw [wc_mod _ _ _ (by rfl)] | rw [wc_wrap _ _ _ (by rfl)] | rw [wc_32] | rw [wc_64] | rw [leI_nat]
  rw [← wc_lit 1 1 num (by decide) (by decide),← HR.out]
 ·rintro e w1 ⟨⟨u,v,rfl⟩,hf⟩
  exact ⟨rfl,⟨u,v,rfl⟩,hf⟩
 ·rintro e w1 ⟨rfl,F1,hb1,ha1⟩
  have HB:=Hd hb1
  have HA:=Hd ha1
  clear hb1 ha1
  go_wp2_with fail
  go_end0
  exact ⟨rfl,F1,HB.out,HA.out⟩
theorem prepend_2 (b:Nat) (F:List Nat) (st:BSt) (num:Nat) (w:World) (h:BRep w b F st) (hu:st.m.bytes.length≤1900000) (hn:num<2 ^ 8) :
  Calls Tryz.prog 71 #[.pointer (some ⟨b,0,none⟩),.int .u8 2,.int .u64 num] w (BRes w b F (some (.tuple #[],{ st with m:=(st.m.prep 1 0).put (numB 2 num) }))):=by
 have hc:=fun x=>h.lift (v:=.tuple #[]) (m':=(st.m.prep 1 0).put (leI 1 x)) (fun Y r c hb=>PrependInt8_calls b Y r st.m c x w hb hu)
 have HC:=Hd hc
 clear hc h
 go_enter Tryz.func71,Tryz.ntmps71
 go_wp2_with fail
 ·refine (HC.out _).mono ?_
  rintro e w1 ⟨rfl,F1,hb1,ha1⟩
  first | rw [wc_mod _ _ _ (by rfl)] at hb1 | rw [wc_wrap _ _ _ (by rfl)] at hb1 | rw [wc_32] at hb1 | rw [wc_64] at hb1 | rw [leI_nat] at hb1
  rw [← wc_lit 2 1 num (by decide) (by decide)] at hb1
  have HB:=Hd hb1
  have HA:=Hd ha1
  clear hb1 ha1
  go_wp2_with fail
  go_end0
  exact ⟨rfl,F1,HB.out,HA.out⟩
theorem prependSlot_2 (b:Nat) (F:List Nat) (st:BSt) (i:Int) (num els:Nat) (w:World) (h:BRep w b F st) (hu:st.m.bytes.length≤1900000) (hn1:num<2 ^ 8) (hn2:els<2 ^ 8) :
  Calls Tryz.prog 72 #[.pointer (some ⟨b,0,none⟩),.int .u8 2,.int .i64 i,.int .u64 num,.int .u64 els] w (BRes w b F (unitRes (st.prepSlot 1 (numB 2 num) i (sameNum 2 num els)))):=by
 have hc:=fun (x d:Int) (q:Bool) (hq:(x == d)=q)=>PrependInt8Slot_calls b F st i x d q hq w h hu
 have HC:=Hd hc
 obtain ⟨q,hqd⟩:∃ q,q=sameNum 2 num els:=⟨_,rfl⟩
 have hq1:num=els→q=true:=by rintro rfl;rw [hqd];simp [sameNum]
 have hq2:num≠els→q=false:=by intro hne;rw [hqd];simp [sameNum,hne]
 rw [← hqd]
 obtain ⟨res,hres⟩:∃ res,res=st.prepSlot 1 (numB 2 num) i q:=⟨_,rfl⟩
 have hcs:res=none∨∃ s,res=some s:=by cases res <;> simp
 rw [← hres]
 have HR:=Hd hres
 have HQ:=Hd (And.intro hq1 hq2)
 clear hc h hres hq1 hq2 hqd
 rcases hcs with rfl | ⟨s,rfl⟩
 all_goals
  go_enter Tryz.func72,Tryz.ntmps72
  go_wp2_with fail
  refine (HC.out _ _ q ?hq).mono ?_
  case hq =>
   by_cases he:num=els
   ·rw [HQ.out.1 he,he];simp
   ·rw [HQ.out.2 he]
    first | exact wi_wrap _ _ _ (by assumption) (by assumption) he | exact wi_32 _ _ (by assumption) (by assumption) he | exact wi_64 _ _ (by assumption) (by assumption) he | (rw [beq_eq_false_iff_ne];omega)
  first | rw [wc_mod _ _ _ (by rfl)] | rw [wc_wrap _ _ _ (by rfl)] | rw [wc_32] | rw [wc_64] | rw [leI_nat]
  rw [← wc_lit 2 1 num (by decide) (by decide),← HR.out]
 ·rintro e w1 ⟨⟨u,v,rfl⟩,hf⟩
  exact ⟨rfl,⟨u,v,rfl⟩,hf⟩
 ·rintro e w1 ⟨rfl,F1,hb1,ha1⟩
  have HB:=Hd hb1
  have HA:=Hd ha1
  clear hb1 ha1
  go_wp2_with fail
  go_end0
  exact ⟨rfl,F1,HB.out,HA.out⟩
theorem prepend_3 (b:Nat) (F:List Nat) (st:BSt) (num:Nat) (w:World) (h:BRep w b F st) (hu:st.m.bytes.length≤1900000) (hn:num<2 ^ 16) :
  Calls Tryz.prog 71 #[.pointer (some ⟨b,0,none⟩),.int .u8 3,.int .u64 num] w (BRes w b F (some (.tuple #[],{ st with m:=(st.m.prep 2 0).put (numB 3 num) }))):=by
 have hc:=fun x=>h.lift (v:=.tuple #[]) (m':=(st.m.prep 2 0).put (leI 2 x)) (fun Y r c hb=>PrependUint16_calls b Y r st.m c x w hb hu)
 have HC:=Hd hc
 clear hc h
 go_enter Tryz.func71,Tryz.ntmps71
 go_wp2_with fail
 ·refine (HC.out _).mono ?_
  rintro e w1 ⟨rfl,F1,hb1,ha1⟩
  first | rw [wc_mod _ _ _ (by rfl)] at hb1 | rw [wc_wrap _ _ _ (by rfl)] at hb1 | rw [wc_32] at hb1 | rw [wc_64] at hb1 | rw [leI_nat] at hb1
  rw [← wc_lit 3 2 num (by decide) (by decide)] at hb1
  have HB:=Hd hb1
  have HA:=Hd ha1
  clear hb1 ha1
  go_wp2_with fail
  go_end0
  exact ⟨rfl,F1,HB.out,HA.out⟩
theorem prependSlot_3 (b:Nat) (F:List Nat) (st:BSt) (i:Int) (num els:Nat) (w:World) (h:BRep w b F st) (hu:st.m.bytes.length≤1900000) (hn1:num<2 ^ 16) (hn2:els<2 ^ 16) :
  Calls Tryz.prog 72 #[.pointer (some ⟨b,0,none⟩),.int .u8 3,.int .i64 i,.int .u64 num,.int .u64 els] w (BRes w b F (unitRes (st.prepSlot 2 (numB 3 num) i (sameNum 3 num els)))):=by
 have hc:=fun (x d:Int) (q:Bool) (hq:(x == d)=q)=>PrependUint16Slot_calls b F st i x d q hq w h hu
 have HC:=Hd hc
 obtain ⟨q,hqd⟩:∃ q,q=sameNum 3 num els:=⟨_,rfl⟩
 have hq1:num=els→q=true:=by rintro rfl;rw [hqd];simp [sameNum]
 have hq2:num≠els→q=false:=by intro hne;rw [hqd];simp [sameNum,hne]
 rw [← hqd]
 obtain ⟨res,hres⟩:∃ res,res=st.prepSlot 2 (numB 3 num) i q:=⟨_,rfl⟩
 have hcs:res=none∨∃ s,res=some s:=by cases res <;> simp
 rw [← hres]
 have HR:=Hd hres
 have HQ:=Hd (And.intro hq1 hq2)
 clear hc h hres hq1 hq2 hqd
 rcases hcs with rfl | ⟨s,rfl⟩
 all_goals
  go_enter Tryz.func72,Tryz.ntmps72
  go_wp2_with fail
  refine (HC.out _ _ q ?hq).mono ?_
  case hq =>
   by_cases he:num=els
   ·rw [HQ.out.1 he,he];simp
   ·rw [HQ.out.2 he]
    first | exact wi_wrap _ _ _ (by assumption) (by assumption) he | exact wi_32 _ _ (by assumption) (by assumption) he | exact wi_64 _ _ (by assumption) (by assumption) he | (rw [beq_eq_false_iff_ne];omega)
  first | rw [wc_mod _ _ _ (by rfl)] | rw [wc_wrap _ _ _ (by rfl)] | rw [wc_32] | rw [wc_64] | rw [leI_nat]
  rw [← wc_lit 3 2 num (by decide) (by decide),← HR.out]
 ·rintro e w1 ⟨⟨u,v,rfl⟩,hf⟩
  exact ⟨rfl,⟨u,v,rfl⟩,hf⟩
 ·rintro e w1 ⟨rfl,F1,hb1,ha1⟩
  have HB:=Hd hb1
  have HA:=Hd ha1
  clear hb1 ha1
  go_wp2_with fail
  go_end0
  exact ⟨rfl,F1,HB.out,HA.out⟩
theorem prepend_4 (b:Nat) (F:List Nat) (st:BSt) (num:Nat) (w:World) (h:BRep w b F st) (hu:st.m.bytes.length≤1900000) (hn:num<2 ^ 16) :
  Calls Tryz.prog 71 #[.pointer (some ⟨b,0,none⟩),.int .u8 4,.int .u64 num] w (BRes w b F (some (.tuple #[],{ st with m:=(st.m.prep 2 0).put (numB 4 num) }))):=by
 have hc:=fun x=>h.lift (v:=.tuple #[]) (m':=(st.m.prep 2 0).put (leI 2 x)) (fun Y r c hb=>PrependInt16_calls b Y r st.m c x w hb hu)
 have HC:=Hd hc
 clear hc h
 go_enter Tryz.func71,Tryz.ntmps71
 go_wp2_with fail
 ·refine (HC.out _).mono ?_
  rintro e w1 ⟨rfl,F1,hb1,ha1⟩
  first | rw [wc_mod _ _ _ (by rfl)] at hb1 | rw [wc_wrap _ _ _ (by rfl)] at hb1 | rw [wc_32] at hb1 | rw [wc_64] at hb1 | rw [leI_nat] at hb1
  rw [← wc_lit 4 2 num (by decide) (by decide)] at hb1
  have HB:=Hd hb1
  have HA:=Hd ha1
  clear hb1 ha1
  go_wp2_with fail
  go_end0
  exact ⟨rfl,F1,HB.out,HA.out⟩
theorem prependSlot_4 (b:Nat) (F:List Nat) (st:BSt) (i:Int) (num els:Nat) (w:World) (h:BRep w b F st) (hu:st.m.bytes.length≤1900000) (hn1:num<2 ^ 16) (hn2:els<2 ^ 16) :
  Calls Tryz.prog 72 #[.pointer (some ⟨b,0,none⟩),.int .u8 4,.int .i64 i,.int .u64 num,.int .u64 els] w (BRes w b F (unitRes (st.prepSlot 2 (numB 4 num) i (sameNum 4 num els)))):=by
 have hc:=fun (x d:Int) (q:Bool) (hq:(x == d)=q)=>PrependInt16Slot_calls b F st i x d q hq w h hu
 have HC:=Hd hc
 obtain ⟨q,hqd⟩:∃ q,q=sameNum 4 num els:=⟨_,rfl⟩
 have hq1:num=els→q=true:=by rintro rfl;rw [hqd];simp [sameNum]
 have hq2:num≠els→q=false:=by intro hne;rw [hqd];simp [sameNum,hne]
 rw [← hqd]
 obtain ⟨res,hres⟩:∃ res,res=st.prepSlot 2 (numB 4 num) i q:=⟨_,rfl⟩
 have hcs:res=none∨∃ s,res=some s:=by cases res <;> simp
 rw [← hres]
 have HR:=Hd hres
 have HQ:=Hd (And.intro hq1 hq2)
 clear hc h hres hq1 hq2 hqd
 rcases hcs with rfl | ⟨s,rfl⟩
 all_goals
  go_enter Tryz.func72,Tryz.ntmps72
  go_wp2_with fail
  refine (HC.out _ _ q ?hq).mono ?_
  case hq =>
   by_cases he:num=els
   ·rw [HQ.out.1 he,he];simp
   ·rw [HQ.out.2 he]
    first | exact wi_wrap _ _ _ (by assumption) (by assumption) he | exact wi_32 _ _ (by assumption) (by assumption) he | exact wi_64 _ _ (by assumption) (by assumption) he | (rw [beq_eq_false_iff_ne];omega)
  first | rw [wc_mod _ _ _ (by rfl)] | rw [wc_wrap _ _ _ (by rfl)] | rw [wc_32] | rw [wc_64] | rw [leI_nat]
  rw [← wc_lit 4 2 num (by decide) (by decide),← HR.out]
 ·rintro e w1 ⟨⟨u,v,rfl⟩,hf⟩
  exact ⟨rfl,⟨u,v,rfl⟩,hf⟩
 ·rintro e w1 ⟨rfl,F1,hb1,ha1⟩
  have HB:=Hd hb1
  have HA:=Hd ha1
  clear hb1 ha1
  go_wp2_with fail
  go_end0
  exact ⟨rfl,F1,HB.out,HA.out⟩
theorem prepend_5 (b:Nat) (F:List Nat) (st:BSt) (num:Nat) (w:World) (h:BRep w b F st) (hu:st.m.bytes.length≤1900000) (hn:num<2 ^ 32) :
  Calls Tryz.prog 71 #[.pointer (some ⟨b,0,none⟩),.int .u8 5,.int .u64 num] w (BRes w b F (some (.tuple #[],{ st with m:=(st.m.prep 4 0).put (numB 5 num) }))):=by
 have hc:=fun x=>h.lift (v:=.tuple #[]) (m':=(st.m.prep 4 0).put (leI 4 x)) (fun Y r c hb=>PrependUint32_calls b Y r st.m c x w hb hu)
 have HC:=Hd hc
 clear hc h
 go_enter Tryz.func71,Tryz.ntmps71
 go_wp2_with fail
 ·refine (HC.out _).mono ?_
  rintro e w1 ⟨rfl,F1,hb1,ha1⟩
  first | rw [wc_mod _ _ _ (by rfl)] at hb1 | rw [wc_wrap _ _ _ (by rfl)] at hb1 | rw [wc_32] at hb1 | rw [wc_64] at hb1 | rw [leI_nat] at hb1
  rw [← wc_lit 5 4 num (by decide) (by decide)] at hb1
  have HB:=Hd hb1
  have HA:=Hd ha1
  clear hb1 ha1
  go_wp2_with fail
  go_end0
  exact ⟨rfl,F1,HB.out,HA.out⟩
theorem prependSlot_5 (b:Nat) (F:List Nat) (st:BSt) (i:Int) (num els:Nat) (w:World) (h:BRep w b F st) (hu:st.m.bytes.length≤1900000) (hn1:num<2 ^ 32) (hn2:els<2 ^ 32) :
  Calls Tryz.prog 72 #[.pointer (some ⟨b,0,none⟩),.int .u8 5,.int .i64 i,.int .u64 num,.int .u64 els] w (BRes w b F (unitRes (st.prepSlot 4 (numB 5 num) i (sameNum 5 num els)))):=by
 have hc:=fun (x d:Int) (q:Bool) (hq:(x == d)=q)=>PrependUint32Slot_calls b F st i x d q hq w h hu
 have HC:=Hd hc
 obtain ⟨q,hqd⟩:∃ q,q=sameNum 5 num els:=⟨_,rfl⟩
 have hq1:num=els→q=true:=by rintro rfl;rw [hqd];simp [sameNum]
 have hq2:num≠els→q=false:=by intro hne;rw [hqd];simp [sameNum,hne]
 rw [← hqd]
 obtain ⟨res,hres⟩:∃ res,res=st.prepSlot 4 (numB 5 num) i q:=⟨_,rfl⟩
 have hcs:res=none∨∃ s,res=some s:=by cases res <;> simp
 rw [← hres]
 have HR:=Hd hres
 have HQ:=Hd (And.intro hq1 hq2)
 clear hc h hres hq1 hq2 hqd
 rcases hcs with rfl | ⟨s,rfl⟩
 all_goals
  go_enter Tryz.func72,Tryz.ntmps72
  go_wp2_with fail
  refine (HC.out _ _ q ?hq).mono ?_
  case hq =>
   by_cases he:num=els
   ·rw [HQ.out.1 he,he];simp
   ·rw [HQ.out.2 he]
    first | exact wi_wrap _ _ _ (by assumption) (by assumption) he | exact wi_32 _ _ (by assumption) (by assumption) he | exact wi_64 _ _ (by assumption) (by assumption) he | (rw [beq_eq_false_iff_ne];omega)
  first | rw [wc_mod _ _ _ (by rfl)] | rw [wc_wrap _ _ _ (by rfl)] | rw [wc_32] | rw [wc_64] | rw [leI_nat]
  rw [← wc_lit 5 4 num (by decide) (by decide),← HR.out]
 ·rintro e w1 ⟨⟨u,v,rfl⟩,hf⟩
  exact ⟨rfl,⟨u,v,rfl⟩,hf⟩
 ·rintro e w1 ⟨rfl,F1,hb1,ha1⟩
  have HB:=Hd hb1
  have HA:=Hd ha1
  clear hb1 ha1
  go_wp2_with fail
  go_end0
  exact ⟨rfl,F1,HB.out,HA.out⟩
theorem prepend_6 (b:Nat) (F:List Nat) (st:BSt) (num:Nat) (w:World) (h:BRep w b F st) (hu:st.m.bytes.length≤1900000) (hn:num<2 ^ 32) :
  Calls Tryz.prog 71 #[.pointer (some ⟨b,0,none⟩),.int .u8 6,.int .u64 num] w (BRes w b F (some (.tuple #[],{ st with m:=(st.m.prep 4 0).put (numB 6 num) }))):=by
 have hc:=fun x=>h.lift (v:=.tuple #[]) (m':=(st.m.prep 4 0).put (leI 4 x)) (fun Y r c hb=>PrependInt32_calls b Y r st.m c x w hb hu)
 have HC:=Hd hc
 clear hc h
 go_enter Tryz.func71,Tryz.ntmps71
 go_wp2_with fail
 ·refine (HC.out _).mono ?_
  rintro e w1 ⟨rfl,F1,hb1,ha1⟩
  first | rw [wc_mod _ _ _ (by rfl)] at hb1 | rw [wc_wrap _ _ _ (by rfl)] at hb1 | rw [wc_32] at hb1 | rw [wc_64] at hb1 | rw [leI_nat] at hb1
  rw [← wc_lit 6 4 num (by decide) (by decide)] at hb1
  have HB:=Hd hb1
  have HA:=Hd ha1
  clear hb1 ha1
  go_wp2_with fail
  go_end0
  exact ⟨rfl,F1,HB.out,HA.out⟩
theorem prependSlot_6 (b:Nat) (F:List Nat) (st:BSt) (i:Int) (num els:Nat) (w:World) (h:BRep w b F st) (hu:st.m.bytes.length≤1900000) (hn1:num<2 ^ 32) (hn2:els<2 ^ 32) :
  Calls Tryz.prog 72 #[.pointer (some ⟨b,0,none⟩),.int .u8 6,.int .i64 i,.int .u64 num,.int .u64 els] w (BRes w b F (unitRes (st.prepSlot 4 (numB 6 num) i (sameNum 6 num els)))):=by
 have hc:=fun (x d:Int) (q:Bool) (hq:(x == d)=q)=>PrependInt32Slot_calls b F st i x d q hq w h hu
 have HC:=Hd hc
 obtain ⟨q,hqd⟩:∃ q,q=sameNum 6 num els:=⟨_,rfl⟩
 have hq1:num=els→q=true:=by rintro rfl;rw [hqd];simp [sameNum]
 have hq2:num≠els→q=false:=by intro hne;rw [hqd];simp [sameNum,hne]
 rw [← hqd]
 obtain ⟨res,hres⟩:∃ res,res=st.prepSlot 4 (numB 6 num) i q:=⟨_,rfl⟩
 have hcs:res=none∨∃ s,res=some s:=by cases res <;> simp
 rw [← hres]
 have HR:=Hd hres
 have HQ:=Hd (And.intro hq1 hq2)
 clear hc h hres hq1 hq2 hqd
 rcases hcs with rfl | ⟨s,rfl⟩
 all_goals
  go_enter Tryz.func72,Tryz.ntmps72
  go_wp2_with fail
  refine (HC.out _ _ q ?hq).mono ?_
  case hq =>
   by_cases he:num=els
   ·rw [HQ.out.1 he,he];simp
   ·rw [HQ.out.2 he]
    first | exact wi_wrap _ _ _ (by assumption) (by assumption) he | exact wi_32 _ _ (by assumption) (by assumption) he | exact wi_64 _ _ (by assumption) (by assumption) he | (rw [beq_eq_false_iff_ne];omega)
  first | rw [wc_mod _ _ _ (by rfl)] | rw [wc_wrap _ _ _ (by rfl)] | rw [wc_32] | rw [wc_64] | rw [leI_nat]
  rw [← wc_lit 6 4 num (by decide) (by decide),← HR.out]
 ·rintro e w1 ⟨⟨u,v,rfl⟩,hf⟩
  exact ⟨rfl,⟨u,v,rfl⟩,hf⟩
 ·rintro e w1 ⟨rfl,F1,hb1,ha1⟩
  have HB:=Hd hb1
  have HA:=Hd ha1
  clear hb1 ha1
  go_wp2_with fail
  go_end0
  exact ⟨rfl,F1,HB.out,HA.out⟩
theorem prepend_7 (b:Nat) (F:List Nat) (st:BSt) (num:Nat) (w:World) (h:BRep w b F st) (hu:st.m.bytes.length≤1900000) (hn:num<2 ^ 64) :
  Calls Tryz.prog 71 #[.pointer (some ⟨b,0,none⟩),.int .u8 7,.int .u64 num] w (BRes w b F (some (.tuple #[],{ st with m:=(st.m.prep 8 0).put (numB 7 num) }))):=by
 have hc:=fun x=>h.lift (v:=.tuple #[]) (m':=(st.m.prep 8 0).put (leI 8 x)) (fun Y r c hb=>PrependUint64_calls b Y r st.m c x w hb hu)
 have HC:=Hd hc
 clear hc h
 go_enter Tryz.func71,Tryz.ntmps71
 go_wp2_with fail
 ·refine (HC.out _).mono ?_
  rintro e w1 ⟨rfl,F1,hb1,ha1⟩
  first | rw [wc_mod _ _ _ (by rfl)] at hb1 | rw [wc_wrap _ _ _ (by rfl)] at hb1 | rw [wc_32] at hb1 | rw [wc_64] at hb1 | rw [leI_nat] at hb1
  rw [← wc_lit 7 8 num (by decide) (by decide)] at hb1
  have HB:=Hd hb1
  have HA:=Hd ha1
  clear hb1 ha1
  go_wp2_with fail
  go_end0
  exact ⟨rfl,F1,HB.out,HA.out⟩
theorem prependSlot_7 (b:Nat) (F:List Nat) (st:BSt) (i:Int) (num els:Nat) (w:World) (h:BRep w b F st) (hu:st.m.bytes.length≤1900000) (hn1:num<2 ^ 64) (hn2:els<2 ^ 64) :
  Calls Tryz.prog 72 #[.pointer (some ⟨b,0,none⟩),.int .u8 7,.int .i64 i,.int .u64 num,.int .u64 els] w (BRes w b F (unitRes (st.prepSlot 8 (numB 7 num) i (sameNum 7 num els)))):=by
 have hc:=fun (x d:Int) (q:Bool) (hq:(x == d)=q)=>PrependUint64Slot_calls b F st i x d q hq w h hu
 have HC:=Hd hc
 obtain ⟨q,hqd⟩:∃ q,q=sameNum 7 num els:=⟨_,rfl⟩
 have hq1:num=els→q=true:=by rintro rfl;rw [hqd];simp [sameNum]
 have hq2:num≠els→q=false:=by intro hne;rw [hqd];simp [sameNum,hne]
 rw [← hqd]
 obtain ⟨res,hres⟩:∃ res,res=st.prepSlot 8 (numB 7 num) i q:=⟨_,rfl⟩
 have hcs:res=none∨∃ s,res=some s:=by cases res <;> simp
 rw [← hres]
 have HR:=Hd hres
 have HQ:=Hd (And.intro hq1 hq2)
 clear hc h hres hq1 hq2 hqd
 rcases hcs with rfl | ⟨s,rfl⟩
 all_goals
  go_enter Tryz.func72,Tryz.ntmps72
  go_wp2_with fail
  refine (HC.out _ _ q ?hq).mono ?_
  case hq =>
   by_cases he:num=els
   ·rw [HQ.out.1 he,he];simp
   ·rw [HQ.out.2 he]
    first | exact wi_wrap _ _ _ (by assumption) (by assumption) he | exact wi_32 _ _ (by assumption) (by assumption) he | exact wi_64 _ _ (by assumption) (by assumption) he | (rw [beq_eq_false_iff_ne];omega)
  first | rw [wc_mod _ _ _ (by rfl)] | rw [wc_wrap _ _ _ (by rfl)] | rw [wc_32] | rw [wc_64] | rw [leI_nat]
  rw [← wc_lit 7 8 num (by decide) (by decide),← HR.out]
 ·rintro e w1 ⟨⟨u,v,rfl⟩,hf⟩
  exact ⟨rfl,⟨u,v,rfl⟩,hf⟩
 ·rintro e w1 ⟨rfl,F1,hb1,ha1⟩
  have HB:=Hd hb1
  have HA:=Hd ha1
  clear hb1 ha1
  go_wp2_with fail
  go_end0
  exact ⟨rfl,F1,HB.out,HA.out⟩
theorem prepend_8 (b:Nat) (F:List Nat) (st:BSt) (num:Nat) (w:World) (h:BRep w b F st) (hu:st.m.bytes.length≤1900000) (hn:num<2 ^ 64) :
  Calls Tryz.prog 71 #[.pointer (some ⟨b,0,none⟩),.int .u8 8,.int .u64 num] w (BRes w b F (some (.tuple #[],{ st with m:=(st.m.prep 8 0).put (numB 8 num) }))):=by
 have hc:=fun x=>h.lift (v:=.tuple #[]) (m':=(st.m.prep 8 0).put (leI 8 x)) (fun Y r c hb=>PrependInt64_calls b Y r st.m c x w hb hu)
 have HC:=Hd hc
 clear hc h
 go_enter Tryz.func71,Tryz.ntmps71
 go_wp2_with fail
 ·refine (HC.out _).mono ?_
  rintro e w1 ⟨rfl,F1,hb1,ha1⟩
  first | rw [wc_mod _ _ _ (by rfl)] at hb1 | rw [wc_wrap _ _ _ (by rfl)] at hb1 | rw [wc_32] at hb1 | rw [wc_64] at hb1 | rw [leI_nat] at hb1
  rw [← wc_lit 8 8 num (by decide) (by decide)] at hb1
  have HB:=Hd hb1
  have HA:=Hd ha1
  clear hb1 ha1
  go_wp2_with fail
  go_end0
  exact ⟨rfl,F1,HB.out,HA.out⟩
theorem prependSlot_8 (b:Nat) (F:List Nat) (st:BSt) (i:Int) (num els:Nat) (w:World) (h:BRep w b F st) (hu:st.m.bytes.length≤1900000) (hn1:num<2 ^ 64) (hn2:els<2 ^ 64) :
  Calls Tryz.prog 72 #[.pointer (some ⟨b,0,none⟩),.int .u8 8,.int .i64 i,.int .u64 num,.int .u64 els] w (BRes w b F (unitRes (st.prepSlot 8 (numB 8 num) i (sameNum 8 num els)))):=by
 have hc:=fun (x d:Int) (q:Bool) (hq:(x == d)=q)=>PrependInt64Slot_calls b F st i x d q hq w h hu
 have HC:=Hd hc
 obtain ⟨q,hqd⟩:∃ q,q=sameNum 8 num els:=⟨_,rfl⟩
 have hq1:num=els→q=true:=by rintro rfl;rw [hqd];simp [sameNum]
 have hq2:num≠els→q=false:=by intro hne;rw [hqd];simp [sameNum,hne]
 rw [← hqd]
 obtain ⟨res,hres⟩:∃ res,res=st.prepSlot 8 (numB 8 num) i q:=⟨_,rfl⟩
 have hcs:res=none∨∃ s,res=some s:=by cases res <;> simp
 rw [← hres]
 have HR:=Hd hres
 have HQ:=Hd (And.intro hq1 hq2)
 clear hc h hres hq1 hq2 hqd
 rcases hcs with rfl | ⟨s,rfl⟩
 all_goals
  go_enter Tryz.func72,Tryz.ntmps72
  go_wp2_with fail
  refine (HC.out _ _ q ?hq).mono ?_
  case hq =>
   by_cases he:num=els
   ·rw [HQ.out.1 he,he];simp
   ·rw [HQ.out.2 he]
    first | exact wi_wrap _ _ _ (by assumption) (by assumption) he | exact wi_32 _ _ (by assumption) (by assumption) he | exact wi_64 _ _ (by assumption) (by assumption) he | (rw [beq_eq_false_iff_ne];omega)
  first | rw [wc_mod _ _ _ (by rfl)] | rw [wc_wrap _ _ _ (by rfl)] | rw [wc_32] | rw [wc_64] | rw [leI_nat]
  rw [← wc_lit 8 8 num (by decide) (by decide),← HR.out]
 ·rintro e w1 ⟨⟨u,v,rfl⟩,hf⟩
  exact ⟨rfl,⟨u,v,rfl⟩,hf⟩
 ·rintro e w1 ⟨rfl,F1,hb1,ha1⟩
  have HB:=Hd hb1
  have HA:=Hd ha1
  clear hb1 ha1
  go_wp2_with fail
  go_end0
  exact ⟨rfl,F1,HB.out,HA.out⟩
theorem prepend_9 (b:Nat) (F:List Nat) (st:BSt) (num:Nat) (w:World) (h:BRep w b F st) (hu:st.m.bytes.length≤1900000) (hn:num<2 ^ 32) :
  Calls Tryz.prog 71 #[.pointer (some ⟨b,0,none⟩),.int .u8 9,.int .u64 num] w (BRes w b F (some (.tuple #[],{ st with m:=(st.m.prep 4 0).put (numB 9 num) }))):=by
 have hc:=fun (x:Nat)=>h.lift (v:=.tuple #[]) (m':=(st.m.prep 4 0).put (leI 4 x)) (fun Y r c hb=>PrependFloat32_calls b Y r st.m c x w hb hu)
 have HC:=Hd hc
 have hf32:=run_f32frm
 have hf64:=run_f64frm
 clear hc h
 go_enter Tryz.func71,Tryz.ntmps71
 go_wp2_with fail
 ·refine (HC.out _).mono ?_
  rintro e w1 ⟨rfl,F1,hb1,ha1⟩
  first | rw [wc_mod _ _ _ (by rfl)] at hb1 | rw [wc_wrap _ _ _ (by rfl)] at hb1 | rw [wc_32] at hb1 | rw [wc_64] at hb1 | rw [leI_nat] at hb1
  rw [← wc_lit 9 4 num (by decide) (by decide)] at hb1
  have HB:=Hd hb1
  have HA:=Hd ha1
  clear hb1 ha1
  go_wp2_with fail
  go_end0
  exact ⟨rfl,F1,HB.out,HA.out⟩
theorem prependSlot_9 (b:Nat) (F:List Nat) (st:BSt) (i:Int) (num els:Nat) (w:World) (h:BRep w b F st) (hu:st.m.bytes.length≤1900000) (hn1:num<2 ^ 32) (hn2:els<2 ^ 32) :
  Calls Tryz.prog 72 #[.pointer (some ⟨b,0,none⟩),.int .u8 9,.int .i64 i,.int .u64 num,.int .u64 els] w (BRes w b F (unitRes (st.prepSlot 4 (numB 9 num) i (sameNum 9 num els)))):=by
 have hc:=PrependFloat32Slot_calls b F st i num els _ (rfl:Op.floatEq .f32 num els=_) w h hu
 rw [leI_nat,← wc_lit 9 4 num (by decide) (by decide)] at hc
 have e:Op.floatEq .f32 num els=sameNum 9 num els:=by simp [sameNum]
 rw [e] at hc
 have HC:=Hd hc
 have hf32:=run_f32frm
 have hf64:=run_f64frm
 obtain ⟨res,hres⟩:∃ res,res=st.prepSlot 4 (numB 9 num) i (sameNum 9 num els):=⟨_,rfl⟩
 have hcs:res=none∨∃ s,res=some s:=by cases res <;> simp
 rw [← hres] at HC ⊢
 clear hc h hres e
 rcases hcs with rfl | ⟨s,rfl⟩
 all_goals
  go_enter Tryz.func72,Tryz.ntmps72
  go_wp2_with fail
  refine HC.out.mono ?_
 ·rintro e w1 ⟨⟨u,v,rfl⟩,hf⟩
  exact ⟨rfl,⟨u,v,rfl⟩,hf⟩
 ·rintro e w1 ⟨rfl,F1,hb1,ha1⟩
  have HB:=Hd hb1
  have HA:=Hd ha1
  clear hb1 ha1
  go_wp2_with fail
  go_end0
  exact ⟨rfl,F1,HB.out,HA.out⟩
theorem prepend_10 (b:Nat) (F:List Nat) (st:BSt) (num:Nat) (w:World) (h:BRep w b F st) (hu:st.m.bytes.length≤1900000) (hn:num<2 ^ 64) :
  Calls Tryz.prog 71 #[.pointer (some ⟨b,0,none⟩),.int .u8 10,.int .u64 num] w (BRes w b F (some (.tuple #[],{ st with m:=(st.m.prep 8 0).put (numB 10 num) }))):=by
 have hc:=fun (x:Nat)=>h.lift (v:=.tuple #[]) (m':=(st.m.prep 8 0).put (leI 8 x)) (fun Y r c hb=>PrependFloat64_calls b Y r st.m c x w hb hu)
 have HC:=Hd hc
 have hf32:=run_f32frm
 have hf64:=run_f64frm
 clear hc h
 go_enter Tryz.func71,Tryz.ntmps71
 go_wp2_with fail
 ·refine (HC.out _).mono ?_
  rintro e w1 ⟨rfl,F1,hb1,ha1⟩
  first | rw [wc_mod _ _ _ (by rfl)] at hb1 | rw [wc_wrap _ _ _ (by rfl)] at hb1 | rw [wc_32] at hb1 | rw [wc_64] at hb1 | rw [leI_nat] at hb1
  rw [← wc_lit 10 8 num (by decide) (by decide)] at hb1
  have HB:=Hd hb1
  have HA:=Hd ha1
  clear hb1 ha1
  go_wp2_with fail
  go_end0
  exact ⟨rfl,F1,HB.out,HA.out⟩
theorem prependSlot_10 (b:Nat) (F:List Nat) (st:BSt) (i:Int) (num els:Nat) (w:World) (h:BRep w b F st) (hu:st.m.bytes.length≤1900000) (hn1:num<2 ^ 64) (hn2:els<2 ^ 64) :
  Calls Tryz.prog 72 #[.pointer (some ⟨b,0,none⟩),.int .u8 10,.int .i64 i,.int .u64 num,.int .u64 els] w (BRes w b F (unitRes (st.prepSlot 8 (numB 10 num) i (sameNum 10 num els)))):=by
 have hc:=PrependFloat64Slot_calls b F st i num els _ (rfl:Op.floatEq .f64 num els=_) w h hu
 rw [leI_nat,← wc_lit 10 8 num (by decide) (by decide)] at hc
 have e:Op.floatEq .f64 num els=sameNum 10 num els:=by simp [sameNum]
 rw [e] at hc
 have HC:=Hd hc
 have hf32:=run_f32frm
 have hf64:=run_f64frm
 obtain ⟨res,hres⟩:∃ res,res=st.prepSlot 8 (numB 10 num) i (sameNum 10 num els):=⟨_,rfl⟩
 have hcs:res=none∨∃ s,res=some s:=by cases res <;> simp
 rw [← hres] at HC ⊢
 clear hc h hres e
 rcases hcs with rfl | ⟨s,rfl⟩
 all_goals
  go_enter Tryz.func72,Tryz.ntmps72
  go_wp2_with fail
  refine HC.out.mono ?_
 ·rintro e w1 ⟨⟨u,v,rfl⟩,hf⟩
  exact ⟨rfl,⟨u,v,rfl⟩,hf⟩
 ·rintro e w1 ⟨rfl,F1,hb1,ha1⟩
  have HB:=Hd hb1
  have HA:=Hd ha1
  clear hb1 ha1
  go_wp2_with fail
  go_end0
  exact ⟨rfl,F1,HB.out,HA.out⟩
end Go.Proofs.YtcfblkkpclfmaaaGreat
namespace Go.Proofs.YtcfblkkpclfmaaaGreat
open Go.RowKit
theorem prepend_b (b:Nat) (F:List Nat) (st:BSt) (k:Int) (num:Nat) (w:World) (h:BRep w b F st) (hr:Right k num) (hu:st.m.bytes.length≤1900000) :
  Calls Tryz.prog 71 #[.pointer (some ⟨b,0,none⟩),.int .u8 k,.int .u64 num] w (BRes w b F (unitRes (some { st with m:=(st.m.prep (numSize k) 0).put (numB k num) }))):=by
 obtain ⟨h0,h1,h2,h3⟩:=hr
 have:k=0∨k=1∨k=2∨k=3∨k=4∨k=5∨k=6∨k=7∨k=8∨k=9∨k=10:=by omega
 rcases this with rfl | rfl | rfl | rfl | rfl | rfl | rfl | rfl | rfl | rfl | rfl
 ·exact prepend_0 b F st num w h hu h3 (h2 rfl)
 ·exact prepend_1 b F st num w h hu h3
 ·exact prepend_2 b F st num w h hu h3
 ·exact prepend_3 b F st num w h hu h3
 ·exact prepend_4 b F st num w h hu h3
 ·exact prepend_5 b F st num w h hu h3
 ·exact prepend_6 b F st num w h hu h3
 ·exact prepend_7 b F st num w h hu h3
 ·exact prepend_8 b F st num w h hu h3
 ·exact prepend_9 b F st num w h hu h3
 ·exact prepend_10 b F st num w h hu h3
theorem prependSlot_b (b:Nat) (F:List Nat) (st:BSt) (k i:Int) (num els:Nat) (w:World) (h:BRep w b F st) (hr:Right k num) (hr2:Right k els) (hu:st.m.bytes.length≤1900000) :
  Calls Tryz.prog 72 #[.pointer (some ⟨b,0,none⟩),.int .u8 k,.int .i64 i,.int .u64 num,.int .u64 els] w (BRes w b F (unitRes (st.prepSlot (numSize k) (numB k num) i (sameNum k num els)))):=by
 obtain ⟨h0,h1,h2,h3⟩:=hr
 obtain ⟨_,_,g2,g3⟩:=hr2
 have:k=0∨k=1∨k=2∨k=3∨k=4∨k=5∨k=6∨k=7∨k=8∨k=9∨k=10:=by omega
 rcases this with rfl | rfl | rfl | rfl | rfl | rfl | rfl | rfl | rfl | rfl | rfl
 ·exact prependSlot_0 b F st i num els w h hu (h2 rfl) (g2 rfl)
 ·exact prependSlot_1 b F st i num els w h hu h3 g3
 ·exact prependSlot_2 b F st i num els w h hu h3 g3
 ·exact prependSlot_3 b F st i num els w h hu h3 g3
 ·exact prependSlot_4 b F st i num els w h hu h3 g3
 ·exact prependSlot_5 b F st i num els w h hu h3 g3
 ·exact prependSlot_6 b F st i num els w h hu h3 g3
 ·exact prependSlot_7 b F st i num els w h hu h3 g3
 ·exact prependSlot_8 b F st i num els w h hu h3 g3
 ·exact prependSlot_9 b F st i num els w h hu h3 g3
 ·exact prependSlot_10 b F st i num els w h hu h3 g3
end Go.Proofs.YtcfblkkpclfmaaaGreat
namespace Go.Proofs.YtcfblkkpclfmaaaGreat
open Go.RowKit
theorem BRep.below {w:World} {b:Nat} {F:List Nat} {st:BSt} (h:BRep w b F st):∀ k∈F,k<w.heap.size:=by
 obtain ⟨Y,V,G,M,r,c,rfl,hb,ho⟩:=h
 have hbl:=lt_of_block hb.hb
 have hYl:=lt_of_block hb.hy
 have hG:G<w.heap.size:=by obtain ⟨cv,_,h2,_⟩:=ho.vs;exact lt_of_block h2
 have hV:V<w.heap.size:=by
  have hvt:=ho.vt
  cases hc:st.vtab with
  | none=>rw [hc] at hvt;rw [hvt.2];exact hbl
  | some l=>rw [hc] at hvt;obtain ⟨cv,_,h2,_⟩:=hvt;exact lt_of_block h2
 have hM:M<w.heap.size:=by
  have hsh:=ho.sh
  cases hc:st.shared with
  | none=>rw [hc] at hsh;rw [hsh.2];exact hbl
  | some D=>rw [hc] at hsh;exact hsh.lt
 intro k hk
 simp only [List.mem_cons,List.not_mem_nil,or_false] at hk
 rcases hk with rfl | rfl | rfl | rfl | rfl <;> assumption
theorem BRep.keep {w w':World} {S:Nat→Prop} {b:Nat} {F:List Nat} {st:BSt} (h:BRep w b F st) (hf:Fr S w w') (hS:∀ k∈F,¬ S k):BRep w' b F st:=by
 obtain ⟨Y,V,G,M,r,c,rfl,hb,ho⟩:=h
 exact ⟨Y,V,G,M,r,c,rfl,hb.fr hf (hS b (by simp)) (hS Y (by simp)),ho.fr hf (fun _=>hS V (by simp)) (hS G (by simp)) (fun _=>hS M (by simp))⟩
end Go.Proofs.YtcfblkkpclfmaaaGreat
