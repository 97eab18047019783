/- Part 18 of the proof of FnEvolved; no condition. -/
import Derived.Test.YtcfblkkpclfmaaaGreatEb17
set_option linter.unusedVariables false
set_option linter.unusedSimpArgs false
set_option maxRecDepth 100000
set_option maxHeartbeats 16000000
namespace Go.Proofs.YtcfblkkpclfmaaaGreat
open Go.RowKit
def bint (b:Bool):Nat:=if b then 1 else 0
def nz (n:Nat):Bool:=(n:Int) != 0
theorem number_calls(b:Bool)(w:World):Calls Tryz.prog 157 #[.bool b] w λe w'=>e=.returned (.int .u64 (bint b))/\w=w':=by
 go_enter Tryz.func157,Tryz.ntmps157;cases b
 all_goals
  go_wp2
  go_ret;exact⟨rfl,rfl⟩
theorem truth_calls(n:Nat)(w:World):Calls Tryz.prog 115 #[.int .u64 n] w λe w'=>e=.returned (.bool (nz n))/\w=w':=by
 go_enter Tryz.func115,Tryz.ntmps115;go_wp2
 go_ret;exact⟨rfl,rfl⟩
theorem num0(v:Nat):(bint ((v:Int)==1):Int)=(numVal 0 v:Nat):=by
 by_cases h:v=1
 ·subst h;rfl
 ·have h2:((v:Int)==1)=false:=by simp;omega
  simp[numVal,h,bint];omega
theorem num0d(v:Nat):(bint (nz v):Int)=(defVal 0 v:Nat):=by
 by_cases h:v=0
 ·subst h;rfl
 ·simp[defVal,h,bint,nz]
theorem defClose1(n:Nat)(k m:Int)(hm:m=2^(8*numSize k))(h0:k≠0)(h:0<numSize k):(n:Int)%m=(defVal k n:Nat):=by
 unfold defVal;rw[if_neg h0,hm];simp
theorem defVal_of(k:Int)(s n:Nat)(h0:k≠0)(hs:numSize k=s):(defVal k n:Nat)=n%2^(8*s):=by unfold defVal;rw[if_neg h0,hs]
theorem close8d(n:Nat):IntKind.i8.wrap (n:Int)%256=(defVal 2 n:Nat):=by
 rw[defVal_of 2 1 n (by decide) (by simp[numSize])];have:=wrap_emod .i8 (n:Int)
 simp only[IntKind.bits] at this;refine Eq.trans this ?_;omega
theorem close16u(n:Nat):IntKind.u16.wrap (n:Int)=(defVal 3 n:Nat):=by
 rw[defVal_of 3 2 n (by decide) (by simp[numSize])];simp[IntKind.wrap,IntKind.bits,IntKind.signed]
theorem close16d(n:Nat):IntKind.u64.wrap (IntKind.u16.wrap (IntKind.i16.wrap (n:Int)))=(defVal 4 n:Nat):=by
 rw[defVal_of 4 2 n (by decide) (by simp[numSize])];have e:IntKind.u16.wrap (IntKind.i16.wrap (n:Int))=((n%2^(8*2):Nat):Int):=by
  rw[wrap_congr .u16 (wrap_emod .i16 (n:Int))];simp[IntKind.wrap,IntKind.bits,IntKind.signed]
 rw[e];exact IntWalk.u64_in _ (by omega)
theorem close32d(n:Nat):wrap32 (n:Int)%4294967296=(defVal 6 n:Nat):=by
 rw[defVal_of 6 4 n (by decide) (by simp[numSize])];have:=wrap_emod .i32 (n:Int)
 rw[IntWalk.i32_left] at this;simp only[IntKind.bits] at this;refine Eq.trans this ?_;omega
theorem close64u(n:Nat)(h:n<2^64):(n:Int)=(defVal 7 n:Nat):=by
 rw[defVal_of 7 8 n (by decide) (by simp[numSize]),Nat.mod_eq_of_lt h]
theorem close64f(n:Nat)(h:n<2^64):(n:Int)=(defVal 10 n:Nat):=by
 rw[defVal_of 10 8 n (by decide) (by simp[numSize]),Nat.mod_eq_of_lt h]
theorem close64d(n:Nat)(h:n<2^64):IntKind.u64.wrap (wrap64 (n:Int))=(defVal 8 n:Nat):=by
 rw[defVal_of 8 8 n (by decide) (by simp[numSize]),Nat.mod_eq_of_lt h];exact close64 n h
theorem close32f(n:Nat):(n:Int)%4294967296=(defVal 9 n:Nat):=by
 rw[defVal_of 9 4 n (by decide) (by simp[numSize])];simp
theorem mOffset_lt{l:List UInt8}{pos slot o:Nat}(h:mOffset l pos slot=some o):o<=65535:=by
 unfold mOffset at h;obtain⟨back,hb,h⟩:=Option.bind_eq_some_iff.1 h;obtain⟨size,hz,h⟩:=Option.bind_eq_some_iff.1 h;split at h
 ·have:=mGet_lt h
  have hnum:numSize 35=2:=by decide
  rw[hnum] at this;omega
 ·injection h with h;omega
theorem tableGet_0(T B pos off n:Nat)(l:List UInt8)(w:World)(hT:Tab w T B l pos)(h:mGet l 0 off=some n):
  Calls Tryz.prog 93 #[.pointer (some ⟨T,0,none⟩),.int .u8 0,.int .u32 off] w λe w'=>e=.returned (.int .u64 (numVal 0 n))/\w=w':=by
 obtain⟨_,h2,h3⟩:=mGet_some h;have hz:numSize 0=1:=by simp[numSize]
 have hlt:=mGet_lt h;rw[hz] at h2 h3 hlt;have hsl:=run_slice_from (P:=Tryz.prog) Tryz.underlying81 sizeU8 B 0 l.length l.length .u32 off off rfl (by omega);have HC:=Hd (λnq=>GetBool_ok B (sOff 0 off l.length) (l.length-off) (l.length-off) (l.drop off) (w.drewN nq) ((hT.drewN nq).m.cut (Nat.le_refl _)) (by rw[List.length_drop]) (by omega));have HC:=Hd (HC.out 0);rw[<-h3] at HC;have ht:=hT.t;have hbits:=run_f32bits;have hbits2:=run_f64bits;clear hT h h2 h3 hz;go_enter Tryz.func93,Tryz.ntmps93;go_wp2_with (first|(go_at_call 234;refine HC.out.mono ?_;rintro e w' ⟨rfl,rfl⟩)|(go_at_call 173;go_in)|(go_at_call 157;refine (number_calls _ _).mono ?_;rintro e w' ⟨rfl,rfl⟩)|(go_at_call 115;refine (truth_calls _ _).mono ?_;rintro e w' ⟨rfl,rfl⟩));go_ret;exact⟨ret_int (num0 _),rfl⟩
theorem tableGetSlot_0_def(T B pos slot n:Nat)(l:List UInt8)(w:World)(hT:Tab w T B l pos)(hs:slot<65536)(hn:n<2^64)(h:mOffset l pos slot=some 0):
  Calls Tryz.prog 92 #[.pointer (some ⟨T,0,none⟩),.int .u8 0,.int .u16 slot,.int .u64 n] w λe w'=>e=.returned (.int .u64 (defVal 0 n))/\∃m,w'=w.drewN m:=by
 have HO:=Hd (Offset_ok T B pos slot 0 l w hT hs h);have hbits:=run_f32bits;have hbits2:=run_f64bits;have hfrom:=run_f32from;have hfrom2:=run_f64from;have hn1:(n:Int)<18446744073709551616:=by omega
 clear hT h hs;go_enter Tryz.func92,Tryz.ntmps92;go_wp2_with (first|(go_at_call 234;fail)|(go_at_call 158;go_in)|(go_at_call 91;refine HO.out.mono ?_;rintro e w' ⟨rfl,nq,rfl⟩)|(go_at_call 173;go_in)|(go_at_call 157;refine (number_calls _ _).mono ?_;rintro e w' ⟨rfl,rfl⟩)|(go_at_call 115;refine (truth_calls _ _).mono ?_;rintro e w' ⟨rfl,rfl⟩));go_ret;exact⟨ret_int (num0d _),_,rfl⟩
theorem tableGetSlot_0_ok(T B pos slot n o v:Nat)(l:List UInt8)(w:World)(hT:Tab w T B l pos)(hs:slot<65536)(hn:n<2^64)(h:mOffset l pos slot=some o)(ho:o≠0)(hg:mGet l 0 (w32 (pos+o))=some v):
  Calls Tryz.prog 92 #[.pointer (some ⟨T,0,none⟩),.int .u8 0,.int .u16 slot,.int .u64 n] w λe w'=>e=.returned (.int .u64 (numVal 0 v))/\∃m,w'=w.drewN m:=by
 have HO:=Hd (Offset_ok T B pos slot o l w hT hs h);have hob:((o:Int)==0)=false:=by simp;omega
 have ho1:=mOffset_lt h;obtain⟨_,h2,h3⟩:=mGet_some hg;have hz:numSize 0=1:=by simp[numSize]
 have hlt:=mGet_lt hg;rw[hz] at h2 h3 hlt;have hsl:=run_slice_from (P:=Tryz.prog) Tryz.underlying81 sizeU8 B 0 l.length l.length .u32 (((pos:Int)+o)%4294967296) (w32 (pos+o)) (by unfold w32;omega) (by omega);have HC:=Hd (λnq=>GetBool_ok B (sOff 0 (w32 (pos+o)) l.length) (l.length-w32 (pos+o)) (l.length-w32 (pos+o)) (l.drop (w32 (pos+o))) (w.drewN nq) ((hT.drewN nq).m.cut (Nat.le_refl _)) (by rw[List.length_drop]) (by omega));rw[<-h3] at HC;have ht:=hT.t;have hp:=hT.p;have hbits:=run_f32bits;have hbits2:=run_f64bits;have hfrom:=run_f32from;have hfrom2:=run_f64from;have hn1:(n:Int)<18446744073709551616:=by omega
 have hp1:=hT.hp;clear hT h hs hg h2 h3 hz ho;generalize w32 (pos+o)=q at *;go_enter Tryz.func92,Tryz.ntmps92;go_wp2_with (first|(go_at_call 234;refine (HC.out _).mono ?_;rintro e w' ⟨rfl,rfl⟩)|(go_at_call 158;go_in)|(go_at_call 91;refine HO.out.mono ?_;rintro e w' ⟨rfl,nq,rfl⟩)|(go_at_call 173;go_in)|(go_at_call 157;refine (number_calls _ _).mono ?_;rintro e w' ⟨rfl,rfl⟩)|(go_at_call 115;refine (truth_calls _ _).mono ?_;rintro e w' ⟨rfl,rfl⟩));go_ret;exact⟨ret_int (num0 _),_,rfl⟩
theorem tableGet_1(T B pos off n:Nat)(l:List UInt8)(w:World)(hT:Tab w T B l pos)(h:mGet l 1 off=some n):
  Calls Tryz.prog 93 #[.pointer (some ⟨T,0,none⟩),.int .u8 1,.int .u32 off] w λe w'=>e=.returned (.int .u64 (numVal 1 n))/\w=w':=by
 obtain⟨_,h2,h3⟩:=mGet_some h;have hz:numSize 1=1:=by simp[numSize]
 have hlt:=mGet_lt h;rw[hz] at h2 h3 hlt;have hsl:=run_slice_from (P:=Tryz.prog) Tryz.underlying81 sizeU8 B 0 l.length l.length .u32 off off rfl (by omega);have HC:=Hd (λnq=>GetUint8_ok B (sOff 0 off l.length) (l.length-off) (l.length-off) (l.drop off) (w.drewN nq) ((hT.drewN nq).m.cut (Nat.le_refl _)) (by rw[List.length_drop]) (by omega));have HC:=Hd (HC.out 0);rw[<-h3] at HC;have ht:=hT.t;have hbits:=run_f32bits;have hbits2:=run_f64bits;clear hT h h2 h3 hz;go_enter Tryz.func93,Tryz.ntmps93;go_wp2_with (first|(go_at_call 235;refine HC.out.mono ?_;rintro e w' ⟨rfl,rfl⟩)|(go_at_call 174;go_in));go_ret;exact⟨ret_int (rfl),rfl⟩
theorem tableGetSlot_1_def(T B pos slot n:Nat)(l:List UInt8)(w:World)(hT:Tab w T B l pos)(hs:slot<65536)(hn:n<2^64)(h:mOffset l pos slot=some 0):
  Calls Tryz.prog 92 #[.pointer (some ⟨T,0,none⟩),.int .u8 1,.int .u16 slot,.int .u64 n] w λe w'=>e=.returned (.int .u64 (defVal 1 n))/\∃m,w'=w.drewN m:=by
 have HO:=Hd (Offset_ok T B pos slot 0 l w hT hs h);have hbits:=run_f32bits;have hbits2:=run_f64bits;have hfrom:=run_f32from;have hfrom2:=run_f64from;have hn1:(n:Int)<18446744073709551616:=by omega
 clear hT h hs;go_enter Tryz.func92,Tryz.ntmps92;go_wp2_with (first|(go_at_call 235;fail)|(go_at_call 159;go_in)|(go_at_call 91;refine HO.out.mono ?_;rintro e w' ⟨rfl,nq,rfl⟩)|(go_at_call 174;go_in));go_ret;exact⟨ret_int (defClose1 n 1 256 rfl (by decide) (by simp[numSize])),_,rfl⟩
theorem tableGetSlot_1_ok(T B pos slot n o v:Nat)(l:List UInt8)(w:World)(hT:Tab w T B l pos)(hs:slot<65536)(hn:n<2^64)(h:mOffset l pos slot=some o)(ho:o≠0)(hg:mGet l 1 (w32 (pos+o))=some v):
  Calls Tryz.prog 92 #[.pointer (some ⟨T,0,none⟩),.int .u8 1,.int .u16 slot,.int .u64 n] w λe w'=>e=.returned (.int .u64 (numVal 1 v))/\∃m,w'=w.drewN m:=by
 have HO:=Hd (Offset_ok T B pos slot o l w hT hs h);have hob:((o:Int)==0)=false:=by simp;omega
 have ho1:=mOffset_lt h;obtain⟨_,h2,h3⟩:=mGet_some hg;have hz:numSize 1=1:=by simp[numSize]
 have hlt:=mGet_lt hg;rw[hz] at h2 h3 hlt;have hsl:=run_slice_from (P:=Tryz.prog) Tryz.underlying81 sizeU8 B 0 l.length l.length .u32 (((pos:Int)+o)%4294967296) (w32 (pos+o)) (by unfold w32;omega) (by omega);have HC:=Hd (λnq=>GetUint8_ok B (sOff 0 (w32 (pos+o)) l.length) (l.length-w32 (pos+o)) (l.length-w32 (pos+o)) (l.drop (w32 (pos+o))) (w.drewN nq) ((hT.drewN nq).m.cut (Nat.le_refl _)) (by rw[List.length_drop]) (by omega));rw[<-h3] at HC;have ht:=hT.t;have hp:=hT.p;have hbits:=run_f32bits;have hbits2:=run_f64bits;have hfrom:=run_f32from;have hfrom2:=run_f64from;have hn1:(n:Int)<18446744073709551616:=by omega
 have hp1:=hT.hp;clear hT h hs hg h2 h3 hz ho;generalize w32 (pos+o)=q at *;go_enter Tryz.func92,Tryz.ntmps92;go_wp2_with (first|(go_at_call 235;refine (HC.out _).mono ?_;rintro e w' ⟨rfl,rfl⟩)|(go_at_call 159;go_in)|(go_at_call 91;refine HO.out.mono ?_;rintro e w' ⟨rfl,nq,rfl⟩)|(go_at_call 174;go_in));go_ret;exact⟨ret_int (rfl),_,rfl⟩
theorem tableGet_2(T B pos off n:Nat)(l:List UInt8)(w:World)(hT:Tab w T B l pos)(h:mGet l 2 off=some n):
  Calls Tryz.prog 93 #[.pointer (some ⟨T,0,none⟩),.int .u8 2,.int .u32 off] w λe w'=>e=.returned (.int .u64 (numVal 2 n))/\w=w':=by
 obtain⟨_,h2,h3⟩:=mGet_some h;have hz:numSize 2=1:=by simp[numSize]
 have hlt:=mGet_lt h;rw[hz] at h2 h3 hlt;have hsl:=run_slice_from (P:=Tryz.prog) Tryz.underlying81 sizeU8 B 0 l.length l.length .u32 off off rfl (by omega);have HC:=Hd (λnq=>GetInt8_ok B (sOff 0 off l.length) (l.length-off) (l.length-off) (l.drop off) (w.drewN nq) ((hT.drewN nq).m.cut (Nat.le_refl _)) (by rw[List.length_drop]) (by omega));have HC:=Hd (HC.out 0);rw[<-h3] at HC;have ht:=hT.t;have hbits:=run_f32bits;have hbits2:=run_f64bits;clear hT h h2 h3 hz;go_enter Tryz.func93,Tryz.ntmps93;go_wp2_with (first|(go_at_call 236;refine HC.out.mono ?_;rintro e w' ⟨rfl,rfl⟩)|(go_at_call 175;go_in));go_ret;exact⟨ret_int (close8 _ hlt),rfl⟩
theorem tableGetSlot_2_def(T B pos slot n:Nat)(l:List UInt8)(w:World)(hT:Tab w T B l pos)(hs:slot<65536)(hn:n<2^64)(h:mOffset l pos slot=some 0):
  Calls Tryz.prog 92 #[.pointer (some ⟨T,0,none⟩),.int .u8 2,.int .u16 slot,.int .u64 n] w λe w'=>e=.returned (.int .u64 (defVal 2 n))/\∃m,w'=w.drewN m:=by
 have HO:=Hd (Offset_ok T B pos slot 0 l w hT hs h);have hbits:=run_f32bits;have hbits2:=run_f64bits;have hfrom:=run_f32from;have hfrom2:=run_f64from;have hn1:(n:Int)<18446744073709551616:=by omega
 clear hT h hs;go_enter Tryz.func92,Tryz.ntmps92;go_wp2_with (first|(go_at_call 236;fail)|(go_at_call 160;go_in)|(go_at_call 91;refine HO.out.mono ?_;rintro e w' ⟨rfl,nq,rfl⟩)|(go_at_call 175;go_in));go_ret;exact⟨ret_int (close8d n),_,rfl⟩
theorem tableGetSlot_2_ok(T B pos slot n o v:Nat)(l:List UInt8)(w:World)(hT:Tab w T B l pos)(hs:slot<65536)(hn:n<2^64)(h:mOffset l pos slot=some o)(ho:o≠0)(hg:mGet l 2 (w32 (pos+o))=some v):
  Calls Tryz.prog 92 #[.pointer (some ⟨T,0,none⟩),.int .u8 2,.int .u16 slot,.int .u64 n] w λe w'=>e=.returned (.int .u64 (numVal 2 v))/\∃m,w'=w.drewN m:=by
 have HO:=Hd (Offset_ok T B pos slot o l w hT hs h);have hob:((o:Int)==0)=false:=by simp;omega
 have ho1:=mOffset_lt h;obtain⟨_,h2,h3⟩:=mGet_some hg;have hz:numSize 2=1:=by simp[numSize]
 have hlt:=mGet_lt hg;rw[hz] at h2 h3 hlt;have hsl:=run_slice_from (P:=Tryz.prog) Tryz.underlying81 sizeU8 B 0 l.length l.length .u32 (((pos:Int)+o)%4294967296) (w32 (pos+o)) (by unfold w32;omega) (by omega);have HC:=Hd (λnq=>GetInt8_ok B (sOff 0 (w32 (pos+o)) l.length) (l.length-w32 (pos+o)) (l.length-w32 (pos+o)) (l.drop (w32 (pos+o))) (w.drewN nq) ((hT.drewN nq).m.cut (Nat.le_refl _)) (by rw[List.length_drop]) (by omega));rw[<-h3] at HC;have ht:=hT.t;have hp:=hT.p;have hbits:=run_f32bits;have hbits2:=run_f64bits;have hfrom:=run_f32from;have hfrom2:=run_f64from;have hn1:(n:Int)<18446744073709551616:=by omega
 have hp1:=hT.hp;clear hT h hs hg h2 h3 hz ho;generalize w32 (pos+o)=q at *;go_enter Tryz.func92,Tryz.ntmps92;go_wp2_with (first|(go_at_call 236;refine (HC.out _).mono ?_;rintro e w' ⟨rfl,rfl⟩)|(go_at_call 160;go_in)|(go_at_call 91;refine HO.out.mono ?_;rintro e w' ⟨rfl,nq,rfl⟩)|(go_at_call 175;go_in));go_ret;exact⟨ret_int (close8 _ hlt),_,rfl⟩
theorem tableGet_3(T B pos off n:Nat)(l:List UInt8)(w:World)(hT:Tab w T B l pos)(h:mGet l 3 off=some n):
  Calls Tryz.prog 93 #[.pointer (some ⟨T,0,none⟩),.int .u8 3,.int .u32 off] w λe w'=>e=.returned (.int .u64 (numVal 3 n))/\w=w':=by
 obtain⟨_,h2,h3⟩:=mGet_some h;have hz:numSize 3=2:=by simp[numSize]
 have hlt:=mGet_lt h;rw[hz] at h2 h3 hlt;have hsl:=run_slice_from (P:=Tryz.prog) Tryz.underlying81 sizeU8 B 0 l.length l.length .u32 off off rfl (by omega);have HC:=Hd (λnq=>GetUint16_ok B (sOff 0 off l.length) (l.length-off) (l.length-off) (l.drop off) (w.drewN nq) ((hT.drewN nq).m.cut (Nat.le_refl _)) (by rw[List.length_drop]) (by omega));have HC:=Hd (HC.out 0);rw[<-h3] at HC;have ht:=hT.t;have hbits:=run_f32bits;have hbits2:=run_f64bits;clear hT h h2 h3 hz;go_enter Tryz.func93,Tryz.ntmps93;go_wp2_with (first|(go_at_call 237;refine HC.out.mono ?_;rintro e w' ⟨rfl,rfl⟩)|(go_at_call 176;go_in));go_ret;exact⟨ret_int (rfl),rfl⟩
theorem tableGetSlot_3_def(T B pos slot n:Nat)(l:List UInt8)(w:World)(hT:Tab w T B l pos)(hs:slot<65536)(hn:n<2^64)(h:mOffset l pos slot=some 0):
  Calls Tryz.prog 92 #[.pointer (some ⟨T,0,none⟩),.int .u8 3,.int .u16 slot,.int .u64 n] w λe w'=>e=.returned (.int .u64 (defVal 3 n))/\∃m,w'=w.drewN m:=by
 have HO:=Hd (Offset_ok T B pos slot 0 l w hT hs h);have hbits:=run_f32bits;have hbits2:=run_f64bits;have hfrom:=run_f32from;have hfrom2:=run_f64from;have hn1:(n:Int)<18446744073709551616:=by omega
 clear hT h hs;go_enter Tryz.func92,Tryz.ntmps92;go_wp2_with (first|(go_at_call 237;fail)|(go_at_call 161;go_in)|(go_at_call 91;refine HO.out.mono ?_;rintro e w' ⟨rfl,nq,rfl⟩)|(go_at_call 176;go_in));go_ret;exact⟨ret_int ((congrArg _ (close16u n)).trans (IntWalk.u64_in _ (by unfold defVal numSize;simp;omega))),_,rfl⟩
theorem tableGetSlot_3_ok(T B pos slot n o v:Nat)(l:List UInt8)(w:World)(hT:Tab w T B l pos)(hs:slot<65536)(hn:n<2^64)(h:mOffset l pos slot=some o)(ho:o≠0)(hg:mGet l 3 (w32 (pos+o))=some v):
  Calls Tryz.prog 92 #[.pointer (some ⟨T,0,none⟩),.int .u8 3,.int .u16 slot,.int .u64 n] w λe w'=>e=.returned (.int .u64 (numVal 3 v))/\∃m,w'=w.drewN m:=by
 have HO:=Hd (Offset_ok T B pos slot o l w hT hs h);have hob:((o:Int)==0)=false:=by simp;omega
 have ho1:=mOffset_lt h;obtain⟨_,h2,h3⟩:=mGet_some hg;have hz:numSize 3=2:=by simp[numSize]
 have hlt:=mGet_lt hg;rw[hz] at h2 h3 hlt;have hsl:=run_slice_from (P:=Tryz.prog) Tryz.underlying81 sizeU8 B 0 l.length l.length .u32 (((pos:Int)+o)%4294967296) (w32 (pos+o)) (by unfold w32;omega) (by omega);have HC:=Hd (λnq=>GetUint16_ok B (sOff 0 (w32 (pos+o)) l.length) (l.length-w32 (pos+o)) (l.length-w32 (pos+o)) (l.drop (w32 (pos+o))) (w.drewN nq) ((hT.drewN nq).m.cut (Nat.le_refl _)) (by rw[List.length_drop]) (by omega));rw[<-h3] at HC;have ht:=hT.t;have hp:=hT.p;have hbits:=run_f32bits;have hbits2:=run_f64bits;have hfrom:=run_f32from;have hfrom2:=run_f64from;have hn1:(n:Int)<18446744073709551616:=by omega
 have hp1:=hT.hp;clear hT h hs hg h2 h3 hz ho;generalize w32 (pos+o)=q at *;go_enter Tryz.func92,Tryz.ntmps92;go_wp2_with (first|(go_at_call 237;refine (HC.out _).mono ?_;rintro e w' ⟨rfl,rfl⟩)|(go_at_call 161;go_in)|(go_at_call 91;refine HO.out.mono ?_;rintro e w' ⟨rfl,nq,rfl⟩)|(go_at_call 176;go_in));go_ret;exact⟨ret_int (rfl),_,rfl⟩
theorem tableGet_4(T B pos off n:Nat)(l:List UInt8)(w:World)(hT:Tab w T B l pos)(h:mGet l 4 off=some n):
  Calls Tryz.prog 93 #[.pointer (some ⟨T,0,none⟩),.int .u8 4,.int .u32 off] w λe w'=>e=.returned (.int .u64 (numVal 4 n))/\w=w':=by
 obtain⟨_,h2,h3⟩:=mGet_some h;have hz:numSize 4=2:=by simp[numSize]
 have hlt:=mGet_lt h;rw[hz] at h2 h3 hlt;have hsl:=run_slice_from (P:=Tryz.prog) Tryz.underlying81 sizeU8 B 0 l.length l.length .u32 off off rfl (by omega);have HC:=Hd (λnq=>GetInt16_ok B (sOff 0 off l.length) (l.length-off) (l.length-off) (l.drop off) (w.drewN nq) ((hT.drewN nq).m.cut (Nat.le_refl _)) (by rw[List.length_drop]) (by omega));have HC:=Hd (HC.out 0);rw[<-h3] at HC;have ht:=hT.t;have hbits:=run_f32bits;have hbits2:=run_f64bits;clear hT h h2 h3 hz;go_enter Tryz.func93,Tryz.ntmps93;go_wp2_with (first|(go_at_call 238;refine HC.out.mono ?_;rintro e w' ⟨rfl,rfl⟩)|(go_at_call 177;go_in));go_ret;exact⟨ret_int (close16 _ hlt),rfl⟩
theorem tableGetSlot_4_def(T B pos slot n:Nat)(l:List UInt8)(w:World)(hT:Tab w T B l pos)(hs:slot<65536)(hn:n<2^64)(h:mOffset l pos slot=some 0):
  Calls Tryz.prog 92 #[.pointer (some ⟨T,0,none⟩),.int .u8 4,.int .u16 slot,.int .u64 n] w λe w'=>e=.returned (.int .u64 (defVal 4 n))/\∃m,w'=w.drewN m:=by
 have HO:=Hd (Offset_ok T B pos slot 0 l w hT hs h);have hbits:=run_f32bits;have hbits2:=run_f64bits;have hfrom:=run_f32from;have hfrom2:=run_f64from;have hn1:(n:Int)<18446744073709551616:=by omega
 clear hT h hs;go_enter Tryz.func92,Tryz.ntmps92;go_wp2_with (first|(go_at_call 238;fail)|(go_at_call 162;go_in)|(go_at_call 91;refine HO.out.mono ?_;rintro e w' ⟨rfl,nq,rfl⟩)|(go_at_call 177;go_in));go_ret;exact⟨ret_int (close16d n),_,rfl⟩
theorem tableGetSlot_4_ok(T B pos slot n o v:Nat)(l:List UInt8)(w:World)(hT:Tab w T B l pos)(hs:slot<65536)(hn:n<2^64)(h:mOffset l pos slot=some o)(ho:o≠0)(hg:mGet l 4 (w32 (pos+o))=some v):
  Calls Tryz.prog 92 #[.pointer (some ⟨T,0,none⟩),.int .u8 4,.int .u16 slot,.int .u64 n] w λe w'=>e=.returned (.int .u64 (numVal 4 v))/\∃m,w'=w.drewN m:=by
 have HO:=Hd (Offset_ok T B pos slot o l w hT hs h);have hob:((o:Int)==0)=false:=by simp;omega
 have ho1:=mOffset_lt h;obtain⟨_,h2,h3⟩:=mGet_some hg;have hz:numSize 4=2:=by simp[numSize]
 have hlt:=mGet_lt hg;rw[hz] at h2 h3 hlt;have hsl:=run_slice_from (P:=Tryz.prog) Tryz.underlying81 sizeU8 B 0 l.length l.length .u32 (((pos:Int)+o)%4294967296) (w32 (pos+o)) (by unfold w32;omega) (by omega);have HC:=Hd (λnq=>GetInt16_ok B (sOff 0 (w32 (pos+o)) l.length) (l.length-w32 (pos+o)) (l.length-w32 (pos+o)) (l.drop (w32 (pos+o))) (w.drewN nq) ((hT.drewN nq).m.cut (Nat.le_refl _)) (by rw[List.length_drop]) (by omega));rw[<-h3] at HC;have ht:=hT.t;have hp:=hT.p;have hbits:=run_f32bits;have hbits2:=run_f64bits;have hfrom:=run_f32from;have hfrom2:=run_f64from;have hn1:(n:Int)<18446744073709551616:=by omega
 have hp1:=hT.hp;clear hT h hs hg h2 h3 hz ho;generalize w32 (pos+o)=q at *;go_enter Tryz.func92,Tryz.ntmps92;go_wp2_with (first|(go_at_call 238;refine (HC.out _).mono ?_;rintro e w' ⟨rfl,rfl⟩)|(go_at_call 162;go_in)|(go_at_call 91;refine HO.out.mono ?_;rintro e w' ⟨rfl,nq,rfl⟩)|(go_at_call 177;go_in));go_ret;exact⟨ret_int (close16 _ hlt),_,rfl⟩
theorem tableGet_5(T B pos off n:Nat)(l:List UInt8)(w:World)(hT:Tab w T B l pos)(h:mGet l 5 off=some n):
  Calls Tryz.prog 93 #[.pointer (some ⟨T,0,none⟩),.int .u8 5,.int .u32 off] w λe w'=>e=.returned (.int .u64 (numVal 5 n))/\w=w':=by
 obtain⟨_,h2,h3⟩:=mGet_some h;have hz:numSize 5=4:=by simp[numSize]
 have hlt:=mGet_lt h;rw[hz] at h2 h3 hlt;have hsl:=run_slice_from (P:=Tryz.prog) Tryz.underlying81 sizeU8 B 0 l.length l.length .u32 off off rfl (by omega);have HC:=Hd (λnq=>GetUint32_ok B (sOff 0 off l.length) (l.length-off) (l.length-off) (l.drop off) (w.drewN nq) ((hT.drewN nq).m.cut (Nat.le_refl _)) (by rw[List.length_drop]) (by omega));have HC:=Hd (HC.out 0);rw[<-h3] at HC;have ht:=hT.t;have hbits:=run_f32bits;have hbits2:=run_f64bits;clear hT h h2 h3 hz;go_enter Tryz.func93,Tryz.ntmps93;go_wp2_with (first|(go_at_call 239;refine HC.out.mono ?_;rintro e w' ⟨rfl,rfl⟩)|(go_at_call 178;go_in));go_ret;exact⟨ret_int (rfl),rfl⟩
theorem tableGetSlot_5_def(T B pos slot n:Nat)(l:List UInt8)(w:World)(hT:Tab w T B l pos)(hs:slot<65536)(hn:n<2^64)(h:mOffset l pos slot=some 0):
  Calls Tryz.prog 92 #[.pointer (some ⟨T,0,none⟩),.int .u8 5,.int .u16 slot,.int .u64 n] w λe w'=>e=.returned (.int .u64 (defVal 5 n))/\∃m,w'=w.drewN m:=by
 have HO:=Hd (Offset_ok T B pos slot 0 l w hT hs h);have hbits:=run_f32bits;have hbits2:=run_f64bits;have hfrom:=run_f32from;have hfrom2:=run_f64from;have hn1:(n:Int)<18446744073709551616:=by omega
 clear hT h hs;go_enter Tryz.func92,Tryz.ntmps92;go_wp2_with (first|(go_at_call 239;fail)|(go_at_call 163;go_in)|(go_at_call 91;refine HO.out.mono ?_;rintro e w' ⟨rfl,nq,rfl⟩)|(go_at_call 178;go_in));go_ret;exact⟨ret_int (defClose1 n 5 4294967296 rfl (by decide) (by simp[numSize])),_,rfl⟩
theorem tableGetSlot_5_ok(T B pos slot n o v:Nat)(l:List UInt8)(w:World)(hT:Tab w T B l pos)(hs:slot<65536)(hn:n<2^64)(h:mOffset l pos slot=some o)(ho:o≠0)(hg:mGet l 5 (w32 (pos+o))=some v):
  Calls Tryz.prog 92 #[.pointer (some ⟨T,0,none⟩),.int .u8 5,.int .u16 slot,.int .u64 n] w λe w'=>e=.returned (.int .u64 (numVal 5 v))/\∃m,w'=w.drewN m:=by
 have HO:=Hd (Offset_ok T B pos slot o l w hT hs h);have hob:((o:Int)==0)=false:=by simp;omega
 have ho1:=mOffset_lt h;obtain⟨_,h2,h3⟩:=mGet_some hg;have hz:numSize 5=4:=by simp[numSize]
 have hlt:=mGet_lt hg;rw[hz] at h2 h3 hlt;have hsl:=run_slice_from (P:=Tryz.prog) Tryz.underlying81 sizeU8 B 0 l.length l.length .u32 (((pos:Int)+o)%4294967296) (w32 (pos+o)) (by unfold w32;omega) (by omega);have HC:=Hd (λnq=>GetUint32_ok B (sOff 0 (w32 (pos+o)) l.length) (l.length-w32 (pos+o)) (l.length-w32 (pos+o)) (l.drop (w32 (pos+o))) (w.drewN nq) ((hT.drewN nq).m.cut (Nat.le_refl _)) (by rw[List.length_drop]) (by omega));rw[<-h3] at HC;have ht:=hT.t;have hp:=hT.p;have hbits:=run_f32bits;have hbits2:=run_f64bits;have hfrom:=run_f32from;have hfrom2:=run_f64from;have hn1:(n:Int)<18446744073709551616:=by omega
 have hp1:=hT.hp;clear hT h hs hg h2 h3 hz ho;generalize w32 (pos+o)=q at *;go_enter Tryz.func92,Tryz.ntmps92;go_wp2_with (first|(go_at_call 239;refine (HC.out _).mono ?_;rintro e w' ⟨rfl,rfl⟩)|(go_at_call 163;go_in)|(go_at_call 91;refine HO.out.mono ?_;rintro e w' ⟨rfl,nq,rfl⟩)|(go_at_call 178;go_in));go_ret;exact⟨ret_int (rfl),_,rfl⟩
theorem tableGet_6(T B pos off n:Nat)(l:List UInt8)(w:World)(hT:Tab w T B l pos)(h:mGet l 6 off=some n):
  Calls Tryz.prog 93 #[.pointer (some ⟨T,0,none⟩),.int .u8 6,.int .u32 off] w λe w'=>e=.returned (.int .u64 (numVal 6 n))/\w=w':=by
 obtain⟨_,h2,h3⟩:=mGet_some h;have hz:numSize 6=4:=by simp[numSize]
 have hlt:=mGet_lt h;rw[hz] at h2 h3 hlt;have hsl:=run_slice_from (P:=Tryz.prog) Tryz.underlying81 sizeU8 B 0 l.length l.length .u32 off off rfl (by omega);have HC:=Hd (λnq=>GetInt32_ok B (sOff 0 off l.length) (l.length-off) (l.length-off) (l.drop off) (w.drewN nq) ((hT.drewN nq).m.cut (Nat.le_refl _)) (by rw[List.length_drop]) (by omega));have HC:=Hd (HC.out 0);rw[<-h3] at HC;have ht:=hT.t;have hbits:=run_f32bits;have hbits2:=run_f64bits;clear hT h h2 h3 hz;go_enter Tryz.func93,Tryz.ntmps93;go_wp2_with (first|(go_at_call 154;refine HC.out.mono ?_;rintro e w' ⟨rfl,rfl⟩)|(go_at_call 179;go_in));go_ret;exact⟨ret_int (close32 _ hlt),rfl⟩
theorem tableGetSlot_6_def(T B pos slot n:Nat)(l:List UInt8)(w:World)(hT:Tab w T B l pos)(hs:slot<65536)(hn:n<2^64)(h:mOffset l pos slot=some 0):
  Calls Tryz.prog 92 #[.pointer (some ⟨T,0,none⟩),.int .u8 6,.int .u16 slot,.int .u64 n] w λe w'=>e=.returned (.int .u64 (defVal 6 n))/\∃m,w'=w.drewN m:=by
 have HO:=Hd (Offset_ok T B pos slot 0 l w hT hs h);have hbits:=run_f32bits;have hbits2:=run_f64bits;have hfrom:=run_f32from;have hfrom2:=run_f64from;have hn1:(n:Int)<18446744073709551616:=by omega
 clear hT h hs;go_enter Tryz.func92,Tryz.ntmps92;go_wp2_with (first|(go_at_call 154;fail)|(go_at_call 164;go_in)|(go_at_call 91;refine HO.out.mono ?_;rintro e w' ⟨rfl,nq,rfl⟩)|(go_at_call 179;go_in));go_ret;exact⟨ret_int (close32d n),_,rfl⟩
theorem tableGetSlot_6_ok(T B pos slot n o v:Nat)(l:List UInt8)(w:World)(hT:Tab w T B l pos)(hs:slot<65536)(hn:n<2^64)(h:mOffset l pos slot=some o)(ho:o≠0)(hg:mGet l 6 (w32 (pos+o))=some v):
  Calls Tryz.prog 92 #[.pointer (some ⟨T,0,none⟩),.int .u8 6,.int .u16 slot,.int .u64 n] w λe w'=>e=.returned (.int .u64 (numVal 6 v))/\∃m,w'=w.drewN m:=by
 have HO:=Hd (Offset_ok T B pos slot o l w hT hs h);have hob:((o:Int)==0)=false:=by simp;omega
 have ho1:=mOffset_lt h;obtain⟨_,h2,h3⟩:=mGet_some hg;have hz:numSize 6=4:=by simp[numSize]
 have hlt:=mGet_lt hg;rw[hz] at h2 h3 hlt;have hsl:=run_slice_from (P:=Tryz.prog) Tryz.underlying81 sizeU8 B 0 l.length l.length .u32 (((pos:Int)+o)%4294967296) (w32 (pos+o)) (by unfold w32;omega) (by omega);have HC:=Hd (λnq=>GetInt32_ok B (sOff 0 (w32 (pos+o)) l.length) (l.length-w32 (pos+o)) (l.length-w32 (pos+o)) (l.drop (w32 (pos+o))) (w.drewN nq) ((hT.drewN nq).m.cut (Nat.le_refl _)) (by rw[List.length_drop]) (by omega));rw[<-h3] at HC;have ht:=hT.t;have hp:=hT.p;have hbits:=run_f32bits;have hbits2:=run_f64bits;have hfrom:=run_f32from;have hfrom2:=run_f64from;have hn1:(n:Int)<18446744073709551616:=by omega
 have hp1:=hT.hp;clear hT h hs hg h2 h3 hz ho;generalize w32 (pos+o)=q at *;go_enter Tryz.func92,Tryz.ntmps92;go_wp2_with (first|(go_at_call 154;refine (HC.out _).mono ?_;rintro e w' ⟨rfl,rfl⟩)|(go_at_call 164;go_in)|(go_at_call 91;refine HO.out.mono ?_;rintro e w' ⟨rfl,nq,rfl⟩)|(go_at_call 179;go_in));go_ret;exact⟨ret_int (close32 _ hlt),_,rfl⟩
theorem tableGet_7(T B pos off n:Nat)(l:List UInt8)(w:World)(hT:Tab w T B l pos)(h:mGet l 7 off=some n):
  Calls Tryz.prog 93 #[.pointer (some ⟨T,0,none⟩),.int .u8 7,.int .u32 off] w λe w'=>e=.returned (.int .u64 (numVal 7 n))/\w=w':=by
 obtain⟨_,h2,h3⟩:=mGet_some h;have hz:numSize 7=8:=by simp[numSize]
 have hlt:=mGet_lt h;rw[hz] at h2 h3 hlt;have hsl:=run_slice_from (P:=Tryz.prog) Tryz.underlying81 sizeU8 B 0 l.length l.length .u32 off off rfl (by omega);have HC:=Hd (λnq=>GetUint64_ok B (sOff 0 off l.length) (l.length-off) (l.length-off) (l.drop off) (w.drewN nq) ((hT.drewN nq).m.cut (Nat.le_refl _)) (by rw[List.length_drop]) (by omega));have HC:=Hd (HC.out 0);rw[<-h3] at HC;have ht:=hT.t;have hbits:=run_f32bits;have hbits2:=run_f64bits;clear hT h h2 h3 hz;go_enter Tryz.func93,Tryz.ntmps93;go_wp2_with (first|(go_at_call 240;refine HC.out.mono ?_;rintro e w' ⟨rfl,rfl⟩)|(go_at_call 180;go_in));go_ret;exact⟨ret_int (rfl),rfl⟩
theorem tableGetSlot_7_def(T B pos slot n:Nat)(l:List UInt8)(w:World)(hT:Tab w T B l pos)(hs:slot<65536)(hn:n<2^64)(h:mOffset l pos slot=some 0):
  Calls Tryz.prog 92 #[.pointer (some ⟨T,0,none⟩),.int .u8 7,.int .u16 slot,.int .u64 n] w λe w'=>e=.returned (.int .u64 (defVal 7 n))/\∃m,w'=w.drewN m:=by
 have HO:=Hd (Offset_ok T B pos slot 0 l w hT hs h);have hbits:=run_f32bits;have hbits2:=run_f64bits;have hfrom:=run_f32from;have hfrom2:=run_f64from;have hn1:(n:Int)<18446744073709551616:=by omega
 clear hT h hs;go_enter Tryz.func92,Tryz.ntmps92;go_wp2_with (first|(go_at_call 240;fail)|(go_at_call 165;go_in)|(go_at_call 91;refine HO.out.mono ?_;rintro e w' ⟨rfl,nq,rfl⟩)|(go_at_call 180;go_in));go_ret;exact⟨ret_int (close64u n hn),_,rfl⟩
theorem tableGetSlot_7_ok(T B pos slot n o v:Nat)(l:List UInt8)(w:World)(hT:Tab w T B l pos)(hs:slot<65536)(hn:n<2^64)(h:mOffset l pos slot=some o)(ho:o≠0)(hg:mGet l 7 (w32 (pos+o))=some v):
  Calls Tryz.prog 92 #[.pointer (some ⟨T,0,none⟩),.int .u8 7,.int .u16 slot,.int .u64 n] w λe w'=>e=.returned (.int .u64 (numVal 7 v))/\∃m,w'=w.drewN m:=by
 have HO:=Hd (Offset_ok T B pos slot o l w hT hs h);have hob:((o:Int)==0)=false:=by simp;omega
 have ho1:=mOffset_lt h;obtain⟨_,h2,h3⟩:=mGet_some hg;have hz:numSize 7=8:=by simp[numSize]
 have hlt:=mGet_lt hg;rw[hz] at h2 h3 hlt;have hsl:=run_slice_from (P:=Tryz.prog) Tryz.underlying81 sizeU8 B 0 l.length l.length .u32 (((pos:Int)+o)%4294967296) (w32 (pos+o)) (by unfold w32;omega) (by omega);have HC:=Hd (λnq=>GetUint64_ok B (sOff 0 (w32 (pos+o)) l.length) (l.length-w32 (pos+o)) (l.length-w32 (pos+o)) (l.drop (w32 (pos+o))) (w.drewN nq) ((hT.drewN nq).m.cut (Nat.le_refl _)) (by rw[List.length_drop]) (by omega));rw[<-h3] at HC;have ht:=hT.t;have hp:=hT.p;have hbits:=run_f32bits;have hbits2:=run_f64bits;have hfrom:=run_f32from;have hfrom2:=run_f64from;have hn1:(n:Int)<18446744073709551616:=by omega
 have hp1:=hT.hp;clear hT h hs hg h2 h3 hz ho;generalize w32 (pos+o)=q at *;go_enter Tryz.func92,Tryz.ntmps92;go_wp2_with (first|(go_at_call 240;refine (HC.out _).mono ?_;rintro e w' ⟨rfl,rfl⟩)|(go_at_call 165;go_in)|(go_at_call 91;refine HO.out.mono ?_;rintro e w' ⟨rfl,nq,rfl⟩)|(go_at_call 180;go_in));go_ret;exact⟨ret_int (rfl),_,rfl⟩
theorem tableGet_8(T B pos off n:Nat)(l:List UInt8)(w:World)(hT:Tab w T B l pos)(h:mGet l 8 off=some n):
  Calls Tryz.prog 93 #[.pointer (some ⟨T,0,none⟩),.int .u8 8,.int .u32 off] w λe w'=>e=.returned (.int .u64 (numVal 8 n))/\w=w':=by
 obtain⟨_,h2,h3⟩:=mGet_some h;have hz:numSize 8=8:=by simp[numSize]
 have hlt:=mGet_lt h;rw[hz] at h2 h3 hlt;have hsl:=run_slice_from (P:=Tryz.prog) Tryz.underlying81 sizeU8 B 0 l.length l.length .u32 off off rfl (by omega);have HC:=Hd (λnq=>GetInt64_ok B (sOff 0 off l.length) (l.length-off) (l.length-off) (l.drop off) (w.drewN nq) ((hT.drewN nq).m.cut (Nat.le_refl _)) (by rw[List.length_drop]) (by omega));have HC:=Hd (HC.out 0);rw[<-h3] at HC;have ht:=hT.t;have hbits:=run_f32bits;have hbits2:=run_f64bits;clear hT h h2 h3 hz;go_enter Tryz.func93,Tryz.ntmps93;go_wp2_with (first|(go_at_call 241;refine HC.out.mono ?_;rintro e w' ⟨rfl,rfl⟩)|(go_at_call 181;go_in));go_ret;exact⟨ret_int (close64 _ hlt),rfl⟩
theorem tableGetSlot_8_def(T B pos slot n:Nat)(l:List UInt8)(w:World)(hT:Tab w T B l pos)(hs:slot<65536)(hn:n<2^64)(h:mOffset l pos slot=some 0):
  Calls Tryz.prog 92 #[.pointer (some ⟨T,0,none⟩),.int .u8 8,.int .u16 slot,.int .u64 n] w λe w'=>e=.returned (.int .u64 (defVal 8 n))/\∃m,w'=w.drewN m:=by
 have HO:=Hd (Offset_ok T B pos slot 0 l w hT hs h);have hbits:=run_f32bits;have hbits2:=run_f64bits;have hfrom:=run_f32from;have hfrom2:=run_f64from;have hn1:(n:Int)<18446744073709551616:=by omega
 clear hT h hs;go_enter Tryz.func92,Tryz.ntmps92;go_wp2_with (first|(go_at_call 241;fail)|(go_at_call 166;go_in)|(go_at_call 91;refine HO.out.mono ?_;rintro e w' ⟨rfl,nq,rfl⟩)|(go_at_call 181;go_in));go_ret;exact⟨ret_int (close64d n hn),_,rfl⟩
theorem tableGetSlot_8_ok(T B pos slot n o v:Nat)(l:List UInt8)(w:World)(hT:Tab w T B l pos)(hs:slot<65536)(hn:n<2^64)(h:mOffset l pos slot=some o)(ho:o≠0)(hg:mGet l 8 (w32 (pos+o))=some v):
  Calls Tryz.prog 92 #[.pointer (some ⟨T,0,none⟩),.int .u8 8,.int .u16 slot,.int .u64 n] w λe w'=>e=.returned (.int .u64 (numVal 8 v))/\∃m,w'=w.drewN m:=by
 have HO:=Hd (Offset_ok T B pos slot o l w hT hs h);have hob:((o:Int)==0)=false:=by simp;omega
 have ho1:=mOffset_lt h;obtain⟨_,h2,h3⟩:=mGet_some hg;have hz:numSize 8=8:=by simp[numSize]
 have hlt:=mGet_lt hg;rw[hz] at h2 h3 hlt;have hsl:=run_slice_from (P:=Tryz.prog) Tryz.underlying81 sizeU8 B 0 l.length l.length .u32 (((pos:Int)+o)%4294967296) (w32 (pos+o)) (by unfold w32;omega) (by omega);have HC:=Hd (λnq=>GetInt64_ok B (sOff 0 (w32 (pos+o)) l.length) (l.length-w32 (pos+o)) (l.length-w32 (pos+o)) (l.drop (w32 (pos+o))) (w.drewN nq) ((hT.drewN nq).m.cut (Nat.le_refl _)) (by rw[List.length_drop]) (by omega));rw[<-h3] at HC;have ht:=hT.t;have hp:=hT.p;have hbits:=run_f32bits;have hbits2:=run_f64bits;have hfrom:=run_f32from;have hfrom2:=run_f64from;have hn1:(n:Int)<18446744073709551616:=by omega
 have hp1:=hT.hp;clear hT h hs hg h2 h3 hz ho;generalize w32 (pos+o)=q at *;go_enter Tryz.func92,Tryz.ntmps92;go_wp2_with (first|(go_at_call 241;refine (HC.out _).mono ?_;rintro e w' ⟨rfl,rfl⟩)|(go_at_call 166;go_in)|(go_at_call 91;refine HO.out.mono ?_;rintro e w' ⟨rfl,nq,rfl⟩)|(go_at_call 181;go_in));go_ret;exact⟨ret_int (close64 _ hlt),_,rfl⟩
theorem tableGet_9(T B pos off n:Nat)(l:List UInt8)(w:World)(hT:Tab w T B l pos)(h:mGet l 9 off=some n):
  Calls Tryz.prog 93 #[.pointer (some ⟨T,0,none⟩),.int .u8 9,.int .u32 off] w λe w'=>e=.returned (.int .u64 (numVal 9 n))/\w=w':=by
 obtain⟨_,h2,h3⟩:=mGet_some h;have hz:numSize 9=4:=by simp[numSize]
 have hlt:=mGet_lt h;rw[hz] at h2 h3 hlt;have hsl:=run_slice_from (P:=Tryz.prog) Tryz.underlying81 sizeU8 B 0 l.length l.length .u32 off off rfl (by omega);have HC:=Hd (λnq=>GetFloat32_ok B (sOff 0 off l.length) (l.length-off) (l.length-off) (l.drop off) (w.drewN nq) ((hT.drewN nq).m.cut (Nat.le_refl _)) (by rw[List.length_drop]) (by omega));have HC:=Hd (HC.out 0);rw[<-h3] at HC;have ht:=hT.t;have hbits:=run_f32bits;have hbits2:=run_f64bits;clear hT h h2 h3 hz;go_enter Tryz.func93,Tryz.ntmps93;go_wp2_with (first|(go_at_call 242;refine HC.out.mono ?_;rintro e w' ⟨rfl,rfl⟩)|(go_at_call 182;go_in));go_ret;exact⟨ret_int (rfl),rfl⟩
theorem tableGetSlot_9_def(T B pos slot n:Nat)(l:List UInt8)(w:World)(hT:Tab w T B l pos)(hs:slot<65536)(hn:n<2^64)(h:mOffset l pos slot=some 0):
  Calls Tryz.prog 92 #[.pointer (some ⟨T,0,none⟩),.int .u8 9,.int .u16 slot,.int .u64 n] w λe w'=>e=.returned (.int .u64 (defVal 9 n))/\∃m,w'=w.drewN m:=by
 have HO:=Hd (Offset_ok T B pos slot 0 l w hT hs h);have hbits:=run_f32bits;have hbits2:=run_f64bits;have hfrom:=run_f32from;have hfrom2:=run_f64from;have hn1:(n:Int)<18446744073709551616:=by omega
 clear hT h hs;go_enter Tryz.func92,Tryz.ntmps92;go_wp2_with (first|(go_at_call 242;fail)|(go_at_call 168;go_in)|(go_at_call 91;refine HO.out.mono ?_;rintro e w' ⟨rfl,nq,rfl⟩)|(go_at_call 182;go_in));go_ret;exact⟨ret_int (close32f n),_,rfl⟩
theorem tableGetSlot_9_ok(T B pos slot n o v:Nat)(l:List UInt8)(w:World)(hT:Tab w T B l pos)(hs:slot<65536)(hn:n<2^64)(h:mOffset l pos slot=some o)(ho:o≠0)(hg:mGet l 9 (w32 (pos+o))=some v):
  Calls Tryz.prog 92 #[.pointer (some ⟨T,0,none⟩),.int .u8 9,.int .u16 slot,.int .u64 n] w λe w'=>e=.returned (.int .u64 (numVal 9 v))/\∃m,w'=w.drewN m:=by
 have HO:=Hd (Offset_ok T B pos slot o l w hT hs h);have hob:((o:Int)==0)=false:=by simp;omega
 have ho1:=mOffset_lt h;obtain⟨_,h2,h3⟩:=mGet_some hg;have hz:numSize 9=4:=by simp[numSize]
 have hlt:=mGet_lt hg;rw[hz] at h2 h3 hlt;have hsl:=run_slice_from (P:=Tryz.prog) Tryz.underlying81 sizeU8 B 0 l.length l.length .u32 (((pos:Int)+o)%4294967296) (w32 (pos+o)) (by unfold w32;omega) (by omega);have HC:=Hd (λnq=>GetFloat32_ok B (sOff 0 (w32 (pos+o)) l.length) (l.length-w32 (pos+o)) (l.length-w32 (pos+o)) (l.drop (w32 (pos+o))) (w.drewN nq) ((hT.drewN nq).m.cut (Nat.le_refl _)) (by rw[List.length_drop]) (by omega));rw[<-h3] at HC;have ht:=hT.t;have hp:=hT.p;have hbits:=run_f32bits;have hbits2:=run_f64bits;have hfrom:=run_f32from;have hfrom2:=run_f64from;have hn1:(n:Int)<18446744073709551616:=by omega
 have hp1:=hT.hp;clear hT h hs hg h2 h3 hz ho;generalize w32 (pos+o)=q at *;go_enter Tryz.func92,Tryz.ntmps92;go_wp2_with (first|(go_at_call 242;refine (HC.out _).mono ?_;rintro e w' ⟨rfl,rfl⟩)|(go_at_call 168;go_in)|(go_at_call 91;refine HO.out.mono ?_;rintro e w' ⟨rfl,nq,rfl⟩)|(go_at_call 182;go_in));go_ret;exact⟨ret_int (rfl),_,rfl⟩
theorem tableGet_10(T B pos off n:Nat)(l:List UInt8)(w:World)(hT:Tab w T B l pos)(h:mGet l 10 off=some n):
  Calls Tryz.prog 93 #[.pointer (some ⟨T,0,none⟩),.int .u8 10,.int .u32 off] w λe w'=>e=.returned (.int .u64 (numVal 10 n))/\w=w':=by
 obtain⟨_,h2,h3⟩:=mGet_some h;have hz:numSize 10=8:=by simp[numSize]
 have hlt:=mGet_lt h;rw[hz] at h2 h3 hlt;have hsl:=run_slice_from (P:=Tryz.prog) Tryz.underlying81 sizeU8 B 0 l.length l.length .u32 off off rfl (by omega);have HC:=Hd (λnq=>GetFloat64_ok B (sOff 0 off l.length) (l.length-off) (l.length-off) (l.drop off) (w.drewN nq) ((hT.drewN nq).m.cut (Nat.le_refl _)) (by rw[List.length_drop]) (by omega));have HC:=Hd (HC.out 0);rw[<-h3] at HC;have ht:=hT.t;have hbits:=run_f32bits;have hbits2:=run_f64bits;clear hT h h2 h3 hz;go_enter Tryz.func93,Tryz.ntmps93;go_wp2_with (first|(go_at_call 243;refine HC.out.mono ?_;rintro e w' ⟨rfl,rfl⟩)|(go_at_call 183;go_in));go_ret;exact⟨ret_int (rfl),rfl⟩
theorem tableGetSlot_10_def(T B pos slot n:Nat)(l:List UInt8)(w:World)(hT:Tab w T B l pos)(hs:slot<65536)(hn:n<2^64)(h:mOffset l pos slot=some 0):
  Calls Tryz.prog 92 #[.pointer (some ⟨T,0,none⟩),.int .u8 10,.int .u16 slot,.int .u64 n] w λe w'=>e=.returned (.int .u64 (defVal 10 n))/\∃m,w'=w.drewN m:=by
 have HO:=Hd (Offset_ok T B pos slot 0 l w hT hs h);have hbits:=run_f32bits;have hbits2:=run_f64bits;have hfrom:=run_f32from;have hfrom2:=run_f64from;have hn1:(n:Int)<18446744073709551616:=by omega
 clear hT h hs;go_enter Tryz.func92,Tryz.ntmps92;go_wp2_with (first|(go_at_call 243;fail)|(go_at_call 170;go_in)|(go_at_call 91;refine HO.out.mono ?_;rintro e w' ⟨rfl,nq,rfl⟩)|(go_at_call 183;go_in));go_ret;exact⟨ret_int (close64f n hn),_,rfl⟩
theorem tableGetSlot_10_ok(T B pos slot n o v:Nat)(l:List UInt8)(w:World)(hT:Tab w T B l pos)(hs:slot<65536)(hn:n<2^64)(h:mOffset l pos slot=some o)(ho:o≠0)(hg:mGet l 10 (w32 (pos+o))=some v):
  Calls Tryz.prog 92 #[.pointer (some ⟨T,0,none⟩),.int .u8 10,.int .u16 slot,.int .u64 n] w λe w'=>e=.returned (.int .u64 (numVal 10 v))/\∃m,w'=w.drewN m:=by
 have HO:=Hd (Offset_ok T B pos slot o l w hT hs h);have hob:((o:Int)==0)=false:=by simp;omega
 have ho1:=mOffset_lt h;obtain⟨_,h2,h3⟩:=mGet_some hg;have hz:numSize 10=8:=by simp[numSize]
 have hlt:=mGet_lt hg;rw[hz] at h2 h3 hlt;have hsl:=run_slice_from (P:=Tryz.prog) Tryz.underlying81 sizeU8 B 0 l.length l.length .u32 (((pos:Int)+o)%4294967296) (w32 (pos+o)) (by unfold w32;omega) (by omega);have HC:=Hd (λnq=>GetFloat64_ok B (sOff 0 (w32 (pos+o)) l.length) (l.length-w32 (pos+o)) (l.length-w32 (pos+o)) (l.drop (w32 (pos+o))) (w.drewN nq) ((hT.drewN nq).m.cut (Nat.le_refl _)) (by rw[List.length_drop]) (by omega));rw[<-h3] at HC;have ht:=hT.t;have hp:=hT.p;have hbits:=run_f32bits;have hbits2:=run_f64bits;have hfrom:=run_f32from;have hfrom2:=run_f64from;have hn1:(n:Int)<18446744073709551616:=by omega
 have hp1:=hT.hp;clear hT h hs hg h2 h3 hz ho;generalize w32 (pos+o)=q at *;go_enter Tryz.func92,Tryz.ntmps92;go_wp2_with (first|(go_at_call 243;refine (HC.out _).mono ?_;rintro e w' ⟨rfl,rfl⟩)|(go_at_call 170;go_in)|(go_at_call 91;refine HO.out.mono ?_;rintro e w' ⟨rfl,nq,rfl⟩)|(go_at_call 183;go_in));go_ret;exact⟨ret_int (rfl),_,rfl⟩
end Go.Proofs.YtcfblkkpclfmaaaGreat
