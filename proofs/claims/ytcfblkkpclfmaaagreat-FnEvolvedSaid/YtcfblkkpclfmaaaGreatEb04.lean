/- Part 4 of the proof of FnEvolved; no condition. -/
import Derived.Test.YtcfblkkpclfmaaaGreatProg
import Derived.Test.YtcfblkkpclfmaaaGreatEb01
import Derived.Laws.ShiftsVar
import Derived.Laws.Externs
import Derived.Laws.Slices
import Derived.Deep.QuietTactic
import Derived.BigQuiet
set_option linter.unusedVariables false
set_option linter.unusedSimpArgs false
set_option maxRecDepth 100000
set_option maxHeartbeats 16000000
namespace Go.Proofs.YtcfblkkpclfmaaaGreat
open Go.RowKit
theorem ret_int{k:IntKind}{a b:Int}(h:a=b):Ending.returned (.int k a)=.returned (.int k b):=by rw[h]
theorem GetUint8_ok(b off len cap:Nat)(l:List UInt8)(w:World)(hm:Mem w b off l)(hlen:l.length=len)(hs:1<=len):
  Calls Tryz.prog 235 #[.slice (some ⟨b,off,none⟩) len cap] w λe w'=>e=.returned (.int .u8 ((le (l.take 1):Nat)))/\w=w':=by
 obtain⟨x0,l1,rfl⟩:∃x r,l=x::r:=by cases l with|nil=>(simp at hlen;omega)|cons x r=>exact⟨x,r,rfl⟩
 have c0:w.cell? ⟨b,off,none⟩=some (.int .u8 (x0.toNat:Int)):=hm 0 x0 rfl;have b0:(x0.toNat:Int)<=255:=by have:=x0.toNat_lt;omega
 have hfin:le (([x0]++l1).take 1)=le [x0]:=by simp
 have HF:=Hd hfin;clear hfin hm hlen;go_enter Tryz.func235,Tryz.ntmps235;go_wp2
 go_ret;refine⟨ret_int ?_,rfl⟩;refine Eq.trans ?_ (congrArg Int.ofNat HF.out).symm;simp[le]
theorem GetInt8_ok(b off len cap:Nat)(l:List UInt8)(w:World)(hm:Mem w b off l)(hlen:l.length=len)(hs:1<=len):
  Calls Tryz.prog 236 #[.slice (some ⟨b,off,none⟩) len cap] w λe w'=>e=.returned (.int .i8 (IntKind.i8.wrap (le (l.take 1):Nat)))/\w=w':=by
 obtain⟨x0,l1,rfl⟩:∃x r,l=x::r:=by cases l with|nil=>(simp at hlen;omega)|cons x r=>exact⟨x,r,rfl⟩
 have c0:w.cell? ⟨b,off,none⟩=some (.int .u8 (x0.toNat:Int)):=hm 0 x0 rfl;have b0:(x0.toNat:Int)<=255:=by have:=x0.toNat_lt;omega
 have hfin:le (([x0]++l1).take 1)=le [x0]:=by simp
 have HF:=Hd hfin;clear hfin hm hlen;go_enter Tryz.func236,Tryz.ntmps236;go_wp2
 go_ret;refine⟨ret_int ?_,rfl⟩;refine Eq.trans ?_ (congrArg (λz:Nat=>IntKind.i8.wrap (z:Int)) HF.out).symm;simp[le]
theorem GetUint16_ok(b off len cap:Nat)(l:List UInt8)(w:World)(hm:Mem w b off l)(hlen:l.length=len)(hs:2<=len):
  Calls Tryz.prog 237 #[.slice (some ⟨b,off,none⟩) len cap] w λe w'=>e=.returned (.int .u16 ((le (l.take 2):Nat)))/\w=w':=by
 obtain⟨x0,l1,rfl⟩:∃x r,l=x::r:=by cases l with|nil=>(simp at hlen;omega)|cons x r=>exact⟨x,r,rfl⟩
 obtain⟨x1,l2,rfl⟩:∃x r,l1=x::r:=by cases l1 with|nil=>(simp at hlen;omega)|cons x r=>exact⟨x,r,rfl⟩
 have c0:w.cell? ⟨b,off,none⟩=some (.int .u8 (x0.toNat:Int)):=hm 0 x0 rfl;have b0:(x0.toNat:Int)<=255:=by have:=x0.toNat_lt;omega
 have c1:w.cell? ⟨b,off+1,none⟩=some (.int .u8 (x1.toNat:Int)):=hm 1 x1 rfl;have b1:(x1.toNat:Int)<=255:=by have:=x1.toNat_lt;omega
 have hfin:le (([x0,x1]++l2).take 2)=le [x0,x1]:=by simp
 have HF:=Hd hfin;clear hfin hm hlen;go_enter Tryz.func237,Tryz.ntmps237;go_wp2
 go_ret;refine⟨ret_int ?_,rfl⟩;refine Eq.trans ?_ (congrArg Int.ofNat HF.out).symm;show _=((le [x0,x1]:Nat):Int);have h:=or2 .u16 x0 x1;rw[<-le2] at h;have hb:=le_lt [x0,x1];simp only[List.length_cons,List.length_nil] at hb;have hw:IntKind.u16.wrap ((le [x0,x1]:Nat):Int)=le [x0,x1]:=IntWalk.u16_in _ (by omega);rw[hw] at h;rw[<-or_zero] at h;refine Eq.trans ?_ h;rfl
theorem GetInt16_ok(b off len cap:Nat)(l:List UInt8)(w:World)(hm:Mem w b off l)(hlen:l.length=len)(hs:2<=len):
  Calls Tryz.prog 238 #[.slice (some ⟨b,off,none⟩) len cap] w λe w'=>e=.returned (.int .i16 (IntKind.i16.wrap (le (l.take 2):Nat)))/\w=w':=by
 obtain⟨x0,l1,rfl⟩:∃x r,l=x::r:=by cases l with|nil=>(simp at hlen;omega)|cons x r=>exact⟨x,r,rfl⟩
 obtain⟨x1,l2,rfl⟩:∃x r,l1=x::r:=by cases l1 with|nil=>(simp at hlen;omega)|cons x r=>exact⟨x,r,rfl⟩
 have c0:w.cell? ⟨b,off,none⟩=some (.int .u8 (x0.toNat:Int)):=hm 0 x0 rfl;have b0:(x0.toNat:Int)<=255:=by have:=x0.toNat_lt;omega
 have c1:w.cell? ⟨b,off+1,none⟩=some (.int .u8 (x1.toNat:Int)):=hm 1 x1 rfl;have b1:(x1.toNat:Int)<=255:=by have:=x1.toNat_lt;omega
 have hfin:le (([x0,x1]++l2).take 2)=le [x0,x1]:=by simp
 have HF:=Hd hfin;clear hfin hm hlen;go_enter Tryz.func238,Tryz.ntmps238;go_wp2
 go_ret;refine⟨ret_int ?_,rfl⟩;refine Eq.trans ?_ (congrArg (λz:Nat=>IntKind.i16.wrap (z:Int)) HF.out).symm;show _=IntKind.i16.wrap ((le [x0,x1]:Nat):Int);have h:=or2 .i16 x0 x1;rw[<-le2] at h;rw[<-or_zero] at h;refine Eq.trans ?_ h;exact bits_or_wrap _ _ _
theorem GetUint32_ok(b off len cap:Nat)(l:List UInt8)(w:World)(hm:Mem w b off l)(hlen:l.length=len)(hs:4<=len):
  Calls Tryz.prog 239 #[.slice (some ⟨b,off,none⟩) len cap] w λe w'=>e=.returned (.int .u32 ((le (l.take 4):Nat)))/\w=w':=by
 obtain⟨x0,l1,rfl⟩:∃x r,l=x::r:=by cases l with|nil=>(simp at hlen;omega)|cons x r=>exact⟨x,r,rfl⟩
 obtain⟨x1,l2,rfl⟩:∃x r,l1=x::r:=by cases l1 with|nil=>(simp at hlen;omega)|cons x r=>exact⟨x,r,rfl⟩
 obtain⟨x2,l3,rfl⟩:∃x r,l2=x::r:=by cases l2 with|nil=>(simp at hlen;omega)|cons x r=>exact⟨x,r,rfl⟩
 obtain⟨x3,l4,rfl⟩:∃x r,l3=x::r:=by cases l3 with|nil=>(simp at hlen;omega)|cons x r=>exact⟨x,r,rfl⟩
 have c0:w.cell? ⟨b,off,none⟩=some (.int .u8 (x0.toNat:Int)):=hm 0 x0 rfl;have b0:(x0.toNat:Int)<=255:=by have:=x0.toNat_lt;omega
 have c1:w.cell? ⟨b,off+1,none⟩=some (.int .u8 (x1.toNat:Int)):=hm 1 x1 rfl;have b1:(x1.toNat:Int)<=255:=by have:=x1.toNat_lt;omega
 have c2:w.cell? ⟨b,off+2,none⟩=some (.int .u8 (x2.toNat:Int)):=hm 2 x2 rfl;have b2:(x2.toNat:Int)<=255:=by have:=x2.toNat_lt;omega
 have c3:w.cell? ⟨b,off+3,none⟩=some (.int .u8 (x3.toNat:Int)):=hm 3 x3 rfl;have b3:(x3.toNat:Int)<=255:=by have:=x3.toNat_lt;omega
 have hfin:le (([x0,x1,x2,x3]++l4).take 4)=le [x0,x1,x2,x3]:=by simp
 have HF:=Hd hfin;clear hfin hm hlen;go_enter Tryz.func239,Tryz.ntmps239;go_wp2
 go_ret;refine⟨ret_int ?_,rfl⟩;refine Eq.trans ?_ (congrArg Int.ofNat HF.out).symm;show _=((le [x0,x1,x2,x3]:Nat):Int);have h:=or4 .u32 x0 x1 x2 x3;have hb:=le_lt [x0,x1,x2,x3];simp only[List.length_cons,List.length_nil] at hb;have hw:IntKind.u32.wrap ((le [x0,x1,x2,x3]:Nat):Int)=le [x0,x1,x2,x3]:=IntWalk.u32_in _ (by omega);rw[hw] at h;rw[<-or_zero] at h;refine Eq.trans ?_ h;rfl
theorem GetInt32_ok(b off len cap:Nat)(l:List UInt8)(w:World)(hm:Mem w b off l)(hlen:l.length=len)(hs:4<=len):
  Calls Tryz.prog 154 #[.slice (some ⟨b,off,none⟩) len cap] w λe w'=>e=.returned (.int .i32 (IntKind.i32.wrap (le (l.take 4):Nat)))/\w=w':=by
 obtain⟨x0,l1,rfl⟩:∃x r,l=x::r:=by cases l with|nil=>(simp at hlen;omega)|cons x r=>exact⟨x,r,rfl⟩
 obtain⟨x1,l2,rfl⟩:∃x r,l1=x::r:=by cases l1 with|nil=>(simp at hlen;omega)|cons x r=>exact⟨x,r,rfl⟩
 obtain⟨x2,l3,rfl⟩:∃x r,l2=x::r:=by cases l2 with|nil=>(simp at hlen;omega)|cons x r=>exact⟨x,r,rfl⟩
 obtain⟨x3,l4,rfl⟩:∃x r,l3=x::r:=by cases l3 with|nil=>(simp at hlen;omega)|cons x r=>exact⟨x,r,rfl⟩
 have c0:w.cell? ⟨b,off,none⟩=some (.int .u8 (x0.toNat:Int)):=hm 0 x0 rfl;have b0:(x0.toNat:Int)<=255:=by have:=x0.toNat_lt;omega
 have c1:w.cell? ⟨b,off+1,none⟩=some (.int .u8 (x1.toNat:Int)):=hm 1 x1 rfl;have b1:(x1.toNat:Int)<=255:=by have:=x1.toNat_lt;omega
 have c2:w.cell? ⟨b,off+2,none⟩=some (.int .u8 (x2.toNat:Int)):=hm 2 x2 rfl;have b2:(x2.toNat:Int)<=255:=by have:=x2.toNat_lt;omega
 have c3:w.cell? ⟨b,off+3,none⟩=some (.int .u8 (x3.toNat:Int)):=hm 3 x3 rfl;have b3:(x3.toNat:Int)<=255:=by have:=x3.toNat_lt;omega
 have hfin:le (([x0,x1,x2,x3]++l4).take 4)=le [x0,x1,x2,x3]:=by simp
 have HF:=Hd hfin;clear hfin hm hlen;go_enter Tryz.func154,Tryz.ntmps154;go_wp2
 go_ret;refine⟨ret_int ?_,rfl⟩;refine Eq.trans ?_ (congrArg (λz:Nat=>IntKind.i32.wrap (z:Int)) HF.out).symm;show _=IntKind.i32.wrap ((le [x0,x1,x2,x3]:Nat):Int);have h:=or4 .i32 x0 x1 x2 x3;have hz:IntKind.i32.wrap (x0.toNat:Int)=x0.toNat:=IntWalk.i32_in _ (by omega);rw[hz] at h;refine Eq.trans ?_ h;refine (congrArg (bits BinOp.or IntKind.i32 _) (IntWalk.i32_left _).symm).trans ?_;exact bits_or_wrap _ _ _
theorem GetUint64_ok(b off len cap:Nat)(l:List UInt8)(w:World)(hm:Mem w b off l)(hlen:l.length=len)(hs:8<=len):
  Calls Tryz.prog 240 #[.slice (some ⟨b,off,none⟩) len cap] w λe w'=>e=.returned (.int .u64 ((le (l.take 8):Nat)))/\w=w':=by
 obtain⟨x0,l1,rfl⟩:∃x r,l=x::r:=by cases l with|nil=>(simp at hlen;omega)|cons x r=>exact⟨x,r,rfl⟩
 obtain⟨x1,l2,rfl⟩:∃x r,l1=x::r:=by cases l1 with|nil=>(simp at hlen;omega)|cons x r=>exact⟨x,r,rfl⟩
 obtain⟨x2,l3,rfl⟩:∃x r,l2=x::r:=by cases l2 with|nil=>(simp at hlen;omega)|cons x r=>exact⟨x,r,rfl⟩
 obtain⟨x3,l4,rfl⟩:∃x r,l3=x::r:=by cases l3 with|nil=>(simp at hlen;omega)|cons x r=>exact⟨x,r,rfl⟩
 obtain⟨x4,l5,rfl⟩:∃x r,l4=x::r:=by cases l4 with|nil=>(simp at hlen;omega)|cons x r=>exact⟨x,r,rfl⟩
 obtain⟨x5,l6,rfl⟩:∃x r,l5=x::r:=by cases l5 with|nil=>(simp at hlen;omega)|cons x r=>exact⟨x,r,rfl⟩
 obtain⟨x6,l7,rfl⟩:∃x r,l6=x::r:=by cases l6 with|nil=>(simp at hlen;omega)|cons x r=>exact⟨x,r,rfl⟩
 obtain⟨x7,l8,rfl⟩:∃x r,l7=x::r:=by cases l7 with|nil=>(simp at hlen;omega)|cons x r=>exact⟨x,r,rfl⟩
 have c0:w.cell? ⟨b,off,none⟩=some (.int .u8 (x0.toNat:Int)):=hm 0 x0 rfl;have b0:(x0.toNat:Int)<=255:=by have:=x0.toNat_lt;omega
 have c1:w.cell? ⟨b,off+1,none⟩=some (.int .u8 (x1.toNat:Int)):=hm 1 x1 rfl;have b1:(x1.toNat:Int)<=255:=by have:=x1.toNat_lt;omega
 have c2:w.cell? ⟨b,off+2,none⟩=some (.int .u8 (x2.toNat:Int)):=hm 2 x2 rfl;have b2:(x2.toNat:Int)<=255:=by have:=x2.toNat_lt;omega
 have c3:w.cell? ⟨b,off+3,none⟩=some (.int .u8 (x3.toNat:Int)):=hm 3 x3 rfl;have b3:(x3.toNat:Int)<=255:=by have:=x3.toNat_lt;omega
 have c4:w.cell? ⟨b,off+4,none⟩=some (.int .u8 (x4.toNat:Int)):=hm 4 x4 rfl;have b4:(x4.toNat:Int)<=255:=by have:=x4.toNat_lt;omega
 have c5:w.cell? ⟨b,off+5,none⟩=some (.int .u8 (x5.toNat:Int)):=hm 5 x5 rfl;have b5:(x5.toNat:Int)<=255:=by have:=x5.toNat_lt;omega
 have c6:w.cell? ⟨b,off+6,none⟩=some (.int .u8 (x6.toNat:Int)):=hm 6 x6 rfl;have b6:(x6.toNat:Int)<=255:=by have:=x6.toNat_lt;omega
 have c7:w.cell? ⟨b,off+7,none⟩=some (.int .u8 (x7.toNat:Int)):=hm 7 x7 rfl;have b7:(x7.toNat:Int)<=255:=by have:=x7.toNat_lt;omega
 have hfin:le (([x0,x1,x2,x3,x4,x5,x6,x7]++l8).take 8)=le [x0,x1,x2,x3,x4,x5,x6,x7]:=by simp
 have HF:=Hd hfin;clear hfin hm hlen;go_enter Tryz.func240,Tryz.ntmps240;go_wp2
 go_ret;refine⟨ret_int ?_,rfl⟩;refine Eq.trans ?_ (congrArg Int.ofNat HF.out).symm;show _=((le [x0,x1,x2,x3,x4,x5,x6,x7]:Nat):Int);have h:=or8 .u64 x0 x1 x2 x3 x4 x5 x6 x7;have hb:=le_lt [x0,x1,x2,x3,x4,x5,x6,x7];simp only[List.length_cons,List.length_nil] at hb;have hw:IntKind.u64.wrap ((le [x0,x1,x2,x3,x4,x5,x6,x7]:Nat):Int)=le [x0,x1,x2,x3,x4,x5,x6,x7]:=IntWalk.u64_in _ (by omega);rw[hw] at h;rw[<-or_zero] at h;refine Eq.trans ?_ h;rfl
theorem GetInt64_ok(b off len cap:Nat)(l:List UInt8)(w:World)(hm:Mem w b off l)(hlen:l.length=len)(hs:8<=len):
  Calls Tryz.prog 241 #[.slice (some ⟨b,off,none⟩) len cap] w λe w'=>e=.returned (.int .i64 (IntKind.i64.wrap (le (l.take 8):Nat)))/\w=w':=by
 obtain⟨x0,l1,rfl⟩:∃x r,l=x::r:=by cases l with|nil=>(simp at hlen;omega)|cons x r=>exact⟨x,r,rfl⟩
 obtain⟨x1,l2,rfl⟩:∃x r,l1=x::r:=by cases l1 with|nil=>(simp at hlen;omega)|cons x r=>exact⟨x,r,rfl⟩
 obtain⟨x2,l3,rfl⟩:∃x r,l2=x::r:=by cases l2 with|nil=>(simp at hlen;omega)|cons x r=>exact⟨x,r,rfl⟩
 obtain⟨x3,l4,rfl⟩:∃x r,l3=x::r:=by cases l3 with|nil=>(simp at hlen;omega)|cons x r=>exact⟨x,r,rfl⟩
 obtain⟨x4,l5,rfl⟩:∃x r,l4=x::r:=by cases l4 with|nil=>(simp at hlen;omega)|cons x r=>exact⟨x,r,rfl⟩
 obtain⟨x5,l6,rfl⟩:∃x r,l5=x::r:=by cases l5 with|nil=>(simp at hlen;omega)|cons x r=>exact⟨x,r,rfl⟩
 obtain⟨x6,l7,rfl⟩:∃x r,l6=x::r:=by cases l6 with|nil=>(simp at hlen;omega)|cons x r=>exact⟨x,r,rfl⟩
 obtain⟨x7,l8,rfl⟩:∃x r,l7=x::r:=by cases l7 with|nil=>(simp at hlen;omega)|cons x r=>exact⟨x,r,rfl⟩
 have c0:w.cell? ⟨b,off,none⟩=some (.int .u8 (x0.toNat:Int)):=hm 0 x0 rfl;have b0:(x0.toNat:Int)<=255:=by have:=x0.toNat_lt;omega
 have c1:w.cell? ⟨b,off+1,none⟩=some (.int .u8 (x1.toNat:Int)):=hm 1 x1 rfl;have b1:(x1.toNat:Int)<=255:=by have:=x1.toNat_lt;omega
 have c2:w.cell? ⟨b,off+2,none⟩=some (.int .u8 (x2.toNat:Int)):=hm 2 x2 rfl;have b2:(x2.toNat:Int)<=255:=by have:=x2.toNat_lt;omega
 have c3:w.cell? ⟨b,off+3,none⟩=some (.int .u8 (x3.toNat:Int)):=hm 3 x3 rfl;have b3:(x3.toNat:Int)<=255:=by have:=x3.toNat_lt;omega
 have c4:w.cell? ⟨b,off+4,none⟩=some (.int .u8 (x4.toNat:Int)):=hm 4 x4 rfl;have b4:(x4.toNat:Int)<=255:=by have:=x4.toNat_lt;omega
 have c5:w.cell? ⟨b,off+5,none⟩=some (.int .u8 (x5.toNat:Int)):=hm 5 x5 rfl;have b5:(x5.toNat:Int)<=255:=by have:=x5.toNat_lt;omega
 have c6:w.cell? ⟨b,off+6,none⟩=some (.int .u8 (x6.toNat:Int)):=hm 6 x6 rfl;have b6:(x6.toNat:Int)<=255:=by have:=x6.toNat_lt;omega
 have c7:w.cell? ⟨b,off+7,none⟩=some (.int .u8 (x7.toNat:Int)):=hm 7 x7 rfl;have b7:(x7.toNat:Int)<=255:=by have:=x7.toNat_lt;omega
 have hfin:le (([x0,x1,x2,x3,x4,x5,x6,x7]++l8).take 8)=le [x0,x1,x2,x3,x4,x5,x6,x7]:=by simp
 have HF:=Hd hfin;clear hfin hm hlen;go_enter Tryz.func241,Tryz.ntmps241;go_wp2
 go_ret;refine⟨ret_int ?_,rfl⟩;refine Eq.trans ?_ (congrArg (λz:Nat=>IntKind.i64.wrap (z:Int)) HF.out).symm;show _=IntKind.i64.wrap ((le [x0,x1,x2,x3,x4,x5,x6,x7]:Nat):Int);have h:=or8 .i64 x0 x1 x2 x3 x4 x5 x6 x7;rw[<-or_zero] at h;refine Eq.trans ?_ h;refine (congrArg (bits BinOp.or IntKind.i64 _) (IntWalk.i64_left _).symm).trans ?_;exact bits_or_wrap _ _ _
theorem run_f32bits(n:Nat)(w:World):(callFunc 167 #[.float .f32 n]).run Tryz.prog w=.ok (.value (.int .u32 n)) w:=by kernel_rfl
theorem run_f64bits(n:Nat)(w:World):(callFunc 169 #[.float .f64 n]).run Tryz.prog w=.ok (.value (.int .u64 n)) w:=by kernel_rfl
theorem run_f32from(n:Int)(w:World):(callFunc 125 #[.int .u32 n]).run Tryz.prog w=.ok (.value (.float .f32 n.toNat)) w:=by kernel_rfl
theorem run_f64from(n:Int)(w:World):(callFunc 127 #[.int .u64 n]).run Tryz.prog w=.ok (.value (.float .f64 n.toNat)) w:=by kernel_rfl
theorem GetSOffsetT_ok(b off len cap:Nat)(l:List UInt8)(w:World)(hm:Mem w b off l)(hlen:l.length=len)(hs:4<=len):
  Calls Tryz.prog 233 #[.slice (some ⟨b,off,none⟩) len cap] w λe w'=>e=.returned (.int .i32 (IntKind.i32.wrap (le (l.take 4):Nat)))/\w=w':=by
 have HC:=Hd (GetInt32_ok b off len cap l w hm hlen hs);clear hm hlen hs;go_enter Tryz.func233,Tryz.ntmps233;go_wp2_with (go_at_call 154;refine HC.out.mono ?_;rintro e w' ⟨rfl,rfl⟩);go_ret;exact⟨rfl,rfl⟩
theorem GetVOffsetT_ok(b off len cap:Nat)(l:List UInt8)(w:World)(hm:Mem w b off l)(hlen:l.length=len)(hs:2<=len):
  Calls Tryz.prog 216 #[.slice (some ⟨b,off,none⟩) len cap] w λe w'=>e=.returned (.int .u16 ((le (l.take 2):Nat)))/\w=w':=by
 have HC:=Hd (GetUint16_ok b off len cap l w hm hlen hs);clear hm hlen hs;go_enter Tryz.func216,Tryz.ntmps216;go_wp2_with (go_at_call 237;refine HC.out.mono ?_;rintro e w' ⟨rfl,rfl⟩);go_ret;exact⟨rfl,rfl⟩
theorem u32_of_i32(n:Nat)(h:n<2^32):IntKind.u32.wrap (IntKind.i32.wrap (n:Int))=n:=by
 rw[wrap_congr .u32 (wrap_emod .i32 n)];exact IntWalk.u32_in _ (by omega)
theorem le_take_lt(l:List UInt8)(k:Nat):le (l.take k)<2^(8*k):=by
 refine Nat.lt_of_lt_of_le (le_lt _) (Nat.pow_le_pow_right (by omega) ?_);simp;omega
theorem GetUOffsetT_ok(b off len cap:Nat)(l:List UInt8)(w:World)(hm:Mem w b off l)(hlen:l.length=len)(hs:4<=len):
  Calls Tryz.prog 90 #[.slice (some ⟨b,off,none⟩) len cap] w λe w'=>e=.returned (.int .u32 (le (l.take 4):Nat))/\w=w':=by
 have HC:=Hd (GetInt32_ok b off len cap l w hm hlen hs);have hv:=u32_of_i32 _ (le_take_lt l 4);have HV:=Hd hv;clear hv;clear hm hlen hs;go_enter Tryz.func90,Tryz.ntmps90;go_wp2_with (go_at_call 154;refine HC.out.mono ?_;rintro e w' ⟨rfl,rfl⟩);go_ret;exact⟨ret_int (Eq.trans (by rw[IntKind.wrap_u32,IntWalk.i32_left]) HV.out),rfl⟩
theorem GetBool_ok(b off len cap:Nat)(l:List UInt8)(w:World)(hm:Mem w b off l)(hlen:l.length=len)(hs:1<=len):
  Calls Tryz.prog 234 #[.slice (some ⟨b,off,none⟩) len cap] w λe w'=>e=.returned (.bool (((le (l.take 1):Nat):Int)==1))/\w=w':=by
 obtain⟨x0,l1,rfl⟩:∃x r,l=x::r:=by cases l with|nil=>(simp at hlen;omega)|cons x r=>exact⟨x,r,rfl⟩
 have c0:w.cell? ⟨b,off,none⟩=some (.int .u8 (x0.toNat:Int)):=hm 0 x0 rfl;clear hm hlen;go_enter Tryz.func234,Tryz.ntmps234;go_wp2
 go_ret;refine⟨?_,rfl⟩;simp[le]
theorem GetFloat32_ok(b off len cap:Nat)(l:List UInt8)(w:World)(hm:Mem w b off l)(hlen:l.length=len)(hs:4<=len):
  Calls Tryz.prog 242 #[.slice (some ⟨b,off,none⟩) len cap] w λe w'=>e=.returned (.float .f32 (le (l.take 4)))/\w=w':=by
 have HC:=Hd (GetUint32_ok b off len cap l w hm hlen hs);have hfrom:=run_f32from;clear hm hlen hs;go_enter Tryz.func242,Tryz.ntmps242;go_wp2_with (go_at_call 239;refine HC.out.mono ?_;rintro e w' ⟨rfl,rfl⟩);go_ret;exact⟨rfl,rfl⟩
theorem GetFloat64_ok(b off len cap:Nat)(l:List UInt8)(w:World)(hm:Mem w b off l)(hlen:l.length=len)(hs:8<=len):
  Calls Tryz.prog 243 #[.slice (some ⟨b,off,none⟩) len cap] w λe w'=>e=.returned (.float .f64 (le (l.take 8)))/\w=w':=by
 have HC:=Hd (GetUint64_ok b off len cap l w hm hlen hs);have hfrom:=run_f64from;clear hm hlen hs;go_enter Tryz.func243,Tryz.ntmps243;go_wp2_with (go_at_call 240;refine HC.out.mono ?_;rintro e w' ⟨rfl,rfl⟩);go_ret;exact⟨rfl,rfl⟩
theorem cells_leI1(x:Int):cellsOf (leI 1 x)=[.int .u8 (x%256)]:=by simp only[leI,cellsOf,List.map_cons,List.map_nil,byteI]
theorem cells_leI2(x:Int):cellsOf (leI 2 x)=[.int .u8 (x%256),.int .u8 (x / 256%256)]:=by simp only[leI,cellsOf,List.map_cons,List.map_nil,byteI]
theorem cells_leI4(x:Int):cellsOf (leI 4 x)=[.int .u8 (x%256),.int .u8 (x / 256%256),.int .u8 (x / 65536%256),.int .u8 (x / 16777216%256)]:=by
 simp only[leI,cellsOf,List.map_cons,List.map_nil,byteI,Int.ediv_ediv_of_nonneg (show (0:Int)<=256 by decide),Int.ediv_ediv_of_nonneg (show (0:Int)<=65536 by decide),Int.reduceMul]
theorem cells_leI8(x:Int):cellsOf (leI 8 x)=[.int .u8 (x%256),.int .u8 (x / 256%256),.int .u8 (x / 65536%256),.int .u8 (x / 16777216%256),.int .u8 (x / 4294967296%256),.int .u8 (x / 1099511627776%256),.int .u8 (x / 281474976710656%256),.int .u8 (x / 72057594037927936%256)]:=by
 simp only[leI,cellsOf,List.map_cons,List.map_nil,byteI,Int.ediv_ediv_of_nonneg (show (0:Int)<=256 by decide),Int.ediv_ediv_of_nonneg (show (0:Int)<=65536 by decide),Int.ediv_ediv_of_nonneg (show (0:Int)<=16777216 by decide),Int.ediv_ediv_of_nonneg (show (0:Int)<=4294967296 by decide),Int.ediv_ediv_of_nonneg (show (0:Int)<=1099511627776 by decide),Int.ediv_ediv_of_nonneg (show (0:Int)<=281474976710656 by decide),Int.reduceMul]
theorem cell_there{w:World}{b:Nat}{c:Array Value}{t:TypeId}(hb:w.heap[b]?=some (.cells c t (0,0)))(i:Nat)(hi:i<c.size):∃v,w.cell? ⟨b,i,none⟩=some v :=
 ⟨c[i],by rw[cell_of hb];simp[hi]⟩
theorem WriteUint8_ok(b off len cap:Nat)(x:Int)(c:Array Value)(t:TypeId)(w:World)(hb:w.heap[b]?=some (.cells c t (0,0)))(hfit:off+len<=c.size)(hs:1<=len)(h0:0<=x)(h1:x<256):
  Calls Tryz.prog 223 #[.slice (some ⟨b,off,none⟩) len cap,.int .u8 x] w λe w'=>e=.returned (.tuple #[])/\w.setCells b off (cellsOf (leI 1 x))=w':=by
 obtain⟨x0,c0⟩:=cell_there hb (off) (by omega);have f0:=frozen_of hb (off);clear hb hfit;go_enter Tryz.func223,Tryz.ntmps223;go_wp2
 go_end0
 refine⟨rfl,?_⟩;rw[cells_leI1];rw[Int.emod_eq_of_lt h0 h1];rfl
theorem WriteInt8_ok(b off len cap:Nat)(x:Int)(c:Array Value)(t:TypeId)(w:World)(hb:w.heap[b]?=some (.cells c t (0,0)))(hfit:off+len<=c.size)(hs:1<=len):
  Calls Tryz.prog 224 #[.slice (some ⟨b,off,none⟩) len cap,.int .i8 x] w λe w'=>e=.returned (.tuple #[])/\w.setCells b off (cellsOf (leI 1 x))=w':=by
 obtain⟨x0,c0⟩:=cell_there hb (off) (by omega);have f0:=frozen_of hb (off);clear hb hfit;go_enter Tryz.func224,Tryz.ntmps224;go_wp2
 go_end0
 refine⟨rfl,?_⟩;rw[cells_leI1];rfl
theorem WriteUint16_ok(b off len cap:Nat)(x:Int)(c:Array Value)(t:TypeId)(w:World)(hb:w.heap[b]?=some (.cells c t (0,0)))(hfit:off+len<=c.size)(hs:2<=len):
  Calls Tryz.prog 225 #[.slice (some ⟨b,off,none⟩) len cap,.int .u16 x] w λe w'=>e=.returned (.tuple #[])/\w.setCells b off (cellsOf (leI 2 x))=w':=by
 obtain⟨x0,c0⟩:=cell_there hb (off) (by omega);have f0:=frozen_of hb (off);obtain⟨x1,c1⟩:=cell_there hb (off+1) (by omega);have f1:=frozen_of hb (off+1);clear hb hfit;go_enter Tryz.func225,Tryz.ntmps225;go_wp2
 go_end0
 refine⟨rfl,?_⟩;rw[cells_leI2];rfl
theorem WriteInt16_ok(b off len cap:Nat)(x:Int)(c:Array Value)(t:TypeId)(w:World)(hb:w.heap[b]?=some (.cells c t (0,0)))(hfit:off+len<=c.size)(hs:2<=len):
  Calls Tryz.prog 226 #[.slice (some ⟨b,off,none⟩) len cap,.int .i16 x] w λe w'=>e=.returned (.tuple #[])/\w.setCells b off (cellsOf (leI 2 x))=w':=by
 obtain⟨x0,c0⟩:=cell_there hb (off) (by omega);have f0:=frozen_of hb (off);obtain⟨x1,c1⟩:=cell_there hb (off+1) (by omega);have f1:=frozen_of hb (off+1);clear hb hfit;go_enter Tryz.func226,Tryz.ntmps226;go_wp2
 go_end0
 refine⟨rfl,?_⟩;rw[cells_leI2];rfl
theorem WriteUint32_ok(b off len cap:Nat)(x:Int)(c:Array Value)(t:TypeId)(w:World)(hb:w.heap[b]?=some (.cells c t (0,0)))(hfit:off+len<=c.size)(hs:4<=len):
  Calls Tryz.prog 227 #[.slice (some ⟨b,off,none⟩) len cap,.int .u32 x] w λe w'=>e=.returned (.tuple #[])/\w.setCells b off (cellsOf (leI 4 x))=w':=by
 obtain⟨x0,c0⟩:=cell_there hb (off) (by omega);have f0:=frozen_of hb (off);obtain⟨x1,c1⟩:=cell_there hb (off+1) (by omega);have f1:=frozen_of hb (off+1);obtain⟨x2,c2⟩:=cell_there hb (off+2) (by omega);have f2:=frozen_of hb (off+2);obtain⟨x3,c3⟩:=cell_there hb (off+3) (by omega);have f3:=frozen_of hb (off+3);clear hb hfit;go_enter Tryz.func227,Tryz.ntmps227;go_wp2
 go_end0
 refine⟨rfl,?_⟩;rw[cells_leI4];rfl
theorem WriteInt32_ok(b off len cap:Nat)(x:Int)(c:Array Value)(t:TypeId)(w:World)(hb:w.heap[b]?=some (.cells c t (0,0)))(hfit:off+len<=c.size)(hs:4<=len):
  Calls Tryz.prog 228 #[.slice (some ⟨b,off,none⟩) len cap,.int .i32 x] w λe w'=>e=.returned (.tuple #[])/\w.setCells b off (cellsOf (leI 4 x))=w':=by
 obtain⟨x0,c0⟩:=cell_there hb (off) (by omega);have f0:=frozen_of hb (off);obtain⟨x1,c1⟩:=cell_there hb (off+1) (by omega);have f1:=frozen_of hb (off+1);obtain⟨x2,c2⟩:=cell_there hb (off+2) (by omega);have f2:=frozen_of hb (off+2);obtain⟨x3,c3⟩:=cell_there hb (off+3) (by omega);have f3:=frozen_of hb (off+3);clear hb hfit;go_enter Tryz.func228,Tryz.ntmps228;go_wp2
 go_end0
 refine⟨rfl,?_⟩;rw[cells_leI4];rfl
theorem WriteUint64_ok(b off len cap:Nat)(x:Int)(c:Array Value)(t:TypeId)(w:World)(hb:w.heap[b]?=some (.cells c t (0,0)))(hfit:off+len<=c.size)(hs:8<=len):
  Calls Tryz.prog 229 #[.slice (some ⟨b,off,none⟩) len cap,.int .u64 x] w λe w'=>e=.returned (.tuple #[])/\w.setCells b off (cellsOf (leI 8 x))=w':=by
 obtain⟨x0,c0⟩:=cell_there hb (off) (by omega);have f0:=frozen_of hb (off);obtain⟨x1,c1⟩:=cell_there hb (off+1) (by omega);have f1:=frozen_of hb (off+1);obtain⟨x2,c2⟩:=cell_there hb (off+2) (by omega);have f2:=frozen_of hb (off+2);obtain⟨x3,c3⟩:=cell_there hb (off+3) (by omega);have f3:=frozen_of hb (off+3);obtain⟨x4,c4⟩:=cell_there hb (off+4) (by omega);have f4:=frozen_of hb (off+4);obtain⟨x5,c5⟩:=cell_there hb (off+5) (by omega);have f5:=frozen_of hb (off+5);obtain⟨x6,c6⟩:=cell_there hb (off+6) (by omega);have f6:=frozen_of hb (off+6);obtain⟨x7,c7⟩:=cell_there hb (off+7) (by omega);have f7:=frozen_of hb (off+7);clear hb hfit;go_enter Tryz.func229,Tryz.ntmps229;go_wp2
 go_end0
 refine⟨rfl,?_⟩;rw[cells_leI8];rfl
theorem WriteInt64_ok(b off len cap:Nat)(x:Int)(c:Array Value)(t:TypeId)(w:World)(hb:w.heap[b]?=some (.cells c t (0,0)))(hfit:off+len<=c.size)(hs:8<=len):
  Calls Tryz.prog 230 #[.slice (some ⟨b,off,none⟩) len cap,.int .i64 x] w λe w'=>e=.returned (.tuple #[])/\w.setCells b off (cellsOf (leI 8 x))=w':=by
 obtain⟨x0,c0⟩:=cell_there hb (off) (by omega);have f0:=frozen_of hb (off);obtain⟨x1,c1⟩:=cell_there hb (off+1) (by omega);have f1:=frozen_of hb (off+1);obtain⟨x2,c2⟩:=cell_there hb (off+2) (by omega);have f2:=frozen_of hb (off+2);obtain⟨x3,c3⟩:=cell_there hb (off+3) (by omega);have f3:=frozen_of hb (off+3);obtain⟨x4,c4⟩:=cell_there hb (off+4) (by omega);have f4:=frozen_of hb (off+4);obtain⟨x5,c5⟩:=cell_there hb (off+5) (by omega);have f5:=frozen_of hb (off+5);obtain⟨x6,c6⟩:=cell_there hb (off+6) (by omega);have f6:=frozen_of hb (off+6);obtain⟨x7,c7⟩:=cell_there hb (off+7) (by omega);have f7:=frozen_of hb (off+7);clear hb hfit;go_enter Tryz.func230,Tryz.ntmps230;go_wp2
 go_end0
 refine⟨rfl,?_⟩;rw[cells_leI8];rfl
theorem WriteByte_ok(b off len cap:Nat)(x:Int)(c:Array Value)(t:TypeId)(w:World)(hb:w.heap[b]?=some (.cells c t (0,0)))(hfit:off+len<=c.size)(hs:1<=len)(h0:0<=x)(h1:x<256):
  Calls Tryz.prog 215 #[.slice (some ⟨b,off,none⟩) len cap,.int .u8 x] w λe w'=>e=.returned (.tuple #[])/\w.setCells b off (cellsOf (leI 1 x))=w':=by
 have HC:=Hd (WriteUint8_ok b off len cap x c t w hb hfit hs h0 h1);clear hb hfit hs;go_enter Tryz.func215,Tryz.ntmps215;go_wp2_with (go_at_call 223;refine HC.out.mono ?_;rintro e w' ⟨rfl,rfl⟩);go_end0
 exact⟨rfl,rfl⟩
theorem WriteBool_ok(b off len cap:Nat)(x:Bool)(c:Array Value)(t:TypeId)(w:World)(hb:w.heap[b]?=some (.cells c t (0,0)))(hfit:off+len<=c.size)(hs:1<=len):
  Calls Tryz.prog 222 #[.slice (some ⟨b,off,none⟩) len cap,.bool x] w λe w'=>e=.returned (.tuple #[])/\w.setCells b off (cellsOf (leI 1 (if x then 1 else 0)))=w':=by
 obtain⟨x0,c0⟩:=cell_there hb off (by omega);have f0:=frozen_of hb off;have hb2:(w.setCell ⟨b,off,none⟩ (.int .u8 0)).setCell ⟨b,off,none⟩ (.int .u8 1)=w.setCell ⟨b,off,none⟩ (.int .u8 1):=setCell_setCell _ _ _ _;have HB:=Hd hb2;clear hb2;have c1:(w.setCell ⟨b,off,none⟩ (.int .u8 0)).cell? ⟨b,off,none⟩=some (.int .u8 0):=by
  rw[cell_of (heap_setCell_same hb off _)];have:off<c.size:=by omega
  simp[this]
 clear hb hfit;cases x
 ·go_enter Tryz.func222,Tryz.ntmps222;go_wp2
  go_end0
  exact⟨rfl,by rw[cells_leI1];rfl⟩
 ·go_enter Tryz.func222,Tryz.ntmps222;go_wp2
  go_end0
  refine⟨rfl,?_⟩;rw[cells_leI1];exact HB.out.symm
theorem WriteSOffsetT_ok(b off len cap:Nat)(x:Int)(c:Array Value)(t:TypeId)(w:World)(hb:w.heap[b]?=some (.cells c t (0,0)))(hfit:off+len<=c.size)(hs:4<=len):
  Calls Tryz.prog 218 #[.slice (some ⟨b,off,none⟩) len cap,.int .i32 x] w λe w'=>e=.returned (.tuple #[])/\w.setCells b off (cellsOf (leI 4 x))=w':=by
 have HC:=Hd (WriteInt32_ok b off len cap x c t w hb hfit hs);clear hb hfit hs;go_enter Tryz.func218,Tryz.ntmps218;go_wp2_with (go_at_call 228;refine HC.out.mono ?_;rintro e w' ⟨rfl,rfl⟩);go_end0
 exact⟨rfl,rfl⟩
theorem WriteUOffsetT_ok(b off len cap:Nat)(x:Int)(c:Array Value)(t:TypeId)(w:World)(hb:w.heap[b]?=some (.cells c t (0,0)))(hfit:off+len<=c.size)(hs:4<=len):
  Calls Tryz.prog 220 #[.slice (some ⟨b,off,none⟩) len cap,.int .u32 x] w λe w'=>e=.returned (.tuple #[])/\w.setCells b off (cellsOf (leI 4 x))=w':=by
 have HC:=Hd (WriteUint32_ok b off len cap x c t w hb hfit hs);clear hb hfit hs;go_enter Tryz.func220,Tryz.ntmps220;go_wp2_with (go_at_call 227;refine HC.out.mono ?_;rintro e w' ⟨rfl,rfl⟩);go_end0
 exact⟨rfl,rfl⟩
theorem WriteVOffsetT_ok(b off len cap:Nat)(x:Int)(c:Array Value)(t:TypeId)(w:World)(hb:w.heap[b]?=some (.cells c t (0,0)))(hfit:off+len<=c.size)(hs:2<=len):
  Calls Tryz.prog 221 #[.slice (some ⟨b,off,none⟩) len cap,.int .u16 x] w λe w'=>e=.returned (.tuple #[])/\w.setCells b off (cellsOf (leI 2 x))=w':=by
 have HC:=Hd (WriteUint16_ok b off len cap x c t w hb hfit hs);clear hb hfit hs;go_enter Tryz.func221,Tryz.ntmps221;go_wp2_with (go_at_call 225;refine HC.out.mono ?_;rintro e w' ⟨rfl,rfl⟩);go_end0
 exact⟨rfl,rfl⟩
theorem WriteFloat32_ok(b off len cap n:Nat)(c:Array Value)(t:TypeId)(w:World)(hb:w.heap[b]?=some (.cells c t (0,0)))(hfit:off+len<=c.size)(hs:4<=len):
  Calls Tryz.prog 231 #[.slice (some ⟨b,off,none⟩) len cap,.float .f32 n] w λe w'=>e=.returned (.tuple #[])/\w.setCells b off (cellsOf (leI 4 n))=w':=by
 have HC:=Hd (WriteUint32_ok b off len cap n c t w hb hfit hs);have hbits:=run_f32bits;clear hb hfit hs;go_enter Tryz.func231,Tryz.ntmps231;go_wp2_with (go_at_call 227;refine HC.out.mono ?_;rintro e w' ⟨rfl,rfl⟩);go_end0
 exact⟨rfl,rfl⟩
theorem WriteFloat64_ok(b off len cap n:Nat)(c:Array Value)(t:TypeId)(w:World)(hb:w.heap[b]?=some (.cells c t (0,0)))(hfit:off+len<=c.size)(hs:8<=len):
  Calls Tryz.prog 232 #[.slice (some ⟨b,off,none⟩) len cap,.float .f64 n] w λe w'=>e=.returned (.tuple #[])/\w.setCells b off (cellsOf (leI 8 n))=w':=by
 have HC:=Hd (WriteUint64_ok b off len cap n c t w hb hfit hs);have hbits:=run_f64bits;clear hb hfit hs;go_enter Tryz.func232,Tryz.ntmps232;go_wp2_with (go_at_call 229;refine HC.out.mono ?_;rintro e w' ⟨rfl,rfl⟩);go_end0
 exact⟨rfl,rfl⟩
def sOff (o lo cap:Nat):Nat:=if cap=lo then o else o+lo
theorem sOff_lt{o lo cap:Nat}(h:lo<cap):sOff o lo cap=o+lo:=by unfold sOff;rw[if_neg (by omega)]
theorem sOff_zero(o cap:Nat):sOff o 0 cap=o:=by unfold sOff;split<;>rfl
theorem sOff_add(b o lo cap:Nat):(if cap=lo then some (⟨b,o,none⟩:Addr) else (some (⟨b,o,none⟩:Addr)).map (·.add (lo*1)))=some ⟨b,sOff o lo cap,none⟩:=by
 unfold sOff;split
 ·rfl
 ·simp only[Option.map_some,Nat.mul_one];unfold Addr.add;split
  ·rename_i h;subst h;rfl
  ·rfl
section
variable {P:Program} {t elem:TypeId} (hu:P.underlying t=some (.slice elem)) (hs:(P.info? elem).map (·.size)=some 1)
include hu hs
theorem run_slice_from(b o len cap:Nat)(k:IntKind)(lo:Int)(n:Nat)(hn:lo=n)(h:n<=len)(w:World):
  (Instr.slice t (.slice (some ⟨b,o,none⟩) len cap) (some (.int k lo)) none none).run P w=.ok (.slice (some ⟨b,sOff o n cap,none⟩) (len-n) (cap-n)) w:=by
 subst hn;cases hq:P.info? elem with
 | none=>simp[hq] at hs
 | some i =>
  have hi:i.size=1:=by simpa [hq] using hs
  have e:=sOff_add b o n cap;simp[Instr.slice,run_underlying hu,Instr.sliceBounds,Instr.sliceBound,asIntOf,sizeOf,typeInfo,hq,hi,h]
  simpa using e
theorem run_slice_to(b o len cap:Nat)(k:IntKind)(hi:Int)(m:Nat)(hm:hi=m)(h:m<=cap)(w:World):
  (Instr.slice t (.slice (some ⟨b,o,none⟩) len cap) none (some (.int k hi)) none).run P w=.ok (.slice (some ⟨b,o,none⟩) m cap) w:=by
 subst hm;cases hq:P.info? elem with
 | none=>simp[hq] at hs
 | some i =>
  simp[Instr.slice,run_underlying hu,Instr.sliceBounds,Instr.sliceBound,asIntOf,sizeOf,typeInfo,hq,h,Addr.add]
theorem run_slice_cut(b o len cap:Nat)(k k':IntKind)(lo hi:Int)(n m:Nat)(hn:lo=n)(hm:hi=m)(h1:n<=m)(h2:m<=cap)(w:World):
  (Instr.slice t (.slice (some ⟨b,o,none⟩) len cap) (some (.int k lo)) (some (.int k' hi)) none).run P w=.ok (.slice (some ⟨b,sOff o n cap,none⟩) (m-n) (cap-n)) w:=by
 subst hn hm;cases hq:P.info? elem with
 | none=>simp[hq] at hs
 | some i =>
  have hi:i.size=1:=by simpa [hq] using hs
  have e:=sOff_add b o n cap;simp[Instr.slice,run_underlying hu,Instr.sliceBounds,Instr.sliceBound,asIntOf,sizeOf,typeInfo,hq,hi,h1,h2]
  simpa using e

omit hs in
theorem run_slice_from_out(a:Option Addr)(len cap:Nat)(k:IntKind)(lo:Int)(h:lo<0\/(len:Int)<lo)(w:World):
  ∃u v n,(Instr.slice t (.slice a len cap) (some (.int k lo)) none none).run P w=.halt (.panic (.iface u v)) (w.drewN n):=by
 have e:(Instr.slice t (.slice a len cap) (some (.int k lo)) none none).run P w=((boundsPanic k lo len .sliceB:Sem Nat).run P w).andThen λ_ _=>.ok undef w:=by
  obtain⟨u,v,n,hb⟩:=run_bounds (P:=P) w (α:=Nat) k lo len .sliceB;simp[Instr.slice,run_underlying hu,Instr.sliceBounds,Instr.sliceBound,asIntOf,show ¬(0<=lo/\lo<=(len:Int)) from by omega,hb]
 obtain⟨u,v,n,hb⟩:=run_bounds (P:=P) w (α:=Nat) k lo len .sliceB;exact⟨u,v,n,by rw[e,hb];rfl⟩

omit hs in
end
theorem Mem.cut{w:World}{b o:Nat}{l:List UInt8}(h:Mem w b o l){n cap:Nat}(hc:l.length<=cap):Mem w b (sOff o n cap) (l.drop n):=by
 unfold sOff;split
 ·rename_i e
  intro i x hx;rw[List.drop_of_length_le (by omega)] at hx;simp at hx
 ·exact h.drop n
theorem Mem.take{w:World}{b o:Nat}{l:List UInt8}(h:Mem w b o l)(m:Nat):Mem w b o (l.take m):=λi x hx=>by
 rw[List.getElem?_take] at hx;split at hx
 ·exact h i x hx
 ·simp at hx
theorem sizeU8b:(Tryz.prog.info? 5).map (·.size)=some 1:=by kernel_rfl
structure BRest where
 v2:Value
 v3:Value
 v4:Value
 v6:Value
 v7:Value
 v8:Value
def bCells(Y len cap least room:Nat)(r:BRest):Array Value :=
 #[.slice (some ⟨Y,0,none⟩) len cap,.int .i64 least,r.v2,r.v3,r.v4,.int .u32 room,r.v6,r.v7,r.v8]
structure BB(w:World)(b Y:Nat)(r:BRest)(room least:Nat)(bytes:List UInt8)(c:Array Value):Prop where
 hb:w.heap[b]?=some (.cells (bCells Y (room+bytes.length) c.size least room r) 103)
 hy:w.heap[Y]?=some (.cells c 5)
 fit:room+bytes.length<=c.size
 eq:(c.toList.take (room+bytes.length)).drop room=cellsOf bytes
 lim:room+bytes.length<=4000000
 ne:b≠Y
 cap:c.size<=maxLen
 one:∀v∈c.toList.take (room+bytes.length),v.oneCell'=true
 zero:room+bytes.length=0->c.size=0
theorem BB.drewN{w:World}{b Y:Nat}{r:BRest}{room least:Nat}{bytes:List UInt8}{c:Array Value}(h:BB w b Y r room least bytes c)(n:Nat):BB (w.drewN n) b Y r room least bytes c:=⟨h.hb,h.hy,h.fit,h.eq,h.lim,h.ne,h.cap,h.one,h.zero⟩
theorem BB.fr{w w':World}{S:Nat->Prop}{b Y:Nat}{r:BRest}{room least:Nat}{bytes:List UInt8}{c:Array Value}(h:BB w b Y r room least bytes c)(hf:Fr S w w')(hb:¬S b)(hY:¬S Y):BB w' b Y r room least bytes c :=
 ⟨(hf.block b (lt_of_block h.hb) hb).trans h.hb,(hf.block Y (lt_of_block h.hy) hY).trans h.hy,h.fit,h.eq,h.lim,h.ne,h.cap,h.one,h.zero⟩
theorem splice_bytes(c:Array Value)(room z:Nat)(bytes xs:List UInt8)(hz:xs.length=z)(hzr:z<=room)(fit:room+bytes.length<=c.size)(eq:(c.toList.take (room+bytes.length)).drop room=cellsOf bytes):
  ((splice c (room-z) (cellsOf xs)).toList.take (room+bytes.length)).drop (room-z)=cellsOf (xs++bytes):=by
 have hcl:(cellsOf xs).length=z:=by rw[cellsOf_length,hz]
 have h1:(c.toList.take (room-z)).length=room-z:=by simp;omega
 unfold splice;rw[hcl,show room-z+z=room by omega];have h2:(c.toList.take (room-z)++cellsOf xs).length=room:=by rw[List.length_append,h1,hcl];omega
 show (List.take (room+bytes.length) (c.toList.take (room-z)++cellsOf xs++c.toList.drop room)).drop (room-z)=_;rw[List.take_append,h2,List.take_of_length_le (by rw[h2];omega),show room+bytes.length-room=bytes.length by omega];rw[List.append_assoc,List.drop_append_of_le_length (by omega),List.drop_of_length_le (by omega),List.nil_append];have h3:cellsOf (xs++bytes)=cellsOf xs++cellsOf bytes:=by simp[cellsOf]
 rw[h3,<-eq];congr 1
 rw[List.drop_take];congr 1
 omega
theorem splice_one(c:Array Value)(o n:Nat)(vs:List Value)(h:∀v∈c.toList.take n,v.oneCell'=true)(hv:∀v∈vs,v.oneCell'=true)(hf:o+vs.length<=n):∀v∈(splice c o vs).toList.take n,v.oneCell'=true:=by
 intro v hm;have hm2:v∈(c.toList.take o++vs++c.toList.drop (o+vs.length)).take n:=hm;by_cases hl:o<=c.size
 ·have h1:(c.toList.take o++vs).length=o+vs.length:=by rw[List.length_append,List.length_take];simp;omega
  rw[List.take_append,h1,List.take_of_length_le (by omega)] at hm2;rcases List.mem_append.1 hm2 with hm2|hm2
  ·rcases List.mem_append.1 hm2 with hm2|hm2
   ·refine h v ?_;have:c.toList.take o=(c.toList.take n).take o:=by rw[List.take_take];congr 1;omega
    rw[this] at hm2;exact List.mem_of_mem_take hm2
   ·exact hv v hm2
  ·refine h v ?_;have:(c.toList.drop (o+vs.length)).take (n-(o+vs.length))=(c.toList.take n).drop (o+vs.length):=by rw[List.drop_take]
   rw[this] at hm2;exact List.mem_of_mem_drop hm2
 ·have h1:c.toList.take o=c.toList:=List.take_of_length_le (by simp;omega);rw[h1,List.append_assoc,List.take_append] at hm2;have h3:c.toList.take n=c.toList:=List.take_of_length_le (by simp;omega);have h2:c.toList.drop (o+vs.length)=[]:=List.drop_of_length_le (by simp;omega);rw[h2,List.append_nil] at hm2;rcases List.mem_append.1 hm2 with hm2|hm2
  ·exact h v hm2
  ·exact hv v (List.mem_of_mem_take hm2)
theorem setCells_heap_other{b:Nat}:∀(vs:List Value) (o:Nat) (w:World) (k:Nat),k≠b->(w.setCells b o vs).heap[k]?=w.heap[k]?
 | [],_,_,_,_=>rfl
 | v::r,o,w,k,h=>by
  rw[World.setCells,setCells_heap_other r (o+1) _ k h,heap_setCell_other _ _ _ _ h]
theorem BB.put{w:World}{b Y:Nat}{r:BRest}{room least:Nat}{bytes:List UInt8}{c:Array Value}(h:BB w b Y r room least bytes c)(xs:List UInt8)(hz:xs.length<=room)(n:Nat):
  BB (((w.setCell ⟨b,5,none⟩ (.int .u32 (room-xs.length:Nat))).drewN n).setCells Y (room-xs.length) (cellsOf xs)) b Y r (room-xs.length) least (xs++bytes) (splice c (room-xs.length) (cellsOf xs)) /\
  Fr (λk=>k=b\/k=Y) w (((w.setCell ⟨b,5,none⟩ (.int .u32 (room-xs.length:Nat))).drewN n).setCells Y (room-xs.length) (cellsOf xs)):=by
 have hfit:=h.fit;have hss:(splice c (room-xs.length) (cellsOf xs)).size=c.size:=splice_size _ _ _ (by rw[cellsOf_length];omega);have hl:room-xs.length+(xs++bytes).length=room+bytes.length:=by rw[List.length_append];omega
 have hY1:((w.setCell ⟨b,5,none⟩ (.int .u32 (room-xs.length:Nat))).drewN n).heap[Y]?=some (.cells c 5):=by
  show (w.setCell ⟨b,5,none⟩ _).heap[Y]?=_;rw[heap_setCell_other _ _ _ _ (show Y≠b from λe=>h.ne e.symm)];exact h.hy
 refine⟨⟨?_,?_,by rw[hl,hss];exact hfit,?_,by rw[hl];exact h.lim,h.ne,by rw[hss];exact h.cap,?_,by rw[hl,hss];exact h.zero⟩,?_⟩
 ·rw[setCells_heap_other _ _ _ _ h.ne];have:=heap_setCell_same h.hb 5 (.int .u32 (room-xs.length:Nat))
  rw[hl,hss];exact this
 ·exact heap_setCells_same (cellsOf xs) _ c _ hY1 (by rw[cellsOf_length];omega)
 ·rw[hl];exact splice_bytes c room xs.length bytes xs rfl hz hfit h.eq
 ·rw[hl];exact splice_one c _ _ _ h.one (cellsOf_one _) (by rw[cellsOf_length];omega)
 ·exact Fr.setCells (((Fr.refl _ w).setCell (λ_=>.inl rfl) _).drewN n) (λ_=>.inr rfl) _ _
def Falls2(S:Nat->Prop)(w:World):Ending->World->Prop:=λe w'=>(∃u v,e=.panicked [{ v:=.iface u v,recovered:=false }])/\Fr S w w'
end Go.Proofs.YtcfblkkpclfmaaaGreat
