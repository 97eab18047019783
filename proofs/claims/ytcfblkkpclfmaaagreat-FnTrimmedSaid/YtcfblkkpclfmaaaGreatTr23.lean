/- Part 23 of the proof of FnTrimmed (TabM, TabOff, RdP, NumRW). No condition is laid on the statement. -/
import Derived.Test.YtcfblkkpclfmaaaGreatTr01
import Derived.Test.YtcfblkkpclfmaaaGreatTr05
import Derived.Test.YtcfblkkpclfmaaaGreatTr02
import Derived.Deep.QuietTactic
import Derived.BigQuiet
import Derived.Deep.RegionHeld3
import Derived.Test.YtcfblkkpclfmaaaGreatTr17
set_option linter.unusedVariables false
set_option linter.unusedSimpArgs false
namespace Go.Proofs.YtcfblkkpclfmaaaGreat
/-- The bits of a kind at a place. -/
def mGet (l:List UInt8) (k:Int) (p:Nat):Option Nat :=
 if numSize k=0∨l.length<p+numSize k then none else some (le ((l.drop p).take (numSize k)))
def w32 (n:Nat):Nat:=n % 4294967296
/-- Where the vtable stands. -/
def mVt (pos back:Nat):Nat:=if back≤pos then w32 (pos-back) else 4294967296-(back-pos)
def mOffset (l:List UInt8) (pos slot:Nat):Option Nat :=
 (mGet l 33 pos).bind fun back=>(mGet l 35 (mVt pos back)).bind fun size =>
  if slot<size then mGet l 35 (w32 (mVt pos back+slot)) else some 0
/-- The default of a slot, by its lowest bits. -/
def defVal (k:Int) (n:Nat):Nat:=if k=0 then (if n=0 then 0 else 1) else n % 2 ^ (8*numSize k)
/-! The reference. -/
attribute [local irreducible] w32 mVt
theorem numVal_open (k:Int) (n:Nat) (h:¬ (k=0∧1<n)):numVal k n=n:=by
 unfold numVal;split
 ·split <;> omega
 ·rfl
end Go.Proofs.YtcfblkkpclfmaaaGreat
namespace Go.Proofs.YtcfblkkpclfmaaaGreat
open Go.RowKit
/-- A Table at block T over the bytes l, which lie in block B. -/
structure Tab (w:World) (T B:Nat) (l:List UInt8) (pos:Nat):Prop where
 t:w.cell? ⟨T,0,none⟩=some (.slice (some ⟨B,0,none⟩) l.length l.length)
 p:w.cell? ⟨T,1,none⟩=some (.int .u32 pos)
 b:w.heap[B]?=some (.cells (cellsOf l).toArray 5)
 hl:l.length≤1000000000
 hp:pos<4294967296
theorem Tab.m {w:World} {T B:Nat} {l:List UInt8} {pos:Nat} (h:Tab w T B l pos):Mem w B 0 l:=Mem.of_block h.b
theorem Tab.drewN {w:World} {T B:Nat} {l:List UInt8} {pos:Nat} (h:Tab w T B l pos) (n:Nat):Tab (w.drewN n) T B l pos:=⟨h.t,h.p,h.b,h.hl,h.hp⟩
theorem sizeU8:(Tryz.prog.info? 5).map (·.size)=some 1:=by kernel_rfl
theorem mGet_some {l:List UInt8} {k:Int} {p n:Nat} (h:mGet l k p=some n):numSize k≠0∧p+numSize k≤l.length∧n=le ((l.drop p).take (numSize k)):=by
 unfold mGet at h
 split at h
 ·cases h
 ·rename_i hn
  refine ⟨fun e=>hn (.inl e),by omega,?_⟩
  injection h with h;exact h.symm
theorem mGet_lt {l:List UInt8} {k:Int} {p n:Nat} (h:mGet l k p=some n):n<2 ^ (8*numSize k):=by
 rw [(mGet_some h).2.2];exact le_take_lt _ _
/-! GetSOffsetT and GetVOffsetT of a Table. -/
theorem TSOff_ok (T B pos off n:Nat) (l:List UInt8) (w:World) (hT:Tab w T B l pos) (h:mGet l 33 off=some n) :
  Calls Tryz.prog 155 #[.pointer (some ⟨T,0,none⟩),.int .u32 off] w fun e w'=>e=.returned (.int .i32 (IntKind.i32.wrap n))∧w=w':=by
 obtain ⟨_,h2,h3⟩:=mGet_some h
 have hsl:=run_slice_from (P:=Tryz.prog) Tryz.underlying81 sizeU8 B 0 l.length l.length .u32 off off rfl (by simp [numSize] at h2;omega)
 have HC:=Hd (GetSOffsetT_ok B (sOff 0 off l.length) (l.length-off) (l.length-off) (l.drop off) w (hT.m.cut (Nat.le_refl _)) (by rw [List.length_drop]) (by simp [numSize] at h2;omega))
 have ht:=hT.t
 have hn:n=le ((l.drop off).take 4):=h3
 rw [← hn] at HC
 clear hT h h2 h3 hn
 go_enter Tryz.func155,Tryz.ntmps155
 go_wp2_with (go_at_call 233;refine HC.out.mono ?_;rintro e w' ⟨rfl,rfl⟩)
 go_ret
 exact ⟨rfl,rfl⟩
theorem TVOff_ok (T B pos off n:Nat) (l:List UInt8) (w:World) (hT:Tab w T B l pos) (h:mGet l 35 off=some n) :
  Calls Tryz.prog 156 #[.pointer (some ⟨T,0,none⟩),.int .u32 off] w fun e w'=>e=.returned (.int .u16 n)∧w=w':=by
 obtain ⟨_,h2,h3⟩:=mGet_some h
 have hsl:=run_slice_from (P:=Tryz.prog) Tryz.underlying81 sizeU8 B 0 l.length l.length .u32 off off rfl (by simp [numSize] at h2;omega)
 have HC:=Hd (GetVOffsetT_ok B (sOff 0 off l.length) (l.length-off) (l.length-off) (l.drop off) w (hT.m.cut (Nat.le_refl _)) (by rw [List.length_drop]) (by simp [numSize] at h2;omega))
 have ht:=hT.t
 have hn:n=le ((l.drop off).take 2):=h3
 rw [← hn] at HC
 clear hT h h2 h3 hn
 go_enter Tryz.func156,Tryz.ntmps156
 go_wp2_with (go_at_call 216;refine HC.out.mono ?_;rintro e w' ⟨rfl,rfl⟩)
 go_ret
 exact ⟨rfl,rfl⟩
theorem quiet_same {P:Program} {f:FuncId} {args:Array Value} {w:World} {n:Nat} {v:Value} (h:Calls P f args (w.drewN n) fun e w'=>e=.returned v∧w.drewN n=w') :
  Calls P f args (w.drewN n) fun e w''=>e=.returned v∧∃ m,w''=w.drewN m:=h.mono fun _ _ h=>⟨h.1,n,h.2.symm⟩
theorem vt_eq (pos back:Nat) (hp:pos<4294967296) (hb:back<2 ^ 32):wrap32 (wrap32 (pos:Int)-wrap32 (back:Int)) % 4294967296=(mVt pos back:Nat):=by
 rw [← IntWalk.i32_left,← IntWalk.i32_left,← IntWalk.i32_left]
 have e1:(IntKind.i32.wrap (IntKind.i32.wrap (pos:Int)-IntKind.i32.wrap (back:Int))) % 2 ^ 32=((pos:Int)-back) % 2 ^ 32:=by
  have a:=wrap_emod .i32 (IntKind.i32.wrap (pos:Int)-IntKind.i32.wrap (back:Int))
  have b:=wrap_emod .i32 (pos:Int)
  have c:=wrap_emod .i32 (back:Int)
  simp only [IntKind.bits] at a b c
  rw [a,Int.sub_emod,b,c,← Int.sub_emod]
 unfold mVt w32
 split
 ·omega
 ·omega
theorem mVt_lt (pos back:Nat) (hb:back<2 ^ 32):mVt pos back<4294967296:=by unfold mVt w32;split <;> omega
set_option maxHeartbeats 4000000 in
theorem Offset_ok (T B pos slot o:Nat) (l:List UInt8) (w:World) (hT:Tab w T B l pos) (hs:slot<65536) (h:mOffset l pos slot=some o) :
  Calls Tryz.prog 91 #[.pointer (some ⟨T,0,none⟩),.int .u16 slot] w fun e w'=>e=.returned (.int .u16 o)∧∃ n,w'=w.drewN n:=by
 unfold mOffset at h
 obtain ⟨back,hb,h⟩:=Option.bind_eq_some_iff.1 h
 obtain ⟨size,hz,h⟩:=Option.bind_eq_some_iff.1 h
 have hv:=vt_eq pos back hT.hp (mGet_lt hb)
 have HV:=Hd hv;clear hv
 have hvl:=mVt_lt pos back (mGet_lt hb)
 have HZ:=Hd (fun n=>TVOff_ok T B pos (mVt pos back) size l (w.drewN n) (hT.drewN n) hz)
 have hp:=hT.p
 have hsz:=mGet_lt hz
 have hnum:numSize 35=2:=by decide
 rw [hnum] at hsz
 by_cases hlt:slot<size
 ·rw [if_pos hlt] at h
  have HO:=Hd (fun n=>TVOff_ok T B pos (w32 (mVt pos back+slot)) o l (w.drewN n) (hT.drewN n) h)
  have hw:(((mVt pos back:Nat):Int)+slot) % 4294967296=(w32 (mVt pos back+slot):Nat):=by unfold w32;omega
  have HW:=Hd hw
  have HX:=Hd h
  clear hw h hnum
  go_enter Tryz.func91,Tryz.ntmps91
  go_wp2_with fail
  go_quiet ((go_at_call 155;exact quiet_same (TSOff_ok T B pos pos back l _ (hT.drewN _) hb)))
  rw [HV.out]
  have HV2:=HV;clear HV
  generalize mVt pos back=v at *
  go_wp2_with fail
  refine (HZ.out nq).mono ?_
  rintro e w' ⟨rfl,rfl⟩
  go_wp2_with fail
  rw [HW.out]
  refine (HO.out nq).mono ?_
  rintro e w' ⟨rfl,rfl⟩
  go_wp2_with fail
  go_ret
  exact ⟨rfl,nq,rfl⟩
 ·rw [if_neg hlt] at h
  injection h with h
  have HX:=Hd h
  clear h hnum
  go_enter Tryz.func91,Tryz.ntmps91
  go_wp2_with fail
  go_quiet ((go_at_call 155;exact quiet_same (TSOff_ok T B pos pos back l _ (hT.drewN _) hb)))
  rw [HV.out]
  have HV2:=HV;clear HV
  generalize mVt pos back=v at *
  go_wp2_with fail
  refine (HZ.out nq).mono ?_
  rintro e w' ⟨rfl,rfl⟩
  go_wp2_with fail
  go_ret
  exact ⟨by rw [← HX.out];rfl,nq,rfl⟩
end Go.Proofs.YtcfblkkpclfmaaaGreat
namespace Go.Proofs.YtcfblkkpclfmaaaGreat
open Go.RowKit
theorem mGet_ok {l:List UInt8} {k:Int} {a:Nat} (hk:numSize k≠0) (ha:a≤l.length) (h:numSize k≤a):mGet l k (l.length-a)=some (le ((fromEnd l a).take (numSize k))):=by
 unfold mGet fromEnd
 rw [if_neg (by omega)]
theorem mGet_at4s {l:List UInt8} {a:Nat} (ha:a≤l.length) (h:4≤a):mGet l 33 (l.length-a)=some (at4 l a):=mGet_ok (k:=33) (by decide) ha h
theorem mGet_at2 {l:List UInt8} {a:Nat} (ha:a≤l.length) (h:2≤a):mGet l 35 (l.length-a)=some (at2 l a):=mGet_ok (k:=35) (by decide) ha h
theorem numSize_ne {k:Nat} (hk:k≤10):numSize k≠0:=by
 have:k=0∨k=1∨k=2∨k=3∨k=4∨k=5∨k=6∨k=7∨k=8∨k=9∨k=10:=by omega
 rcases this with rfl | rfl | rfl | rfl | rfl | rfl | rfl | rfl | rfl | rfl | rfl <;> decide
theorem mGet_num {l:List UInt8} {k a n:Nat} (hk:OkNum k n) (h:BytesAt l a (leB (numSize k) n)):mGet l k (l.length-a)=some n:=by
 have hl:=h.low
 have he:=h.eq
 rw [leB_length] at hl he
 rw [mGet_ok (numSize_ne hk.1) h.len hl,he,le_leB,Nat.mod_eq_of_lt hk.2.1]
theorem at4_lt (l:List UInt8) (a:Nat):at4 l a<4294967296:=le_take_lt _ 4
theorem at2_lt (l:List UInt8) (a:Nat):at2 l a<65536:=le_take_lt _ 2
theorem w32_id {n:Nat} (h:n<4294967296):w32 n=n:=Nat.mod_eq_of_lt h
theorem mVt_of {al:Bool} {l:List UInt8} {o:Nat} (h:TabHead al l o) (hl:l.length≤1000000000):mVt (l.length-o) (at4 l o)=l.length-vtOf l o:=by
 have h1:=h.len
 have h2:=h.sgn
 have h3:=h.vlen
 have h4:=at4_lt l o
 unfold mVt
 unfold vtOf at h3 ⊢
 split at h3
 ·rename_i hs
  rw [if_pos (by omega),if_pos hs,w32_id (by omega)];omega
 ·rename_i hs
  rw [if_neg (by omega),if_neg hs];omega
theorem mOffset_fld {al:Bool} {l:List UInt8} {o i:Nat} (h:TabHead al l o) (hl:l.length≤1000000000):mOffset l (l.length-o) (4+2*i)=some (fldOf l o i):=by
 have hs:=h.size
 have h4:=h.size4
 have hv:=h.vlen
 have he:=h.even
 unfold mOffset
 rw [mGet_at4s h.len h.low,Option.bind_some,mVt_of h hl,mGet_at2 hv (by omega),Option.bind_some]
 unfold fldOf
 by_cases hi:6+2*i≤at2 l (vtOf l o)
 ·rw [if_pos (by omega),if_pos hi,w32_id (by omega),show l.length-vtOf l o+(4+2*i)=l.length-(vtOf l o-(4+2*i)) by omega]
  exact mGet_at2 (by omega) (by omega)
 ·rw [if_neg (by omega),if_neg hi]
end Go.Proofs.YtcfblkkpclfmaaaGreat
namespace Go.Proofs.YtcfblkkpclfmaaaGreat
open Go.RowKit
theorem close8 (n:Nat) (h:n<2 ^ 8):IntKind.i8.wrap (n:Int) % 256=n:=by
 have:=wrap_emod .i8 (n:Int)
 simp only [IntKind.bits] at this
 refine Eq.trans this ?_
 omega
theorem close16 (n:Nat) (h:n<2 ^ 16):IntKind.u64.wrap (IntKind.u16.wrap (IntKind.i16.wrap (n:Int)))=n:=by
 have e:IntKind.u16.wrap (IntKind.i16.wrap (n:Int))=n:=by
  rw [wrap_congr .u16 (wrap_emod .i16 (n:Int))]
  exact IntWalk.u16_in _ (by omega)
 rw [e];exact IntWalk.u64_in _ (by omega)
theorem close32 (n:Nat) (h:n<2 ^ 32):wrap32 (n:Int) % 4294967296=n:=by
 have:=wrap_emod .i32 (n:Int)
 rw [IntWalk.i32_left] at this
 simp only [IntKind.bits] at this
 refine Eq.trans this ?_
 omega
theorem close64 (n:Nat) (h:n<2 ^ 64):IntKind.u64.wrap (wrap64 (n:Int))=n:=by
 have e:wrap64 (n:Int)=IntKind.i64.wrap n:=(IntWalk.i64_left _).symm
 rw [e,wrap_congr .u64 (wrap_emod .i64 (n:Int))]
 exact IntWalk.u64_in _ (by omega)
end Go.Proofs.YtcfblkkpclfmaaaGreat
