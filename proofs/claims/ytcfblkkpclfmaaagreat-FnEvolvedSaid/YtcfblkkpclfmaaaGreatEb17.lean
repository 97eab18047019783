/- Part 17 of the proof of FnEvolved; no condition. -/
import Derived.Test.YtcfblkkpclfmaaaGreatEb01
import Derived.Test.YtcfblkkpclfmaaaGreatEb04
import Derived.Deep.QuietTactic
import Derived.BigQuiet
import Derived.Deep.RegionHeld3
import Derived.Test.YtcfblkkpclfmaaaGreatEb12
set_option linter.unusedVariables false
set_option linter.unusedSimpArgs false
set_option maxRecDepth 100000
set_option maxHeartbeats 16000000
namespace Go.Proofs.YtcfblkkpclfmaaaGreat
def mGet (l:List UInt8)(k:Int)(p:Nat):Option Nat :=
 if numSize k=0\/l.length<p+numSize k then none else some (le ((l.drop p).take (numSize k)))
def w32 (n:Nat):Nat:=n%4294967296
def mVt (pos back:Nat):Nat:=if back<=pos then w32 (pos-back) else 4294967296-(back-pos)
def mOffset(l:List UInt8)(pos slot:Nat):Option Nat :=
 (mGet l 33 pos).bind λback=>(mGet l 35 (mVt pos back)).bind λsize =>
  if slot<size then mGet l 35 (w32 (mVt pos back+slot)) else some 0
def mJump(l:List UInt8)(p:Nat):Option Nat:=(mGet l 34 p).map λn=>w32 (p+n)
def mText(l:List UInt8)(p:Nat):Option (List UInt8) :=
 (mJump l p).bind λq=>(mGet l 34 q).bind λn =>
  if w32 (w32 (q+4)+n)<w32 (q+4)\/l.length<w32 (w32 (q+4)+n) then none
  else some ((l.drop (w32 (q+4))).take (w32 (w32 (q+4)+n)-w32 (q+4)))
def defVal(k:Int)(n:Nat):Nat:=if k=0 then (if n=0 then 0 else 1) else n%2^(8*numSize k)
/-! The reference. -/
attribute [local irreducible] w32 mVt
theorem numVal_open(k:Int)(n:Nat)(h:¬(k=0/\1<n)):numVal k n=n:=by
 unfold numVal;split
 ·split<;>omega
 ·rfl
end Go.Proofs.YtcfblkkpclfmaaaGreat
namespace Go.Proofs.YtcfblkkpclfmaaaGreat
open Go.RowKit
structure Tab(w:World)(T B:Nat)(l:List UInt8)(pos:Nat):Prop where
 t:w.cell? ⟨T,0,none⟩=some (.slice (some ⟨B,0,none⟩) l.length l.length)
 p:w.cell? ⟨T,1,none⟩=some (.int .u32 pos)
 b:w.heap[B]?=some (.cells (cellsOf l).toArray 5)
 hl:l.length<=1000000000
 hp:pos<4294967296
theorem Tab.m{w:World}{T B:Nat}{l:List UInt8}{pos:Nat}(h:Tab w T B l pos):Mem w B 0 l:=Mem.of_block h.b
theorem Tab.drewN{w:World}{T B:Nat}{l:List UInt8}{pos:Nat}(h:Tab w T B l pos)(n:Nat):Tab (w.drewN n) T B l pos:=⟨h.t,h.p,h.b,h.hl,h.hp⟩
theorem Tab.drew{w:World}{T B:Nat}{l:List UInt8}{pos:Nat}(h:Tab w T B l pos):Tab w.drew T B l pos:=⟨h.t,h.p,h.b,h.hl,h.hp⟩
theorem sizeU8:(Tryz.prog.info? 5).map (·.size)=some 1:=by kernel_rfl
theorem mGet_some{l:List UInt8}{k:Int}{p n:Nat}(h:mGet l k p=some n):numSize k≠0/\p+numSize k<=l.length/\n=le ((l.drop p).take (numSize k)):=by
 unfold mGet at h;split at h
 ·cases h
 ·rename_i hn
  refine⟨λe=>hn (.inl e),by omega,?_⟩;injection h with h;exact h.symm
theorem mGet_lt{l:List UInt8}{k:Int}{p n:Nat}(h:mGet l k p=some n):n<2^(8*numSize k):=by
 rw[(mGet_some h).2.2];exact le_take_lt _ _
/-! GetSOffsetT and GetVOffsetT of a Table. -/
theorem TSOff_ok(T B pos off n:Nat)(l:List UInt8)(w:World)(hT:Tab w T B l pos)(h:mGet l 33 off=some n):
  Calls Tryz.prog 155 #[.pointer (some ⟨T,0,none⟩),.int .u32 off] w λe w'=>e=.returned (.int .i32 (IntKind.i32.wrap n))/\w=w':=by
 obtain⟨_,h2,h3⟩:=mGet_some h;have hsl:=run_slice_from (P:=Tryz.prog) Tryz.underlying81 sizeU8 B 0 l.length l.length .u32 off off rfl (by simp[numSize] at h2;omega);have HC:=Hd (GetSOffsetT_ok B (sOff 0 off l.length) (l.length-off) (l.length-off) (l.drop off) w (hT.m.cut (Nat.le_refl _)) (by rw[List.length_drop]) (by simp[numSize] at h2;omega));have ht:=hT.t;have hn:n=le ((l.drop off).take 4):=h3;rw[<-hn] at HC;clear hT h h2 h3 hn;go_enter Tryz.func155,Tryz.ntmps155;go_wp2_with (go_at_call 233;refine HC.out.mono ?_;rintro e w' ⟨rfl,rfl⟩);go_ret;exact⟨rfl,rfl⟩
theorem TVOff_ok(T B pos off n:Nat)(l:List UInt8)(w:World)(hT:Tab w T B l pos)(h:mGet l 35 off=some n):
  Calls Tryz.prog 156 #[.pointer (some ⟨T,0,none⟩),.int .u32 off] w λe w'=>e=.returned (.int .u16 n)/\w=w':=by
 obtain⟨_,h2,h3⟩:=mGet_some h;have hsl:=run_slice_from (P:=Tryz.prog) Tryz.underlying81 sizeU8 B 0 l.length l.length .u32 off off rfl (by simp[numSize] at h2;omega);have HC:=Hd (GetVOffsetT_ok B (sOff 0 off l.length) (l.length-off) (l.length-off) (l.drop off) w (hT.m.cut (Nat.le_refl _)) (by rw[List.length_drop]) (by simp[numSize] at h2;omega));have ht:=hT.t;have hn:n=le ((l.drop off).take 2):=h3;rw[<-hn] at HC;clear hT h h2 h3 hn;go_enter Tryz.func156,Tryz.ntmps156;go_wp2_with (go_at_call 216;refine HC.out.mono ?_;rintro e w' ⟨rfl,rfl⟩);go_ret;exact⟨rfl,rfl⟩
theorem quiet_same{P:Program}{f:FuncId}{args:Array Value}{w:World}{n:Nat}{v:Value}(h:Calls P f args (w.drewN n) λe w'=>e=.returned v/\w.drewN n=w'):
  Calls P f args (w.drewN n) λe w''=>e=.returned v/\∃m,w''=w.drewN m:=h.mono λ_ _ h=>⟨h.1,n,h.2.symm⟩
theorem vt_eq(pos back:Nat)(hp:pos<4294967296)(hb:back<2^32):wrap32 (wrap32 (pos:Int)-wrap32 (back:Int))%4294967296=(mVt pos back:Nat):=by
 rw[<-IntWalk.i32_left,<-IntWalk.i32_left,<-IntWalk.i32_left];have e1:(IntKind.i32.wrap (IntKind.i32.wrap (pos:Int)-IntKind.i32.wrap (back:Int)))%2^32=((pos:Int)-back)%2^32:=by
  have a:=wrap_emod .i32 (IntKind.i32.wrap (pos:Int)-IntKind.i32.wrap (back:Int));have b:=wrap_emod .i32 (pos:Int);have c:=wrap_emod .i32 (back:Int);simp only[IntKind.bits] at a b c;rw[a,Int.sub_emod,b,c,<-Int.sub_emod]
 unfold mVt w32;split
 ·omega
 ·omega
theorem mVt_lt(pos back:Nat)(hb:back<2^32):mVt pos back<4294967296:=by unfold mVt w32;split<;>omega
theorem Offset_ok(T B pos slot o:Nat)(l:List UInt8)(w:World)(hT:Tab w T B l pos)(hs:slot<65536)(h:mOffset l pos slot=some o):
  Calls Tryz.prog 91 #[.pointer (some ⟨T,0,none⟩),.int .u16 slot] w λe w'=>e=.returned (.int .u16 o)/\∃n,w'=w.drewN n:=by
 unfold mOffset at h;obtain⟨back,hb,h⟩:=Option.bind_eq_some_iff.1 h;obtain⟨size,hz,h⟩:=Option.bind_eq_some_iff.1 h;have hv:=vt_eq pos back hT.hp (mGet_lt hb);have HV:=Hd hv;clear hv;have hvl:=mVt_lt pos back (mGet_lt hb);have HZ:=Hd (λn=>TVOff_ok T B pos (mVt pos back) size l (w.drewN n) (hT.drewN n) hz);have hp:=hT.p;have hsz:=mGet_lt hz;have hnum:numSize 35=2:=by decide
 rw[hnum] at hsz;by_cases hlt:slot<size
 ·rw[if_pos hlt] at h;have HO:=Hd (λn=>TVOff_ok T B pos (w32 (mVt pos back+slot)) o l (w.drewN n) (hT.drewN n) h);have hw:(((mVt pos back:Nat):Int)+slot)%4294967296=(w32 (mVt pos back+slot):Nat):=by unfold w32;omega
  have HW:=Hd hw;have HX:=Hd h;clear hw h hnum;go_enter Tryz.func91,Tryz.ntmps91;go_wp2_with fail;go_quiet ((go_at_call 155;exact quiet_same (TSOff_ok T B pos pos back l _ (hT.drewN _) hb)))
  rw[HV.out];have HV2:=HV;clear HV;generalize mVt pos back=v at *;go_wp2_with fail;refine (HZ.out nq).mono ?_;rintro e w' ⟨rfl,rfl⟩;go_wp2_with fail;rw[HW.out];refine (HO.out nq).mono ?_;rintro e w' ⟨rfl,rfl⟩;go_wp2_with fail;go_ret;exact⟨rfl,nq,rfl⟩
 ·rw[if_neg hlt] at h;injection h with h;have HX:=Hd h;clear h hnum;go_enter Tryz.func91,Tryz.ntmps91;go_wp2_with fail;go_quiet ((go_at_call 155;exact quiet_same (TSOff_ok T B pos pos back l _ (hT.drewN _) hb)))
  rw[HV.out];have HV2:=HV;clear HV;generalize mVt pos back=v at *;go_wp2_with fail;refine (HZ.out nq).mono ?_;rintro e w' ⟨rfl,rfl⟩;go_wp2_with fail;go_ret;exact⟨by rw[<-HX.out];rfl,nq,rfl⟩
theorem mGet_ok{l:List UInt8}{k:Int}{a:Nat}(hk:numSize k≠0)(ha:a<=l.length)(h:numSize k<=a):mGet l k (l.length-a)=some (le ((fromEnd l a).take (numSize k))):=by
 unfold mGet fromEnd;rw[if_neg (by omega)]
theorem mGet_at4{l:List UInt8}{a:Nat}(ha:a<=l.length)(h:4<=a):mGet l 34 (l.length-a)=some (at4 l a):=mGet_ok (k:=34) (by decide) ha h
theorem mGet_at4s{l:List UInt8}{a:Nat}(ha:a<=l.length)(h:4<=a):mGet l 33 (l.length-a)=some (at4 l a):=mGet_ok (k:=33) (by decide) ha h
theorem mGet_at2{l:List UInt8}{a:Nat}(ha:a<=l.length)(h:2<=a):mGet l 35 (l.length-a)=some (at2 l a):=mGet_ok (k:=35) (by decide) ha h
theorem numSize_ne{k:Nat}(hk:k<=10):numSize k≠0:=by
 have:k=0\/k=1\/k=2\/k=3\/k=4\/k=5\/k=6\/k=7\/k=8\/k=9\/k=10:=by omega
 rcases this with rfl|rfl|rfl|rfl|rfl|rfl|rfl|rfl|rfl|rfl|rfl<;>decide
theorem mGet_num{l:List UInt8}{k a n:Nat}(hk:OkNum k n)(h:BytesAt l a (leB (numSize k) n)):mGet l k (l.length-a)=some n:=by
 have hl:=h.low;have he:=h.eq;rw[leB_length] at hl he;rw[mGet_ok (numSize_ne hk.1) h.len hl,he,le_leB,Nat.mod_eq_of_lt hk.2.1]
theorem at4_lt(l:List UInt8)(a:Nat):at4 l a<4294967296:=le_take_lt _ 4
theorem at2_lt(l:List UInt8)(a:Nat):at2 l a<65536:=le_take_lt _ 2
theorem w32_id{n:Nat}(h:n<4294967296):w32 n=n:=Nat.mod_eq_of_lt h
theorem mVt_of{al:Bool}{l:List UInt8}{o:Nat}(h:TabHead al l o)(hl:l.length<=1000000000):mVt (l.length-o) (at4 l o)=l.length-vtOf l o:=by
 have h1:=h.len;have h2:=h.sgn;have h3:=h.vlen;have h4:=at4_lt l o;unfold mVt;unfold vtOf at h3 ⊢;split at h3
 ·rename_i hs
  rw[if_pos (by omega),if_pos hs,w32_id (by omega)];omega
 ·rename_i hs
  rw[if_neg (by omega),if_neg hs];omega
theorem mOffset_fld{al:Bool}{l:List UInt8}{o i:Nat}(h:TabHead al l o)(hl:l.length<=1000000000):mOffset l (l.length-o) (4+2*i)=some (fldOf l o i):=by
 have hs:=h.size;have h4:=h.size4;have hv:=h.vlen;have he:=h.even;unfold mOffset;rw[mGet_at4s h.len h.low,Option.bind_some,mVt_of h hl,mGet_at2 hv (by omega),Option.bind_some];unfold fldOf;by_cases hi:6+2*i<=at2 l (vtOf l o)
 ·rw[if_pos (by omega),if_pos hi,w32_id (by omega),show l.length-vtOf l o+(4+2*i)=l.length-(vtOf l o-(4+2*i)) by omega];exact mGet_at2 (by omega) (by omega)
 ·rw[if_neg (by omega),if_neg hi]
theorem mJump_ref{al:Bool}{l:List UInt8}{a:Nat}(h:RefOk al l a)(hl:l.length<=1000000000):mJump l (l.length-a)=some (l.length-refE l a):=by
 have h1:=h.len;have h2:=h.lt;unfold mJump;rw[mGet_at4 h.len h.low,Option.map_some,w32_id (by omega)];unfold refE;congr 1;omega
theorem mText_bytes{al:Bool}{l t:List UInt8}{p r:Nat}(hj:mJump l p=some (l.length-r))(h:BytesAt l r (leB 4 t.length++t))(hl:l.length<=1000000000):mText l p=some t:=by
 have h1:=h.len;have h2:=h.low;have h3:=h.eq;rw[List.length_append,leB_length] at h2 h3;have hlen:at4 l r=t.length:=by
  have:=(BytesAt.left h).at4 (leB_length _ _)
  rw[this,le_leB];exact Nat.mod_eq_of_lt (by omega)
 have hr:=(BytesAt.right h).eq;rw[leB_length] at hr;unfold mText;rw[hj,Option.bind_some,mGet_at4 h1 (by omega),Option.bind_some,hlen,w32_id (n:=l.length-r+4) (by omega),w32_id (n:=l.length-r+4+t.length) (by omega),if_neg (by omega)];rw[show l.length-r+4+t.length-(l.length-r+4)=t.length by omega,show l.length-r+4=l.length-(r-4) by omega];exact congrArg some hr
theorem mText_text{al:Bool}{l t:List UInt8}{p r:Nat}(hj:mJump l p=some (l.length-r))(h:LText al l t r)(hl:l.length<=1000000000):mText l p=some t:=by
 refine mText_bytes (al:=al) hj ?_ hl;have:=h.1
 rw[<-List.append_assoc] at this;exact this.left
theorem vec_len{l:List UInt8}{n r:Nat}{xs:List UInt8}(h:BytesAt l r (leB 4 n++xs))(hn:n<4294967296):mGet l 34 (l.length-r)=some n:=by
 have hl:=h.left.low;rw[leB_length] at hl;rw[mGet_at4 h.len hl,(BytesAt.left h).at4 (leB_length _ _),le_leB,Nat.mod_eq_of_lt hn]
theorem nums_get{l:List UInt8}{e:Nat}:∀{ns:List Nat} {r:Nat} (h:BytesAt l r (ns.flatMap (leB (numSize e)))) (hn:∀n∈ns,OkNum e n) (i:Nat) (hi:i<ns.length),mGet l e (l.length-r+i*numSize e)=some ns[i]:=by
 intro ns;induction ns with
 | nil=>intro r h hn i hi;simp at hi
 | cons a rest ih =>
  intro r h hn i hi;rw[List.flatMap_cons] at h;cases i with
  | zero =>
   simp only[Nat.zero_mul,Nat.add_zero,List.getElem_cons_zero];exact mGet_num (hn a (List.mem_cons_self ..)) h.left
  | succ i =>
   have hr:=h.right;have hlow:=h.left.low;have hlen:=h.len;rw[leB_length] at hr hlow;have:=ih hr (λn hm=>hn n (List.mem_cons_of_mem _ hm)) i (by simpa using hi)
   rw[show l.length-(r-numSize e)+i*numSize e=l.length-r+(i+1)*numSize e by rw[Nat.succ_mul];omega] at this;simpa using this
theorem uo_ok{T B pos p n:Nat}{l:List UInt8}{w:World}(hT:Tab w T B l pos)(h:mGet l 34 p=some n)(v:Int)(hv:v=p):
  ((Instr.slice 81 (.slice (some ⟨B,0,none⟩) l.length l.length) (some (.int .u32 v)) none none).run Tryz.prog w=.ok (.slice (some ⟨B,sOff 0 p l.length,none⟩) (l.length-p) (l.length-p)) w) /\
  Calls Tryz.prog 90 #[.slice (some ⟨B,sOff 0 p l.length,none⟩) (l.length-p) (l.length-p)] w λe w'=>e=.returned (.int .u32 n)/\w=w':=by
 obtain⟨_,h2,h3⟩:=mGet_some h;have hz:numSize 34=4:=by decide
 rw[hz] at h2 h3;refine⟨run_slice_from (P:=Tryz.prog) Tryz.underlying81 sizeU8 B 0 l.length l.length .u32 v p hv (by omega) w,?_⟩;rw[h3];exact GetUOffsetT_ok B (sOff 0 p l.length) (l.length-p) (l.length-p) (l.drop p) w (hT.m.cut (Nat.le_refl _)) (by rw[List.length_drop]) (by omega)
theorem mJump_some{l:List UInt8}{p q:Nat}(h:mJump l p=some q):∃n,mGet l 34 p=some n/\n<4294967296/\q=w32 (p+n):=by
 unfold mJump at h;cases hg:mGet l 34 p with
 | none=>rw[hg] at h;cases h
 | some n=>rw[hg] at h;injection h with h;exact⟨n,rfl,mGet_lt hg,h.symm⟩
theorem w32_add(a b:Nat):((a:Int)+b)%4294967296=(w32 (a+b):Nat):=by unfold w32;omega
theorem w32_add4(a:Nat):((a:Int)+4)%4294967296=(w32 (a+4):Nat):=by unfold w32;omega
theorem w32_add2(a b c:Nat):((a:Int)+b+c)%4294967296=(w32 (w32 (a+b)+c):Nat):=by unfold w32;omega
theorem w32_start(a b:Nat):((a:Int)+b+4)%4294967296=(w32 (w32 (a+b)+4):Nat):=by unfold w32;omega
theorem w32_stop(a b c:Nat):((a:Int)+b+4+c)%4294967296=(w32 (w32 (w32 (a+b)+4)+c):Nat):=by unfold w32;omega
theorem Indirect_ok(T B pos off q:Nat)(l:List UInt8)(w:World)(hT:Tab w T B l pos)(h:mJump l off=some q):
  Calls Tryz.prog 94 #[.pointer (some ⟨T,0,none⟩),.int .u32 off] w λe w'=>e=.returned (.int .u32 q)/\w=w':=by
 obtain⟨n,hg,hn,rfl⟩:=mJump_some h;have hh:=uo_ok hT hg off rfl;have hsl:=hh.1;have HC:=Hd hh.2;have ht:=hT.t;clear hT h hg hh;go_enter Tryz.func94,Tryz.ntmps94;go_wp2_with (go_at_call 90;refine HC.out.mono ?_;rintro e w' ⟨rfl,rfl⟩);go_ret;exact⟨ret_int (w32_add _ _),rfl⟩
theorem Vector_ok(T B pos off q:Nat)(l:List UInt8)(w:World)(hT:Tab w T B l pos)(h:mJump l (w32 (off+pos))=some q):
  Calls Tryz.prog 97 #[.pointer (some ⟨T,0,none⟩),.int .u32 off] w λe w'=>e=.returned (.int .u32 (w32 (q+4)))/\w=w':=by
 obtain⟨n,hg,hn,rfl⟩:=mJump_some h;have hh:=uo_ok hT hg _ (w32_add off pos);have hsl:=hh.1;have HC:=Hd hh.2;have ht:=hT.t;have hp:=hT.p;clear hT h hg hh;go_enter Tryz.func97,Tryz.ntmps97;go_wp2_with (go_at_call 90;refine HC.out.mono ?_;rintro e w' ⟨rfl,rfl⟩);go_ret;exact⟨ret_int (by rw[w32_add2,w32_add4]),rfl⟩
theorem VectorLen_ok(T B pos off q m:Nat)(l:List UInt8)(w:World)(hT:Tab w T B l pos)(h:mJump l (w32 (off+pos))=some q)(hm:mGet l 34 q=some m):
  Calls Tryz.prog 98 #[.pointer (some ⟨T,0,none⟩),.int .u32 off] w λe w'=>e=.returned (.int .i64 m)/\w=w':=by
 obtain⟨n,hg,hn,rfl⟩:=mJump_some h;have hh:=uo_ok hT hg _ (w32_add off pos);have hsl:=hh.1;have HC:=Hd hh.2;have hh2:=uo_ok hT hm (((off:Int)+pos+n)%4294967296) (w32_add2 _ _ _);have hsl2:=hh2.1;have HC2:=Hd hh2.2;have ht:=hT.t;have hp:=hT.p;have hml:=mGet_lt hm;have hz:numSize 34=4:=by decide
 rw[hz] at hml;clear hT h hg hh hh2 hm hz;generalize w32 (w32 (off+pos)+n)=a at *;generalize w32 (off+pos)=b at *;generalize sOff 0 a l.length=sa at *;generalize sOff 0 b l.length=sb at *;generalize l.length-a=la at *;generalize l.length-b=lb at *;go_enter Tryz.func98,Tryz.ntmps98;go_wp2_with fail;refine HC.out.mono ?_;rintro e w' ⟨rfl,rfl⟩;go_wp2_with fail;refine HC2.out.mono ?_;rintro e w' ⟨rfl,rfl⟩;go_wp2_with fail;go_ret;exact⟨ret_int rfl,rfl⟩
/-! ByteVector and String. -/
theorem mText_some{l:List UInt8}{p:Nat}{t:List UInt8}(h:mText l p=some t):∃q n,mJump l p=some q/\mGet l 34 q=some n/\w32 (q+4)<=w32 (w32 (q+4)+n)/\w32 (w32 (q+4)+n)<=l.length/\t=(l.drop (w32 (q+4))).take (w32 (w32 (q+4)+n)-w32 (q+4)):=by
 unfold mText at h;obtain⟨q,hq,h⟩:=Option.bind_eq_some_iff.1 h;obtain⟨n,hn,h⟩:=Option.bind_eq_some_iff.1 h;split at h
 ·cases h
 ·rename_i hx
  injection h with h;exact⟨q,n,hq,hn,by omega,by omega,h.symm⟩
theorem ByteVector_ok(T B pos off:Nat)(t:List UInt8)(l:List UInt8)(w:World)(hT:Tab w T B l pos)(h:mText l off=some t):
  Calls Tryz.prog 96 #[.pointer (some ⟨T,0,none⟩),.int .u32 off] w λe w'=>(∃o cap,e=.returned (.slice (some ⟨B,o,none⟩) t.length cap)/\Mem w B o t)/\w=w':=by
 obtain⟨q,m,hj,hm,h1,h2,rfl⟩:=mText_some h;obtain⟨n,hg,hn,rfl⟩:=mJump_some hj;have hh:=uo_ok hT hg off rfl;have hsl:=hh.1;have HC:=Hd hh.2;have hh2:=uo_ok hT hm (((off:Int)+n)%4294967296) (w32_add _ _);have hsl2:=hh2.1;have HC2:=Hd hh2.2;have ht:=hT.t;have hs3:=run_slice_cut (P:=Tryz.prog) Tryz.underlying81 sizeU8 B 0 l.length l.length .u32 .u32 (((off:Int)+n+4)%4294967296) (((off:Int)+n+4+m)%4294967296) (w32 (w32 (off+n)+4)) (w32 (w32 (w32 (off+n)+4)+m)) (w32_start _ _) (w32_stop _ _ _) h1 h2;have hM:Mem w B (sOff 0 (w32 (w32 (off+n)+4)) l.length) ((l.drop (w32 (w32 (off+n)+4))).take (w32 (w32 (w32 (off+n)+4)+m)-w32 (w32 (off+n)+4))):=(hT.m.cut (Nat.le_refl _)).take _;have hL:((l.drop (w32 (w32 (off+n)+4))).take (w32 (w32 (w32 (off+n)+4)+m)-w32 (w32 (off+n)+4))).length=w32 (w32 (w32 (off+n)+4)+m)-w32 (w32 (off+n)+4):=by
  rw[List.length_take,List.length_drop];omega
 rw[hL];have HM:=Hd hM;clear hT h hg hh hh2 hm hj hL hM h1 h2;generalize (l.drop (w32 (w32 (off+n)+4))).take (w32 (w32 (w32 (off+n)+4)+m)-w32 (w32 (off+n)+4))=t at *;generalize w32 (w32 (w32 (off+n)+4)+m)=c at *;generalize w32 (w32 (off+n)+4)=b at *;generalize w32 (off+n)=a at *;generalize sOff 0 a l.length=sa at *;generalize sOff 0 off l.length=sb at *;generalize l.length-a=la at *;generalize l.length-off=lb at *;go_enter Tryz.func96,Tryz.ntmps96;go_wp2_with fail;refine HC.out.mono ?_;rintro e w' ⟨rfl,rfl⟩;go_wp2_with fail;refine HC2.out.mono ?_;rintro e w' ⟨rfl,rfl⟩;go_wp2_with fail;go_ret;exact⟨⟨_,_,rfl,HM.out⟩,rfl⟩
theorem String_ok(T B pos off:Nat)(t:List UInt8)(l:List UInt8)(w:World)(hT:Tab w T B l pos)(h:mText l off=some t):
  Calls Tryz.prog 95 #[.pointer (some ⟨T,0,none⟩),.int .u32 off] w λe w'=>e=.returned (.string (strOf t))/\w=w':=by
 have HC:=Hd (ByteVector_ok T B pos off t l w hT h);clear hT h;go_enter Tryz.func95,Tryz.ntmps95;go_wp2_with fail;refine HC.out.mono ?_;rintro e w' ⟨⟨o,cap,rfl,hM⟩,rfl⟩;have hc:=run_bytes_string (P:=Tryz.prog) (src:=81) (dst:=9) hM rfl (cap:=cap) Tryz.underlying81 Tryz.underlying5 Tryz.underlying9;clear hM;go_wp2_with (go_at_call 186;go_in);go_ret;exact⟨rfl,rfl⟩
/-! Union: into a second Table, a block of its own. -/
theorem close8(n:Nat)(h:n<2^8):IntKind.i8.wrap (n:Int)%256=n:=by
 have:=wrap_emod .i8 (n:Int)
 simp only[IntKind.bits] at this;refine Eq.trans this ?_;omega
theorem close16(n:Nat)(h:n<2^16):IntKind.u64.wrap (IntKind.u16.wrap (IntKind.i16.wrap (n:Int)))=n:=by
 have e:IntKind.u16.wrap (IntKind.i16.wrap (n:Int))=n:=by
  rw[wrap_congr .u16 (wrap_emod .i16 (n:Int))];exact IntWalk.u16_in _ (by omega)
 rw[e];exact IntWalk.u64_in _ (by omega)
theorem close32(n:Nat)(h:n<2^32):wrap32 (n:Int)%4294967296=n:=by
 have:=wrap_emod .i32 (n:Int)
 rw[IntWalk.i32_left] at this;simp only[IntKind.bits] at this;refine Eq.trans this ?_;omega
theorem close64(n:Nat)(h:n<2^64):IntKind.u64.wrap (wrap64 (n:Int))=n:=by
 have e:wrap64 (n:Int)=IntKind.i64.wrap n:=(IntWalk.i64_left _).symm;rw[e,wrap_congr .u64 (wrap_emod .i64 (n:Int))];exact IntWalk.u64_in _ (by omega)
end Go.Proofs.YtcfblkkpclfmaaaGreat
