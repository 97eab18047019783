/- Part 19 of the proof of FnEvolved; no condition. -/
import Derived.Test.YtcfblkkpclfmaaaGreatEb17
import Derived.Test.YtcfblkkpclfmaaaGreatEb18
import Derived.Test.YtcfblkkpclfmaaaGreatEb12
import Derived.Test.YtcfblkkpclfmaaaGreatEb03
set_option linter.unusedVariables false
set_option linter.unusedSimpArgs false
set_option maxRecDepth 100000
set_option maxHeartbeats 16000000
namespace Go.Proofs.YtcfblkkpclfmaaaGreat
open Go.RowKit
theorem numVal_ok{k n:Nat}(h:OkNum k n):numVal k n=n:=numVal_open k n (by have:=h.2.2.1;omega)
theorem defVal_ok{k n:Nat}(h:OkNum k n):defVal k n=n:=by
 unfold defVal;split
 ·rename_i h0
  have:=h.2.2.1 (by omega)
  split<;>omega
 ·exact Nat.mod_eq_of_lt h.2.1
theorem tableGet_at(T B pos off n k:Nat)(l:List UInt8)(w:World)(hT:Tab w T B l pos)(hk:OkNum k n)(h:mGet l k off=some n):
  Calls Tryz.prog 93 #[.pointer (some ⟨T,0,none⟩),.int .u8 k,.int .u32 off] w λe w'=>e=.returned (.int .u64 n)/\w=w':=by
 obtain⟨K,hK⟩:=exA (k);have hk10:=hk.1;have e1:=numVal_ok hk;have hc:K=0\/K=1\/K=2\/K=3\/K=4\/K=5\/K=6\/K=7\/K=8\/K=9\/K=10:=by omega
 subst hK;rcases hc with rfl|rfl|rfl|rfl|rfl|rfl|rfl|rfl|rfl|rfl|rfl
 ·have h:=tableGet_0 T B pos off n l w hT h;rw[show numVal 0 _=_ from e1] at h;exact h
 ·have h:=tableGet_1 T B pos off n l w hT h;rw[show numVal 1 _=_ from e1] at h;exact h
 ·have h:=tableGet_2 T B pos off n l w hT h;rw[show numVal 2 _=_ from e1] at h;exact h
 ·have h:=tableGet_3 T B pos off n l w hT h;rw[show numVal 3 _=_ from e1] at h;exact h
 ·have h:=tableGet_4 T B pos off n l w hT h;rw[show numVal 4 _=_ from e1] at h;exact h
 ·have h:=tableGet_5 T B pos off n l w hT h;rw[show numVal 5 _=_ from e1] at h;exact h
 ·have h:=tableGet_6 T B pos off n l w hT h;rw[show numVal 6 _=_ from e1] at h;exact h
 ·have h:=tableGet_7 T B pos off n l w hT h;rw[show numVal 7 _=_ from e1] at h;exact h
 ·have h:=tableGet_8 T B pos off n l w hT h;rw[show numVal 8 _=_ from e1] at h;exact h
 ·have h:=tableGet_9 T B pos off n l w hT h;rw[show numVal 9 _=_ from e1] at h;exact h
 ·have h:=tableGet_10 T B pos off n l w hT h;rw[show numVal 10 _=_ from e1] at h;exact h
theorem tableGetSlot_dflt(T B pos slot n k:Nat)(l:List UInt8)(w:World)(hT:Tab w T B l pos)(hk:OkNum k n)(hs:slot<65536)(hn:n<2^64)(h:mOffset l pos slot=some 0):
  Calls Tryz.prog 92 #[.pointer (some ⟨T,0,none⟩),.int .u8 k,.int .u16 slot,.int .u64 n] w λe w'=>e=.returned (.int .u64 n)/\∃m,w'=w.drewN m:=by
 obtain⟨K,hK⟩:=exA (k);have hk10:=hk.1;have e1:=defVal_ok hk;have hc:K=0\/K=1\/K=2\/K=3\/K=4\/K=5\/K=6\/K=7\/K=8\/K=9\/K=10:=by omega
 subst hK;rcases hc with rfl|rfl|rfl|rfl|rfl|rfl|rfl|rfl|rfl|rfl|rfl
 ·have h:=tableGetSlot_0_def T B pos slot n l w hT hs hn h;rw[show defVal 0 _=_ from e1] at h;exact h
 ·have h:=tableGetSlot_1_def T B pos slot n l w hT hs hn h;rw[show defVal 1 _=_ from e1] at h;exact h
 ·have h:=tableGetSlot_2_def T B pos slot n l w hT hs hn h;rw[show defVal 2 _=_ from e1] at h;exact h
 ·have h:=tableGetSlot_3_def T B pos slot n l w hT hs hn h;rw[show defVal 3 _=_ from e1] at h;exact h
 ·have h:=tableGetSlot_4_def T B pos slot n l w hT hs hn h;rw[show defVal 4 _=_ from e1] at h;exact h
 ·have h:=tableGetSlot_5_def T B pos slot n l w hT hs hn h;rw[show defVal 5 _=_ from e1] at h;exact h
 ·have h:=tableGetSlot_6_def T B pos slot n l w hT hs hn h;rw[show defVal 6 _=_ from e1] at h;exact h
 ·have h:=tableGetSlot_7_def T B pos slot n l w hT hs hn h;rw[show defVal 7 _=_ from e1] at h;exact h
 ·have h:=tableGetSlot_8_def T B pos slot n l w hT hs hn h;rw[show defVal 8 _=_ from e1] at h;exact h
 ·have h:=tableGetSlot_9_def T B pos slot n l w hT hs hn h;rw[show defVal 9 _=_ from e1] at h;exact h
 ·have h:=tableGetSlot_10_def T B pos slot n l w hT hs hn h;rw[show defVal 10 _=_ from e1] at h;exact h
theorem tableGetSlot_at(T B pos slot d o n k:Nat)(l:List UInt8)(w:World)(hT:Tab w T B l pos)(hk:OkNum k n)(hs:slot<65536)(hd:d<2^64)(h:mOffset l pos slot=some o)(ho:o≠0)(hg:mGet l k (w32 (pos+o))=some n):
  Calls Tryz.prog 92 #[.pointer (some ⟨T,0,none⟩),.int .u8 k,.int .u16 slot,.int .u64 d] w λe w'=>e=.returned (.int .u64 n)/\∃m,w'=w.drewN m:=by
 obtain⟨K,hK⟩:=exA (k);have hk10:=hk.1;have e1:=numVal_ok hk;have hc:K=0\/K=1\/K=2\/K=3\/K=4\/K=5\/K=6\/K=7\/K=8\/K=9\/K=10:=by omega
 subst hK;rcases hc with rfl|rfl|rfl|rfl|rfl|rfl|rfl|rfl|rfl|rfl|rfl
 ·have h:=tableGetSlot_0_ok T B pos slot d o n l w hT hs hd h ho hg;rw[show numVal 0 _=_ from e1] at h;exact h
 ·have h:=tableGetSlot_1_ok T B pos slot d o n l w hT hs hd h ho hg;rw[show numVal 1 _=_ from e1] at h;exact h
 ·have h:=tableGetSlot_2_ok T B pos slot d o n l w hT hs hd h ho hg;rw[show numVal 2 _=_ from e1] at h;exact h
 ·have h:=tableGetSlot_3_ok T B pos slot d o n l w hT hs hd h ho hg;rw[show numVal 3 _=_ from e1] at h;exact h
 ·have h:=tableGetSlot_4_ok T B pos slot d o n l w hT hs hd h ho hg;rw[show numVal 4 _=_ from e1] at h;exact h
 ·have h:=tableGetSlot_5_ok T B pos slot d o n l w hT hs hd h ho hg;rw[show numVal 5 _=_ from e1] at h;exact h
 ·have h:=tableGetSlot_6_ok T B pos slot d o n l w hT hs hd h ho hg;rw[show numVal 6 _=_ from e1] at h;exact h
 ·have h:=tableGetSlot_7_ok T B pos slot d o n l w hT hs hd h ho hg;rw[show numVal 7 _=_ from e1] at h;exact h
 ·have h:=tableGetSlot_8_ok T B pos slot d o n l w hT hs hd h ho hg;rw[show numVal 8 _=_ from e1] at h;exact h
 ·have h:=tableGetSlot_9_ok T B pos slot d o n l w hT hs hd h ho hg;rw[show numVal 9 _=_ from e1] at h;exact h
 ·have h:=tableGetSlot_10_ok T B pos slot d o n l w hT hs hd h ho hg;rw[show numVal 10 _=_ from e1] at h;exact h
end Go.Proofs.YtcfblkkpclfmaaaGreat
namespace Go.Proofs.YtcfblkkpclfmaaaGreat
inductive ShOk:Val->Val->Prop
 | mk (k e n:Nat) (t:List UInt8) (ns:List Nat) (ks:List Val) (ss:List (Slt Val)) (sv:Val) (hk:sv.kind=k) (he:sv.elem=e) (h17:k=17->sv.text.length=t.length)
  (h16:k=16->ks≠[]->sv.kids≠[]) (h16b:∀it rest,k=16->sv.kids=it::rest->∀c∈ks,ShOk c it)
  (hl:sv.slots.length=ss.length) (hd:∀i (h:i<ss.length) (h2:i<sv.slots.length),sv.slots[i].dflt=ss[i].dflt) (hs:∀i (h:i<ss.length) (h2:i<sv.slots.length),ShOk ss[i].val sv.slots[i].val):ShOk (.mk k e n t ns ks ss) sv
inductive Pure:Val->Prop
 | mk (k e n:Nat) (t:List UInt8) (ns:List Nat) (ks:List Val) (ss:List (Slt Val)) (hk:k<=17) (hnum:k > 10->n=0) (htext:k≠11->k≠12->k≠17->t=[]) (hnums:k≠13->ns=[]) (hkids:k≠14->k≠16->ks=[]) (hslots:k≠15->ss=[]) (helem:k≠13->k≠17->e=0)
  (lt:t.length<=1000) (ln:ns.length<=200) (lk:ks.length<=200) (ls:ss.length<=100) (h13:k=13->e<=10/\∀x∈ns,OkNum e x) (hk14:k=14->∀v∈ks,v.kind=11) (hk16:k=16->∀v∈ks,v.kind=15) (hgk:∀v∈ks,Pure v)
  (hgs:∀s∈ss,present s=true->Pure s.val) (hkk:∀s∈ss,s.val.kind<=17) (hd2:∀s∈ss,s.val.kind<=10->OkNum s.val.kind s.dflt/\s.val.elem=0) (h10:k<=10->OkNum k n):Pure (.mk k e n t ns ks ss)
theorem Good.kind{v:Val}(h:Good v):v.kind<=17:=by cases h;assumption
theorem Good.elem0{v:Val}(h:Good v)(hk:v.kind<=10):v.elem=0:=by
 cases h with
 | mk k e n t ns ks ss hk hnum htext hnums hkids hslots helem =>
  have hk:k<=10:=hk;exact helem (by omega) (by omega)
theorem Good.pure{v:Val}(h:Good v):Pure v:=by
 induction h with
 | mk k e n t ns ks ss hk hnum htext hnums hkids hslots helem lt ln lk ls h13 h17 hk14 hk16 hgk hmer hgs hd1 hd2 h10 ihk ihs =>
  exact .mk k e n t ns ks ss hk hnum htext hnums hkids hslots helem lt ln lk (by omega) h13 hk14 hk16 ihk (λs hs _=>ihs s hs) (λs hs=>(hgs s hs).kind) (λs hs h=>⟨hd2 s hs h,(hgs s hs).elem0 h⟩) h10
theorem bothS_some:∀(ss ts os:List (Slt Val)),bothS ss ts=some os->os.length=ss.length/\∀i (h1:i<ss.length) (h2:i<ts.length) (h3:i<os.length),both ss[i].val ts[i].val=some os[i].val/\os[i].dflt=ss[i].dflt/\ss[i].dflt=ts[i].dflt
 | [],ts,os,h=>by
  rw[bothS] at h;injection h with h;subst h;exact⟨rfl,λi h1=>by simp at h1⟩
 | s::r,[],os,h=>by rw[bothS] at h;cases h
 | s::r,t::u,os,h=>by
  rw[bothS] at h;cases hb:bothT s t with
  | none=>rw[hb] at h;cases h
  | some x =>
   rw[hb,Option.bind_some] at h;cases hr:bothS r u with
   | none=>rw[hr] at h;cases h
   | some xs =>
    rw[hr] at h;injection h with h;subst h;obtain⟨hl,hi⟩:=bothS_some r u xs hr;have hx:both s.val t.val=some x.val/\x.dflt=s.dflt/\s.dflt=t.dflt:=by
     cases s with
     | mk hs v d =>
      rw[bothT] at hb;cases hv:both v t.val with
      | none=>rw[hv] at hb;cases hb
      | some y =>
       rw[hv,Option.bind_some] at hb;split at hb
       ·rename_i hd
        injection hb with hb;subst hb;exact⟨rfl,rfl,hd⟩
       ·cases hb
    refine⟨by simp[hl],λi h1 h2 h3=>?_⟩;cases i with
    | zero=>exact hx
    | succ i=>exact hi i (by simpa using h1) (by simpa using h2) (by simpa using h3)
theorem both_some{a b c:Val}(h:both a b=some c):a.kind=b.kind/\a.elem=b.elem/\a.slots.length=b.slots.length/\(a.kind=17->a.text.length=b.text.length)/\c.kind=a.kind/\c.elem=a.elem/\c.text=a.text/\bothS a.slots b.slots=some c.slots/\bothK a.kids b.kids=some c.kids:=by
 cases a with
 | mk k e n t ns ks ss =>
  rw[both] at h;split at h
  ·rename_i hc
   cases h1:bothS ss b.slots with
   | none=>rw[h1] at h;cases h
   | some os =>
    rw[h1,Option.bind_some] at h;cases h2:bothK ks b.kids with
    | none=>rw[h2] at h;cases h
    | some kk =>
     rw[h2] at h;injection h with h;subst h;exact⟨hc.1,hc.2.1,hc.2.2.1,hc.2.2.2,rfl,rfl,rfl,h1,h2⟩
  ·cases h
theorem both_shape:∀(v a b c:Val),both a b=some c->(ShOk v a\/ShOk v b)->ShOk v c:=by
 intro v;induction v using Val.ind with
 | h k e n t ns ks ss ihk ihs =>
  intro a b c hc hab;obtain⟨b1,b2,b3,b4,b5,b6,b7,b8,b9⟩:=both_some hc;obtain⟨sl,si⟩:=bothS_some _ _ _ b8;have key:a.kind=k/\a.elem=e/\(k=17->a.text.length=t.length)/\a.slots.length=ss.length/\(∀i (h:i<ss.length) (h2:i<a.slots.length),a.slots[i].dflt=ss[i].dflt):=by
   rcases hab with h|h
   ·cases h with
    | mk _ _ _ _ _ _ _ _ hk he h17 h16 h16b hl hd hs=>exact⟨hk,he,h17,hl,hd⟩
   ·cases h with
    | mk _ _ _ _ _ _ _ _ hk he h17 h16 h16b hl hd hs =>
     exact⟨b1.trans hk,b2.trans he,λh=>(b4 (by omega)).trans (h17 h),b3.trans hl,λi h h2=>by
      have:=si i h2 (by omega) (by omega)
      rw[this.2.2];exact hd i h (by omega)⟩
  obtain⟨k1,k2,k3,k4,k5⟩:=key;refine .mk k e n t ns ks ss c (b5.trans k1) (b6.trans k2) (λh=>by rw[b7];exact k3 h) (λh hne=>?_) (λit rest h hit=>?_) (sl.trans k4) (λi h h2=>?_) (λi h h2=>?_)
  ·intro h0;rw[h0] at b9;rcases hab with hh|hh
   ·cases hh with
    | mk _ _ _ _ _ _ _ _ hk he h17 h16 h16b hl hd hs =>
     have:=h16 h hne
     cases hak:a.kids with
     | nil=>exact this hak
     | cons x r =>
      cases hbk:b.kids with
      | nil=>rw[hak,hbk,bothK] at b9;cases b9
      | cons y u =>
       rw[hak,hbk,bothK] at b9;cases hxy:both x y with
       | none=>rw[hxy] at b9;cases b9
       | some z=>rw[hxy] at b9;cases b9
   ·cases hh with
    | mk _ _ _ _ _ _ _ _ hk he h17 h16 h16b hl hd hs =>
     have:=h16 h hne
     cases hak:a.kids with
     | nil =>
      rw[hak,bothK] at b9;injection b9 with b9;exact this b9
     | cons x r =>
      cases hbk:b.kids with
      | nil=>exact this hbk
      | cons y u =>
       rw[hak,hbk,bothK] at b9;cases hxy:both x y with
       | none=>rw[hxy] at b9;cases b9
       | some z=>rw[hxy] at b9;cases b9
  ·intro q hq;rw[hit] at b9;cases hak:a.kids with
   | nil =>
    rw[hak,bothK] at b9;injection b9 with b9;rcases hab with hh|hh
    ·cases hh with
     | mk _ _ _ _ _ _ _ _ hk he h17 h16 h16b hl hd hs=>exact absurd hak (h16 h (List.ne_nil_of_mem hq))
    ·cases hh with
     | mk _ _ _ _ _ _ _ _ hk he h17 h16 h16b hl hd hs=>exact h16b it rest h b9 q hq
   | cons x r =>
    cases hbk:b.kids with
    | nil =>
     rw[hak,hbk,bothK] at b9;injection b9 with b9;rcases hab with hh|hh
     ·cases hh with
      | mk _ _ _ _ _ _ _ _ hk he h17 h16 h16b hl hd hs=>exact h16b it rest h (hak.trans b9) q hq
     ·cases hh with
      | mk _ _ _ _ _ _ _ _ hk he h17 h16 h16b hl hd hs=>exact absurd hbk (h16 h (List.ne_nil_of_mem hq))
    | cons y u =>
     rw[hak,hbk,bothK] at b9;cases hxy:both x y with
     | none=>rw[hxy] at b9;cases b9
     | some z =>
      rw[hxy] at b9;have b9:some [z]=some (it::rest):=b9;injection b9 with b9;injection b9 with b9 _;subst b9;refine ihk q hq x y z hxy ?_;rcases hab with hh|hh
      ·cases hh with
       | mk _ _ _ _ _ _ _ _ hk he h17 h16 h16b hl hd hs=>exact .inl (h16b x r h hak q hq)
      ·cases hh with
       | mk _ _ _ _ _ _ _ _ hk he h17 h16 h16b hl hd hs=>exact .inr (h16b y u h hbk q hq)
  ·rw[(si i (by omega) (by omega) h2).2.1];exact k5 i h (by omega)
  ·refine ihs ss[i] (List.getElem_mem h) _ _ _ (si i (by omega) (by omega) h2).1 ?_;rcases hab with hh|hh
   ·cases hh with
    | mk _ _ _ _ _ _ _ _ hk he h17 h16 h16b hl hd hs=>exact .inl (hs i h (by omega))
   ·cases hh with
    | mk _ _ _ _ _ _ _ _ hk he h17 h16 h16b hl hd hs=>exact .inr (hs i h (by omega))
theorem fold_shape:∀(r:List Val) (a m:Val),r.foldlM both a=some m->∀v,(ShOk v a\/∃x∈r,ShOk v x)->ShOk v m
 | [],a,m,h,v,hv=>by
  have h:some a=some m:=h;injection h with h;subst h;rcases hv with h|⟨x,hx,_⟩
  ·exact h
  ·cases hx
 | b::r,a,m,h,v,hv=>by
  rw[List.foldlM_cons] at h;cases hab:both a b with
  | none=>rw[hab] at h;cases h
  | some c =>
   rw[hab] at h;have h:r.foldlM both c=some m:=h;refine fold_shape r c m h v ?_;rcases hv with h1|⟨x,hx,h1⟩
   ·exact .inl (both_shape v a b c hab (.inl h1))
   ·rcases List.mem_cons.1 hx with rfl|hx
    ·exact .inl (both_shape v a x c hab (.inr h1))
    ·exact .inr ⟨x,hx,h1⟩
theorem merged_shape{ks:List Val}{m:Val}(h:merged ks=some m)(hk:∀v∈ks,ShOk v (shape v)):∀v∈ks,ShOk v m:=by
 intro v hv;unfold merged at h;cases ks with
 | nil=>cases hv
 | cons a r =>
  rw[List.map_cons,foldBoth] at h;refine fold_shape _ _ _ h v ?_;rcases List.mem_cons.1 hv with rfl|hv2
  ·exact .inl (hk v hv)
  ·exact .inr ⟨shape v,List.mem_map_of_mem hv2,hk v hv⟩
theorem shape_def(v:Val):shape v=.mk v.kind v.elem 0 (if v.kind=17 then List.replicate v.text.length 0 else []) [] (if v.kind=16 then (match v.kids with|[]=>[]|_::_=>(match merged v.kids with|some m=>[m]|none=>[])) else []) (v.slots.map λs=>⟨false,shape s.val,s.dflt⟩):=by
 cases v with
 | mk k e n t ns ks ss =>
  cases ks with
  | nil=>rw[shape,shapeS_eq];rfl
  | cons a r=>rw[shape,shapeS_eq,shapeL_eq];rfl
theorem Good.shape{v:Val}(h:Good v):ShOk v (shape v):=by
 induction h with
 | mk k e n t ns ks ss hk hnum htext hnums hkids hslots helem lt ln lk ls h13 h17 hk14 hk16 hgk hmer hgs hd1 hd2 h10 ihk ihs =>
  rw[shape_def];refine .mk k e n t ns ks ss _ rfl rfl (λh=>?_) (λh hne=>?_) (λit rest h hit=>?_) ?_ (λi h h2=>?_) (λi h h2=>?_)
  ·show (if k=17 then List.replicate t.length (0:UInt8) else []).length=_;rw[if_pos h];exact List.length_replicate
  ·show (if k=16 then (match ks with|[]=>[]|_::_=>(match merged ks with|some m=>[m]|none=>[])) else [])≠[];rw[if_pos h];obtain⟨m,hm⟩:=Option.isSome_iff_exists.1 (hmer h);cases ks with
   | nil=>exact absurd rfl hne
   | cons a r =>
    show (match merged (a::r) with|some m=>[m]|none=>[])≠[];rw[hm];simp
  ·have hit:(if k=16 then (match ks with|[]=>[]|_::_=>(match merged ks with|some m=>[m]|none=>[])) else [])=it::rest:=hit;rw[if_pos h] at hit;obtain⟨m,hm⟩:=Option.isSome_iff_exists.1 (hmer h);cases ks with
   | nil=>intro c hc;cases hc
   | cons a r =>
    have hit:(match merged (a::r) with|some m=>[m]|none=>[])=it::rest:=hit;rw[hm] at hit;have hit:[m]=it::rest:=hit;injection hit with hit _;subst hit;exact merged_shape hm ihk
  ·show (ss.map _).length=_;rw[List.length_map]
  ·simp[Val.slots]
  ·have e:((ss.map λs=>(⟨false,Proofs.YtcfblkkpclfmaaaGreat.shape s.val,s.dflt⟩:Slt Val))[i]'(by simpa using h)).val=Proofs.YtcfblkkpclfmaaaGreat.shape ss[i].val:=by simp
   show ShOk _ ((ss.map λs=>(⟨false,Proofs.YtcfblkkpclfmaaaGreat.shape s.val,s.dflt⟩:Slt Val))[i]'(by simpa using h)).val;rw[e];exact ihs _ (List.getElem_mem h)
end Go.Proofs.YtcfblkkpclfmaaaGreat
namespace Go.Proofs.YtcfblkkpclfmaaaGreat
open Go.RowKit
theorem Tab.keep{S:Nat->Prop}{w w':World}{T B:Nat}{l:List UInt8}{pos:Nat}(h:Tab w T B l pos)(hf:Fr S w w')(hT:T<w.heap.size)(h1:¬S T)(h2:¬S B):Tab w' T B l pos :=
 ⟨(Fr.cell hf hT h1).trans h.t,(Fr.cell hf hT h1).trans h.p,(hf.block B (lt_of_block h.b) h2).trans h.b,h.hl,h.hp⟩
theorem Tab.keep0{w w':World}{T B:Nat}{l:List UInt8}{pos:Nat}(h:Tab w T B l pos)(hf:Fr0 w w')(hT:T<w.heap.size):Tab w' T B l pos:=h.keep hf hT (λx=>x) (λx=>x)
theorem LSlots_get{al:Bool}{B:List UInt8}:∀(ss:List (Slt Val)) (i o:Nat),LSlots al B ss i o->∀j (h:j<ss.length),LSlot al B ss[j] (i+j) o
 | [],_,_,_,j,h=>by simp at h
 | s::r,i,o,hl,j,h=>by
  rw[LSlots] at hl;cases j with
  | zero=>exact hl.1
  | succ j =>
   have:=LSlots_get r (i+1) o hl.2 j (by simpa using h)
   rw[show i+1+j=i+(j+1) by omega] at this;exact this
theorem VIs.plain{B:Nat->Prop}{w:World}{k e n:Nat}(hk:k<256)(he:e<256)(hn:n<2^64):VIs B w [.int .u8 k,.int .u8 e,.int .u64 n,.string ⟨#[]⟩,.slice none 0 0,.slice none 0 0,.slice none 0 0] (.mk k e n [] [] [] []) :=
 .mk k e n [] [] [] [] (.slice none 0 0) none 0 0 0 none 0 0 0 hk he hn (Nat.zero_le _) ⟨none,0,rfl,Nat.le_refl _,Nat.zero_le _,λh=>absurd rfl h,λn hn=>by cases hn⟩ (λh=>absurd rfl h) ⟨Nat.le_refl _,Nat.zero_le _⟩ (λi h=>by simp at h) (λh=>absurd rfl h) ⟨Nat.le_refl _,Nat.zero_le _⟩ (λi h=>by simp at h) (λi h=>by simp at h)
theorem read0T_scalar{s:Slt Val}(hk:s.val.kind<=10)(he:s.val.elem=0)(hp:present s=true->Pure s.val):read0T s=⟨present s,.mk s.val.kind 0 (if present s then s.val.num else s.dflt) [] [] [] [],s.dflt⟩:=by
 cases s with
 | mk h v d =>
  have hk:v.kind<=10:=hk;have he:v.elem=0:=he;rw[read0T];by_cases hp1:present ⟨h,v,d⟩=true
  ·have hpv:Pure v:=hp hp1;have hh:h=true/\eqK v.kind v.num d=false:=by
    have h1:=hp1;unfold present at h1;have h1:(h&&!(decide (v.kind<=10)&&eqK v.kind v.num d))=true:=h1;rw[decide_eq_true hk,Bool.true_and] at h1;cases h<;>cases hq:eqK v.kind v.num d<;>simp_all
   rw[if_neg (by rintro⟨_,h1⟩;rcases h1 with h1|h1<;>simp_all),if_pos hh.1,hp1];cases hpv with
   | mk k e n t ns ks ss hk' hnum htext hnums hkids hslots helem =>
    have hk:k<=10:=hk;have he:e=0:=he;obtain rfl:=htext (by omega) (by omega) (by omega);obtain rfl:=hnums (by omega);obtain rfl:=hkids (by omega) (by omega);obtain rfl:=hslots (by omega);subst he;rfl
  ·have hp2:present ⟨h,v,d⟩=false:=by simpa using hp1
   have hh:h=false\/eqK v.kind v.num d=true:=by
    have h1:=hp2;unfold present at h1;have h1:(h&&!(decide (v.kind<=10)&&eqK v.kind v.num d))=false:=h1;rw[decide_eq_true hk,Bool.true_and] at h1;cases h<;>cases hq:eqK v.kind v.num d<;>simp_all
   rw[if_pos ⟨hk,hh⟩,hp2];rfl
theorem present_else{s:Slt Val}(hk:¬s.val.kind<=10):present s=s.has:=by
 unfold present;rw[decide_eq_false hk];simp
theorem read0T_else{s:Slt Val}(hk:¬s.val.kind<=10):read0T s=if present s then ⟨true,read0 s.val,s.dflt⟩ else ⟨false,s.val.absent,s.dflt⟩:=by
 rw[present_else hk];cases s with
 | mk h v d =>
  have hk:¬v.kind<=10:=hk;rw[read0T,if_neg (λh=>hk h.1)]
theorem slot_fld{al:Bool}{l:List UInt8}{o i:Nat}{s:Slt Val}(h:LSlot al l s i o)(ht:TabHead al l o):(fldOf l o i≠0 ↔ present s=true)/\fldOf l o i<65536/\fldOf l o i<=o/\(present s=true->LVal al l s.val (o-fldOf l o i)):=by
 rw[LSlot_def] at h;have hw:=ht.whole;cases hp:present s with
 | true =>
  rw[hp,if_pos rfl] at h;have:=at2_lt l (vtOf l o-2)
  exact⟨⟨λ_=>rfl,λ_=>by omega⟩,by omega,by omega,λ_=>h.2.2⟩
 | false =>
  rw[hp,if_neg (by simp)] at h;exact⟨⟨λx=>absurd h x,λx=>by cases x⟩,by omega,by omega,λx=>by cases x⟩
theorem LVal_num{al:Bool}{l:List UInt8}{v:Val}{a:Nat}(hk:v.kind<=10)(h:LVal al l v a):BytesAt l a (leB (numSize v.kind) v.num):=by
 cases v with
 | mk k e n t ns ks ss =>
  rw[LVal,if_pos (show k<=10 from hk)] at h;exact h.1
theorem slotNum_calls{al:Bool}{l:List UInt8}{o i T B:Nat}{s:Slt Val}(h:LSlot al l s i o)(ht:TabHead al l o)(hk:s.val.kind<=10)(hp:present s=true->Pure s.val)(hd:OkNum s.val.kind s.dflt)(hi:i<=1000)(w:World)(hT:Tab w T B l (l.length-o)):
  Calls Tryz.prog 92 #[.pointer (some ⟨T,0,none⟩),.int .u8 s.val.kind,.int .u16 (4+2*i:Nat),.int .u64 s.dflt] w λe w'=>e=.returned (.int .u64 (if present s then s.val.num else s.dflt:Nat))/\∃m,w'=w.drewN m:=by
 obtain⟨h1,h2,h3,h4⟩:=slot_fld h ht;have hof:=mOffset_fld (i:=i) ht hT.hl;have hol:=ht.len;have hd64:s.dflt<2^64:=Nat.lt_of_lt_of_le hd.2.1 (Nat.pow_le_pow_right (by omega) (by have:=numSize_le s.val.kind;omega));cases hpr:present s with
 | true =>
  have hpv:=hp hpr;have hok:OkNum s.val.kind s.val.num:=by
   cases hv:s.val with
   | mk k e n t ns ks ss =>
    rw[hv] at hpv hk;cases hpv with
    | mk _ _ _ _ _ _ _ hk' hnum htext hnums hkids hslots helem lt ln lk ls h13 hk14 hk16 hgk hgs hkk hd2 h10=>exact h10 hk
  have hb:=LVal_num hk (h4 hpr);have hne:=h1.2 hpr;have hg:=mGet_num hok hb;have hpos:l.length-(o-fldOf l o i)=w32 (l.length-o+fldOf l o i):=by
   rw[w32_id (by have:=hT.hl;omega)];omega
  rw[hpos] at hg;exact tableGetSlot_at T B (l.length-o) (4+2*i) s.dflt (fldOf l o i) s.val.num s.val.kind l w hT hok (by omega) hd64 hof hne hg
 | false =>
  have h0:fldOf l o i=0:=by
   by_cases h0:fldOf l o i=0
   ·exact h0
   ·have:=h1.1 h0;rw[hpr] at this;cases this
  rw[h0] at hof;exact tableGetSlot_dflt T B (l.length-o) (4+2*i) s.dflt s.val.kind l w hT hd (by omega) hd64 hof
def RdE (v:Val):Prop:=Pure v->∀(sv:Val) (al:Bool) (T B o f:Nat) (l:List UInt8) (w:World) (cs:List Value),ShOk v sv->10<v.kind->Tab w T B l (l.length-o)->T<w.heap.size->f<=o->o<=l.length->f<65536->LVal al l v (o-f)->VIs (λ_=>True) w cs sv ->
 Calls Tryz.prog 102 #[.pointer (some ⟨T,0,none⟩),.int .u32 f,.agg cs.toArray] w (VRes (λ_=>False) (read0 v) w)
def RdT (v:Val):Prop:=Pure v->v.kind=15->∀(sv:Val) (al:Bool) (T B o:Nat) (l:List UInt8) (w:World) (cs:List Value),ShOk v sv->Tab w T B l (l.length-o)->T<w.heap.size->LTab al l v o->VIs (λ_=>True) w cs sv ->
 Calls Tryz.prog 56 #[.pointer (some ⟨T,0,none⟩),.agg cs.toArray] w (VRes (λ_=>False) (read0 v) w)
end Go.Proofs.YtcfblkkpclfmaaaGreat
