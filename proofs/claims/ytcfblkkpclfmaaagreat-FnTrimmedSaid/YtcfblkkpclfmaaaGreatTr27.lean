/- Part 27 of the proof of FnTrimmed (RdE0, SpecV1, SpecV2). No condition is laid on the statement. -/
import Derived.Test.YtcfblkkpclfmaaaGreatTr26
import Derived.Test.YtcfblkkpclfmaaaGreatTr03
import Derived.Test.YtcfblkkpclfmaaaGreatTr17
import Derived.Test.YtcfblkkpclfmaaaGreatTr01
set_option linter.unusedVariables false
set_option linter.unusedSimpArgs false
namespace Go.Proofs.YtcfblkkpclfmaaaGreat
open Go.RowKit
theorem size_setCell (w:World) (p:Addr) (v:Value):(w.setCell p v).heap.size=w.heap.size:=by simp [World.setCell]
theorem set7_all {α:Type} (a0 a1 a2 a3 a4 a5 a6 x0 x1 x2 x3 x4 x5 x6:α):(((((((#[a0,a1,a2,a3,a4,a5,a6].setIfInBounds 0 x0).setIfInBounds 1 x1).setIfInBounds 2 x2).setIfInBounds 3 x3).setIfInBounds 4 x4).setIfInBounds 5 x5).setIfInBounds 6 x6)=#[x0,x1,x2,x3,x4,x5,x6]:=by simp only [zA,zB,zC]
/-- The seven cells that are handed back. -/
theorem results_set7 {P:Program} {fn:Func} {p:Tmp} {ty:TypeId} (h:fn.results=#[.cell p ty]) (tmps:Array Value) (w:World) (g:Nat) (t:TypeId) (c:Array Value) (d:TypeDesc) (x0 x1 x2 x3 x4 x5 x6:Value)
  (hp:tmps.getD p undef=.pointer (some ⟨g,0,none⟩)) (hc:c.size=7) (hg:w.heap[g]?=some (.cells c t)) (hu:P.underlying ty=some d) (hd:(match d with | .struct _ | .array _ _=>true | _=>false)=true) (hi:(P.info? ty).map (·.size)=some 7) :
  (results fn tmps).run P (((((((w.setCell ⟨g,0,none⟩ x0).setCell ⟨g,1,none⟩ x1).setCell ⟨g,2,none⟩ x2).setCell ⟨g,3,none⟩ x3).setCell ⟨g,4,none⟩ x4).setCell ⟨g,5,none⟩ x5).setCell ⟨g,6,none⟩ x6)=.ok (.agg #[x0,x1,x2,x3,x4,x5,x6]) (((((((w.setCell ⟨g,0,none⟩ x0).setCell ⟨g,1,none⟩ x1).setCell ⟨g,2,none⟩ x2).setCell ⟨g,3,none⟩ x3).setCell ⟨g,4,none⟩ x4).setCell ⟨g,5,none⟩ x5).setCell ⟨g,6,none⟩ x6):=by
 obtain ⟨a0,a1,a2,a3,a4,a5,a6,rfl⟩:=arr7 hc
 have h7:=heap_setCell_same (heap_setCell_same (heap_setCell_same (heap_setCell_same (heap_setCell_same (heap_setCell_same (heap_setCell_same hg 0 x0) 1 x1) 2 x2) 3 x3) 4 x4) 5 x5) 6 x6
 rw [set7_all] at h7
 exact results_row h tmps _ g t _ (0,0) d hp h7 hu hd hi
end Go.Proofs.YtcfblkkpclfmaaaGreat
namespace Go.Proofs.YtcfblkkpclfmaaaGreat
open Go.RowKit
theorem kind11 {k:Nat} (hk:k≤10):k=0∨k=1∨k=2∨k=3∨k=4∨k=5∨k=6∨k=7∨k=8∨k=9∨k=10:=by omega
theorem specSize_calls (k:Nat) (hk:k≤10) (w:World):Calls Tryz.prog 24 #[.int .u8 k] w fun e w'=>e=.returned (.int .i64 (numSize k))∧w=w':=by
 rcases kind11 hk with rfl | rfl | rfl | rfl | rfl | rfl | rfl | rfl | rfl | rfl | rfl <;>
 ·go_enter Tryz.func24,Tryz.ntmps24
  go_wp2
  go_ret
  exact ⟨rfl,rfl⟩
theorem zzFits8_calls (sz:Int) (id:List UInt8) (sh:Bool) (w:World):Calls Tryz.prog 17 #[.agg #[.int .i64 sz,.string (strOf id),.bool sh]] w fun e w'=>e=.returned (.bool (decide (id.length≤2147483647)))∧Fr0 w w':=by
 obtain ⟨S,hS⟩:∃ S,S=strOf id:=⟨_,rfl⟩
 have hsz:S.size=id.length:=by rw [hS,strOf_size]
 rw [← hS]
 clear hS
 have HF:=Hd (((Fr.refl (fun _=>False) w).alloc (.cells #[.int .i64 sz,.string S,.bool sh] 29)))
 by_cases h:id.length≤2147483647
 ·rw [decide_eq_true h]
  have h1:((2147483647:Int)<(S.size:Int))=False:=by rw [hsz];simp;omega
  clear h hsz
  go_enter Tryz.func17,Tryz.ntmps17
  go_wp2_with fail
  go_ret
  exact ⟨rfl,HF.out⟩
 ·rw [decide_eq_false h]
  have h1:((2147483647:Int)<(S.size:Int))=True:=by rw [hsz];simp;omega
  clear h hsz
  go_enter Tryz.func17,Tryz.ntmps17
  go_wp2_with fail
  go_ret
  exact ⟨rfl,HF.out⟩
/-- The guard of size lets a value by, or not. -/
theorem zzFits7_calls (v:Val) (cs:List Value) (w:World) {B:Nat→Prop} (hv:VIs B w cs v):Calls Tryz.prog 16 #[.agg cs.toArray] w fun e w'=>(∃ r,e=.returned (.bool r))∧Fr0 w w':=by
 obtain ⟨na,nl,nc,ka,nk,kc,sa,ns,sc,rfl⟩:=hv.lit
 obtain ⟨k,hk⟩:∃ k,k=v.kind:=⟨_,rfl⟩
 obtain ⟨e,hee⟩:∃ e,e=v.elem:=⟨_,rfl⟩
 obtain ⟨n,hn⟩:∃ n,n=v.num:=⟨_,rfl⟩
 obtain ⟨tt,htt⟩:∃ tt,tt=strOf v.text:=⟨_,rfl⟩
 rw [← hk,← hee,← hn,← htt]
 clear hv hk hee hn htt
 have HF:=Hd (((Fr.refl (fun _=>False) w).alloc (.cells #[.int .u8 k,.int .u8 e,.int .u64 n,.string tt,.slice na nl nc,.slice ka nk kc,.slice sa ns sc] 27)))
 go_enter Tryz.func16,Tryz.ntmps16
 go_wp2_with fail
 all_goals
  go_ret
  exact ⟨⟨_,rfl⟩,HF.out⟩
end Go.Proofs.YtcfblkkpclfmaaaGreat
namespace Go.Proofs.YtcfblkkpclfmaaaGreat
open Go.RowKit
theorem bits_and_u64 (a b:Nat) (ha:a<2 ^ 64) (hb:b<2 ^ 64):bits .and .u64 (a:Int) (b:Int)=((a &&& b:Nat):Int):=by
 have h1:(BitVec.ofInt 64 (a:Int)).toNat=a:=by
  rw [BitVec.ofInt_natCast,BitVec.toNat_ofNat];exact Nat.mod_eq_of_lt ha
 have h2:(BitVec.ofInt 64 (b:Int)).toNat=b:=by
  rw [BitVec.ofInt_natCast,BitVec.toNat_ofNat];exact Nat.mod_eq_of_lt hb
 show IntKind.u64.wrap ((BitVec.ofInt 64 (a:Int) &&& BitVec.ofInt 64 (b:Int)).toNat:Int)=_
 rw [BitVec.toNat_and,h1,h2]
 have:a &&& b<2 ^ 64:=Nat.lt_of_le_of_lt Nat.and_le_left ha
 exact wrap_u64_nat _ this
theorem and_low (a j:Nat) (ha:a<18446744073709551616) (hj:j≤60):bits .and .u64 (a:Int) ((2 ^ j-1:Nat):Int)=((a % 2 ^ j:Nat):Int):=by
 have hp:2 ^ j≤2 ^ 60:=Nat.pow_le_pow_right (by omega) hj
 have hq:2 ^ j-1<2 ^ 64:=by
  have:(2:Nat) ^ 60<2 ^ 64:=by decide
  omega
 rw [bits_and_u64 a (2 ^ j-1) ha hq,Nat.and_two_pow_sub_one_eq_mod]
set_option maxRecDepth 20000 in
set_option maxHeartbeats 2000000 in
theorem specRight_calls (k n:Nat) (hk:k≤10) (hn:n<2 ^ 64) (w:World):Calls Tryz.prog 46 #[.int .u8 k,.int .u64 n] w fun e w'=>(∃ r,e=.returned (.bool r)∧(r=true→OkNum k n))∧w=w':=by
 have HS:=Hd (fun w=>specSize_calls k hk w)
 have hn2:n<18446744073709551616:=hn
 have hn3:n<2 ^ (8*numSize ((10:Nat):Int)):=hn
 clear hn
 rcases kind11 hk with rfl | rfl | rfl | rfl | rfl | rfl | rfl | rfl | rfl | rfl | rfl
 ·go_enter Tryz.func46,Tryz.ntmps46
  go_wp2_with fail
  go_ret
  refine ⟨⟨_,rfl,fun h=>?_⟩,rfl⟩
  have h1:(n:Int)≤1:=by simpa using h
  exact ⟨by omega,by show n<2 ^ 8;omega,fun _=>by omega,fun h=>by omega,fun h=>by omega⟩
 ·go_enter Tryz.func46,Tryz.ntmps46
  go_wp2_with fail
  refine (HS.out _).mono ?_
  rintro e w' ⟨rfl,rfl⟩
  have e1:((numSize ((1:Nat):Int):Nat):Int)=1:=rfl
  rw [e1]
  go_wp2_with fail
  refine (HS.out _).mono ?_
  rintro e w' ⟨rfl,rfl⟩
  rw [e1]
  go_wp2_with fail
  go_ret
  refine ⟨⟨_,rfl,fun h=>?_⟩,rfl⟩
  have h1:(n:Int)<256:=by simpa using h
  exact ⟨by omega,by show n<2 ^ 8;omega,fun h=>by omega,fun h=>by omega,fun h=>by omega⟩
 ·go_enter Tryz.func46,Tryz.ntmps46
  go_wp2_with fail
  refine (HS.out _).mono ?_
  rintro e w' ⟨rfl,rfl⟩
  have e1:((numSize ((2:Nat):Int):Nat):Int)=1:=rfl
  rw [e1]
  go_wp2_with fail
  refine (HS.out _).mono ?_
  rintro e w' ⟨rfl,rfl⟩
  rw [e1]
  go_wp2_with fail
  go_ret
  refine ⟨⟨_,rfl,fun h=>?_⟩,rfl⟩
  have h1:(n:Int)<256:=by simpa using h
  exact ⟨by omega,by show n<2 ^ 8;omega,fun h=>by omega,fun h=>by omega,fun h=>by omega⟩
 ·go_enter Tryz.func46,Tryz.ntmps46
  go_wp2_with fail
  refine (HS.out _).mono ?_
  rintro e w' ⟨rfl,rfl⟩
  have e1:((numSize ((3:Nat):Int):Nat):Int)=2:=rfl
  rw [e1]
  go_wp2_with fail
  refine (HS.out _).mono ?_
  rintro e w' ⟨rfl,rfl⟩
  rw [e1]
  go_wp2_with fail
  go_ret
  refine ⟨⟨_,rfl,fun h=>?_⟩,rfl⟩
  have h1:(n:Int)<65536:=by simpa using h
  exact ⟨by omega,by show n<2 ^ 16;omega,fun h=>by omega,fun h=>by omega,fun h=>by omega⟩
 ·go_enter Tryz.func46,Tryz.ntmps46
  go_wp2_with fail
  refine (HS.out _).mono ?_
  rintro e w' ⟨rfl,rfl⟩
  have e1:((numSize ((4:Nat):Int):Nat):Int)=2:=rfl
  rw [e1]
  go_wp2_with fail
  refine (HS.out _).mono ?_
  rintro e w' ⟨rfl,rfl⟩
  rw [e1]
  go_wp2_with fail
  go_ret
  refine ⟨⟨_,rfl,fun h=>?_⟩,rfl⟩
  have h1:(n:Int)<65536:=by simpa using h
  exact ⟨by omega,by show n<2 ^ 16;omega,fun h=>by omega,fun h=>by omega,fun h=>by omega⟩
 ·go_enter Tryz.func46,Tryz.ntmps46
  go_wp2_with fail
  refine (HS.out _).mono ?_
  rintro e w' ⟨rfl,rfl⟩
  have e1:((numSize ((5:Nat):Int):Nat):Int)=4:=rfl
  rw [e1]
  go_wp2_with fail
  refine (HS.out _).mono ?_
  rintro e w' ⟨rfl,rfl⟩
  rw [e1]
  go_wp2_with fail
  go_ret
  refine ⟨⟨_,rfl,fun h=>?_⟩,rfl⟩
  have h1:(n:Int)<4294967296:=by simpa using h
  exact ⟨by omega,by show n<2 ^ 32;omega,fun h=>by omega,fun h=>by omega,fun h=>by omega⟩
 ·go_enter Tryz.func46,Tryz.ntmps46
  go_wp2_with fail
  refine (HS.out _).mono ?_
  rintro e w' ⟨rfl,rfl⟩
  have e1:((numSize ((6:Nat):Int):Nat):Int)=4:=rfl
  rw [e1]
  go_wp2_with fail
  refine (HS.out _).mono ?_
  rintro e w' ⟨rfl,rfl⟩
  rw [e1]
  go_wp2_with fail
  go_ret
  refine ⟨⟨_,rfl,fun h=>?_⟩,rfl⟩
  have h1:(n:Int)<4294967296:=by simpa using h
  exact ⟨by omega,by show n<2 ^ 32;omega,fun h=>by omega,fun h=>by omega,fun h=>by omega⟩
 ·go_enter Tryz.func46,Tryz.ntmps46
  go_wp2_with fail
  refine (HS.out _).mono ?_
  rintro e w' ⟨rfl,rfl⟩
  have e1:((numSize ((7:Nat):Int):Nat):Int)=8:=rfl
  rw [e1]
  go_wp2_with fail
  go_ret
  refine ⟨⟨_,rfl,fun h=>?_⟩,rfl⟩
  have h1:n<18446744073709551616:=by exact hn2
  exact ⟨by omega,by show n<2 ^ 64;omega,fun h=>by omega,fun h=>by omega,fun h=>by omega⟩
 ·go_enter Tryz.func46,Tryz.ntmps46
  go_wp2_with fail
  refine (HS.out _).mono ?_
  rintro e w' ⟨rfl,rfl⟩
  have e1:((numSize ((8:Nat):Int):Nat):Int)=8:=rfl
  rw [e1]
  go_wp2_with fail
  go_ret
  refine ⟨⟨_,rfl,fun h=>?_⟩,rfl⟩
  have h1:n<18446744073709551616:=by exact hn2
  exact ⟨by omega,by show n<2 ^ 64;omega,fun h=>by omega,fun h=>by omega,fun h=>by omega⟩
 ·have e1:bits .and .u64 ((n:Int) / 8388608) 255=(((n / 8388608) % 256:Nat):Int):=by
   have:=and_low (n / 8388608) 8 (by omega) (by omega)
   simpa using this
  have e2:bits .and .u64 (n:Int) 8388607=((n % 8388608:Nat):Int):=by
   have:=and_low n 23 (by omega) (by omega)
   simpa using this
  have HE1:=Hd e1
  have HE2:=Hd e2
  clear e1 e2
  go_enter Tryz.func46,Tryz.ntmps46
  go_upto_region 5 with fail
  generalize hM:(4294967296:Int)=M
  have HM:=Hd hM
  clear hM
  by_cases h32:(n:Int)<M
  ·go_wp2_with fail
   all_goals
    go_ret
    refine ⟨⟨_,rfl,fun h=>?_⟩,rfl⟩
    have hM:=HM.out
    have e1:=HE1.out
    have e2:=HE2.out
    have key:n<4294967296∧(n / 8388608 % 256=255→n % 8388608=0):=by
     refine ⟨by omega,fun h255=>?_⟩
     rename_i hc
     first
      | (exfalso;rw [e1] at hc;omega)
      | (rw [e2] at h;simp at h;omega)
    exact ⟨by omega,by show n<2 ^ 32;omega,fun h=>by omega,fun _=>by show n % 2147483648≤2139095040;omega,fun h=>by omega⟩
  ·go_wp2_with fail
   go_ret
   exact ⟨.inl rfl,rfl⟩
 ·have e1:bits .and .u64 ((n:Int) / 4503599627370496) 2047=(((n / 4503599627370496) % 2048:Nat):Int):=by
   have:=and_low (n / 4503599627370496) 11 (by omega) (by omega)
   simpa using this
  have e2:bits .and .u64 (n:Int) 4503599627370495=((n % 4503599627370496:Nat):Int):=by
   have:=and_low n 52 (by omega) (by omega)
   simpa using this
  have HE1:=Hd e1
  have HE2:=Hd e2
  clear e1 e2
  go_enter Tryz.func46,Tryz.ntmps46
  go_wp2_with fail
  all_goals
   go_ret
   refine ⟨⟨_,rfl,fun h=>?_⟩,rfl⟩
   have e1:=HE1.out
   have e2:=HE2.out
   have key:n / 4503599627370496 % 2048=2047→n % 4503599627370496=0:=by
    intro h255
    rename_i hc
    first
     | (exfalso;rw [e1] at hc;omega)
     | (rw [e2] at h;simp at h;omega)
   exact ⟨by omega,hn3,fun h=>by omega,fun h=>by omega,fun _=>by show n % 9223372036854775808≤9218868437227405312;omega⟩
end Go.Proofs.YtcfblkkpclfmaaaGreat
