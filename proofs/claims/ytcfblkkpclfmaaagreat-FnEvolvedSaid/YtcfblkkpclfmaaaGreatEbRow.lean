/- Part 46 of the proof of FnEvolved; no condition. -/
import Derived.Test.YtcfblkkpclfmaaaGreatRows
import Derived.Test.YtcfblkkpclfmaaaGreatEb44
import Derived.Test.YtcfblkkpclfmaaaGreatEb45
import Derived.ProofKit
import Derived.OpenShut
import Derived.ShutString
import Derived.ChangeOld
import Derived.Below
set_option linter.unusedVariables false
set_option linter.unusedSimpArgs false
set_option maxRecDepth 100000
set_option maxHeartbeats 16000000
namespace Go.Proofs.YtcfblkkpclfmaaaGreat.fnEvolved
open Go.ChangeShapes Go.WideShapes Go.ChangeAt Go.RowKit
open Go.ChangeMaps (open_string shut_string)
theorem own:ownKnob Tryz.prog.godebug=none:=by kernel_rfl
theorem laidOut:laidOutB Tryz.prog=true:=by kernel_rfl
theorem lifted(os:Os)(started:os.Started)(H:Type)(enc:TypeId × Value->H):
  ReturnsInHanded {} Tryz.checked os 9 .any (Rows.fnEvolvedSpec.pre6 enc Tryz.prog Tryz.f9 Rows.fnEvolvedRow.domain false) (Rows.fnEvolvedSpec.post enc Tryz.prog Tryz.f9 false true false false):=by
 refine returnsInHanded_of_change (C:=Tryz.checked) own started kr Tryz.func9
  (ChangeSpec.witness6 (enc:=enc) (C:=Tryz.checked) false ⟨#[],#[.agg #[.int .u8 0,.int .u8 0,.int .u64 0,.string ByteArray.empty,.slice none 0 0,.slice none 0 0,.slice none 0 0],.agg #[.int .i64 0,.string ByteArray.empty,.bool false],.int .u8 0,.int .u8 0],[]⟩ 8 kr kr kr kr) ?_
 intro W base args ds gs before hval0 hW hcnd _;have hval:∀(j:Nat) t v,Tryz.f9.params[j]?=some t->args[j]?=some v->Value.okWide Tryz.prog W .any base t v:=hval0;have hW':=hW;obtain⟨p,q,hA0,hV,rfl,hfz,hnd⟩:=hW;have hA:DataW.TrodAll enc Tryz.prog W 0 (λ_=>true) true Tryz.f9.params.toList args.toList ds p:=hA0;rw[Tryz.params9] at hA hval;obtain⟨v0,vs0,d0,ds0,p0,q0,hargs,rfl,rfl,h0,r0⟩:=trodAll_cons hA;obtain⟨v1,vs1,d1,ds1,p1,q1,rfl,rfl,rfl,h1,r1⟩:=trodAll_cons r0;obtain⟨v2,vs2,d2,ds2,p2,q2,rfl,rfl,rfl,h2,r2⟩:=trodAll_cons r1;obtain⟨v3,vs3,d3,ds3,p3,q3,rfl,rfl,rfl,h3,r3⟩:=trodAll_cons r2;obtain⟨rfl,rfl,rfl⟩:=trodAll_nil r3;obtain rfl:args=#[v0,v1,v2,v3]:=by cases args;simp_all
 obtain⟨rfl,rfl⟩:=trodVars_none hV;obtain⟨c0,rfl,hc0⟩:=okWide_struct Tryz.underlying27 (hval 0 27 v0 rfl rfl);obtain⟨l0⟩:=c0;have k0:=h0;have lt0:∀x∈p0,x.block<W.heap.size:=by obtain⟨m,hm⟩:=k0;exact DataW.trod_lt m _ _ _ hm
 obtain⟨fuel0,hf0⟩:=h0;obtain⟨z0,w0⟩:=val_of fuel0 l0 _ hf0;obtain⟨c1,rfl,hc1⟩:=okWide_struct Tryz.underlying29 (hval 1 29 v1 rfl rfl);obtain⟨l1⟩:=c1;have k1:=h1;have lt1:∀x∈p1,x.block<W.heap.size:=by obtain⟨m,hm⟩:=k1;exact DataW.trod_lt m _ _ _ hm
 obtain⟨fuel1,hf1⟩:=h1;obtain⟨sz1,id1,sh1,e1⟩:=opt_of (cs:=l1) hf1;subst e1;obtain⟨a2,rfl,rfl,rfl,w2⟩:=open_int Tryz.underlying5 (hval 2 5 v2 rfl rfl) h2;have b2:=bounds_u8 w2;obtain⟨n2,rfl⟩:=Int.eq_ofNat_of_zero_le b2.1;obtain⟨a3,rfl,rfl,rfl,w3⟩:=open_int Tryz.underlying5 (hval 3 5 v3 rfl rfl) h3;have b3:=bounds_u8 w3;obtain⟨n3,rfl⟩:=Int.eq_ofNat_of_zero_le b3.1;clear hA0 hval0;refine (FnEvolved_walk z0 l0 sz1 id1 sh1 n2 (by omega) n3 (by omega) W w0).mono λe W' ⟨he,bel⟩=>?_;subst he;exact⟨_,rfl,_,_,_,[],_,[],hW',trodAll_mk1 (shut_bool Tryz.underlying4 _),(trodAll_cons_mk (Below.trod laidOut kr (of_decide_eq_true kr) k0 bel lt0) (trodAll_cons_mk (Below.trod laidOut kr (of_decide_eq_true kr) k1 bel lt1) (trodAll_cons_mk (shut_int Tryz.underlying5 w2) (trodAll_cons_mk (shut_int Tryz.underlying5 w3) trodAll_mk0)))),rfl,bel.frame _,λh=>by cases h⟩
theorem over:Rows.fnEvolvedRow.holds Tryz.pinned (OpenSpec.ofChange Rows.fnEvolvedSpec) :=
 OpenClaim.holds_of_wide 9 Tryz.f9 rfl rfl rfl rfl rfl rfl rfl ⟨rfl,rfl,rfl,rfl,rfl⟩ rfl rfl rfl rfl rfl kr Tryz.func9 kr
  (of_decide_eq_true kr) (by unfold Func.isWrapper;first|(rw[if_pos (by decide +kernel)];kernel_rfl)|(rw[if_neg (by decide +kernel)];exact⟨rfl,rfl⟩))
  (λos started H enc _=>lifted os started H enc)
theorem proved:Rows.FnEvolvedSaid:=over
#print axioms proved
end Go.Proofs.YtcfblkkpclfmaaaGreat.fnEvolved
