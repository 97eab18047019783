/- Part 8 of the proof of FnEvolved; no condition. -/
import Derived.Test.YtcfblkkpclfmaaaGreatEb07
set_option linter.unusedVariables false
set_option linter.unusedSimpArgs false
set_option maxRecDepth 100000
set_option maxHeartbeats 16000000
namespace Go.Proofs.YtcfblkkpclfmaaaGreat
open Go.RowKit
theorem PlaceUint32_dies(b Y:Nat)(r:BRest)(room least:Nat)(bytes:List UInt8)(c:Array Value)(x:Int)(w:World)(h:BB w b Y r room least bytes c)(hr:room<4):
  Calls Tryz.prog 148 #[.pointer (some ⟨b,0,none⟩),.int .u32 x] w (Falls2 (λk=>k=b\/k=Y) w):=by
 have hlim:=h.lim;obtain⟨q,hq⟩:∃q:Int,q=(((room:Nat):Int)-4)%4294967296:=⟨_,rfl⟩;obtain⟨L,hL⟩:=exA (room+bytes.length);obtain⟨cap,hcap⟩:=exA (c.size);obtain⟨fu,fv,fn,hsl⟩:=run_slice_from_out' (P:=Tryz.prog) 81 (some ⟨Y,0,none⟩) L cap .u32 q Tryz.underlying81 (.inr (by omega));have hc1:=heap_setCell_same h.hb 5 (.int .u32 q);have c5:w.cell? ⟨b,5,none⟩=some (.int .u32 room):=by rw[cell_of h.hb];rfl
 have f5:=frozen_of h.hb 5;have d0:(w.setCell ⟨b,5,none⟩ (.int .u32 q)).cell? ⟨b,0,none⟩=some (.slice (some ⟨Y,0,none⟩) L cap):=by rw[cell_of hc1,hL,hcap];rfl
 have d5:(w.setCell ⟨b,5,none⟩ (.int .u32 q)).cell? ⟨b,5,none⟩=some (.int .u32 q):=by rw[cell_of hc1];rfl
 have hF:Fr (λk=>k=b\/k=Y) w (w.setCell ⟨b,5,none⟩ (.int .u32 q)):=(Fr.refl _ w).setCell (λ_=>.inl rfl) _;have HF:=Hd hF;have hq2:=hq.symm;clear h hc1 hlim hr hL hcap hF hq;go_enter Tryz.func148,Tryz.ntmps148;go_wp2_with fail;clear hq2;generalize w.setCell ⟨b,5,none⟩ (.int .u32 q)=w1 at *;refine wp_region_held_drew (S:=λw'=>w'.cell? ⟨b,0,none⟩=some (.slice (some ⟨Y,0,none⟩) L cap)/\w'.cell? ⟨b,5,none⟩=some (.int .u32 q)/\∃k,w'=w1.drewN k) kr ⟨d0,d5,1,rfl⟩ (λhHeld=>?_);refine tk 0 (.pointer (some ⟨b,0,none⟩)) rfl ?_ ?_
 ·rintro _ ⟨h0,h5,n,rfl⟩;go_simp
 simp only[Act.put,zA,zB,zC];refine tk 1 (.pointer (some ⟨b,0,none⟩)) rfl ?_ ?_
 ·rintro _ ⟨h0,h5,n,rfl⟩;go_simp
 simp only[Act.put,zA,zB,zC];refine tk 2 (.pointer (some ⟨b,0,none⟩)) rfl ?_ ?_
 ·rintro _ ⟨h0,h5,n,rfl⟩;go_simp
 simp only[Act.put,zA,zB,zC];refine tk 3 (.slice (some ⟨Y,0,none⟩) L cap) rfl ?_ ?_
 ·rintro _ ⟨h0,h5,n,rfl⟩;go_simp
 simp only[Act.put,zA,zB,zC];refine tk 4 (.pointer (some ⟨b,0,none⟩)) rfl ?_ ?_
 ·rintro _ ⟨h0,h5,n,rfl⟩;go_simp
 simp only[Act.put,zA,zB,zC];refine tk 5 (.pointer (some ⟨b,0,none⟩)) rfl ?_ ?_
 ·rintro _ ⟨h0,h5,n,rfl⟩;go_simp
 simp only[Act.put,zA,zB,zC];refine tk 6 (.pointer (some ⟨b,5,none⟩)) rfl ?_ ?_
 ·rintro _ ⟨h0,h5,n,rfl⟩;go_simp
 simp only[Act.put,zA,zB,zC];refine tk 7 (.int .u32 q) rfl ?_ ?_
 ·rintro _ ⟨h0,h5,n,rfl⟩;go_simp
 simp only[Act.put,zA,zB,zC];refine tk 9 (.int .u32 x) rfl ?_ ?_
 ·rintro _ ⟨h0,h5,n,rfl⟩;go_simp
 simp only[Act.put,zA,zB,zC];refine rd 8 rfl λK hK=>?_;go_simp;exact⟨rfl,⟨_,_,rfl⟩,HF.out.drewN _⟩
theorem PlaceUOffsetT_dies(b Y:Nat)(r:BRest)(room least:Nat)(bytes:List UInt8)(c:Array Value)(x:Int)(w:World)(h:BB w b Y r room least bytes c)(hr:room<4):
  Calls Tryz.prog 139 #[.pointer (some ⟨b,0,none⟩),.int .u32 x] w (Falls2 (λk=>k=b\/k=Y) w):=by
 have hlim:=h.lim;obtain⟨q,hq⟩:∃q:Int,q=(((room:Nat):Int)-4)%4294967296:=⟨_,rfl⟩;obtain⟨L,hL⟩:=exA (room+bytes.length);obtain⟨cap,hcap⟩:=exA (c.size);obtain⟨fu,fv,fn,hsl⟩:=run_slice_from_out' (P:=Tryz.prog) 81 (some ⟨Y,0,none⟩) L cap .u32 q Tryz.underlying81 (.inr (by omega));have hc1:=heap_setCell_same h.hb 5 (.int .u32 q);have c5:w.cell? ⟨b,5,none⟩=some (.int .u32 room):=by rw[cell_of h.hb];rfl
 have f5:=frozen_of h.hb 5;have d0:(w.setCell ⟨b,5,none⟩ (.int .u32 q)).cell? ⟨b,0,none⟩=some (.slice (some ⟨Y,0,none⟩) L cap):=by rw[cell_of hc1,hL,hcap];rfl
 have d5:(w.setCell ⟨b,5,none⟩ (.int .u32 q)).cell? ⟨b,5,none⟩=some (.int .u32 q):=by rw[cell_of hc1];rfl
 have hF:Fr (λk=>k=b\/k=Y) w (w.setCell ⟨b,5,none⟩ (.int .u32 q)):=(Fr.refl _ w).setCell (λ_=>.inl rfl) _;have HF:=Hd hF;have hq2:=hq.symm;clear h hc1 hlim hr hL hcap hF hq;go_enter Tryz.func139,Tryz.ntmps139;go_wp2_with fail;clear hq2;generalize w.setCell ⟨b,5,none⟩ (.int .u32 q)=w1 at *;refine wp_region_held_drew (S:=λw'=>w'.cell? ⟨b,0,none⟩=some (.slice (some ⟨Y,0,none⟩) L cap)/\w'.cell? ⟨b,5,none⟩=some (.int .u32 q)/\∃k,w'=w1.drewN k) kr ⟨d0,d5,1,rfl⟩ (λhHeld=>?_);refine tk 0 (.pointer (some ⟨b,0,none⟩)) rfl ?_ ?_
 ·rintro _ ⟨h0,h5,n,rfl⟩;go_simp
 simp only[Act.put,zA,zB,zC];refine tk 1 (.pointer (some ⟨b,0,none⟩)) rfl ?_ ?_
 ·rintro _ ⟨h0,h5,n,rfl⟩;go_simp
 simp only[Act.put,zA,zB,zC];refine tk 2 (.pointer (some ⟨b,0,none⟩)) rfl ?_ ?_
 ·rintro _ ⟨h0,h5,n,rfl⟩;go_simp
 simp only[Act.put,zA,zB,zC];refine tk 3 (.slice (some ⟨Y,0,none⟩) L cap) rfl ?_ ?_
 ·rintro _ ⟨h0,h5,n,rfl⟩;go_simp
 simp only[Act.put,zA,zB,zC];refine tk 4 (.pointer (some ⟨b,0,none⟩)) rfl ?_ ?_
 ·rintro _ ⟨h0,h5,n,rfl⟩;go_simp
 simp only[Act.put,zA,zB,zC];refine tk 5 (.pointer (some ⟨b,0,none⟩)) rfl ?_ ?_
 ·rintro _ ⟨h0,h5,n,rfl⟩;go_simp
 simp only[Act.put,zA,zB,zC];refine tk 6 (.pointer (some ⟨b,5,none⟩)) rfl ?_ ?_
 ·rintro _ ⟨h0,h5,n,rfl⟩;go_simp
 simp only[Act.put,zA,zB,zC];refine tk 7 (.int .u32 q) rfl ?_ ?_
 ·rintro _ ⟨h0,h5,n,rfl⟩;go_simp
 simp only[Act.put,zA,zB,zC];refine tk 9 (.int .u32 x) rfl ?_ ?_
 ·rintro _ ⟨h0,h5,n,rfl⟩;go_simp
 simp only[Act.put,zA,zB,zC];refine rd 8 rfl λK hK=>?_;go_simp;exact⟨rfl,⟨_,_,rfl⟩,HF.out.drewN _⟩
end Go.Proofs.YtcfblkkpclfmaaaGreat
