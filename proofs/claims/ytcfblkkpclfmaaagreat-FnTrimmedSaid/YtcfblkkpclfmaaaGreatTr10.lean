/- Part 10 of the proof of FnTrimmed (PlaceDies). No condition is laid on the statement. -/
import Derived.Test.YtcfblkkpclfmaaaGreatTr09
set_option linter.unusedVariables false
set_option linter.unusedSimpArgs false
namespace Go.Proofs.YtcfblkkpclfmaaaGreat
open Go.RowKit
set_option maxHeartbeats 2000000 in
theorem PlaceUint32_dies (b Y:Nat) (r:BRest) (room least:Nat) (bytes:List UInt8) (c:Array Value) (x:Int) (w:World) (h:BB w b Y r room least bytes c) (hr:room<4) :
  Calls Tryz.prog 148 #[.pointer (some ⟨b,0,none⟩),.int .u32 x] w (Falls2 (fun k=>k=b∨k=Y) w):=by
 have hlim:=h.lim
 obtain ⟨q,hq⟩:∃ q:Int,q=(((room:Nat):Int)-4) % 4294967296:=⟨_,rfl⟩
 obtain ⟨L,hL⟩:∃ L,L=room+bytes.length:=⟨_,rfl⟩
 obtain ⟨cap,hcap⟩:∃ cap,cap=c.size:=⟨_,rfl⟩
 obtain ⟨fu,fv,fn,hsl⟩:=run_slice_from_out' (P:=Tryz.prog) 81 (some ⟨Y,0,none⟩) L cap .u32 q Tryz.underlying81 (.inr (by omega))
 have hc1:=heap_setCell_same h.hb 5 (.int .u32 q)
 have c5:w.cell? ⟨b,5,none⟩=some (.int .u32 room):=by rw [cell_of h.hb];rfl
 have f5:=frozen_of h.hb 5
 have d0:(w.setCell ⟨b,5,none⟩ (.int .u32 q)).cell? ⟨b,0,none⟩=some (.slice (some ⟨Y,0,none⟩) L cap):=by rw [cell_of hc1,hL,hcap];rfl
 have d5:(w.setCell ⟨b,5,none⟩ (.int .u32 q)).cell? ⟨b,5,none⟩=some (.int .u32 q):=by rw [cell_of hc1];rfl
 have hF:Fr (fun k=>k=b∨k=Y) w (w.setCell ⟨b,5,none⟩ (.int .u32 q)):=(Fr.refl _ w).setCell (fun _=>.inl rfl) _
 have HF:=Hd hF
 have hq2:=hq.symm
 clear h hc1 hlim hr hL hcap hF hq
 go_enter Tryz.func148,Tryz.ntmps148
 go_wp2_with fail
 clear hq2
 generalize w.setCell ⟨b,5,none⟩ (.int .u32 q)=w1 at *
 refine wp_region_held_drew (S:=fun w'=>w'.cell? ⟨b,0,none⟩=some (.slice (some ⟨Y,0,none⟩) L cap)∧w'.cell? ⟨b,5,none⟩=some (.int .u32 q)∧∃ k,w'=w1.drewN k) (by kernel_rfl) ⟨d0,d5,1,rfl⟩ (fun hHeld=>?_)
 refine wpAnyH_take (i:=0) (v:=.pointer (some ⟨b,0,none⟩)) rfl (by kernel_rfl) (by kernel_rfl) (by kernel_rfl) (fun _ _ _ h=>h) (Or.inl ⟨by rfl,?_⟩) (by assumption) ?_
 ·rintro _ ⟨h0,h5,n,rfl⟩;go_simp
 simp only [Act.put,zA,zB,zC]
 refine wpAnyH_take (i:=1) (v:=.pointer (some ⟨b,0,none⟩)) rfl (by kernel_rfl) (by kernel_rfl) (by kernel_rfl) (fun _ _ _ h=>h) (Or.inl ⟨by rfl,?_⟩) (by assumption) ?_
 ·rintro _ ⟨h0,h5,n,rfl⟩;go_simp
 simp only [Act.put,zA,zB,zC]
 refine wpAnyH_take (i:=2) (v:=.pointer (some ⟨b,0,none⟩)) rfl (by kernel_rfl) (by kernel_rfl) (by kernel_rfl) (fun _ _ _ h=>h) (Or.inl ⟨by rfl,?_⟩) (by assumption) ?_
 ·rintro _ ⟨h0,h5,n,rfl⟩;go_simp
 simp only [Act.put,zA,zB,zC]
 refine wpAnyH_take (i:=3) (v:=.slice (some ⟨Y,0,none⟩) L cap) rfl (by kernel_rfl) (by kernel_rfl) (by kernel_rfl) (fun _ _ _ h=>h) (Or.inl ⟨by rfl,?_⟩) (by assumption) ?_
 ·rintro _ ⟨h0,h5,n,rfl⟩;go_simp
 simp only [Act.put,zA,zB,zC]
 refine wpAnyH_take (i:=4) (v:=.pointer (some ⟨b,0,none⟩)) rfl (by kernel_rfl) (by kernel_rfl) (by kernel_rfl) (fun _ _ _ h=>h) (Or.inl ⟨by rfl,?_⟩) (by assumption) ?_
 ·rintro _ ⟨h0,h5,n,rfl⟩;go_simp
 simp only [Act.put,zA,zB,zC]
 refine wpAnyH_take (i:=5) (v:=.pointer (some ⟨b,0,none⟩)) rfl (by kernel_rfl) (by kernel_rfl) (by kernel_rfl) (fun _ _ _ h=>h) (Or.inl ⟨by rfl,?_⟩) (by assumption) ?_
 ·rintro _ ⟨h0,h5,n,rfl⟩;go_simp
 simp only [Act.put,zA,zB,zC]
 refine wpAnyH_take (i:=6) (v:=.pointer (some ⟨b,5,none⟩)) rfl (by kernel_rfl) (by kernel_rfl) (by kernel_rfl) (fun _ _ _ h=>h) (Or.inl ⟨by rfl,?_⟩) (by assumption) ?_
 ·rintro _ ⟨h0,h5,n,rfl⟩;go_simp
 simp only [Act.put,zA,zB,zC]
 refine wpAnyH_take (i:=7) (v:=.int .u32 q) rfl (by kernel_rfl) (by kernel_rfl) (by kernel_rfl) (fun _ _ _ h=>h) (Or.inl ⟨by rfl,?_⟩) (by assumption) ?_
 ·rintro _ ⟨h0,h5,n,rfl⟩;go_simp
 simp only [Act.put,zA,zB,zC]
 refine wpAnyH_take (i:=9) (v:=.int .u32 x) rfl (by kernel_rfl) (by kernel_rfl) (by kernel_rfl) (fun _ _ _ h=>h) (Or.inl ⟨by rfl,?_⟩) (by assumption) ?_
 ·rintro _ ⟨h0,h5,n,rfl⟩;go_simp
 simp only [Act.put,zA,zB,zC]
 refine wpAnyH_ready (rs:=[8]) (by kernel_rfl) (by simp) ?_
 refine AllReadyH.cons rfl (fun K hK=>?_) AllReadyH.nil
 go_simp
 exact ⟨rfl,⟨_,_,rfl⟩,HF.out.drewN _⟩
set_option maxHeartbeats 2000000 in
theorem PlaceUOffsetT_dies (b Y:Nat) (r:BRest) (room least:Nat) (bytes:List UInt8) (c:Array Value) (x:Int) (w:World) (h:BB w b Y r room least bytes c) (hr:room<4) :
  Calls Tryz.prog 139 #[.pointer (some ⟨b,0,none⟩),.int .u32 x] w (Falls2 (fun k=>k=b∨k=Y) w):=by
 have hlim:=h.lim
 obtain ⟨q,hq⟩:∃ q:Int,q=(((room:Nat):Int)-4) % 4294967296:=⟨_,rfl⟩
 obtain ⟨L,hL⟩:∃ L,L=room+bytes.length:=⟨_,rfl⟩
 obtain ⟨cap,hcap⟩:∃ cap,cap=c.size:=⟨_,rfl⟩
 obtain ⟨fu,fv,fn,hsl⟩:=run_slice_from_out' (P:=Tryz.prog) 81 (some ⟨Y,0,none⟩) L cap .u32 q Tryz.underlying81 (.inr (by omega))
 have hc1:=heap_setCell_same h.hb 5 (.int .u32 q)
 have c5:w.cell? ⟨b,5,none⟩=some (.int .u32 room):=by rw [cell_of h.hb];rfl
 have f5:=frozen_of h.hb 5
 have d0:(w.setCell ⟨b,5,none⟩ (.int .u32 q)).cell? ⟨b,0,none⟩=some (.slice (some ⟨Y,0,none⟩) L cap):=by rw [cell_of hc1,hL,hcap];rfl
 have d5:(w.setCell ⟨b,5,none⟩ (.int .u32 q)).cell? ⟨b,5,none⟩=some (.int .u32 q):=by rw [cell_of hc1];rfl
 have hF:Fr (fun k=>k=b∨k=Y) w (w.setCell ⟨b,5,none⟩ (.int .u32 q)):=(Fr.refl _ w).setCell (fun _=>.inl rfl) _
 have HF:=Hd hF
 have hq2:=hq.symm
 clear h hc1 hlim hr hL hcap hF hq
 go_enter Tryz.func139,Tryz.ntmps139
 go_wp2_with fail
 clear hq2
 generalize w.setCell ⟨b,5,none⟩ (.int .u32 q)=w1 at *
 refine wp_region_held_drew (S:=fun w'=>w'.cell? ⟨b,0,none⟩=some (.slice (some ⟨Y,0,none⟩) L cap)∧w'.cell? ⟨b,5,none⟩=some (.int .u32 q)∧∃ k,w'=w1.drewN k) (by kernel_rfl) ⟨d0,d5,1,rfl⟩ (fun hHeld=>?_)
 refine wpAnyH_take (i:=0) (v:=.pointer (some ⟨b,0,none⟩)) rfl (by kernel_rfl) (by kernel_rfl) (by kernel_rfl) (fun _ _ _ h=>h) (Or.inl ⟨by rfl,?_⟩) (by assumption) ?_
 ·rintro _ ⟨h0,h5,n,rfl⟩;go_simp
 simp only [Act.put,zA,zB,zC]
 refine wpAnyH_take (i:=1) (v:=.pointer (some ⟨b,0,none⟩)) rfl (by kernel_rfl) (by kernel_rfl) (by kernel_rfl) (fun _ _ _ h=>h) (Or.inl ⟨by rfl,?_⟩) (by assumption) ?_
 ·rintro _ ⟨h0,h5,n,rfl⟩;go_simp
 simp only [Act.put,zA,zB,zC]
 refine wpAnyH_take (i:=2) (v:=.pointer (some ⟨b,0,none⟩)) rfl (by kernel_rfl) (by kernel_rfl) (by kernel_rfl) (fun _ _ _ h=>h) (Or.inl ⟨by rfl,?_⟩) (by assumption) ?_
 ·rintro _ ⟨h0,h5,n,rfl⟩;go_simp
 simp only [Act.put,zA,zB,zC]
 refine wpAnyH_take (i:=3) (v:=.slice (some ⟨Y,0,none⟩) L cap) rfl (by kernel_rfl) (by kernel_rfl) (by kernel_rfl) (fun _ _ _ h=>h) (Or.inl ⟨by rfl,?_⟩) (by assumption) ?_
 ·rintro _ ⟨h0,h5,n,rfl⟩;go_simp
 simp only [Act.put,zA,zB,zC]
 refine wpAnyH_take (i:=4) (v:=.pointer (some ⟨b,0,none⟩)) rfl (by kernel_rfl) (by kernel_rfl) (by kernel_rfl) (fun _ _ _ h=>h) (Or.inl ⟨by rfl,?_⟩) (by assumption) ?_
 ·rintro _ ⟨h0,h5,n,rfl⟩;go_simp
 simp only [Act.put,zA,zB,zC]
 refine wpAnyH_take (i:=5) (v:=.pointer (some ⟨b,0,none⟩)) rfl (by kernel_rfl) (by kernel_rfl) (by kernel_rfl) (fun _ _ _ h=>h) (Or.inl ⟨by rfl,?_⟩) (by assumption) ?_
 ·rintro _ ⟨h0,h5,n,rfl⟩;go_simp
 simp only [Act.put,zA,zB,zC]
 refine wpAnyH_take (i:=6) (v:=.pointer (some ⟨b,5,none⟩)) rfl (by kernel_rfl) (by kernel_rfl) (by kernel_rfl) (fun _ _ _ h=>h) (Or.inl ⟨by rfl,?_⟩) (by assumption) ?_
 ·rintro _ ⟨h0,h5,n,rfl⟩;go_simp
 simp only [Act.put,zA,zB,zC]
 refine wpAnyH_take (i:=7) (v:=.int .u32 q) rfl (by kernel_rfl) (by kernel_rfl) (by kernel_rfl) (fun _ _ _ h=>h) (Or.inl ⟨by rfl,?_⟩) (by assumption) ?_
 ·rintro _ ⟨h0,h5,n,rfl⟩;go_simp
 simp only [Act.put,zA,zB,zC]
 refine wpAnyH_take (i:=9) (v:=.int .u32 x) rfl (by kernel_rfl) (by kernel_rfl) (by kernel_rfl) (fun _ _ _ h=>h) (Or.inl ⟨by rfl,?_⟩) (by assumption) ?_
 ·rintro _ ⟨h0,h5,n,rfl⟩;go_simp
 simp only [Act.put,zA,zB,zC]
 refine wpAnyH_ready (rs:=[8]) (by kernel_rfl) (by simp) ?_
 refine AllReadyH.cons rfl (fun K hK=>?_) AllReadyH.nil
 go_simp
 exact ⟨rfl,⟨_,_,rfl⟩,HF.out.drewN _⟩
end Go.Proofs.YtcfblkkpclfmaaaGreat
