/- Contracts and laws that the last text joins. -/
import Derived.Test.YtbmdoinjkligiaaGreatM13
set_option maxRecDepth 100000
set_option maxHeartbeats 40000000
set_option linter.all false
namespace Go.Proofs.YtbmdoinjkligiaaGreat
open Tryz
open Lib(hid)
open Go.RowKit
variable{l:zu}{n pdel pend x:Nat}{us:zF->List Bytes}
theorem Jo{w:World}{I:zN}{D:vr}(h:kZ l w I D pend pdel us)(hD:D.ok)(hp:pend<=900)(hu:(us .auth).length<=500)(hx:qd l w x 257 I.t 419)(hn:n<256):
  Calls prog 273 #[ptr x,.int .u64 n] w λe w'=>e=.returned (.tuple #[])/\∃l',zB l w l' w'/\kZ l' w' I (D.put .auth (yh (D.get .auth) xH (VS n))) (pend+1) pdel (λc=>us c++if c=.auth then [xH]else []):=by
 have Hr:=h.bnd;have Sr:(Instr.makeSlice 75 (.int .i64 8) (.int .i64 8)).run prog w=_:=KV w 8 (by omega);obtain⟨W1,PW⟩:=zex (w.alloc (.cells (List.replicate 8 (Value.int .u8 0)).toArray 5));rw[<-PW]at Sr;have AZ:za w W1:=by rw[PW];exact(za.refl w).alloc _
 have Pv:W1.heap[w.heap.size]? =some (.cells (List.replicate 8 (Value.int .u8 0)).toArray 5 (0,0)):=by rw[PW];exact zg w _
 have sC:=hid (zbd hn Pv);have pi:∀w2 kv,za w w2->Bs w2.cell? xH kv->(∀j,kv.ownBlock=some j->w.heap.size<=j)->w2.heap[w.heap.size]? =some (.cells ((VS n).map ql).toArray 5 (0,0))->
   Calls prog 335 #[ptr I.t,zF.val .auth,kv,.slice (some ⟨w.heap.size,0,none⟩) 8 8] w2 λe w'=>e=.returned (.tuple #[])/\∃l',zB l w l' w'/\kZ l' w' I (D.put .auth (yh (D.get .auth) xH (VS n))) (pend+1) pdel (λc=>us c++if c=.auth then [xH]else []):=λw2 kv Hj hk hf hr=>by
  refine(Kt (h.new Hj) hD hp (b:=.auth) (k:=xH) (v:=VS n) hu (hk.im_of λj hj e=>by have:=hf j hj;have:=Hr j e;omega) ((Ww hr (by simp[VS]) (by omega)).im_of λj hj e=>by have:=Hr j e;simp only[Value.ownBlock,Option.some.injEq]at hj;omega) (by decide) (by decide) (by simp[VS])).mono ?_
  rintro e w' ⟨rfl,l',hs,hT⟩;exact⟨rfl,l',zB.newFirst Hr Hj hs,hT⟩
 have Hw:∀w1,za w w1->w1.cell? ⟨x,0,none⟩=some (.iface 257 (ptr I.t)):=λw1 h1=>(qS (h1.heap hx.2)).1;have rK:=hid pi;clear pi;have TY:=hid Hw;clear Hw;have HA:=hid (λW=>Qc W);have Hs:=hid AZ;have Hm:=ZM;clear h hD hx Hr PW Pv AZ;go_enter func273,ntmps273;go_wp2_with fail;refine sC.out.mono ?_;rintro e w2 ⟨rfl,Hq,ry⟩;have Hj:za w w2:=zq.trans Hs.out Hq λj hj e=>by omega
 have q0:=TY.out w2 Hj;have Pf:=hid Hj;clear Hj Hq;have RQ:x<w2.heap.size:=World.block_lt_of_cell? w2 _ q0;have Nn:=hid ry;clear ry;go_wp2_with fail;go_region_with (first|(go_at_call 215;refine(HA.out _).mono ?_;rintro e w3 ⟨rfl,rfl⟩)|(go_at_call 283;refine YN.mono ?_;rintro e w3 ⟨kv,rfl,ph,PX,Mj⟩;obtain⟨kp,kl,kc,rfl,_⟩:=PX.shape;have q3:w3.cell? ⟨x,0,none⟩=some (.iface 257 (ptr I.t)):=ph.le _ _ q0;have HK:=hid (And.intro (za.trans Pf.out (za.undrew ph)) (And.intro PX (And.intro Mj ((za.undrew ph).heap Nn.out))));clear ph PX Mj)|(go_at_call 335;refine(rK.out _ _ HK.out.1 HK.out.2.1 (λj hj=>Nat.le_trans Pf.out.size (HK.out.2.2.1 j hj)) HK.out.2.2.2).mono ?_;rintro e w4 ⟨rfl,h4⟩;have H4:=hid h4;clear h4))
 all_goals
  go_wp2;go_returns;exact⟨rfl,H4.out⟩
def DY(b:Bool):Bytes:=if b then [1]else [0]
theorem Ka{w:World}{I:zN}{D:vr}{b:Bool}(h:kZ l w I D pend pdel us)(hD:D.ok)(hp:pend<=900)(hu:(us .auth).length<=500)(hx:qd l w x 257 I.t 419):
  Calls prog 272 #[ptr x,.bool b] w λe w'=>e=.returned (.tuple #[])/\∃l',zB l w l' w'/\kZ l' w' I (D.put .auth (yh (D.get .auth) Qq (DY b))) (pend+1) pdel (λc=>us c++if c=.auth then [Qq]else []):=by
 have Hr:=h.bnd;have pi:∀w2 kv vv,za w w2->Bs w2.cell? Qq kv->(∀j,kv.ownBlock=some j->w.heap.size<=j)->Bs w2.cell? (DY b) vv->(∀j,vv.ownBlock=some j->w.heap.size<=j)->
   Calls prog 335 #[ptr I.t,zF.val .auth,kv,vv] w2 λe w'=>e=.returned (.tuple #[])/\∃l',zB l w l' w'/\kZ l' w' I (D.put .auth (yh (D.get .auth) Qq (DY b))) (pend+1) pdel (λc=>us c++if c=.auth then [Qq]else []):=λw2 kv vv Hj hk hf hv hvf=>by
  refine(Kt (h.new Hj) hD hp (b:=.auth) (k:=Qq) (v:=DY b) hu (hk.im_of λj hj e=>by have:=hf j hj;have:=Hr j e;omega) (hv.im_of λj hj e=>by have:=hvf j hj;have:=Hr j e;omega) (by decide) (by decide) (by unfold DY;split<;>decide)).mono ?_;rintro e w' ⟨rfl,l',hs,hT⟩;exact⟨rfl,l',zB.newFirst Hr Hj hs,hT⟩
 have q0:w.cell? ⟨x,0,none⟩=some (.iface 257 (ptr I.t)):=(qS hx.2).1;have rK:=hid pi;clear pi;have HA:=hid (λW=>Qc W);have HKE:=hid (λW=> @JK W);have RQ:x<w.heap.size:=World.block_lt_of_cell? w _ q0;have Hm:=ZM;clear h hD hx Hr;have Sr:∀(W:World),Bs (W.alloc (.cells #[.int .u8 (if b then 1 else 0)] 5)).cell? (DY b) (.slice (some ⟨W.heap.size,0,none⟩) 1 1):=λW=>by
  cases b
  ·exact xg (w:=W) (l:=[0]) (n:=1) rfl (by decide)
  ·exact xg (w:=W) (l:=[1]) (n:=1) rfl (by decide)
 have hA:∀w3 kv,za w.drew w3->Bs w3.cell? Qq kv->(∀j,kv.ownBlock=some j->w.drew.heap.size<=j)->Calls prog 335 #[ptr I.t,zF.val .auth,kv,.slice (some ⟨w3.heap.size,0,none⟩) 1 1] (w3.alloc (.cells #[.int .u8 (if b then 1 else 0)] 5)) λe w'=>e=.returned (.tuple #[])/\∃l',zB l w l' w'/\kZ l' w' I (D.put .auth (yh (D.get .auth) Qq (DY b))) (pend+1) pdel (λc=>us c++if c=.auth then [Qq]else []):=λw3 kv hn hk hf=>
  rK.out _ _ _ (zq.alloc (za.undrew hn) _) (hk.mono (za.le ((za.refl w3).alloc _))) hf (Sr w3) λj hj=>by
   have h1:w3.heap.size=j:=by simpa[Value.ownBlock]using hj
   have h2:=(za.undrew hn).size;omega
 have hB:∀w3 kv,za (w.alloc (.cells #[.int .u8 (if b then 1 else 0)] 5)).drew w3->Bs w3.cell? Qq kv->(∀j,kv.ownBlock=some j->(w.alloc (.cells #[.int .u8 (if b then 1 else 0)] 5)).drew.heap.size<=j)->Calls prog 335 #[ptr I.t,zF.val .auth,kv,.slice (some ⟨w.heap.size,0,none⟩) 1 1] w3 λe w'=>e=.returned (.tuple #[])/\∃l',zB l w l' w'/\kZ l' w' I (D.put .auth (yh (D.get .auth) Qq (DY b))) (pend+1) pdel (λc=>us c++if c=.auth then [Qq]else []):=λw3 kv hn hk hf=>
  rK.out _ _ _ (za.trans ((za.refl w).alloc _) (za.undrew hn)) hk (λj hj=>by
   have h1:=hf j hj;have h2:(w.alloc (.cells #[.int .u8 (if b then 1 else 0)] 5)).drew.heap.size=w.heap.size+1:=Array.size_push ..
   omega) ((Sr w).mono (za.le (za.undrew hn))) λj hj=>by
   have h1:w.heap.size=j:=by simpa[Value.ownBlock]using hj
   omega
 have ae:=hid hA;clear hA;have LM:=hid hB;clear hB;clear Sr rK;cases b
 case false=>
  simp only[Bool.false_eq_true,if_false]at ae LM;go_enter func272,ntmps272;go_wp2_with fail;go_region_with (first|(go_at_call 215;refine(HA.out _).mono ?_;rintro e w3 ⟨rfl,rfl⟩)|(go_at_call 281;refine(HKE.out _).mono ?_;rintro e w3 ⟨kv,rfl,ph,PX,Mj⟩;obtain⟨kp,kl,kc,rfl,_⟩:=PX.shape;have q3:w3.cell? ⟨x,0,none⟩=some (.iface 257 (ptr I.t)):=ph.le _ _ (by first|exact q0|exact za.le ((za.refl w).alloc _) _ _ q0);have Ot:x<w3.heap.size:=World.block_lt_of_cell? w3 _ q3;have lK:=hid ph;have LK:=hid PX;have eB:=hid Mj;clear ph PX Mj)|(go_at_call 335;first|((with_reducible refine(ae.out _ _ lK.out LK.out eB.out).mono ?_);rintro e w4 ⟨rfl,h4⟩;have H4:=hid h4;clear h4)|((with_reducible refine(LM.out _ _ lK.out LK.out eB.out).mono ?_);rintro e w4 ⟨rfl,h4⟩;have H4:=hid h4;clear h4)))
  all_goals
   go_wp2;go_returns;exact⟨rfl,H4.out⟩
 case true=>
  simp only[if_true]at ae LM;go_enter func272,ntmps272;go_wp2_with fail;go_region_with (first|(go_at_call 215;refine(HA.out _).mono ?_;rintro e w3 ⟨rfl,rfl⟩)|(go_at_call 281;refine(HKE.out _).mono ?_;rintro e w3 ⟨kv,rfl,ph,PX,Mj⟩;obtain⟨kp,kl,kc,rfl,_⟩:=PX.shape;have q3:w3.cell? ⟨x,0,none⟩=some (.iface 257 (ptr I.t)):=ph.le _ _ (by first|exact q0|exact za.le ((za.refl w).alloc _) _ _ q0);have Ot:x<w3.heap.size:=World.block_lt_of_cell? w3 _ q3;have lK:=hid ph;have LK:=hid PX;have eB:=hid Mj;clear ph PX Mj)|(go_at_call 335;first|((with_reducible refine(ae.out _ _ lK.out LK.out eB.out).mono ?_);rintro e w4 ⟨rfl,h4⟩;have H4:=hid h4;clear h4)|((with_reducible refine(LM.out _ _ lK.out LK.out eB.out).mono ?_);rintro e w4 ⟨rfl,h4⟩;have H4:=hid h4;clear h4)))
  all_goals
   go_wp2;go_returns;exact⟨rfl,H4.out⟩
end Go.Proofs.YtbmdoinjkligiaaGreat
