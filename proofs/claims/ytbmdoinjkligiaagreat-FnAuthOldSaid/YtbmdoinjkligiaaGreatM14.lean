/- Contracts and laws that the last text joins. -/
import Derived.Test.YtbmdoinjkligiaaGreatM11
set_option maxRecDepth 100000
set_option maxHeartbeats 40000000
set_option linter.all false
namespace Go.Proofs.YtbmdoinjkligiaaGreat
open Tryz
open Lib(hid)
open Go.RowKit
variable{l:zu}{n pdel pend x:Nat}{us:zF->List Bytes}
theorem Js{w:World}{I:zN}{D:vu}(h:k7 l w I D pend pdel us)(hD:D.ok)(hp:pend<=900)(hu:(us .auth).length<=500)(hx:qe l w x 257 I.t 419)(hn:n<256):
  Calls prog 273 #[ptr x,.int .u64 n] w λe w'=>e=.returned (.tuple #[])/\∃l',zB l w l' w'/\k7 l' w' I (D.put .auth (yj (D.get .auth) xK (VW n))) (pend+1) pdel (λc=>us c++if c=.auth then [xK]else []):=by
 have hbnd:=h.bnd;have hmk:(Instr.makeSlice 75 (.int .i64 8) (.int .i64 8)).run prog w=_:=K0 w 8 (by omega);obtain⟨W1,hW1⟩:=zex (w.alloc (.cells (List.replicate 8 (Value.int .u8 0)).toArray 5));rw[<-hW1]at hmk;have hN1:za w W1:=by rw[hW1];exact(za.refl w).alloc _
 have hr1:W1.heap[w.heap.size]? =some (.cells (List.replicate 8 (Value.int .u8 0)).toArray 5 (0,0)):=by rw[hW1];exact zg w _
 have HPU:=hid (zbF hn hr1);have hput:∀w2 kv,za w w2->Bs w2.cell? xK kv->(∀j,kv.ownBlock=some j->w.heap.size<=j)->w2.heap[w.heap.size]? =some (.cells ((VW n).map qr).toArray 5 (0,0))->
   Calls prog 335 #[ptr I.t,zF.val .auth,kv,.slice (some ⟨w.heap.size,0,none⟩) 8 8] w2 λe w'=>e=.returned (.tuple #[])/\∃l',zB l w l' w'/\k7 l' w' I (D.put .auth (yj (D.get .auth) xK (VW n))) (pend+1) pdel (λc=>us c++if c=.auth then [xK]else []):=λw2 kv hn2 hk hf hr=>by
  refine(Ky (h.new hn2) hD hp (b:=.auth) (k:=xK) (v:=VW n) hu (hk.im_of λj hj e=>by have:=hf j hj;have:=hbnd j e;omega) ((WS hr (by simp[VW]) (by omega)).im_of λj hj e=>by have:=hbnd j e;simp only[Value.ownBlock,Option.some.injEq]at hj;omega) (by decide) (by decide) (by simp[VW])).mono ?_
  rintro e w' ⟨rfl,l',hs,hT⟩;exact⟨rfl,l',zB.newFirst hbnd hn2 hs,hT⟩
 have hcell:∀w1,za w w1->w1.cell? ⟨x,0,none⟩=some (.iface 257 (ptr I.t)):=λw1 h1=>(qT (h1.heap hx.2)).1;have HPUT:=hid hput;clear hput;have HCL:=hid hcell;clear hcell;have HA:=hid (λW=>Qj W);have HN1:=hid hN1;have hmeth:=ZS;clear h hD hx hbnd hW1 hr1 hN1;go_enter func273,ntmps273;go_wp2_with fail;refine HPU.out.mono ?_;rintro e w2 ⟨rfl,hm2,hr2⟩;have hn2:za w w2:=zo.trans HN1.out hm2 λj hj e=>by omega
 have q0:=HCL.out w2 hn2;have HN2:=hid hn2;clear hn2 hm2;have hxl:x<w2.heap.size:=World.block_lt_of_cell? w2 _ q0;have HR2:=hid hr2;clear hr2;go_wp2_with fail;go_region_with (first|(go_at_call 215;refine(HA.out _).mono ?_;rintro e w3 ⟨rfl,rfl⟩)|(go_at_call 283;refine YS.mono ?_;rintro e w3 ⟨kv,rfl,hkn,hkb,hkf⟩;obtain⟨kp,kl,kc,rfl,_⟩:=hkb.shape;have q3:w3.cell? ⟨x,0,none⟩=some (.iface 257 (ptr I.t)):=hkn.le _ _ q0;have HK:=hid (And.intro (za.trans HN2.out (za.undrew hkn)) (And.intro hkb (And.intro hkf ((za.undrew hkn).heap HR2.out))));clear hkn hkb hkf)|(go_at_call 335;refine(HPUT.out _ _ HK.out.1 HK.out.2.1 (λj hj=>Nat.le_trans HN2.out.size (HK.out.2.2.1 j hj)) HK.out.2.2.2).mono ?_;rintro e w4 ⟨rfl,h4⟩;have H4:=hid h4;clear h4))
 all_goals
  go_wp2;go_returns;exact⟨rfl,H4.out⟩
def Wl(b:Bool):Bytes:=if b then [1]else [0]
theorem Kf{w:World}{I:zN}{D:vu}{b:Bool}(h:k7 l w I D pend pdel us)(hD:D.ok)(hp:pend<=900)(hu:(us .auth).length<=500)(hx:qe l w x 257 I.t 419):
  Calls prog 272 #[ptr x,.bool b] w λe w'=>e=.returned (.tuple #[])/\∃l',zB l w l' w'/\k7 l' w' I (D.put .auth (yj (D.get .auth) Qx (Wl b))) (pend+1) pdel (λc=>us c++if c=.auth then [Qx]else []):=by
 have hbnd:=h.bnd;have hput:∀w2 kv vv,za w w2->Bs w2.cell? Qx kv->(∀j,kv.ownBlock=some j->w.heap.size<=j)->Bs w2.cell? (Wl b) vv->(∀j,vv.ownBlock=some j->w.heap.size<=j)->
   Calls prog 335 #[ptr I.t,zF.val .auth,kv,vv] w2 λe w'=>e=.returned (.tuple #[])/\∃l',zB l w l' w'/\k7 l' w' I (D.put .auth (yj (D.get .auth) Qx (Wl b))) (pend+1) pdel (λc=>us c++if c=.auth then [Qx]else []):=λw2 kv vv hn2 hk hf hv hvf=>by
  refine(Ky (h.new hn2) hD hp (b:=.auth) (k:=Qx) (v:=Wl b) hu (hk.im_of λj hj e=>by have:=hf j hj;have:=hbnd j e;omega) (hv.im_of λj hj e=>by have:=hvf j hj;have:=hbnd j e;omega) (by decide) (by decide) (by unfold Wl;split<;>decide)).mono ?_;rintro e w' ⟨rfl,l',hs,hT⟩;exact⟨rfl,l',zB.newFirst hbnd hn2 hs,hT⟩
 have q0:w.cell? ⟨x,0,none⟩=some (.iface 257 (ptr I.t)):=(qT hx.2).1;have HPUT:=hid hput;clear hput;have HA:=hid (λW=>Qj W);have HKE:=hid (λW=> @JP W);have hxl:x<w.heap.size:=World.block_lt_of_cell? w _ q0;have hmeth:=ZS;clear h hD hx hbnd;have hmk:∀(W:World),Bs (W.alloc (.cells #[.int .u8 (if b then 1 else 0)] 5)).cell? (Wl b) (.slice (some ⟨W.heap.size,0,none⟩) 1 1):=λW=>by
  cases b
  ·exact xi (w:=W) (l:=[0]) (n:=1) rfl (by decide)
  ·exact xi (w:=W) (l:=[1]) (n:=1) rfl (by decide)
 have hA:∀w3 kv,za w.drew w3->Bs w3.cell? Qx kv->(∀j,kv.ownBlock=some j->w.drew.heap.size<=j)->Calls prog 335 #[ptr I.t,zF.val .auth,kv,.slice (some ⟨w3.heap.size,0,none⟩) 1 1] (w3.alloc (.cells #[.int .u8 (if b then 1 else 0)] 5)) λe w'=>e=.returned (.tuple #[])/\∃l',zB l w l' w'/\k7 l' w' I (D.put .auth (yj (D.get .auth) Qx (Wl b))) (pend+1) pdel (λc=>us c++if c=.auth then [Qx]else []):=λw3 kv hn hk hf=>
  HPUT.out _ _ _ (zo.alloc (za.undrew hn) _) (hk.mono (za.le ((za.refl w3).alloc _))) hf (hmk w3) λj hj=>by
   have h1:w3.heap.size=j:=by simpa[Value.ownBlock]using hj
   have h2:=(za.undrew hn).size;omega
 have hB:∀w3 kv,za (w.alloc (.cells #[.int .u8 (if b then 1 else 0)] 5)).drew w3->Bs w3.cell? Qx kv->(∀j,kv.ownBlock=some j->(w.alloc (.cells #[.int .u8 (if b then 1 else 0)] 5)).drew.heap.size<=j)->Calls prog 335 #[ptr I.t,zF.val .auth,kv,.slice (some ⟨w.heap.size,0,none⟩) 1 1] w3 λe w'=>e=.returned (.tuple #[])/\∃l',zB l w l' w'/\k7 l' w' I (D.put .auth (yj (D.get .auth) Qx (Wl b))) (pend+1) pdel (λc=>us c++if c=.auth then [Qx]else []):=λw3 kv hn hk hf=>
  HPUT.out _ _ _ (za.trans ((za.refl w).alloc _) (za.undrew hn)) hk (λj hj=>by
   have h1:=hf j hj;have h2:(w.alloc (.cells #[.int .u8 (if b then 1 else 0)] 5)).drew.heap.size=w.heap.size+1:=Array.size_push ..
   omega) ((hmk w).mono (za.le (za.undrew hn))) λj hj=>by
   have h1:w.heap.size=j:=by simpa[Value.ownBlock]using hj
   omega
 have HPA:=hid hA;clear hA;have HPB:=hid hB;clear hB;clear hmk HPUT;cases b
 case false=>
  simp only[Bool.false_eq_true,if_false]at HPA HPB;go_enter func272,ntmps272;go_wp2_with fail;go_region_with (first|(go_at_call 215;refine(HA.out _).mono ?_;rintro e w3 ⟨rfl,rfl⟩)|(go_at_call 281;refine(HKE.out _).mono ?_;rintro e w3 ⟨kv,rfl,hkn,hkb,hkf⟩;obtain⟨kp,kl,kc,rfl,_⟩:=hkb.shape;have q3:w3.cell? ⟨x,0,none⟩=some (.iface 257 (ptr I.t)):=hkn.le _ _ (by first|exact q0|exact za.le ((za.refl w).alloc _) _ _ q0);have hxl3:x<w3.heap.size:=World.block_lt_of_cell? w3 _ q3;have HK1:=hid hkn;have HK2:=hid hkb;have HK3:=hid hkf;clear hkn hkb hkf)|(go_at_call 335;first|((with_reducible refine(HPA.out _ _ HK1.out HK2.out HK3.out).mono ?_);rintro e w4 ⟨rfl,h4⟩;have H4:=hid h4;clear h4)|((with_reducible refine(HPB.out _ _ HK1.out HK2.out HK3.out).mono ?_);rintro e w4 ⟨rfl,h4⟩;have H4:=hid h4;clear h4)))
  all_goals
   go_wp2;go_returns;exact⟨rfl,H4.out⟩
 case true=>
  simp only[if_true]at HPA HPB;go_enter func272,ntmps272;go_wp2_with fail;go_region_with (first|(go_at_call 215;refine(HA.out _).mono ?_;rintro e w3 ⟨rfl,rfl⟩)|(go_at_call 281;refine(HKE.out _).mono ?_;rintro e w3 ⟨kv,rfl,hkn,hkb,hkf⟩;obtain⟨kp,kl,kc,rfl,_⟩:=hkb.shape;have q3:w3.cell? ⟨x,0,none⟩=some (.iface 257 (ptr I.t)):=hkn.le _ _ (by first|exact q0|exact za.le ((za.refl w).alloc _) _ _ q0);have hxl3:x<w3.heap.size:=World.block_lt_of_cell? w3 _ q3;have HK1:=hid hkn;have HK2:=hid hkb;have HK3:=hid hkf;clear hkn hkb hkf)|(go_at_call 335;first|((with_reducible refine(HPA.out _ _ HK1.out HK2.out HK3.out).mono ?_);rintro e w4 ⟨rfl,h4⟩;have H4:=hid h4;clear h4)|((with_reducible refine(HPB.out _ _ HK1.out HK2.out HK3.out).mono ?_);rintro e w4 ⟨rfl,h4⟩;have H4:=hid h4;clear h4)))
  all_goals
   go_wp2;go_returns;exact⟨rfl,H4.out⟩
end Go.Proofs.YtbmdoinjkligiaaGreat
