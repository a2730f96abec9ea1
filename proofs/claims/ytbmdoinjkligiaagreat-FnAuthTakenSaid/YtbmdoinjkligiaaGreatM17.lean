/- Contracts and laws that the last text joins. -/
import Derived.Test.YtbmdoinjkligiaaGreatM13
set_option maxRecDepth 100000
set_option maxHeartbeats 40000000
set_option linter.all false
namespace Go.Proofs.YtbmdoinjkligiaaGreat
open Tryz
open Lib(hid)
open Go.RowKit
variable{l:zu}{pdel pend x:Nat}{us:zF->List Bytes}
theorem Vi{w:World}{I:zN}{D:vr}{n:Bytes}(h:kZ l w I D pend pdel us)(hD:D.ok)(hp:pend<=900)(Mf:pdel<=900)(hx:qd l w x 257 I.t 419)(hn:n.length<=1000):
  Calls prog 263 #[ptr x,zb n] w λe w'=>e=.returned (.tuple #[])/\zB l w l w'/\kZ l w' I (D.put .users (jp (D.get .users) n)) (pend+1) (pdel+1) us:=by
 have Hr:=h.bnd;obtain⟨kv,wc,pQ,P5,sV,⟨kn,kc,rfl⟩,Hb⟩:=jO (P:=prog) w.drew 9 75 5 (l:=n) (u:=.string) (by kernel_rfl) (by kernel_rfl) (by kernel_rfl) (by omega);have Mk:za w wc:=za.trans ((za.refl w).drew) P5;have PA:Bs (im l.some wc) n (.slice (some ⟨w.heap.size,0,none⟩) kn kc):=sV.im_of λj hj e=>by have:=Hr j e;simp only[Value.ownBlock,Option.some.injEq]at hj;have e2:w.drew.heap.size=w.heap.size:=rfl;omega
 have Sf:Calls prog 332 #[ptr I.t,zF.val .users,.slice (some ⟨w.heap.size,0,none⟩) kn kc] wc λe w'=>e=.returned (.tuple #[])/\zB l w l w'/\kZ l w' I (D.put .users (jp (D.get .users) n)) (pend+1) (pdel+1) us:=by refine(K7 (h.new Mk) hD hp Mf PA).mono ?_;rintro e w' ⟨rfl,hs,hT⟩;exact⟨rfl,zB.newFirst Hr Mk hs,hT⟩
 have q0:w.cell? ⟨x,0,none⟩=some (.iface 257 (ptr I.t)):=(qS hx.2).1;have q1:wc.cell? ⟨x,0,none⟩=some (.iface 257 (ptr I.t)):=Mk.le _ _ q0;have e0:w.drew.heap.size=w.heap.size:=rfl;rw[e0]at pQ;have Bh:=hid Sf;clear Sf;have HA:=hid (λW=>kD W);have Hm:=K_;unfold zb;generalize(⟨n.toArray⟩:ByteArray)=sx at pQ⊢;clear h hD hx PA Mk P5 sV Hb Hr;go_enter func263,ntmps263;go_wp2_with fail;go_region_with (first|(go_at_call 216;refine(HA.out _).mono ?_;rintro e w2 ⟨rfl,rfl⟩)|(go_at_call 332;refine Bh.out.mono ?_;rintro e w3 ⟨rfl,h3⟩;have H3:=hid h3;clear h3))
 all_goals
  go_wp2;go_returns;exact⟨rfl,H3.out⟩
theorem Vj{w:World}{I:zN}{D:vr}{n:Bytes}(h:kZ l w I D pend pdel us)(hD:D.ok)(hp:pend<=900)(Mf:pdel<=900)(hx:qd l w x 257 I.t 419)(hn:n.length<=1000):
  Calls prog 262 #[ptr x,zb n] w λe w'=>e=.returned (.tuple #[])/\zB l w l w'/\kZ l w' I (D.put .roles (jp (D.get .roles) n)) (pend+1) (pdel+1) us:=by
 have Hr:=h.bnd;obtain⟨kv,wc,pQ,P5,sV,⟨kn,kc,rfl⟩,Hb⟩:=jO (P:=prog) w.drew 9 75 5 (l:=n) (u:=.string) (by kernel_rfl) (by kernel_rfl) (by kernel_rfl) (by omega);have Mk:za w wc:=za.trans ((za.refl w).drew) P5;have PA:Bs (im l.some wc) n (.slice (some ⟨w.heap.size,0,none⟩) kn kc):=sV.im_of λj hj e=>by have:=Hr j e;simp only[Value.ownBlock,Option.some.injEq]at hj;have e2:w.drew.heap.size=w.heap.size:=rfl;omega
 have Sf:Calls prog 332 #[ptr I.t,zF.val .roles,.slice (some ⟨w.heap.size,0,none⟩) kn kc] wc λe w'=>e=.returned (.tuple #[])/\zB l w l w'/\kZ l w' I (D.put .roles (jp (D.get .roles) n)) (pend+1) (pdel+1) us:=by refine(K7 (h.new Mk) hD hp Mf PA).mono ?_;rintro e w' ⟨rfl,hs,hT⟩;exact⟨rfl,zB.newFirst Hr Mk hs,hT⟩
 have q0:w.cell? ⟨x,0,none⟩=some (.iface 257 (ptr I.t)):=(qS hx.2).1;have q1:wc.cell? ⟨x,0,none⟩=some (.iface 257 (ptr I.t)):=Mk.le _ _ q0;have e0:w.drew.heap.size=w.heap.size:=rfl;rw[e0]at pQ;have Bh:=hid Sf;clear Sf;have HA:=hid (λW=>kE W);have Hm:=K_;unfold zb;generalize(⟨n.toArray⟩:ByteArray)=sx at pQ⊢;clear h hD hx PA Mk P5 sV Hb Hr;go_enter func262,ntmps262;go_wp2_with fail;go_region_with (first|(go_at_call 217;refine(HA.out _).mono ?_;rintro e w2 ⟨rfl,rfl⟩)|(go_at_call 332;refine Bh.out.mono ?_;rintro e w3 ⟨rfl,h3⟩;have H3:=hid h3;clear h3))
 all_goals
  go_wp2;go_returns;exact⟨rfl,H3.out⟩
variable{b:Nat}
theorem uG{w:World}{I:zN}{D:vr}{u:zm}(h:kZ l w I D pend pdel us)(hD:D.ok)(hp:pend<=900)(hu:(us .roles).length<=500)(hx:qd l w x 257 I.t 419)(pO:jw (im l.some w) b u)(pV:kB u):
  Calls prog 268 #[ptr x,ptr b] w λe w'=>e=.returned (.tuple #[])/\∃l',zB l w l' w'/\kZ l' w' I (D.put .roles (yh (D.get .roles) u.name u.enc)) (pend+1) pdel (λc=>us c++if c=.roles then [u.name]else []):=by
 have Hr:=h.bnd;have HM:=hid (gD (pO.mono (zd _ _)) pV);obtain⟨nv,hQ,Hj⟩:=pO.name;have pi:∀w1 bv,za w w1->yS w w1 bv u.enc->∀w2,za w1 w2->Calls prog 335 #[ptr I.t,zF.val .roles,nv,bv] w2 λe w'=>e=.returned (.tuple #[])/\∃l',zB l w l' w'/\kZ l' w' I (D.put .roles (yh (D.get .roles) u.name u.enc)) (pend+1) pdel (λc=>us c++if c=.roles then [u.name]else []):=λw1 bv h1 hf w2 h2=>by
  have Pw:=hf.more h2;refine(Kt (h.new (h1.trans h2)) hD hp (b:=.roles) (k:=u.name) (v:=u.enc) hu (Hj.mono (za.im (h1.trans h2) _)) ?_ pV.name0 pV.name ?_).mono ?_
  ·exact(Bs.of_sl (Sl.of_own Pw.own)).im_of λj hj e=>by have:=Pw.ge j hj;have:=Hr j e;omega
  ·have:=gJ pV;omega
  ·rintro e w' ⟨rfl,l',hs,hT⟩;exact⟨rfl,l',zB.newFirst Hr (h1.trans h2) hs,hT⟩
 have nL:∀w1,za w w1->w1.cell? ⟨b,0,none⟩=some nv:=λw1 h1=>h1.le _ _ (zi.1 hQ).2;have Hw:∀w1,za w w1->w1.cell? ⟨x,0,none⟩=some (.iface 257 (ptr I.t)):=λw1 h1=>(qS (h1.heap hx.2)).1;obtain⟨np,nn,nc,rfl,_⟩:=Hj.shape;have rK:=hid pi;clear pi;have Ti:=hid nL;clear nL;have TY:=hid Hw;clear Hw;have HA:=hid (λW=>kE W);have Hm:=ZM;clear h hD hx pO pV hQ Hj Hr;go_enter func268,ntmps268;go_wp2_with fail;refine HM.out.mono ?_;rintro e w1 ⟨bv,rfl,hf⟩;obtain⟨bp,bn,bc,rfl⟩:=hf.own.shape;have q0:=TY.out w1 hf.new;have q1:=Ti.out w1 hf.new;have HF:=hid hf;clear hf;go_wp2_with fail;go_region_with (first|(go_at_call 217;refine(HA.out _).mono ?_;rintro e w2 ⟨rfl,rfl⟩)|(go_at_call 335;refine(rK.out _ _ HF.out.new HF.out _ ((za.refl w1).drew)).mono ?_;rintro e w3 ⟨rfl,h3⟩;have H3:=hid h3;clear h3))
 all_goals
  go_wp2;go_returns;exact⟨rfl,H3.out⟩
end Go.Proofs.YtbmdoinjkligiaaGreat
