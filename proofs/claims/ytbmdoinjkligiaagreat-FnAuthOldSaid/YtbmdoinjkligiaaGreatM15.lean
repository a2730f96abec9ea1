/- Contracts and laws that the last text joins. -/
import Derived.Test.YtbmdoinjkligiaaGreatM11
set_option maxRecDepth 100000
set_option maxHeartbeats 40000000
set_option linter.all false
namespace Go.Proofs.YtbmdoinjkligiaaGreat
open Tryz
open Lib(hid)
open Go.RowKit
variable{l:zu}{pdel pend x:Nat}{us:zF->List Bytes}
theorem Vn{w:World}{I:zN}{D:vu}{n:Bytes}(h:k7 l w I D pend pdel us)(hD:D.ok)(hp:pend<=900)(hpd:pdel<=900)(hx:qe l w x 257 I.t 419)(hn:n.length<=1000):
  Calls prog 263 #[ptr x,zb n] w λe w'=>e=.returned (.tuple #[])/\zB l w l w'/\k7 l w' I (D.put .users (js (D.get .users) n)) (pend+1) (pdel+1) us:=by
 have hbnd:=h.bnd;obtain⟨kv,wc,hrun,hnc,hbc,⟨kn,kc,rfl⟩,hlt⟩:=jQ (P:=prog) w.drew 9 75 5 (l:=n) (u:=.string) (by kernel_rfl) (by kernel_rfl) (by kernel_rfl) (by omega);have hNC:za w wc:=za.trans ((za.refl w).drew) hnc;have hbk:Bs (im l.some wc) n (.slice (some ⟨w.heap.size,0,none⟩) kn kc):=hbc.im_of λj hj e=>by have:=hbnd j e;simp only[Value.ownBlock,Option.some.injEq]at hj;have e2:w.drew.heap.size=w.heap.size:=rfl;omega
 have hdel:Calls prog 332 #[ptr I.t,zF.val .users,.slice (some ⟨w.heap.size,0,none⟩) kn kc] wc λe w'=>e=.returned (.tuple #[])/\zB l w l w'/\k7 l w' I (D.put .users (js (D.get .users) n)) (pend+1) (pdel+1) us:=by refine(Vb (h.new hNC) hD hp hpd hbk).mono ?_;rintro e w' ⟨rfl,hs,hT⟩;exact⟨rfl,zB.newFirst hbnd hNC hs,hT⟩
 have q0:w.cell? ⟨x,0,none⟩=some (.iface 257 (ptr I.t)):=(qT hx.2).1;have q1:wc.cell? ⟨x,0,none⟩=some (.iface 257 (ptr I.t)):=hNC.le _ _ q0;have e0:w.drew.heap.size=w.heap.size:=rfl;rw[e0]at hrun;have HDEL:=hid hdel;clear hdel;have HA:=hid (λW=>kF W);have hmeth:=Ve;unfold zb;generalize(⟨n.toArray⟩:ByteArray)=sx at hrun⊢;clear h hD hx hbk hNC hnc hbc hlt hbnd;go_enter func263,ntmps263;go_wp2_with fail;go_region_with (first|(go_at_call 216;refine(HA.out _).mono ?_;rintro e w2 ⟨rfl,rfl⟩)|(go_at_call 332;refine HDEL.out.mono ?_;rintro e w3 ⟨rfl,h3⟩;have H3:=hid h3;clear h3))
 all_goals
  go_wp2;go_returns;exact⟨rfl,H3.out⟩
theorem Vo{w:World}{I:zN}{D:vu}{n:Bytes}(h:k7 l w I D pend pdel us)(hD:D.ok)(hp:pend<=900)(hpd:pdel<=900)(hx:qe l w x 257 I.t 419)(hn:n.length<=1000):
  Calls prog 262 #[ptr x,zb n] w λe w'=>e=.returned (.tuple #[])/\zB l w l w'/\k7 l w' I (D.put .roles (js (D.get .roles) n)) (pend+1) (pdel+1) us:=by
 have hbnd:=h.bnd;obtain⟨kv,wc,hrun,hnc,hbc,⟨kn,kc,rfl⟩,hlt⟩:=jQ (P:=prog) w.drew 9 75 5 (l:=n) (u:=.string) (by kernel_rfl) (by kernel_rfl) (by kernel_rfl) (by omega);have hNC:za w wc:=za.trans ((za.refl w).drew) hnc;have hbk:Bs (im l.some wc) n (.slice (some ⟨w.heap.size,0,none⟩) kn kc):=hbc.im_of λj hj e=>by have:=hbnd j e;simp only[Value.ownBlock,Option.some.injEq]at hj;have e2:w.drew.heap.size=w.heap.size:=rfl;omega
 have hdel:Calls prog 332 #[ptr I.t,zF.val .roles,.slice (some ⟨w.heap.size,0,none⟩) kn kc] wc λe w'=>e=.returned (.tuple #[])/\zB l w l w'/\k7 l w' I (D.put .roles (js (D.get .roles) n)) (pend+1) (pdel+1) us:=by refine(Vb (h.new hNC) hD hp hpd hbk).mono ?_;rintro e w' ⟨rfl,hs,hT⟩;exact⟨rfl,zB.newFirst hbnd hNC hs,hT⟩
 have q0:w.cell? ⟨x,0,none⟩=some (.iface 257 (ptr I.t)):=(qT hx.2).1;have q1:wc.cell? ⟨x,0,none⟩=some (.iface 257 (ptr I.t)):=hNC.le _ _ q0;have e0:w.drew.heap.size=w.heap.size:=rfl;rw[e0]at hrun;have HDEL:=hid hdel;clear hdel;have HA:=hid (λW=>kG W);have hmeth:=Ve;unfold zb;generalize(⟨n.toArray⟩:ByteArray)=sx at hrun⊢;clear h hD hx hbk hNC hnc hbc hlt hbnd;go_enter func262,ntmps262;go_wp2_with fail;go_region_with (first|(go_at_call 217;refine(HA.out _).mono ?_;rintro e w2 ⟨rfl,rfl⟩)|(go_at_call 332;refine HDEL.out.mono ?_;rintro e w3 ⟨rfl,h3⟩;have H3:=hid h3;clear h3))
 all_goals
  go_wp2;go_returns;exact⟨rfl,H3.out⟩
variable{b:Nat}
theorem uO{w:World}{I:zN}{D:vu}{u:zm}(h:k7 l w I D pend pdel us)(hD:D.ok)(hp:pend<=900)(hu:(us .roles).length<=500)(hx:qe l w x 257 I.t 419)(hat:jz (im l.some w) b u)(hok:kD u):
  Calls prog 268 #[ptr x,ptr b] w λe w'=>e=.returned (.tuple #[])/\∃l',zB l w l' w'/\k7 l' w' I (D.put .roles (yj (D.get .roles) u.name u.enc)) (pend+1) pdel (λc=>us c++if c=.roles then [u.name]else []):=by
 have hbnd:=h.bnd;have HM:=hid (gI (hat.mono (zd _ _)) hok);obtain⟨nv,hn1,hn2⟩:=hat.name;have hput:∀w1 bv,za w w1->yW w w1 bv u.enc->∀w2,za w1 w2->Calls prog 335 #[ptr I.t,zF.val .roles,nv,bv] w2 λe w'=>e=.returned (.tuple #[])/\∃l',zB l w l' w'/\k7 l' w' I (D.put .roles (yj (D.get .roles) u.name u.enc)) (pend+1) pdel (λc=>us c++if c=.roles then [u.name]else []):=λw1 bv h1 hf w2 h2=>by
  have hfr:=hf.more h2;refine(Ky (h.new (h1.trans h2)) hD hp (b:=.roles) (k:=u.name) (v:=u.enc) hu (hn2.mono (za.im (h1.trans h2) _)) ?_ hok.name0 hok.name ?_).mono ?_
  ·exact(Bs.of_sl (Sl.of_own hfr.own)).im_of λj hj e=>by have:=hfr.ge j hj;have:=hbnd j e;omega
  ·have:=gO hok;omega
  ·rintro e w' ⟨rfl,l',hs,hT⟩;exact⟨rfl,l',zB.newFirst hbnd (h1.trans h2) hs,hT⟩
 have hname:∀w1,za w w1->w1.cell? ⟨b,0,none⟩=some nv:=λw1 h1=>h1.le _ _ (zi.1 hn1).2;have hcell:∀w1,za w w1->w1.cell? ⟨x,0,none⟩=some (.iface 257 (ptr I.t)):=λw1 h1=>(qT (h1.heap hx.2)).1;obtain⟨np,nn,nc,rfl,_⟩:=hn2.shape;have HPUT:=hid hput;clear hput;have HNM:=hid hname;clear hname;have HCL:=hid hcell;clear hcell;have HA:=hid (λW=>kG W);have hmeth:=ZS;clear h hD hx hat hok hn1 hn2 hbnd;go_enter func268,ntmps268;go_wp2_with fail;refine HM.out.mono ?_;rintro e w1 ⟨bv,rfl,hf⟩;obtain⟨bp,bn,bc,rfl⟩:=hf.own.shape;have q0:=HCL.out w1 hf.new;have q1:=HNM.out w1 hf.new;have HF:=hid hf;clear hf;go_wp2_with fail;go_region_with (first|(go_at_call 217;refine(HA.out _).mono ?_;rintro e w2 ⟨rfl,rfl⟩)|(go_at_call 335;refine(HPUT.out _ _ HF.out.new HF.out _ ((za.refl w1).drew)).mono ?_;rintro e w3 ⟨rfl,h3⟩;have H3:=hid h3;clear h3))
 all_goals
  go_wp2;go_returns;exact⟨rfl,H3.out⟩
end Go.Proofs.YtbmdoinjkligiaaGreat
