/- Contracts and laws that the last text joins. -/
import Derived.Deep.RegionHeld3
import Derived.Test.YtbmdoinjkligiaaGreatM12
set_option maxRecDepth 100000
set_option maxHeartbeats 40000000
set_option linter.all false
namespace Go.Proofs.YtbmdoinjkligiaaGreat
open Tryz
open Lib(hid)
open Go.RowKit
def xF(C:List z_)(x:Bytes):List z_:=if zx (C.map (·.1)) x then C else kV C (zk (C.map (·.1)) x) (x,[])
theorem DL(bs:List (Nat×z_)):zG bs=(bs.map (·.2)).map (·.1):=by unfold zG;rw[List.map_map];rfl
variable{F:Nat->Prop}{j tx:Nat}{r:Rd}{wt:Bool}{xv:Value}
theorem VE{w:World}{db:Nat}{bs:List (Nat×z_)}(h:kw r w F tx db wt bs)(hr:r.le w.cell?){x:Bytes}(hx:Bs r x xv)
  (hj:j<bs.length)(hpl:zk (zG bs) x=j)(hfd:zx (zG bs) x=true):
  Calls prog 227 #[ptr tx,xv] w λe w'=>e=.returned (.tuple #[ptr bs[j].1,.nilIface])/\w=w':=by
 have HPL:=hid (h.place hr hx);rw[hpl,hfd]at HPL;obtain⟨p,n,c,hc3,hlen,hnc,hcm,hat⟩:=h.row;obtain⟨b,o,rfl,hbk,_⟩:=hat j hj;have hjn:(j:Int)<(n:Int):=by omega
 clear hat hr h hx hfd hpl;generalize bs[j].1=q at*
 go_enter func227,ntmps227;go_wp2_with (go_at_call 228;go_must (refine HPL.out.mono ?_);rintro e w' ⟨rfl,rfl⟩);go_returns;exact⟨rfl,rfl⟩
variable{S:Nat->Prop}
theorem di{w:World}{db:Nat}{bs:List (Nat×z_)}(hS:∀b,S b->b<w.heap.size)(hFS:∀b,F b->S b)
  (h:kw (im S w) w F tx db true bs){x:Bytes}(hx:Bs (im S w) x xv)(hxl:x.length<=1000)(hsm:bs.length<=1000):
  Calls prog 227 #[ptr tx,xv] w λe w'=>∃nb,e=.returned (.tuple #[ptr nb,.nilIface])/\∃F' bs',zo F w w'/\(∀b,F' b->F b\/w.heap.size<=b/\b<w'.heap.size)/\(∀b,F b->F' b)/\
   kw (im (λb=>S b\/F' b) w') w' F' tx db true bs'/\bs'.map (·.2)=xF (bs.map (·.2)) x:=by
 unfold xF;rw[<-DL];by_cases hf:zx (zG bs) x=true
 ·rw[if_pos hf];have hj:zk (zG bs) x<bs.length:=by
   unfold zx at hf;have h1:(zG bs)[zk (zG bs) x]? =some x:=by simpa using hf
   have:=(List.getElem?_eq_some_iff.1 h1).1;unfold zG at this⊢;simpa using this
  refine(VE h (zd _ _) hx hj rfl hf).mono ?_;rintro e w' ⟨rfl,rfl⟩;refine⟨_,rfl,F,bs,zo.refl _ _,λb e=>Or.inl e,λb e=>e,?_,rfl⟩;have e9:(λb=>S b\/F b)=S:=by
   funext b
   exact propext ⟨λe=>e.elim id (hFS b),Or.inl⟩
  rw[e9];exact h
 ·rw[if_neg hf];refine(GZ hS hFS h hx hxl (by simpa using hf) hsm).mono ?_;rintro e w' ⟨nb,F',rfl,h1,h2,h3,h4⟩;exact⟨nb,rfl,F',_,h1,h2,h3,h4,Ji (λe:Nat×z_=>e.2) _ _ _⟩
theorem DM(b:zF):b.name.length<=1000:=by cases b<;>decide
def zdm(S F:Nat->Prop)(w:World)(t wtx db be pend m sm pdel:Nat)(C:List z_)(w':World):Prop:=
 ∃F' bs',zo (λj=>F j\/j=t) w w'/\(∀b,F' b->F b\/w.heap.size<=b/\b<w'.heap.size)/\(∀b,F b->F' b)/\kw (im (λb=>S b\/F' b) w') w' F' wtx db true bs'/\bs'.map (·.2)=C/\qW w' t wtx be (pend+1) m sm pdel
variable{C:List z_}{be pdel pend t wtx:Nat}{w1 w2:World}
theorem zaE{w:World}{db m sm:Nat}(hn:za w w1)(hbt:qW w t wtx be pend m sm pdel)(hSt:S t)(hFt: ¬F t)
  (h:∃F' bs',zo F w1 w2/\(∀b,F' b->F b\/w1.heap.size<=b/\b<w2.heap.size)/\(∀b,F b->F' b)/\kw (im (λb=>S b\/F' b) w2) w2 F' wtx db true bs'/\bs'.map (·.2)=C):
  w2.cell? ⟨t,0,none⟩=some (ptr wtx)/\w2.cell? ⟨t,2,none⟩=some (.int .i64 pend)/\w2.frozen? ⟨t,2,none⟩=false/\zdm S F w t wtx db be pend m sm pdel C (w2.setCell ⟨t,2,none⟩ (.int .i64 (pend+1))):=by
 obtain⟨F',bs',h1,h2,h3,h4,h5⟩:=h;have htl:t<w.heap.size:=(Array.getElem?_eq_some_iff.1 hbt).1;have hs:=hn.size;have hb2:qW w2 t wtx be pend m sm pdel:=by unfold qW;rw[h1.block t (by omega) hFt];exact hn.heap hbt
 have hnF: ¬F' t:=λe=>by
  rcases h2 t e with e|e
  ·exact hFt e
  ·omega
 refine⟨by rw[cell_of_row w2 t 0 _ _ (0,0) hb2];rfl,by rw[cell_of_row w2 t 2 _ _ (0,0) hb2];rfl,by unfold qW at hb2;simp[World.frozen?,hb2],F',bs',?_,λb e=> ?_,h3,?_,h5,?_⟩
 ·exact vA (S:=λj=>F j\/j=t) (zo.trans (hn.mod _) (h1.mono λ_ _ e=>Or.inl e) λj _ e=>e) (Or.inr rfl) _
 ·rcases h2 b e with e|⟨e1,e2⟩
  ·exact Or.inl e
  ·exact Or.inr ⟨by omega,by simpa[World.setCell]using e2⟩
 ·exact h4.frame (λb hb=>Below.heap_setCell _ _ _ _ (λe=>hnF (by rw[<-show b=t from e];exact hb))) (kQ _ w2 ⟨t,2,none⟩ (Or.inl hSt) _)
 ·unfold qW at hb2⊢;rw[heap_setCell_same w2 t 2 _ _ _ hb2];simp
theorem DN{w:World}{db m sm:Nat}{b:zF}{bs:List (Nat×z_)}(hS:∀b,S b->b<w.heap.size)(hFS:∀b,F b->S b)(hSt:S t)(hFt: ¬F t)
  (hbt:qW w t wtx be pend m sm pdel)(h:kw (im S w) w F wtx db true bs)(hsm:bs.length<=1000)(hpe:pend<=1000000):
  Calls prog 226 #[ptr t,b.val] w λe w'=>e=.returned (.tuple #[])/\zdm S F w t wtx db be pend m sm pdel (xF (bs.map (·.2)) b.name) w':=by
 have c0:w.cell? ⟨t,0,none⟩=some (ptr wtx):=by rw[cell_of_row w t 0 _ _ (0,0) hbt];rfl
 have HNM:=jR b;have hmeth:=vB b.raw;have hfin:∀w1,za w w1->∀xv,Bs w1.cell? b.name xv->(∀q,xv.ownBlock=some q->w.heap.size<=q)->
   Calls prog 227 #[ptr wtx,xv] w1 λe w2=>∃nb,e=.returned (.tuple #[ptr nb,.nilIface])/\w2.cell? ⟨t,0,none⟩=some (ptr wtx)/\w2.cell? ⟨t,2,none⟩=some (.int .i64 pend)/\w2.frozen? ⟨t,2,none⟩=false/\zdm S F w t wtx db be pend m sm pdel (xF (bs.map (·.2)) b.name) (w2.setCell ⟨t,2,none⟩ (.int .i64 (pend+1))):=by
  intro w1 hn1 xv hxv hfr;have hr:(im S w).le (im S w1):=za.im hn1 S;have ht1:kw (im S w1) w1 F wtx db true bs:=h.frame (λq hq=>hn1.block q (hS q (hFS q hq)) (λe=>e)) hr;have hx1:Bs (im S w1) b.name xv:=Bs.im_of (S:=S) (w:=w1) hxv λq hq e=>by have:=hfr q hq;have:=hS q e;omega
  refine(di (λq e=>Nat.lt_of_lt_of_le (hS q e) hn1.size) hFS ht1 hx1 (DM b) hsm).mono ?_;rintro e w2 ⟨nb,rfl,h9⟩;exact⟨nb,rfl,zaE hn1 hbt hSt hFt h9⟩
 have HFIN:=hid hfin;clear hfin;have ht:=World.block_lt_of_cell? w _ c0;clear h hbt hS hFS;unfold zF.val;generalize zF.raw b=raw at*
 go_enter func226,ntmps226;go_wp2;go_region_with (first|(go_at_call 300;refine(HNM _).mono ?_;rintro e w1 ⟨xv,rfl,hn1,hx1,hfr1⟩;have d0:w1.cell? ⟨t,0,none⟩=some (ptr wtx):=hn1.le _ _ c0;obtain⟨xp,xn,xc,rfl,_⟩:=hx1.shape;have HX1:=hid hx1;have HFR1:=hid hfr1;have HN1:=hid (za.undrew hn1);clear hx1 hfr1 hn1)|(go_at_call 227;refine(HFIN.out _ HN1.out _ HX1.out HFR1.out).mono ?_;rintro e w2 ⟨nb,rfl,z0,z2,zf,hm⟩;have HM:=hid hm;clear hm))
 all_goals
  go_wp2;go_returns;exact⟨rfl,HM.out⟩
variable{m4 rt:Nat}{sq:List (zF×Value)}
theorem U2{w:World}{m sm:Nat}{ver:Int}(hS:∀j,S j->j<w.heap.size)(hFS:∀j,F j->S j)(hSs:S sm)(hsm:sm≠m)
  (h3:w.cell? ⟨t,3,none⟩=some (.map (some m)))(h4:w.cell? ⟨t,4,none⟩=some (.map (some sm)))(hr0:w.cell? ⟨rt,0,none⟩=some (.map (some m4)))(hr1:w.cell? ⟨rt,1,none⟩=some (.int .u64 ver))(hrf:w.frozen? ⟨rt,1,none⟩=false)
  (h2:zD k6 w m [])(hsq:zD k6 w sm sq)(hbo:vf sq):
  Calls prog 83 #[.pointer (some ⟨t,3,none⟩),.pointer (some ⟨rt,0,none⟩)] w λe w'=>e=.returned (.tuple #[])/\∃(w5:World) (sq':List (zF×Value)) (ver':Int),
   zo (λj=>j=m\/j=sm) w w5/\w'=w5.setCell ⟨rt,1,none⟩ (.int .u64 ver')/\zD k6 w5 m []/\zD k6 w5 sm sq'/\vf sq':=by
 obtain⟨w0,hrange,hrg0,hn0,hsz0⟩:=zD.range (P:=prog) (k:=299) (t:=239) (e:=300) (by kernel_rfl) h2;have hrm:rt≠m:=λe=>by rw[h2.noCell (a:=⟨rt,0,none⟩) e]at hr0;cases hr0
 have hrs:rt≠sm:=λe=>by rw[hsq.noCell (a:=⟨rt,0,none⟩) e]at hr0;cases hr0
 have htl:=World.block_lt_of_cell? w _ h3;have hrl:=World.block_lt_of_cell? w _ hr0;have HS:=hid hS;have HFS:=hid hFS;have HSQ:=hid hsq;have HBO:=hid hbo;have HN0:=hid hn0;have HRG:=hid hrg0;clear hS hFS hsq hbo hn0 hrg0 hsz0 h2;go_enter func83,ntmps83;go_wp2;go_loopw [4] (λ_ wr=>wr=w0) (λ_ wr=>wr.rangeLeft m w.heap.size)
 case atStart=>rfl
 case round=>
  obtain rfl:=hrel;rcases zP.next (P:=prog) (k:=299) Zg HRG.out 0 with⟨hl,hnx⟩|⟨x,v,w1,hxl,hxe,hnx,hg1,hm1,hs1,hen⟩
  ·have c3:=HN0.out.le _ _ h3;have c4:=HN0.out.le _ _ h4;have hsqr:=HSQ.out.frame (HN0.out.block _ HSQ.out.lt (λe=>e));have hcall:=KH (S:=S) (F:=F) (es:=[]) (λj e=>Nat.lt_of_lt_of_le (HS.out j e) HN0.out.size) HFS.out hSs c3 c4 (by simp[zl]) (by simp[zl]) hsm ⟨HRG.out.owns,by simp,by simp⟩ hsqr HBO.out;have hfin:∀w5:World,(∃cur sq',zo (λj=>j=m\/j=sm\/j∈zl []) wr w5/\zR (im S w5) w5 F m cur/\zD k6 w5 sm sq'/\vf sq'/\(∀e∈cur,e.2.2.2=[])/\(∀e∈cur,∃f∈([]:zZ),f.1=e.1/\f.2.1=e.2.1/\f.2.2.1=e.2.2.1))->
     w5.cell? ⟨rt,1,none⟩=some (.int .u64 ver)/\w5.frozen? ⟨rt,1,none⟩=false/\zo (λj=>j=m\/j=sm) w w5/\zD k6 w5 m []/\∃sq',zD k6 w5 sm sq'/\vf sq':=by
    rintro w5 ⟨cur,sq',g1,g2,g3,g4,g5,g6⟩;have hc0:cur=[]:=by
     cases cur with
     |nil=>rfl
     |cons e _=>obtain⟨f,hf,_⟩:=g6 e (by simp);cases hf
    subst hc0;have hm5:zo (λj=>j=m\/j=sm) w w5:=zo.trans (HN0.out.mod _) (g1.mono λj _ e=>by
     rcases e with e|e|e
     ·exact Or.inl e
     ·exact Or.inr e
     ·simp[zl]at e) λj _ e=>e
    have hb:w5.heap[rt]? =w.heap[rt]? :=hm5.block rt hrl (λe=>e.elim hrm hrs);exact⟨by rw[World.cell?_of_block hb];exact hr1,by rw[World.frozen?_of_block hb];exact hrf,hm5,g2.map,sq',g3,g4⟩
   have HFIN:=hid hfin;have HC:=hid hcall;clear hcall hfin hsqr;go_wp2_with fail;refine HC.out.mono ?_;rintro e w5 ⟨rfl,h5⟩;obtain⟨v1,v2,hm5,hb5,sq',hs5,hbo5⟩:=HFIN.out w5 h5;have HF:=hid (And.intro hm5 (And.intro hb5 (And.intro hs5 hbo5)));clear h5 hm5 hb5 hs5 hbo5;go_wp2;go_returns;exact⟨rfl,w5,sq',_,HF.out.1,rfl,HF.out.2.1,HF.out.2.2.1,HF.out.2.2.2⟩
  ·simp[jt,HRG.out]at hxe
variable{e2 e4:zZ}{l:zu}{rb wb:List (Nat×z_)}
theorem DO{w:World}{I:zN}{b:zF}(h:j4 l w I C wb rb pend pdel e2 e4)(hsm:wb.length<=1000)(hpe:pend<=1000000):
  Calls prog 226 #[ptr I.t,b.val] w λe w'=>e=.returned (.tuple #[])/\∃l' wb',zB l w l' w'/\j4 l' w' I C wb' rb (pend+1) pdel e2 e4/\wb'.map (·.2)=xF (wb.map (·.2)) b.name:=by
 obtain⟨cs,hC,hcs⟩:=h.toC;have l2:=h.lab.2.1;refine(DN (S:=l.some) (F:=l.is 9) h.bnd (λj e=>by show l j≠0;rw[show l j=9 from e];decide) (by show l _≠0;rw[l2];decide) (by show ¬(l _=9);rw[l2];decide) h.bt h.wtx hsm hpe).mono ?_;rintro e w' ⟨rfl,F',bs',hm,h1,h2,h3,h4,h5⟩;obtain⟨G,hG⟩:∃G:Nat->Prop,G=λb=>F' b/\w.heap.size<=b:=⟨_,rfl⟩;have hs:zB l w (l.add G 9) w':=zB.ofAdd (by decide) h.bnd (hm.mono λj _ e=>by
  rcases e with e|e
  ·have e:l j=9:=e;exact⟨by rw[e];decide,by rw[e];decide⟩
  ·exact⟨by rw[e,l2];decide,by rw[e,l2];decide⟩) (λb e=>by
  rw[hG]at e;rcases h1 b e.1 with e2|e2
  ·have:=h.bnd b (by rw[show l b=9 from e2];decide);have:=e.2;omega
  ·exact e2)
 have k:=hC.kept hs (λn=>n=2\/n=9) λj ho=>by
  by_cases e:l j=9\/j=I.t
  ·rcases e with e|e
   ·exact Or.inl (Or.inr e)
   ·exact Or.inl (Or.inl (by rw[e];exact l2))
  ·exact Or.inr (hm.block j (h.bnd j ho.1) e)
 have hr:(im (λb=>l.some b\/F' b) w').le (im (l.add G 9).some w'):=λp v hp=>by
  have g:=zi.1 hp;refine zi.2 ⟨λe=> ?_,g.2⟩;by_cases e0:l p.block=0
  ·by_cases eG:G p.block
   ·rw[hG]at eG;exact g.1 (Or.inr eG.1)
   ·exact e ((zu.add_neg eG).trans e0)
  ·exact g.1 (Or.inl e0)
 have hw:kw (im (l.add G 9).some w') w' ((l.add G 9).is 9) I.wtx I.db true bs':=(h3.frame (λ_ _=>rfl) hr).mono λb hb=>by
  rcases h1 b hb with e|e
  ·show l.add G 9 b=9;rw[zu.add_old (by rw[show l b=9 from e];decide)];exact e
  ·have h0:l b=0:=by
    by_cases e0:l b=0
    ·exact e0
    ·have:=h.bnd b e0;omega
   exact zu.add_pos (by rw[hG];exact⟨hb,e.1⟩) h0
 have hrtx:=h.rtx.frame (w':=w') (λj hj=>hm.block j (h.bnd j (by rw[show l j=10 from hj];decide)) (λe=>by
  have hj:l j=10:=hj;rcases e with e|e
  ·have e:l j=9:=e;omega
  ·rw[e,l2]at hj;omega)) hs.le
 have hrtx2:=hrtx.mono (F':=(l.add G 9).is 10) λb hb=>by show l.add G 9 b=10;rw[zu.add_old (by rw[show l b=10 from hb];decide)];exact hb
 exact⟨rfl,l.add G 9,bs',hs,Qf.toS ⟨k.bnd,k.lab,k.be (by decide),h5,k.rt (by decide),k.db (by decide),hw,k.buf2 (by decide) (by decide),k.buf4 (by decide) (by decide),h.apart,k.sq (by decide),k.cm (by decide)⟩ hrtx2 hcs,h4⟩
theorem Xi{w:World}{I:zN}(h:j4 l w I C wb rb pend pdel [] []):
  Calls prog 83 #[.pointer (some ⟨I.t,3,none⟩),.pointer (some ⟨I.rt,0,none⟩)] w λe w'=>e=.returned (.tuple #[])/\zB l w l w'/\j4 l w' I C wb rb pend pdel [] []:=by
 obtain⟨cs,hC,hcs⟩:=h.toC;obtain⟨l1,l2,l3,l4,l5,l6,l7,l8⟩:=h.lab;obtain⟨n,mu,wg,hrt⟩:=h.rt;obtain⟨sq,hsq,hbo⟩:=h.sq;have nn:∀{a b m n:Nat},l a=m->l b=n->m≠n->a≠b:=λh1 h2 h3 e=>by subst e;exact h3 (h1.symm.trans h2)
 have so:∀{a m:Nat},l a=m->m≠0->l.some a:=λ{a m} h1 h2=>by show l a≠0;rw[h1];exact h2
 have hbt:=h.bt;refine(U2 (S:=l.some) (F:=l.is 11) (t:=I.t) (rt:=I.rt) (m:=I.m) (sm:=I.sm) (m4:=I.m4) (ver:=n) h.bnd (λj e=>so e (by decide)) (so l6 (by decide)) (nn l6 l5 (by decide))
  (by rw[cell_of_row w I.t 3 _ _ (0,0) hbt];rfl) (by rw[cell_of_row w I.t 4 _ _ (0,0) hbt];rfl) (by rw[cell_of_row w I.rt 0 _ _ (0,0) hrt];rfl) (by rw[cell_of_row w I.rt 1 _ _ (0,0) hrt];rfl) (by simp[World.frozen?,hrt])
  h.buf2.map hsq hbo).mono ?_
 rintro e w' ⟨rfl,w5,sq',ver',hm5,rfl,hb5,hs5,hbo5⟩;have hm:zo (λj=>j=I.m\/j=I.sm\/j=I.rt) w (w5.setCell ⟨I.rt,1,none⟩ (.int .u64 ver')):=vA (S:=λj=>j=I.m\/j=I.sm\/j=I.rt) (hm5.mono λj _ e=>by
  rcases e with e|e
  ·exact Or.inl e
  ·exact Or.inr (Or.inl e)) (Or.inr (Or.inr rfl)) _
 have hT:∀j,(j=I.m\/j=I.sm\/j=I.rt)->l j=5\/l j=6\/l j=3:=λj e=>by
  rcases e with rfl|rfl|rfl
  ·exact Or.inl l5
  ·exact Or.inr (Or.inl l6)
  ·exact Or.inr (Or.inr l3)
 have hs:zB l w l (w5.setCell ⟨I.rt,1,none⟩ (.int .u64 ver')):=zB.ofMod h.bnd (hm.mono λj _ e=>by have:=hT j e;unfold zu.own;omega)
 have k:=hC.kept hs (λn=>n=5\/n=6\/n=3) λj ho=>by
  by_cases e:j=I.m\/j=I.sm\/j=I.rt
  ·exact Or.inl (hT j e)
  ·exact Or.inr (hm.block j (h.bnd j ho.1) e)
 have hrtx:=h.rtx.frame (w':=w5.setCell ⟨I.rt,1,none⟩ (.int .u64 ver')) (λj e=>hm.block j (h.bnd j (by rw[show l j=10 from e];decide)) (λe2=>by have:=hT j e2;have e:l j=10:=e;omega)) hs.le
 have hr5:w5.heap[I.rt]? =w.heap[I.rt]? :=hm5.block I.rt (h.bnd _ (by rw[l3];decide)) λe=>by
  rcases e with e|e
  ·exact nn l3 l5 (by decide) e
  ·exact nn l3 l6 (by decide) e
 refine⟨rfl,hs,Qf.toS ⟨k.bnd,k.lab,k.be (by decide),k.bt (by decide),⟨ver',mu,wg,?_⟩,k.db (by decide),k.wtx (by decide),⟨?_,by simp,by simp⟩,k.buf4 (by decide) (by decide),by simp,⟨sq',?_,hbo5⟩,k.cm (by decide)⟩ hrtx hcs⟩
 ·rw[heap_setCell_same w5 I.rt 1 _ _ _ (hr5.trans hrt)];rfl
 ·exact hb5.frame (Below.heap_setCell _ _ _ _ (nn l5 l3 (by decide)))
 ·exact hs5.frame (Below.heap_setCell _ _ _ _ (nn l6 l3 (by decide)))
variable{c3:Value}
theorem dj{w:World}{m sm db:Nat}{u:FrameMode}{R1 R2:World->Prop}(hp:0<pend)(hp2:pend<1000)(h0:kA w t be db rt m sm c3)(hbt:qW w t wtx be pend m sm 0)
  (hw:Calls prog 83 #[.pointer (some ⟨t,3,none⟩),.pointer (some ⟨rt,0,none⟩)] w.drew λe w'=>e=.returned (.tuple #[])/\(∃c3,kA w' t be db rt m sm c3)/\qW w' t wtx be pend m sm 0/\R1 w')
  (hc0:∀w' n,R1 w'->R2 (w'.drewN n)):
  CallsD prog 78 #[ptr t] u w λe u' w'=>u'=u/\(e=.returned (.tuple #[])/\R2 w'):=by
 obtain⟨a1,a4,_,_,_,_,_⟩:=h0.cells;obtain⟨c,hrt⟩:=h0.rtCells;have a2:=hbt.cells.2.2.1;have hne:((pend:Int)==0)=false:=by simp;omega
 have HL:=hid (Kv hrt);have HW:=hid hw;clear hw;have HC0:=hid hc0;clear hc0;clear h0 hrt hbt;go_enter_d func78,ntmps78;go_wp2_with (go_at_call 80;go_must (refine HL.out.mono ?_);rintro e w1 ⟨rfl,rfl⟩);go_still_tail 14,(by kernel_rfl);go_wp2_with fail;refine HW.out.mono ?_;rintro e w1 ⟨rfl,⟨c3',k1⟩,kb,r1⟩;obtain⟨b1,b4,_,_,_,_,_⟩:=k1.cells;obtain⟨c',hrt'⟩:=k1.rtCells;have b2:=kb.cells.2.2.1;have b5:=kb.cells.2.2.2;have bl:=k1.be.cells.2.1;have HK:=hid (QU hrt');have hge:decide ((1000:Int)<=(pend:Int))=false:=by simp;omega
 have HU:=hid (λn:Nat=>QV (w:=w1.drewN n) kb k1.be hp2);have HR1:=hid r1;clear r1;clear k1 hrt' kb;go_wp2_with (go_at_call 82;go_must (refine HK.out.mono ?_);rintro e w2 ⟨rfl,rfl⟩);go_quiet (fail);go_wp2_with (go_at_call 84;go_must (refine(HU.out nq).mono ?_);rintro e w2 ⟨rfl,n,rfl⟩);go_returns;exact⟨rfl,HC0.out w1 (nq+n) HR1.out⟩
theorem fk{w:World}{I:zN}{u:FrameMode}(h:j4 l w I C wb rb pend 0 [] [])(hp:0<pend)(hp2:pend<1000):
  CallsD prog 78 #[ptr I.t] u w λe u' w'=>u'=u/\(e=.returned (.tuple #[])/\(zB l w l w'/\j4 l w' I C wb rb pend 0 [] [])):=by
 have hd:=h.drewN 1;refine dj (R1:=λw1=>zB l w l w1/\j4 l w1 I C wb rb pend 0 [] []) (R2:=λw2=>zB l w l w2/\j4 l w2 I C wb rb pend 0 [] []) hp hp2 h.keeps h.bt ?_ ?_
 ·refine(Xi hd).mono ?_;rintro e w' ⟨rfl,hs,hB⟩;exact⟨rfl,⟨_,hB.keeps⟩,hB.bt,⟨hs.mod.undrew,hs.old,hs.new,hs.bnd⟩,hB⟩
 ·rintro w' n ⟨hs,hB⟩;exact⟨hs.drewN n,hB.drewN n⟩
theorem Xj(t:Nat)(W:World):(method 608 257 (ptr t) "UnsafeCreateBucket").run prog W=.ok (226,ptr t) W:=by kernel_rfl
theorem dt(t:Nat)(W:World):(nilAhead 608 257 (ptr t) "UnsafeCreateBucket").run prog W=.ok (some false) W:=by kernel_rfl
theorem dw(t:Nat)(W:World):(nilAhead 608 257 (ptr t) "Unlock").run prog W=.ok (some false) W:=by kernel_rfl
theorem dA(t:Nat)(W:World):(invoke (.fn (.method "Unlock") #[]) #[.iface 257 (ptr t)]).run prog W=.ok (.enter 78 #[ptr t]) W:=by kernel_rfl
def Bk3(l:zu)(w:World)(I:zN)(C:List z_)(rb:List (Nat×z_))(pend:Nat)(D:List z_)(wx:World):Prop:=∃l1 wb1,zB l w l1 wx/\j4 l1 wx I C wb1 rb pend 0 [] []/\wb1.map (·.2)=D
theorem fl(C:List z_)(x:Bytes):(xF C x).length<=C.length+1:=by
 unfold xF;split
 ·omega
 ·unfold kV;simp only[List.length_append,List.length_cons,List.length_take,List.length_drop];omega
variable{W:World}
theorem YE{w:World}{I:zN}{D:List z_}(h:Bk3 l w I C rb pend D W)(hD:D.length<=900)(hp:pend<=900)(b:zF):
  Calls prog 226 #[ptr I.t,b.val] W λe w'=>e=.returned (.tuple #[])/\Bk3 l w I C rb (pend+1) (xF D b.name) w':=by
 obtain⟨l1,wb1,hs,hB,hm⟩:=h;have hl:wb1.length=D.length:=by rw[<-hm,List.length_map]
 refine(DO hB (b:=b) (by omega) (by omega)).mono ?_;rintro e w' ⟨rfl,l',wb',h1,h2,h3⟩;exact⟨rfl,l',wb',hs.trans h1,h2,by rw[h3,hm]⟩
variable{W':World}
theorem Bk3.new{w:World}{I:zN}{D:List z_}(h:Bk3 l w I C rb pend D W)(hn:za W W'):Bk3 l w I C rb pend D W':=by obtain⟨l1,wb1,hs,hB,hm⟩:=h;exact⟨l1,wb1,hs.trans (hB.ofNew hn).1,(hB.ofNew hn).2,hm⟩
variable{ab:Nat}
theorem U3{w:World}{I:zN}(h:j4 l w I C wb rb 0 0 [] [])(ha:qe l w ab 136 I.be 151)(hsm:wb.length<=800):
  Calls prog 208 #[ptr ab] w λe w'=>e=.returned (.tuple #[])/\Bk3 l w I C rb 3 (xF (xF (xF (wb.map (·.2)) (zF.auth).name) (zF.users).name) (zF.roles).name) w':=by
 obtain⟨q0,q1,_⟩:=qT ha.2;have HB:=hid (Vg (show vC w I.be I.db I.t I.rt from h.be));have HLK:=hid (Ui h.bt);have H0:=hid (show Bk3 l w I C rb 0 (wb.map (·.2)) w from⟨l,wb,zB.refl h.bnd,h,rfl⟩);have m1:=YZ;have m2:=Vf;have m3:=Xj;have n1:=dt;have n2:=dw;have hl:(wb.map (·.2)).length<=800:=by rw[List.length_map];exact hsm
 obtain⟨D0,hD0⟩:=zex (wb.map (·.2));rw[<-hD0]at H0 hl⊢;clear h ha hsm hD0;have hl1:=fl D0 (zF.auth).name;have hl2:=fl (xF D0 (zF.auth).name) (zF.users).name;have HL:=hid (And.intro hl (And.intro hl1 hl2));clear hl hl1 hl2;go_enter_defers func208,ntmps208;go_wp2_with fail;refine HB.out.mono ?_;rintro e w1 ⟨rfl,rfl⟩;go_wp2_with fail;refine HLK.out.mono ?_;rintro e w1 ⟨rfl,rfl⟩;go_wp2_with fail;go_cut []from 12 to 17 (λwx=>Bk3 l w I C rb 1 (xF D0 (zF.auth).name) wx)
 case first=>
  have HA:=hid (λW=>Qj W);have HC:=hid (λW (hn:za w W)=>YE (H0.out.new hn) (by have:=HL.out.1;omega) (by decide) .auth);refine wp_region_noPanic ?_;go_region_with (first|(go_at_call 215;refine(HA.out _).mono ?_;rintro e w1 ⟨rfl,rfl⟩)|(go_at_call 226;refine(HC.out _ (by first|exact za.refl _|exact(za.refl _).drew|exact(za.refl _).drew.drew)).mono ?_;rintro e w2 ⟨rfl,h2⟩;have H2:=hid h2;clear h2))
  all_goals refine NoPanic.normal ?_
  all_goals
   go_wp2_with fail;go_meet;exact H2.out
 case rest=>
  obtain⟨w1,hw1⟩:=zex (wc);rw[<-hw1]at hcut⊢;clear hw1 q0 q1;have H1:=hid hcut;clear hcut;go_wp2_with fail;go_cut []from 18 to 23 (λwx=>Bk3 l w I C rb 2 (xF (xF D0 (zF.auth).name) (zF.users).name) wx)
  case first=>
   have HA:=hid (λW=>kF W);have HC:=hid (λW (hn:za w1 W)=>YE (H1.out.new hn) (by have:=HL.out.1;have:=HL.out.2.1;omega) (by decide) .users);refine wp_region_noPanic ?_;go_region_with (first|(go_at_call 216;refine(HA.out _).mono ?_;rintro e w1 ⟨rfl,rfl⟩)|(go_at_call 226;refine(HC.out _ (by first|exact za.refl _|exact(za.refl _).drew|exact(za.refl _).drew.drew)).mono ?_;rintro e w2 ⟨rfl,h2⟩;have H2:=hid h2;clear h2))
   all_goals refine NoPanic.normal ?_
   all_goals
    go_wp2_with fail;go_meet;exact H2.out
  case rest=>
   obtain⟨w2,hw2⟩:=zex (wc);rw[<-hw2]at hcut⊢;clear hw2;have H2:=hid hcut;clear hcut;have hi:=dA I.t;have HA:=hid (λW=>kG W);have HC:=hid (λW (hn:za w2 W)=>YE (H2.out.new hn) (by have:=HL.out.1;have:=HL.out.2.1;have:=HL.out.2.2;omega) (by decide) .roles);go_wp2_with fail;refine wp_region_noPanic ?_;go_region_with (first|(go_at_call 217;refine(HA.out _).mono ?_;rintro e w1 ⟨rfl,rfl⟩)|(go_at_call 226;refine(HC.out _ (by first|exact za.refl _|exact(za.refl _).drew|exact(za.refl _).drew.drew)).mono ?_;rintro e w2 ⟨rfl,h2⟩;have H3:=hid h2;clear h2))
   all_goals refine NoPanic.normal ?_
   all_goals
    go_wp2;refine leaves_cons (f:=78) (args:= #[ptr I.t]) (by simp) (hi _) ?_;obtain⟨l1,wb1,hs1,hB1,hm1⟩:=H3.out;refine(fk hB1 (by decide) (by decide)).mono ?_;rintro e u' w'' ⟨rfl,rfl,hs2,hB2⟩;exact⟨_,results_none rfl _ _ _,rfl,l1,wb1,hs1.trans hs2,hB2,hm1⟩
theorem Ge:∀{ns:List Bytes} (_:∀x∈ns,x≠[]),zk ns [0]=0
 |[],_=>rfl
 |x::ns,h=>by
  rw[yU,if_neg];have h0:=h x (by simp);cases x with
  |nil=>exact absurd rfl h0
  |cons a r=>
   unfold zt;by_cases h1:a<0
   ·exact absurd h1 (by simp)
   ·rw[if_neg h1];by_cases h2:0<a
    ·rw[if_pos h2];decide
    ·rw[if_neg h2];cases r<;>simp[zt]
structure YH(w W wr:World)(cc bk eb n c:Nat)(p:Option Addr)(ev:Value)(kv vv:Nat->Value)(k:Nat)(v8 v9:Value):Prop where
 mod:zo (· =cc) w wr
 cur:wr.heap[cc]? =some (.cells #[.slice p n c,.int .i64 k,ptr bk] 486 (0,0))
 box:wr.cell? ⟨eb,0,none⟩=some ev
 k8:wr.ownsRow W.heap.size 75 1 v8 k ((List.range k).map kv)
 k9:wr.ownsRow W.heap.size 75 1 v9 k ((List.range k).map vv)
 ne:∀b,v8.ownBlock=some b->v9.ownBlock≠some b
 size:W.heap.size<=wr.heap.size
section
variable{w W wr w5:World}{cc bk eb n c k:Nat}{p:Option Addr}{ev v8 v9 v5:Value}{kv vv:Nat->Value}{o:Obj}
theorem Gf(h:YH w W wr cc bk eb n c p ev kv vv k v8 v9)(hcc:cc<w.heap.size)(heb:eb<W.heap.size)(hww:w.heap.size<=W.heap.size){row:Option Nat}(hg:(wr.alloc o).grownBy w5 row)(hr:∀b,row=some b->W.heap.size<=b):
  zo (· =cc) w w5/\w5.heap[cc]? =some (.cells #[.slice p n c,.int .i64 k,ptr bk] 486 (0,0))/\w5.cell? ⟨eb,0,none⟩=some ev/\W.heap.size<=w5.heap.size:=by
 have hm:=zo.of_grown hg;have hs:(wr.alloc o).heap.size=wr.heap.size+1:=Array.size_push ..
 have hn:za wr (wr.alloc o):=(za.refl wr).alloc o;have hsz:=h.size;have hmod:=h.mod.size;refine⟨zo.trans (zo.trans h.mod hn λ_ _ e=>e.elim) hm λj hj e=>by have:=hr j e;omega,?_,?_,by have:=hm.size;omega⟩
 ·rw[hm.block cc (by omega) (λe=>by have:=hr cc e;omega)];exact hn.heap h.cur
 ·exact hm.cell (p:=⟨eb,0,none⟩) (λe=>by have:W.heap.size<=eb:=hr eb e;omega) (hn.le _ _ h.box)
theorem YH.app9(h:YH w W wr cc bk eb n c p ev kv vv k v8 v9)(hcc:cc<w.heap.size)(heb:eb<W.heap.size)(hww:w.heap.size<=W.heap.size)(ho:w5.ownsRow 0 75 1 v5 (k+1) ((List.range k).map vv++[vv k]))(hg:(wr.alloc o).grownBy w5 v9.ownBlock)(hf:∀b,v5.ownBlock=some b->v9.ownBlock=some b\/(wr.alloc o).heap.size<=b):
  zo (· =cc) w w5/\w5.heap[cc]? =some (.cells #[.slice p n c,.int .i64 k,ptr bk] 486 (0,0))/\w5.cell? ⟨eb,0,none⟩=some ev/\w5.ownsRow W.heap.size 75 1 v8 k ((List.range k).map kv)/\w5.ownsRow W.heap.size 75 1 v5 (k+1) ((List.range (k+1)).map vv)/\(∀b,v8.ownBlock=some b->v5.ownBlock≠some b)/\W.heap.size<=w5.heap.size:=by
 have hs:(wr.alloc o).heap.size=wr.heap.size+1:=Array.size_push ..
 have hn:za wr (wr.alloc o):=(za.refl wr).alloc o;have hsz:=h.size;have hr9:∀b,v9.ownBlock=some b->W.heap.size<=b:=λb e=>(World.ownsRow.lt h.k9 b e).1;obtain⟨h1,h2,h3,h4⟩:=Gf h hcc heb hww hg hr9;refine⟨h1,h2,h3,?_,?_,?_,h4⟩
 ·refine zU h.k8 λb hb=> ?_;have hl:=(World.ownsRow.lt h.k8 b hb).2;rw[(zo.of_grown hg).block b (by omega) (λe=>h.ne b hb e)];exact hn.block b hl λe=>e
 ·rw[List.range_succ,List.map_append];exact vD ho λb e=>by
   rcases hf b e with e2|e2
   ·exact hr9 b e2
   ·omega
 ·intro b hb e;have hl:=(World.ownsRow.lt h.k8 b hb).2;rcases hf b e with e2|e2
  ·exact h.ne b hb e2
  ·omega
theorem zev{w6:World}{v6:Value}{o8:Obj}(h1:zo (· =cc) w w5)(h2:w5.heap[cc]? =some (.cells #[.slice p n c,.int .i64 k,ptr bk] 486 (0,0)))(h3:w5.cell? ⟨eb,0,none⟩=some ev)(h4:w5.ownsRow W.heap.size 75 1 v8 k ((List.range k).map kv))(h5:w5.ownsRow W.heap.size 75 1 v5 (k+1) ((List.range (k+1)).map vv))(h6:∀b,v8.ownBlock=some b->v5.ownBlock≠some b)(h7:W.heap.size<=w5.heap.size)
  (hcc:cc<w.heap.size)(heb:eb<W.heap.size)(hww:w.heap.size<=W.heap.size)(ho:w6.ownsRow 0 75 1 v6 (k+1) ((List.range k).map kv++[kv k]))(hg:(w5.alloc o8).grownBy w6 v8.ownBlock)(hf:∀b,v6.ownBlock=some b->v8.ownBlock=some b\/(w5.alloc o8).heap.size<=b):
  zo (· =cc) w w6/\w6.heap[cc]? =some (.cells #[.slice p n c,.int .i64 k,ptr bk] 486 (0,0))/\w6.cell? ⟨eb,0,none⟩=some ev/\w6.ownsRow W.heap.size 75 1 v6 (k+1) ((List.range (k+1)).map kv)/\w6.ownsRow W.heap.size 75 1 v5 (k+1) ((List.range (k+1)).map vv)/\(∀b,v6.ownBlock=some b->v5.ownBlock≠some b)/\W.heap.size<=w6.heap.size:=by
 have hs:(w5.alloc o8).heap.size=w5.heap.size+1:=Array.size_push ..
 have hn:za w5 (w5.alloc o8):=(za.refl w5).alloc o8;have hr8:∀b,v8.ownBlock=some b->W.heap.size<=b:=λb e=>(World.ownsRow.lt h4 b e).1;have hm:=zo.of_grown hg;have hmod:=h1.size;refine⟨zo.trans (zo.trans h1 hn λ_ _ e=>e.elim) hm λj hj e=>by have:=hr8 j e;omega,?_,?_,?_,?_,?_,by have:=hm.size;omega⟩
 ·rw[hm.block cc (by omega) (λe=>by have:=hr8 cc e;omega)];exact hn.heap h2
 ·exact hm.cell (p:=⟨eb,0,none⟩) (λe=>by have:W.heap.size<=eb:=hr8 eb e;omega) (hn.le _ _ h3)
 ·rw[List.range_succ,List.map_append];exact vD ho λb e=>by
   rcases hf b e with e2|e2
   ·exact hr8 b e2
   ·omega
 ·refine zU h5 λb hb=> ?_;have hl:=(World.ownsRow.lt h5 b hb).2;rw[hm.block b (by omega) (λe=>h6 b e hb)];exact hn.block b hl λe=>e
 ·intro b hb e;have hl:=(World.ownsRow.lt h5 b e).2;rcases hf b hb with e2|e2
  ·exact h6 b e2 e
  ·omega
end
theorem GO{α β:Type}{R:α->β->Prop}:∀{l:List α} {m:List β} (_:l.length=m.length) (_:∀i (h1:i<l.length) (h2:i<m.length),R l[i] m[i]),qy R l m
 |[],[],_,_=>.nil
 |[],_::_,h,_=>by cases h
 |_::_,[],h,_=>by cases h
 |_::l,_::m,h,hr=>.cons (hr 0 (Nat.zero_lt_succ _) (Nat.zero_lt_succ _)) (GO (by simpa using h) λi h1 h2=>hr (i+1) (Nat.succ_lt_succ h1) (Nat.succ_lt_succ h2))
variable{c n:Nat}{cs:List Value}
theorem dI{p:Option Addr}(h:Sl r 1 cs (.slice p n c)):cs.length=n:=by obtain⟨p',n',c',e,hl,_⟩:=h;cases e;omega
theorem X4{q:Option Addr}:∀u∈[Value.slice q n c],u.oneCell'=true:=by intro u hu;rw[List.mem_singleton]at hu;rw[hu];rfl
variable{bk cc:Nat}{ps:yu}{pv:Value}
theorem Kq{ev:Value}{w:World}(hS:∀b,S b->b<w.heap.size)(hcc:cc<w.heap.size)
  (hrow:w.heap[cc]? =some (.cells #[pv,.int .i64 0,ptr bk] 486 (0,0)))(hb:w.cell? ⟨bk,2,none⟩=some pv)(hp:yV (im (λb=>S b\/b=cc) w) ps pv)(hri:zM (zJ ps))(hne:∀p∈ps,p.1≠[])(hsm:ps.length<=1000)(hx:Bs (im (λb=>S b\/b=cc) w) [0] xv)(he:Bs (im (λb=>S b\/b=cc) w) [255] ev)(hlt:∀p∈ps,zt p.1 [255]<0):
  Calls prog 320 #[ptr cc,xv,ev,.int .i64 (-1)] w λe w'=>∃ks vs,e=.returned (.tuple #[ks,vs])/\zo (· =cc) w w'/\qQ (im S w') (ps.map (·.2)) vs:=by
 obtain⟨p,n,c,kv,vv,rfl,hlen,hn,hc,hpc,hat⟩:=hp.at
 obtain⟨xp,xn,xc,rfl,_⟩:=hx.shape;obtain⟨ep,en,ec,rfl,hen⟩:=he.shape;have hen1:en=1:=by rw[<-hen];rfl
 subst hen1;have h0:w.cell? ⟨cc,0,none⟩=some (.slice p n c):=by rw[cell_of_row w cc 0 _ _ (0,0) hrow];rfl
 have h1:w.cell? ⟨cc,1,none⟩=some (.int .i64 0):=by rw[cell_of_row w cc 1 _ _ (0,0) hrow];rfl
 have h2:w.cell? ⟨cc,2,none⟩=some (ptr bk):=by rw[cell_of_row w cc 2 _ _ (0,0) hrow];rfl
 obtain⟨W,hW⟩:=zex ((w.alloc (.cells #[.slice xp xn xc] 75)).alloc (.cells #[.slice ep 1 ec] 75));have hNW:za w W:=by rw[hW];exact((za.refl w).alloc _).alloc _
 have hWs:W.heap.size=w.heap.size+2:=by rw[hW];exact(Array.size_push ..).trans (by rw[show(w.alloc (.cells #[.slice xp xn xc] 75)).heap.size=w.heap.size+1 from Array.size_push ..])
 have hbx:W.cell? ⟨w.heap.size+1,0,none⟩=some (.slice ep 1 ec):=by have h9:=zg (w.alloc (.cells #[.slice xp xn xc] 75)) (.cells #[.slice ep 1 ec] 75);rw[show(w.alloc (.cells #[.slice xp xn xc] 75)).heap.size=w.heap.size+1 from Array.size_push ..,<-hW]at h9;rw[cell_of_row W _ 0 _ _ (0,0) h9];rfl
 have kbx:W.cell? ⟨w.heap.size,0,none⟩=some (.slice xp xn xc):=by rw[hW,World.cell?_alloc_lt _ _ _ (by simp),World.cell?_alloc_new];rfl
 have hrowW:=hNW.heap hrow;have hM:∀i:Int,zo (· =cc) w (W.setCell ⟨cc,1,none⟩ (.int .i64 i)):=λi=>zo.setCell (S:=(· =cc)) (hNW.mod _) (λ_=>rfl) _;have hle:∀i:Int,(im (λb=>S b\/b=cc) w).le (W.setCell ⟨cc,1,none⟩ (.int .i64 i)).cell? :=λi=>
  (((hM i).mono λ_ _ e=>Or.inr e).im (λ_ _ h=>h)).le_trans (zd _ _)
 have hpz:zk (zJ ps) [0]=0:=Ge λx hx=>by obtain⟨q,hq,rfl⟩:=List.mem_map.1 hx;exact hne q hq
 have HSK0:=(JG (r:=im (λb=>S b\/b=cc) w) (w:=W) (cc:=cc) (bk:=bk) (ps:=ps) (a:=0) (kv:=kv) (vv:=vv) (by omega) (hNW.le _ _ h0) (hNW.le _ _ h1) (hNW.le _ _ h2)
  (by simp[World.frozen?,hrowW]) (hNW.le _ _ hb) hp hri (by omega) hx (vd hNW _) (hle _) (λk hk=>by obtain⟨b,o,h1,h2,h3,_⟩:=hat k hk;exact⟨b,o,h1,h2,h3⟩))
 rw[hpz]at HSK0;have HSK:=hid (HSK0.mono (R':=λe w'=>e=.returned (.tuple #[jE n kv 0,jE n vv 0])/\YH w W w' cc bk (w.heap.size+1) n c p (.slice ep 1 ec) kv vv 0 (.slice none 0 0) (.slice none 0 0)) (by
  rintro e w' ⟨rfl,m,rfl⟩;refine⟨rfl,(hM _).drewN _,?_,?_,World.ownsRow_nil _ _ _ _,World.ownsRow_nil _ _ _ _,(λb e=>by cases e),?_⟩
  ·exact heap_setCell_same W cc 1 _ _ _ hrowW
  ·rw[World.cell?_drewN,World.cell?_setCell_other _ _ _ _ (by intro e;simp only[Addr.mk.injEq]at e;omega)];exact hbx
  ·simp[World.setCell]))
 have himW:∀w1,zo (· =cc) w w1->(im (λb=>S b\/b=cc) w).le w1.cell? :=λw1 h=>((h.mono λ_ _ e=>Or.inr e).im (λ_ _ h=>h)).le_trans (zd _ _);have HIM:=hid himW;have HAT:=hid hat
 have HE:=hid he;have HLT:=hid hlt;have HNE:=hid hne;have HLEN:=hid hlen;have HW:=hid hW;have HWS:=hid hWs;have HCC:=hid hcc;have HS:=hid hS;clear hp hx he hri hne hlt hb h0 h1 h2 hbx hrowW hM hle hpz HSK0 himW hat hNW hrow hpc hen hW hS;go_enter func320,ntmps320;go_upto_region 8 with fail
 rw[<-HW.out];go_wp2_with (go_at_call 326;go_must (refine HSK.out.mono ?_);rintro e w1 ⟨rfl,hm1⟩;have HM1:=hid hm1;clear hm1)
 all_goals
  go_loopg [8,9,11,12] n (λkx s8 s9 s11 s12 wr=>∃k:Nat,k<=n/\n-k<=kx/\s11=jE n kv k/\s12=jE n vv k/\YH w W wr cc bk (w.heap.size+1) n c p (.slice ep 1 ec) kv vv k s8 s9)
  case atStart=>exact⟨0,Nat.zero_le _,by omega,rfl,rfl,HM1.out⟩
  case round=>
   obtain⟨k,hk,hkx,rfl,rfl,hr⟩:=hrel;obtain⟨p8,n8,c8,rfl⟩:=(Sl.of_own hr.k8).shape;obtain⟨p9,n9,c9,rfl⟩:=(Sl.of_own hr.k9).shape;have hn8:n8=k:=by have:=dI (Sl.of_own hr.k8);rw[List.length_map,List.length_range]at this;exact this.symm
   have hn9:n9=k:=by have:=dI (Sl.of_own hr.k9);rw[List.length_map,List.length_range]at this;exact this.symm
   subst hn8;subst hn9;have HR:=hid hr;by_cases hkn:n9<n
   ·have hk':n9<ps.length:=by rw[HLEN.out];exact hkn
    obtain⟨b,o,_,hk0,hv0,_,hbk,hbv⟩:=HAT.out n9 hkn;obtain⟨qb,qo,qn,qc,hq⟩:=hbk.some_of_ne (HNE.out _ (List.getElem_mem hk'));obtain⟨vp,vn,vc,hvv,_⟩:=hbv.shape;have e1:jE n kv n9=.slice (some ⟨qb,qo,none⟩) qn qc:=by unfold jE;rw[if_pos hkn,hq]
    have e2:jE n vv n9=.slice vp vn vc:=by unfold jE;rw[if_pos hkn,hvv]
    rw[e1,e2];have hle:=HIM.out wr hr.mod;have him:=KC hr.box (show Z9 wr ps[n9].1 (.slice (some ⟨qb,qo,none⟩) qn qc) by rw[<-hq];exact hbk.mono hle) (show Z9 wr [255] _ from HE.out.mono hle);rw[decide_eq_true (HLT.out _ (List.getElem_mem hk'))]at him;have HISM:=hid him;have HBD:Hid ((((List.range n9).map vv).length+[Value.slice vp vn vc].length)*(24+1)<=140737488355328):=hid (by rw[List.length_map,List.length_range,List.length_singleton];omega);have HBD8:Hid ((((List.range n9).map kv).length+[Value.slice (some ⟨qb,qo,none⟩) qn qc].length)*(24+1)<=140737488355328):=hid (by rw[List.length_map,List.length_range,List.length_singleton];omega);have hlim: ¬((9223372036854775807:Int)=(n9:Int)+1):=by omega
    have HQ:=hid hq;have HVV:=hid hvv;clear hr hk' hk0 hv0 hbk hbv e1 e2 hle him hq hvv;go_wp2_with (first|(go_at_call 324;go_must (refine HISM.out.mono ?_);rintro e w1 ⟨rfl,rfl⟩)|(at_builtin;go_must (refine qN jY rfl rfl (World.ownsRow.alloc (qK HR.out.k9 0 (Nat.zero_le _)) _) rfl rfl (news:=[.slice vp vn vc]) (Sl.made wr [.slice vp vn vc] _ 1 1 rfl (by omega)) X4 HBD.out ?_)));intro v5 w5 ho hg hf5;obtain⟨p5,n5,c5,rfl⟩:=(Sl.of_own ho).shape;have ho':w5.ownsRow 0 75 1 (.slice p5 n5 c5) (n9+1) ((List.range n9).map vv++[vv n9]):=by rw[HVV.out];exact ho
    have HA:=hid (YH.app9 HR.out HCC.out (by have:=HWS.out;omega) (by have:=HWS.out;omega) ho' hg (λb e=>(hf5 b e).imp (λe1=>e1) λe1=>Nat.le_trans (Nat.le_of_eq (Array.size_push ..)) e1));clear ho hg hf5 ho';go_wp2_with (at_builtin;go_must (refine qN jY rfl rfl (World.ownsRow.alloc (qK HA.out.2.2.2.1 0 (Nat.zero_le _)) _) rfl rfl (news:=[.slice (some ⟨qb,qo,none⟩) qn qc]) (Sl.made w5 [.slice (some ⟨qb,qo,none⟩) qn qc] _ 1 1 rfl (by omega)) X4 HBD8.out ?_));intro v6 w6 ho hg hf5;obtain⟨p6,n6,c6,rfl⟩:=(Sl.of_own ho).shape;have ho':w6.ownsRow 0 75 1 (.slice p6 n6 c6) (n9+1) ((List.range n9).map kv++[kv n9]):=by rw[HQ.out];exact ho
    have hn6:n6=n9+1:=by have:=dI (Sl.of_own ho');rw[List.length_append,List.length_map,List.length_range,List.length_singleton]at this;exact this.symm
    obtain⟨a1,a2,a3,a4,a5,a6,a7⟩:=HA.out;obtain⟨b1,b2,b3,b4,b5,b6,b7⟩:=zev a1 a2 a3 a4 a5 a6 a7 HCC.out (by have:=HWS.out;omega) (by have:=HWS.out;omega) ho' hg (λb e=>(hf5 b e).imp (λe1=>e1) λe1=>Nat.le_trans (Nat.le_of_eq (Array.size_push ..)) e1);subst hn6;have hm7:∀i:Int,zo (· =cc) w (w6.setCell ⟨cc,1,none⟩ (.int .i64 i)):=λi=>zo.setCell b1 (λ_=>rfl) _;have HNX:=hid ((dP (r:=im (λb=>S b\/b=cc) w) (w:=w6) (cc:=cc) (a:=n9) (p:=p) (n:=n) (c:=c) (kv:=kv) (vv:=vv) (by omega) (by omega) (by rw[cell_of_row w6 cc 0 _ _ (0,0) b2];rfl) (by rw[cell_of_row w6 cc 1 _ _ (0,0) b2];rfl) (by simp[World.frozen?,b2]) (HIM.out _ (hm7 _)) (λk hk=>by obtain⟨b,o,h1,h2,h3,_⟩:=HAT.out k hk;exact⟨b,o,h1,h2,h3⟩)).mono (R':=λe w'=>e=.returned (.tuple #[jE n kv (n9+1),jE n vv (n9+1)])/\YH w W w' cc bk (w.heap.size+1) n c p (.slice ep 1 ec) kv vv (n9+1) (.slice p6 (n9+1) c6) (.slice p5 n5 c5)) (by
     rintro e w' ⟨rfl,m,rfl⟩;have hw9:=HWS.out;have hc9:=HCC.out;refine⟨rfl,(hm7 _).drewN _,heap_setCell_same w6 cc 1 _ _ _ b2,?_,?_,?_,b6,?_⟩
     ·rw[World.cell?_drewN,World.cell?_setCell_other _ _ _ _ (by intro e;simp only[Addr.mk.injEq]at e;omega)];exact b3
     ·exact j_ (b:=cc) (i:=1) b4 λq hq e=>by have:=(World.ownsRow.lt b4 q hq).1;omega
     ·exact j_ (b:=cc) (i:=1) b5 λq hq e=>by have:=(World.ownsRow.lt b5 q hq).1;omega
     ·simpa[World.setCell]using b7))
    clear ho hg hf5 ho' a1 a2 a3 a4 a5 a6 a7 b1 b2 b3 b4 b5 b6 b7 hm7;go_wp2_with (go_at_call 303;go_must (refine HNX.out.mono ?_);rintro e w7 ⟨rfl,hr7⟩;have HR7:=hid hr7;clear hr7);go_roundg (gk-1)
    case rel=>exact⟨n9+1,by omega,by omega,rfl,rfl,HR7.out⟩
    case measure=>omega
   ·have hkn':n9=n:=by omega
    subst hkn';have e1:∀f,jE n9 f n9=.slice none 0 0:=λf=>by unfold jE;rw[if_neg (Nat.lt_irrefl _)]
    rw[e1,e1];clear e1 hr;go_wp2;go_ret2;have hr:=HR.out;refine⟨_,_,rfl,hr.mod,(List.range n9).map vv,(Sl.of_own hr.k9).im_of λq hq e=> ?_,GO (by rw[List.length_map,List.length_map,List.length_range,HLEN.out]) λi h1 h2=> ?_⟩
    ·have h8:=(World.ownsRow.lt hr.k9 q hq).1;have h9:=HS.out q e;have:=HWS.out;omega
    ·rw[List.length_map]at h1;rw[List.getElem_map,List.getElem_map,List.getElem_range];obtain⟨b,o,_,_,_,_,_,hbv⟩:=HAT.out i (by rw[<-HLEN.out];exact h1);exact hbv.mono (((hr.mod.mono λ_ _ e=>Or.inr e).im (λ_ _ h=>h)).le_trans (jq λ_ h=>Or.inl h))
variable{kv:Value}
theorem fK{w:World}{m sm db:Nat}{b:zF}{bs:List (Nat×z_)}{ev:Value}(hS:∀b,S b->b<w.heap.size)(hFS:∀b,F b->S b)
  (hbt:qW w t wtx be pend m sm pdel)(h:kw (im S w) w F wtx db true bs)(hj:bs[j]? =some (bk,(b.name,ps)))(hpl:zk (zG bs) b.name=j)(hfd:zx (zG bs) b.name=true)
  (hri:zM (zJ ps))(hne:∀p∈ps,p.1≠[])(hsm:ps.length<=1000)(hk:Bs (im S w) [0] kv)(he:Bs (im S w) [255] ev)(hlt:∀p∈ps,zt p.1 [255]<0):
  Calls prog 336 #[ptr t,b.val,kv,ev,.int .i64 (-1)] w λe w'=>∃ks vs,e=.returned (.tuple #[ks,vs])/\za w w'/\qQ (im S w') (ps.map (·.2)) vs:=by
 have hjl:=(List.getElem?_eq_some_iff.1 hj).1;have hje:=(List.getElem?_eq_some_iff.1 hj).2;obtain⟨hFb,nv,pv,fp,g1,g2,g3⟩:=h.hb _ (List.mem_of_getElem? hj);have c0:w.cell? ⟨t,0,none⟩=some (ptr wtx):=by rw[cell_of_row w t 0 _ _ (0,0) hbt];rfl
 have HNM:=jR b;have hmeth:=vB b.raw;have hfin:∀w1,za w w1->∀xv,Bs w1.cell? b.name xv->(∀q,xv.ownBlock=some q->w.heap.size<=q)->
   Calls prog 319 #[ptr wtx,xv] w1 λe w'=>e=.returned (ptr bk)/\w1=w':=by
  intro w1 hn1 xv hxv hfr;have hr:(im S w).le (im S w1):=za.im hn1 S;have ht1:kw (im S w1) w1 F wtx db true bs:=h.frame (λq hq=>hn1.block q (hS q (hFS q hq)) (λe=>e)) hr;have hx1:Bs (im S w1) b.name xv:=Bs.im_of (S:=S) (w:=w1) hxv λq hq e=>by have:=hfr q hq;have:=hS q e;omega
  have:=Zf ht1 (zd _ _) hx1 hjl hpl hfd;rw[hje]at this;exact this
 have HFIN:=hid hfin;clear hfin;have hcur:∀w1,za w w1->Calls prog 255 #[ptr bk] w1 λe w2=>e=.returned (ptr w1.heap.size)/\za w w2/\
   Calls prog 320 #[ptr w1.heap.size,kv,ev,.int .i64 (-1)] w2 λe w3=>∃ks vs,e=.returned (.tuple #[ks,vs])/\za w w3/\qQ (im S w3) (ps.map (·.2)) vs:=by
  intro w1 hn1;have hb1:=hn1.heap g1;have c2:w1.cell? ⟨bk,2,none⟩=some pv:=by rw[cell_of_row w1 bk 2 _ _ (0,0) hb1];rfl
  refine(x7 c2 g3.shape).mono ?_;rintro e w2 ⟨rfl,rfl⟩;have hn2:za w (w1.alloc (.cells #[pv,.int .i64 0,ptr bk] 486)):=zo.alloc hn1 _;refine⟨rfl,hn2,?_⟩;have hcc:=zg w1 (.cells #[pv,.int .i64 0,ptr bk] 486);have hbl:bk<w1.heap.size:=World.block_lt_of_cell? w1 _ c2;have hle:=xz (S:=S) hn2 hn1.size;refine(Kq (S:=S) (bk:=bk) (ps:=ps) (pv:=pv) (λq e=>Nat.lt_of_lt_of_le (hS q e) hn2.size) (by simp) hcc (by rw[World.cell?_alloc_lt _ _ _ (by simpa using hbl)];exact c2) (g3.mono hle) hri hne hsm (hk.mono hle) (he.mono hle) hlt).mono ?_;rintro e w3 ⟨ks,vs,rfl,hm3,hv3⟩;exact⟨ks,vs,rfl,zo.trans hn2 hm3 (λq hq e=>by have:=hn1.size;omega),hv3⟩
 have HCUR:=hid hcur;clear hcur;obtain⟨kp,kn,kc,rfl,_⟩:=hk.shape;obtain⟨ep,en,ec,rfl,_⟩:=he.shape;have ht:=World.block_lt_of_cell? w _ c0;clear hk he hlt h g1 g2 g3 hri hsm hje hj hbt hne;unfold zF.val;generalize zF.raw b=raw at*
 go_enter func336,ntmps336;go_wp2;go_region_with (first|(go_at_call 300;refine(HNM _).mono ?_;rintro e w1 ⟨xv,rfl,hn1,hx1,hfr1⟩;have d0:w1.cell? ⟨t,0,none⟩=some (ptr wtx):=hn1.le _ _ c0;obtain⟨xp,xn,xc,rfl,_⟩:=hx1.shape;have HX1:=hid hx1;have HFR1:=hid hfr1;have HN1:=hid (za.undrew hn1);clear hx1 hfr1 hn1)|(go_at_call 319;refine(HFIN.out _ HN1.out _ HX1.out HFR1.out).mono ?_;rintro e w2 ⟨rfl,rfl⟩))
 all_goals
  go_wp2_with (first|(go_at_call 255;go_must (refine(HCUR.out _ HN1.out).mono ?_);rintro e w2 ⟨rfl,hn2,hur⟩;have HN2:=hid hn2;have HUR:=hid hur;clear hn2 hur)|(go_at_call 320;go_must (refine HUR.out.mono ?_);rintro e w3 ⟨ks,vs,rfl,hn3,hv3⟩;have HN3:=hid hn3;have HV3:=hid hv3;clear hn3 hv3));go_ret2;exact⟨_,_,rfl,HN3.out,HV3.out⟩
end Go.Proofs.YtbmdoinjkligiaaGreat
