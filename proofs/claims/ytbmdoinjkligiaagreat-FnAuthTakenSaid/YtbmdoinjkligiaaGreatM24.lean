/- Contracts and laws that the last text joins. -/
import Derived.Deep.RegionHeld3
import Derived.Test.YtbmdoinjkligiaaGreatM14
set_option maxRecDepth 100000
set_option maxHeartbeats 40000000
set_option linter.all false
namespace Go.Proofs.YtbmdoinjkligiaaGreat
open Tryz
open Lib(hid)
open Go.RowKit
def xD(C:List zZ)(x:Bytes):List zZ:=if zx (C.map (·.1)) x then C else kU C (zk (C.map (·.1)) x) (x,[])
theorem Dw(bs:List (Nat×zZ)):zG bs=(bs.map (·.2)).map (·.1):=by unfold zG;rw[List.map_map];rfl
variable{F:Nat->Prop}{j tx:Nat}{r:Rd}{wt:Bool}{xv:Value}
theorem VA{w:World}{db:Nat}{bs:List (Nat×zZ)}(h:kr r w F tx db wt bs)(hr:r.le w.cell?){x:Bytes}(hx:Bs r x xv)
  (hj:j<bs.length)(pS:zk (zG bs) x=j)(RI:zx (zG bs) x=true):
  Calls prog 227 #[ptr tx,xv] w λe w'=>e=.returned (.tuple #[ptr bs[j].1,.nilIface])/\w=w':=by
 have ru:=hid (h.place hr hx);rw[pS,RI]at ru;obtain⟨p,n,c,EM,h_,P5,T_,pO⟩:=h.row;obtain⟨b,o,rfl,PA,_⟩:=pO j hj;have Mw:(j:Int)<(n:Int):=by omega
 clear pO hr h hx RI pS;generalize bs[j].1=q at*
 go_enter func227,ntmps227;go_wp2_with (go_at_call 228;go_must (refine ru.out.mono ?_);rintro e w' ⟨rfl,rfl⟩);go_returns;exact⟨rfl,rfl⟩
variable{S:Nat->Prop}
theorem da{w:World}{db:Nat}{bs:List (Nat×zZ)}(hS:∀b,S b->b<w.heap.size)(pG:∀b,F b->S b)
  (h:kr (im S w) w F tx db true bs){x:Bytes}(hx:Bs (im S w) x xv)(RQ:x.length<=1000)(Hx:bs.length<=1000):
  Calls prog 227 #[ptr tx,xv] w λe w'=>∃nb,e=.returned (.tuple #[ptr nb,.nilIface])/\∃F' bs',zq F w w'/\(∀b,F' b->F b\/w.heap.size<=b/\b<w'.heap.size)/\(∀b,F b->F' b)/\
   kr (im (λb=>S b\/F' b) w') w' F' tx db true bs'/\bs'.map (·.2)=xD (bs.map (·.2)) x:=by
 unfold xD;rw[<-Dw];by_cases hf:zx (zG bs) x=true
 ·rw[if_pos hf];have hj:zk (zG bs) x<bs.length:=by
   unfold zx at hf;have h1:(zG bs)[zk (zG bs) x]? =some x:=by simpa using hf
   have:=(List.getElem?_eq_some_iff.1 h1).1;unfold zG at this⊢;simpa using this
  refine(VA h (zd _ _) hx hj rfl hf).mono ?_;rintro e w' ⟨rfl,rfl⟩;refine⟨_,rfl,F,bs,zq.refl _ _,λb e=>Or.inl e,λb e=>e,?_,rfl⟩;have e9:(λb=>S b\/F b)=S:=by
   funext b
   exact propext ⟨λe=>e.elim id (pG b),Or.inl⟩
  rw[e9];exact h
 ·rw[if_neg hf];refine(GJ hS pG h hx RQ (by simpa using hf) Hx).mono ?_;rintro e w' ⟨nb,F',rfl,h1,h2,h3,h4⟩;exact⟨nb,rfl,F',_,h1,h2,h3,h4,Je (λe:Nat×zZ=>e.2) _ _ _⟩
theorem Dx(b:zF):b.name.length<=1000:=by cases b<;>decide
def zcR(S F:Nat->Prop)(w:World)(t wtx db be pend m sm pdel:Nat)(C:List zZ)(w':World):Prop:=
 ∃F' bs',zq (λj=>F j\/j=t) w w'/\(∀b,F' b->F b\/w.heap.size<=b/\b<w'.heap.size)/\(∀b,F b->F' b)/\kr (im (λb=>S b\/F' b) w') w' F' wtx db true bs'/\bs'.map (·.2)=C/\qU w' t wtx be (pend+1) m sm pdel
variable{C:List zZ}{be pdel pend t wtx:Nat}{w1 w2:World}
theorem zai{w:World}{db m sm:Nat}(hn:za w w1)(Pd:qU w t wtx be pend m sm pdel)(SE:S t)(TM: ¬F t)
  (h:∃F' bs',zq F w1 w2/\(∀b,F' b->F b\/w1.heap.size<=b/\b<w2.heap.size)/\(∀b,F b->F' b)/\kr (im (λb=>S b\/F' b) w2) w2 F' wtx db true bs'/\bs'.map (·.2)=C):
  w2.cell? ⟨t,0,none⟩=some (ptr wtx)/\w2.cell? ⟨t,2,none⟩=some (.int .i64 pend)/\w2.frozen? ⟨t,2,none⟩=false/\zcR S F w t wtx db be pend m sm pdel C (w2.setCell ⟨t,2,none⟩ (.int .i64 (pend+1))):=by
 obtain⟨F',bs',h1,h2,h3,h4,h5⟩:=h;have Mz:t<w.heap.size:=(Array.getElem?_eq_some_iff.1 Pd).1;have hs:=hn.size;have pw:qU w2 t wtx be pend m sm pdel:=by unfold qU;rw[h1.block t (by omega) TM];exact hn.heap Pd
 have hnF: ¬F' t:=λe=>by
  rcases h2 t e with e|e
  ·exact TM e
  ·omega
 refine⟨by rw[cell_of_row w2 t 0 _ _ (0,0) pw];rfl,by rw[cell_of_row w2 t 2 _ _ (0,0) pw];rfl,by unfold qU at pw;simp[World.frozen?,pw],F',bs',?_,λb e=> ?_,h3,?_,h5,?_⟩
 ·exact vx (S:=λj=>F j\/j=t) (zq.trans (hn.mod _) (h1.mono λ_ _ e=>Or.inl e) λj _ e=>e) (Or.inr rfl) _
 ·rcases h2 b e with e|⟨e1,e2⟩
  ·exact Or.inl e
  ·exact Or.inr ⟨by omega,by simpa[World.setCell]using e2⟩
 ·exact h4.frame (λb hb=>Below.heap_setCell _ _ _ _ (λe=>hnF (by rw[<-show b=t from e];exact hb))) (kP _ w2 ⟨t,2,none⟩ (Or.inl SE) _)
 ·unfold qU at pw⊢;rw[heap_setCell_same w2 t 2 _ _ _ pw];simp
theorem Dy{w:World}{db m sm:Nat}{b:zF}{bs:List (Nat×zZ)}(hS:∀b,S b->b<w.heap.size)(pG:∀b,F b->S b)(SE:S t)(TM: ¬F t)
  (Pd:qU w t wtx be pend m sm pdel)(h:kr (im S w) w F wtx db true bs)(Hx:bs.length<=1000)(pN:pend<=1000000):
  Calls prog 226 #[ptr t,b.val] w λe w'=>e=.returned (.tuple #[])/\zcR S F w t wtx db be pend m sm pdel (xD (bs.map (·.2)) b.name) w':=by
 have c0:w.cell? ⟨t,0,none⟩=some (ptr wtx):=by rw[cell_of_row w t 0 _ _ (0,0) Pd];rfl
 have Ti:=jP b;have Hm:=vy b.raw;have Hv:∀w1,za w w1->∀xv,Bs w1.cell? b.name xv->(∀q,xv.ownBlock=some q->w.heap.size<=q)->
   Calls prog 227 #[ptr wtx,xv] w1 λe w2=>∃nb,e=.returned (.tuple #[ptr nb,.nilIface])/\w2.cell? ⟨t,0,none⟩=some (ptr wtx)/\w2.cell? ⟨t,2,none⟩=some (.int .i64 pend)/\w2.frozen? ⟨t,2,none⟩=false/\zcR S F w t wtx db be pend m sm pdel (xD (bs.map (·.2)) b.name) (w2.setCell ⟨t,2,none⟩ (.int .i64 (pend+1))):=by
  intro w1 hQ xv wi Pw;have hr:(im S w).le (im S w1):=za.im hQ S;have sU:kr (im S w1) w1 F wtx db true bs:=h.frame (λq hq=>hQ.block q (hS q (pG q hq)) (λe=>e)) hr;have pB:Bs (im S w1) b.name xv:=Bs.im_of (S:=S) (w:=w1) wi λq hq e=>by have:=Pw q hq;have:=hS q e;omega
  refine(da (λq e=>Nat.lt_of_lt_of_le (hS q e) hQ.size) pG sU pB (Dx b) Hx).mono ?_;rintro e w2 ⟨nb,rfl,h9⟩;exact⟨nb,rfl,zai hQ Pd SE TM h9⟩
 have pj:=hid Hv;clear Hv;have ht:=World.block_lt_of_cell? w _ c0;clear h Pd hS pG;unfold zF.val;generalize zF.raw b=raw at*
 go_enter func226,ntmps226;go_wp2;go_region_with (first|(go_at_call 300;refine(Ti _).mono ?_;rintro e w1 ⟨xv,rfl,hQ,pB,rz⟩;have d0:w1.cell? ⟨t,0,none⟩=some (ptr wtx):=hQ.le _ _ c0;obtain⟨xp,xn,xc,rfl,_⟩:=pB.shape;have SF:=hid pB;have SA:=hid rz;have Hs:=hid (za.undrew hQ);clear pB rz hQ)|(go_at_call 227;refine(pj.out _ Hs.out _ SF.out SA.out).mono ?_;rintro e w2 ⟨nb,rfl,z0,z2,zf,hm⟩;have HM:=hid hm;clear hm))
 all_goals
  go_wp2;go_returns;exact⟨rfl,HM.out⟩
variable{m4 rt:Nat}{sq:List (zF×Value)}
theorem UR{w:World}{m sm:Nat}{ver:Int}(hS:∀j,S j->j<w.heap.size)(pG:∀j,F j->S j)(L_:S sm)(Hx:sm≠m)
  (h3:w.cell? ⟨t,3,none⟩=some (.map (some m)))(h4:w.cell? ⟨t,4,none⟩=some (.map (some sm)))(rM:w.cell? ⟨rt,0,none⟩=some (.map (some m4)))(Pv:w.cell? ⟨rt,1,none⟩=some (.int .u64 ver))(It:w.frozen? ⟨rt,1,none⟩=false)
  (h2:zD kY w m [])(Md:zD kY w sm sq)(sh:k_ sq):
  Calls prog 83 #[.pointer (some ⟨t,3,none⟩),.pointer (some ⟨rt,0,none⟩)] w λe w'=>e=.returned (.tuple #[])/\∃(w5:World) (sq':List (zF×Value)) (ver':Int),
   zq (λj=>j=m\/j=sm) w w5/\w'=w5.setCell ⟨rt,1,none⟩ (.int .u64 ver')/\zD kY w5 m []/\zD kY w5 sm sq'/\k_ sq':=by
 obtain⟨w0,Nm,No,PK,Tl⟩:=zD.range (P:=prog) (k:=299) (t:=239) (e:=300) (by kernel_rfl) h2;have tT:rt≠m:=λe=>by rw[h2.noCell (a:=⟨rt,0,none⟩) e]at rM;cases rM
 have LE:rt≠sm:=λe=>by rw[Md.noCell (a:=⟨rt,0,none⟩) e]at rM;cases rM
 have Mz:=World.block_lt_of_cell? w _ h3;have pZ:=World.block_lt_of_cell? w _ rM;have HS:=hid hS;have Sb:=hid pG;have MX:=hid Md;have BR:=hid sh;have S_:=hid PK;have NB:=hid No;clear hS pG Md sh PK No Tl h2;go_enter func83,ntmps83;go_wp2;go_loopw [4] (λ_ wr=>wr=w0) (λ_ wr=>wr.rangeLeft m w.heap.size)
 case atStart=>rfl
 case round=>
  obtain rfl:=hrel;rcases zO.next (P:=prog) (k:=299) Zd NB.out 0 with⟨hl,RE⟩|⟨x,v,w1,RQ,Ss,RE,NN,Hl,pI,MT⟩
  ·have c3:=S_.out.le _ _ h3;have c4:=S_.out.le _ _ h4;have SJ:=MX.out.frame (S_.out.block _ MX.out.lt (λe=>e));have PE:=KC (S:=S) (F:=F) (es:=[]) (λj e=>Nat.lt_of_lt_of_le (HS.out j e) S_.out.size) Sb.out L_ c3 c4 (by simp[zl]) (by simp[zl]) Hx ⟨NB.out.owns,by simp,by simp⟩ SJ BR.out;have Hv:∀w5:World,(∃cur sq',zq (λj=>j=m\/j=sm\/j∈zl []) wr w5/\zQ (im S w5) w5 F m cur/\zD kY w5 sm sq'/\k_ sq'/\(∀e∈cur,e.2.2.2=[])/\(∀e∈cur,∃f∈([]:zY),f.1=e.1/\f.2.1=e.2.1/\f.2.2.1=e.2.2.1))->
     w5.cell? ⟨rt,1,none⟩=some (.int .u64 ver)/\w5.frozen? ⟨rt,1,none⟩=false/\zq (λj=>j=m\/j=sm) w w5/\zD kY w5 m []/\∃sq',zD kY w5 sm sq'/\k_ sq':=by
    rintro w5 ⟨cur,sq',g1,g2,g3,g4,g5,g6⟩;have Ra:cur=[]:=by
     cases cur with
     |nil=>rfl
     |cons e _=>obtain⟨f,hf,_⟩:=g6 e (by simp);cases hf
    subst Ra;have pr:zq (λj=>j=m\/j=sm) w w5:=zq.trans (S_.out.mod _) (g1.mono λj _ e=>by
     rcases e with e|e|e
     ·exact Or.inl e
     ·exact Or.inr e
     ·simp[zl]at e) λj _ e=>e
    have hb:w5.heap[rt]? =w.heap[rt]? :=pr.block rt pZ (λe=>e.elim tT LE);exact⟨by rw[World.cell?_of_block hb];exact Pv,by rw[World.frozen?_of_block hb];exact It,pr,g2.map,sq',g3,g4⟩
   have pj:=hid Hv;have HC:=hid PE;clear PE Hv SJ;go_wp2_with fail;refine HC.out.mono ?_;rintro e w5 ⟨rfl,h5⟩;obtain⟨v1,v2,pr,nk,sq',pC,Tm⟩:=pj.out w5 h5;have HF:=hid (And.intro pr (And.intro nk (And.intro pC Tm)));clear h5 pr nk pC Tm;go_wp2;go_returns;exact⟨rfl,w5,sq',_,HF.out.1,rfl,HF.out.2.1,HF.out.2.2.1,HF.out.2.2.2⟩
  ·simp[jq,NB.out]at Ss
variable{e2 e4:zY}{l:zu}{rb wb:List (Nat×zZ)}
theorem Dz{w:World}{I:zN}{b:zF}(h:jX l w I C wb rb pend pdel e2 e4)(Hx:wb.length<=1000)(pN:pend<=1000000):
  Calls prog 226 #[ptr I.t,b.val] w λe w'=>e=.returned (.tuple #[])/\∃l' wb',zB l w l' w'/\jX l' w' I C wb' rb (pend+1) pdel e2 e4/\wb'.map (·.2)=xD (wb.map (·.2)) b.name:=by
 obtain⟨cs,hC,RO⟩:=h.toC;have l2:=h.lab.2.1;refine(Dy (S:=l.some) (F:=l.is 9) h.bnd (λj e=>by show l j≠0;rw[show l j=9 from e];decide) (by show l _≠0;rw[l2];decide) (by show ¬(l _=9);rw[l2];decide) h.bt h.wtx Hx pN).mono ?_;rintro e w' ⟨rfl,F',bs',hm,h1,h2,h3,h4,h5⟩;obtain⟨G,hG⟩:∃G:Nat->Prop,G=λb=>F' b/\w.heap.size<=b:=⟨_,rfl⟩;have hs:zB l w (l.add G 9) w':=zB.ofAdd (by decide) h.bnd (hm.mono λj _ e=>by
  rcases e with e|e
  ·have e:l j=9:=e;exact⟨by rw[e];decide,by rw[e];decide⟩
  ·exact⟨by rw[e,l2];decide,by rw[e,l2];decide⟩) (λb e=>by
  rw[hG]at e;rcases h1 b e.1 with e2|e2
  ·have:=h.bnd b (by rw[show l b=9 from e2];decide);have:=e.2;omega
  ·exact e2)
 have k:=hC.kept hs (λn=>n=2\/n=9) λj ho=>by
  by_cases e:l j=9\/j=I.t
  ·rcases e with e|e
   ·exact Or.inl (Or.inr e)
   ·exact Or.inl (Or.inl (by rw[e];exact l2))
  ·exact Or.inr (hm.block j (h.bnd j ho.1) e)
 have hr:(im (λb=>l.some b\/F' b) w').le (im (l.add G 9).some w'):=λp v hp=>by
  have g:=zi.1 hp;refine zi.2 ⟨λe=> ?_,g.2⟩;by_cases e0:l p.block=0
  ·by_cases eG:G p.block
   ·rw[hG]at eG;exact g.1 (Or.inr eG.1)
   ·exact e ((zu.add_neg eG).trans e0)
  ·exact g.1 (Or.inl e0)
 have hw:kr (im (l.add G 9).some w') w' ((l.add G 9).is 9) I.wtx I.db true bs':=(h3.frame (λ_ _=>rfl) hr).mono λb hb=>by
  rcases h1 b hb with e|e
  ·show l.add G 9 b=9;rw[zu.add_old (by rw[show l b=9 from e];decide)];exact e
  ·have h0:l b=0:=by
    by_cases e0:l b=0
    ·exact e0
    ·have:=h.bnd b e0;omega
   exact zu.add_pos (by rw[hG];exact⟨hb,e.1⟩) h0
 have ny:=h.rtx.frame (w':=w') (λj hj=>hm.block j (h.bnd j (by rw[show l j=10 from hj];decide)) (λe=>by
  have hj:l j=10:=hj;rcases e with e|e
  ·have e:l j=9:=e;omega
  ·rw[e,l2]at hj;omega)) hs.le
 have eY:=ny.mono (F':=(l.add G 9).is 10) λb hb=>by show l.add G 9 b=10;rw[zu.add_old (by rw[show l b=10 from hb];decide)];exact hb
 exact⟨rfl,l.add G 9,bs',hs,Z9.toS ⟨k.bnd,k.lab,k.be (by decide),h5,k.rt (by decide),k.db (by decide),hw,k.buf2 (by decide) (by decide),k.buf4 (by decide) (by decide),h.apart,k.sq (by decide),k.cm (by decide)⟩ eY RO,h4⟩
theorem Xe{w:World}{I:zN}(h:jX l w I C wb rb pend pdel [] []):
  Calls prog 83 #[.pointer (some ⟨I.t,3,none⟩),.pointer (some ⟨I.rt,0,none⟩)] w λe w'=>e=.returned (.tuple #[])/\zB l w l w'/\jX l w' I C wb rb pend pdel [] []:=by
 obtain⟨cs,hC,RO⟩:=h.toC;obtain⟨l1,l2,l3,l4,l5,l6,l7,l8⟩:=h.lab;obtain⟨n,mu,wg,PF⟩:=h.rt;obtain⟨sq,Md,sh⟩:=h.sq;have nn:∀{a b m n:Nat},l a=m->l b=n->m≠n->a≠b:=λh1 h2 h3 e=>by subst e;exact h3 (h1.symm.trans h2)
 have so:∀{a m:Nat},l a=m->m≠0->l.some a:=λ{a m} h1 h2=>by show l a≠0;rw[h1];exact h2
 have Pd:=h.bt;refine(UR (S:=l.some) (F:=l.is 11) (t:=I.t) (rt:=I.rt) (m:=I.m) (sm:=I.sm) (m4:=I.m4) (ver:=n) h.bnd (λj e=>so e (by decide)) (so l6 (by decide)) (nn l6 l5 (by decide))
  (by rw[cell_of_row w I.t 3 _ _ (0,0) Pd];rfl) (by rw[cell_of_row w I.t 4 _ _ (0,0) Pd];rfl) (by rw[cell_of_row w I.rt 0 _ _ (0,0) PF];rfl) (by rw[cell_of_row w I.rt 1 _ _ (0,0) PF];rfl) (by simp[World.frozen?,PF])
  h.buf2.map Md sh).mono ?_
 rintro e w' ⟨rfl,w5,sq',ver',pr,rfl,nk,pC,Tm⟩;have hm:zq (λj=>j=I.m\/j=I.sm\/j=I.rt) w (w5.setCell ⟨I.rt,1,none⟩ (.int .u64 ver')):=vx (S:=λj=>j=I.m\/j=I.sm\/j=I.rt) (pr.mono λj _ e=>by
  rcases e with e|e
  ·exact Or.inl e
  ·exact Or.inr (Or.inl e)) (Or.inr (Or.inr rfl)) _
 have hT:∀j,(j=I.m\/j=I.sm\/j=I.rt)->l j=5\/l j=6\/l j=3:=λj e=>by
  rcases e with rfl|rfl|rfl
  ·exact Or.inl l5
  ·exact Or.inr (Or.inl l6)
  ·exact Or.inr (Or.inr l3)
 have hs:zB l w l (w5.setCell ⟨I.rt,1,none⟩ (.int .u64 ver')):=zB.ofMod h.bnd (hm.mono λj _ e=>by have:=hT j e;unfold zu.own;omega)
 have k:=hC.kept hs (λn=>n=5\/n=6\/n=3) λj ho=>by
  by_cases e:j=I.m\/j=I.sm\/j=I.rt
  ·exact Or.inl (hT j e)
  ·exact Or.inr (hm.block j (h.bnd j ho.1) e)
 have ny:=h.rtx.frame (w':=w5.setCell ⟨I.rt,1,none⟩ (.int .u64 ver')) (λj e=>hm.block j (h.bnd j (by rw[show l j=10 from e];decide)) (λe2=>by have:=hT j e2;have e:l j=10:=e;omega)) hs.le
 have n_:w5.heap[I.rt]? =w.heap[I.rt]? :=pr.block I.rt (h.bnd _ (by rw[l3];decide)) λe=>by
  rcases e with e|e
  ·exact nn l3 l5 (by decide) e
  ·exact nn l3 l6 (by decide) e
 refine⟨rfl,hs,Z9.toS ⟨k.bnd,k.lab,k.be (by decide),k.bt (by decide),⟨ver',mu,wg,?_⟩,k.db (by decide),k.wtx (by decide),⟨?_,by simp,by simp⟩,k.buf4 (by decide) (by decide),by simp,⟨sq',?_,Tm⟩,k.cm (by decide)⟩ ny RO⟩
 ·rw[heap_setCell_same w5 I.rt 1 _ _ _ (n_.trans PF)];rfl
 ·exact nk.frame (Below.heap_setCell _ _ _ _ (nn l5 l3 (by decide)))
 ·exact pC.frame (Below.heap_setCell _ _ _ _ (nn l6 l3 (by decide)))
variable{c3:Value}
theorem de{w:World}{m sm db:Nat}{u:FrameMode}{R1 R2:World->Prop}(hp:0<pend)(rm:pend<1000)(h0:kt w t be db rt m sm c3)(Pd:qU w t wtx be pend m sm 0)
  (hw:Calls prog 83 #[.pointer (some ⟨t,3,none⟩),.pointer (some ⟨rt,0,none⟩)] w.drew λe w'=>e=.returned (.tuple #[])/\(∃c3,kt w' t be db rt m sm c3)/\qU w' t wtx be pend m sm 0/\R1 w')
  (Ra:∀w' n,R1 w'->R2 (w'.drewN n)):
  CallsD prog 78 #[ptr t] u w λe u' w'=>u'=u/\(e=.returned (.tuple #[])/\R2 w'):=by
 obtain⟨a1,a4,_,_,_,_,_⟩:=h0.cells;obtain⟨c,PF⟩:=h0.rtCells;have a2:=Pd.cells.2.2.1;have Ho:((pend:Int)==0)=false:=by simp;omega
 have HL:=hid (Kq PF);have HW:=hid hw;clear hw;have Mc:=hid Ra;clear Ra;clear h0 PF Pd;go_enter_d func78,ntmps78;go_wp2_with (go_at_call 80;go_must (refine HL.out.mono ?_);rintro e w1 ⟨rfl,rfl⟩);go_still_tail 14,(by kernel_rfl);go_wp2_with fail;refine HW.out.mono ?_;rintro e w1 ⟨rfl,⟨c3',k1⟩,kb,r1⟩;obtain⟨b1,b4,_,_,_,_,_⟩:=k1.cells;obtain⟨c',tE⟩:=k1.rtCells;have b2:=kb.cells.2.2.1;have b5:=kb.cells.2.2.2;have bl:=k1.be.cells.2.1;have HK:=hid (QO tE);have pD:decide ((1000:Int)<=(pend:Int))=false:=by simp;omega
 have HU:=hid (λn:Nat=>QP (w:=w1.drewN n) kb k1.be rm);have tD:=hid r1;clear r1;clear k1 tE kb;go_wp2_with (go_at_call 82;go_must (refine HK.out.mono ?_);rintro e w2 ⟨rfl,rfl⟩);go_quiet (fail);go_wp2_with (go_at_call 84;go_must (refine(HU.out nq).mono ?_);rintro e w2 ⟨rfl,n,rfl⟩);go_returns;exact⟨rfl,Mc.out w1 (nq+n) tD.out⟩
theorem u_{w:World}{I:zN}{u:FrameMode}(h:jX l w I C wb rb pend 0 [] [])(hp:0<pend)(rm:pend<1000):
  CallsD prog 78 #[ptr I.t] u w λe u' w'=>u'=u/\(e=.returned (.tuple #[])/\(zB l w l w'/\jX l w' I C wb rb pend 0 [] [])):=by
 have hd:=h.drewN 1;refine de (R1:=λw1=>zB l w l w1/\jX l w1 I C wb rb pend 0 [] []) (R2:=λw2=>zB l w l w2/\jX l w2 I C wb rb pend 0 [] []) hp rm h.keeps h.bt ?_ ?_
 ·refine(Xe hd).mono ?_;rintro e w' ⟨rfl,hs,hB⟩;exact⟨rfl,⟨_,hB.keeps⟩,hB.bt,⟨hs.mod.undrew,hs.old,hs.new,hs.bnd⟩,hB⟩
 ·rintro w' n ⟨hs,hB⟩;exact⟨hs.drewN n,hB.drewN n⟩
theorem Xf(t:Nat)(W:World):(method 608 257 (ptr t) "UnsafeCreateBucket").run prog W=.ok (226,ptr t) W:=by kernel_rfl
theorem df(t:Nat)(W:World):(nilAhead 608 257 (ptr t) "UnsafeCreateBucket").run prog W=.ok (some false) W:=by kernel_rfl
theorem dh(t:Nat)(W:World):(nilAhead 608 257 (ptr t) "Unlock").run prog W=.ok (some false) W:=by kernel_rfl
theorem di(t:Nat)(W:World):(invoke (.fn (.method "Unlock") #[]) #[.iface 257 (ptr t)]).run prog W=.ok (.enter 78 #[ptr t]) W:=by kernel_rfl
def Bk3(l:zu)(w:World)(I:zN)(C:List zZ)(rb:List (Nat×zZ))(pend:Nat)(D:List zZ)(wx:World):Prop:=∃l1 wb1,zB l w l1 wx/\jX l1 wx I C wb1 rb pend 0 [] []/\wb1.map (·.2)=D
theorem fa(C:List zZ)(x:Bytes):(xD C x).length<=C.length+1:=by
 unfold xD;split
 ·omega
 ·unfold kU;simp only[List.length_append,List.length_cons,List.length_take,List.length_drop];omega
variable{W:World}
theorem Yz{w:World}{I:zN}{D:List zZ}(h:Bk3 l w I C rb pend D W)(hD:D.length<=900)(hp:pend<=900)(b:zF):
  Calls prog 226 #[ptr I.t,b.val] W λe w'=>e=.returned (.tuple #[])/\Bk3 l w I C rb (pend+1) (xD D b.name) w':=by
 obtain⟨l1,wb1,hs,hB,hm⟩:=h;have hl:wb1.length=D.length:=by rw[<-hm,List.length_map]
 refine(Dz hB (b:=b) (by omega) (by omega)).mono ?_;rintro e w' ⟨rfl,l',wb',h1,h2,h3⟩;exact⟨rfl,l',wb',hs.trans h1,h2,by rw[h3,hm]⟩
variable{W':World}
theorem Bk3.new{w:World}{I:zN}{D:List zZ}(h:Bk3 l w I C rb pend D W)(hn:za W W'):Bk3 l w I C rb pend D W':=by obtain⟨l1,wb1,hs,hB,hm⟩:=h;exact⟨l1,wb1,hs.trans (hB.ofNew hn).1,(hB.ofNew hn).2,hm⟩
variable{ab:Nat}
theorem US{w:World}{I:zN}(h:jX l w I C wb rb 0 0 [] [])(ha:qd l w ab 136 I.be 151)(Hx:wb.length<=800):
  Calls prog 208 #[ptr ab] w λe w'=>e=.returned (.tuple #[])/\Bk3 l w I C rb 3 (xD (xD (xD (wb.map (·.2)) (zF.auth).name) (zF.users).name) (zF.roles).name) w':=by
 obtain⟨q0,q1,_⟩:=qS ha.2;have HB:=hid (Vb (show vA w I.be I.db I.t I.rt from h.be));have OF:=hid (f7 h.bt);have H0:=hid (show Bk3 l w I C rb 0 (wb.map (·.2)) w from⟨l,wb,zB.refl h.bnd,h,rfl⟩);have m1:=YU;have m2:=Va;have m3:=Xf;have n1:=df;have n2:=dh;have hl:(wb.map (·.2)).length<=800:=by rw[List.length_map];exact Hx
 obtain⟨D0,hD0⟩:=zex (wb.map (·.2));rw[<-hD0]at H0 hl⊢;clear h ha Hx hD0;have rG:=fa D0 (zF.auth).name;have tX:=fa (xD D0 (zF.auth).name) (zF.users).name;have HL:=hid (And.intro hl (And.intro rG tX));clear hl rG tX;go_enter_defers func208,ntmps208;go_wp2_with fail;refine HB.out.mono ?_;rintro e w1 ⟨rfl,rfl⟩;go_wp2_with fail;refine OF.out.mono ?_;rintro e w1 ⟨rfl,rfl⟩;go_wp2_with fail;go_cut []from 12 to 17 (λwx=>Bk3 l w I C rb 1 (xD D0 (zF.auth).name) wx)
 case first=>
  have HA:=hid (λW=>Qc W);have HC:=hid (λW (hn:za w W)=>Yz (H0.out.new hn) (by have:=HL.out.1;omega) (by decide) .auth);refine wp_region_noPanic ?_;go_region_with (first|(go_at_call 215;refine(HA.out _).mono ?_;rintro e w1 ⟨rfl,rfl⟩)|(go_at_call 226;refine(HC.out _ (by first|exact za.refl _|exact(za.refl _).drew|exact(za.refl _).drew.drew)).mono ?_;rintro e w2 ⟨rfl,h2⟩;have H2:=hid h2;clear h2))
  all_goals refine NoPanic.normal ?_
  all_goals
   go_wp2_with fail;go_meet;exact H2.out
 case rest=>
  obtain⟨w1,Hh⟩:=zex (wc);rw[<-Hh]at hcut⊢;clear Hh q0 q1;have H1:=hid hcut;clear hcut;go_wp2_with fail;go_cut []from 18 to 23 (λwx=>Bk3 l w I C rb 2 (xD (xD D0 (zF.auth).name) (zF.users).name) wx)
  case first=>
   have HA:=hid (λW=>kD W);have HC:=hid (λW (hn:za w1 W)=>Yz (H1.out.new hn) (by have:=HL.out.1;have:=HL.out.2.1;omega) (by decide) .users);refine wp_region_noPanic ?_;go_region_with (first|(go_at_call 216;refine(HA.out _).mono ?_;rintro e w1 ⟨rfl,rfl⟩)|(go_at_call 226;refine(HC.out _ (by first|exact za.refl _|exact(za.refl _).drew|exact(za.refl _).drew.drew)).mono ?_;rintro e w2 ⟨rfl,h2⟩;have H2:=hid h2;clear h2))
   all_goals refine NoPanic.normal ?_
   all_goals
    go_wp2_with fail;go_meet;exact H2.out
  case rest=>
   obtain⟨w2,PO⟩:=zex (wc);rw[<-PO]at hcut⊢;clear PO;have H2:=hid hcut;clear hcut;have hi:=di I.t;have HA:=hid (λW=>kE W);have HC:=hid (λW (hn:za w2 W)=>Yz (H2.out.new hn) (by have:=HL.out.1;have:=HL.out.2.1;have:=HL.out.2.2;omega) (by decide) .roles);go_wp2_with fail;refine wp_region_noPanic ?_;go_region_with (first|(go_at_call 217;refine(HA.out _).mono ?_;rintro e w1 ⟨rfl,rfl⟩)|(go_at_call 226;refine(HC.out _ (by first|exact za.refl _|exact(za.refl _).drew|exact(za.refl _).drew.drew)).mono ?_;rintro e w2 ⟨rfl,h2⟩;have H3:=hid h2;clear h2))
   all_goals refine NoPanic.normal ?_
   all_goals
    go_wp2;refine leaves_cons (f:=78) (args:= #[ptr I.t]) (by simp) (hi _) ?_;obtain⟨l1,wb1,pI,tK,Hl⟩:=H3.out;refine(u_ tK (by decide) (by decide)).mono ?_;rintro e u' w'' ⟨rfl,rfl,rj,wz⟩;exact⟨_,results_none rfl _ _ _,rfl,l1,wb1,pI.trans rj,wz,Hl⟩
theorem U4:∀{ns:List Bytes} (_:∀x∈ns,x≠[]),zk ns [0]=0
 |[],_=>rfl
 |x::ns,h=>by
  rw[yQ,if_neg];have h0:=h x (by simp);cases x with
  |nil=>exact absurd rfl h0
  |cons a r=>
   unfold zt;by_cases h1:a<0
   ·exact absurd h1 (by simp)
   ·rw[if_neg h1];by_cases h2:0<a
    ·rw[if_pos h2];decide
    ·rw[if_neg h2];cases r<;>simp[zt]
structure YC(w W wr:World)(cc bk eb n c:Nat)(p:Option Addr)(ev:Value)(kv vv:Nat->Value)(k:Nat)(v8 v9:Value):Prop where
 mod:zq (· =cc) w wr
 cur:wr.heap[cc]? =some (.cells #[.slice p n c,.int .i64 k,ptr bk] 486 (0,0))
 box:wr.cell? ⟨eb,0,none⟩=some ev
 k8:wr.ownsRow W.heap.size 75 1 v8 k ((List.range k).map kv)
 k9:wr.ownsRow W.heap.size 75 1 v9 k ((List.range k).map vv)
 ne:∀b,v8.ownBlock=some b->v9.ownBlock≠some b
 size:W.heap.size<=wr.heap.size
section
variable{w W wr w5:World}{cc bk eb n c k:Nat}{p:Option Addr}{ev v8 v9 v5:Value}{kv vv:Nat->Value}{o:Obj}
theorem U5(h:YC w W wr cc bk eb n c p ev kv vv k v8 v9)(Hc:cc<w.heap.size)(bV:eb<W.heap.size)(hww:w.heap.size<=W.heap.size){row:Option Nat}(hg:(wr.alloc o).grownBy w5 row)(hr:∀b,row=some b->W.heap.size<=b):
  zq (· =cc) w w5/\w5.heap[cc]? =some (.cells #[.slice p n c,.int .i64 k,ptr bk] 486 (0,0))/\w5.cell? ⟨eb,0,none⟩=some ev/\W.heap.size<=w5.heap.size:=by
 have hm:=zq.of_grown hg;have hs:(wr.alloc o).heap.size=wr.heap.size+1:=Array.size_push ..
 have hn:za wr (wr.alloc o):=(za.refl wr).alloc o;have pL:=h.size;have Pg:=h.mod.size;refine⟨zq.trans (zq.trans h.mod hn λ_ _ e=>e.elim) hm λj hj e=>by have:=hr j e;omega,?_,?_,by have:=hm.size;omega⟩
 ·rw[hm.block cc (by omega) (λe=>by have:=hr cc e;omega)];exact hn.heap h.cur
 ·exact hm.cell (p:=⟨eb,0,none⟩) (λe=>by have:W.heap.size<=eb:=hr eb e;omega) (hn.le _ _ h.box)
theorem YC.app9(h:YC w W wr cc bk eb n c p ev kv vv k v8 v9)(Hc:cc<w.heap.size)(bV:eb<W.heap.size)(hww:w.heap.size<=W.heap.size)(ho:w5.ownsRow 0 75 1 v5 (k+1) ((List.range k).map vv++[vv k]))(hg:(wr.alloc o).grownBy w5 v9.ownBlock)(hf:∀b,v5.ownBlock=some b->v9.ownBlock=some b\/(wr.alloc o).heap.size<=b):
  zq (· =cc) w w5/\w5.heap[cc]? =some (.cells #[.slice p n c,.int .i64 k,ptr bk] 486 (0,0))/\w5.cell? ⟨eb,0,none⟩=some ev/\w5.ownsRow W.heap.size 75 1 v8 k ((List.range k).map kv)/\w5.ownsRow W.heap.size 75 1 v5 (k+1) ((List.range (k+1)).map vv)/\(∀b,v8.ownBlock=some b->v5.ownBlock≠some b)/\W.heap.size<=w5.heap.size:=by
 have hs:(wr.alloc o).heap.size=wr.heap.size+1:=Array.size_push ..
 have hn:za wr (wr.alloc o):=(za.refl wr).alloc o;have pL:=h.size;have au:∀b,v9.ownBlock=some b->W.heap.size<=b:=λb e=>(World.ownsRow.lt h.k9 b e).1;obtain⟨h1,h2,h3,h4⟩:=U5 h Hc bV hww hg au;refine⟨h1,h2,h3,?_,?_,?_,h4⟩
 ·refine zS h.k8 λb hb=> ?_;have hl:=(World.ownsRow.lt h.k8 b hb).2;rw[(zq.of_grown hg).block b (by omega) (λe=>h.ne b hb e)];exact hn.block b hl λe=>e
 ·rw[List.range_succ,List.map_append];exact vB ho λb e=>by
   rcases hf b e with e2|e2
   ·exact au b e2
   ·omega
 ·intro b hb e;have hl:=(World.ownsRow.lt h.k8 b hb).2;rcases hf b e with e2|e2
  ·exact h.ne b hb e2
  ·omega
theorem zec{w6:World}{v6:Value}{o8:Obj}(h1:zq (· =cc) w w5)(h2:w5.heap[cc]? =some (.cells #[.slice p n c,.int .i64 k,ptr bk] 486 (0,0)))(h3:w5.cell? ⟨eb,0,none⟩=some ev)(h4:w5.ownsRow W.heap.size 75 1 v8 k ((List.range k).map kv))(h5:w5.ownsRow W.heap.size 75 1 v5 (k+1) ((List.range (k+1)).map vv))(h6:∀b,v8.ownBlock=some b->v5.ownBlock≠some b)(h7:W.heap.size<=w5.heap.size)
  (Hc:cc<w.heap.size)(bV:eb<W.heap.size)(hww:w.heap.size<=W.heap.size)(ho:w6.ownsRow 0 75 1 v6 (k+1) ((List.range k).map kv++[kv k]))(hg:(w5.alloc o8).grownBy w6 v8.ownBlock)(hf:∀b,v6.ownBlock=some b->v8.ownBlock=some b\/(w5.alloc o8).heap.size<=b):
  zq (· =cc) w w6/\w6.heap[cc]? =some (.cells #[.slice p n c,.int .i64 k,ptr bk] 486 (0,0))/\w6.cell? ⟨eb,0,none⟩=some ev/\w6.ownsRow W.heap.size 75 1 v6 (k+1) ((List.range (k+1)).map kv)/\w6.ownsRow W.heap.size 75 1 v5 (k+1) ((List.range (k+1)).map vv)/\(∀b,v6.ownBlock=some b->v5.ownBlock≠some b)/\W.heap.size<=w6.heap.size:=by
 have hs:(w5.alloc o8).heap.size=w5.heap.size+1:=Array.size_push ..
 have hn:za w5 (w5.alloc o8):=(za.refl w5).alloc o8;have iE:∀b,v8.ownBlock=some b->W.heap.size<=b:=λb e=>(World.ownsRow.lt h4 b e).1;have hm:=zq.of_grown hg;have Pg:=h1.size;refine⟨zq.trans (zq.trans h1 hn λ_ _ e=>e.elim) hm λj hj e=>by have:=iE j e;omega,?_,?_,?_,?_,?_,by have:=hm.size;omega⟩
 ·rw[hm.block cc (by omega) (λe=>by have:=iE cc e;omega)];exact hn.heap h2
 ·exact hm.cell (p:=⟨eb,0,none⟩) (λe=>by have:W.heap.size<=eb:=iE eb e;omega) (hn.le _ _ h3)
 ·rw[List.range_succ,List.map_append];exact vB ho λb e=>by
   rcases hf b e with e2|e2
   ·exact iE b e2
   ·omega
 ·refine zS h5 λb hb=> ?_;have hl:=(World.ownsRow.lt h5 b hb).2;rw[hm.block b (by omega) (λe=>h6 b e hb)];exact hn.block b hl λe=>e
 ·intro b hb e;have hl:=(World.ownsRow.lt h5 b e).2;rcases hf b hb with e2|e2
  ·exact h6 b e2 e
  ·omega
end
theorem GB{α β:Type}{R:α->β->Prop}:∀{l:List α} {m:List β} (_:l.length=m.length) (_:∀i (h1:i<l.length) (h2:i<m.length),R l[i] m[i]),qz R l m
 |[],[],_,_=>.nil
 |[],_::_,h,_=>by cases h
 |_::_,[],h,_=>by cases h
 |_::l,_::m,h,hr=>.cons (hr 0 (Nat.zero_lt_succ _) (Nat.zero_lt_succ _)) (GB (by simpa using h) λi h1 h2=>hr (i+1) (Nat.succ_lt_succ h1) (Nat.succ_lt_succ h2))
variable{c n:Nat}{cs:List Value}
theorem dE{p:Option Addr}(h:Sl r 1 cs (.slice p n c)):cs.length=n:=by obtain⟨p',n',c',e,hl,_⟩:=h;cases e;omega
theorem X0{q:Option Addr}:∀u∈[Value.slice q n c],u.oneCell'=true:=by intro u hu;rw[List.mem_singleton]at hu;rw[hu];rfl
variable{bk cc:Nat}{ps:yr}{pv:Value}
theorem Kl{ev:Value}{w:World}(hS:∀b,S b->b<w.heap.size)(Hc:cc<w.heap.size)
  (hZ:w.heap[cc]? =some (.cells #[pv,.int .i64 0,ptr bk] 486 (0,0)))(hb:w.cell? ⟨bk,2,none⟩=some pv)(hp:yR (im (λb=>S b\/b=cc) w) ps pv)(rJ:zM (zJ ps))(Ho:∀p∈ps,p.1≠[])(Hx:ps.length<=1000)(hx:Bs (im (λb=>S b\/b=cc) w) [0] xv)(he:Bs (im (λb=>S b\/b=cc) w) [255] ev)(Hb:∀p∈ps,zt p.1 [255]<0):
  Calls prog 320 #[ptr cc,xv,ev,.int .i64 (-1)] w λe w'=>∃ks vs,e=.returned (.tuple #[ks,vs])/\zq (· =cc) w w'/\qP (im S w') (ps.map (·.2)) vs:=by
 obtain⟨p,n,c,kv,vv,rfl,h_,hn,hc,NL,pO⟩:=hp.at
 obtain⟨xp,xn,xc,rfl,_⟩:=hx.shape;obtain⟨ep,en,ec,rfl,MT⟩:=he.shape;have hae:en=1:=by rw[<-MT];rfl
 subst hae;have h0:w.cell? ⟨cc,0,none⟩=some (.slice p n c):=by rw[cell_of_row w cc 0 _ _ (0,0) hZ];rfl
 have h1:w.cell? ⟨cc,1,none⟩=some (.int .i64 0):=by rw[cell_of_row w cc 1 _ _ (0,0) hZ];rfl
 have h2:w.cell? ⟨cc,2,none⟩=some (ptr bk):=by rw[cell_of_row w cc 2 _ _ (0,0) hZ];rfl
 obtain⟨W,hW⟩:=zex ((w.alloc (.cells #[.slice xp xn xc] 75)).alloc (.cells #[.slice ep 1 ec] 75));have TH:za w W:=by rw[hW];exact((za.refl w).alloc _).alloc _
 have hWs:W.heap.size=w.heap.size+2:=by rw[hW];exact(Array.size_push ..).trans (by rw[show(w.alloc (.cells #[.slice xp xn xc] 75)).heap.size=w.heap.size+1 from Array.size_push ..])
 have SS:W.cell? ⟨w.heap.size+1,0,none⟩=some (.slice ep 1 ec):=by have h9:=zg (w.alloc (.cells #[.slice xp xn xc] 75)) (.cells #[.slice ep 1 ec] 75);rw[show(w.alloc (.cells #[.slice xp xn xc] 75)).heap.size=w.heap.size+1 from Array.size_push ..,<-hW]at h9;rw[cell_of_row W _ 0 _ _ (0,0) h9];rfl
 have kbx:W.cell? ⟨w.heap.size,0,none⟩=some (.slice xp xn xc):=by rw[hW,World.cell?_alloc_lt _ _ _ (by simp),World.cell?_alloc_new];rfl
 have R9:=TH.heap hZ;have hM:∀i:Int,zq (· =cc) w (W.setCell ⟨cc,1,none⟩ (.int .i64 i)):=λi=>zq.setCell (S:=(· =cc)) (TH.mod _) (λ_=>rfl) _;have hY:∀i:Int,(im (λb=>S b\/b=cc) w).le (W.setCell ⟨cc,1,none⟩ (.int .i64 i)).cell? :=λi=>
  (((hM i).mono λ_ _ e=>Or.inr e).im (λ_ _ h=>h)).le_trans (zd _ _)
 have Mh:zk (zJ ps) [0]=0:=U4 λx hx=>by obtain⟨q,hq,rfl⟩:=List.mem_map.1 hx;exact Ho q hq
 have BF:=(JB (r:=im (λb=>S b\/b=cc) w) (w:=W) (cc:=cc) (bk:=bk) (ps:=ps) (a:=0) (kv:=kv) (vv:=vv) (by omega) (TH.le _ _ h0) (TH.le _ _ h1) (TH.le _ _ h2)
  (by simp[World.frozen?,R9]) (TH.le _ _ hb) hp rJ (by omega) hx (k7 TH _) (hY _) (λk hk=>by obtain⟨b,o,h1,h2,h3,_⟩:=pO k hk;exact⟨b,o,h1,h2,h3⟩))
 rw[Mh]at BF;have TJ:=hid (BF.mono (R':=λe w'=>e=.returned (.tuple #[jB n kv 0,jB n vv 0])/\YC w W w' cc bk (w.heap.size+1) n c p (.slice ep 1 ec) kv vv 0 (.slice none 0 0) (.slice none 0 0)) (by
  rintro e w' ⟨rfl,m,rfl⟩;refine⟨rfl,(hM _).drewN _,?_,?_,World.ownsRow_nil _ _ _ _,World.ownsRow_nil _ _ _ _,(λb e=>by cases e),?_⟩
  ·exact heap_setCell_same W cc 1 _ _ _ R9
  ·rw[World.cell?_drewN,World.cell?_setCell_other _ _ _ _ (by intro e;simp only[Addr.mk.injEq]at e;omega)];exact SS
  ·simp[World.setCell]))
 have Mx:∀w1,zq (· =cc) w w1->(im (λb=>S b\/b=cc) w).le w1.cell? :=λw1 h=>((h.mono λ_ _ e=>Or.inr e).im (λ_ _ h=>h)).le_trans (zd _ _);have CO:=hid Mx;have mq:=hid pO;have HE:=hid he;have HLT:=hid Hb;have nZ:=hid Ho;have H7:=hid h_;have HW:=hid hW;have aw:=hid hWs;have pJ:=hid Hc;have HS:=hid hS;clear hp hx he rJ Ho Hb hb h0 h1 h2 SS R9 hM hY Mh BF Mx pO TH hZ NL MT hW hS;go_enter func320,ntmps320;go_upto_region 8 with fail
 rw[<-HW.out];go_wp2_with (go_at_call 326;go_must (refine TJ.out.mono ?_);rintro e w1 ⟨rfl,Hl⟩;have Rp:=hid Hl;clear Hl)
 all_goals
  go_loopg [8,9,11,12] n (λkx s8 s9 s11 s12 wr=>∃k:Nat,k<=n/\n-k<=kx/\s11=jB n kv k/\s12=jB n vv k/\YC w W wr cc bk (w.heap.size+1) n c p (.slice ep 1 ec) kv vv k s8 s9)
  case atStart=>exact⟨0,Nat.zero_le _,by omega,rfl,rfl,Rp.out⟩
  case round=>
   obtain⟨k,hk,rH,rfl,rfl,hr⟩:=hrel;obtain⟨p8,n8,c8,rfl⟩:=(Sl.of_own hr.k8).shape;obtain⟨p9,n9,c9,rfl⟩:=(Sl.of_own hr.k9).shape;have r9:n8=k:=by have:=dE (Sl.of_own hr.k8);rw[List.length_map,List.length_range]at this;exact this.symm
   have R0:n9=k:=by have:=dE (Sl.of_own hr.k9);rw[List.length_map,List.length_range]at this;exact this.symm
   subst r9;subst R0;have HR:=hid hr;by_cases ph:n9<n
   ·have Sa:n9<ps.length:=by rw[H7.out];exact ph
    obtain⟨b,o,_,tP,tq,_,PA,mt⟩:=mq.out n9 ph;obtain⟨qb,qo,qn,qc,hq⟩:=PA.some_of_ne (nZ.out _ (List.getElem_mem Sa));obtain⟨vp,vn,vc,mY,_⟩:=mt.shape;have e1:jB n kv n9=.slice (some ⟨qb,qo,none⟩) qn qc:=by unfold jB;rw[if_pos ph,hq]
    have e2:jB n vv n9=.slice vp vn vc:=by unfold jB;rw[if_pos ph,mY]
    rw[e1,e2];have hY:=CO.out wr hr.mod;have B6:=Kx hr.box (show Z2 wr ps[n9].1 (.slice (some ⟨qb,qo,none⟩) qn qc) by rw[<-hq];exact PA.mono hY) (show Z2 wr [255] _ from HE.out.mono hY);rw[decide_eq_true (HLT.out _ (List.getElem_mem Sa))]at B6;have hag:=hid B6;have SR:Hid ((((List.range n9).map vv).length+[Value.slice vp vn vc].length)*(24+1)<=140737488355328):=hid (by rw[List.length_map,List.length_range,List.length_singleton];omega);have hah:Hid ((((List.range n9).map kv).length+[Value.slice (some ⟨qb,qo,none⟩) qn qc].length)*(24+1)<=140737488355328):=hid (by rw[List.length_map,List.length_range,List.length_singleton];omega);have Aq: ¬((9223372036854775807:Int)=(n9:Int)+1):=by omega
    have HQ:=hid hq;have HVV:=hid mY;clear hr Sa tP tq PA mt e1 e2 hY B6 hq mY;go_wp2_with (first|(go_at_call 324;go_must (refine hag.out.mono ?_);rintro e w1 ⟨rfl,rfl⟩)|(at_builtin;go_must (refine qM jV rfl rfl (World.ownsRow.alloc (qJ HR.out.k9 0 (Nat.zero_le _)) _) rfl rfl (news:=[.slice vp vn vc]) (Sl.made wr [.slice vp vn vc] _ 1 1 rfl (by omega)) X0 SR.out ?_)));intro v5 w5 ho hg PU;obtain⟨p5,n5,c5,rfl⟩:=(Sl.of_own ho).shape;have N8:w5.ownsRow 0 75 1 (.slice p5 n5 c5) (n9+1) ((List.range n9).map vv++[vv n9]):=by rw[HVV.out];exact ho
    have HA:=hid (YC.app9 HR.out pJ.out (by have:=aw.out;omega) (by have:=aw.out;omega) N8 hg (λb e=>(PU b e).imp (λe1=>e1) λe1=>Nat.le_trans (Nat.le_of_eq (Array.size_push ..)) e1));clear ho hg PU N8;go_wp2_with (at_builtin;go_must (refine qM jV rfl rfl (World.ownsRow.alloc (qJ HA.out.2.2.2.1 0 (Nat.zero_le _)) _) rfl rfl (news:=[.slice (some ⟨qb,qo,none⟩) qn qc]) (Sl.made w5 [.slice (some ⟨qb,qo,none⟩) qn qc] _ 1 1 rfl (by omega)) X0 hah.out ?_));intro v6 w6 ho hg PU;obtain⟨p6,n6,c6,rfl⟩:=(Sl.of_own ho).shape;have N8:w6.ownsRow 0 75 1 (.slice p6 n6 c6) (n9+1) ((List.range n9).map kv++[kv n9]):=by rw[HQ.out];exact ho
    have tZ:n6=n9+1:=by have:=dE (Sl.of_own N8);rw[List.length_append,List.length_map,List.length_range,List.length_singleton]at this;exact this.symm
    obtain⟨a1,a2,a3,a4,a5,a6,a7⟩:=HA.out;obtain⟨b1,b2,b3,b4,b5,b6,b7⟩:=zec a1 a2 a3 a4 a5 a6 a7 pJ.out (by have:=aw.out;omega) (by have:=aw.out;omega) N8 hg (λb e=>(PU b e).imp (λe1=>e1) λe1=>Nat.le_trans (Nat.le_of_eq (Array.size_push ..)) e1);subst tZ;have rk:∀i:Int,zq (· =cc) w (w6.setCell ⟨cc,1,none⟩ (.int .i64 i)):=λi=>zq.setCell b1 (λ_=>rfl) _;have Co:=hid ((dJ (r:=im (λb=>S b\/b=cc) w) (w:=w6) (cc:=cc) (a:=n9) (p:=p) (n:=n) (c:=c) (kv:=kv) (vv:=vv) (by omega) (by omega) (by rw[cell_of_row w6 cc 0 _ _ (0,0) b2];rfl) (by rw[cell_of_row w6 cc 1 _ _ (0,0) b2];rfl) (by simp[World.frozen?,b2]) (CO.out _ (rk _)) (λk hk=>by obtain⟨b,o,h1,h2,h3,_⟩:=mq.out k hk;exact⟨b,o,h1,h2,h3⟩)).mono (R':=λe w'=>e=.returned (.tuple #[jB n kv (n9+1),jB n vv (n9+1)])/\YC w W w' cc bk (w.heap.size+1) n c p (.slice ep 1 ec) kv vv (n9+1) (.slice p6 (n9+1) c6) (.slice p5 n5 c5)) (by
     rintro e w' ⟨rfl,m,rfl⟩;have ix:=aw.out;have hc9:=pJ.out;refine⟨rfl,(rk _).drewN _,heap_setCell_same w6 cc 1 _ _ _ b2,?_,?_,?_,b6,?_⟩
     ·rw[World.cell?_drewN,World.cell?_setCell_other _ _ _ _ (by intro e;simp only[Addr.mk.injEq]at e;omega)];exact b3
     ·exact j6 (b:=cc) (i:=1) b4 λq hq e=>by have:=(World.ownsRow.lt b4 q hq).1;omega
     ·exact j6 (b:=cc) (i:=1) b5 λq hq e=>by have:=(World.ownsRow.lt b5 q hq).1;omega
     ·simpa[World.setCell]using b7))
    clear ho hg PU N8 a1 a2 a3 a4 a5 a6 a7 b1 b2 b3 b4 b5 b6 b7 rk;go_wp2_with (go_at_call 303;go_must (refine Co.out.mono ?_);rintro e w7 ⟨rfl,A2⟩;have OB:=hid A2;clear A2);go_roundg (gk-1)
    case rel=>exact⟨n9+1,by omega,by omega,rfl,rfl,OB.out⟩
    case measure=>omega
   ·have hai:n9=n:=by omega
    subst hai;have e1:∀f,jB n9 f n9=.slice none 0 0:=λf=>by unfold jB;rw[if_neg (Nat.lt_irrefl _)]
    rw[e1,e1];clear e1 hr;go_wp2;go_ret2;have hr:=HR.out;refine⟨_,_,rfl,hr.mod,(List.range n9).map vv,(Sl.of_own hr.k9).im_of λq hq e=> ?_,GB (by rw[List.length_map,List.length_map,List.length_range,H7.out]) λi h1 h2=> ?_⟩
    ·have h8:=(World.ownsRow.lt hr.k9 q hq).1;have h9:=HS.out q e;have:=aw.out;omega
    ·rw[List.length_map]at h1;rw[List.getElem_map,List.getElem_map,List.getElem_range];obtain⟨b,o,_,_,_,_,_,mt⟩:=mq.out i (by rw[<-H7.out];exact h1);exact mt.mono (((hr.mod.mono λ_ _ e=>Or.inr e).im (λ_ _ h=>h)).le_trans (jn λ_ h=>Or.inl h))
variable{kv:Value}
theorem fD{w:World}{m sm db:Nat}{b:zF}{bs:List (Nat×zZ)}{ev:Value}(hS:∀b,S b->b<w.heap.size)(pG:∀b,F b->S b)
  (Pd:qU w t wtx be pend m sm pdel)(h:kr (im S w) w F wtx db true bs)(hj:bs[j]? =some (bk,(b.name,ps)))(pS:zk (zG bs) b.name=j)(RI:zx (zG bs) b.name=true)
  (rJ:zM (zJ ps))(Ho:∀p∈ps,p.1≠[])(Hx:ps.length<=1000)(hk:Bs (im S w) [0] kv)(he:Bs (im S w) [255] ev)(Hb:∀p∈ps,zt p.1 [255]<0):
  Calls prog 336 #[ptr t,b.val,kv,ev,.int .i64 (-1)] w λe w'=>∃ks vs,e=.returned (.tuple #[ks,vs])/\za w w'/\qP (im S w') (ps.map (·.2)) vs:=by
 have rC:=(List.getElem?_eq_some_iff.1 hj).1;have Th:=(List.getElem?_eq_some_iff.1 hj).2;obtain⟨sf,nv,pv,fp,g1,g2,g3⟩:=h.hb _ (List.mem_of_getElem? hj);have c0:w.cell? ⟨t,0,none⟩=some (ptr wtx):=by rw[cell_of_row w t 0 _ _ (0,0) Pd];rfl
 have Ti:=jP b;have Hm:=vy b.raw;have Hv:∀w1,za w w1->∀xv,Bs w1.cell? b.name xv->(∀q,xv.ownBlock=some q->w.heap.size<=q)->
   Calls prog 319 #[ptr wtx,xv] w1 λe w'=>e=.returned (ptr bk)/\w1=w':=by
  intro w1 hQ xv wi Pw;have hr:(im S w).le (im S w1):=za.im hQ S;have sU:kr (im S w1) w1 F wtx db true bs:=h.frame (λq hq=>hQ.block q (hS q (pG q hq)) (λe=>e)) hr;have pB:Bs (im S w1) b.name xv:=Bs.im_of (S:=S) (w:=w1) wi λq hq e=>by have:=Pw q hq;have:=hS q e;omega
  have:=Zc sU (zd _ _) pB rC pS RI;rw[Th]at this;exact this
 have pj:=hid Hv;clear Hv;have nh:∀w1,za w w1->Calls prog 255 #[ptr bk] w1 λe w2=>e=.returned (ptr w1.heap.size)/\za w w2/\
   Calls prog 320 #[ptr w1.heap.size,kv,ev,.int .i64 (-1)] w2 λe w3=>∃ks vs,e=.returned (.tuple #[ks,vs])/\za w w3/\qP (im S w3) (ps.map (·.2)) vs:=by
  intro w1 hQ;have Pb:=hQ.heap g1;have c2:w1.cell? ⟨bk,2,none⟩=some pv:=by rw[cell_of_row w1 bk 2 _ _ (0,0) Pb];rfl
  refine(xX c2 g3.shape).mono ?_;rintro e w2 ⟨rfl,rfl⟩;have Hj:za w (w1.alloc (.cells #[pv,.int .i64 0,ptr bk] 486)):=zq.alloc hQ _;refine⟨rfl,Hj,?_⟩;have Hc:=zg w1 (.cells #[pv,.int .i64 0,ptr bk] 486);have Ro:bk<w1.heap.size:=World.block_lt_of_cell? w1 _ c2;have hY:=xw (S:=S) Hj hQ.size;refine(Kl (S:=S) (bk:=bk) (ps:=ps) (pv:=pv) (λq e=>Nat.lt_of_lt_of_le (hS q e) Hj.size) (by simp) Hc (by rw[World.cell?_alloc_lt _ _ _ (by simpa using Ro)];exact c2) (g3.mono hY) rJ Ho Hx (hk.mono hY) (he.mono hY) Hb).mono ?_;rintro e w3 ⟨ks,vs,rfl,r6,Td⟩;exact⟨ks,vs,rfl,zq.trans Hj r6 (λq hq e=>by have:=hQ.size;omega),Td⟩
 have mF:=hid nh;clear nh;obtain⟨kp,kn,kc,rfl,_⟩:=hk.shape;obtain⟨ep,en,ec,rfl,_⟩:=he.shape;have ht:=World.block_lt_of_cell? w _ c0;clear hk he Hb h g1 g2 g3 rJ Hx Th hj Pd Ho;unfold zF.val;generalize zF.raw b=raw at*
 go_enter func336,ntmps336;go_wp2;go_region_with (first|(go_at_call 300;refine(Ti _).mono ?_;rintro e w1 ⟨xv,rfl,hQ,pB,rz⟩;have d0:w1.cell? ⟨t,0,none⟩=some (ptr wtx):=hQ.le _ _ c0;obtain⟨xp,xn,xc,rfl,_⟩:=pB.shape;have SF:=hid pB;have SA:=hid rz;have Hs:=hid (za.undrew hQ);clear pB rz hQ)|(go_at_call 319;refine(pj.out _ Hs.out _ SF.out SA.out).mono ?_;rintro e w2 ⟨rfl,rfl⟩))
 all_goals
  go_wp2_with (first|(go_at_call 255;go_must (refine(mF.out _ Hs.out).mono ?_);rintro e w2 ⟨rfl,Hj,mG⟩;have Pf:=hid Hj;have C7:=hid mG;clear Hj mG)|(go_at_call 320;go_must (refine C7.out.mono ?_);rintro e w3 ⟨ks,vs,rfl,Hg,Td⟩;have Rb:=hid Hg;have aB:=hid Td;clear Hg Td));go_ret2;exact⟨_,_,rfl,Rb.out,aB.out⟩
end Go.Proofs.YtbmdoinjkligiaaGreat
