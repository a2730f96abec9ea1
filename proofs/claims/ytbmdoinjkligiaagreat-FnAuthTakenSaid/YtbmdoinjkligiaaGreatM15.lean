/- Contracts and laws that the last text joins. -/
import Derived.Sort.Walk0
import Derived.Deep.RegionHeld3
import Derived.Test.YtbmdoinjkligiaaGreatM14
set_option maxRecDepth 100000
set_option maxHeartbeats 40000000
set_option linter.all false
namespace Go.Proofs.YtbmdoinjkligiaaGreat
open Tryz
open Lib(hid)
open Go.RowKit
def xU(l:zu)(W:World)(r:Value)(ps:List zh):Prop:=
 ∃q s1 i1 s2 i2 F1 F2,r=ptr q/\im l.some W ⟨q,0,none⟩=some (.iface 280 (ptr i1))/\im l.some W ⟨q,1,none⟩=some (.iface 280 (ptr i2))/\q7 (im l.some W) W F1 s1 i1 (qq ps 0).reverse/\q7 (im l.some W) W F2 s2 i2 (qq ps 1).reverse/\(∀j,F1 j->l j=13)/\(∀j,F2 j->l j=13)
variable{W W':World}{l l':zu}
theorem xU.keep{r:Value}{ps:List zh}(h:xU l W r ps)(hY:(im l.some W).le (im l'.some W'))(hk:∀j,l j=13->l' j=13/\W'.heap[j]? =W.heap[j]?):xU l' W' r ps:=by obtain⟨q,s1,i1,s2,i2,F1,F2,h1,h2,h3,h4,h5,h6,h7⟩:=h;exact⟨q,s1,i1,s2,i2,F1,F2,h1,hY _ _ h2,hY _ _ h3,h4.frame (λj e=>(hk j (h6 j e)).2) hY,h5.frame (λj e=>(hk j (h7 j e)).2) hY,λj e=>(hk j (h6 j e)).1,λj e=>(hk j (h7 j e)).1⟩
structure jS(l:zu)(W:World)(m:Nat)(us:List zj)(rs:List zm):Prop where
 lab:l m=15
 ex:∃es:List (Wc×Value),zD Gh W m es/\es.length<=us.length/\(∀n v,jq es n=some v->∃u∈us,u.name=n.1/\xU l W v (permsOf rs u.roles))/\∀u∈us,∀n:Wc,n.1=u.name->∃v,jq es n=some v
variable{rs:List zm}
theorem jS.keep{m:Nat}{us:List zj}(h:jS l W m us rs)(hY:(im l.some W).le (im l'.some W'))(hk:∀j,l j=13\/l j=15->l' j=l j/\W'.heap[j]? =W.heap[j]?):jS l' W' m us rs:=by obtain⟨h0,es,h1,h2,h3,h4⟩:=h;refine⟨by rw[(hk m (Or.inr h0)).1,h0],es,h1.frame (hk m (Or.inr h0)).2,h2,λn v e=> ?_,h4⟩;obtain⟨u,a,b,c⟩:=h3 n v e;exact⟨u,a,b,c.keep hY λj e=>by have:=hk j (Or.inl e);exact⟨by rw[this.1,e],this.2⟩⟩
structure zr(l:zu)(w:World)(l':zu)(w':World):Prop where
 mod:zq (λj=>l j≠0/\l j<=12) w w'
 old:∀b,b<w.heap.size->l' b=l b
 bnd:∀b,l' b≠0->b<w'.heap.size
variable{w':World}
theorem zr.le{w:World}(h:zr l w l' w'):(im l.some w).le (im l'.some w'):=
 (h.mod.mono (S':=l.some) λj _ e=>e.1).im λb hb e=>by show l b≠0;rw[<-h.old b hb];exact e
theorem jM.s{w:World}(h:jM l w l' w'):zr l w l' w':=⟨h.mod.mono λj _ e=>⟨e.1,by have:=e.2;omega⟩,h.old,h.bnd⟩
variable{w'':World}
theorem zr.trans{l'':zu}{w:World}(h:zr l w l' w')(k:zr l' w' l'' w''):zr l w l'' w'' where
 mod:=h.mod.trans k.mod λb hb e=>by rw[h.old b hb]at e;exact e
 old b hb:=by rw[k.old b (Nat.lt_of_lt_of_le hb h.mod.size),h.old b hb]
 bnd:=k.bnd
theorem zr.refl{w:World}(h:∀b,l b≠0->b<w.heap.size):zr l w l w:=⟨zq.refl _ _,λ_ _=>rfl,h⟩
theorem zr.new{w:World}(h:∀b,l b≠0->b<w.heap.size)(hn:za w w'):zr l w l w':=⟨hn.mod _,λ_ _=>rfl,λb e=>Nat.lt_of_lt_of_le (h b e) hn.size⟩
theorem zr.keep{w:World}(h:zr l w l' w')(hb:∀b,l b≠0->b<w.heap.size):∀j,12<l j->l' j=l j/\w'.heap[j]? =w.heap[j]? :=λj e=>by have hj:=hb j (by omega);exact⟨h.old j hj,h.mod.block j hj λe2=>by omega⟩
theorem jS.step{m:Nat}{us:List zj}(h:jS l W m us rs)(hb:∀b,l b≠0->b<W.heap.size)(hs:zr l W l' W'):jS l' W' m us rs:=h.keep hs.le λj e=>hs.keep hb j (by omega)
variable{F:Nat->Prop}{n:Nat}
theorem zbj{w:World}(hb:∀b,l b≠0->b<w.heap.size)(hn:za w w')(hF:∀b,F b->w.heap.size<=b/\b<w'.heap.size):zr l w (l.add F n) w' where
 mod:=hn.mod _
 old b Hb:=by
  by_cases e:l b=0
  ·exact zu.add_neg λf=>by have:=hF b f;omega
  ·exact zu.add_old e
 bnd b e:=by
  by_cases h0:l b=0
  ·by_cases f:F b
   ·exact(hF b f).2
   ·rw[zu.add_neg f]at e;exact absurd h0 e
  ·exact Nat.lt_of_lt_of_le (hb b h0) hn.size
theorem zr.client{w:World}(h:zr l w l' w')(hm:zq (λj=>11<l j) w w'):qD l w l' w':=⟨hm,h.old,h.bnd⟩
variable{α:Type}
theorem WH[DecidableEq α](es:List (α×Value))(x:α)(v:Value):(xu es x v).length<=es.length+1:=by unfold xu;split<;>simp
variable{l0:zu}{u:zj}{v:Value}
theorem jS.put{B:zu->World->Prop}{w0:World}{m:Nat}{us:List zj}(h:jS l0 w0 m us rs)(pM:∀b,l0 b≠0->b<w0.heap.size)(hu:u.name.length<=1000)
  (hg:uD B l0 w0 l W v (permsOf rs u.roles)):
  ∃es,zD Gh W m es/\es.length<=us.length/\∀W',zD Gh W' m (xu es ⟨u.name,hu⟩ v)->zq (· =m) W W'->qD l W l W'/\jS l W' m (us++[u]) rs:=by
 obtain⟨h0,es,h1,h2,h3,h4⟩:=h;obtain⟨q,s1,i1,s2,i2,rfl,hq,hq0,B_,hB,hP,F1,F2,t1,t2,NV,MP,_,_⟩:=hg;have CJ:=pM m (by rw[h0];decide);have pF:∀j,l0 j≠0->l j=l0 j:=λj e=>hP.old j (pM j e);have BH:∀j,11<l0 j->W.heap[j]? =w0.heap[j]? :=λj e=>hP.mod.block j (pM j (by omega)) λe2=>by have:=e2.2;omega
 have cN:l m=15:=by rw[pF m (by rw[h0];decide),h0]
 refine⟨es,h1.frame (BH m (by rw[h0];decide)),h2,λW' CW Pg=> ?_⟩;have hc:qD l W l W':=⟨Pg.mono λj _ e=>by rw[e,cN];decide,λ_ _=>rfl,λb e=>Nat.lt_of_lt_of_le (hP.bnd b e) Pg.size⟩;have Be:∀j,l j=13->W'.heap[j]? =W.heap[j]? :=λj e=>Pg.block j (hP.bnd j (by rw[e];decide)) λe2=>by rw[e2,cN]at e;cases e
 have bY:xU l W' (ptr q) (permsOf rs u.roles):=by obtain⟨c0,c1,_,_⟩:=qS B_;have hqn: ¬l.some q:=λe=>e hq0;exact⟨q,s1,i1,s2,i2,F1,F2,rfl,hc.le _ _ (zi.2 ⟨hqn,c0⟩),hc.le _ _ (zi.2 ⟨hqn,c1⟩),t1.frame (λj e=>Be j (NV j e)) hc.le,t2.frame (λj e=>Be j (MP j e)) hc.le,NV,MP⟩
 refine⟨hc,cN,_,CW,?_,λn v e=> ?_,λu2 rF n hn=> ?_⟩
 ·have:=WH es (⟨u.name,hu⟩:Wc) (ptr q);rw[List.length_append,List.length_singleton];omega
 ·rw[Xq]at e;by_cases hx:n=⟨u.name,hu⟩
  ·rw[if_pos hx]at e;cases e;exact⟨u,by simp,by rw[hx],bY⟩
  ·rw[if_neg hx]at e;obtain⟨u3,a,b,c⟩:=h3 n v e;refine⟨u3,by simp[a],b,c.keep (hP.le.le_trans hc.le) λj e2=> ?_⟩;have e3:l j=13:=by rw[pF j (by rw[e2];decide),e2]
   exact⟨e3,(Be j e3).trans (BH j (by rw[e2];decide))⟩
 ·rw[Xq];by_cases hx:n=⟨u.name,hu⟩
  ·exact⟨_,if_pos hx⟩
  ·rw[if_neg hx];rcases List.mem_append.1 rF with iq|iq
   ·exact h4 u2 iq n hn
   ·simp only[List.mem_singleton]at iq;exact absurd (Subtype.ext (by rw[hn,iq])) hx
def kR(w:World)(a:Nat)(rev:Nat)(lg bv:Value)(on:Bool)(m:Nat):Prop:=w.heap[a]? =some (.cells #[.int .u64 rev,lg,bv,.bool on,.map (some m)] 146 (0,0))
variable{a:Nat}
theorem Gt{w:World}{c:Array Value}(h:w.heap[a]? =some (.cells c 146 (0,0))):∃A,(partAt ⟨a,0,none⟩ 5 48).run prog w=.ok A w:=
 Qj h (s:=5) (x:=0) (y:=0) (by kernel_rfl) (by decide) 5 48 (by kernel_rfl) (by kernel_rfl)
variable{bv lg:Value}
theorem kR.keep{w:World}{rev m:Nat}{on:Bool}(h:kR w a rev lg bv on m)(hk:w'.heap[a]? =w.heap[a]?):kR w' a rev lg bv on m:=hk.trans h
theorem kR.lt{w:World}{rev m:Nat}{on:Bool}(h:kR w a rev lg bv on m):a<w.heap.size:=(Array.getElem?_eq_some_iff.1 h).1
theorem kR.pstep{w:World}{rev m:Nat}{on:Bool}(h:kR w a rev lg bv on m)(m_:l a=12)(hp:jM l w l' w'):kR w' a rev lg bv on m/\l' a=12:=
 ⟨h.keep (hp.mod.block a h.lt λe=>by have:=e.2;omega),by rw[hp.old a h.lt,m_]⟩
variable{w1:World}
theorem Di{B:zu->World->Prop}{w:World}{rev m0:Nat}{on:Bool}(hk:∀l l' W W',B l W->qD l W l' W'->B l' W')(Hr:∀j,l j≠0->j<w.heap.size)(hB:B l w)(ha:kR w a rev lg bv on m0)(m_:l a=12)
  (Hh:w1=(w.alloc (.map #[] 0)).setCell ⟨a,4,none⟩ (.map (some w.heap.size))):∃l1,B l1 w1/\zr l w l1 w1/\kR w1 a rev lg bv on w.heap.size/\l1 a=12/\jS l1 w1 w.heap.size [] rs:=by
 have ng:=ha.lt;have pL:(w.alloc (.map #[] 0)).heap.size=w.heap.size+1:=Array.size_push ..
 have hm:zq (· =a) w w1:=by rw[Hh];exact((zq.refl (· =a) w).alloc _).setCell (p:=⟨a,4,none⟩) (λ_=>rfl) _
 have pI:w.heap.size+1<=w1.heap.size:=by rw[Hh,<-pL];exact((zq.refl (· =a) (w.alloc (.map #[] 0))).setCell (p:=⟨a,4,none⟩) (λ_=>rfl) _).size
 have h0:l w.heap.size=0:=by
  by_cases e:l w.heap.size=0
  ·exact e
  ·exact absurd (Hr _ e) (Nat.lt_irrefl _)
 have hs:zr l w (l.add (· =w.heap.size) 15) w1:=⟨hm.mono λj _ e=>by rw[e,m_];decide,λb hb=>zu.add_neg (by omega),λb e=>by
  by_cases e2:b=w.heap.size
  ·omega
  ·rw[zu.add_neg (F:=(· =w.heap.size)) e2]at e;have:=Hr b e;omega⟩
 have hc:qD l w (l.add (· =w.heap.size) 15) w1:=hs.client (hm.mono λj _ e=>by rw[e,m_];decide);refine⟨_,hk _ _ _ _ hB hc,hs,?_,by rw[zu.add_neg (by omega),m_],zu.add_pos rfl h0,[],?_,Nat.le_refl _,λn v e=>by simp[jq]at e,λu hu=>by cases hu⟩
 ·have h1:(w.alloc (.map #[] 0)).heap[a]? =some (.cells #[.int .u64 rev,lg,bv,.bool on,.map (some m0)] 146 (0,0)):=za.heap (show za w (w.alloc (.map #[] 0))from(za.refl w).alloc _) ha;rw[Hh];exact heap_setCell_same _ _ _ _ _ _ h1
 ·refine(zD.made Gh w).frame ?_;rw[Hh];exact Below.heap_setCell _ _ _ _ (by show w.heap.size≠a;omega)
structure zcF(B:zu->World->Prop)(l:zu)(w:World)(l1:zu)(w2:World)(l':zu)(wr:World)(a rev m:Nat)(lg bv:Value)(on:Bool)(us:List zj)(rs:List zm)(k:Nat):Prop where
 b:B l' wr
 s:zr l w l' wr
 row:kR wr a rev lg bv on m
 lab:l' a=12
 new:w.heap.size<=m
 cache:jS l' wr m (us.take k) rs
 le:(im l1.some w2).le (im l'.some wr)
variable{rc:Value}
theorem Vd{B:zu->World->Prop}{T:TypeId}{gU gR gA:FuncId}{us:List zj}(h:AR B T v rc gU gR gA us rs)(RA:zE zj.name us)(LE:zE zm.name rs)(ma:∀u∈us,jv u)(eh:∀r∈rs,kB r)(N9:∀r∈rs,∀p∈r.perms,p.kind<=2/\zU p.key p.stop=true)
  {w:World}{rev m0:Nat}{on:Bool}(hB:B l w)(ha:kR w a rev lg bv on m0)(m_:l a=12):
  Calls prog 56 #[ptr a,.iface T v] w λe w'=>e=.returned (.tuple #[])/\∃l' m',B l' w'/\zr l w l' w'/\kR w' a rev lg bv on m'/\jS l' w' m' us rs:=by
 obtain⟨A,hA⟩:=Gt ha;have hZ:w.heap[a]? =some (.cells #[.int .u64 rev,lg,bv,.bool on,.map (some m0)] 146 (0,0)):=ha;have lX:(w.alloc (.map #[] 0)).heap[a]? =some (.cells #[.int .u64 rev,lg,bv,.bool on,.map (some m0)] 146 (0,0)):=za.heap (show za w (w.alloc (.map #[] 0))from(za.refl w).alloc _) hZ;have r4:(w.alloc (.map #[] 0)).cell? ⟨a,4,none⟩=some (.map (some m0)):=by rw[cell_of_row _ a 4 _ _ (0,0) lX];rfl
 have z4:(w.alloc (.map #[] 0)).frozen? ⟨a,4,none⟩=false:=by simp[World.frozen?,lX]
 have mA:=h.methA;have nA:=h.nilA;have eA:=h.entA;have Su:= @run_makeMap prog;obtain⟨w1,Hh⟩:=zex ((w.alloc (.map #[] 0)).setCell ⟨a,4,none⟩ (.map (some w.heap.size)));obtain⟨l1,tK,pI,L9,rG,r8⟩:=Di (rs:=rs) h.keep (h.lt l w hB) hB ha m_ Hh;have Pr:=hid Hh;have Hu:=hid (h.all l1 w1 tK);have H:=hid h;have Pm:=hid RA;have mR:=hid LE;have ag:=hid ma;have oV:=hid eh;have lQ:=hid N9;have Rq:=hid tK;have RV:=hid pI;have Oi:=hid L9;have Tg:=hid r8;clear h RA LE ma eh N9 hB ha hZ Hh tK pI L9 r8 lX;go_enter_defers func56,ntmps56;go_wp2_with (go_at_call 69;go_must (refine(vY _ _).mono ?_);rintro e w9 ⟨rfl,rfl⟩);rw[<-Pr.out];refine Hu.out.mono ?_;rintro e w2 ⟨r,rfl,wz,Hq,H9⟩;obtain⟨bs,pW,Ha,He⟩:=H9;obtain⟨p,n8,c8,rfl⟩:=pW.shape;have rm:jM l1 w1 l1 w2:=(jM.refl (H.out.lt _ _ Rq.out)).read Hq;obtain⟨CV,tX⟩:=Oi.out.pstep rG rm;have Nj:=Tg.out.step (H.out.lt _ _ Rq.out) rm.s
 have ry:zcF B l w l1 w2 l1 w2 a rev w.heap.size lg bv on us rs 0:=⟨wz,RV.out.trans rm.s,CV,tX,Nat.le_refl _,Nj,Rd.le_refl _⟩;have RL:us.length=n8:=by rw[He.length];have:=pW.row.1;rw[List.length_map]at this;exact this
 have Nn:=hid ry;have Oj:=pW;have pW:=Sl.im_of (S:=l1.some) pW λj hj e=>by have:=Ha j hj;have:=H.out.lt _ _ Rq.out j e;omega
 have Ni:=hid pW;have Cp:=hid He;have RM:=hid RL;obtain⟨m,hm⟩:=zex (w.heap.size);rw[<-hm]at Nn;clear wz Hq pW Oj Ha He rm CV tX Nj ry RL hm;go_wp2;go_loopw [24] (λc wr=>∃(k:Nat) (l':zu),k<=n8/\c=.int .i64 k/\zcF B l w l1 w2 l' wr a rev m lg bv on us rs k) (λc _=>n8-(intOf c).toNat)
 case atStart=>exact⟨0,l1,Nat.zero_le _,rfl,Nn.out⟩
 case round=>
  obtain⟨k,l',hk,rfl,hR⟩:=hrel;by_cases Hb:k<n8
  ·obtain⟨pZ,NZ,tT,⟨gb,go,rfl,PQ⟩|h0⟩:=Ni.out.row
   case inr=>exact absurd h0 (by omega)
   have P_:k<us.length:=by rw[RM.out];exact Hb
   have PX:k<bs.length:=by rw[<-Cp.out.length];exact P_
   have Nb:=hR.le _ _ (PQ k (by rw[List.length_map];exact PX));obtain⟨ub,N_⟩:∃ub,bs[k]=ub:=⟨_,rfl⟩;obtain⟨u,hu⟩:∃u,us[k]=u:=⟨_,rfl⟩;have ck:wr.cell? ⟨gb,go+k,none⟩=some (ptr ub):=by have:=zd _ _ _ _ Nb;rw[<-N_];simpa using this
   have Ru:=((Cp.out.get k P_ PX).2).mono hR.le;rw[N_,hu]at Ru;have Ol:u∈us:=by rw[<-hu];exact List.getElem_mem P_
   have aH:qT zj.name us u.name=some u:=(qN Pm.out).2 ⟨Ol,rfl⟩;have SW:=ag.out u Ol;obtain⟨⟨nv,f1,f2⟩,_⟩:=Ru;have d1:=zd _ _ _ _ f1;have sN:=λwx (e:Rd.le wr.cell? wx.cell?)=>kN (w:=wx) (show Bs wx.cell? u.name nv from(f2.mono (zd _ _)).mono e) 75 5 9 (by kernel_rfl) (by kernel_rfl) (by kernel_rfl);have Om:=sN wr (Rd.le_refl _);obtain⟨np,nn,nc,rfl,My⟩:=f2.shape;have Rk:(k:Int)<n8:=by omega
   have On:=gN H.out.weak (λ_ _ _ _=>trivial) Pm.out mR.out ag.out oV.out lQ.out trivial hR.b SW.name;rw[aH]at On;have Oo:=hid On;have RX:us.take (k+1)=us.take k++[u]:=by rw[<-hu,List.take_append_getElem]
   have tA:=hid RX;have HR:=hid hR;have md:=hid SW;obtain⟨sx,Ht⟩:=zex ((⟨u.name.toArray⟩:ByteArray));unfold zb at Oo;rw[<-Ht]at Oo Om;have r_:=hid Ht;clear pZ PQ Nb N_ hu Ol aH SW f1 f2 sN On RX hR Ht;go_wp2_with fail;refine Oo.out.mono ?_;rintro e w4 ⟨r4,rfl,l4,LZ⟩;have Oq:=LZ;obtain⟨es,Ia,cI,pi⟩:=HR.out.cache.put (H.out.lt _ _ HR.out.b) md.out.name LZ;obtain⟨q,s1,i1,s2,i2,rfl,hq,hq0,B_,ah,ir,_⟩:=LZ;obtain⟨iw,Ai⟩:=HR.out.row.pstep HR.out.lab ir;have b4:w4.cell? ⟨a,4,none⟩=some (.map (some m)):=by rw[cell_of_row w4 a 4 _ _ (0,0) iw];rfl
   obtain⟨W',pQ,CW,Pg⟩:=zD.put (P:=prog) (t:=143) (k:=9) (e:=130) zcn (by kernel_rfl) Ia (by have:=RM.out;rw[List.length_take]at cI;simp only[maxLen];omega) ⟨u.name,md.out.name⟩ (ptr q);obtain⟨LQ,Ap⟩:=pi W' CW Pg;unfold Gh at pQ;rw[<-r_.out]at pQ;have pP:l4 m=15:=Ap.lab;have ha5:kR W' a rev lg bv on m:=iw.keep (Pg.block a iw.lt λe=>by have e:a=m:=e;rw[e,pP]at Ai;cases Ai);have pC:zr l w l4 W':=by have h9:=HR.out.s.trans ir.s;exact⟨h9.mod.trans Pg λb hb e=>by have e:b=m:=e;have:=HR.out.new;omega,h9.old,LQ.bnd⟩
   have hR5:zcF B l w l1 w2 l4 W' a rev m lg bv on us rs (k+1):=⟨H.out.keep _ _ _ _ ah LQ,pC,ha5,Ai,HR.out.new,by rw[tA.out];exact Ap,HR.out.le.le_trans (ir.le.le_trans LQ.le)⟩;have L5:=hid hR5;clear Oq Ia cI pi B_ ah ir iw CW Pg LQ Ap ha5 pC hR5;go_wp2;go_roundw
   case rel=>exact⟨k+1,l4,by omega,by go_num,L5.out⟩
   case measure=>simp[intOf];omega
  ·have ph:k=n8:=by omega
   subst ph;have HR:=hid hR;clear hR;go_wp2;refine leaves_cons (f:=70) (args:= #[.pointer (some A)]) (by simp) (by simp[go_sem]) ?_;refine(kQ _ _).mono ?_;rintro e u' w'' ⟨rfl,rfl,rfl⟩;refine⟨_,results_none rfl _ _ _,rfl,l',m,HR.out.b,HR.out.s,HR.out.row,?_⟩;have:=HR.out.cache;rw[<-RM.out,List.take_length]at this;exact this
theorem jh:∀x y:Bytes,Op.bytesLess x y=decide (zt x y<0)
 |[],[]=>by simp[Op.bytesLess,zt]
 |[],_::_=>by simp[Op.bytesLess,zt]
 |_::_,[]=>by simp[Op.bytesLess,zt]
 |a::x,b::y=>by
  unfold Op.bytesLess zt;by_cases h1:a<b
  ·simp[h1]
  ·by_cases h2:b<a
   ·have h3: ¬a=b:=λe=>by subst e;exact UInt8.lt_irrefl _ h2
    simp[h1,h2,h3]
   ·have h3:a=b:=UInt8.le_antisymm (UInt8.not_lt.1 h2) (UInt8.not_lt.1 h1);subst h3;simp only[h1,if_false,decide_false,Bool.false_or,BEq.rfl,Bool.true_and];exact jh x y
def zbk(n:Nat)(p:Nat->Bool)(k:Nat):Prop:=k<=n/\(∀t,t<k->p t=false)/\∀t,k<=t->t<n->p t=true
theorem XK{w:World}{g:FuncId}{cap:Array Value}{p:Nat->Bool}(hn:n<=1000)(eg:∀args W,(callFunc g args).run prog W=.ok (.enter g args) W)
  (hf:∀i W,i<n->za w W->Calls prog g (#[.int .i64 i]++cap) W λe w'=>e=.returned (.bool (p i))/\za W w')(Cq:∀a b,a<=b->b<n->p a=true->p b=true):
  Calls prog 182 #[.int .i64 n,.func (.func g) #[] cap] w λe w'=>∃k,e=.returned (.int .i64 (k:Nat))/\zbk n p k/\za w w':=by
 have HF:=hid hf;have M:=hid Cq;clear hf Cq;go_enter func182,ntmps182;go_wp2;go_loopg [5,6] n (λkx s5 s6 wr=>∃(lo hi:Nat),s5=.int .i64 lo/\s6=.int .i64 hi/\lo<=hi/\hi<=n/\hi-lo<=kx/\za w wr/\Hid ((∀t,t<lo->p t=false)/\(∀t,hi<=t->t<n->p t=true)))
 case atStart=>exact⟨0,n,rfl,rfl,Nat.zero_le _,Nat.le_refl _,by omega,za.refl w,hid ⟨λt ht=>absurd ht (Nat.not_lt_zero _),λt h1 h2=>by omega⟩⟩
 case round=>
  obtain⟨lo,hi,rfl,rfl,hlh,Ri,hg,hw,I⟩:=hrel;by_cases Hb:lo<hi
  ·have hc:=HF.out ((lo+hi)/2) wr (by omega) hw;rw[show(((lo+hi)/2:Nat):Int)=((lo:Int)+(hi:Int))/2 by omega]at hc;cases hp:p ((lo+hi)/2)<;>rw[hp]at hc
   ·have HP:=hid hp;have HC:=hid hc;have HW:=hid hw;clear hp hc hw;go_wp2_with (go_at_fn g;refine HC.out.mono ?_;rintro e w' ⟨rfl,Mn⟩);go_roundg (hi-((lo+hi)/2+1))
    case measure=>omega
    case rel=>
     exact⟨(lo+hi)/2+1,hi,by rw[show((lo:Int)+(hi:Int))/2+1=(((lo+hi)/2+1:Nat):Int) by omega],rfl,by omega,Ri,Nat.le_refl _,HW.out.trans Mn,hid ⟨λt ht=>(by
      cases h:p t with
      |false=>rfl
      |true=>have:=M.out t ((lo+hi)/2) (by omega) (by omega) h;rw[HP.out]at this;cases this),I.out.2⟩⟩
   ·have HP:=hid hp;have HC:=hid hc;have HW:=hid hw;clear hp hc hw;go_wp2_with (go_at_fn g;refine HC.out.mono ?_;rintro e w' ⟨rfl,Mn⟩);go_roundg ((lo+hi)/2-lo)
    case measure=>omega
    case rel=>exact⟨lo,(lo+hi)/2,rfl,by rw[show((lo:Int)+(hi:Int))/2=(((lo+hi)/2:Nat):Int) by omega],by omega,by omega,Nat.le_refl _,HW.out.trans Mn,hid ⟨I.out.1,λt ht B5=>M.out ((lo+hi)/2) t ht B5 HP.out⟩⟩
  ·obtain rfl:hi=lo:=by omega
   have HW:=hid hw;clear hw;go_wp2;go_returns;exact⟨hi,rfl,⟨Ri,I.out.1,I.out.2⟩,HW.out⟩
theorem V6(args:Array Value)(w:World):(callFunc 188 args).run prog w=.ok (.enter 188 args) w:=by kernel_rfl
variable{c:Nat}
theorem Uq{ba bx gb go i:Nat}{x y:Bytes}(hi:i<n)(ha:W.cell? ⟨ba,0,none⟩=some (.slice (some ⟨gb,go,none⟩) n c))(hx:W.cell? ⟨bx,0,none⟩=some (zb x))(hc:W.cell? ⟨gb,go+i,none⟩=some (zb y)):
  Calls prog 188 #[.int .i64 i,ptr ba,ptr bx] W λe w'=>e=.returned (.bool (!decide (zt y x<0)))/\za W w':=by
 have hg:(!Op.bytesLess (ByteArray.toList ⟨y.toArray⟩) (ByteArray.toList ⟨x.toArray⟩))= !(decide (zt y x<0)):=by simp[ByteArray.toList_eq,jh]
 have B0:(i:Int)<(n:Int):=by omega
 unfold zb at hx hc;generalize(!(decide (zt y x<0)))=d at hg⊢;generalize(⟨x.toArray⟩:ByteArray)=sx at hx hg;generalize(⟨y.toArray⟩:ByteArray)=sy at hc hg;have HG:=hid hg;clear hg;go_enter func188,ntmps188;go_wp2;go_region
 all_goals
  go_wp2;go_returns;exact⟨congrArg (λb=>Ending.returned (.bool b)) HG.out,(za.refl W).drew⟩
variable{r:Rd}
theorem vE{w:World}{xs:List Bytes}{x:Bytes}(hr:Rd.le r w.cell?)(h:Sl r 1 (xs.map zb) v)(Pt:zM xs)(hn:xs.length<=1000):
  Calls prog 184 #[v,zb x] w λe w'=>e=.returned (.int .i64 (zk xs x:Nat))/\za w w':=by
 obtain⟨p,n,c,rfl⟩:=h.shape;obtain⟨W0,py⟩:=zex ((w.alloc (.cells #[.slice p n c] 28)).alloc (.cells #[zb x] 9));have PK:za w W0:=by rw[py];exact((za.refl w).alloc _).alloc _
 have pI:(w.alloc (.cells #[.slice p n c] 28)).heap.size=w.heap.size+1:=Array.size_push ..
 have ca:W0.cell? ⟨w.heap.size,0,none⟩=some (.slice p n c):=by
  have h1:(w.alloc (.cells #[.slice p n c] 28)).heap[w.heap.size]? =some (.cells #[.slice p n c] 28 (0,0)):=zg w _;have h2:W0.heap[w.heap.size]? =some (.cells #[.slice p n c] 28 (0,0)):=by rw[py];exact za.heap (show za (w.alloc (.cells #[.slice p n c] 28)) ((w.alloc (.cells #[.slice p n c] 28)).alloc (.cells #[zb x] 9))from(za.refl _).alloc _) h1
  rw[cell_of_row W0 _ 0 _ _ (0,0) h2];rfl
 have cx:W0.cell? ⟨w.heap.size+1,0,none⟩=some (zb x):=by
  have h2:W0.heap[w.heap.size+1]? =some (.cells #[zb x] 9 (0,0)):=by rw[py,<-pI];exact zg _ _
  rw[cell_of_row W0 _ 0 _ _ (0,0) h2];rfl
 have h_:xs.length=n:=by have:=h.row.1;rw[List.length_map]at this;exact this
 have hS:=XK (w:=W0) (g:=188) (cap:= #[ptr w.heap.size,ptr (w.heap.size+1)]) (n:=n) (p:=λi=> !decide (zt (xs.getD i []) x<0)) (by omega) V6 (λi W hi hW=>by
  obtain⟨_,_,_,⟨gb,go,rfl,PQ⟩|h0⟩:=h.row
  ·have Nv:i<xs.length:=by omega
   have Hz:=hr _ _ (PQ i (by rw[List.length_map];exact Nv));rw[List.getElem_map]at Hz;have Tc:xs.getD i []=xs[i]:=by rw[List.getD_eq_getElem?_getD,List.getElem?_eq_getElem Nv];rfl
   rw[Tc];exact Uq hi (hW.le _ _ ca) (hW.le _ _ cx) (hW.le _ _ (PK.le _ _ Hz))
  ·omega) (λa b th hb hp=>by
   have pH:a<xs.length:=by omega
   have SS:b<xs.length:=by omega
   simp only[Bool.not_eq_true',decide_eq_false_iff_not,List.getD_eq_getElem?_getD,List.getElem?_eq_getElem pH,List.getElem?_eq_getElem SS,Option.getD_some]at hp⊢;by_cases e:a=b
   ·subst e;exact hp
   ·have h1:zt xs[a] xs[b]<0:=List.pairwise_iff_getElem.1 Pt a b pH SS (by omega);exact λh2=>hp (qL h1 h2))
 have hS2:Calls prog 182 #[.int .i64 n,.func (.func 188) #[] #[ptr w.heap.size,ptr (w.heap.size+1)]] W0 λe w'=>e=.returned (.int .i64 (zk xs x:Nat))/\za W0 w':=by
  refine hS.mono ?_;rintro e w' ⟨k,rfl,⟨rh,se,M_⟩,hw⟩;refine⟨?_,hw⟩;have:k=zk xs x:=by
   by_cases h1:k<zk xs x
   ·have rH:k<xs.length:=Nat.lt_of_lt_of_le h1 (jo xs x);have h2:=M_ k (Nat.le_refl _) (by omega);have h3:=vw rH h1;simp[List.getD_eq_getElem?_getD,List.getElem?_eq_getElem rH,h3]at h2
   ·by_cases h4:zk xs x<k
    ·have h5:=se _ h4;have sk:zk xs x<xs.length:=by omega
     have h6:=jU sk;simp[List.getD_eq_getElem?_getD,List.getElem?_eq_getElem sk,h6]at h5
    ·omega
  rw[this]
 have HS:=hid hS2;have rR:=hid py;have S_:=hid PK;generalize zk xs x=pl at HS⊢;clear h hr Pt hn py PK ca cx hS hS2 pI h_;unfold zb at rR⊢;generalize(⟨x.toArray⟩:ByteArray)=sx at rR⊢;go_enter func184,ntmps184;go_wp2_with fail;rw[<-rR.out];refine HS.out.mono ?_;rintro e w' ⟨rfl,Mn⟩;go_wp2;go_returns;exact⟨rfl,S_.out.trans Mn⟩
def WI:ByteArray:={data:= #[114,111,111,116]}
theorem XL:zb zL=.string WI:=rfl
variable{b:Nat}
theorem Ve{w:World}(hr:Rd.le r w.cell?)(h:y9 r b u)(Pt:zM u.roles)(hn:u.roles.length<=100):
  Calls prog 178 #[ptr b] w λe w'=>e=.returned (.bool u.root)/\za w w':=by
 obtain⟨_,_,⟨y,h5,h6⟩,_⟩:=h;have hS:=vE (w:=w) (x:=zL) hr h6 Pt (by omega);obtain⟨p,n,c,rfl⟩:=h6.shape;have c2:=hr _ _ h5;have h_:u.roles.length=n:=by have:=h6.row.1;rw[List.length_map]at this;exact this
 rw[XL]at hS;have pS:=jo u.roles zL;have mf:u.root=zx u.roles zL:=by unfold zj.root;rw[Bool.eq_iff_iff,decide_eq_true_iff,kT Pt]
 by_cases hf:zk u.roles zL<u.roles.length
 ·obtain⟨_,_,_,⟨gb,go,rfl,PQ⟩|h0⟩:=h6.row
  case inr=>exact absurd h0 (by omega)
  have Hz:=hr _ _ (PQ _ (by rw[List.length_map];exact hf));rw[List.getElem_map]at Hz;have RN:u.root=decide (u.roles[zk u.roles zL]=zL):=by rw[mf];unfold zx;rw[List.getElem?_eq_getElem hf,Bool.eq_iff_iff];simp
  generalize zk u.roles zL=pl at hS hf Hz RN pS;generalize hx:u.roles[pl]=x at Hz RN;have bY: ¬(pl:Int)=n:=by omega
  have hf3:(pl:Int)<n:=by omega
  have P9:((pl:Int) !=n && (⟨x.toArray⟩:ByteArray).toList==[114,111,111,116])=u.root:=by
   have h1:((pl:Int) !=n)=true:=by simpa using bY
   rw[RN,ByteArray.toList_eq,h1,Bool.true_and,Bool.eq_iff_iff];show((x==[114,111,111,116])=true)↔decide (x=zL)=true;rw[beq_iff_eq,decide_eq_true_iff];rfl
  unfold zb at Hz;generalize(⟨x.toArray⟩:ByteArray)=sx at Hz P9;have HS:=hid hS;have HC:=hid P9;have HK:=hid (λw' (hw:za w w')=>And.intro (hw.le _ _ c2) (hw.le _ _ Hz));clear hS h5 h6 Pt hn PQ Hz mf RN hx P9 hf pS;go_enter func178,ntmps178;go_wp2_with fail;refine HS.out.mono ?_;rintro e w' ⟨rfl,hw⟩;obtain⟨d2,dx⟩:=HK.out w' hw;have HW:=hid hw;clear hw;go_wp2;go_returns;exact⟨congrArg (λb=>Ending.returned (.bool b)) HC.out,HW.out⟩
 ·have pN:zk u.roles zL=n:=by omega
  have RN:u.root=false:=by rw[mf];unfold zx;rw[List.getElem?_eq_none (by omega)];rfl
  rw[pN]at hS;have HS:=hid hS;have HK:=hid (λw' (hw:za w w')=>hw.le _ _ c2);have HR:=hid RN;clear hS h5 h6 Pt hn mf RN hf pS pN;go_enter func178,ntmps178;go_wp2_with fail;refine HS.out.mono ?_;rintro e w' ⟨rfl,hw⟩;have d2:=HK.out w' hw;have HW:=hid hw;clear hw;go_wp2;go_returns;refine⟨?_,HW.out⟩;rw[HR.out]
  first|rfl|simp
theorem Dj(it:Nat)(W:World):(method 608 280 (ptr it) "Intersects").run prog W=.ok (235,ptr it) W:=by kernel_rfl
theorem Dk(it:Nat)(W:World):(method 608 280 (ptr it) "Contains").run prog W=.ok (230,ptr it) W:=by kernel_rfl
theorem gO{wb:World}{T:TypeId}{x y:Value}(hW:W=wb.alloc (.cells #[x,y] T)):za wb W/\W.heap[wb.heap.size]? =some (.cells #[x,y] T (0,0)):=by rw[hW];exact⟨(za.refl wb).alloc _,zg wb _⟩
theorem XM{ps:List zh}(hv:∀p∈ps,zU p.key p.stop=true)(kd:Nat){v:Iv}(h:v∈qq ps kd):Q5 v:=by obtain⟨p,hp,rfl⟩:=List.mem_map.1 h;exact Jn (hv p (List.mem_filter.1 hp).1)
open Classical in
theorem Ur{ps:List zh}(hv:∀p∈ps,zU p.key p.stop=true)(kd:Nat){key:Bytes}(hk:key≠[]):(∃v∈(qq ps kd).reverse,jI (pt key) v=0)↔yT ps kd key []=true:=by
 unfold yT kg;rw[if_pos rfl,decide_eq_true_iff];constructor
 ·rintro⟨v,h1,h2⟩ j hj;rw[(zb0 hk).1 hj];have h1:=List.mem_reverse.1 h1;exact⟨v,h1,(zbZ hk (XM hv kd h1)).1 h2⟩
 ·intro h;obtain⟨v,h1,h2⟩:=h key ((zb0 hk).2 rfl);exact⟨v,List.mem_reverse.2 h1,(zbZ hk (XM hv kd h1)).2 h2⟩
variable{stop:Bytes}
open Classical in
theorem Us{ps:List zh}(kd:Nat){key:Bytes}(hs:stop≠[]):yL (qq ps kd).reverse (key,if stop=[0]then []else stop)↔yT ps kd key stop=true:=by unfold yT kg;rw[if_neg hs,decide_eq_true_iff];unfold yL;simp only[List.mem_reverse]
structure Vf(l:zu)(w:World)(W:World)(ib:Nat)(i:Nat)(L:List Iv)(b e:EV):Prop where
 new:za w W
 tree:∃F s,q7 (im l.some W) W F s i L/\∀j,F j->j<W.heap.size
 eb:kK (im l.some W) b
 ee:kK (im l.some W) e
 row:W.heap[ib]? =some (.cells #[b.2,e.2] 230 (0,0))
variable{L:List Iv}{ib:Nat}
theorem Vf.drew{w:World}{i:Nat}{b e:EV}(h:Vf l w W ib i L b e):Vf l w W.drew ib i L b e:=by obtain⟨h1,⟨F,s,h2,h3⟩,h4,h5,h6⟩:=h;have hd:=(za.refl W).drew;exact⟨h1.drew,⟨F,s,h2.frame (λ_ _=>rfl) (za.im hd _),h3⟩,h4.mono (za.im hd _),h5.mono (za.im hd _),h6⟩
theorem Vf.has{w:World}{i:Nat}{b e:EV}(h:Vf l w W ib i L b e)(hv:Q5 (b.1,e.1)):Calls prog 235 #[ptr i,.agg #[b.2,e.2]] W (Uk W (∃v∈L,jI (b.1,e.1) v=0)):=by obtain⟨h1,⟨F,s,h2,h3⟩,h4,h5,h6⟩:=h;exact J8 h2 (zd _ _) h4 h5 hv
theorem Vf.con{w:World}{i:Nat}{b e:EV}(h:Vf l w W ib i L b e)(hv:Q5 (b.1,e.1)):Calls prog 230 #[ptr i,.agg #[b.2,e.2]] W (Uk W (yL L (b.1,e.1))):=by obtain⟨h1,⟨F,s,h2,h3⟩,h4,h5,h6⟩:=h;exact V3 h2 h3 (zd _ _) h4 h5 hv
variable{kv:Value}
theorem uE{w:World}{ps:List zh}{key:Bytes}{kd:Nat}(h:xU l w v ps)(Hr:∀j,l j≠0->j<w.heap.size)(hk:Bs (im l.some w) key kv)(tP:key≠[])(pE:key.length<=1000)(hv:∀p∈ps,zU p.key p.stop=true)(Cr:kd=0\/kd=1):
  Calls prog 51 #[lg,v,kv,.int .i32 kd] w λe w'=>e=.returned (.bool (yT ps kd key []))/\za w w':=by
 obtain⟨q,s1,i1,s2,i2,F1,F2,rfl,c0,c1,t1,t2,f1,f2⟩:=h;have hP:=XH (hk.mono (zd _ _)) (show key.length<=1000000 by omega);have Ts:=λkd=>Ur hv kd tP;have Bf:=KM tP;have HK:=hid hk;obtain⟨kp,kn,kc,rfl,ph⟩:=hk.shape;have m1:=Dj;have HP:=hid hP;have aj:=hid Ts;have ak:=hid Bf;have LN:=hid t1;have cV:=hid t2;have CY:=hid (λj (e:F1 j)=>Hr j (by rw[f1 j e];decide));have CZ:=hid (λj (e:F2 j)=>Hr j (by rw[f2 j e];decide));have wW:=hid Hr;clear hP Ts Bf hk t1 t2 f1 f2 Hr hv;rcases Cr with rfl|rfl
 ·go_enter func51,ntmps51;go_wp2_with fail;refine HP.out.mono ?_;rintro e wb ⟨u9,rfl,rV,N_,ma⟩;obtain⟨W,hW⟩:=zex (wb.alloc (.cells #[.iface 283 (.slice kp kn kc),.iface 283 u9] 230));obtain⟨pq,hZ⟩:=gO hW;have hn:=rV.trans pq;have ha:Vf l w W wb.heap.size i1 (qq ps 0).reverse (key,.iface 283 (.slice kp kn kc)) (key++[0],.iface 283 u9):=
   ⟨hn,⟨F1,s1,LN.out.frame (λj e=>hn.block j (CY.out j e) (λe=>e)) (hn.im _),λj e=>Nat.lt_of_lt_of_le (CY.out j e) hn.size⟩,⟨_,rfl,HK.out.mono (hn.im _)⟩,⟨_,rfl,(Bs.im_of N_ λj e e2=>by have:=ma j e;have:=wW.out j e2;omega).mono (pq.im _)⟩,hZ⟩
  have e0:=hn.le _ _ (zd _ _ _ _ c0);obtain⟨e1,e2,_⟩:=qS hZ;have HI:=hid (ha.drew.has ak.out);have HW:=hid hW;have HA:=hid ha.new;clear rV N_ ma hW pq hZ hn ha;go_upto_region 5 with fail
  rw[<-HW.out];go_region_with (refine HI.out.mono ?_;rintro e w5 ⟨⟨bb,rfl,Rz⟩,pz⟩;have SD:=hid (And.intro Rz pz);clear Rz pz)
  all_goals
   go_wp2;go_returns;refine⟨congrArg (λb=>Ending.returned (.bool b)) ?_,za.trans HA.out.drew SD.out.2⟩;rw[Bool.eq_iff_iff];exact SD.out.1.trans (aj.out 0)
 ·go_enter func51,ntmps51;go_wp2_with fail;refine HP.out.mono ?_;rintro e wb ⟨u9,rfl,rV,N_,ma⟩;obtain⟨W,hW⟩:=zex (wb.alloc (.cells #[.iface 283 (.slice kp kn kc),.iface 283 u9] 230));obtain⟨pq,hZ⟩:=gO hW;have hn:=rV.trans pq;have ha:Vf l w W wb.heap.size i2 (qq ps 1).reverse (key,.iface 283 (.slice kp kn kc)) (key++[0],.iface 283 u9):=
   ⟨hn,⟨F2,s2,cV.out.frame (λj e=>hn.block j (CZ.out j e) (λe=>e)) (hn.im _),λj e=>Nat.lt_of_lt_of_le (CZ.out j e) hn.size⟩,⟨_,rfl,HK.out.mono (hn.im _)⟩,⟨_,rfl,(Bs.im_of N_ λj e e2=>by have:=ma j e;have:=wW.out j e2;omega).mono (pq.im _)⟩,hZ⟩
  have e0:=hn.le _ _ (zd _ _ _ _ c1);obtain⟨e1,e2,_⟩:=qS hZ;have HI:=hid (ha.drew.has ak.out);have HW:=hid hW;have HA:=hid ha.new;clear rV N_ ma hW pq hZ hn ha;go_upto_region 7 with fail
  rw[<-HW.out];go_region_with (refine HI.out.mono ?_;rintro e w5 ⟨⟨bb,rfl,Rz⟩,pz⟩;have SD:=hid (And.intro Rz pz);clear Rz pz)
  all_goals
   go_wp2;go_returns;refine⟨congrArg (λb=>Ending.returned (.bool b)) ?_,za.trans HA.out.drew SD.out.2⟩;rw[Bool.eq_iff_iff];exact SD.out.1.trans (aj.out 1)
theorem Gu{w:World}(hr:Rd.le r w.cell?)(h:Bs r stop v):Calls prog 67 #[v] w λe w'=>e=.returned (.bool (decide (stop=[0])))/\w=w':=by
 obtain⟨p,n,c,rfl,hn⟩:=h.shape;by_cases h1:n=1
 ·subst h1;obtain⟨z,rfl⟩:∃z,stop=[z]:=by
   match stop,hn with
   |[z],_=>exact⟨z,rfl⟩
  obtain⟨_,_,_,⟨gb,go,rfl,PQ⟩|h0⟩:=h.sl.row
  case inr=>exact absurd h0 (by decide)
  have hz:=hr _ _ (PQ 0 (by simp));have PZ:w.cell? ⟨gb,go,none⟩=some (.int .u8 z.toNat):=by simpa[ql]using hz
  have hd:((z.toNat:Int)==0)=decide ([z]=([0]:Bytes)):=by
   rw[Bool.eq_iff_iff,beq_iff_eq,decide_eq_true_iff];constructor
   ·intro e;rw[show z=0 from UInt8.toNat_inj.1 (by simpa using e)]
   ·intro e;cases e;rfl
  have HD:=hid hd;clear h PQ hz hn hd;go_enter func67,ntmps67;go_wp2;go_returns;exact⟨congrArg (λb=>Ending.returned (.bool b)) (by first|exact HD.out|simpa using HD.out),rfl⟩
 ·have hd:decide (stop=[0])=false:=decide_eq_false λe=>h1 (by rw[<-hn,e];rfl);have h2: ¬(n:Int)=1:=by omega
  rw[hd];clear h hn hd;go_enter func67,ntmps67;go_wp2;go_returns;exact⟨congrArg (λb=>Ending.returned (.bool b)) (by simp),rfl⟩
variable{sv:Value}
theorem Vg{w:World}{ps:List zh}{key:Bytes}{kd:Nat}(h:xU l w v ps)(Hr:∀j,l j≠0->j<w.heap.size)(hk:Bs (im l.some w) key kv)(hs:Bs (im l.some w) stop sv)(St:stop≠[])(sZ:zU key stop=true)(Cr:kd=0\/kd=1):
  Calls prog 52 #[lg,v,kv,sv,.int .i32 kd] w λe w'=>e=.returned (.bool (yT ps kd key stop))/\za w w':=by
 obtain⟨q,s1,i1,s2,i2,F1,F2,rfl,c0,c1,t1,t2,f1,f2⟩:=h;have Ts:=λkd=>Us (ps:=ps) kd (key:=key) St;have Bf:=Jn sZ;unfold kg at Bf;rw[if_neg St]at Bf;have hO:=Gu (w:=w) (zd _ _) hs;have HK:=hid hk;have HS:=hid hs;obtain⟨kp,kn,kc,rfl,ph⟩:=hk.shape;obtain⟨sp,sn,sc,rfl,RW⟩:=hs.shape;have m1:=Dk;have HO:=hid hO;have aj:=hid Ts;have ak:=hid Bf;have LN:=hid t1;have cV:=hid t2;have CY:=hid (λj (e:F1 j)=>Hr j (by rw[f1 j e];decide));have CZ:=hid (λj (e:F2 j)=>Hr j (by rw[f2 j e];decide));clear hO Ts Bf hk hs t1 t2 f1 f2 Hr sZ;obtain⟨ed,Bd⟩:=zex ((if stop=[0]then []else stop));rw[<-Bd]at aj ak;obtain⟨d,hd⟩:=zex (decide (stop=[0]));rw[<-hd]at HO;have HD:=hid hd;have HED:=hid Bd;clear hd Bd;go_enter func52,ntmps52;go_wp2_with fail;refine HO.out.mono ?_;rintro e w1 ⟨rfl,rfl⟩;go_upto_if 13 with fail
 go_cut [3] (λc wx=>w=wx/\Bs (im l.some w) ed c)
 case first=>
  cases d
  ·have h0: ¬stop=[0]:=of_decide_eq_false HD.out.symm;go_wp2;go_meet;refine⟨rfl,?_⟩;rw[HED.out,if_neg h0];exact HS.out
  ·have h0:stop=[0]:=of_decide_eq_true HD.out.symm;go_wp2;go_meet;refine⟨rfl,?_⟩;rw[HED.out,if_pos h0];exact Bs.nil _
 case rest=>
  obtain⟨rfl,pU⟩:=hcut;obtain⟨ep,en,ec,rfl,MT⟩:=pU.shape;have HE:=hid pU;clear pU;rcases Cr with rfl|rfl
  ·go_upto_region 3 with fail
   go_wp2_with fail;refine xe.mono ?_;rintro e wb ⟨rfl,rV⟩;obtain⟨W,hW⟩:=zex (wb.alloc (.cells #[.iface 283 (.slice kp kn kc),.iface 283 (.slice ep en ec)] 230));obtain⟨pq,hZ⟩:=gO hW;have hn:=rV.trans pq;have ha:Vf l w W wb.heap.size i1 (qq ps 0).reverse (key,.iface 283 (.slice kp kn kc)) (ed,.iface 283 (.slice ep en ec)):=
    ⟨hn,⟨F1,s1,LN.out.frame (λj e=>hn.block j (CY.out j e) (λe=>e)) (hn.im _),λj e=>Nat.lt_of_lt_of_le (CY.out j e) hn.size⟩,⟨_,rfl,HK.out.mono (hn.im _)⟩,⟨_,rfl,HE.out.mono (hn.im _)⟩,hZ⟩
   have e0:=hn.le _ _ (zd _ _ _ _ c0);obtain⟨e1,e2,_⟩:=qS hZ;have HI:=hid (ha.drew.con ak.out);have HW:=hid hW;have HA:=hid ha.new;clear rV hW pq hZ hn ha;go_upto_region 7 with fail
   rw[<-HW.out];go_region_with (refine HI.out.mono ?_;rintro e w5 ⟨⟨bb,rfl,Rz⟩,pz⟩;have SD:=hid (And.intro Rz pz);clear Rz pz)
   all_goals
    go_wp2;go_returns;refine⟨congrArg (λb=>Ending.returned (.bool b)) ?_,za.trans HA.out.drew SD.out.2⟩;rw[Bool.eq_iff_iff];exact SD.out.1.trans (aj.out 0)
  ·go_upto_region 3 with fail
   go_wp2_with fail;refine xe.mono ?_;rintro e wb ⟨rfl,rV⟩;obtain⟨W,hW⟩:=zex (wb.alloc (.cells #[.iface 283 (.slice kp kn kc),.iface 283 (.slice ep en ec)] 230));obtain⟨pq,hZ⟩:=gO hW;have hn:=rV.trans pq;have ha:Vf l w W wb.heap.size i2 (qq ps 1).reverse (key,.iface 283 (.slice kp kn kc)) (ed,.iface 283 (.slice ep en ec)):=
    ⟨hn,⟨F2,s2,cV.out.frame (λj e=>hn.block j (CZ.out j e) (λe=>e)) (hn.im _),λj e=>Nat.lt_of_lt_of_le (CZ.out j e) hn.size⟩,⟨_,rfl,HK.out.mono (hn.im _)⟩,⟨_,rfl,HE.out.mono (hn.im _)⟩,hZ⟩
   have e0:=hn.le _ _ (zd _ _ _ _ c1);obtain⟨e1,e2,_⟩:=qS hZ;have HI:=hid (ha.drew.con ak.out);have HW:=hid hW;have HA:=hid ha.new;clear rV hW pq hZ hn ha;go_upto_region 9 with fail
   rw[<-HW.out];go_region_with (refine HI.out.mono ?_;rintro e w5 ⟨⟨bb,rfl,Rz⟩,pz⟩;have SD:=hid (And.intro Rz pz);clear Rz pz)
   all_goals
    go_wp2;go_returns;refine⟨congrArg (λb=>Ending.returned (.bool b)) ?_,za.trans HA.out.drew SD.out.2⟩;rw[Bool.eq_iff_iff];exact SD.out.1.trans (aj.out 1)
theorem jS.get{w:World}{m:Nat}{us:List zj}(h:jS l w m us rs)(hs:zE zj.name us)(hu:u∈us)(hn:u.name.length<=1000):∃v es,zD Gh w m es/\jq es (⟨u.name,hn⟩:Wc)=some v/\xU l w v (permsOf rs u.roles):=by
 obtain⟨_,es,h1,_,h3,h4⟩:=h;obtain⟨v,hv⟩:=h4 u hu ⟨u.name,hn⟩ rfl;obtain⟨u2,a,b,c⟩:=h3 _ _ hv;have:u2=u:=by have h5:=(qN hs).2 ⟨a,b⟩;rw[(qN hs).2 ⟨hu,rfl⟩]at h5;cases h5;rfl
 subst this;exact⟨v,es,h1,hv,c⟩
theorem Ut{w:World}{rev m:Nat}{on:Bool}{us:List zj}{key:Bytes}{kd:Nat}(ha:kR w a rev lg bv on m)(hc:jS l w m us rs)(hs:zE zj.name us)(Hr:∀j,l j≠0->j<w.heap.size)
  (Lv:∀p∈permsOf rs u.roles,zU p.key p.stop=true)(hu:u∈us)(hn:u.name.length<=1000)(hk:Bs (im l.some w) key kv)(Hi:Bs (im l.some w) stop sv)(pE:key.length<=1000)(sZ:zU key stop=true)(Cr:kd=0\/kd=1):
  Calls prog 186 #[ptr a,zb u.name,kv,sv,.int .i32 kd] w λe w'=>e=.returned (.bool (yT (permsOf rs u.roles) kd key stop))/\za w w':=by
 obtain⟨A,hA⟩:=Gt ha;have r1:w.cell? ⟨a,1,none⟩=some lg:=by rw[cell_of_row w a 1 _ _ (0,0) ha];rfl
 have r4:w.cell? ⟨a,4,none⟩=some (.map (some m)):=by rw[cell_of_row w a 4 _ _ (0,0) ha];rfl
 obtain⟨v,es,hm,hg,hp⟩:=hc.get hs hu hn;have lm:=zD.look (P:=prog) (t:=143) (e:=130) zcn (by kernel_rfl) (z:=.pointer none) (by kernel_rfl) hm ⟨u.name,hn⟩ true;rw[hg]at lm;unfold Gh at lm;simp only[if_true]at lm;have tP:key≠[]:=λe=>by rw[e]at sZ;simp[zU]at sZ
 unfold zb;generalize permsOf rs u.roles=ps at hp Lv⊢;generalize(⟨u.name.toArray⟩:ByteArray)=sx at lm⊢;by_cases h0:stop=[]
 ·subst h0;have HC:=hid (uE (lg:=lg) hp Hr hk tP pE Lv Cr);obtain⟨kp,kn,kc,rfl,ph⟩:=hk.shape;obtain⟨sp,sn,sc,rfl,RW⟩:=Hi.shape;have RW:sn=0:=RW.symm;subst RW;clear ha hc hs Hr Lv hk Hi hp hm hg;go_enter_defers func186,ntmps186;go_wp2_with (first|(go_at_call 96;go_must (refine(Qk _ _).mono ?_);rintro e w9 ⟨rfl,rfl⟩)|(go_at_call 51;go_must (refine HC.out.mono ?_);rintro e w9 ⟨rfl,ix⟩));refine leaves_cons (f:=98) (args:= #[.pointer (some A)]) (by simp) (by simp[go_sem]) ?_;refine(Qt _ _).mono ?_;rintro e u' w'' ⟨rfl,rfl,rfl⟩;exact⟨_,results_tmp rfl _ _ _,rfl,ix⟩
 ·have HC:=hid (Vg (lg:=lg) hp Hr hk Hi h0 sZ Cr);obtain⟨kp,kn,kc,rfl,ph⟩:=hk.shape;obtain⟨sp,sn,sc,rfl,RW⟩:=Hi.shape;have hf4: ¬(sn:Int)=0:=λe=>h0 (List.eq_nil_of_length_eq_zero (by omega));clear ha hc hs Hr Lv hk Hi hp hm hg;go_enter_defers func186,ntmps186;go_wp2_with (first|(go_at_call 96;go_must (refine(Qk _ _).mono ?_);rintro e w9 ⟨rfl,rfl⟩)|(go_at_call 52;go_must (refine HC.out.mono ?_);rintro e w9 ⟨rfl,ix⟩));refine leaves_cons (f:=98) (args:= #[.pointer (some A)]) (by simp) (by simp[go_sem]) ?_;refine(Qt _ _).mono ?_;rintro e u' w'' ⟨rfl,rfl,rfl⟩;exact⟨_,results_tmp rfl _ _ _,rfl,ix⟩
def ze:Nat->Value
 |1=>.iface 204 (.string {data:= #[97,117,116,104,58,32,114,111,111,116,32,117,115,101,114,32,100,111,101,115,32,110,111,116,32,101,120,105,115,116]})
 |2=>.iface 204 (.string {data:= #[97,117,116,104,58,32,114,111,111,116,32,117,115,101,114,32,100,111,101,115,32,110,111,116,32,104,97,118,101,32,114,111,111,116,32,114,111,108,101]})
 |3=>.iface 204 (.string {data:= #[97,117,116,104,58,32,117,115,101,114,32,97,108,114,101,97,100,121,32,101,120,105,115,116,115]})
 |4=>.iface 204 (.string {data:= #[97,117,116,104,58,32,117,115,101,114,32,110,97,109,101,32,105,115,32,101,109,112,116,121]})
 |5=>.iface 204 (.string {data:= #[97,117,116,104,58,32,117,115,101,114,32,110,111,116,32,102,111,117,110,100]})
 |6=>.iface 204 (.string {data:= #[97,117,116,104,58,32,114,111,108,101,32,97,108,114,101,97,100,121,32,101,120,105,115,116,115]})
 |7=>.iface 204 (.string {data:= #[97,117,116,104,58,32,114,111,108,101,32,110,111,116,32,102,111,117,110,100]})
 |8=>.iface 204 (.string {data:= #[97,117,116,104,58,32,114,111,108,101,32,110,97,109,101,32,105,115,32,101,109,112,116,121]})
 |9=>.iface 204 (.string {data:= #[97,117,116,104,58,32,112,101,114,109,105,115,115,105,111,110,32,110,111,116,32,103,105,118,101,110]})
 |10=>.iface 204 (.string {data:= #[97,117,116,104,58,32,112,101,114,109,105,115,115,105,111,110,32,100,101,110,105,101,100]})
 |11=>.iface 204 (.string {data:= #[97,117,116,104,58,32,114,111,108,101,32,105,115,32,110,111,116,32,103,114,97,110,116,101,100,32,116,111,32,116,104,101,32,117,115,101,114]})
 |12=>.iface 204 (.string {data:= #[97,117,116,104,58,32,112,101,114,109,105,115,115,105,111,110,32,105,115,32,110,111,116,32,103,114,97,110,116,101,100,32,116,111,32,116,104,101,32,114,111,108,101]})
 |13=>.iface 204 (.string {data:= #[97,117,116,104,58,32,97,117,116,104,101,110,116,105,99,97,116,105,111,110,32,105,115,32,110,111,116,32,101,110,97,98,108,101,100]})
 |14=>.iface 204 (.string {data:= #[97,117,116,104,58,32,114,101,118,105,115,105,111,110,32,105,110,32,104,101,97,100,101,114,32,105,115,32,111,108,100]})
 |15=>.iface 204 (.string {data:= #[97,117,116,104,58,32,105,110,118,97,108,105,100,32,97,117,116,104,32,109,97,110,97,103,101,109,101,110,116]})
 |_=>.nilIface
structure yA(s:zA):Prop where
 pv:∀r∈s.roles,∀p∈r.perms,p.kind<=2/\zU p.key p.stop=true
 ps:∀r∈s.roles,r.perms.Pairwise λa b=> ¬zt b.key a.key<0
 ur:∀u∈s.users,zM u.roles
 on2:s.on=true->2<=s.rev
 pos:1<=s.rev
structure Q8(l:zu)(w:World)(a:Nat)(I:zN)(s:zA)(A:yr)(ab m:Nat)(lg:Value):Prop where
 idle:V4 l w I (s.db A)
 kv:ym A s.on s.rev
 row:kR w a s.rev lg (.iface 149 (ptr ab)) s.on m
 abe:qd l w ab 136 I.be 151
 cache:jS l w m s.users s.roles
 lab:l a=12
 fine:q9 s
 sane:yA s
def Zk(l:zu)(w:World)(a:Nat)(I:zN)(s:zA):Prop:=∃A ab m lg,Q8 l w a I s A ab m lg
variable{A:yr}{ab:Nat}
theorem Q8.bnd{w:World}{I:zN}{s:zA}{m:Nat}(h:Q8 l w a I s A ab m lg):∀j,l j≠0->j<w.heap.size:=h.idle.bnd
theorem Q8.keep{w:World}{I:zN}{s:zA}{m:Nat}(h:Q8 l w a I s A ab m lg)(hc:qD l w l' w')(hk:∀j,l j=12\/l j=13\/l j=15->w'.heap[j]? =w.heap[j]?):Q8 l' w' a I s A ab m lg where
 idle:=kZ.client h.idle hc
 kv:=h.kv
 row:=h.row.keep (hk a (Or.inl h.lab))
 abe:=h.abe.client hc
 cache:=h.cache.keep hc.le λj e=>⟨hc.old j (h.bnd j (by omega)),hk j (Or.inr e)⟩
 lab:=by rw[hc.old a h.row.lt,h.lab]
 fine:=h.fine
 sane:=h.sane
theorem Q8.new{w:World}{I:zN}{s:zA}{m:Nat}(h:Q8 l w a I s A ab m lg)(hn:za w w'):Q8 l w' a I s A ab m lg:=
 h.keep (qD.ofNew h.bnd hn) λj e=>hn.block j (h.bnd j (by omega)) λe=>e
theorem Zk.keep{w:World}{I:zN}{s:zA}(h:Zk l w a I s)(hc:qD l w l' w')(hk:∀j,l j=12\/l j=13\/l j=15->w'.heap[j]? =w.heap[j]?):Zk l' w' a I s:=by obtain⟨A,ab,m,lg,h⟩:=h;exact⟨A,ab,m,lg,h.keep hc hk⟩
theorem Zk.new{w:World}{I:zN}{s:zA}(h:Zk l w a I s)(hn:za w w'):Zk l w' a I s:=by obtain⟨A,ab,m,lg,h⟩:=h;exact⟨A,ab,m,lg,h.new hn⟩
theorem Zk.bnd{w:World}{I:zN}{s:zA}(h:Zk l w a I s):∀j,l j≠0->j<w.heap.size:=by obtain⟨A,ab,m,lg,h⟩:=h;exact h.bnd
theorem zB.s{w:World}(h:zB l w l' w'):zr l w l' w':=⟨h.mod.mono λj _ e=>⟨e.1,by have:=e.2;omega⟩,h.old,h.bnd⟩
theorem zN.to{I J:zN}(h:I.same J){w:World}(ha:qd l w ab 136 I.be 151):qd l w ab 136 J.be 151:=by rw[h.1];exact ha
theorem Q8.moved{w:World}{I J:zN}{s:zA}{m:Nat}(h:Q8 l w a I s A ab m lg)(hs:zB l w l' w')(hJ:I.same J)(hi:V4 l' w' J (s.db A)):Q8 l' w' a J s A ab m lg where
 idle:=hi
 kv:=h.kv
 row:=h.row.keep (hs.mod.block a h.row.lt λe=>by have:=e.2;have:=h.lab;omega)
 abe:=zN.to hJ (h.abe.step hs)
 cache:=h.cache.step h.bnd hs.s
 lab:=by rw[hs.old a h.row.lt,h.lab]
 fine:=h.fine
 sane:=h.sane
theorem Uu{s:zA}(h:yA s)(ls:List Bytes):∀p∈permsOf s.roles ls,zU p.key p.stop=true:=by
 intro p hp;obtain⟨r,_,hr⟩:=List.mem_flatMap.1 hp;unfold yu at hr;cases hg:qT zm.name s.roles r with
 |none=>rw[hg]at hr;cases hr
 |some x=>
  rw[hg]at hr;unfold qT at hg;split at hg
  ·exact(h.pv x (List.mem_of_getElem? hg) p hr).2
  ·cases hg
theorem Qu{w:World}{c:Array Value}(h:w.heap[a]? =some (.cells c 146 (0,0))):∃A,(partAt ⟨a,0,none⟩ 4 33).run prog w=.ok A w:=
 Qj h (s:=5) (x:=0) (y:=40) (by kernel_rfl) (by decide) 4 33 (by kernel_rfl) (by kernel_rfl)
theorem WJ{w:World}{rev m:Nat}{on:Bool}(ha:kR w a rev lg bv on m):Calls prog 160 #[ptr a] w λe w'=>e=.returned (.bool on)/\w=w':=by
 obtain⟨A,hA⟩:=Qu ha;have r3:w.cell? ⟨a,3,none⟩=some (.bool on):=by rw[cell_of_row w a 3 _ _ (0,0) ha];rfl
 clear ha;go_enter_defers func160,ntmps160;go_wp2_with (go_at_call 96;go_must (refine(Qk _ _).mono ?_);rintro e w9 ⟨rfl,rfl⟩);refine leaves_cons (f:=98) (args:= #[.pointer (some A)]) (by simp) (by simp[go_sem]) ?_;refine(Qt _ _).mono ?_;rintro e u' w'' ⟨rfl,rfl,rfl⟩;exact⟨_,results_tmp rfl _ _ _,rfl,rfl⟩
theorem Vh{w:World}{rev m:Nat}{on:Bool}(ha:kR w a rev lg bv on m):Calls prog 54 #[ptr a] w λe w'=>e=.returned (.int .u64 rev)/\w=w':=by
 have r0:w.cell? ⟨a,0,none⟩=some (.int .u64 rev):=by rw[cell_of_row w a 0 _ _ (0,0) ha];rfl
 clear ha;go_enter func54,ntmps54;go_wp2;go_returns;exact⟨rfl,rfl⟩
theorem Qv(x:Nat)(W:World):(method 608 149 (ptr x) "ReadTx").run prog W=.ok (214,ptr x) W:=by kernel_rfl
theorem km(x:Nat)(W:World):(method 608 424 (ptr x) "RLock").run prog W=.ok (290,ptr x) W:=by kernel_rfl
theorem ji(x:Nat)(W:World):(method 608 424 (ptr x) "RUnlock").run prog W=.ok (291,ptr x) W:=by kernel_rfl
theorem kG(x:Nat)(W:World):(nilAhead 608 424 (ptr x) "RUnlock").run prog W=.ok (some false) W:=by kernel_rfl
theorem kH(x:Nat)(W:World):(invoke (.fn (.method "RUnlock") #[]) #[.iface 424 (ptr x)]).run prog W=.ok (.enter 291 #[ptr x]) W:=by kernel_rfl
theorem zB.own{w:World}(hb:∀j,l j≠0->j<w.heap.size)(hm:zq l.own w w'):zB l w l w':=⟨hm,λ_ _=>rfl,λb Hb=>by
 by_cases e:l b=0
 ·omega
 ·have:=hb b e;omega,λb e=>Nat.lt_of_lt_of_le (hb b e) hm.size⟩
noncomputable def Qw(s:zA)(n:Bytes)(rv kd:Nat)(key stop:Bytes):Nat:=
 if s.on=false then 0 else if rv=0 then 4 else if rv<s.rev then 14
 else match s.user n with
  |none=>10
  |some u=>if u.root then 0 else if yT (s.permsOf u) kd key stop then 0 else 10
theorem gP{w:World}{I:zN}{s:zA}{n key:Bytes}{rv kd:Nat}(h:Zk l w a I s)(hn:n.length<=1000)(sB:rv<=1000)(hk:Bs (im l.some w) key kv)(Hi:Bs (im l.some w) stop sv)(pE:key.length<=1000)(sZ:zU key stop=true)(Cr:kd=0\/kd=1):
  Calls prog 180 #[ptr a,zb n,.int .u64 rv,kv,sv,.int .i32 kd] w λe w'=>e=.returned (ze (Qw s n rv kd key stop))/\∃l',zr l w l' w'/\Zk l' w' a I s:=by
 obtain⟨A,ab,m,lg,h⟩:=h;have Cn:=WJ h.row;have wV:=Vh h.row;have r2:w.cell? ⟨a,2,none⟩=some (.iface 149 (ptr ab)):=by rw[cell_of_row w a 2 _ _ (0,0) h.row];rfl
 have hb:=vD h.idle h.abe;have H:=hid h;have Mo:=hid Cn;have ey:=hid wV;have HB:=hid hb;have St:zr l w l w:=zr.refl h.bnd;have sM:=hid St;have m1:=Qv;have m2:=km;have m3:=ji;have n3:=kG;clear h Cn wV hb St;obtain⟨ans,Rg⟩:∃x,Qw s n rv kd key stop=x:=⟨_,rfl⟩;rw[Rg];have Sn:=hid Rg;clear Rg;by_cases c1:s.on=false
 ·obtain rfl:ans=0:=by rw[<-Sn.out];unfold Qw;rw[if_pos c1]
  rw[c1]at Mo;go_enter_defers func180,ntmps180;go_wp2_with fail;refine Mo.out.mono ?_;rintro e w1 ⟨rfl,rfl⟩;go_wp2;exact⟨_,results_tmp rfl _ _ _,rfl,l,sM.out,_,_,_,_,H.out⟩
 ·have c1n:=c1;have c1:s.on=true:=by simpa using c1
  rw[c1]at Mo;by_cases c2:rv=0
  ·subst c2;obtain rfl:ans=4:=by rw[<-Sn.out];unfold Qw;rw[if_neg c1n,if_pos rfl]
   go_enter_defers func180,ntmps180;go_wp2_with fail;refine Mo.out.mono ?_;rintro e w1 ⟨rfl,rfl⟩;go_wp2;exact⟨_,results_tmp rfl _ _ _,rfl,l,sM.out,_,_,_,_,H.out⟩
  ·have c2i: ¬(rv:Int)=0:=by omega
   by_cases c3:rv<s.rev
   ·obtain rfl:ans=14:=by rw[<-Sn.out];unfold Qw;rw[if_neg c1n,if_neg c2,if_pos c3]
    have c3i:(rv:Int)<s.rev:=by omega
    go_enter_defers func180,ntmps180;go_wp2_with fail;refine Mo.out.mono ?_;rintro e w1 ⟨rfl,rfl⟩;go_wp2_with fail;refine ey.out.mono ?_;rintro e w1 ⟨rfl,rfl⟩;go_wp2;exact⟨_,results_tmp rfl _ _ _,rfl,l,sM.out,_,_,_,_,H.out⟩
   ·have Pi:ans=(match s.user n with|none=>10|some u=>if u.root then 0 else if yT (s.permsOf u) kd key stop then 0 else 10):=by rw[<-Sn.out];unfold Qw;rw[if_neg c1n,if_neg c2,if_neg c3]
    have rT:=hid Pi;clear Pi;have c3i: ¬(rv:Int)<s.rev:=by omega
    have LR:=hid hk;have Tu:=hid Hi;clear hk Hi;obtain⟨o,ho⟩:∃o,s.user n=o:=⟨_,rfl⟩;rw[ho]at rT;have HO:=hid (show qT zj.name s.users n=o from ho);clear ho;go_enter_defers func180,ntmps180;go_wp2_with fail;refine Mo.out.mono ?_;rintro e w1 ⟨rfl,rfl⟩;go_wp2_with fail;refine ey.out.mono ?_;rintro e w1 ⟨rfl,rfl⟩;go_wp2_with fail;refine HB.out.mono ?_;rintro e w1 ⟨x,rfl,hQ,hx,pH⟩;have h1:=H.out.new hQ;have NS:=hid (xm h1.idle pH);have Pm:=hid ((QT (x:=x) (I:=I) h1.fine h1.kv).user l w1 n ⟨h1.idle,pH⟩ hn);have H1:=hid h1;have Hs:=hid hQ;have HAX:=hid pH;clear h1 hQ pH;go_wp2_with fail;refine NS.out.mono ?_;rintro e w2 ⟨rfl,rfl⟩;unfold zb at Pm;go_wp2_with fail;refine Pm.out.mono ?_;rintro e w2 ⟨r,rfl,⟨Pn,po⟩,Hq,H9⟩;have pm:zB l w1 l w2:=zB.own H1.out.bnd Hq;have h2:=H1.out.moved pm (zN.same_refl I) Pn;have rj:zr l w l w2:=(zr.new H.out.bnd Hs.out).trans pm.s;have Ph:=hid rj;have H2:=hid h2
    have ND:=hid po;have hi:=kH x;rw[HO.out]at H9;have HG:=hid H9;have Rp:=H1.out.bnd;clear Pn Hq H9 pm h2 rj;cases o with
    |none=>have hg:=HG.out;cases hg;obtain rfl:ans=10:=rT.out;go_wp2;refine leaves_cons (f:=291) (args:= #[ptr x]) (by simp) (hi _) ?_;refine(yb H2.out.idle ND.out).mono ?_;rintro e u' w'' ⟨rfl,rfl,rfl⟩;exact⟨_,results_tmp rfl _ _ _,rfl,l,Ph.out,_,_,_,_,H2.out⟩
    |some u=>
     obtain⟨b,rfl,lP,Ru⟩:=HG.out.at Rp;have Hf:=qg H2.out.fine.us HO.out;have Rm:u.name=n:=((qN H2.out.fine.us).1 HO.out).2;have SW:=H2.out.fine.uok u Hf;have Pt:=H2.out.sane.ur u Hf;have HR:=hid (Ve (zd _ _) Ru Pt SW.roles);have HU:=hid Ru;have lY:=hid Hf;have Ti:=hid Rm;clear Ru Hf Rm Pt;by_cases c4:u.root=true
     ·rw[c4]at HR;obtain rfl:ans=0:=by rw[rT.out];show(if u.root=true then 0 else _)=0;rw[if_pos c4]
      go_wp2_with fail;refine HR.out.mono ?_;rintro e w3 ⟨rfl,pu⟩;go_wp2;refine leaves_cons (f:=291) (args:= #[ptr x]) (by simp) (hi _) ?_;refine(yb (H2.out.new pu).idle (ND.out.new pu)).mono ?_;rintro e u' w'' ⟨rfl,rfl,rfl⟩;refine⟨_,results_tmp rfl _ _ _,?_,l,Ph.out.trans (zr.new H2.out.bnd pu),_,_,_,_,H2.out.new pu⟩;rfl
     ·have c4':u.root=false:=by simpa using c4
      rw[c4']at HR;go_wp2_with fail;refine HR.out.mono ?_;rintro e w3 ⟨rfl,pu⟩;have h3:=H2.out.new pu;have hY:=(Ph.out.trans (zr.new H2.out.bnd pu)).le;have HP:=hid (Ut h3.row h3.cache h3.fine.us h3.bnd (Uu h3.sane u.roles) lY.out SW.name (LR.out.mono hY) (Tu.out.mono hY) pE sZ Cr);rw[Ti.out]at HP;have H3:=hid h3;have ez:=hid (ND.out.new pu);have Cs:=hid (Ph.out.trans (zr.new H2.out.bnd pu));clear h3 hY pu;obtain⟨pv,Lv⟩:=zex (yT (permsOf s.roles u.roles) kd key stop);rw[<-Lv]at HP;have eo:=hid Lv;clear Lv;cases pv
      ·obtain rfl:ans=10:=by
        rw[rT.out];show(if u.root=true then 0 else if yT (permsOf s.roles u.roles) kd key stop=true then 0 else 10)=10;rw[if_neg c4,<-eo.out];rfl
       go_wp2_with fail;refine HP.out.mono ?_;rintro e w4 ⟨rfl,So⟩;go_wp2;refine leaves_cons (f:=291) (args:= #[ptr x]) (by simp) (hi _) ?_;refine(yb (H3.out.new So).idle (ez.out.new So)).mono ?_;rintro e u' w'' ⟨rfl,rfl,rfl⟩;refine⟨_,results_tmp rfl _ _ _,?_,l,Cs.out.trans (zr.new H3.out.bnd So),_,_,_,_,H3.out.new So⟩;rfl
      ·obtain rfl:ans=0:=by
        rw[rT.out];show(if u.root=true then 0 else if yT (permsOf s.roles u.roles) kd key stop=true then 0 else 10)=0;rw[if_neg c4,<-eo.out];rfl
       go_wp2_with fail;refine HP.out.mono ?_;rintro e w4 ⟨rfl,So⟩;go_wp2;refine leaves_cons (f:=291) (args:= #[ptr x]) (by simp) (hi _) ?_;refine(yb (H3.out.new So).idle (ez.out.new So)).mono ?_;rintro e u' w'' ⟨rfl,rfl,rfl⟩;refine⟨_,results_tmp rfl _ _ _,?_,l,Cs.out.trans (zr.new H3.out.bnd So),_,_,_,_,H3.out.new So⟩;rfl
def vj(w:World)(b:Nat)(n:Bytes)(rv:Nat):Prop:=w.heap[b]? =some (.cells #[zb n,.int .u64 rv] 153 (0,0))
def Qx(l:zu)(w:World)(a:Nat)(I:zN)(s:zA)(n:Nat)(e:Ending)(w':World):Prop:=e=.returned (ze n)/\∃l',zr l w l' w'/\Zk l' w' a I s
theorem Qx.undrew{w:World}{I:zN}{s:zA}{e:Ending}(h:Qx l w.drew a I s n e w'):Qx l w a I s n e w':=by obtain⟨h1,l',h2,h3⟩:=h;exact⟨h1,l',⟨zq.trans (za.mod (za.refl w).drew _) h2.mod λ_ _ e=>e,h2.old,h2.bnd⟩,h3⟩
theorem YX{w:World}{I:zN}{s:zA}{n key:Bytes}{rv:Nat}(h:Zk l w a I s)(Rs:vj w ib n rv)(hn:n.length<=1000)(sB:rv<=1000)(hk:Bs (im l.some w) key kv)(pE:key.length<=1000)(sZ:zU key []=true):
  Calls prog 162 #[ptr a,ptr ib,kv] w (Qx l w a I s (Qw s n rv 1 key [])):=by
 have hd:za w w.drew:=(za.refl w).drew;have HI:=hid (gP (h.new hd) hn sB (hk.mono (hd.im _)) (Bs.nil _) pE sZ (show 1=0\/1=1 by decide));obtain⟨i0,i1,_⟩:=qS Rs;generalize Qw s n rv 1 key []=ans at HI⊢;obtain⟨kp,kn,kc,rfl,ph⟩:=hk.shape;clear h Rs hk;unfold zb at HI i0;generalize(⟨n.toArray⟩:ByteArray)=sx at HI i0;go_enter func162,ntmps162;go_wp2_with fail;go_region_with (refine HI.out.mono ?_;rintro e w5 ⟨rfl,pC⟩;have P8:=hid pC;clear pC)
 all_goals
  go_wp2;go_returns;exact Qx.undrew ⟨rfl,P8.out⟩
theorem Q9{w:World}{I:zN}{s:zA}{n key:Bytes}{rv:Nat}(h:Zk l w a I s)(Rs:vj w ib n rv)(hn:n.length<=1000)(sB:rv<=1000)(hk:Bs (im l.some w) key kv)(Hi:Bs (im l.some w) stop sv)(pE:key.length<=1000)(sZ:zU key stop=true):
  Calls prog 163 #[ptr a,ptr ib,kv,sv] w (Qx l w a I s (Qw s n rv 0 key stop)):=by
 have hd:za w w.drew:=(za.refl w).drew;have HI:=hid (gP (h.new hd) hn sB (hk.mono (hd.im _)) (Hi.mono (hd.im _)) pE sZ (show 0=0\/0=1 by decide));obtain⟨i0,i1,_⟩:=qS Rs;generalize Qw s n rv 0 key stop=ans at HI⊢;obtain⟨kp,kn,kc,rfl,ph⟩:=hk.shape;obtain⟨sp,sn,sc,rfl,RW⟩:=Hi.shape;clear h Rs hk Hi;unfold zb at HI i0;generalize(⟨n.toArray⟩:ByteArray)=sx at HI i0;go_enter func163,ntmps163;go_wp2_with fail;go_region_with (refine HI.out.mono ?_;rintro e w5 ⟨rfl,pC⟩;have P8:=hid pC;clear pC)
 all_goals
  go_wp2;go_returns;exact Qx.undrew ⟨rfl,P8.out⟩
theorem xI{w:World}{I:zN}{s:zA}{n key:Bytes}{rv:Nat}(h:Zk l w a I s)(Rs:vj w ib n rv)(hn:n.length<=1000)(sB:rv<=1000)(hk:Bs (im l.some w) key kv)(Hi:Bs (im l.some w) stop sv)(pE:key.length<=1000)(sZ:zU key stop=true):
  Calls prog 161 #[ptr a,ptr ib,kv,sv] w (Qx l w a I s (Qw s n rv 1 key stop)):=by
 have hd:za w w.drew:=(za.refl w).drew;have HI:=hid (gP (h.new hd) hn sB (hk.mono (hd.im _)) (Hi.mono (hd.im _)) pE sZ (show 1=0\/1=1 by decide));obtain⟨i0,i1,_⟩:=qS Rs;generalize Qw s n rv 1 key stop=ans at HI⊢;obtain⟨kp,kn,kc,rfl,ph⟩:=hk.shape;obtain⟨sp,sn,sc,rfl,RW⟩:=Hi.shape;clear h Rs hk Hi;unfold zb at HI i0;generalize(⟨n.toArray⟩:ByteArray)=sx at HI i0;go_enter func161,ntmps161;go_wp2_with fail;go_region_with (refine HI.out.mono ?_;rintro e w5 ⟨rfl,pC⟩;have P8:=hid pC;clear pC)
 all_goals
  go_wp2;go_returns;exact Qx.undrew ⟨rfl,P8.out⟩
theorem uF(x:Nat)(W:World):(nilAhead 608 424 (ptr x) "UnsafeGetUser").run prog W=.ok (some false) W:=by kernel_rfl
theorem YY(x:Nat)(W:World):(method 608 424 (ptr x) "UnsafeGetUser").run prog W=.ok (295,ptr x) W:=by kernel_rfl
def Qy(s:zA)(n:Bytes):Nat:=
 if s.on=false then 0 else if n=[]then 4
 else match s.user n with
  |none=>5
  |some u=>if u.root then 0 else 10
theorem Uv{w:World}{I:zN}{s:zA}{n:Bytes}{rv:Nat}(h:Zk l w a I s)(Rs:vj w ib n rv)(hn:n.length<=1000):
  Calls prog 159 #[ptr a,ptr ib] w (Qx l w a I s (Qy s n)):=by
 obtain⟨A,ab,m,lg,h⟩:=h;have Cn:=WJ h.row;have r2:w.cell? ⟨a,2,none⟩=some (.iface 149 (ptr ab)):=by rw[cell_of_row w a 2 _ _ (0,0) h.row];rfl
 obtain⟨i0,_⟩:=qS Rs;have hb:=vD h.idle h.abe;have H:=hid h;have Mo:=hid Cn;have HB:=hid hb;have HIB:=hid i0;have sM:=hid (zr.refl h.bnd);have m1:=Qv;have m2:=km;have m3:=ji;have n3:=kG;have n4:=uF;have m4:=YY;clear h Cn hb Rs;obtain⟨ans,Rg⟩:∃x,Qy s n=x:=⟨_,rfl⟩;rw[Rg];have Sn:=hid Rg;clear Rg;by_cases c1:s.on=false
 ·obtain rfl:ans=0:=by rw[<-Sn.out];unfold Qy;rw[if_pos c1]
  rw[c1]at Mo;go_enter_defers func159,ntmps159;go_wp2_with fail;refine Mo.out.mono ?_;rintro e w1 ⟨rfl,rfl⟩;go_wp2;exact⟨_,results_tmp rfl _ _ _,rfl,l,sM.out,_,_,_,_,H.out⟩
 ·have c1n:=c1;have c1:s.on=true:=by simpa using c1
  rw[c1]at Mo;by_cases c2:n=[]
  ·subst c2;obtain rfl:ans=4:=by rw[<-Sn.out];unfold Qy;rw[if_neg c1n,if_pos rfl]
   have i0':w.cell? ⟨ib,0,none⟩=some (.string {data:= #[]}):=i0;clear i0;go_enter_defers func159,ntmps159;go_wp2_with fail;refine Mo.out.mono ?_;rintro e w1 ⟨rfl,rfl⟩;go_wp2;exact⟨_,results_tmp rfl _ _ _,rfl,l,sM.out,_,_,_,_,H.out⟩
  ·have Pi:ans=(match s.user n with|none=>5|some u=>if u.root then 0 else 10):=by rw[<-Sn.out];unfold Qy;rw[if_neg c1n,if_neg c2]
   have rT:=hid Pi;clear Pi;obtain⟨o,ho⟩:∃o,s.user n=o:=⟨_,rfl⟩;rw[ho]at rT;have HO:=hid (show qT zj.name s.users n=o from ho);clear ho;have Ho:((⟨n.toArray⟩:ByteArray).toList==[])=false:=by rw[ByteArray.toList_eq];simpa using c2
   obtain⟨sx,Ht⟩:=zex ((⟨n.toArray⟩:ByteArray));unfold zb at i0;rw[<-Ht]at i0 Ho;have r_:=hid Ht;clear Ht;go_enter_defers func159,ntmps159;go_wp2_with fail;refine Mo.out.mono ?_;rintro e w1 ⟨rfl,rfl⟩;go_wp2_with fail;refine HB.out.mono ?_;rintro e w1 ⟨x,rfl,hQ,hx,pH⟩;have h1:=H.out.new hQ;have j0:=hQ.le _ _ i0;have NS:=hid (xm h1.idle pH);have hd:za w1 w1.drew:=(za.refl w1).drew;have Pm:=hid ((QT (x:=x) (I:=I) h1.fine h1.kv).user l w1.drew n ⟨(h1.new hd).idle,pH.new hd⟩ hn);have H1:=hid (h1.new hd);have Hs:=hid (hQ.drew);clear h1 hQ pH hd;unfold zb at Pm;rw[<-r_.out]at Pm;go_wp2_with fail;refine NS.out.mono ?_;rintro e w2 ⟨rfl,rfl⟩;go_wp2_with fail;refine wp_region_noPanic ?_;go_region_with (refine Pm.out.mono ?_;rintro e w2 ⟨r,rfl,⟨Pn,po⟩,Hq,H9⟩;have Hu:=hid (And.intro Pn (And.intro po (And.intro Hq H9)));clear Pn po Hq H9)
   all_goals refine NoPanic.normal ?_
   all_goals
    obtain⟨Pn,po,Hq,H9⟩:=Hu.out;rw[HO.out]at H9;have pm:=zB.own H1.out.bnd Hq;have h2:=H1.out.moved pm (zN.same_refl I) Pn;have rj:zr l w l w2:=(zr.new H.out.bnd Hs.out).trans pm.s;have Ph:=hid rj;have H2:=hid h2;have ND:=hid po;have hi:=kH x;have HG:=hid H9;have Rp:=H1.out.bnd;clear Pn Hq H9 pm h2 rj po;cases o with
    |none=>have hg:=HG.out;cases hg;obtain rfl:ans=5:=rT.out;go_wp2;refine leaves_cons (f:=291) (args:= #[ptr x]) (by simp) (hi _) ?_;refine(yb H2.out.idle ND.out).mono ?_;rintro e u' w'' ⟨rfl,rfl,rfl⟩;exact⟨_,results_tmp rfl _ _ _,rfl,l,Ph.out,_,_,_,_,H2.out⟩
    |some u=>
     obtain⟨b,rfl,lP,Ru⟩:=HG.out.at Rp;have Hf:=qg H2.out.fine.us HO.out;have SW:=H2.out.fine.uok u Hf;have Pt:=H2.out.sane.ur u Hf;have HR:=hid (Ve (zd _ _) Ru Pt SW.roles);clear Ru Hf Pt SW;by_cases c4:u.root=true
     ·rw[c4]at HR;obtain rfl:ans=0:=by rw[rT.out];show(if u.root=true then 0 else _)=0;rw[if_pos c4]
      go_wp2_with fail;refine HR.out.mono ?_;rintro e w3 ⟨rfl,pu⟩;go_wp2;refine leaves_cons (f:=291) (args:= #[ptr x]) (by simp) (hi _) ?_;refine(yb (H2.out.new pu).idle (ND.out.new pu)).mono ?_;rintro e u' w'' ⟨rfl,rfl,rfl⟩;exact⟨_,results_tmp rfl _ _ _,rfl,l,Ph.out.trans (zr.new H2.out.bnd pu),_,_,_,_,H2.out.new pu⟩
     ·obtain rfl:ans=10:=by rw[rT.out];show(if u.root=true then 0 else 10)=10;rw[if_neg c4]
      have c4':u.root=false:=by simpa using c4
      rw[c4']at HR;go_wp2_with fail;refine HR.out.mono ?_;rintro e w3 ⟨rfl,pu⟩;go_wp2;refine leaves_cons (f:=291) (args:= #[ptr x]) (by simp) (hi _) ?_;refine(yb (H2.out.new pu).idle (ND.out.new pu)).mono ?_;rintro e u' w'' ⟨rfl,rfl,rfl⟩;exact⟨_,results_tmp rfl _ _ _,rfl,l,Ph.out.trans (zr.new H2.out.bnd pu),_,_,_,_,H2.out.new pu⟩
theorem qK(x:Nat)(W:World):(method 608 149 (ptr x) "BatchTx").run prog W=.ok (207,ptr x) W:=by kernel_rfl
theorem qw(x:Nat)(W:World):(method 608 417 (ptr x) "Lock").run prog W=.ok (260,ptr x) W:=by kernel_rfl
theorem vk(x:Nat)(W:World):(method 608 417 (ptr x) "Unlock").run prog W=.ok (261,ptr x) W:=by kernel_rfl
theorem yd(x:Nat)(W:World):(nilAhead 608 417 (ptr x) "Unlock").run prog W=.ok (some false) W:=by kernel_rfl
theorem ye(x:Nat)(W:World):(invoke (.fn (.method "Unlock") #[]) #[.iface 417 (ptr x)]).run prog W=.ok (.enter 261 #[ptr x]) W:=by kernel_rfl
def Dl(s:zA)(n r:Bytes):Bool:=match s.user n with|none=>false|some u=>decide (r∈u.roles)
theorem qH(b:zF):zM (jJ b):=List.Pairwise.nil
theorem Uw{w:World}{I:zN}{s:zA}{n rn:Bytes}(h:Zk l w a I s)(hn:n.length<=1000):
  Calls prog 158 #[ptr a,zb n,zb rn] w λe w'=>e=.returned (.bool (Dl s n rn))/\∃l' I',I.same I'/\zr l w l' w'/\Zk l' w' a I' s:=by
 obtain⟨A,ab,m,lg,h⟩:=h;have r2:w.cell? ⟨a,2,none⟩=some (.iface 149 (ptr ab)):=by rw[cell_of_row w a 2 _ _ (0,0) h.row];rfl
 have HB:=hid (qO h.idle h.abe);have H:=hid h;have m1:=qK;have m2:=qw;have m3:=vk;clear h;obtain⟨ans,Rg⟩:∃x,Dl s n rn=x:=⟨_,rfl⟩;rw[Rg];unfold Dl at Rg;obtain⟨o,ho⟩:∃o,s.user n=o:=⟨_,rfl⟩;rw[ho]at Rg;have Sn:=hid Rg;have HO:=hid (show qT zj.name s.users n=o from ho);clear Rg ho;obtain⟨sr,NE⟩:=zex ((⟨rn.toArray⟩:ByteArray));unfold zb;rw[<-NE];have TS:=hid NE;clear NE;obtain⟨sx,Ht⟩:=zex ((⟨n.toArray⟩:ByteArray));rw[<-Ht];have r_:=hid Ht;clear Ht;go_enter func158,ntmps158;go_wp2_with fail;refine HB.out.mono ?_;rintro e w1 ⟨x,rfl,hQ,hx,pH⟩;have h1:=H.out.new hQ;have HL:=hid (jg h1.idle pH);have Pm:=hid ((vQ (x:=x) (I:=I) (pend:=0) (pdel:=0) (us:=jJ) h1.fine h1.kv).user l w1 n ⟨h1.idle,pH⟩ hn);have H1:=hid h1;have Hs:=hid hQ;unfold zb at Pm;rw[<-r_.out]at Pm;clear h1 hQ pH;go_wp2_with fail;refine HL.out.mono ?_;rintro e w2 ⟨rfl,rfl⟩;go_wp2_with fail;refine Pm.out.mono ?_
 rintro e w2 ⟨r,rfl,⟨Pn,po⟩,Hq,H9⟩;rw[HO.out]at H9;have pm:=zB.own H1.out.bnd Hq;have h2:=H1.out.moved pm (zN.same_refl I) Pn;have HU:=hid (vC Pn (by decide) qH po);have Ph:=hid ((zr.new H.out.bnd Hs.out).trans pm.s);have H2:=hid h2;have HG:=hid H9;have Rp:=H1.out.bnd;clear Pn Hq H9 pm h2 po;go_wp2_with fail;refine HU.out.mono ?_;rintro e w3 ⟨rfl,l3,I3,Pa,Pc,rY⟩;have Cs:=hid (Ph.out.trans Pa.s);have H3:=hid (H2.out.moved Pa Pc rY);cases o with
 |none=>have hg:=HG.out;cases hg;obtain rfl:false=ans:=Sn.out;clear Pa rY;go_wp2;go_returns;exact⟨rfl,l3,I3,Pc,Cs.out,_,_,_,_,H3.out⟩
 |some u=>
  obtain⟨b,rfl,lP,Ru⟩:=HG.out.at Rp;have Os:=Ru.mono Pa.le;obtain⟨_,_,⟨y,h5,h6⟩,_⟩:=Os;obtain⟨p,n8,c8,rfl⟩:=h6.shape;have c2:=zd _ _ _ _ h5;have P7:=hid h6;have RL:u.roles.length=n8:=by have:=h6.row.1;rw[List.length_map]at this;exact this
  have RM:=hid RL;have SW:=H3.out.fine.uok u (qg H3.out.fine.us HO.out);have r9:n8<=100:=by rw[<-RL];exact SW.roles
  clear Pa rY Ru h5 h6 RL SW;go_wp2;go_loopw [30] (λc wr=>∃k:Nat,k<=n8/\c=.int .i64 k/\w3=wr/\∀j (hj:j<u.roles.length),j<k->u.roles[j]≠rn) (λc _=>n8-(intOf c).toNat)
  case atStart=>exact⟨0,Nat.zero_le _,rfl,rfl,λj _ h=>absurd h (Nat.not_lt_zero _)⟩
  case round=>
   obtain⟨k,hk,rfl,rfl,mK⟩:=hrel;have ia:=hid mK;clear mK;by_cases Hb:k<n8
   ·obtain⟨pZ,NZ,tT,⟨gb,go,rfl,PQ⟩|h0⟩:=P7.out.row
    case inr=>exact absurd h0 (by omega)
    have P_:k<u.roles.length:=by rw[RM.out];exact Hb
    have ck:=zd _ _ _ _ (PQ k (by rw[List.length_map];exact P_));rw[List.getElem_map]at ck;obtain⟨y,hy⟩:∃y,u.roles[k]=y:=⟨_,rfl⟩;rw[hy]at ck;have P9:(sr.toList==(⟨y.toArray⟩:ByteArray).toList)=decide (rn=y):=by rw[TS.out,ByteArray.toList_eq,ByteArray.toList_eq,Bool.eq_iff_iff,beq_iff_eq,decide_eq_true_iff]
    unfold zb at ck;have Rk:(k:Int)<n8:=by omega
    have HY:=hid hy;generalize(⟨y.toArray⟩:ByteArray)=sy at ck P9;clear pZ PQ hy;by_cases e9:rn=y
    ·rw[decide_eq_true e9]at P9;have Rg:true=ans:=by
      rw[<-Sn.out];have:rn∈u.roles:=by rw[e9,<-HY.out];exact List.getElem_mem P_
      exact(decide_eq_true this).symm
     obtain rfl:=Rg;go_wp2;go_returns;exact⟨rfl,l3,I3,Pc,Cs.out,_,_,_,_,H3.out⟩
    ·rw[decide_eq_false e9]at P9;go_wp2;go_roundw
     case rel=>
      refine⟨k+1,by omega,by go_num,(by first|trivial|rfl),λj hj hjk=> ?_⟩;by_cases e:j<k
      ·exact ia.out j hj e
      ·have:j=k:=by omega
       subst this;rw[HY.out];exact λe=>e9 e.symm
     case measure=>simp[intOf];omega
   ·have ph:k=n8:=by omega
    subst ph;have Rg:false=ans:=by rw[<-Sn.out];refine(decide_eq_false λhm=> ?_).symm;obtain⟨j,hj,e⟩:=List.getElem_of_mem hm;exact ia.out j hj (by rw[<-RM.out];exact hj) e
    obtain rfl:=Rg;go_wp2;go_returns;exact⟨rfl,l3,I3,Pc,Cs.out,_,_,_,_,H3.out⟩
def zH.rv(s:zA)(o:zH):Nat:=if o.noUser then 0 else ((s.rev:Int)-o.old).toNat
def zH.who(o:zH):Bytes:=if o.noUser then []else o.user
variable{o:zH}
theorem Ux{s:zA}(hs:yA s)(ho:o.old=0\/o.old=1)(hk:o.kind=15\/o.kind=16\/o.kind=17):
  s.ask o=Qw s o.who (o.rv s) (if o.kind=16 then 0 else 1) o.key (if o.kind=15 then []else o.stop):=by
 have h18: ¬o.kind=18:=by omega
 unfold zA.ask Qw;by_cases c1:s.on=false
 ·rw[if_pos c1,if_pos c1]
 ·rw[if_neg c1,if_neg c1];have h2:=hs.on2 (by simpa using c1);cases hnu:o.noUser with
  |true=>
   rw[if_pos (Or.inl rfl)];have:o.rv s=0:=by unfold zH.rv;rw[hnu];rfl
   rw[if_pos this]
  |false=>
   have sB:o.rv s=((s.rev:Int)-o.old).toNat:=by unfold zH.rv;rw[hnu];rfl
   have Bg:o.who=o.user:=by unfold zH.who;rw[hnu];rfl
   rw[if_neg (by simp[h18]),if_neg h18,Bg];rcases ho with e|e
   ·have rM:o.rv s=s.rev:=by rw[sB,e];omega
    rw[rM,if_neg (show ¬0<o.old by omega),if_neg (show ¬s.rev=0 by omega),if_neg (Nat.lt_irrefl _)];cases s.user o.user<;>rfl
   ·have rM:o.rv s+1=s.rev:=by rw[sB,e];omega
    rw[if_pos (show 0<o.old by omega),if_neg (show ¬o.rv s=0 by omega),if_pos (show o.rv s<s.rev by omega)]
theorem WK{s:zA}(hk:o.kind=18):s.ask o=Qy s o.who:=by
 unfold zA.ask Qy;by_cases c1:s.on=false
 ·rw[if_pos c1,if_pos c1]
 ·rw[if_neg c1,if_neg c1];cases hnu:o.noUser with
  |true=>
   rw[if_pos (Or.inl rfl)];have:o.who=[]:=by unfold zH.who;rw[hnu];rfl
   rw[if_pos this]
  |false=>
   have Bg:o.who=o.user:=by unfold zH.who;rw[hnu];rfl
   rw[Bg];by_cases hu:o.user=[]
   ·rw[if_pos (Or.inr ⟨hk,hu⟩),if_pos hu]
   ·rw[if_neg (by simp[hu]),if_neg hu,if_pos hk];cases s.user o.user<;>rfl
theorem fu{w:World}{key:Bytes}(hr:Rd.le r w.cell?)(hk:Bs r key kv)(hs:Bs r stop sv):
  Calls prog 181 #[kv,sv] w λe w'=>e=.returned (.bool (zU key stop))/\w=w':=by
 have hO:=Gu hr hs;have hC:=yE (show Z2 w key kv from hk.mono hr) (show Z2 w stop sv from hs.mono hr);obtain⟨kp,kn,kc,rfl,ph⟩:=hk.shape;obtain⟨sp,sn,sc,rfl,RW⟩:=hs.shape;obtain⟨v,hv⟩:∃v,zU key stop=v:=⟨_,rfl⟩;rw[hv];have HO:=hid hO;have HC:=hid hC;clear hO hC hk hs;by_cases h0:key=[]
 ·have tP:kn=0:=by rw[<-ph,h0];rfl
  subst tP;obtain rfl:v=false:=by rw[<-hv];simp[zU,h0]
  clear hv;go_enter func181,ntmps181;go_wp2;go_returns;exact⟨rfl,rfl⟩
 ·have rh: ¬(kn:Int)=0:=λe=>h0 (List.eq_nil_of_length_eq_zero (by omega));by_cases h1:stop=[]
  ·have St:sn=0:=by rw[<-RW,h1];rfl
   subst St;obtain rfl:v=true:=by rw[<-hv];simp[zU,h0,h1]
   clear hv;go_enter func181,ntmps181;go_wp2;go_returns;exact⟨rfl,rfl⟩
  ·have pI: ¬(sn:Int)=0:=λe=>h1 (List.eq_nil_of_length_eq_zero (by omega));have Az:zy key stop=zt key stop:=Zj h0 h1;rw[Az]at HC;by_cases h2:zt key stop<0
   ·have Hl:zt key stop= -1:=by rcases Zy key stop with e|e|e<;>omega
    rw[Hl]at HC;obtain rfl:v=true:=by rw[<-hv];simp[zU,h0,h2]
    clear hv Az h2 Hl;go_enter func181,ntmps181;go_wp2_with fail;refine HC.out.mono ?_;rintro e w1 ⟨rfl,rfl⟩;go_wp2;go_returns;exact⟨rfl,rfl⟩
   ·obtain⟨c,hc⟩:∃c,zt key stop=c:=⟨_,rfl⟩;have T_: ¬c= -1:=by omega
    rw[hc]at HC;obtain rfl:v=decide (stop=[0]):=by rw[<-hv];simp[zU,h0,h1,h2]
    clear hv Az h2 hc;go_enter func181,ntmps181;go_wp2_with fail;refine HC.out.mono ?_;rintro e w1 ⟨rfl,rfl⟩;go_wp2_with fail;refine HO.out.mono ?_;rintro e w1 ⟨rfl,rfl⟩;go_wp2;go_returns;exact⟨rfl,rfl⟩
end Go.Proofs.YtbmdoinjkligiaaGreat
