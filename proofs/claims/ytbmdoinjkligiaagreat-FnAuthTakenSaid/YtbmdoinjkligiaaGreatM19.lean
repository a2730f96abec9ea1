/- Contracts and laws that the last text joins. -/
import Derived.Test.YtbmdoinjkligiaaGreatM18
set_option maxRecDepth 100000
set_option maxHeartbeats 40000000
set_option linter.all false
namespace Go.Proofs.YtbmdoinjkligiaaGreat
open Tryz
open Lib(hid)
open Go.RowKit
def Zn(s:zA)(n:Bytes):zA×Nat:=if n=[]then (s,4)else match s.user n with|some _=>(s,3)|none=>(s.putUser ⟨n,[]⟩,0)
variable{a ec:Nat}{l:zu}{s':zA}
theorem UD{w:World}{rb ob:Nat}{I:zN}{s:zA}{n:Bytes}(h:Zk l w a I s)(hr:Zn s n=(s',ec))(hn:n.length<=1000)(h0:im l.some w ⟨rb,0,none⟩=some (zb n))(h2:im l.some w ⟨rb,2,none⟩=some (ptr ob))(ho:im l.some w ⟨ob,0,none⟩=some (.bool true))
  (hf:q9 s')(hs:yA s'):
  Calls prog 171 #[ptr a,ptr rb] w (VV l w a I s' ec):=by
 obtain⟨A,ab,m,lg,h⟩:=h;have r2:w.cell? ⟨a,2,none⟩=some (.iface 149 (ptr ab)):=by rw[cell_of_row w a 2 _ _ (0,0) h.row];rfl
 have d0:=zd _ _ _ _ h0;have d2:=zd _ _ _ _ h2;have HB:=hid (qO h.idle h.abe);have H:=hid h;have H0:=hid h0;have H2:=hid h2;have HO:=hid ho;have HF:=hid hf;have HS:=hid hs;have sM:=hid (zr.refl h.bnd);have m1:=qK;have m2:=qw;have m3:=yd;have m4:=yU;have m5:=qY;have m6:=yN;clear h h0 h2 ho hf hs;by_cases c0:n=[]
 ·subst c0;have d0':w.cell? ⟨rb,0,none⟩=some (.string {data:= #[]}):=d0;clear d0;obtain⟨rfl,rfl⟩:s=s'/\4=ec:=by unfold Zn at hr;rw[if_pos rfl]at hr;cases hr;exact⟨rfl,rfl⟩
  clear hr;go_enter_defers func171,ntmps171;go_wp2;exact⟨_,results_tmp2 rfl _ _ _,_,rfl,l,I,zN.same_refl I,sM.out,_,_,_,_,H.out⟩
 ·have Ho: ¬((n.length:Int)=0):=λe=>c0 (List.eq_nil_of_length_eq_zero (by omega));have pL:((⟨n.toArray⟩:ByteArray).size:Int)=n.length:=by simp[ByteArray.size]
  rw[<-pL]at Ho;obtain⟨o,ho⟩:∃o,s.user n=o:=⟨_,rfl⟩;unfold Zn at hr;rw[if_neg c0,ho]at hr;have RU:=hid (show qT zj.name s.users n=o from ho);have rX:=hid hr;clear ho hr;obtain⟨sx,Ht⟩:=zex ((⟨n.toArray⟩:ByteArray));unfold zb at d0;rw[<-Ht]at d0 Ho;have r_:=hid Ht;clear Ht pL;go_enter_defers func171,ntmps171;go_wp2_with fail;refine HB.out.mono ?_;rintro e w1 ⟨x,rfl,hQ,hx,pH⟩;have h1:=H.out.new hQ;have HL:=hid (jg h1.idle pH);have hd:za w1 w1.drew:=(za.refl w1).drew;have j0:=hQ.le _ _ d0;have Pm:=hid ((vQ (x:=x) (I:=I) (pend:=0) (pdel:=0) (us:=jJ) h1.fine h1.kv).user l w1.drew n ⟨h1.idle.new hd,pH.new hd⟩ hn);have H1:=hid (h1.new hd);have Hs:=hid hQ.drew;have Rp:=hid (((h1.new hd)).mid (pH.new hd));unfold zb at Pm;rw[<-r_.out]at Pm;clear h1 hQ pH hd;go_wp2_with fail;refine HL.out.mono ?_;rintro e w2 ⟨rfl,rfl⟩;go_wp2_with fail;refine wp_region_noPanic ?_
  go_region_with (refine Pm.out.mono ?_;rintro e w2 ⟨r,rfl,⟨Pn,po⟩,Hq,H9⟩;have Hu:=hid (And.intro Pn (And.intro po (And.intro Hq H9)));clear Pn po Hq H9)
  all_goals refine NoPanic.normal ?_
  all_goals
   obtain⟨Pn,po,Hq,H9⟩:=Hu.out;rw[RU.out]at H9;have pm:=zB.own H1.out.bnd Hq;have h2:=H1.out.moved pm (zN.same_refl I) Pn;have Ph:=hid ((zr.new H.out.bnd Hs.out).trans pm.s);have Hy:=hid (h2.mid po);have tf:=hid h2;have HG:=hid H9;have hi:=ye x;clear Pn Hq H9 pm h2 po;cases o with
   |some u=>
    obtain⟨b,rfl,lP,Ru⟩:=HG.out.at H1.out.bnd;obtain⟨rfl,rfl⟩:s=s'/\3=ec:=by have:=rX.out;cases this;exact⟨rfl,rfl⟩
    go_wp2;refine leaves_cons (f:=261) (args:= #[ptr x]) (by simp) (hi _) ?_;refine(qr Hy.out.tx (by decide) qH Hy.out.atx).mono ?_;rintro e u' w'' ⟨rfl,rfl,l3,I3,Pa,Pc,rY⟩;exact⟨_,results_tmp2 rfl _ _ _,_,rfl,l3,I3,Pc,Ph.out.trans Pa.s,_,_,_,_,tf.out.moved Pa Pc rY⟩
   |none=>
    have hg:=HG.out;cases hg;obtain⟨rfl,rfl⟩:s.putUser ⟨n,[]⟩=s'/\0=ec:=by have:=rX.out;cases this;exact⟨rfl,rfl⟩
    have e0:=zd _ _ _ _ (Ph.out.im_one H0.out);have e2:=zd _ _ _ _ (Ph.out.im_one H2.out);obtain⟨kv,wc,pQ,P5,sV,⟨kn,kc,rfl⟩,Hb⟩:=jO (P:=prog) w2 9 75 5 (l:=n) (u:=.string) (by kernel_rfl) (by kernel_rfl) (by kernel_rfl) (by omega);unfold zb at e0;rw[<-r_.out]at e0 pQ;have e0c:=P5.le _ _ e0;have e2c:=P5.le _ _ e2;obtain⟨W,hW⟩:=zex (wc.alloc (.cells #[.slice (some ⟨w2.heap.size,0,none⟩) kn kc,.slice none 0 0,.slice none 0 0,ptr ob] 222));have Pz:za w2 W:=by rw[hW];exact P5.trans ((za.refl wc).alloc _)
    have eC:za wc W:=by rw[hW];exact(za.refl wc).alloc _
    have R9:W.heap[wc.heap.size]? =some (.cells #[.slice (some ⟨w2.heap.size,0,none⟩) kn kc,.slice none 0 0,.slice none 0 0,ptr ob] 222 (0,0)):=by rw[hW];exact zg wc _
    have pO:y9 (im l.some W) wc.heap.size ⟨n,[]⟩:=WL (zbm Hy.out.bnd P5.size) R9 ((Bs.im_of (S:=l.some) sV λj e e2=>by cases e;exact absurd (Hy.out.bnd _ e2) (Nat.lt_irrefl _)).mono (eC.im _)) ((Ph.out.le.le_trans (Pz.im _)) _ _ HO.out);have eD:=Hy.out.new Pz;have pA:=HF.out;have sA:q9 {s with users:=yO zj.name s.users ⟨n,[]⟩}:=⟨pA.us,pA.rs,pA.uok,pA.rok,pA.ul,pA.rl,H.out.fine.rev⟩;have PH:jv ⟨n,[]⟩:=pA.uok _ ((qx H.out.fine.us).2 (Or.inl rfl));have sC:=hid (vS eD (by decide) (by decide) pO PH sA);have sY:=hid (Ph.out.trans (zr.new Hy.out.bnd Pz));have Rl:=hid (show s.rev+1<200 from pA.rev);have HW:=hid hW;clear P5 sV Hb Pz eC R9 pO eD pA sA PH hW;go_wp2_with fail;rw[<-HW.out];refine sC.out.mono ?_;rintro e w4 ⟨rfl,l4,PV,pP⟩;have Sx:=hid (sY.out.trans PV.s);have tL:=hid (yB pP (by decide) (by simp[ku,jJ]) Rl.out);clear PV pP;go_wp2_with fail;refine tL.out.mono ?_
    rintro e w5 ⟨rfl,l5,A5,pC,pr⟩;have P8:=hid (Sx.out.trans pC);have tF:=hid (qW pr HS.out);clear pC pr;go_wp2_with fail;refine tF.out.mono ?_;rintro e w6 ⟨rfl,l6,m6,PC,PP,R_⟩;have sP:=hid (P8.out.trans PC);have Po:=hid (And.intro PP R_);clear PC PP R_;go_wp2;have P2:∀o,za w6 (w6.alloc o):=λo=>(za.refl w6).alloc o;refine leaves_cons (f:=261) (args:= #[ptr x]) (by simp) (hi _) ?_;refine(yG (Po.out.1.new (P2 _)) HS.out (Po.out.2.step Po.out.1.bnd (zr.new Po.out.1.bnd (P2 _))) (by decide) (jT (by decide) n)).mono ?_;rintro e u' w'' ⟨rfl,rfl,l7,I7,tM,ri,rB⟩;exact⟨_,results_tmp2 rfl _ _ _,_,rfl,l7,I7,tM,(sP.out.trans (zr.new Po.out.1.bnd (P2 _))).trans ri,rB⟩
variable{W:World}{nv:Value}{ub:Nat}
theorem WM{n:Bytes}(hb:l ub=0)(hZ:W.heap[ub]? =some (.cells #[nv,.slice none 0 0] 226 (0,0)))(hn:Bs (im l.some W) n nv):jw (im l.some W) ub ⟨n,[]⟩where
 name:=⟨nv,zi.2 ⟨λe=>e hb,by rw[cell_of_row W ub 0 _ _ (0,0) hZ];rfl⟩,hn⟩
 perms:=⟨_,[],zi.2 ⟨λe=>e hb,by rw[cell_of_row W ub 1 _ _ (0,0) hZ];rfl⟩,Sl.nil _ _,.nil⟩
variable{rs:List zm}
theorem jS.roles{w:World}{m:Nat}{us:List zj}{rs':List zm}(h:jS l w m us rs)(he:∀r,yu rs r=yu rs' r):jS l w m us rs':=by
 have hp:∀ls,permsOf rs ls=permsOf rs' ls:=λls=>by unfold permsOf;rw[show yu rs=yu rs' from funext he]
 obtain⟨h0,es,h1,h2,h3,h4⟩:=h;refine⟨h0,es,h1,h2,λn v e=> ?_,h4⟩;obtain⟨u,a,b,c⟩:=h3 n v e;exact⟨u,a,b,by rw[<-hp];exact c⟩
theorem V8(hs:zE zm.name rs){n:Bytes}(h:qT zm.name rs n=none)(r:Bytes):yu rs r=yu (yO zm.name rs ⟨n,[]⟩) r:=by
 unfold yu;rw[XJ hs];by_cases e:r=n
 ·rw[if_pos e,e,h]
 ·rw[if_neg e]
def vT(s:zA)(n:Bytes):zA×Nat:=if n=[]then (s,8)else match s.role n with|some _=>(s,6)|none=>(s.putRole ⟨n,[]⟩,0)
theorem UE{w:World}{rb:Nat}{I:zN}{s:zA}{n:Bytes}(h:Zk l w a I s)(hr:vT s n=(s',ec))(hn:n.length<=1000)(h0:im l.some w ⟨rb,0,none⟩=some (zb n))
  (hf:q9 s')(hs:yA s'):
  Calls prog 165 #[ptr a,ptr rb] w (VV l w a I s' ec):=by
 obtain⟨A,ab,m,lg,h⟩:=h;have r2:w.cell? ⟨a,2,none⟩=some (.iface 149 (ptr ab)):=by rw[cell_of_row w a 2 _ _ (0,0) h.row];rfl
 have r3:w.cell? ⟨a,3,none⟩=some (.bool s.on):=by rw[cell_of_row w a 3 _ _ (0,0) h.row];rfl
 have d0:=zd _ _ _ _ h0;have HB:=hid (qO h.idle h.abe);have H:=hid h;have H0:=hid h0;have HF:=hid hf;have HS:=hid hs;have sM:=hid (zr.refl h.bnd);have m1:=qK;have m2:=qw;have m3:=yd;have m4:=yo;have m5:=qZ;have m6:=jK;clear h h0 hf hs;by_cases c0:n=[]
 ·subst c0;have d0':w.cell? ⟨rb,0,none⟩=some (.string {data:= #[]}):=d0;clear d0;obtain⟨rfl,rfl⟩:s=s'/\8=ec:=by unfold vT at hr;rw[if_pos rfl]at hr;cases hr;exact⟨rfl,rfl⟩
  clear hr;go_enter_defers func165,ntmps165;go_wp2;exact⟨_,results_tmp2 rfl _ _ _,_,rfl,l,I,zN.same_refl I,sM.out,_,_,_,_,H.out⟩
 ·have Ho: ¬((n.length:Int)=0):=λe=>c0 (List.eq_nil_of_length_eq_zero (by omega));have pL:((⟨n.toArray⟩:ByteArray).size:Int)=n.length:=by simp[ByteArray.size]
  rw[<-pL]at Ho;obtain⟨o,ho⟩:∃o,s.role n=o:=⟨_,rfl⟩;unfold vT at hr;rw[if_neg c0,ho]at hr;have RU:=hid (show qT zm.name s.roles n=o from ho);have rX:=hid hr;clear ho hr pL;obtain⟨sx,Ht⟩:=zex ((⟨n.toArray⟩:ByteArray));unfold zb at d0;rw[<-Ht]at d0 Ho;have r_:=hid Ht;clear Ht;go_enter_defers func165,ntmps165;go_wp2_with fail;refine HB.out.mono ?_;rintro e w1 ⟨x,rfl,hQ,hx,pH⟩;have h1:=H.out.new hQ;have HL:=hid (jg h1.idle pH);have hd:za w1 w1.drew:=(za.refl w1).drew;have j0:=hQ.le _ _ d0;have Pm:=hid ((vQ (x:=x) (I:=I) (pend:=0) (pdel:=0) (us:=jJ) h1.fine h1.kv).role l w1.drew n ⟨h1.idle.new hd,pH.new hd⟩ hn);have H1:=hid (h1.new hd);have Hs:=hid hQ.drew;unfold zb at Pm;rw[<-r_.out]at Pm;clear h1 hQ pH hd;go_wp2_with fail;refine HL.out.mono ?_;rintro e w2 ⟨rfl,rfl⟩;go_wp2_with fail;refine wp_region_noPanic ?_
  go_region_with (refine Pm.out.mono ?_;rintro e w2 ⟨r,rfl,⟨Pn,po⟩,Hq,H9⟩;have Hu:=hid (And.intro Pn (And.intro po (And.intro Hq H9)));clear Pn po Hq H9)
  all_goals refine NoPanic.normal ?_
  all_goals
   obtain⟨Pn,po,Hq,H9⟩:=Hu.out;rw[RU.out]at H9;have pm:=zB.own H1.out.bnd Hq;have h2:=H1.out.moved pm (zN.same_refl I) Pn;have Ph:=hid ((zr.new H.out.bnd Hs.out).trans pm.s);have Hy:=hid (h2.mid po);have tf:=hid h2;have HG:=hid H9;have hi:=ye x;clear Pn Hq H9 pm h2 po;cases o with
   |some u=>
    obtain⟨b,rfl,lP,Ru⟩:=HG.out.at H1.out.bnd;obtain⟨rfl,rfl⟩:s=s'/\6=ec:=by have:=rX.out;cases this;exact⟨rfl,rfl⟩
    go_wp2;refine leaves_cons (f:=261) (args:= #[ptr x]) (by simp) (hi _) ?_;refine(qr Hy.out.tx (by decide) qH Hy.out.atx).mono ?_;rintro e u' w'' ⟨rfl,rfl,l3,I3,Pa,Pc,rY⟩;exact⟨_,results_tmp2 rfl _ _ _,_,rfl,l3,I3,Pc,Ph.out.trans Pa.s,_,_,_,_,tf.out.moved Pa Pc rY⟩
   |none=>
    have hg:=HG.out;cases hg;obtain⟨rfl,rfl⟩:s.putRole ⟨n,[]⟩=s'/\0=ec:=by have:=rX.out;cases this;exact⟨rfl,rfl⟩
    have e0:=zd _ _ _ _ (Ph.out.im_one H0.out);obtain⟨kv,wc,pQ,P5,sV,⟨kn,kc,rfl⟩,Hb⟩:=jO (P:=prog) w2 9 75 5 (l:=n) (u:=.string) (by kernel_rfl) (by kernel_rfl) (by kernel_rfl) (by omega);unfold zb at e0;rw[<-r_.out]at e0 pQ;have e0c:=P5.le _ _ e0;obtain⟨W,hW⟩:=zex (wc.alloc (.cells #[.slice (some ⟨w2.heap.size,0,none⟩) kn kc,.slice none 0 0] 226));have Pz:za w2 W:=by rw[hW];exact P5.trans ((za.refl wc).alloc _)
    have eC:za wc W:=by rw[hW];exact(za.refl wc).alloc _
    have R9:W.heap[wc.heap.size]? =some (.cells #[.slice (some ⟨w2.heap.size,0,none⟩) kn kc,.slice none 0 0] 226 (0,0)):=by rw[hW];exact zg wc _
    have pO:jw (im l.some W) wc.heap.size ⟨n,[]⟩:=WM (zbm Hy.out.bnd P5.size) R9 ((Bs.im_of (S:=l.some) sV λj e e2=>by cases e;exact absurd (Hy.out.bnd _ e2) (Nat.lt_irrefl _)).mono (eC.im _));have eD:=Hy.out.new Pz;have pA:=HF.out;have sA:q9 {s with roles:=yO zm.name s.roles ⟨n,[]⟩}:=⟨pA.us,pA.rs,pA.uok,pA.rok,pA.ul,pA.rl,H.out.fine.rev⟩;have PH:kB ⟨n,[]⟩:=pA.rok _ ((qx H.out.fine.rs).2 (Or.inl rfl));have sC:=hid (xV eD (by decide) (by decide) pO PH sA);have sY:=hid (Ph.out.trans (zr.new Hy.out.bnd Pz));have Rl:=hid (show s.rev+1<200 from pA.rev);have HW:=hid hW;clear P5 sV Hb Pz eC R9 pO eD pA sA PH hW;go_wp2_with fail;rw[<-HW.out];refine sC.out.mono ?_;rintro e w4 ⟨rfl,l4,PV,pP⟩;have Sx:=hid (sY.out.trans PV.s);have tL:=hid (yB pP (by decide) (by simp[ku,jJ]) Rl.out);clear PV pP;go_wp2_with fail;refine tL.out.mono ?_;rintro e w5 ⟨rfl,l5,A5,pC,pr⟩;have P8:=hid (Sx.out.trans pC)
    have t8:=hid pr;have tF:=hid ((H.out.cache.step H.out.bnd P8.out).roles (V8 H.out.fine.rs RU.out));clear pC pr;go_wp2;have P2:∀o,za w5 (w5.alloc o):=λo=>(za.refl w5).alloc o;refine leaves_cons (f:=261) (args:= #[ptr x]) (by simp) (hi _) ?_;refine(yG (t8.out.new (P2 _)) HS.out (tF.out.step t8.out.bnd (zr.new t8.out.bnd (P2 _))) (by decide) (jT (by decide) n)).mono ?_;rintro e u' w'' ⟨rfl,rfl,l7,I7,tM,ri,rB⟩;exact⟨_,results_tmp2 rfl _ _ _,_,rfl,l7,I7,tM,(P8.out.trans (zr.new t8.out.bnd (P2 _))).trans ri,rB⟩
end Go.Proofs.YtbmdoinjkligiaaGreat
