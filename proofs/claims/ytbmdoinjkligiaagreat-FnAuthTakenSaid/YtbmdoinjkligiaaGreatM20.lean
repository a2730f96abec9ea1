/- Contracts and laws that the last text joins. -/
import Derived.Test.YtbmdoinjkligiaaGreatM18
set_option maxRecDepth 100000
set_option maxHeartbeats 40000000
set_option linter.all false
namespace Go.Proofs.YtbmdoinjkligiaaGreat
open Tryz
open Lib(hid)
open Go.RowKit
def Zo(s:zA)(n:Bytes):zA×Nat:=if s.on=true/\n=zL then (s,15)else match s.user n with|none=>(s,5)|some _=>({s with users:=yj zj.name s.users n,rev:=s.rev+1},0)
theorem root_eq(n:Bytes):((⟨n.toArray⟩:ByteArray).toList==[114,111,111,116])=decide (n=zL):=by rw[ByteArray.toList_eq,Bool.eq_iff_iff,decide_eq_true_iff,beq_iff_eq];rfl
variable{a ec:Nat}{l:zu}{s':zA}
theorem V_{w:World}{rb:Nat}{I:zN}{s:zA}{n:Bytes}(h:Zk l w a I s)(hr:Zo s n=(s',ec))(hn:n.length<=1000)(h0:im l.some w ⟨rb,0,none⟩=some (zb n))
  (hf:q9 s')(hs:yA s'):
  Calls prog 172 #[ptr a,ptr rb] w (VV l w a I s' ec):=by
 obtain⟨A,ab,m,lg,h⟩:=h;have r2:w.cell? ⟨a,2,none⟩=some (.iface 149 (ptr ab)):=by rw[cell_of_row w a 2 _ _ (0,0) h.row];rfl
 have r3:w.cell? ⟨a,3,none⟩=some (.bool s.on):=by rw[cell_of_row w a 3 _ _ (0,0) h.row];rfl
 have d0:=zd _ _ _ _ h0;have HB:=hid (qO h.idle h.abe);have H:=hid h;have H0:=hid h0;have HF:=hid hf;have HS:=hid hs;have sM:=hid (zr.refl h.bnd);have m1:=qK;have m2:=qw;have m3:=yd;have m4:=yU;have m5:=qY;have m6:=Zl;have m7:=x9;clear h h0 hf hs;have PF:=root_eq n;obtain⟨sx,Ht⟩:=zex ((⟨n.toArray⟩:ByteArray));unfold zb at d0;rw[<-Ht]at d0 PF;have r_:=hid Ht;clear Ht;by_cases c0:s.on=true/\n=zL
 ·obtain⟨rfl,rfl⟩:s=s'/\15=ec:=by unfold Zo at hr;rw[if_pos c0]at hr;cases hr;exact⟨rfl,rfl⟩
  rw[c0.1]at r3;rw[decide_eq_true c0.2]at PF;clear hr;go_enter_defers func172,ntmps172;go_wp2;exact⟨_,results_tmp2 rfl _ _ _,_,rfl,l,I,zN.same_refl I,sM.out,_,_,_,_,H.out⟩
 ·have hc:(s.on && (sx.toList==[114,111,111,116]))=false:=by
   rw[PF];cases e:s.on
   ·rfl
   ·exact decide_eq_false λe2=>c0 ⟨e,e2⟩
  obtain⟨o,ho⟩:∃o,s.user n=o:=⟨_,rfl⟩;unfold Zo at hr;rw[if_neg c0,ho]at hr;have RU:=hid (show qT zj.name s.users n=o from ho);have rX:=hid hr;clear ho hr PF;obtain⟨son,Tx⟩:∃b,s.on=b:=⟨_,rfl⟩;rw[Tx]at r3 hc;clear Tx c0;go_enter_defers func172,ntmps172;cases son
  all_goals
   first|(have Nj:(sx.toList==[114,111,111,116])=false:=by simpa using hc)|skip
   clear hc;go_wp2_with fail;refine HB.out.mono ?_;rintro e w1 ⟨x,rfl,hQ,hx,pH⟩;have h1:=H.out.new hQ;have HL:=hid (jg h1.idle pH);have hd:za w1 w1.drew:=(za.refl w1).drew;have j0:=hQ.le _ _ d0;have Pm:=hid ((vQ (x:=x) (I:=I) (pend:=0) (pdel:=0) (us:=jJ) h1.fine h1.kv).user l w1.drew n ⟨h1.idle.new hd,pH.new hd⟩ hn);have H1:=hid (h1.new hd);have Hs:=hid hQ.drew;unfold zb at Pm;rw[<-r_.out]at Pm;clear h1 hQ pH hd;go_wp2_with fail;refine HL.out.mono ?_;rintro e w2 ⟨rfl,rfl⟩;go_wp2_with fail;refine wp_region_noPanic ?_;go_region_with (refine Pm.out.mono ?_;rintro e w2 ⟨r,rfl,⟨Pn,po⟩,Hq,H9⟩;have Hu:=hid (And.intro Pn (And.intro po (And.intro Hq H9)));clear Pn po Hq H9)
   all_goals refine NoPanic.normal ?_
   all_goals
    obtain⟨Pn,po,Hq,H9⟩:=Hu.out;rw[RU.out]at H9;have pm:=zB.own H1.out.bnd Hq;have h2:=H1.out.moved pm (zN.same_refl I) Pn;have Ph:=hid ((zr.new H.out.bnd Hs.out).trans pm.s);have Hy:=hid (h2.mid po);have tf:=hid h2;have HG:=hid H9;have hi:=ye x;clear Pn Hq H9 pm h2 po;cases o with
    |none=>
     have hg:=HG.out;cases hg;obtain⟨rfl,rfl⟩:s=s'/\5=ec:=by have:=rX.out;cases this;exact⟨rfl,rfl⟩
     go_wp2;refine leaves_cons (f:=261) (args:= #[ptr x]) (by simp) (hi _) ?_;refine(qr Hy.out.tx (by decide) qH Hy.out.atx).mono ?_;rintro e u' w'' ⟨rfl,rfl,l3,I3,Pa,Pc,rY⟩;exact⟨_,results_tmp2 rfl _ _ _,_,rfl,l3,I3,Pc,Ph.out.trans Pa.s,_,_,_,_,tf.out.moved Pa Pc rY⟩
    |some u=>
     obtain⟨b,rfl,lP,Ru⟩:=HG.out.at H1.out.bnd;obtain⟨rfl,rfl⟩:{s with users:=yj zj.name s.users n,rev:=s.rev+1}=s'/\0=ec:=by have:=rX.out;cases this;exact⟨rfl,rfl⟩
     have e0:=zd _ _ _ _ (Ph.out.im_one H0.out);unfold zb at e0;rw[<-r_.out]at e0;have pA:=HF.out;have sA:q9 {s with users:=yj zj.name s.users n}:=⟨pA.us,pA.rs,pA.uok,pA.rok,pA.ul,pA.rl,H.out.fine.rev⟩;have Pe:za w2 w2.drew:=(za.refl w2).drew;have sC:=hid (Vm (Hy.out.new Pe) (by decide) (by decide) hn sA);unfold zb at sC;rw[<-r_.out]at sC;have sY:=hid (Ph.out.trans (zr.new Hy.out.bnd Pe));have Rl:=hid (show s.rev+1<200 from pA.rev);clear pA sA Pe Ru;go_wp2_with fail;refine wp_region_noPanic ?_;go_region_with (refine sC.out.mono ?_;rintro e w4 ⟨rfl,eF⟩;have Ox:=hid eF;clear eF)
     all_goals refine NoPanic.normal ?_
     all_goals
      obtain⟨l4,PV,pP⟩:=Ox.out;have Sx:=hid (sY.out.trans PV.s);have tL:=hid (yB pP (by decide) (by decide) Rl.out);clear PV pP;go_wp2_with fail;refine tL.out.mono ?_;rintro e w5 ⟨rfl,l5,A5,pC,pr⟩;have P8:=hid (Sx.out.trans pC);have tF:=hid (qW pr HS.out);clear pC pr;go_wp2_with fail;refine tF.out.mono ?_;rintro e w6 ⟨rfl,l6,m6,PC,PP,R_⟩;have sP:=hid (P8.out.trans PC);have Po:=hid (And.intro PP R_);clear PC PP R_;go_wp2;have P2:∀o,za w6 (w6.alloc o):=λo=>(za.refl w6).alloc o;refine leaves_cons (f:=261) (args:= #[ptr x]) (by simp) (hi _) ?_;refine(yG (Po.out.1.new (P2 _)) HS.out (Po.out.2.step Po.out.1.bnd (zr.new Po.out.1.bnd (P2 _))) (by decide) UC).mono ?_;rintro e u' w'' ⟨rfl,rfl,l7,I7,tM,ri,rB⟩;exact⟨_,results_tmp2 rfl _ _ _,_,rfl,l7,I7,tM,(sP.out.trans (zr.new Po.out.1.bnd (P2 _))).trans ri,rB⟩
end Go.Proofs.YtbmdoinjkligiaaGreat
