/- Contracts and laws that the last text joins. -/
import Derived.Test.YtbmdoinjkligiaaGreatM16
set_option maxRecDepth 100000
set_option maxHeartbeats 40000000
set_option linter.all false
namespace Go.Proofs.YtbmdoinjkligiaaGreat
open Tryz
open Lib(hid)
open Go.RowKit
def Zr(s:zA)(n:Bytes):zA×Nat:=if s.on=true/\n=zL then (s,15)else match s.user n with|none=>(s,5)|some _=>({s with users:=ym zj.name s.users n,rev:=s.rev+1},0)
theorem root_eq(n:Bytes):((⟨n.toArray⟩:ByteArray).toList==[114,111,111,116])=decide (n=zL):=by rw[ByteArray.toList_eq,Bool.eq_iff_iff,decide_eq_true_iff,beq_iff_eq];rfl
variable{a ec:Nat}{l:zu}{s':zA}
theorem Xd{w:World}{rb:Nat}{I:zN}{s:zA}{n:Bytes}(h:Zn l w a I s)(hr:Zr s n=(s',ec))(hn:n.length<=1000)(h0:im l.some w ⟨rb,0,none⟩=some (zb n))
  (hf:ya s')(hs:yD s'):
  Calls prog 172 #[ptr a,ptr rb] w (VZ l w a I s' ec):=by
 obtain⟨A,ab,m,lg,h⟩:=h;have r2:w.cell? ⟨a,2,none⟩=some (.iface 149 (ptr ab)):=by rw[cell_of_row w a 2 _ _ (0,0) h.row];rfl
 have r3:w.cell? ⟨a,3,none⟩=some (.bool s.on):=by rw[cell_of_row w a 3 _ _ (0,0) h.row];rfl
 have d0:=zd _ _ _ _ h0;have HB:=hid (qP h.idle h.abe);have H:=hid h;have H0:=hid h0;have HF:=hid hf;have HS:=hid hs;have HS0:=hid (zr.refl h.bnd);have m1:=qL;have m2:=qA;have m3:=yg;have m4:=yY;have m5:=q7;have m6:=Zo;have m7:=Zb;clear h h0 hf hs;have hrt:=root_eq n;obtain⟨sx,hsx⟩:=zex ((⟨n.toArray⟩:ByteArray));unfold zb at d0;rw[<-hsx]at d0 hrt;have HSX:=hid hsx;clear hsx;by_cases c0:s.on=true/\n=zL
 ·obtain⟨rfl,rfl⟩:s=s'/\15=ec:=by unfold Zr at hr;rw[if_pos c0]at hr;cases hr;exact⟨rfl,rfl⟩
  rw[c0.1]at r3;rw[decide_eq_true c0.2]at hrt;clear hr;go_enter_defers func172,ntmps172;go_wp2;exact⟨_,results_tmp2 rfl _ _ _,_,rfl,l,I,zN.same_refl I,HS0.out,_,_,_,_,H.out⟩
 ·have hc:(s.on && (sx.toList==[114,111,111,116]))=false:=by
   rw[hrt];cases e:s.on
   ·rfl
   ·exact decide_eq_false λe2=>c0 ⟨e,e2⟩
  obtain⟨o,ho⟩:∃o,s.user n=o:=⟨_,rfl⟩;unfold Zr at hr;rw[if_neg c0,ho]at hr;have HOU:=hid (show qU zj.name s.users n=o from ho);have HRR:=hid hr;clear ho hr hrt;obtain⟨son,hson⟩:∃b,s.on=b:=⟨_,rfl⟩;rw[hson]at r3 hc;clear hson c0;go_enter_defers func172,ntmps172;cases son
  all_goals
   first|(have hc2:(sx.toList==[114,111,111,116])=false:=by simpa using hc)|skip
   clear hc;go_wp2_with fail;refine HB.out.mono ?_;rintro e w1 ⟨x,rfl,hn1,hx,hax⟩;have h1:=H.out.new hn1;have HL:=hid (jk h1.idle hax);have hd:za w1 w1.drew:=(za.refl w1).drew;have j0:=hn1.le _ _ d0;have HUS:=hid ((vS (x:=x) (I:=I) (pend:=0) (pdel:=0) (us:=jL) h1.fine h1.kv).user l w1.drew n ⟨h1.idle.new hd,hax.new hd⟩ hn);have H1:=hid (h1.new hd);have HN1:=hid hn1.drew;unfold zb at HUS;rw[<-HSX.out]at HUS;clear h1 hn1 hax hd;go_wp2_with fail;refine HL.out.mono ?_;rintro e w2 ⟨rfl,rfl⟩;go_wp2_with fail;refine wp_region_noPanic ?_;go_region_with (refine HUS.out.mono ?_;rintro e w2 ⟨r,rfl,⟨hi2,hax2⟩,hm2,hg2⟩;have HALL:=hid (And.intro hi2 (And.intro hax2 (And.intro hm2 hg2)));clear hi2 hax2 hm2 hg2)
   all_goals refine NoPanic.normal ?_
   all_goals
    obtain⟨hi2,hax2,hm2,hg2⟩:=HALL.out;rw[HOU.out]at hg2;have hst2:=zB.own H1.out.bnd hm2;have h2:=H1.out.moved hst2 (zN.same_refl I) hi2;have HS2:=hid ((zr.new H.out.bnd HN1.out).trans hst2.s);have HMID:=hid (h2.mid hax2);have H2':=hid h2;have HG:=hid hg2;have hi:=yh x;clear hi2 hm2 hg2 hst2 h2 hax2;cases o with
    |none=>
     have hg:=HG.out;cases hg;obtain⟨rfl,rfl⟩:s=s'/\5=ec:=by have:=HRR.out;cases this;exact⟨rfl,rfl⟩
     go_wp2;refine leaves_cons (f:=261) (args:= #[ptr x]) (by simp) (hi _) ?_;refine(qv HMID.out.tx (by decide) qI HMID.out.atx).mono ?_;rintro e u' w'' ⟨rfl,rfl,l3,I3,hs3,hI3,hi3⟩;exact⟨_,results_tmp2 rfl _ _ _,_,rfl,l3,I3,hI3,HS2.out.trans hs3.s,_,_,_,_,H2'.out.moved hs3 hI3 hi3⟩
    |some u=>
     obtain⟨b,rfl,hbw,hua⟩:=HG.out.at H1.out.bnd;obtain⟨rfl,rfl⟩:{s with users:=ym zj.name s.users n,rev:=s.rev+1}=s'/\0=ec:=by have:=HRR.out;cases this;exact⟨rfl,rfl⟩
     have e0:=zd _ _ _ _ (HS2.out.im_one H0.out);unfold zb at e0;rw[<-HSX.out]at e0;have hff:=HF.out;have hfu:ya {s with users:=ym zj.name s.users n}:=⟨hff.us,hff.rs,hff.uok,hff.rok,hff.ul,hff.rl,H.out.fine.rev⟩;have hd2:za w2 w2.drew:=(za.refl w2).drew;have HPU:=hid (Vr (HMID.out.new hd2) (by decide) (by decide) hn hfu);unfold zb at HPU;rw[<-HSX.out]at HPU;have HSW:=hid (HS2.out.trans (zr.new HMID.out.bnd hd2));have HFR:=hid (show s.rev+1<200 from hff.rev);clear hff hfu hd2 hua;go_wp2_with fail;refine wp_region_noPanic ?_;go_region_with (refine HPU.out.mono ?_;rintro e w4 ⟨rfl,hq4⟩;have HQ4:=hid hq4;clear hq4)
     all_goals refine NoPanic.normal ?_
     all_goals
      obtain⟨l4,hs4,hm4⟩:=HQ4.out;have HS4:=hid (HSW.out.trans hs4.s);have HC4:=hid (yE hm4 (by decide) (by decide) HFR.out);clear hs4 hm4;go_wp2_with fail;refine HC4.out.mono ?_;rintro e w5 ⟨rfl,l5,A5,hs5,hm5⟩;have HS5:=hid (HS4.out.trans hs5);have HC5:=hid (qY hm5 HS.out);clear hs5 hm5;go_wp2_with fail;refine HC5.out.mono ?_;rintro e w6 ⟨rfl,l6,m6,hs6,hm6,hc6⟩;have HS6:=hid (HS5.out.trans hs6);have HM6:=hid (And.intro hm6 hc6);clear hs6 hm6 hc6;go_wp2;have hnq:∀o,za w6 (w6.alloc o):=λo=>(za.refl w6).alloc o;refine leaves_cons (f:=261) (args:= #[ptr x]) (by simp) (hi _) ?_;refine(yJ (HM6.out.1.new (hnq _)) HS.out (HM6.out.2.step HM6.out.1.bnd (zr.new HM6.out.1.bnd (hnq _))) (by decide) UN).mono ?_;rintro e u' w'' ⟨rfl,rfl,l7,I7,hI7,hs7,hs8⟩;exact⟨_,results_tmp2 rfl _ _ _,_,rfl,l7,I7,hI7,(HS6.out.trans (zr.new HM6.out.1.bnd (hnq _))).trans hs7,hs8⟩
end Go.Proofs.YtbmdoinjkligiaaGreat
