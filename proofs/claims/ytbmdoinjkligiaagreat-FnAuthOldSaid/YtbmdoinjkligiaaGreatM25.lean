/- Contracts and laws that the last text joins. -/
import Derived.Test.YtbmdoinjkligiaaGreatM24
set_option maxRecDepth 100000
set_option maxHeartbeats 40000000
set_option linter.all false
namespace Go.Proofs.YtbmdoinjkligiaaGreat
open Tryz
open Lib(hid)
open Go.RowKit
variable{a ec:Nat}{l:zu}{s':zA}
theorem dB{w:World}{rb:Nat}{I:zN}{s:zA}{n rn:Bytes}(h:Zn l w a I s)(hr:xE s n rn=(s',ec))(hn:n.length<=1000)(hrn:rn.length<=1000)(h0:im l.some w ⟨rb,0,none⟩=some (zb n))(h1:im l.some w ⟨rb,1,none⟩=some (zb rn))
  (hf:ya s')(hs:yD s')(hsn:yD s):
  Calls prog 174 #[ptr a,ptr rb] w (VZ l w a I s' ec):=by
 obtain⟨A,ab,m,lg,h⟩:=h;have r2:w.cell? ⟨a,2,none⟩=some (.iface 149 (ptr ab)):=by rw[cell_of_row w a 2 _ _ (0,0) h.row];rfl
 have r3:w.cell? ⟨a,3,none⟩=some (.bool s.on):=by rw[cell_of_row w a 3 _ _ (0,0) h.row];rfl
 have d0:=zd _ _ _ _ h0;have HB:=hid (qP h.idle h.abe);have H:=hid h;have H0:=hid h0;have HF:=hid hf;have HS:=hid hs;have HS0:=hid (zr.refl h.bnd);have m1:=qL;have m2:=qA;have m3:=yg;have m4:=yY;have m5:=q7;have m6:=yS;have m7:=yr;have m8:=q9;have d1:=zd _ _ _ _ h1;have HSN:=hid hsn;clear h h0 h1 hf hs hsn;have hrt2:=root_eq rn;obtain⟨sx,hsx⟩:=zex ((⟨n.toArray⟩:ByteArray));unfold zb at d0;rw[<-hsx]at d0;have HSX:=hid hsx;clear hsx;obtain⟨sr,hsr⟩:=zex ((⟨rn.toArray⟩:ByteArray));unfold zb at d1;rw[<-hsr]at d1 hrt2;have HSR:=hid hsr;clear hsr;obtain⟨o,ho⟩:∃o,s.user n=o:=⟨_,rfl⟩;unfold xE at hr;rw[ho]at hr;have HOU:=hid (show qU zj.name s.users n=o from ho);have HRR:=hid hr;have HRT:=hid hrt2;clear ho hr hrt2;go_enter_defers func174,ntmps174;go_wp2_with fail;refine HB.out.mono ?_;rintro e w1 ⟨x,rfl,hn1,hx,hax⟩;have h1:=H.out.new hn1;have HL:=hid (jk h1.idle hax)
 have hd:za w1 w1.drew:=(za.refl w1).drew;have j0:=hn1.le _ _ d0;have j1:=hn1.le _ _ d1;have hmid:=(h1.new hd).mid (hax.new hd);have HUS:=hid (U4 h1.fine h1.kv (h1.idle.new hd) (hax.new hd) hn);have H1:=hid (h1.new hd);have HN1:=hid (show za w w1.drew from hn1.drew);have HMID:=hid hmid;unfold zb at HUS;rw[<-HSX.out]at HUS;clear h1 hn1 hax hd hmid;go_wp2_with fail;refine HL.out.mono ?_;rintro e w2 ⟨rfl,rfl⟩;rw[HOU.out]at HUS;go_upto_region 4 with fail
 go_cut [7]from 19 to 27 (λc wx=>za w1.drew wx/\kg w1.drew wx (.returned c) o)
 case first=>
  refine wp_region_noPanic ?_;go_region_with (refine HUS.out.mono ?_;rintro e w2 ⟨r,rfl,hn2,hg2⟩;have HALL:=hid (And.intro hn2 hg2);clear hn2 hg2)
  all_goals refine NoPanic.normal ?_
  all_goals
   go_wp2_with fail;go_meet;exact HALL.out
 case rest=>
  obtain⟨hn2,hg2⟩:=hcut;obtain⟨w2,hw2⟩:=zex (wc);rw[<-hw2]at hn2 hg2⊢;clear hw2;have hi:=yh x;have HN2:=hid hn2;cases o with
  |none=>
   have HNW:=HN2;cases hg2;obtain⟨rfl,rfl⟩:s=s'/\5=ec:=by have:=HRR.out;cases this;exact⟨rfl,rfl⟩
   clear hn2;have HMN:=hid (HMID.out.new HNW.out);have HST:=hid (zr.new H1.out.bnd HNW.out);go_wp2;refine leaves_cons (f:=261) (args:= #[ptr x]) (by simp) (hi _) ?_;refine(qv HMN.out.tx (by decide) qI HMN.out.atx).mono ?_;rintro e u' w'' ⟨rfl,rfl,l3,I3,hs3,hI3,hi3⟩;exact⟨_,results_tmp2 rfl _ _ _,_,rfl,l3,I3,hI3,((zr.new H.out.bnd HN1.out).trans HST.out).trans hs3.s,_,_,_,_,(H1.out.new HNW.out).moved hs3 hI3 hi3⟩
  |some u=>
   obtain⟨b,wm,nv,rv,ov,he,hge,hbm,hu2⟩:=hg2;cases he;have HU2:=hid hu2;have HGE:=hid hge;have HBM:=hid hbm;have hum:=qk H.out.fine.us HOU.out;have HUK:=hid (H.out.fine.uok u hum);have HRISE:=hid (HSN.out.ur u hum);have e1:=hn2.le _ _ j1;have HR1:=hid (show(if rn≠zL/\s.role rn=none then (s,7)else if rn∈u.roles then (s,0)else (s.putUser ⟨u.name,vY u.roles rn⟩,0))=(s',ec)from HRR.out);clear hge hbm hu2 hum hn2;by_cases c1:rn=zL
   ·have hx1:(sr.toList==[114,111,111,116])=true:=by rw[HRT.out];exact decide_eq_true c1
    have hx2:(sr.toList !=[114,111,111,116])=false:=by rw[bne,hx1];rfl
    have HR3:=hid (show(if rn∈u.roles then (s,0)else (s.putUser ⟨u.name,vY u.roles rn⟩,0))=(s',ec) by have:=HR1.out;rw[if_neg λe=>e.1 c1]at this;exact this);go_upto_region 11 with fail
    obtain⟨w3,hw3⟩:=zex (w2);have HN3:Hid (za w1.drew w3):=by rw[hw3];exact HN2
    have HU3:Hid (Yi wm w3 b (u.name,u.roles,true) nv rv ov):=by rw[hw3];exact HU2
    rw[<-hw3];have HC1:=hid c1;clear e1 hx1 hx2 hw3 j0 j1 c1;have hU3:=HU3.out;obtain⟨rp,rn3,rc,rfl⟩:=(Sl.of_own hU3.own).shape;obtain⟨x0,x1,x2,x3,y0,y1,y2,y3⟩:=kZ hU3.row;have hnl:u.roles.length=rn3:=by have:=(Sl.of_own hU3.own).row.1;rw[List.length_map]at this;exact this
    have q1:=za.le HN3.out _ _ (za.le HN1.out _ _ d1);have hd3:za w3 w3.drew:=(za.refl w3).drew;have hss:=vH (w:=w3.drew) (r:=w3.cell?) (xs:=u.roles) (x:=rn) (za.le hd3) (Sl.of_own hU3.own) HRISE.out (by have:=HUK.out.roles;omega);obtain⟨pl,hpl⟩:∃pl,zk u.roles rn=pl:=⟨_,rfl⟩;unfold zb at hss;rw[<-HSR.out,hpl]at hss;have HSS:=hid hss;have HPL:=hid hpl;have HNL:=hid hnl;clear hU3 hnl hd3 hss hpl;go_wp2_with fail;go_cut [9]from 48 to 56 (λc wx=>c=.int .i64 pl/\za w3 wx)
    case first=>
     refine wp_region_noPanic ?_;go_region_with (refine HSS.out.mono ?_;rintro e w4 ⟨rfl,hn4⟩;have HN4:=hid hn4;clear hn4)
     all_goals refine NoPanic.normal ?_
     all_goals
      go_wp2_with fail;go_meet;exact⟨rfl,za.trans (za.refl w3).drew HN4.out⟩
    case rest=>
     obtain⟨rfl,hn34⟩:=hcut;obtain⟨w4,hw4⟩:=zex (wc);rw[<-hw4]at hn34⊢;clear hw4;have HU4:=hid (HU3.out.new hn34);have HN14:=hid (HN3.out.trans hn34);clear x0 x1 x2 x3 y0 y1 y2 y3 q1 hn34;obtain⟨x0,x1,x2,x3,y0,y1,y2,y3⟩:=kZ HU4.out.row;have q1:=za.le HN14.out _ _ (za.le HN1.out _ _ d1);go_upto_region 12 with fail
     go_cut [77]from 57 to 77 (λc wx=>za w4 wx/\c=.bool (decide (rn∈u.roles)))
     case first=>
      by_cases hlt:pl<u.roles.length
      ·obtain⟨hrl,hrc,hrm,⟨gb,go,rfl,hce⟩|h0⟩:=(Sl.of_own HU4.out.own).row
       case inr=>exact absurd h0 (by have:=HNL.out;omega)
       have ck:=hce pl (by rw[List.length_map];exact hlt);rw[List.getElem_map]at ck;obtain⟨y,hy⟩:∃y,u.roles[pl]=y:=⟨_,rfl⟩;rw[hy]at ck;have hmem:decide (rn∈u.roles)=decide (y=rn):=by rw[decide_eq_decide,<-kU HRISE.out];unfold zx;rw[HPL.out,List.getElem?_eq_getElem hlt,hy];simp
       have hcmp1:((⟨y.toArray⟩:ByteArray).toList==sr.toList)=decide (y=rn):=by rw[HSR.out,ByteArray.toList_eq,ByteArray.toList_eq,Bool.eq_iff_iff];simp
       unfold zb at ck;obtain⟨sy,hsy⟩:=zex ((⟨y.toArray⟩:ByteArray));rw[<-hsy]at ck hcmp1;have hltz:(pl:Int)<rn3:=by have:=HNL.out;omega
       have hdz:decide ((pl:Int)<rn3)=true:=decide_eq_true hltz;obtain⟨dd,hdd⟩:∃dd,decide (y=rn)=dd:=⟨_,rfl⟩;rw[hdd]at hcmp1 hmem;have HMD:=hid hmem;clear hrl hce hy hmem hsy hlt hdd;go_wp2;go_quiet (fail);go_wp2;go_meet;exact⟨(za.refl w4).drewN nq,by first|(rw[HMD.out];done)|(rw[HMD.out,hcmp1];done)|(rw[HMD.out];simp[hcmp1])⟩
      ·have hmem:decide (rn∈u.roles)=false:=by
        refine decide_eq_false ?_;rw[<-kU HRISE.out];unfold zx;rw[HPL.out,List.getElem?_eq_none (by omega)];simp
       have HMD:=hid hmem;have hltz: ¬(pl:Int)<rn3:=by have:=HNL.out;omega
       have hdz:decide ((pl:Int)<rn3)=false:=decide_eq_false hltz;have hdn:decide (pl<rn3)=false:=decide_eq_false (by omega);clear hmem hlt hltz;go_wp2;go_quiet (fail);go_wp2;go_meet;exact⟨(za.refl w4).drewN nq,by rw[HMD.out]⟩
     case rest=>
      obtain⟨hn5,rfl⟩:=hcut;have HNW:=hid (HN14.out.trans hn5);have HU5:=hid (HU4.out.new hn5);clear x0 x1 x2 x3 y0 y1 y2 y3 q1 hn5;by_cases hmem:rn∈u.roles
      ·rw[decide_eq_true hmem];obtain⟨rfl,rfl⟩:s=s'/\0=ec:=by
        have h9:=HR3.out;rw[if_pos hmem]at h9;cases h9;exact⟨rfl,rfl⟩
       have HNA:=hid (λo=>HNW.out.trans ((za.refl _).alloc o));go_wp2;refine leaves_cons (f:=261) (args:= #[ptr x]) (by simp) (hi _) ?_;refine(qv (HMID.out.new (HNA.out _)).tx (by decide) qI (HMID.out.new (HNA.out _)).atx).mono ?_;rintro e u' w'' ⟨rfl,rfl,l3,I3,hs3,hI3,hi3⟩;exact⟨_,results_tmp2 rfl _ _ _,_,rfl,l3,I3,hI3,((zr.new H.out.bnd HN1.out).trans (zr.new H1.out.bnd (HNA.out _))).trans hs3.s,_,_,_,_,(H1.out.new (HNA.out _)).moved hs3 hI3 hi3⟩
      ·rw[decide_eq_false hmem];obtain⟨rfl,rfl⟩:s.putUser ⟨u.name,vY u.roles rn⟩=s'/\0=ec:=by
        have h9:=HR3.out;rw[if_neg hmem]at h9;cases h9;exact⟨rfl,rfl⟩
       obtain⟨x0,x1,x2,x3,y0,y1,y2,y3⟩:=kZ HU5.out.row;have q1:=za.le HNW.out _ _ (za.le HN1.out _ _ d1);have x2a:∀ob,(wc.alloc ob).drew.cell? ⟨b,2,none⟩=some (.slice rp rn3 rc):=λob=>za.le (((za.refl wc).alloc ob).drew) _ _ x2;have HBD:Hid (((u.roles.map zb).length+[Value.string sr].length)*(16+1)<=140737488355328):=hid (by have:=HUK.out.roles;rw[List.length_map,List.length_singleton];omega)
       have hsr':Value.string sr=zb rn:=by rw[HSR.out];rfl
       have HSRV:=hid hsr';have HMEM:=hid hmem;clear hmem hsr';go_wp2_with fail;refine wp_region_noPanic ?_;go_region_law (refine Zj xV rfl rfl (Ze (World.ownsRow.alloc (qK HU5.out.own 0 (Nat.zero_le _)) _)) rfl rfl (news:=[.string sr]) (Sl.drew (Sl.made wc [.string sr] _ 1 1 rfl (by decide))) YR HBD.out ?_;intro v5 w5 ho hg hf5;rw[HSRV.out]at ho;obtain⟨p7,n7,c7,rfl⟩:=(Sl.of_own ho).shape;obtain⟨hrow5,hut⟩:=HU5.out.app HBM.out ho hg hf5;obtain⟨_,_,z2,_,_,_,z2f,_⟩:=kZ hrow5;have HUT:=hid hut;clear ho hg hf5 hrow5 hut)
       all_goals refine NoPanic.normal ?_
       all_goals
        obtain⟨W6,hW6⟩:=zex (w5.setCell ⟨b,2,none⟩ (.slice p7 n7 c7));rw[<-hW6]at HUT⊢;have hut6:Yi wm W6 b (u.name,u.roles++[rn],true) nv (.slice p7 n7 c7) ov:=HUT.out;have HSO:=hid (X1 hut6 HBM.out HRISE.out HMEM.out (by have:=HUK.out.roles;omega));obtain⟨_,_,z2w,_⟩:=kZ HUT.out.row;clear hut6 hW6 z2 z2f x0 x1 x2 x3 y0 y1 y2 y3 q1;go_wp2_with fail;refine HSO.out.mono ?_;rintro e w7 ⟨rfl,hu7⟩;have hnw:za w1.drew w7:=zo.back HN2.out HU2.out.mod hu7.mod HGE.out HBM.out;have hat:jd (im l.some w7) b ⟨u.name,vY u.roles rn⟩:=hu7.at λj hj=>by have:=H1.out.bnd j hj;have:=HGE.out;have:=HBM.out;omega
        have hff:=HF.out;have hfu:ya {s with users:=yT zj.name s.users ⟨u.name,vY u.roles rn⟩}:=⟨hff.us,hff.rs,hff.uok,hff.rok,hff.ul,hff.rl,H.out.fine.rev⟩;have huok:jy ⟨u.name,vY u.roles rn⟩:=hff.uok _ ((qB H.out.fine.us).2 (Or.inl rfl));have HPU:=hid (vU (HMID.out.new hnw) (by decide) (by decide) hat huok hfu);have HSW:=hid ((zr.new H.out.bnd HN1.out).trans (zr.new H1.out.bnd hnw));have HFR:=hid (show s.rev+1<200 from hff.rev);clear hnw hat hff hfu huok hu7 z2w;go_wp2_with fail;refine HPU.out.mono ?_;rintro e w4' ⟨rfl,l4,hs4,hm4⟩;have HS4:=hid (HSW.out.trans hs4.s);have HC4:=hid (yE hm4 (by decide) (by simp[kB,jL]) HFR.out);clear hs4 hm4;go_wp2_with fail;refine HC4.out.mono ?_;rintro e w5 ⟨rfl,l5,A5,hs5,hm5⟩;have HS5:=hid (HS4.out.trans hs5);have HC5:=hid (qY hm5 HS.out);clear hs5 hm5;go_wp2_with fail;refine HC5.out.mono ?_;rintro e w6 ⟨rfl,l6,m6,hs6,hm6,hc6⟩
        have HS6:=hid (HS5.out.trans hs6);have HM6:=hid (And.intro hm6 hc6);clear hs6 hm6 hc6;go_wp2;have hnq:∀o,za w6 (w6.alloc o):=λo=>(za.refl w6).alloc o;refine leaves_cons (f:=261) (args:= #[ptr x]) (by simp) (hi _) ?_;refine(yJ (HM6.out.1.new (hnq _)) HS.out (HM6.out.2.step HM6.out.1.bnd (zr.new HM6.out.1.bnd (hnq _))) (by decide) (jV (by decide) _)).mono ?_;rintro e u' w'' ⟨rfl,rfl,l7,I7,hI7,hs7,hs8⟩;exact⟨_,results_tmp2 rfl _ _ _,_,rfl,l7,I7,hI7,(HS6.out.trans (zr.new HM6.out.1.bnd (hnq _))).trans hs7,hs8⟩
   ·have hx1:(sr.toList==[114,111,111,116])=false:=by rw[HRT.out];exact decide_eq_false c1
    have hx2:(sr.toList !=[114,111,111,116])=true:=by rw[bne,hx1];rfl
    have hd2:za w2 w2.drew:=(za.refl w2).drew;have HGR:=hid (ZX H1.out.fine H1.out.kv (HMID.out.new (HN2.out.trans hd2)).tx (HMID.out.new (HN2.out.trans hd2)).atx hrn);unfold zb at HGR;rw[<-HSR.out]at HGR;obtain⟨q,hq⟩:∃q,s.role rn=q:=⟨_,rfl⟩;have hq':qU zm.name s.roles rn=q:=hq;rw[hq']at HGR;have hr2:(if q=none then (s,7)else if rn∈u.roles then (s,0)else (s.putUser ⟨u.name,vY u.roles rn⟩,0))=(s',ec):=by
     have h9:=HR1.out;rw[hq]at h9;by_cases e:q=none
     ·rw[if_pos ⟨c1,e⟩]at h9;rw[if_pos e];exact h9
     ·rw[if_neg λe2=>e e2.2]at h9;rw[if_neg e];exact h9
    have HR2:=hid hr2;clear hr2;clear hd2 hq hq';go_upto_region 8 with fail
    go_cut [8]from 36 to 44 (λc wx=>za w2.drew wx/\jN w2.drew wx (.returned c) q)
    case first=>
     refine wp_region_noPanic ?_;go_region_with (refine HGR.out.mono ?_;rintro e w3 ⟨r3,rfl,hn3,hg3⟩;have HALL3:=hid (And.intro hn3 hg3);clear hn3 hg3)
     all_goals refine NoPanic.normal ?_
     all_goals
      go_wp2_with fail;go_meet;exact HALL3.out
    case rest=>
     obtain⟨hn3,hg3⟩:=hcut;obtain⟨w3,hw3⟩:=zex (wc);rw[<-hw3]at hn3 hg3⊢;clear hw3;have hn23:za w2 w3:=za.trans (za.refl w2).drew hn3;have HN3:=hid (HN2.out.trans hn23);have HU3:=hid (HU2.out.new hn23);cases q with
     |none=>
      cases hg3;have HNW:=HN3;obtain⟨rfl,rfl⟩:s=s'/\7=ec:=by have:=HR2.out;rw[if_pos rfl]at this;cases this;exact⟨rfl,rfl⟩
      clear e1 hx1 hx2 j0 j1 hn3 hn23;have HMN:=hid (HMID.out.new HNW.out);have HST:=hid (zr.new H1.out.bnd HNW.out);go_wp2;refine leaves_cons (f:=261) (args:= #[ptr x]) (by simp) (hi _) ?_;refine(qv HMN.out.tx (by decide) qI HMN.out.atx).mono ?_;rintro e u' w'' ⟨rfl,rfl,l3,I3,hs3,hI3,hi3⟩;exact⟨_,results_tmp2 rfl _ _ _,_,rfl,l3,I3,hI3,((zr.new H.out.bnd HN1.out).trans HST.out).trans hs3.s,_,_,_,_,(H1.out.new HNW.out).moved hs3 hI3 hi3⟩
     |some r4=>
      obtain⟨b3,wm3,nv3,rv3,ids3,he3,_⟩:=hg3;cases he3;have HR3:=hid (show(if rn∈u.roles then (s,0)else (s.putUser ⟨u.name,vY u.roles rn⟩,0))=(s',ec) by have:=HR2.out;rw[if_neg (by simp)]at this;exact this);clear e1 hx1 hx2 j0 j1 hn3 hn23;go_upto_region 11 with fail
      have hU3:=HU3.out;obtain⟨rp,rn3,rc,rfl⟩:=(Sl.of_own hU3.own).shape;obtain⟨x0,x1,x2,x3,y0,y1,y2,y3⟩:=kZ hU3.row;have hnl:u.roles.length=rn3:=by have:=(Sl.of_own hU3.own).row.1;rw[List.length_map]at this;exact this
      have q1:=za.le HN3.out _ _ (za.le HN1.out _ _ d1);have hd3:za w3 w3.drew:=(za.refl w3).drew;have hss:=vH (w:=w3.drew) (r:=w3.cell?) (xs:=u.roles) (x:=rn) (za.le hd3) (Sl.of_own hU3.own) HRISE.out (by have:=HUK.out.roles;omega);obtain⟨pl,hpl⟩:∃pl,zk u.roles rn=pl:=⟨_,rfl⟩;unfold zb at hss;rw[<-HSR.out,hpl]at hss;have HSS:=hid hss;have HPL:=hid hpl;have HNL:=hid hnl;clear hU3 hnl hd3 hss hpl;go_wp2_with fail;go_cut [9]from 48 to 56 (λc wx=>c=.int .i64 pl/\za w3 wx)
      case first=>
       refine wp_region_noPanic ?_;go_region_with (refine HSS.out.mono ?_;rintro e w4 ⟨rfl,hn4⟩;have HN4:=hid hn4;clear hn4)
       all_goals refine NoPanic.normal ?_
       all_goals
        go_wp2_with fail;go_meet;exact⟨rfl,za.trans (za.refl w3).drew HN4.out⟩
      case rest=>
       obtain⟨rfl,hn34⟩:=hcut;obtain⟨w4,hw4⟩:=zex (wc);rw[<-hw4]at hn34⊢;clear hw4;have HU4:=hid (HU3.out.new hn34);have HN14:=hid (HN3.out.trans hn34);clear x0 x1 x2 x3 y0 y1 y2 y3 q1 hn34;obtain⟨x0,x1,x2,x3,y0,y1,y2,y3⟩:=kZ HU4.out.row;have q1:=za.le HN14.out _ _ (za.le HN1.out _ _ d1);go_upto_region 12 with fail
       go_cut [77]from 57 to 77 (λc wx=>za w4 wx/\c=.bool (decide (rn∈u.roles)))
       case first=>
        by_cases hlt:pl<u.roles.length
        ·obtain⟨hrl,hrc,hrm,⟨gb,go,rfl,hce⟩|h0⟩:=(Sl.of_own HU4.out.own).row
         case inr=>exact absurd h0 (by have:=HNL.out;omega)
         have ck:=hce pl (by rw[List.length_map];exact hlt);rw[List.getElem_map]at ck;obtain⟨y,hy⟩:∃y,u.roles[pl]=y:=⟨_,rfl⟩;rw[hy]at ck;have hmem:decide (rn∈u.roles)=decide (y=rn):=by rw[decide_eq_decide,<-kU HRISE.out];unfold zx;rw[HPL.out,List.getElem?_eq_getElem hlt,hy];simp
         have hcmp1:((⟨y.toArray⟩:ByteArray).toList==sr.toList)=decide (y=rn):=by rw[HSR.out,ByteArray.toList_eq,ByteArray.toList_eq,Bool.eq_iff_iff];simp
         unfold zb at ck;obtain⟨sy,hsy⟩:=zex ((⟨y.toArray⟩:ByteArray));rw[<-hsy]at ck hcmp1;have hltz:(pl:Int)<rn3:=by have:=HNL.out;omega
         have hdz:decide ((pl:Int)<rn3)=true:=decide_eq_true hltz;obtain⟨dd,hdd⟩:∃dd,decide (y=rn)=dd:=⟨_,rfl⟩;rw[hdd]at hcmp1 hmem;have HMD:=hid hmem;clear hrl hce hy hmem hsy hlt hdd;go_wp2;go_quiet (fail);go_wp2;go_meet;exact⟨(za.refl w4).drewN nq,by first|(rw[HMD.out];done)|(rw[HMD.out,hcmp1];done)|(rw[HMD.out];simp[hcmp1])⟩
        ·have hmem:decide (rn∈u.roles)=false:=by
          refine decide_eq_false ?_;rw[<-kU HRISE.out];unfold zx;rw[HPL.out,List.getElem?_eq_none (by omega)];simp
         have HMD:=hid hmem;have hltz: ¬(pl:Int)<rn3:=by have:=HNL.out;omega
         have hdz:decide ((pl:Int)<rn3)=false:=decide_eq_false hltz;have hdn:decide (pl<rn3)=false:=decide_eq_false (by omega);clear hmem hlt hltz;go_wp2;go_quiet (fail);go_wp2;go_meet;exact⟨(za.refl w4).drewN nq,by rw[HMD.out]⟩
       case rest=>
        obtain⟨hn5,rfl⟩:=hcut;have HNW:=hid (HN14.out.trans hn5);have HU5:=hid (HU4.out.new hn5);clear x0 x1 x2 x3 y0 y1 y2 y3 q1 hn5;by_cases hmem:rn∈u.roles
        ·rw[decide_eq_true hmem];obtain⟨rfl,rfl⟩:s=s'/\0=ec:=by
          have h9:=HR3.out;rw[if_pos hmem]at h9;cases h9;exact⟨rfl,rfl⟩
         have HNA:=hid (λo=>HNW.out.trans ((za.refl _).alloc o));go_wp2;refine leaves_cons (f:=261) (args:= #[ptr x]) (by simp) (hi _) ?_;refine(qv (HMID.out.new (HNA.out _)).tx (by decide) qI (HMID.out.new (HNA.out _)).atx).mono ?_;rintro e u' w'' ⟨rfl,rfl,l3,I3,hs3,hI3,hi3⟩;exact⟨_,results_tmp2 rfl _ _ _,_,rfl,l3,I3,hI3,((zr.new H.out.bnd HN1.out).trans (zr.new H1.out.bnd (HNA.out _))).trans hs3.s,_,_,_,_,(H1.out.new (HNA.out _)).moved hs3 hI3 hi3⟩
        ·rw[decide_eq_false hmem];obtain⟨rfl,rfl⟩:s.putUser ⟨u.name,vY u.roles rn⟩=s'/\0=ec:=by
          have h9:=HR3.out;rw[if_neg hmem]at h9;cases h9;exact⟨rfl,rfl⟩
         obtain⟨x0,x1,x2,x3,y0,y1,y2,y3⟩:=kZ HU5.out.row;have q1:=za.le HNW.out _ _ (za.le HN1.out _ _ d1);have x2a:∀ob,(wc.alloc ob).drew.cell? ⟨b,2,none⟩=some (.slice rp rn3 rc):=λob=>za.le (((za.refl wc).alloc ob).drew) _ _ x2;have HBD:Hid (((u.roles.map zb).length+[Value.string sr].length)*(16+1)<=140737488355328):=hid (by have:=HUK.out.roles;rw[List.length_map,List.length_singleton];omega)
         have hsr':Value.string sr=zb rn:=by rw[HSR.out];rfl
         have HSRV:=hid hsr';have HMEM:=hid hmem;clear hmem hsr';go_wp2_with fail;refine wp_region_noPanic ?_;go_region_law (refine Zj xV rfl rfl (Ze (World.ownsRow.alloc (qK HU5.out.own 0 (Nat.zero_le _)) _)) rfl rfl (news:=[.string sr]) (Sl.drew (Sl.made wc [.string sr] _ 1 1 rfl (by decide))) YR HBD.out ?_;intro v5 w5 ho hg hf5;rw[HSRV.out]at ho;obtain⟨p7,n7,c7,rfl⟩:=(Sl.of_own ho).shape;obtain⟨hrow5,hut⟩:=HU5.out.app HBM.out ho hg hf5;obtain⟨_,_,z2,_,_,_,z2f,_⟩:=kZ hrow5;have HUT:=hid hut;clear ho hg hf5 hrow5 hut)
         all_goals refine NoPanic.normal ?_
         all_goals
          obtain⟨W6,hW6⟩:=zex (w5.setCell ⟨b,2,none⟩ (.slice p7 n7 c7));rw[<-hW6]at HUT⊢;have hut6:Yi wm W6 b (u.name,u.roles++[rn],true) nv (.slice p7 n7 c7) ov:=HUT.out;have HSO:=hid (X1 hut6 HBM.out HRISE.out HMEM.out (by have:=HUK.out.roles;omega));obtain⟨_,_,z2w,_⟩:=kZ HUT.out.row;clear hut6 hW6 z2 z2f x0 x1 x2 x3 y0 y1 y2 y3 q1;go_wp2_with fail;refine HSO.out.mono ?_;rintro e w7 ⟨rfl,hu7⟩;have hnw:za w1.drew w7:=zo.back HN2.out HU2.out.mod hu7.mod HGE.out HBM.out;have hat:jd (im l.some w7) b ⟨u.name,vY u.roles rn⟩:=hu7.at λj hj=>by have:=H1.out.bnd j hj;have:=HGE.out;have:=HBM.out;omega
          have hff:=HF.out;have hfu:ya {s with users:=yT zj.name s.users ⟨u.name,vY u.roles rn⟩}:=⟨hff.us,hff.rs,hff.uok,hff.rok,hff.ul,hff.rl,H.out.fine.rev⟩;have huok:jy ⟨u.name,vY u.roles rn⟩:=hff.uok _ ((qB H.out.fine.us).2 (Or.inl rfl));have HPU:=hid (vU (HMID.out.new hnw) (by decide) (by decide) hat huok hfu);have HSW:=hid ((zr.new H.out.bnd HN1.out).trans (zr.new H1.out.bnd hnw));have HFR:=hid (show s.rev+1<200 from hff.rev);clear hnw hat hff hfu huok hu7 z2w;go_wp2_with fail;refine HPU.out.mono ?_;rintro e w4' ⟨rfl,l4,hs4,hm4⟩;have HS4:=hid (HSW.out.trans hs4.s);have HC4:=hid (yE hm4 (by decide) (by simp[kB,jL]) HFR.out);clear hs4 hm4;go_wp2_with fail;refine HC4.out.mono ?_;rintro e w5 ⟨rfl,l5,A5,hs5,hm5⟩;have HS5:=hid (HS4.out.trans hs5);have HC5:=hid (qY hm5 HS.out);clear hs5 hm5;go_wp2_with fail;refine HC5.out.mono ?_;rintro e w6 ⟨rfl,l6,m6,hs6,hm6,hc6⟩
          have HS6:=hid (HS5.out.trans hs6);have HM6:=hid (And.intro hm6 hc6);clear hs6 hm6 hc6;go_wp2;have hnq:∀o,za w6 (w6.alloc o):=λo=>(za.refl w6).alloc o;refine leaves_cons (f:=261) (args:= #[ptr x]) (by simp) (hi _) ?_;refine(yJ (HM6.out.1.new (hnq _)) HS.out (HM6.out.2.step HM6.out.1.bnd (zr.new HM6.out.1.bnd (hnq _))) (by decide) (jV (by decide) _)).mono ?_;rintro e u' w'' ⟨rfl,rfl,l7,I7,hI7,hs7,hs8⟩;exact⟨_,results_tmp2 rfl _ _ _,_,rfl,l7,I7,hI7,(HS6.out.trans (zr.new HM6.out.1.bnd (hnq _))).trans hs7,hs8⟩
variable{W w':World}{x:Nat}
theorem JU.w{w:World}{I:zN}{s:zA}(h:Wd l w x I a s)(hn:za w W)(hc:JU l W a I s' w'):∃l' I' a',I'.db=I.db/\qG l w l' w'/\Wd l' w' x I' a' s':=by obtain⟨l',I',hI,hs,ht⟩:=hc;exact⟨l',I',a,hI.2.2.2,(qG.new h.st.bnd hn).trans hs.w,(h.new hn).call hs hI ht⟩
theorem Jd(a:Nat)(W:World):(method 608 142 (ptr a) "AuthEnable").run prog W=.ok (157,ptr a) W:=by kernel_rfl
theorem YG(a:Nat)(W:World):(method 608 142 (ptr a) "AuthDisable").run prog W=.ok (156,ptr a) W:=by kernel_rfl
variable{o:zH}
theorem fG{w:World}{I:zN}{s:zA}(h:Wd l w x I a s)(hk:o.kind=1)(hr:Q1 s=(s',ec))(hf:ya s')(hs:yD s'):
  Calls prog 42 #[ptr x,o.val] w (Yd l w x I s' ec):=by
 obtain⟨ki,us,ro,pk,ke,st,np,od,nu⟩:=o;dsimp only at hk;subst hk;unfold zH.val zH.cells;dsimp only;obtain⟨c0,c1,c2,_⟩:=vZ h.row;obtain⟨cc,hcc⟩:=zex (#[.int .i64 1,zb us,zb ro,.int .i64 pk,zb ke,zb st,.bool np,.int .i64 od,.bool nu]);obtain⟨w1,hw1⟩:=zex (w.alloc (.cells cc 35));have hn1:za w w1:=by rw[hw1];exact(za.refl w).alloc _
 have hb0:w1.heap[w.heap.size]? =some (.cells cc 35 (0,0)):=by rw[hw1];exact zg w _
 have d2:=hn1.le _ _ c2;have g0:w1.cell? ⟨w.heap.size,0,none⟩=some (.int .i64 1):=by rw[cell_of_row w1 _ 0 _ _ (0,0) hb0,hcc];rfl
 have HC:=hid (Xf (h.new hn1).st hr hf hs);have HH:=hid h;have HN1:=hid hn1;have HW1:=hid hw1;have HCC:=hid hcc;have hme:=Jd a;clear h hcc hn1 hr hf hs hb0 c0 c1 c2;obtain⟨ob,hob⟩:=zex (w.heap.size);rw[<-hob]at g0;go_enter func42,ntmps42;go_upto_region 2 with fail
 rw[<-HCC.out,<-HW1.out,<-hob];clear hob hw1;obtain⟨va,hva⟩:=zex (Value.agg cc);rw[<-hva];clear hva;go_wp2_with fail;refine HC.out.mono ?_;rintro e w2 ⟨rfl,ha⟩;have HEND:=hid (JU.w HH.out HN1.out ha);clear ha;go_wp2;go_returns;exact⟨rfl,HEND.out⟩
theorem fH{w:World}{I:zN}{s:zA}(h:Wd l w x I a s)(hk:o.kind=2)(hr:Zt s=s')(hf:ya s')(hs:yD s'):
  Calls prog 42 #[ptr x,o.val] w (Yd l w x I s' 0):=by
 obtain⟨ki,us,ro,pk,ke,st,np,od,nu⟩:=o;dsimp only at hk;subst hk;unfold zH.val zH.cells;dsimp only;obtain⟨c0,c1,c2,_⟩:=vZ h.row;obtain⟨cc,hcc⟩:=zex (#[.int .i64 2,zb us,zb ro,.int .i64 pk,zb ke,zb st,.bool np,.int .i64 od,.bool nu]);obtain⟨w1,hw1⟩:=zex (w.alloc (.cells cc 35));have hn1:za w w1:=by rw[hw1];exact(za.refl w).alloc _
 have hb0:w1.heap[w.heap.size]? =some (.cells cc 35 (0,0)):=by rw[hw1];exact zg w _
 have d2:=hn1.le _ _ c2;have g0:w1.cell? ⟨w.heap.size,0,none⟩=some (.int .i64 2):=by rw[cell_of_row w1 _ 0 _ _ (0,0) hb0,hcc];rfl
 have HC:=hid (Vv (h.new hn1).st hr hf hs);have HH:=hid h;have HN1:=hid hn1;have HW1:=hid hw1;have HCC:=hid hcc;have hme:=YG a;clear h hcc hn1 hr hf hs hb0 c0 c1 c2;obtain⟨ob,hob⟩:=zex (w.heap.size);rw[<-hob]at g0;go_enter func42,ntmps42;go_upto_region 2 with fail
 rw[<-HCC.out,<-HW1.out,<-hob];clear hob hw1;obtain⟨va,hva⟩:=zex (Value.agg cc);rw[<-hva];clear hva;go_wp2_with fail;refine HC.out.mono ?_;rintro e w2 ⟨rfl,ha⟩;have HEND:=hid (JU.w HH.out HN1.out ha);clear ha;go_wp2;go_returns;exact⟨rfl,HEND.out⟩
theorem VL(x:Nat)(W:World):(method 608 424 (ptr x) "UnsafeReadAuthEnabled").run prog W=.ok (296,ptr x) W:=by kernel_rfl
theorem Kl(x:Nat)(W:World):(method 608 424 (ptr x) "UnsafeReadAuthRevision").run prog W=.ok (297,ptr x) W:=by kernel_rfl
section
variable{l:zu}{w:World}{a:Nat}{I:zN}{s:zA}{A:yu}{ab m x:Nat}{lg:Value}
theorem U_(h:Yb l w a I s A ab m lg)(hx:qe l w x 238 I.rt 426):
  Calls prog 296 #[ptr x] w λe w'=>e=.returned (.bool s.on)/\zB l w l w'/\Yb l w' a I s A ab m lg/\qe l w' x 238 I.rt 426:=by
 obtain⟨C,wb,rb,e2,e4,hB,h1,h2,h3,h4⟩:=h.idle;have R:=YY (l:=l) (w:=w) (I:=I) (C:=C) (wb:=wb) (rb:=rb) (pend:=0) (pdel:=0) (e2:=e2) h2 (h4 rfl).2.1 (h.fine.dbOk h.kv);refine(Ya (R:=λr w'=>r=.bool s.on/\zB l w l w'/\Yb l w' a I s A ab m lg/\qe l w' x 238 I.rt 426) hx.2 ((YT R.toDu ⟨zB.refl hB.bnd,hB⟩).mono ?_)).mono ?_
 ·rintro e w' ⟨rfl,⟨hs,hB'⟩,hm⟩;exact⟨_,rfl,congrArg Value.bool h.kv.en,hs,h.moved hs (zN.same_refl I) ⟨C,wb,rb,e2,e4,hB',h1,h2,h3,h4⟩,hx.step hs⟩
 ·rintro e w' ⟨r,rfl,rfl,hs,hm⟩;exact⟨rfl,hs,hm⟩
theorem fI(h:Yb l w a I s A ab m lg)(hx:qe l w x 238 I.rt 426):
  Calls prog 297 #[ptr x] w λe w'=>e=.returned (.int .u64 s.rev)/\zB l w l w'/\Yb l w' a I s A ab m lg/\qe l w' x 238 I.rt 426:=by
 obtain⟨C,wb,rb,e2,e4,hB,h1,h2,h3,h4⟩:=h.idle;have R:=YY (l:=l) (w:=w) (I:=I) (C:=C) (wb:=wb) (rb:=rb) (pend:=0) (pdel:=0) (e2:=e2) h2 (h4 rfl).2.1 (h.fine.dbOk h.kv);refine(Qy (R:=λr w'=>r=.int .u64 s.rev/\zB l w l w'/\Yb l w' a I s A ab m lg/\qe l w' x 238 I.rt 426) hx.2 ((Za (n:=s.rev) R.toDu ⟨zB.refl hB.bnd,hB⟩ (by have:=h.fine.rev;omega) h.kv.rv).mono ?_)).mono ?_
 ·rintro e w' ⟨rfl,⟨hs,hB'⟩,hm⟩;exact⟨_,rfl,rfl,hs,h.moved hs (zN.same_refl I) ⟨C,wb,rb,e2,e4,hB',h1,h2,h3,h4⟩,hx.step hs⟩
 ·rintro e w' ⟨r,rfl,rfl,hs,hm⟩;exact⟨rfl,hs,hm⟩
theorem Yb.set{ab2:Nat}(h:Yb l w a I s A ab m lg){o:Nat}{v:Value}(hrow:kT (w.setCell ⟨a,o,none⟩ v) a s.rev lg (.iface 149 (ptr ab2)) s.on m)(h2:qe l w ab2 136 I.be 151):zr l w l (w.setCell ⟨a,o,none⟩ v)/\Yb l (w.setCell ⟨a,o,none⟩ v) a I s A ab2 m lg:=by obtain⟨hs,hc⟩:=QG h.bnd h.lab o v;exact⟨hs,k7.client h.idle hc,h.kv,hrow,h2.client hc,h.cache.step h.bnd hs,h.lab,h.fine,h.sane⟩
theorem kT.setBe{rev:Nat}{bv bv2:Value}{on:Bool}(h:kT w a rev lg bv on m):kT (w.setCell ⟨a,2,none⟩ bv2) a rev lg bv2 on m:=heap_setCell_same _ _ _ _ _ _ h
end
theorem Ga{w:World}{ab2:Nat}{I:zN}{s:zA}(h:Zn l w a I s)(h2:qe l w ab2 136 I.be 151):
  Calls prog 164 #[ptr a,.iface 149 (ptr ab2)] w λe w'=>e=.returned (.tuple #[])/\∃l',zr l w l' w'/\Zn l' w' a I s:=by
 obtain⟨A,ab,m,lg,h⟩:=h;have r2:w.cell? ⟨a,2,none⟩=some (.iface 149 (ptr ab)):=by rw[cell_of_row w a 2 _ _ (0,0) h.row];rfl
 have z2:w.frozen? ⟨a,2,none⟩=false:=by have hr:w.heap[a]? =some (.cells #[.int .u64 s.rev,lg,.iface 149 (ptr ab),.bool s.on,.map (some m)] 146 (0,0)):=h.row;simp[World.frozen?,hr]
 obtain⟨w1,hw1⟩:=zex (w.setCell ⟨a,2,none⟩ (.iface 149 (ptr ab2)));obtain⟨hs1,h1⟩:=h.set h.row.setBe h2;rw[<-hw1]at hs1 h1;have HB:=hid (vG h1.idle h1.abe);have H1:=hid h1;have HS1:=hid hs1;have HW1:=hid hw1;have m1:=QC;have m2:=kt;have m3:=jm;have m4:=VL;have m5:=Kl;clear h h2 h1 hs1 hw1;go_enter func164,ntmps164;go_upto_region 1 with fail
 rw[<-HW1.out];go_wp2_with fail;refine HB.out.mono ?_;rintro e w2 ⟨x,rfl,hn2,hx,hax⟩;have h2:=H1.out.new hn2;have HL:=hid (xr h2.idle hax);have HEN:=hid (U_ h2 hax);have HS2:=hid (HS1.out.trans (zr.new H1.out.bnd hn2));clear h2 hn2 hax;go_wp2_with fail;refine HL.out.mono ?_;rintro e w3 ⟨rfl,rfl⟩;go_wp2_with fail;refine HEN.out.mono ?_;rintro e w4 ⟨rfl,hs4,h4,hx4⟩;have HS4:=hid (HS2.out.trans hs4.s);have HRV:=hid (fI h4 hx4);clear hs4 h4 hx4;go_wp2_with fail;refine HRV.out.mono ?_;rintro e w5 ⟨rfl,hs5,h5,hx5⟩;have HSR:=hid (XR (r:=s.rev) h5.row);have HS5:=hid (HS4.out.trans hs5.s);have H5:=hid (And.intro h5 hx5);clear hs5 h5 hx5;go_wp2_with fail;refine HSR.out.mono ?_;rintro e w6 ⟨rfl,hw6⟩;obtain⟨hs6,h6⟩:=H5.out.1.set (o:=0) (v:=.int .u64 s.rev) H5.out.1.row.setRev H5.out.1.abe;rw[<-hw6]at hs6 h6;have hx6:qe l w6 x 238 I.rt 426:=H5.out.2.s hs6
 have HRF:=hid (Vi (QZ (x:=x) (I:=I) h6.fine h6.kv) h6.fine.us h6.fine.rs h6.fine.uok h6.fine.rok h6.sane.pv ⟨h6.idle,hx6⟩ h6.row h6.lab);have HS6:=hid (HS5.out.trans hs6);have H6:=hid h6;clear hs6 h6 hx6 hw6;go_wp2_with fail;refine HRF.out.mono ?_;rintro e w7 ⟨rfl,l7,m7,⟨hi7,hx7⟩,hs7,hrow7,hc7⟩;have h7:Yb l7 w7 a I s A ab2 m7 lg:=⟨hi7,H6.out.kv,hrow7,H6.out.abe.s hs7,hc7,by rw[hs7.old a H6.out.row.lt,H6.out.lab],H6.out.fine,H6.out.sane⟩;have HU:=hid (uG h7.idle hx7);obtain⟨A0,hA0⟩:=QB h7.row;have q3:w7.cell? ⟨a,3,none⟩=some (.bool s.on):=by rw[cell_of_row w7 a 3 _ _ (0,0) hrow7];rfl
 have z3:w7.frozen? ⟨a,3,none⟩=false:=by have hr:w7.heap[a]? =some (.cells #[.int .u64 s.rev,lg,.iface 149 (ptr ab2),.bool s.on,.map (some m7)] 146 (0,0)):=hrow7;simp[World.frozen?,hr]
 obtain⟨w8,hw8⟩:=zex (w7.setCell ⟨a,3,none⟩ (.bool s.on));obtain⟨hs8,h8⟩:=h7.set (o:=3) (v:=.bool s.on) h7.row.setOn h7.abe;rw[<-hw8]at hs8 h8;obtain⟨A8,hA8⟩:=QB h8.row;have HS8:=hid ((HS6.out.trans hs7).trans hs8);have H8:=hid h8;have HW8:=hid hw8;clear hi7 hx7 hs7 hrow7 hc7 h7 hs8 h8 hw8;go_wp2_with fail;refine HU.out.mono ?_;rintro e w9 ⟨rfl,rfl⟩;go_upto_region 9 with(go_at_call 69;go_must (refine(v_ _ _).mono ?_);rintro e w9 ⟨rfl,rfl⟩)
 rw[<-HW8.out];go_wp2_with (go_at_call 70;go_must (refine(QW _ _).mono ?_);rintro e w9 ⟨rfl,rfl⟩);go_returns;exact⟨rfl,l7,HS8.out,_,_,_,_,H8.out⟩
theorem D2{s:zA}(h:1<=s.rev):s.wake=s:=by unfold zA.wake;rw[if_neg (by omega)]
theorem zaP{w:World}{I:zN}{s:zA}(h:Wd l w x I a s):
  Calls prog 32 #[ptr x] w λe w'=>e=.returned (.tuple #[])/\∃l' I' a',I'.db=I.db/\qG l w l' w'/\Wd l' w' x I' a' s:=by
 obtain⟨A,ab,m,lg,hp⟩:=h.st;obtain⟨C,wb,rb,e2,e4,hB,h1,h2,h3,h4⟩:=hp.idle;obtain⟨dv,hd,hD⟩:=hB.db;have hC:C=(s.db A).bkts:=(h4 rfl).1;have hw:=D2 hp.sane.pos;have:=GK (d:=I.db) hB.bnd h.lab h.row hB.lab.2.2.2.1 hd hD (by rw[hC];exact Nat.le_refl 3) (by rw[hC];exact DS _) hp.kv hp.fine (by rw[hw];exact hp.sane);rw[hw]at this;exact this
theorem Xq(t:Nat)(W:World):(method 608 136 (ptr t) "ForceCommit").run prog W=.ok (151,ptr t) W:=by kernel_rfl
theorem dG{w:World}{I:zN}{s:zA}(h:Wd l w x I a s)(hk:o.kind=21):
  Calls prog 42 #[ptr x,o.val] w (Yd l w x I s 0):=by
 obtain⟨ki,us,ro,pk,ke,st,np,od,nu⟩:=o;dsimp only at hk;subst hk;unfold zH.val zH.cells;dsimp only;obtain⟨c0,c1,c2,_⟩:=vZ h.row;obtain⟨cc,hcc⟩:=zex (#[.int .i64 21,zb us,zb ro,.int .i64 pk,zb ke,zb st,.bool np,.int .i64 od,.bool nu]);obtain⟨w1,hw1⟩:=zex (w.alloc (.cells cc 35));have hn1:za w w1:=by rw[hw1];exact(za.refl w).alloc _
 have hb0:w1.heap[w.heap.size]? =some (.cells cc 35 (0,0)):=by rw[hw1];exact zg w _
 have d1:=hn1.le _ _ c1;have g0:w1.cell? ⟨w.heap.size,0,none⟩=some (.int .i64 21):=by rw[cell_of_row w1 _ 0 _ _ (0,0) hb0,hcc];rfl
 have hC:Calls prog 151 #[ptr I.be] w1 λe w'=>e=.returned (.tuple #[])/\∃l' I',I.same I'/\qG l w l' w'/\Wd l' w' x I' a s:=by obtain⟨A,ab,m,lg,hp⟩:=(h.new hn1).st;refine(Z4 hp.idle).mono ?_;rintro e w' ⟨rfl,l',I',hs,hI,hi⟩;exact⟨rfl,l',I',hI,(qG.new h.st.bnd hn1).trans hs.s.w,(h.new hn1).call hs.s hI ⟨A,ab,m,lg,hp.moved hs hI hi⟩⟩
 have HC:=hid hC;have HW1:=hid hw1;have HCC:=hid hcc;have hme:=Xq I.be;clear h hcc hn1 hb0 c0 c1 c2 hC;obtain⟨ob,hob⟩:=zex (w.heap.size);rw[<-hob]at g0;go_enter func42,ntmps42;go_upto_region 2 with fail
 rw[<-HCC.out,<-HW1.out,<-hob];clear hob hw1;obtain⟨va,hva⟩:=zex (Value.agg cc);rw[<-hva];clear hva;go_wp2_with fail;refine HC.out.mono ?_;rintro e w2 ⟨rfl,l2,I2,hI2,hs2,hd2⟩;have HOP:=hid (zaP hd2);have HI2:=hid hI2;have HS2:=hid hs2;clear hI2 hs2 hd2;go_wp2_with fail;refine HOP.out.mono ?_;rintro e w3 ⟨rfl,l3,I3,a3,hI3,hs3,hd3⟩;have HEND:=hid (show∃l' I' a',I'.db=I.db/\qG l w l' w3/\Wd l' w3 x I' a' s from⟨l3,I3,a3,hI3.trans HI2.out.2.2.2,HS2.out.trans hs3,hd3⟩);clear hI3 hs3 hd3;go_wp2;go_returns;exact⟨rfl,HEND.out⟩
theorem VM(a:Nat)(W:World):(method 608 142 (ptr a) "Recover").run prog W=.ok (164,ptr a) W:=by kernel_rfl
theorem dH{w:World}{I:zN}{s:zA}(h:Wd l w x I a s)(hk:o.kind=20):
  Calls prog 42 #[ptr x,o.val] w (Yd l w x I s 0):=by
 obtain⟨ki,us,ro,pk,ke,st,np,od,nu⟩:=o;dsimp only at hk;subst hk;unfold zH.val zH.cells;dsimp only;obtain⟨c0,c1,c2,_⟩:=vZ h.row;obtain⟨cc,hcc⟩:=zex (#[.int .i64 20,zb us,zb ro,.int .i64 pk,zb ke,zb st,.bool np,.int .i64 od,.bool nu]);obtain⟨w1,hw1⟩:=zex (w.alloc (.cells cc 35));have hn1:za w w1:=by rw[hw1];exact(za.refl w).alloc _
 have hb0:w1.heap[w.heap.size]? =some (.cells cc 35 (0,0)):=by rw[hw1];exact zg w _
 have d1:=hn1.le _ _ c1;have d2:=hn1.le _ _ c2;have g0:w1.cell? ⟨w.heap.size,0,none⟩=some (.int .i64 20):=by rw[cell_of_row w1 _ 0 _ _ (0,0) hb0,hcc];rfl
 obtain⟨w3,hw3⟩:=zex (w1.drew.alloc (.cells #[.iface 136 (ptr I.be),.pointer none] 151));have hn3:za w1 w3:=by rw[hw3];exact((za.refl w1).drew).alloc _
 have hC:Calls prog 164 #[ptr a,.iface 149 (ptr w1.drew.heap.size)] w3 λe w'=>e=.returned (.tuple #[])/\(∃l' I' a',I'.db=I.db/\qG l w l' w'/\Wd l' w' x I' a' s)/\w'.cell? ⟨x,1,none⟩=some (.iface 136 (ptr I.be))/\w'.cell? ⟨x,2,none⟩=some (.iface 142 (ptr a)):=by
  have h3:=h.new (hn1.trans hn3);have hl0:l w1.drew.heap.size=0:=by
   by_cases e:l w1.drew.heap.size=0
   ·exact e
   ·have h1:=h.st.bnd _ e;have h2:w1.drew.heap.size=w1.heap.size:=rfl;have:=hn1.size;omega
  refine(Ga h3.st ⟨hl0,by rw[hw3];exact zg w1.drew _⟩).mono ?_;rintro e w' ⟨rfl,l',hs,ht⟩;have hd:=h3.call hs (zN.same_refl I) ht;exact⟨rfl,⟨l',I,a,rfl,(qG.new h.st.bnd (hn1.trans hn3)).trans hs.w,hd⟩,(vZ hd.row).2.1,(vZ hd.row).2.2.1⟩
 rw[hw3]at hC;have HNA:=hid (λW=>GJ (w:=W) (be:=I.be));have HC:=hid hC;have HW1:=hid hw1;have HCC:=hid hcc;have hme:=VM a;clear h hcc hn1 hb0 c0 c1 c2 hC hw3 hn3;obtain⟨ob,hob⟩:=zex (w.heap.size);rw[<-hob]at g0;go_enter func42,ntmps42;go_upto_region 2 with fail
 rw[<-HCC.out,<-HW1.out,<-hob];clear hob hw1;obtain⟨va,hva⟩:=zex (Value.agg cc);rw[<-hva];clear hva;go_wp2_with fail;go_region_held3 (λw'=>w'.cell? ⟨x,1,none⟩=some (.iface 136 (ptr I.be))/\w'.cell? ⟨x,2,none⟩=some (.iface 142 (ptr a))) (go_keep) (first|(go_at_call 40;((with_reducible refine(HNA.out _).mono ?_));rintro e w9 ⟨rfl,rfl⟩)|(go_at_call 164;refine HC.out.mono ?_;rintro e w9 ⟨rfl,hend,k1,k2⟩;have HEND:=hid hend;clear hend))
 all_goals
  go_wp2;go_returns;exact⟨rfl,HEND.out⟩
theorem QP(a:Nat)(W:World):(method 608 142 (ptr a) "UserGet").run prog W=.ok (173,ptr a) W:=by kernel_rfl
theorem zaU{w:World}{I:zN}{s:zA}(h:Wd l w x I a s)(hk:o.kind=7)(hu:s.user o.user=none)(hn:o.user.length<=1000):
  Calls prog 33 #[ptr x,o.val] w (fZ l w x I (s,⟨5,s.rev,s.on,false,[],[]⟩)):=by
 obtain⟨ki,us,ro,pk,ke,st,np,od,nu⟩:=o;dsimp only at hk hu hn;subst hk;unfold zH.val zH.cells;dsimp only;obtain⟨sx,hsx⟩:∃z,zb us=.string z:=⟨_,rfl⟩;obtain⟨T,sv,hev⟩:∃T sv,ze 5=.iface T sv:=⟨_,_,rfl⟩;obtain⟨cc,hcc⟩:=zex (#[.int .i64 7,zb us,zb ro,.int .i64 pk,zb ke,zb st,.bool np,.int .i64 od,.bool nu]);obtain⟨l1,H⟩:=yZ.start h cc;obtain⟨W0,hW0⟩:=zex (((w.alloc (.cells cc 35)).alloc (.cells qR 42)).alloc (.cells qR 42));rw[<-hW0]at H;have c2:=H.cell;have g0:W0.cell? ⟨w.heap.size,0,none⟩=some (.int .i64 7):=(H.ocell 0).trans (by rw[hcc];rfl);have g1:W0.cell? ⟨w.heap.size,1,none⟩=some (.string sx):=(H.ocell 1).trans (by rw[hcc,<-hsx];rfl);obtain⟨W1,hW1⟩:=zex ((W0.alloc (.cells #[.string sx] 92)).drew);have hnW:za W0 W1:=by rw[hW1];exact((za.refl W0).alloc _).drew
 have hz: ¬l1.some W0.heap.size:=λe=>by have:=H.wd.st.bnd _ e;omega
 have hcl:W1.cell? ⟨W0.heap.size,0,none⟩=some (zb us):=by rw[hW1,hsx];show(W0.alloc _).cell? _=_;rw[World.cell?_alloc_new];rfl
 have hC:=H.fails hnW hev (Km (H.new hnW).wd.st hu hn (rb:=W0.heap.size) (zi.2 ⟨hz,hcl⟩));rw[hW1]at hC;have HC:=hid (hC.mono λe w' hc=>(show∃v,e=.returned (.tuple #[v,.iface T sv])/\(∃l2 I2,yZ l w x I cc l2 w' I2 a s Ko jf jf)/\w'.cell? ⟨x,2,none⟩=some (.iface 142 (ptr a))/\w'.cell? ⟨w.heap.size,1,none⟩=some (.string sx)from by obtain⟨v,h1,l2,I2,h2⟩:=hc;exact⟨v,h1,⟨l2,I2,h2⟩,h2.cell,(h2.ocell 1).trans (by rw[hcc,<-hsx];rfl)⟩))
 have HEV:=hid hev;have HH:=hid H;have HW0:=hid hW0;have HCC:=hid hcc;have m1:=qd;have m2:=qw;have m3:=QP a;clear h hcc hW0 H hn hu hsx hnW hz hcl hC hW1 hev;go_enter func33,ntmps33;go_upto_region 3 with fail
 rw[<-HCC.out,<-(show qR= #[.int .i64 0,.int .u64 0,.bool false,.bool false,.slice none 0 0,.slice none 0 0]from rfl),<-HW0.out];obtain⟨va,hva⟩:=zex (Value.agg cc);obtain⟨vz,hvz⟩:=zex (Value.agg qR);rw[<-hva,<-hvz];clear hva hvz;go_wp2_with fail;go_region_held3 (λw'=>w'.cell? ⟨x,2,none⟩=some (.iface 142 (ptr a))/\w'.cell? ⟨w.heap.size,1,none⟩=some (.string sx)) (go_keep) (first|(go_at_call 173;refine HC.out.mono ?_;rintro e w9 ⟨v,rfl,hend,k2,k1x⟩;have HEND:=hid hend;clear hend))
 all_goals
  obtain⟨l2,I2,h2⟩:=HEND.out;have H2:=hid h2;clear h2 c2 g0 g1 k2 k1x HEND;obtain⟨ec,hec0⟩:∃e:Nat,e=5:=⟨_,rfl⟩;have HEC0:=hid hec0;have HEC:=hid (show ec<=15 by omega);have HEV0:=hid (show ze ec=.iface T sv from by rw[hec0];exact HEV.out);clear hec0;obtain⟨W3,hW3⟩:=zex (w9.setCell ⟨w.heap.size+1+1,0,none⟩ (.int .i64 (ec:Nat)));have h3:=H2.out.setErr (ec);rw[<-hW3]at h3;obtain⟨W4,hW4⟩:=zex (W3.setCell ⟨w.heap.size+1+1,1,none⟩ (.int .u64 (s.rev:Nat)));have h4:=h3.setRev s.rev;rw[<-hW4]at h4;obtain⟨W5,hW5⟩:=zex (W4.setCell ⟨w.heap.size+1+1,2,none⟩ (.bool s.on));have h5:=h4.setOn s.on;rw[<-hW5]at h5;have a0:=H2.out.acell 0;have z0:=H2.out.afree 0;have b0:W3.cell? ⟨w.heap.size,0,none⟩=some (.int .i64 7):=(h3.ocell 0).trans (by rw[HCC.out];rfl);have HK:=hid (show Calls prog 43 #[.iface T sv] w9 _ from by rw[<-HEV0.out];exact vq (w:=w9) HEC.out);have HR:=hid h3.rev;have HO:=hid h4.on
  have H3:=hid h3;have H4:=hid h4;have H5:=hid h5;have HW3:=hid hW3;have HW4:=hid hW4;have HW5:=hid hW5;clear h3 h4 h5 hW3 hW4 hW5;have a0:w9.cell? ⟨w.heap.size+1+1,0,none⟩=some (.int .i64 0):=a0;go_wp2_with fail;refine HK.out.mono ?_;rintro e w9 ⟨rfl,rfl⟩;go_upto_region 38 with fail
  rw[<-HW3.out];clear a0 z0;have q2:=H3.out.cell;have a1:W3.cell? ⟨w.heap.size+1+1,1,none⟩=some (.int .u64 0):=H3.out.acell 1;have z1:=H3.out.afree 1;go_wp2_with fail;refine HR.out.mono ?_;rintro e w9 ⟨rfl,rfl⟩;go_upto_region 41 with fail
  rw[<-HW4.out];clear q2 a1 z1;have q2:=H4.out.cell;have a2:W4.cell? ⟨w.heap.size+1+1,2,none⟩=some (.bool false):=H4.out.acell 2;have z2:=H4.out.afree 2;go_wp2_with fail;refine HO.out.mono ?_;rintro e w9 ⟨rfl,rfl⟩;go_upto_region 42 with fail
  rw[<-HW5.out];clear q2 a2 z2;have k0:=H5.out.acell 0;have r0:=H5.out.rcell 0;have f0:=H5.out.rfree 0;have k1:=H5.out.acell 1;have r1:=H5.out.rcell 1;have f1:=H5.out.rfree 1;have k2:=H5.out.acell 2;have r2:=H5.out.rcell 2;have f2:=H5.out.rfree 2;have k3:=H5.out.acell 3;have r3:=H5.out.rcell 3;have f3:=H5.out.rfree 3;have k4:=H5.out.acell 4;have r4:=H5.out.rcell 4;have f4:=H5.out.rfree 4;have k5:=H5.out.acell 5;have r5:=H5.out.rcell 5;have f5:=H5.out.rfree 5;simp only[xH,qR,Ko,jf,List.getElem?_toArray,List.getElem?_cons_zero,List.getElem?_cons_succ]at k0 k1 k2 k3 k4 k5 r0 r1 r2 r3 r4 r5;go_wp2;exact H5.out.leave (by rw[HEC0.out];rfl) rfl rfl
variable{u:zj}
theorem zaV{w:World}{I:zN}{s:zA}(h:Wd l w x I a s)(hk:o.kind=7)(hu:s.user o.user=some u)(hn:o.user.length<=1000):
  Calls prog 33 #[ptr x,o.val] w (fZ l w x I (s,⟨0,s.rev,s.on,false,u.roles,[]⟩)):=by
 obtain⟨ki,us,ro,pk,ke,st,np,od,nu⟩:=o;dsimp only at hk hu hn;subst hk;unfold zH.val zH.cells;dsimp only;obtain⟨sx,hsx⟩:∃z,zb us=.string z:=⟨_,rfl⟩;obtain⟨cc,hcc⟩:=zex (#[.int .i64 7,zb us,zb ro,.int .i64 pk,zb ke,zb st,.bool np,.int .i64 od,.bool nu]);obtain⟨l1,H⟩:=yZ.start h cc;obtain⟨W0,hW0⟩:=zex (((w.alloc (.cells cc 35)).alloc (.cells qR 42)).alloc (.cells qR 42));rw[<-hW0]at H;have c2:=H.cell;have g0:W0.cell? ⟨w.heap.size,0,none⟩=some (.int .i64 7):=(H.ocell 0).trans (by rw[hcc];rfl);have g1:W0.cell? ⟨w.heap.size,1,none⟩=some (.string sx):=(H.ocell 1).trans (by rw[hcc,<-hsx];rfl);obtain⟨W1,hW1⟩:=zex ((W0.alloc (.cells #[.string sx] 92)).drew);have hnW:za W0 W1:=by rw[hW1];exact((za.refl W0).alloc _).drew
 have hz: ¬l1.some W0.heap.size:=λe=>by have:=H.wd.st.bnd _ e;omega
 have hcl:W1.cell? ⟨W0.heap.size,0,none⟩=some (zb us):=by rw[hW1,hsx];show(W0.alloc _).cell? _=_;rw[World.cell?_alloc_new];rfl
 have hC:=H.names hnW (Kn (H.new hnW).wd.st hu hn (rb:=W0.heap.size) (zi.2 ⟨hz,hcl⟩));rw[hW1]at hC;have HC:=hid (hC.mono λe w' hc=>(show∃b p n c,e=.returned (.tuple #[ptr b,.nilIface])/\(∃l2 I2,yZ l w x I cc l2 w' I2 a s Ko jf jf/\Sl (im l2.some w') 1 (u.roles.map zb) (.slice p n c))/\w'.cell? ⟨b,0,none⟩=some (.slice p n c)/\w'.cell? ⟨w.heap.size+1+1,4,none⟩=some jf/\w'.frozen? ⟨w.heap.size+1+1,4,none⟩=false/\w'.cell? ⟨x,2,none⟩=some (.iface 142 (ptr a))/\w'.cell? ⟨w.heap.size,1,none⟩=some (.string sx)from by obtain⟨b,p,n,c,h1,⟨l2,I2,h2,h3⟩,h4,h5,h6⟩:=hc;exact⟨b,p,n,c,h1,⟨l2,I2,h2,h3⟩,h4,h5,h6,h2.cell,(h2.ocell 1).trans (by rw[hcc,<-hsx];rfl)⟩))
 have HH:=hid H;have HW0:=hid hW0;have HCC:=hid hcc;have m1:=qd;have m2:=qw;have m3:=QP a;clear h hcc hW0 H hn hu hsx hnW hz hcl hC hW1;go_enter func33,ntmps33;go_upto_region 3 with fail
 rw[<-HCC.out,<-(show qR= #[.int .i64 0,.int .u64 0,.bool false,.bool false,.slice none 0 0,.slice none 0 0]from rfl),<-HW0.out];obtain⟨va,hva⟩:=zex (Value.agg cc);obtain⟨vz,hvz⟩:=zex (Value.agg qR);rw[<-hva,<-hvz];clear hva hvz;go_wp2_with fail;go_region_held3 (λw'=>w'.cell? ⟨x,2,none⟩=some (.iface 142 (ptr a))/\w'.cell? ⟨w.heap.size,1,none⟩=some (.string sx)) (go_keep) (first|(go_at_call 173;refine HC.out.mono ?_;rintro e w9 ⟨b,p,n,c,rfl,hend,d0,d4,z4,k2,k1x⟩;have HEND:=hid hend;clear hend))
 all_goals
  obtain⟨l2,I2,h2,hsl⟩:=HEND.out;obtain⟨W2,hW2⟩:=zex (w9.setCell ⟨w.heap.size+1+1,4,none⟩ (.slice p n c));have h2':=h2.setNames hsl;rw[<-hW2]at h2';have H2:=hid h2';have HW2:=hid hW2;unfold jf at d4;clear h2 h2' hsl hW2 c2 g0 g1 k2 k1x HEND;go_upto_region 37 with fail
  rw[<-HW2.out];obtain⟨ec,hec0⟩:∃e:Nat,e=0:=⟨_,rfl⟩;have HEC0:=hid hec0;have HEC:=hid (show ec<=15 by omega);have HEV0:=hid (show ze ec=.nilIface from by rw[hec0];rfl);clear hec0;obtain⟨W3,hW3⟩:=zex (W2.setCell ⟨w.heap.size+1+1,0,none⟩ (.int .i64 (ec:Nat)));have h3:=H2.out.setErr (ec);rw[<-hW3]at h3;obtain⟨W4,hW4⟩:=zex (W3.setCell ⟨w.heap.size+1+1,1,none⟩ (.int .u64 (s.rev:Nat)));have h4:=h3.setRev s.rev;rw[<-hW4]at h4;obtain⟨W5,hW5⟩:=zex (W4.setCell ⟨w.heap.size+1+1,2,none⟩ (.bool s.on));have h5:=h4.setOn s.on;rw[<-hW5]at h5;have a0:=H2.out.acell 0;have z0:=H2.out.afree 0;have b0:W3.cell? ⟨w.heap.size,0,none⟩=some (.int .i64 7):=(h3.ocell 0).trans (by rw[HCC.out];rfl);have HK:=hid (show Calls prog 43 #[.nilIface] W2 _ from by rw[<-HEV0.out];exact vq (w:=W2) HEC.out);have HR:=hid h3.rev;have HO:=hid h4.on;have H3:=hid h3;have H4:=hid h4;have H5:=hid h5;have HW3:=hid hW3;have HW4:=hid hW4
  have HW5:=hid hW5;clear h3 h4 h5 hW3 hW4 hW5;have a0:W2.cell? ⟨w.heap.size+1+1,0,none⟩=some (.int .i64 0):=a0;go_wp2_with fail;refine HK.out.mono ?_;rintro e w9 ⟨rfl,rfl⟩;go_upto_region 38 with fail
  rw[<-HW3.out];clear a0 z0;have q2:=H3.out.cell;have a1:W3.cell? ⟨w.heap.size+1+1,1,none⟩=some (.int .u64 0):=H3.out.acell 1;have z1:=H3.out.afree 1;go_wp2_with fail;refine HR.out.mono ?_;rintro e w9 ⟨rfl,rfl⟩;go_upto_region 41 with fail
  rw[<-HW4.out];clear q2 a1 z1;have q2:=H4.out.cell;have a2:W4.cell? ⟨w.heap.size+1+1,2,none⟩=some (.bool false):=H4.out.acell 2;have z2:=H4.out.afree 2;go_wp2_with fail;refine HO.out.mono ?_;rintro e w9 ⟨rfl,rfl⟩;go_upto_region 42 with fail
  rw[<-HW5.out];clear q2 a2 z2;have k0:=H5.out.acell 0;have r0:=H5.out.rcell 0;have f0:=H5.out.rfree 0;have k1:=H5.out.acell 1;have r1:=H5.out.rcell 1;have f1:=H5.out.rfree 1;have k2:=H5.out.acell 2;have r2:=H5.out.rcell 2;have f2:=H5.out.rfree 2;have k3:=H5.out.acell 3;have r3:=H5.out.rcell 3;have f3:=H5.out.rfree 3;have k4:=H5.out.acell 4;have r4:=H5.out.rcell 4;have f4:=H5.out.rfree 4;have k5:=H5.out.acell 5;have r5:=H5.out.rcell 5;have f5:=H5.out.rfree 5;simp only[xH,qR,Ko,jf,List.getElem?_toArray,List.getElem?_cons_zero,List.getElem?_cons_succ]at k0 k1 k2 k3 k4 k5 r0 r1 r2 r3 r4 r5;go_wp2;exact H5.out.leave (by rw[HEC0.out];rfl) rfl rfl
end Go.Proofs.YtbmdoinjkligiaaGreat
