/- Contracts and laws that the last text joins. -/
import Derived.Test.YtbmdoinjkligiaaGreatRows
import Derived.JoinedOf
import Derived.Handed
import Derived.ChangeSame
import Derived.Carry
import Derived.Deep.Slices
import Derived.Deep.Fields
import Derived.Test.YtbmdoinjkligiaaGreatM27
set_option maxRecDepth 100000
set_option maxHeartbeats 40000000
set_option linter.all false
namespace Go.Proofs.YtbmdoinjkligiaaGreat
open Go.Proofs.Tryz Tryz
open Lib(hid)
open Go.RowKit
variable{a ec:Nat}{l:zu}{s':zA}
theorem dj{w:World}{rb:Nat}{I:zN}{s:zA}{n rn:Bytes}(h:Zk l w a I s)(hr:xC s n rn=(s',ec))(hn:n.length<=1000)(LO:rn.length<=1000)(h0:im l.some w ⟨rb,0,none⟩=some (zb n))(h1:im l.some w ⟨rb,1,none⟩=some (zb rn))
  (hf:q9 s')(hs:yA s')(RW:yA s):
  Calls prog 174 #[ptr a,ptr rb] w (VV l w a I s' ec):=by
 obtain⟨A,ab,m,lg,h⟩:=h;have r2:w.cell? ⟨a,2,none⟩=some (.iface 149 (ptr ab)):=by rw[cell_of_row w a 2 _ _ (0,0) h.row];rfl
 have r3:w.cell? ⟨a,3,none⟩=some (.bool s.on):=by rw[cell_of_row w a 3 _ _ (0,0) h.row];rfl
 have d0:=zd _ _ _ _ h0;have HB:=hid (qO h.idle h.abe);have H:=hid h;have H0:=hid h0;have HF:=hid hf;have HS:=hid hs;have sM:=hid (zr.refl h.bnd);have m1:=qK;have m2:=qw;have m3:=yd;have m4:=yU;have m5:=qY;have m6:=yN;have m7:=yo;have m8:=qZ;have d1:=zd _ _ _ _ h1;have wX:=hid RW;clear h h0 h1 hf hs RW;have NF:=root_eq rn;obtain⟨sx,Ht⟩:=zex ((⟨n.toArray⟩:ByteArray));unfold zb at d0;rw[<-Ht]at d0;have r_:=hid Ht;clear Ht;obtain⟨sr,NE⟩:=zex ((⟨rn.toArray⟩:ByteArray));unfold zb at d1;rw[<-NE]at d1 NF;have TS:=hid NE;clear NE;obtain⟨o,ho⟩:∃o,s.user n=o:=⟨_,rfl⟩;unfold xC at hr;rw[ho]at hr;have RU:=hid (show qT zj.name s.users n=o from ho);have rX:=hid hr;have LG:=hid NF;clear ho hr NF;go_enter_defers func174,ntmps174;go_wp2_with fail;refine HB.out.mono ?_;rintro e w1 ⟨x,rfl,hQ,hx,pH⟩;have h1:=H.out.new hQ;have HL:=hid (jg h1.idle pH);have hd:za w1 w1.drew:=(za.refl w1).drew
 have j0:=hQ.le _ _ d0;have j1:=hQ.le _ _ d1;have SI:=(h1.new hd).mid (pH.new hd);have Pm:=hid (UT h1.fine h1.kv (h1.idle.new hd) (pH.new hd) hn);have H1:=hid (h1.new hd);have Hs:=hid (show za w w1.drew from hQ.drew);have Hy:=hid SI;unfold zb at Pm;rw[<-r_.out]at Pm;clear h1 hQ pH hd SI;go_wp2_with fail;refine HL.out.mono ?_;rintro e w2 ⟨rfl,rfl⟩;rw[RU.out]at Pm;go_upto_region 4 with fail
 go_cut [7]from 19 to 27 (λc wx=>za w1.drew wx/\j8 w1.drew wx (.returned c) o)
 case first=>
  refine wp_region_noPanic ?_;go_region_with (refine Pm.out.mono ?_;rintro e w2 ⟨r,rfl,Hj,H9⟩;have Hu:=hid (And.intro Hj H9);clear Hj H9)
  all_goals refine NoPanic.normal ?_
  all_goals
   go_wp2_with fail;go_meet;exact Hu.out
 case rest=>
  obtain⟨Hj,H9⟩:=hcut;obtain⟨w2,PO⟩:=zex (wc);rw[<-PO]at Hj H9⊢;clear PO;have hi:=ye x;have Pf:=hid Hj;cases o with
  |none=>
   have r7:=Pf;cases H9;obtain⟨rfl,rfl⟩:s=s'/\5=ec:=by have:=rX.out;cases this;exact⟨rfl,rfl⟩
   clear Hj;have nN:=hid (Hy.out.new r7.out);have Tu:=hid (zr.new H1.out.bnd r7.out);go_wp2;refine leaves_cons (f:=261) (args:= #[ptr x]) (by simp) (hi _) ?_;refine(qr nN.out.tx (by decide) qH nN.out.atx).mono ?_;rintro e u' w'' ⟨rfl,rfl,l3,I3,Pa,Pc,rY⟩;exact⟨_,results_tmp2 rfl _ _ _,_,rfl,l3,I3,Pc,((zr.new H.out.bnd Hs.out).trans Tu.out).trans Pa.s,_,_,_,_,(H1.out.new r7.out).moved Pa Pc rY⟩
  |some u=>
   obtain⟨b,wm,nv,rv,ov,he,pD,rO,rF⟩:=H9;cases he;have cX:=hid rF;have Cw:=hid pD;have Lz:=hid rO;have Lc:=qg H.out.fine.us RU.out;have md:=hid (H.out.fine.uok u Lc);have RC:=hid (wX.out.ur u Lc);have e1:=Hj.le _ _ j1;have tD:=hid (show(if rn≠zL/\s.role rn=none then (s,7)else if rn∈u.roles then (s,0)else (s.putUser ⟨u.name,vW u.roles rn⟩,0))=(s',ec)from rX.out);clear pD rO rF Lc Hj;by_cases c1:rn=zL
   ·have pB:(sr.toList==[114,111,111,116])=true:=by rw[LG.out];exact decide_eq_true c1
    have rU:(sr.toList !=[114,111,111,116])=false:=by rw[bne,pB];rfl
    have Eb:=hid (show(if rn∈u.roles then (s,0)else (s.putUser ⟨u.name,vW u.roles rn⟩,0))=(s',ec) by have:=tD.out;rw[if_neg λe=>e.1 c1]at this;exact this);go_upto_region 11 with fail
    obtain⟨w3,pu⟩:=zex (w2);have Rb:Hid (za w1.drew w3):=by rw[pu];exact Pf
    have mV:Hid (Ye wm w3 b (u.name,u.roles,true) nv rv ov):=by rw[pu];exact cX
    rw[<-pu];have Tg:=hid c1;clear e1 pB rU pu j0 j1 c1;have Ld:=mV.out;obtain⟨rp,rn3,rc,rfl⟩:=(Sl.of_own Ld.own).shape;obtain⟨x0,x1,x2,x3,y0,y1,y2,y3⟩:=kX Ld.row;have RL:u.roles.length=rn3:=by have:=(Sl.of_own Ld.own).row.1;rw[List.length_map]at this;exact this
    have q1:=za.le Rb.out _ _ (za.le Hs.out _ _ d1);have nD:za w3 w3.drew:=(za.refl w3).drew;have MA:=vE (w:=w3.drew) (r:=w3.cell?) (xs:=u.roles) (x:=rn) (za.le nD) (Sl.of_own Ld.own) RC.out (by have:=md.out.roles;omega);obtain⟨pl,pS⟩:∃pl,zk u.roles rn=pl:=⟨_,rfl⟩;unfold zb at MA;rw[<-TS.out,pS]at MA;have Ec:=hid MA;have ru:=hid pS;have RM:=hid RL;clear Ld RL nD MA pS;go_wp2_with fail;go_cut [9]from 48 to 56 (λc wx=>c=.int .i64 pl/\za w3 wx)
    case first=>
     refine wp_region_noPanic ?_;go_region_with (refine Ec.out.mono ?_;rintro e w4 ⟨rfl,Rh⟩;have Te:=hid Rh;clear Rh)
     all_goals refine NoPanic.normal ?_
     all_goals
      go_wp2_with fail;go_meet;exact⟨rfl,za.trans (za.refl w3).drew Te.out⟩
    case rest=>
     obtain⟨rfl,Ty⟩:=hcut;obtain⟨w4,So⟩:=zex (wc);rw[<-So]at Ty⊢;clear So;have tN:=hid (mV.out.new Ty);have Le:=hid (Rb.out.trans Ty);clear x0 x1 x2 x3 y0 y1 y2 y3 q1 Ty;obtain⟨x0,x1,x2,x3,y0,y1,y2,y3⟩:=kX tN.out.row;have q1:=za.le Le.out _ _ (za.le Hs.out _ _ d1);go_upto_region 12 with fail
     go_cut [77]from 57 to 77 (λc wx=>za w4 wx/\c=.bool (decide (rn∈u.roles)))
     case first=>
      by_cases Hb:pl<u.roles.length
      ·obtain⟨pZ,NZ,tT,⟨gb,go,rfl,PQ⟩|h0⟩:=(Sl.of_own tN.out.own).row
       case inr=>exact absurd h0 (by have:=RM.out;omega)
       have ck:=PQ pl (by rw[List.length_map];exact Hb);rw[List.getElem_map]at ck;obtain⟨y,hy⟩:∃y,u.roles[pl]=y:=⟨_,rfl⟩;rw[hy]at ck;have Hf:decide (rn∈u.roles)=decide (y=rn):=by rw[decide_eq_decide,<-kT RC.out];unfold zx;rw[ru.out,List.getElem?_eq_getElem Hb,hy];simp
       have PI:((⟨y.toArray⟩:ByteArray).toList==sr.toList)=decide (y=rn):=by rw[TS.out,ByteArray.toList_eq,ByteArray.toList_eq,Bool.eq_iff_iff];simp
       unfold zb at ck;obtain⟨sy,Nw⟩:=zex ((⟨y.toArray⟩:ByteArray));rw[<-Nw]at ck PI;have SX:(pl:Int)<rn3:=by have:=RM.out;omega
       have iz:decide ((pl:Int)<rn3)=true:=decide_eq_true SX;obtain⟨dd,TT⟩:∃dd,decide (y=rn)=dd:=⟨_,rfl⟩;rw[TT]at PI Hf;have Nf:=hid Hf;clear pZ PQ hy Hf Nw Hb TT;go_wp2;go_quiet (fail);go_wp2;go_meet;exact⟨(za.refl w4).drewN nq,by first|(rw[Nf.out];done)|(rw[Nf.out,PI];done)|(rw[Nf.out];simp[PI])⟩
      ·have Hf:decide (rn∈u.roles)=false:=by
        refine decide_eq_false ?_;rw[<-kT RC.out];unfold zx;rw[ru.out,List.getElem?_eq_none (by omega)];simp
       have Nf:=hid Hf;have SX: ¬(pl:Int)<rn3:=by have:=RM.out;omega
       have iz:decide ((pl:Int)<rn3)=false:=decide_eq_false SX;have MC:decide (pl<rn3)=false:=decide_eq_false (by omega);clear Hf Hb SX;go_wp2;go_quiet (fail);go_wp2;go_meet;exact⟨(za.refl w4).drewN nq,by rw[Nf.out]⟩
     case rest=>
      obtain⟨pz,rfl⟩:=hcut;have r7:=hid (Le.out.trans pz);have RT:=hid (tN.out.new pz);clear x0 x1 x2 x3 y0 y1 y2 y3 q1 pz;by_cases Hf:rn∈u.roles
      ·rw[decide_eq_true Hf];obtain⟨rfl,rfl⟩:s=s'/\0=ec:=by
        have h9:=Eb.out;rw[if_pos Hf]at h9;cases h9;exact⟨rfl,rfl⟩
       have td:=hid (λo=>r7.out.trans ((za.refl _).alloc o));go_wp2;refine leaves_cons (f:=261) (args:= #[ptr x]) (by simp) (hi _) ?_;refine(qr (Hy.out.new (td.out _)).tx (by decide) qH (Hy.out.new (td.out _)).atx).mono ?_;rintro e u' w'' ⟨rfl,rfl,l3,I3,Pa,Pc,rY⟩;exact⟨_,results_tmp2 rfl _ _ _,_,rfl,l3,I3,Pc,((zr.new H.out.bnd Hs.out).trans (zr.new H1.out.bnd (td.out _))).trans Pa.s,_,_,_,_,(H1.out.new (td.out _)).moved Pa Pc rY⟩
      ·rw[decide_eq_false Hf];obtain⟨rfl,rfl⟩:s.putUser ⟨u.name,vW u.roles rn⟩=s'/\0=ec:=by
        have h9:=Eb.out;rw[if_neg Hf]at h9;cases h9;exact⟨rfl,rfl⟩
       obtain⟨x0,x1,x2,x3,y0,y1,y2,y3⟩:=kX RT.out.row;have q1:=za.le r7.out _ _ (za.le Hs.out _ _ d1);have x2a:∀ob,(wc.alloc ob).drew.cell? ⟨b,2,none⟩=some (.slice rp rn3 rc):=λob=>za.le (((za.refl wc).alloc ob).drew) _ _ x2;have SR:Hid (((u.roles.map zb).length+[Value.string sr].length)*(16+1)<=140737488355328):=hid (by have:=md.out.roles;rw[List.length_map,List.length_singleton];omega)
       have Lf:Value.string sr=zb rn:=by rw[TS.out];rfl
       have Bw:=hid Lf;have lY:=hid Hf;clear Hf Lf;go_wp2_with fail;refine wp_region_noPanic ?_;go_region_law (refine Zg xS rfl rfl (Zb (World.ownsRow.alloc (qJ RT.out.own 0 (Nat.zero_le _)) _)) rfl rfl (news:=[.string sr]) (Sl.drew (Sl.made wc [.string sr] _ 1 1 rfl (by decide))) YM SR.out ?_;intro v5 w5 ho hg PU;rw[Bw.out]at ho;obtain⟨p7,n7,c7,rfl⟩:=(Sl.of_own ho).shape;obtain⟨pe,nI⟩:=RT.out.app Lz.out ho hg PU;obtain⟨_,_,z2,_,_,_,z2f,_⟩:=kX pe;have tI:=hid nI;clear ho hg PU pe nI)
       all_goals refine NoPanic.normal ?_
       all_goals
        obtain⟨W6,Cy⟩:=zex (w5.setCell ⟨b,2,none⟩ (.slice p7 n7 c7));rw[<-Cy]at tI⊢;have Lg:Ye wm W6 b (u.name,u.roles++[rn],true) nv (.slice p7 n7 c7) ov:=tI.out;have bj:=hid (XX Lg Lz.out RC.out lY.out (by have:=md.out.roles;omega));obtain⟨_,_,z2w,_⟩:=kX tI.out.row;clear Lg Cy z2 z2f x0 x1 x2 x3 y0 y1 y2 y3 q1;go_wp2_with fail;refine bj.out.mono ?_;rintro e w7 ⟨rfl,L7⟩;have pq:za w1.drew w7:=zq.back Pf.out cX.out.mod L7.mod Cw.out Lz.out;have pO:y9 (im l.some w7) b ⟨u.name,vW u.roles rn⟩:=L7.at λj hj=>by have:=H1.out.bnd j hj;have:=Cw.out;have:=Lz.out;omega
        have pA:=HF.out;have sA:q9 {s with users:=yO zj.name s.users ⟨u.name,vW u.roles rn⟩}:=⟨pA.us,pA.rs,pA.uok,pA.rok,pA.ul,pA.rl,H.out.fine.rev⟩;have PH:jv ⟨u.name,vW u.roles rn⟩:=pA.uok _ ((qx H.out.fine.us).2 (Or.inl rfl));have sC:=hid (vS (Hy.out.new pq) (by decide) (by decide) pO PH sA);have sY:=hid ((zr.new H.out.bnd Hs.out).trans (zr.new H1.out.bnd pq));have Rl:=hid (show s.rev+1<200 from pA.rev);clear pq pO pA sA PH L7 z2w;go_wp2_with fail;refine sC.out.mono ?_;rintro e w4' ⟨rfl,l4,PV,pP⟩;have Sx:=hid (sY.out.trans PV.s);have tL:=hid (yB pP (by decide) (by simp[ku,jJ]) Rl.out);clear PV pP;go_wp2_with fail;refine tL.out.mono ?_;rintro e w5 ⟨rfl,l5,A5,pC,pr⟩;have P8:=hid (Sx.out.trans pC);have tF:=hid (qW pr HS.out);clear pC pr;go_wp2_with fail;refine tF.out.mono ?_;rintro e w6 ⟨rfl,l6,m6,PC,PP,R_⟩;have sP:=hid (P8.out.trans PC);have Po:=hid (And.intro PP R_);clear PC PP R_
        go_wp2;have P2:∀o,za w6 (w6.alloc o):=λo=>(za.refl w6).alloc o;refine leaves_cons (f:=261) (args:= #[ptr x]) (by simp) (hi _) ?_;refine(yG (Po.out.1.new (P2 _)) HS.out (Po.out.2.step Po.out.1.bnd (zr.new Po.out.1.bnd (P2 _))) (by decide) (jT (by decide) _)).mono ?_;rintro e u' w'' ⟨rfl,rfl,l7,I7,tM,ri,rB⟩;exact⟨_,results_tmp2 rfl _ _ _,_,rfl,l7,I7,tM,(sP.out.trans (zr.new Po.out.1.bnd (P2 _))).trans ri,rB⟩
   ·have pB:(sr.toList==[114,111,111,116])=false:=by rw[LG.out];exact decide_eq_false c1
    have rU:(sr.toList !=[114,111,111,116])=true:=by rw[bne,pB];rfl
    have Pe:za w2 w2.drew:=(za.refl w2).drew;have iA:=hid (ZQ H1.out.fine H1.out.kv (Hy.out.new (Pf.out.trans Pe)).tx (Hy.out.new (Pf.out.trans Pe)).atx LO);unfold zb at iA;rw[<-TS.out]at iA;obtain⟨q,hq⟩:∃q,s.role rn=q:=⟨_,rfl⟩;have NT:qT zm.name s.roles rn=q:=hq;rw[NT]at iA;have ry:(if q=none then (s,7)else if rn∈u.roles then (s,0)else (s.putUser ⟨u.name,vW u.roles rn⟩,0))=(s',ec):=by
     have h9:=tD.out;rw[hq]at h9;by_cases e:q=none
     ·rw[if_pos ⟨c1,e⟩]at h9;rw[if_pos e];exact h9
     ·rw[if_neg λe2=>e e2.2]at h9;rw[if_neg e];exact h9
    have Nn:=hid ry;clear ry;clear Pe hq NT;go_upto_region 8 with fail
    go_cut [8]from 36 to 44 (λc wx=>za w2.drew wx/\jL w2.drew wx (.returned c) q)
    case first=>
     refine wp_region_noPanic ?_;go_region_with (refine iA.out.mono ?_;rintro e w3 ⟨r3,rfl,Hg,NO⟩;have Ed:=hid (And.intro Hg NO);clear Hg NO)
     all_goals refine NoPanic.normal ?_
     all_goals
      go_wp2_with fail;go_meet;exact Ed.out
    case rest=>
     obtain⟨Hg,NO⟩:=hcut;obtain⟨w3,pu⟩:=zex (wc);rw[<-pu]at Hg NO⊢;clear pu;have cl:za w2 w3:=za.trans (za.refl w2).drew Hg;have Rb:=hid (Pf.out.trans cl);have mV:=hid (cX.out.new cl);cases q with
     |none=>
      cases NO;have r7:=Rb;obtain⟨rfl,rfl⟩:s=s'/\7=ec:=by have:=Nn.out;rw[if_pos rfl]at this;cases this;exact⟨rfl,rfl⟩
      clear e1 pB rU j0 j1 Hg cl;have nN:=hid (Hy.out.new r7.out);have Tu:=hid (zr.new H1.out.bnd r7.out);go_wp2;refine leaves_cons (f:=261) (args:= #[ptr x]) (by simp) (hi _) ?_;refine(qr nN.out.tx (by decide) qH nN.out.atx).mono ?_;rintro e u' w'' ⟨rfl,rfl,l3,I3,Pa,Pc,rY⟩;exact⟨_,results_tmp2 rfl _ _ _,_,rfl,l3,I3,Pc,((zr.new H.out.bnd Hs.out).trans Tu.out).trans Pa.s,_,_,_,_,(H1.out.new r7.out).moved Pa Pc rY⟩
     |some r4=>
      obtain⟨b3,wm3,nv3,rv3,ids3,OO,_⟩:=NO;cases OO;have Eb:=hid (show(if rn∈u.roles then (s,0)else (s.putUser ⟨u.name,vW u.roles rn⟩,0))=(s',ec) by have:=Nn.out;rw[if_neg (by simp)]at this;exact this);clear e1 pB rU j0 j1 Hg cl;go_upto_region 11 with fail
      have Ld:=mV.out;obtain⟨rp,rn3,rc,rfl⟩:=(Sl.of_own Ld.own).shape;obtain⟨x0,x1,x2,x3,y0,y1,y2,y3⟩:=kX Ld.row;have RL:u.roles.length=rn3:=by have:=(Sl.of_own Ld.own).row.1;rw[List.length_map]at this;exact this
      have q1:=za.le Rb.out _ _ (za.le Hs.out _ _ d1);have nD:za w3 w3.drew:=(za.refl w3).drew;have MA:=vE (w:=w3.drew) (r:=w3.cell?) (xs:=u.roles) (x:=rn) (za.le nD) (Sl.of_own Ld.own) RC.out (by have:=md.out.roles;omega);obtain⟨pl,pS⟩:∃pl,zk u.roles rn=pl:=⟨_,rfl⟩;unfold zb at MA;rw[<-TS.out,pS]at MA;have Ec:=hid MA;have ru:=hid pS;have RM:=hid RL;clear Ld RL nD MA pS;go_wp2_with fail;go_cut [9]from 48 to 56 (λc wx=>c=.int .i64 pl/\za w3 wx)
      case first=>
       refine wp_region_noPanic ?_;go_region_with (refine Ec.out.mono ?_;rintro e w4 ⟨rfl,Rh⟩;have Te:=hid Rh;clear Rh)
       all_goals refine NoPanic.normal ?_
       all_goals
        go_wp2_with fail;go_meet;exact⟨rfl,za.trans (za.refl w3).drew Te.out⟩
      case rest=>
       obtain⟨rfl,Ty⟩:=hcut;obtain⟨w4,So⟩:=zex (wc);rw[<-So]at Ty⊢;clear So;have tN:=hid (mV.out.new Ty);have Le:=hid (Rb.out.trans Ty);clear x0 x1 x2 x3 y0 y1 y2 y3 q1 Ty;obtain⟨x0,x1,x2,x3,y0,y1,y2,y3⟩:=kX tN.out.row;have q1:=za.le Le.out _ _ (za.le Hs.out _ _ d1);go_upto_region 12 with fail
       go_cut [77]from 57 to 77 (λc wx=>za w4 wx/\c=.bool (decide (rn∈u.roles)))
       case first=>
        by_cases Hb:pl<u.roles.length
        ·obtain⟨pZ,NZ,tT,⟨gb,go,rfl,PQ⟩|h0⟩:=(Sl.of_own tN.out.own).row
         case inr=>exact absurd h0 (by have:=RM.out;omega)
         have ck:=PQ pl (by rw[List.length_map];exact Hb);rw[List.getElem_map]at ck;obtain⟨y,hy⟩:∃y,u.roles[pl]=y:=⟨_,rfl⟩;rw[hy]at ck;have Hf:decide (rn∈u.roles)=decide (y=rn):=by rw[decide_eq_decide,<-kT RC.out];unfold zx;rw[ru.out,List.getElem?_eq_getElem Hb,hy];simp
         have PI:((⟨y.toArray⟩:ByteArray).toList==sr.toList)=decide (y=rn):=by rw[TS.out,ByteArray.toList_eq,ByteArray.toList_eq,Bool.eq_iff_iff];simp
         unfold zb at ck;obtain⟨sy,Nw⟩:=zex ((⟨y.toArray⟩:ByteArray));rw[<-Nw]at ck PI;have SX:(pl:Int)<rn3:=by have:=RM.out;omega
         have iz:decide ((pl:Int)<rn3)=true:=decide_eq_true SX;obtain⟨dd,TT⟩:∃dd,decide (y=rn)=dd:=⟨_,rfl⟩;rw[TT]at PI Hf;have Nf:=hid Hf;clear pZ PQ hy Hf Nw Hb TT;go_wp2;go_quiet (fail);go_wp2;go_meet;exact⟨(za.refl w4).drewN nq,by first|(rw[Nf.out];done)|(rw[Nf.out,PI];done)|(rw[Nf.out];simp[PI])⟩
        ·have Hf:decide (rn∈u.roles)=false:=by
          refine decide_eq_false ?_;rw[<-kT RC.out];unfold zx;rw[ru.out,List.getElem?_eq_none (by omega)];simp
         have Nf:=hid Hf;have SX: ¬(pl:Int)<rn3:=by have:=RM.out;omega
         have iz:decide ((pl:Int)<rn3)=false:=decide_eq_false SX;have MC:decide (pl<rn3)=false:=decide_eq_false (by omega);clear Hf Hb SX;go_wp2;go_quiet (fail);go_wp2;go_meet;exact⟨(za.refl w4).drewN nq,by rw[Nf.out]⟩
       case rest=>
        obtain⟨pz,rfl⟩:=hcut;have r7:=hid (Le.out.trans pz);have RT:=hid (tN.out.new pz);clear x0 x1 x2 x3 y0 y1 y2 y3 q1 pz;by_cases Hf:rn∈u.roles
        ·rw[decide_eq_true Hf];obtain⟨rfl,rfl⟩:s=s'/\0=ec:=by
          have h9:=Eb.out;rw[if_pos Hf]at h9;cases h9;exact⟨rfl,rfl⟩
         have td:=hid (λo=>r7.out.trans ((za.refl _).alloc o));go_wp2;refine leaves_cons (f:=261) (args:= #[ptr x]) (by simp) (hi _) ?_;refine(qr (Hy.out.new (td.out _)).tx (by decide) qH (Hy.out.new (td.out _)).atx).mono ?_;rintro e u' w'' ⟨rfl,rfl,l3,I3,Pa,Pc,rY⟩;exact⟨_,results_tmp2 rfl _ _ _,_,rfl,l3,I3,Pc,((zr.new H.out.bnd Hs.out).trans (zr.new H1.out.bnd (td.out _))).trans Pa.s,_,_,_,_,(H1.out.new (td.out _)).moved Pa Pc rY⟩
        ·rw[decide_eq_false Hf];obtain⟨rfl,rfl⟩:s.putUser ⟨u.name,vW u.roles rn⟩=s'/\0=ec:=by
          have h9:=Eb.out;rw[if_neg Hf]at h9;cases h9;exact⟨rfl,rfl⟩
         obtain⟨x0,x1,x2,x3,y0,y1,y2,y3⟩:=kX RT.out.row;have q1:=za.le r7.out _ _ (za.le Hs.out _ _ d1);have x2a:∀ob,(wc.alloc ob).drew.cell? ⟨b,2,none⟩=some (.slice rp rn3 rc):=λob=>za.le (((za.refl wc).alloc ob).drew) _ _ x2;have SR:Hid (((u.roles.map zb).length+[Value.string sr].length)*(16+1)<=140737488355328):=hid (by have:=md.out.roles;rw[List.length_map,List.length_singleton];omega)
         have Lf:Value.string sr=zb rn:=by rw[TS.out];rfl
         have Bw:=hid Lf;have lY:=hid Hf;clear Hf Lf;go_wp2_with fail;refine wp_region_noPanic ?_;go_region_law (refine Zg xS rfl rfl (Zb (World.ownsRow.alloc (qJ RT.out.own 0 (Nat.zero_le _)) _)) rfl rfl (news:=[.string sr]) (Sl.drew (Sl.made wc [.string sr] _ 1 1 rfl (by decide))) YM SR.out ?_;intro v5 w5 ho hg PU;rw[Bw.out]at ho;obtain⟨p7,n7,c7,rfl⟩:=(Sl.of_own ho).shape;obtain⟨pe,nI⟩:=RT.out.app Lz.out ho hg PU;obtain⟨_,_,z2,_,_,_,z2f,_⟩:=kX pe;have tI:=hid nI;clear ho hg PU pe nI)
         all_goals refine NoPanic.normal ?_
         all_goals
          obtain⟨W6,Cy⟩:=zex (w5.setCell ⟨b,2,none⟩ (.slice p7 n7 c7));rw[<-Cy]at tI⊢;have Lg:Ye wm W6 b (u.name,u.roles++[rn],true) nv (.slice p7 n7 c7) ov:=tI.out;have bj:=hid (XX Lg Lz.out RC.out lY.out (by have:=md.out.roles;omega));obtain⟨_,_,z2w,_⟩:=kX tI.out.row;clear Lg Cy z2 z2f x0 x1 x2 x3 y0 y1 y2 y3 q1;go_wp2_with fail;refine bj.out.mono ?_;rintro e w7 ⟨rfl,L7⟩;have pq:za w1.drew w7:=zq.back Pf.out cX.out.mod L7.mod Cw.out Lz.out;have pO:y9 (im l.some w7) b ⟨u.name,vW u.roles rn⟩:=L7.at λj hj=>by have:=H1.out.bnd j hj;have:=Cw.out;have:=Lz.out;omega
          have pA:=HF.out;have sA:q9 {s with users:=yO zj.name s.users ⟨u.name,vW u.roles rn⟩}:=⟨pA.us,pA.rs,pA.uok,pA.rok,pA.ul,pA.rl,H.out.fine.rev⟩;have PH:jv ⟨u.name,vW u.roles rn⟩:=pA.uok _ ((qx H.out.fine.us).2 (Or.inl rfl));have sC:=hid (vS (Hy.out.new pq) (by decide) (by decide) pO PH sA);have sY:=hid ((zr.new H.out.bnd Hs.out).trans (zr.new H1.out.bnd pq));have Rl:=hid (show s.rev+1<200 from pA.rev);clear pq pO pA sA PH L7 z2w;go_wp2_with fail;refine sC.out.mono ?_;rintro e w4' ⟨rfl,l4,PV,pP⟩;have Sx:=hid (sY.out.trans PV.s);have tL:=hid (yB pP (by decide) (by simp[ku,jJ]) Rl.out);clear PV pP;go_wp2_with fail;refine tL.out.mono ?_;rintro e w5 ⟨rfl,l5,A5,pC,pr⟩;have P8:=hid (Sx.out.trans pC);have tF:=hid (qW pr HS.out);clear pC pr;go_wp2_with fail;refine tF.out.mono ?_;rintro e w6 ⟨rfl,l6,m6,PC,PP,R_⟩;have sP:=hid (P8.out.trans PC);have Po:=hid (And.intro PP R_);clear PC PP R_
          go_wp2;have P2:∀o,za w6 (w6.alloc o):=λo=>(za.refl w6).alloc o;refine leaves_cons (f:=261) (args:= #[ptr x]) (by simp) (hi _) ?_;refine(yG (Po.out.1.new (P2 _)) HS.out (Po.out.2.step Po.out.1.bnd (zr.new Po.out.1.bnd (P2 _))) (by decide) (jT (by decide) _)).mono ?_;rintro e u' w'' ⟨rfl,rfl,l7,I7,tM,ri,rB⟩;exact⟨_,results_tmp2 rfl _ _ _,_,rfl,l7,I7,tM,(sP.out.trans (zr.new Po.out.1.bnd (P2 _))).trans ri,rB⟩
theorem zbU{w:World}{n:Bytes}:Calls prog 25 #[zb n] w (W8 w λb=>b=decide (n.length<=64)):=by unfold zb;go_enter func25,ntmps25;go_wp2;go_returns;refine⟨_,rfl,rfl,?_⟩;show decide ((n.length:Int)<=64)=_;rw[decide_eq_decide];omega
theorem DS{w:World}{k e:Bytes}:Calls prog 27 #[zb k,zb e] w (W8 w λb=>b=zU k e):=by
 unfold zb;go_enter func27,ntmps27;go_wp2
 all_goals
  go_returns;refine⟨_,rfl,rfl,?_⟩;unfold zU
  first|(simp[*,jh];done)|(show _=_;rw[jh,Bool.eq_iff_iff];simp[*,List.isEmpty_iff])
theorem zaP(n:Bytes):∃b,(∀W,Calls prog 25 #[zb n] W λe w'=>e=.returned (.bool b)/\W=w')/\zdC n b:=by refine⟨decide (n.length<=64),λW=>zbU.mono ?_,λe=>of_decide_eq_true e⟩;rintro e w' ⟨b,rfl,rfl,rfl⟩;exact⟨rfl,rfl⟩
theorem zaQ{w:World}{k e:Bytes}{b:Bool}(hb:b=zU k e):Calls prog 27 #[zb k,zb e] w λe w'=>e=.returned (.bool b)/\w=w':=by rw[hb];refine DS.mono ?_;rintro e w' ⟨b,rfl,rfl,rfl⟩;exact⟨rfl,rfl⟩
structure qE.good(p:qE):Prop where
 kind:0<=p.kind/\p.kind<=2
 key:p.key.length<=64
 stop:p.stop.length<=64
 range:zU p.key p.stop=true
structure zbV(l:List qE):Prop where
 good:∀p∈l,p.good
 len:l.length<=12
def DT(l:List qE)(b:Bool):Prop:=b=true->zbV l
variable{k:Nat}
theorem Ga{l:List qE}(h:k<l.length)(h1:∀o∈l.take k,o.good)(h2:l[k].good):∀o∈l.take (k+1),o.good:=by
 intro o ho;rw[List.take_succ_eq_append_getElem h]at ho;rcases List.mem_append.1 ho with e|e
 ·exact h1 o e
 ·rw[List.mem_singleton]at e;rw[e];exact h2
variable{v:Value}
theorem zdm{w:World}{l:List qE}(h:Y2 w.cell? l v):Calls prog 23 #[v] w (Do w (DT l)):=by
 obtain⟨p,c,rfl,mO,hc,hp⟩:=kw.shape yP (by decide) h;have HP:=hid hp;have H:=hid h;obtain⟨n,hn⟩:=zex (l.length);rw[<-hn]at mO⊢;have HN:=hid hn;clear h hp hn;go_enter func23,ntmps23;go_wp2;go_loopw [7] (λi wr=>∃k:Nat,k<=n/\i=.int .i64 k/\za w wr/\∀o∈l.take k,o.good) (λi _=>n-(intOf i).toNat)
 case atStart=>exact⟨0,Nat.zero_le _,rfl,za.refl w,λo ho=>by cases ho⟩
 case round=>
  obtain⟨k,hk,rfl,sS,He⟩:=hrel;by_cases Hb:k<n
  ·have pE:k<l.length:=by rw[<-HN.out];exact Hb
   obtain⟨b,o,rfl⟩:=HP.out (xr pE);obtain⟨d0,d1,d2⟩:=Vv (kw.range yP (H.out.mono sS.le) pE);obtain⟨ke,e1⟩:∃z,zb l[k].key=.string z:=⟨_,rfl⟩;obtain⟨st,e2⟩:∃z,zb l[k].stop=.string z:=⟨_,rfl⟩;obtain⟨bk,hK,Rk⟩:=zaP l[k].key;obtain⟨be,hE,he⟩:=zaP l[k].stop;obtain⟨bv,mt⟩:=zex (zU l[k].key l[k].stop);have hV:=λW=>zaQ (w:=W) mt;obtain⟨ki,Lw⟩:=zex (l[k].kind);have R7:0<=ki->ki<=2->bk=true->be=true->bv=true->l[k].good:=λq1 q2 q3 q4 q5=>
    ⟨by rw[<-Lw];exact⟨q1,q2⟩,Rk q3,he q4,by rw[<-mt];exact q5⟩
   have TE:=hid sS;have Hu:=hid He;have HGD:=hid R7;rw[e1]at d1 hK hV;rw[e2]at d2 hE hV;rw[<-Lw]at d0;have HK:=hid hK;have HE:=hid hE;have HV:=hid hV;clear sS He e1 e2 hK hE hV Rk he mt Lw R7;by_cases c1:ki<0
   ·have t1:decide (ki<0)=true:=by simp;omega
    go_wp2_with (first|((with_reducible refine(HK.out _).mono ?_);rintro e w2 ⟨rfl,rfl⟩)|((with_reducible refine(HE.out _).mono ?_);rintro e w2 ⟨rfl,rfl⟩)|((with_reducible refine(HV.out _).mono ?_);rintro e w2 ⟨rfl,rfl⟩));go_returns;exact⟨false,rfl,TE.out.alloc _,λe=>by cases e⟩
   have t1:decide (ki<0)=false:=by simp;omega
   by_cases c2:2<ki
   ·have t2:decide (2<ki)=true:=by simp;omega
    go_wp2_with (first|((with_reducible refine(HK.out _).mono ?_);rintro e w2 ⟨rfl,rfl⟩)|((with_reducible refine(HE.out _).mono ?_);rintro e w2 ⟨rfl,rfl⟩)|((with_reducible refine(HV.out _).mono ?_);rintro e w2 ⟨rfl,rfl⟩));go_returns;exact⟨false,rfl,TE.out.alloc _,λe=>by cases e⟩
   have t2:decide (2<ki)=false:=by simp;omega
   cases bk
   ·skip
    go_wp2_with (first|((with_reducible refine(HK.out _).mono ?_);rintro e w2 ⟨rfl,rfl⟩)|((with_reducible refine(HE.out _).mono ?_);rintro e w2 ⟨rfl,rfl⟩)|((with_reducible refine(HV.out _).mono ?_);rintro e w2 ⟨rfl,rfl⟩));go_returns;exact⟨false,rfl,TE.out.alloc _,λe=>by cases e⟩
   cases be
   ·skip
    go_wp2_with (first|((with_reducible refine(HK.out _).mono ?_);rintro e w2 ⟨rfl,rfl⟩)|((with_reducible refine(HE.out _).mono ?_);rintro e w2 ⟨rfl,rfl⟩)|((with_reducible refine(HV.out _).mono ?_);rintro e w2 ⟨rfl,rfl⟩));go_returns;exact⟨false,rfl,TE.out.alloc _,λe=>by cases e⟩
   cases bv
   ·skip
    go_wp2_with (first|((with_reducible refine(HK.out _).mono ?_);rintro e w2 ⟨rfl,rfl⟩)|((with_reducible refine(HE.out _).mono ?_);rintro e w2 ⟨rfl,rfl⟩)|((with_reducible refine(HV.out _).mono ?_);rintro e w2 ⟨rfl,rfl⟩));go_returns;exact⟨false,rfl,TE.out.alloc _,λe=>by cases e⟩
   go_wp2_with (first|((with_reducible refine(HK.out _).mono ?_);rintro e w2 ⟨rfl,rfl⟩)|((with_reducible refine(HE.out _).mono ?_);rintro e w2 ⟨rfl,rfl⟩)|((with_reducible refine(HV.out _).mono ?_);rintro e w2 ⟨rfl,rfl⟩));go_roundw
   case rel=>exact⟨k+1,by omega,by go_num,TE.out.alloc _,Ga pE Hu.out (HGD.out (by omega) (by omega) (by simp) (by simp) (by simp))⟩
   case measure=>simp[intOf];omega
  ·have ph:k=n:=by omega
   subst ph;have TE:=hid sS;have Hu:=hid He;clear sS He;go_wp2;go_returns;refine⟨_,rfl,TE.out,λe=> ?_⟩;have e:decide ((k:Int)<=12)=true:=e;have e:=of_decide_eq_true e;have ht:l.take k=l:=List.take_of_length_le (by rw[HN.out];exact Nat.le_refl _);exact⟨by have:=Hu.out;rwa [ht]at this,by rw[<-HN.out];omega⟩
section
open Go.RowKit Go.ChangeShapes Go.WideShapes Go.Deep
theorem own0:ownKnob prog.godebug=none:=by kernel_rfl
theorem laid0:laidOutB prog=true:=by kernel_rfl
section
variable{H:Type}{enc:TypeId×Value->H}{w:World}{base:Nat}{spare:Nat->Bool}{mW:Bool}
theorem zdQ{l:List Value}(h:l.length=3):∃a b c,l=[a,b,c]:=by
 match l,h with
 |[a,b,c],_=>exact⟨a,b,c,rfl⟩
theorem fP{t:TypeId}{fs:Array Field}{n:Nat}{cs:List Value}{x:DataW H×List MemPlace}(hu:prog.underlying t=some (.struct fs))(tj:oneCellFields prog fs=true)(hC:prog.cellsOf t=fs.size)(h:DataW.trod enc prog w base spare mW n t cs=some x):
  cs.length=fs.size/\∀(j:Nat) (f:Field),fs[j]? =some f->∃m y c,cs[j]? =some c/\DataW.trod enc prog w base spare mW m f.type [c]=some y:=by
 obtain⟨ys,m,_,_,hl,N2,hf⟩:=DataW.trod_struct hu h;rw[hC]at hl;refine⟨hl,λj f hj=> ?_⟩;have rC:j<fs.size:=(Array.getElem?_eq_some_iff.1 hj).1;obtain⟨ho,hk⟩:=hone_of tj j f hj;have h1:=hf j f hj;rw[ho,hk]at h1;have hv:cs[j]? =some (cs[j]'(by omega)):=List.getElem?_eq_getElem (by omega);have e1:(cs.drop j).take 1=[cs[j]'(by omega)]:=by rw[List.drop_eq_getElem_cons (by omega)];rfl
 rw[e1]at h1;have Tq:ys[j]? =some (ys[j]'(by omega)):=List.getElem?_eq_getElem (by omega);exact⟨m,_,_,hv,h1.trans Tq⟩
theorem fQ{n:Nat}{c:Value}{x:DataW H×List MemPlace}(h:DataW.trod enc prog w base spare mW n 9 [c]=some x):∃b:Bytes,c=zb b:=by obtain⟨s,hs,_⟩:=DataW.trod_string underlying9 h;simp only[List.cons.injEq,and_true]at hs;refine⟨s.data.toList,hs.trans ?_⟩;unfold zb;rw[Array.toArray_toList]
theorem zaS{n:Nat}{c:Value}{x:DataW H×List MemPlace}(h:DataW.trod enc prog w base spare mW n 3 [c]=some x):∃k,c=.int .i64 k:=by obtain⟨k,hs,_⟩:=DataW.trod_int underlying3 h;simp only[List.cons.injEq,and_true]at hs;exact⟨k,hs⟩
theorem DV{n:Nat}{cs:List Value}{x:DataW H×List MemPlace}(h:DataW.trod enc prog w base spare mW n 33 cs=some x):∃p:qE,cs=p.cells.toList:=by obtain⟨hl,hf⟩:=fP underlying33 (by kernel_rfl) (by kernel_rfl) h;obtain⟨_,_,c0,h0,t0⟩:=hf 0 _ rfl;obtain⟨_,_,c1,h1,t1⟩:=hf 1 _ rfl;obtain⟨_,_,c2,h2,t2⟩:=hf 2 _ rfl;obtain⟨k,rfl⟩:=zaS t0;obtain⟨a,rfl⟩:=fQ t1;obtain⟨b,rfl⟩:=fQ t2;refine⟨⟨k,a,b⟩,?_⟩;obtain⟨d0,d1,d2,rfl⟩:=zdQ (show cs.length=3 from hl);simp only[List.getElem?_cons_zero,List.getElem?_cons_succ,Option.some.injEq]at h0 h1 h2;rw[h0,h1,h2];rfl
theorem zc8{fuel:Nat}{v:Value}{x:DataW H×List MemPlace}(h:DataW.trod enc prog w base spare mW fuel 40 [v]=some x):∃l,Y2 w.cell? l v:=by
 have hC:prog.cellsOf 33=3:=by kernel_rfl
 rcases open_slice underlying40 h with⟨RO,_⟩|⟨a,len,cap,m,n,D,Pl,RO,hb,hl,hm,Su,hx,hi⟩
 ·simp only[List.cons.injEq,and_true]at RO;exact⟨[],by rw[RO];exact Sl.nil _ _⟩
 ·simp only[List.cons.injEq,and_true]at RO;have cN:len<=m:=by rw[Su];split<;>omega
  have hp:∀i,i<len->∃p:qE,∀j v,p.cells.toList[j]? =some v->w.cell? (a.add (i*3+j))=some v:=λi Sz=>by obtain⟨cs',hc,ht⟩:=hi i (by omega);obtain⟨p,rfl⟩:=DV ht;rw[hC]at hc;obtain⟨_,_,pO⟩:=World.cells?_some hc;refine⟨p,λj v hj=> ?_⟩;have hj3:j<3:=(List.getElem?_eq_some_iff.1 hj).1;rw[<-Go.Deep.add_add,pO j hj3,hj]
  have:Inhabited qE:=⟨⟨0,[],[]⟩⟩;obtain⟨f,hf⟩:=choose_lt hp;refine⟨(List.range len).map f,?_⟩;have h_:((List.range len).map f).length=len:=by simp
  refine⟨some a,len,cap,RO,by rw[xq yP,h_],hl,by unfold maxLen at hm;omega,(λe=>by cases e),?_⟩;by_cases h0:len=0
  ·left;subst h0;rfl
  ·right;obtain⟨b,o,s⟩:=a;have hs:s=none:=by
    have h1:=hf 0 (by omega) 0 _ rfl;have:=World.cell?_spot h1;simpa[Addr.add]using this
   subst hs;refine⟨b,o,rfl,λq hq=> ?_⟩;rw[xq yP,h_]at hq;have pY:q/3<len:=by omega
   have PL:q % 3<3:=Nat.mod_lt _ (by omega);have h1:(((List.range len).map f)[q/3]'(by rw[h_];exact pY))=f (q/3):=by simp
   have h2:(f (q/3)).cells.toList[q % 3]? =some ((f (q/3)).cells.toList[q % 3]'(by show q % 3<3;exact PL)):=List.getElem?_eq_getElem _;have h3:=Vu yP ((List.range len).map f) (q/3) (by rw[h_];exact pY) (q % 3) _ (by rw[h1];exact h2);have h4:=hf (q/3) pY (q % 3) _ h2;have e:q/3*3+q % 3=q:=by omega
   rw[e]at h3 h4;obtain⟨_,h5⟩:=List.getElem?_eq_some_iff.1 h3;rw[h5];rw[Addr.add_mid]at h4;exact h4
theorem zdR{f:Func}{s:ChangeSpec}{apart fresh cu again:Bool}{W W':World}{args:Array Value}{ds gs:List (DataW H)}{before pa pv:List MemPlace}{t:TypeId}{r:Bool}(ht:prog.underlying t=some .bool)(PF:f.resultTypes= #[t])
  (hW:DataW.Whole enc prog f.params.toList s.vars apart W args.toList ds gs before)
  (hres:(s.fn H (ds++gs)).results=[.lit (.bool r)])
  (CG:∀sp:Nat->Bool,(∀p∈before,sp p.block=true)->DataW.TrodAll enc prog W' 0 sp true f.params.toList args.toList (s.fn H (ds++gs)).args pa)
  (CH:∀sp:Nat->Bool,(∀p∈before,sp p.block=true)->DataW.TrodVars enc prog W' sp s.vars (s.fn H (ds++gs)).vars pv)
  (sw:before=pa++pv)(hb:Below W.heap.size W W'):s.post enc prog f apart fresh cu again W args (.bool r) W':=by
 have Hb:∀p∈before,p.block<W.heap.size:=λp hp=>hW.lt p hp;have pF:∀p∈before,(λb=>decide (b<W.heap.size)) p.block=true:=λp hp=>by simpa using Hb p hp
 have hr:∀(b:Nat) (sp:Nat->Bool) (hd:Bool),DataW.TrodAll enc prog W' b sp hd f.resultTypes.toList ((Value.bool r).resultList f.resultTypes.size) (s.fn H (ds++gs)).results []:=λb sp hd=>by rw[hres,PF];exact trodAll_mk1 (shut_bool ht r)
 refine⟨ds,gs,before,[],pa,pv,hW,hr _ _ _,CG _ pF,CH _ pF,World.keptBut_mono (λp hp=>⟨hp,?_⟩) (hb.frame (· ∈before)),λ_=> ?_⟩
 ·rw[sw,List.mem_append]at hp;exact Or.inr hp
 ·obtain⟨_,_,_,_,_,hz,hn⟩:=hW;refine⟨ok_one PF rfl (okWide_bool_mk ht r),_,_,([]++pa)++pv,⟨[]++pa,pv,trodAll_append (CG _ (λ_ _=>rfl)) (hr _ _ _),CH _ (λ_ _=>rfl),rfl,?_,?_⟩,?_⟩
  ·intro b off hp;have Ri:MemPlace.cell b off∈before:=by rw[sw];simpa using hp
   rw[hb.frozen (Hb _ Ri)];exact hz b off Ri
  ·intro ha;have:=hn ha;rw[sw]at this;simpa using this
  ·intro p hp _;rw[sw];simpa using hp
end
end
end Go.Proofs.YtbmdoinjkligiaaGreat
