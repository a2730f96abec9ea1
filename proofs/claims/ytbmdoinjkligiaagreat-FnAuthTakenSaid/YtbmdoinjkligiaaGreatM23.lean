/- Contracts and laws that the last text joins. -/
import Derived.Test.YtbmdoinjkligiaaGreatM19
import Derived.Test.YtbmdoinjkligiaaGreatM20
import Derived.Test.YtbmdoinjkligiaaGreatM21
import Derived.Test.YtbmdoinjkligiaaGreatM22
set_option maxRecDepth 100000
set_option maxHeartbeats 40000000
set_option linter.all false
namespace Go.Proofs.YtbmdoinjkligiaaGreat
open Tryz
open Lib(hid)
open Go.RowKit
def Zp(s:zA)(n rn:Bytes):zA×Nat:=if s.on=true/\n=zL/\rn=zL then (s,15)else match s.user n with|none=>(s,5)|some u=>if rn∈u.roles then (s.putUser ⟨u.name,yl u.roles rn⟩,0)else (s,11)
variable{a ec:Nat}{l:zu}{s':zA}
theorem Xa{w:World}{rb:Nat}{I:zN}{s:zA}{n rn:Bytes}(h:Zk l w a I s)(hr:Zp s n rn=(s',ec))(hn:n.length<=1000)(h0:im l.some w ⟨rb,0,none⟩=some (zb n))(h1:im l.some w ⟨rb,1,none⟩=some (zb rn))
  (hf:q9 s')(hs:yA s'):
  Calls prog 176 #[ptr a,ptr rb] w (VV l w a I s' ec):=by
 obtain⟨A,ab,m,lg,h⟩:=h;have r2:w.cell? ⟨a,2,none⟩=some (.iface 149 (ptr ab)):=by rw[cell_of_row w a 2 _ _ (0,0) h.row];rfl
 have r3:w.cell? ⟨a,3,none⟩=some (.bool s.on):=by rw[cell_of_row w a 3 _ _ (0,0) h.row];rfl
 have d0:=zd _ _ _ _ h0;have HB:=hid (qO h.idle h.abe);have H:=hid h;have H0:=hid h0;have HF:=hid hf;have HS:=hid hs;have sM:=hid (zr.refl h.bnd);have m1:=qK;have m2:=qw;have m3:=yd;have m4:=yU;have m5:=qY;have m6:=yN;have d1:=zd _ _ _ _ h1;have H1R:=hid h1;clear h h0 h1 hf hs;have PF:=root_eq n;have NF:=root_eq rn;obtain⟨sx,Ht⟩:=zex ((⟨n.toArray⟩:ByteArray));unfold zb at d0;rw[<-Ht]at d0 PF;have r_:=hid Ht;clear Ht;obtain⟨sr,NE⟩:=zex ((⟨rn.toArray⟩:ByteArray));unfold zb at d1;rw[<-NE]at d1 NF;have TS:=hid NE;clear NE;obtain⟨d,hd⟩:=zex (decide (s.on=true/\n=zL/\rn=zL));have nD:(s.on && (sx.toList==[114,111,111,116]) && (sr.toList==[114,111,111,116]))=d:=by rw[PF,NF,hd,Bool.eq_iff_iff];simp[and_assoc]
 have HD:=hid hd;have Cf:=hid nD;obtain⟨son,Tx⟩:∃b,s.on=b:=⟨_,rfl⟩;rw[Tx]at r3 Cf;have hf6:=hid Tx;have rX:=hid hr;clear hd nD PF NF Tx hr;go_enter_defers func176,ntmps176;go_upto_region 1 with fail
 go_cut [28]from 11 to 28 (λc wx=>w=wx/\c=.bool d)
 case first=>
  cases son
  ·have TT:=Cf.out;rw[Bool.false_and,Bool.false_and]at TT;subst TT;go_wp2;go_meet;exact⟨rfl,rfl⟩
  ·cases pB:(sx.toList==[114,111,111,116])
   ·have TT:=Cf.out;rw[pB,Bool.true_and,Bool.false_and]at TT;subst TT;go_wp2;go_meet;exact⟨rfl,by first|rfl|simp[pB]⟩
   ·have TT:=Cf.out;rw[pB,Bool.true_and,Bool.true_and]at TT;go_wp2;go_meet;exact⟨rfl,by first|exact congrArg Value.bool TT|simp[pB,TT]⟩
 case rest=>
  obtain⟨rfl,rfl⟩:=hcut;cases d
  case true=>
   obtain⟨rfl,rfl⟩:s=s'/\15=ec:=by have:=rX.out;unfold Zp at this;rw[if_pos (of_decide_eq_true HD.out.symm)]at this;cases this;exact⟨rfl,rfl⟩
   go_wp2;exact⟨_,results_tmp2 rfl _ _ _,_,rfl,l,I,zN.same_refl I,sM.out,_,_,_,_,H.out⟩
  case false=>
   obtain⟨o,ho⟩:∃o,s.user n=o:=⟨_,rfl⟩;have hr:=rX.out;unfold Zp at hr;rw[if_neg (of_decide_eq_false HD.out.symm),ho]at hr;have RU:=hid (show qT zj.name s.users n=o from ho);have mR:=hid hr;clear ho hr;go_wp2_with fail;refine HB.out.mono ?_;rintro e w1 ⟨x,rfl,hQ,hx,pH⟩;have h1:=H.out.new hQ;have HL:=hid (jg h1.idle pH);have hd:za w1 w1.drew:=(za.refl w1).drew;have j0:=hQ.le _ _ d0;have Pm:=hid ((vQ (x:=x) (I:=I) (pend:=0) (pdel:=0) (us:=jJ) h1.fine h1.kv).user l w1.drew n ⟨h1.idle.new hd,pH.new hd⟩ hn);have H1:=hid (h1.new hd);have Hs:=hid hQ.drew;unfold zb at Pm;rw[<-r_.out]at Pm;clear h1 hQ pH hd;go_wp2_with fail;refine HL.out.mono ?_;rintro e w2 ⟨rfl,rfl⟩;go_wp2_with fail;refine wp_region_noPanic ?_;go_region_with (refine Pm.out.mono ?_;rintro e w2 ⟨r,rfl,⟨Pn,po⟩,Hq,H9⟩;have Hu:=hid (And.intro Pn (And.intro po (And.intro Hq H9)));clear Pn po Hq H9)
   all_goals refine NoPanic.normal ?_
   all_goals
    obtain⟨Pn,po,Hq,H9⟩:=Hu.out;rw[RU.out]at H9;have pm:=zB.own H1.out.bnd Hq;have h2:=H1.out.moved pm (zN.same_refl I) Pn;have Ph:=hid ((zr.new H.out.bnd Hs.out).trans pm.s);have Hy:=hid (h2.mid po);have tf:=hid h2;have HG:=hid H9;have hi:=ye x;clear Pn Hq H9 pm h2 po;cases o with
    |none=>
     have hg:=HG.out;cases hg;obtain⟨rfl,rfl⟩:s=s'/\5=ec:=by have:=mR.out;cases this;exact⟨rfl,rfl⟩
     go_wp2;refine leaves_cons (f:=261) (args:= #[ptr x]) (by simp) (hi _) ?_;refine(qr Hy.out.tx (by decide) qH Hy.out.atx).mono ?_;rintro e u' w'' ⟨rfl,rfl,l3,I3,Pa,Pc,rY⟩;exact⟨_,results_tmp2 rfl _ _ _,_,rfl,l3,I3,Pc,Ph.out.trans Pa.s,_,_,_,_,tf.out.moved Pa Pc rY⟩
    |some u=>
     obtain⟨b,rfl,lP,Ru⟩:=HG.out.at H1.out.bnd;obtain⟨⟨nv,u0,u1⟩,⟨pv,u2,u3⟩,⟨yv,u4,u5⟩,ob,u6,u7⟩:=Ru;obtain⟨np,nn,nc,rfl,_⟩:=u1.shape;obtain⟨pp,pn,pc,rfl,_⟩:=u3.shape;obtain⟨yp,n8,c8,rfl⟩:=u5.shape;have k0:=zd _ _ _ _ u0;have k1:=zd _ _ _ _ u2;have k2:=zd _ _ _ _ u4;have k3:=zd _ _ _ _ u6;have RL:u.roles.length=n8:=by have:=u5.row.1;rw[List.length_map]at this;exact this
     have SW:=tf.out.fine.uok u (qg tf.out.fine.us RU.out);have r9:n8<=100:=by rw[<-RL];exact SW.roles
     have e1:=zd _ _ _ _ (Ph.out.im_one H1R.out);unfold zb at e1;rw[<-TS.out]at e1;have eH:=hid u1;have mV:=hid u3;have tN:=hid u4;have RT:=hid u5;have Oy:=hid u7;have eI:=hid (Ph.out.im_one H1R.out);have RM:=hid RL;have BN:=hid (((qN tf.out.fine.us).1 RU.out).2);obtain⟨W,hW⟩:=zex ((w2.alloc (.cells #[.slice np nn nc,.slice pp pn pc,.slice none 0 0,ptr ob] 222)).drew);have Cu:V9 w2 W w2.heap.size (.slice np nn nc) (.slice pp pn pc) (ptr ob) []:=⟨by rw[hW];exact((za.refl w2).alloc _).drew,Nat.le_refl _,.slice none 0 0,0,by rw[hW];exact zg w2 _,World.ownsRow_nil _ _ _ _,λb e=>by cases e⟩;have LS:=hid Cu;have HW:=hid hW;clear u0 u1 u2 u3 u4 u5 u6 u7 RL SW Cu hW;go_upto_region 9 with fail
     refine wp_region_noPanic ?_;go_region
     all_goals refine NoPanic.normal ?_
     all_goals
      rw[<-HW.out];have l_:(im l.some w2).le (im l.some W):=LS.out.new.im _;have k2W:=zd _ _ _ _ (l_ _ _ tN.out);obtain⟨ub,sd⟩:∃ub,w2.heap.size=ub:=⟨_,rfl⟩;rw[sd]at LS;have eJ:=hid sd;rw[sd];clear l_ sd k0 k1 k2 k3;go_wp2;go_loopw [70] (λc wr=>∃k:Nat,k<=n8/\c=.int .i64 k/\V9 w2 wr ub (.slice np nn nc) (.slice pp pn pc) (ptr ob) (yl (u.roles.take k) rn)) (λc _=>n8-(intOf c).toNat)
      case atStart=>exact⟨0,Nat.zero_le _,rfl,LS.out⟩
      case round=>
       obtain⟨k,hk,rfl,hK⟩:=hrel;have f1:=zd _ _ _ _ (hK.new.im l.some _ _ eI.out);unfold zb at f1;rw[<-TS.out]at f1;by_cases Hb:k<n8
       ·obtain⟨pZ,NZ,tT,⟨gb,go,rfl,PQ⟩|h0⟩:=RT.out.row
        case inr=>exact absurd h0 (by omega)
        have P_:k<u.roles.length:=by rw[RM.out];exact Hb
        have ck:=zd _ _ _ _ (hK.new.im l.some _ _ (PQ k (by rw[List.length_map];exact P_)));rw[List.getElem_map]at ck;obtain⟨y,hy⟩:∃y,u.roles[k]=y:=⟨_,rfl⟩;rw[hy]at ck;have RX:u.roles.take (k+1)=u.roles.take k++[y]:=by rw[<-hy,List.take_append_getElem]
        have P9:((⟨y.toArray⟩:ByteArray).toList !=sr.toList)= !decide (y=rn):=by rw[TS.out,ByteArray.toList_eq,ByteArray.toList_eq,Bool.eq_iff_iff];simp
        have PI:((⟨y.toArray⟩:ByteArray).toList==sr.toList)=decide (y=rn):=by rw[TS.out,ByteArray.toList_eq,ByteArray.toList_eq,Bool.eq_iff_iff];simp
        unfold zb at ck;have Rk:(k:Int)<n8:=by omega
        have tA:=hid RX;have HK:=hid hK;obtain⟨sy,Nw⟩:=zex ((⟨y.toArray⟩:ByteArray));rw[<-Nw]at ck P9 PI;have Oz:=hid Nw;clear pZ PQ hy RX hK Nw;by_cases e9:y=rn
        ·rw[decide_eq_true e9]at P9 PI;go_wp2;go_roundw
         case rel=>exact⟨k+1,by omega,by go_num,by rw[tA.out,ZN,if_pos e9];exact HK.out⟩
         case measure=>simp[intOf];omega
        ·rw[decide_eq_false e9]at P9 PI;obtain⟨Hp,pD,rv,m5,hZ,Ha,Pw⟩:=HK.out;obtain⟨x0,x1,x2,x3,z0,z1,z2,z3⟩:=kX hZ;have SR:Hid ((((yl (u.roles.take k) rn).map zb).length+[Value.string sy].length)*(16+1)<=140737488355328):=hid (by
          have:=Vo (u.roles.take k) rn;rw[List.length_take]at this;rw[List.length_map,List.length_singleton];omega)
         have x2a:∀ob,(wr.alloc ob).cell? ⟨ub,2,none⟩=some rv:=λob=>za.le ((za.refl wr).alloc ob) _ _ x2;have P7:=hid hZ;have Rl:=hid Pw;have Rc:=hid Hp;have Px:=hid Ha;clear Hp hZ Ha Pw;go_wp2_with (at_builtin;go_must (refine qM xS rfl rfl (World.ownsRow.alloc Px.out _) rfl rfl (news:=[.string sy]) (Sl.made wr [.string sy] _ 1 1 rfl (by omega)) YM SR.out ?_));intro v5 w5 ho hg PU;obtain⟨p7,n7,c7,rfl⟩:=(Sl.of_own ho).shape;have Bj:zb y=Value.string sy:=by rw[Oz.out];rfl
         rw[<-Bj]at ho;obtain⟨pe,Cv⟩:=V9.app (Rc.out.alloc _) pD (za.heap (show za wr _ from(za.refl wr).alloc _) P7.out) Rl.out ho hg (λb e=>(PU b e).imp (λe1=>e1) λe1=>Nat.le_trans (Nat.le_of_eq (Array.size_push ..)) e1);obtain⟨_,_,y2,_,_,_,y2z,_⟩:=kX pe;have eK:=hid Cv;clear ho hg PU pe Cv;go_wp2;go_roundw
         case rel=>exact⟨k+1,by omega,by go_num,by rw[tA.out,ZN,if_neg e9];exact eK.out⟩
         case measure=>simp[intOf];omega
       ·have ph:k=n8:=by omega
        subst ph;have RX:u.roles.take u.roles.length=u.roles:=List.take_length;rw[RM.out]at RX;rw[RX]at hK;obtain⟨Hp,pD,rv,m5,hZ,Ha,Pw⟩:=id hK;obtain⟨rp,rn5,rc,rfl⟩:=(Sl.of_own Ha).shape;have pZ:(yl u.roles rn).length=rn5:=by have:=(Sl.of_own Ha).row.1;rw[List.length_map]at this;exact this
        obtain⟨x0,x1,x2,x3,z0,z1,z2,z3⟩:=kX hZ;have q2:=zd _ _ _ _ (Hp.im l.some _ _ tN.out);have HK:=hid hK;have NS:=hid pZ;clear hK Hp hZ Ha Pw pZ RX;by_cases Hf:rn∈u.roles
        ·have h_:rn5≠k:=λe=>(QU u.roles rn).1 (by rw[NS.out,RM.out,e]) Hf;have eL: ¬((rn5:Int)=k):=by omega
         obtain⟨rfl,rfl⟩:s.putUser ⟨u.name,yl u.roles rn⟩=s'/\0=ec:=by have h9:(if rn∈u.roles then (s.putUser ⟨u.name,yl u.roles rn⟩,0)else (s,11))=(s',ec):=mR.out;rw[if_pos Hf]at h9;cases h9;exact⟨rfl,rfl⟩
         have pO:y9 (im l.some wr) ub ⟨u.name,yl u.roles rn⟩:=HK.out.user (λj e=>Hy.out.bnd j e) eH.out mV.out Oy.out;have Bk:za wr wr.drew:=(za.refl wr).drew;have pq:za w2 wr.drew:=HK.out.new.trans Bk;have pA:=HF.out;have sA:q9 {s with users:=yO zj.name s.users ⟨u.name,yl u.roles rn⟩}:=⟨pA.us,pA.rs,pA.uok,pA.rok,pA.ul,pA.rl,H.out.fine.rev⟩;have PH:jv ⟨u.name,yl u.roles rn⟩:=pA.uok _ ((qx H.out.fine.us).2 (Or.inl rfl));have sC:=hid (vS (Hy.out.new pq) (by decide) (by decide) (pO.mono (Bk.im _)) PH sA);have sY:=hid (Ph.out.trans (zr.new Hy.out.bnd pq));have OA:=hid (show s.rev+1<200 from pA.rev);clear pO Bk pq pA sA PH h_;go_wp2_with fail;refine wp_region_noPanic ?_;go_region
         all_goals refine NoPanic.normal ?_
         all_goals
          go_wp2_with fail;refine sC.out.mono ?_;rintro e w4 ⟨rfl,l4,PV,pP⟩;have Sx:=hid (sY.out.trans PV.s);have tL:=hid (yB pP (by decide) (by simp[ku,jJ]) OA.out);clear PV pP;go_wp2_with fail;refine tL.out.mono ?_;rintro e w5 ⟨rfl,l5,A5,pC,pr⟩;have P8:=hid (Sx.out.trans pC);have tF:=hid (qW pr HS.out);clear pC pr;go_wp2_with fail;refine tF.out.mono ?_;rintro e w6 ⟨rfl,l6,m6,PC,PP,R_⟩;have sP:=hid (P8.out.trans PC);have Po:=hid (And.intro PP R_);clear PC PP R_;go_wp2;have P2:∀o,za w6 (w6.alloc o):=λo=>(za.refl w6).alloc o;refine leaves_cons (f:=261) (args:= #[ptr x]) (by simp) (hi _) ?_;refine(yG (Po.out.1.new (P2 _)) HS.out (Po.out.2.step Po.out.1.bnd (zr.new Po.out.1.bnd (P2 _))) (by decide) (jT (by decide) _)).mono ?_;rintro e u' w'' ⟨rfl,rfl,l7,I7,tM,ri,rB⟩;exact⟨_,results_tmp2 rfl _ _ _,_,rfl,l7,I7,tM,(sP.out.trans (zr.new Po.out.1.bnd (P2 _))).trans ri,rB⟩
        ·have h_:rn5=k:=by have:=(QU u.roles rn).2 Hf;rw[NS.out,RM.out]at this;exact this
         subst h_;obtain⟨rfl,rfl⟩:s=s'/\11=ec:=by have h9:(if rn∈u.roles then (s.putUser ⟨u.name,yl u.roles rn⟩,0)else (s,11))=(s',ec):=mR.out;rw[if_neg Hf]at h9;cases h9;exact⟨rfl,rfl⟩
         have pq:za w2 wr.drew:=HK.out.new.drew;have r7:=hid pq;have nN:=hid (Hy.out.new pq);clear pq;go_wp2_with fail;refine wp_region_noPanic ?_;go_region
         all_goals refine NoPanic.normal ?_
         all_goals
          go_wp2;refine leaves_cons (f:=261) (args:= #[ptr x]) (by simp) (hi _) ?_;refine(qr nN.out.tx (by decide) qH nN.out.atx).mono ?_;rintro e u' w'' ⟨rfl,rfl,l3,I3,Pa,Pc,rY⟩;exact⟨_,results_tmp2 rfl _ _ _,_,rfl,l3,I3,Pc,(Ph.out.trans (zr.new Hy.out.bnd r7.out)).trans Pa.s,_,_,_,_,(tf.out.new r7.out).moved Pa Pc rY⟩
variable{o:zH}
theorem WN{s:zA}(hk:o.kind=1):s.change o=QV s:=by unfold zA.change QV;rw[if_pos hk];cases s.user zL<;>rfl
theorem WO{s:zA}(hk:o.kind=2):s.change o=(Zq s,0):=by unfold zA.change Zq;rw[if_neg (by omega),if_pos hk];cases s.on<;>rfl
theorem WP{s:zA}(hk:o.kind=3):s.change o=Zn s o.user:=by unfold zA.change Zn;rw[if_neg (by omega),if_neg (by omega),if_pos hk];rfl
theorem WQ{s:zA}(hk:o.kind=4):s.change o=Zo s o.user:=by unfold zA.change Zo;rw[if_neg (by omega),if_neg (by omega),if_neg (by omega),if_pos hk];rfl
theorem WR{s:zA}(hk:o.kind=6):s.change o=Zp s o.user o.role:=by unfold zA.change Zp;rw[if_neg (by omega),if_neg (by omega),if_neg (by omega),if_neg (by omega),if_neg (by omega),if_pos hk];rfl
theorem uP{s:zA}(hk:o.kind=9):s.change o=vT s o.role:=by unfold zA.change vT;rw[if_neg (by omega),if_neg (by omega),if_neg (by omega),if_neg (by omega),if_neg (by omega),if_neg (by omega),if_pos hk];rfl
structure Small(s:zA)(k:Nat):Prop where
 us:s.users.length<=k
 rs:s.roles.length<=k
 rev:s.rev<=k+1
 un:∀u∈s.users,u.name≠[]/\u.name.length<=64/\u.roles.length<=k/\∀r∈u.roles,r.length<=64/\r≠[]
 rn:∀r∈s.roles,r.name≠[]/\r.name.length<=64/\r.perms.length<=k/\∀p∈r.perms,p.key.length<=64/\p.stop.length<=64
 su:zE zj.name s.users
 sr:zE zm.name s.roles
variable{k:Nat}
theorem Small.fine{s:zA}(h:Small s k)(hk:k<=100)(hs:yA s):q9 s where
 us:=h.su
 rs:=h.sr
 uok u hu:=by obtain⟨h1,h2,h3,h4⟩:=h.un u hu;exact⟨h1,by omega,λx hx=>⟨(h4 x hx).2,by have:=(h4 x hx).1;omega⟩,by omega⟩
 rok r hr:=by
  obtain⟨h1,h2,h3,h4⟩:=h.rn r hr;refine⟨h1,by omega,λp hp=>⟨?_,?_,?_,?_⟩,by omega⟩
  ·have:=(hs.pv r hr p hp).1;omega
  ·intro e;have:=(hs.pv r hr p hp).2;rw[e]at this;simp[zU]at this
  ·have:=(h4 p hp).1;omega
  ·have:=(h4 p hp).2;omega
 ul:=by have:=h.us;omega
 rl:=by have:=h.rs;omega
 rev:=by have:=h.rev;omega
variable{α:Type}
theorem Vr{nm:α->Bytes}(l:List α)(x:α):(yO nm l x).length<=l.length+1:=by unfold yO;simp only[List.length_append,List.length_take,List.length_drop,List.length_cons,List.length_nil];omega
theorem Jp{nm:α->Bytes}(l:List α)(n:Bytes):(yj nm l n).length<=l.length:=by
 unfold yj;split
 ·simp only[List.length_append,List.length_take,List.length_drop];omega
 ·exact Nat.le_refl _
variable{j:Nat}
theorem Small.le{s:zA}(h:Small s k)(hj:k<=j):Small s j where
 us:=Nat.le_trans h.us hj
 rs:=Nat.le_trans h.rs hj
 rev:=by have:=h.rev;omega
 un u hu:=⟨(h.un u hu).1,(h.un u hu).2.1,Nat.le_trans (h.un u hu).2.2.1 hj,(h.un u hu).2.2.2⟩
 rn u hu:=⟨(h.rn u hu).1,(h.rn u hu).2.1,Nat.le_trans (h.rn u hu).2.2.1 hj,(h.rn u hu).2.2.2⟩
 su:=h.su
 sr:=h.sr
variable{u:zj}
theorem Small.putUser{s:zA}(h:Small s k)(hu:u.name≠[]/\u.name.length<=64/\u.roles.length<=k+1/\∀r∈u.roles,r.length<=64/\r≠[]):Small (s.putUser u) (k+1)where
 us:=Nat.le_trans (Vr _ _) (by have:=h.us;omega)
 rs:=by have:=h.rs;exact Nat.le_succ_of_le this
 rev:=by have:=h.rev;show s.rev+1<=_;omega
 un x hx:=by
  rcases(qx h.su).1 hx with rfl|⟨hx,_⟩
  ·exact hu
  ·exact(h.le (Nat.le_succ k)).un x hx
 rn:=(h.le (Nat.le_succ k)).rn
 su:=h.su.put _
 sr:=h.sr
theorem Small.putRole{s:zA}{u:zm}(h:Small s k)(hu:u.name≠[]/\u.name.length<=64/\u.perms.length<=k+1/\∀p∈u.perms,p.key.length<=64/\p.stop.length<=64):Small (s.putRole u) (k+1)where
 us:=by have:=h.us;exact Nat.le_succ_of_le this
 rs:=Nat.le_trans (Vr _ _) (by have:=h.rs;omega)
 rev:=by have:=h.rev;show s.rev+1<=_;omega
 un:=(h.le (Nat.le_succ k)).un
 rn x hx:=by
  rcases(qx h.sr).1 hx with rfl|⟨hx,_⟩
  ·exact hu
  ·exact(h.le (Nat.le_succ k)).rn x hx
 su:=h.su
 sr:=h.sr.put _
theorem yA.putUser{s:zA}(h:yA s)(hs:zE zj.name s.users)(hu:zM u.roles):yA (s.putUser u)where
 pv:=h.pv
 ps:=h.ps
 ur x hx:=by
  rcases(qx hs).1 hx with rfl|⟨hx,_⟩
  ·exact hu
  ·exact h.ur x hx
 on2 e:=by have:=h.on2 e;show 2<=s.rev+1;omega
 pos:=by show 1<=s.rev+1;omega
theorem yA.putRole{s:zA}{u:zm}(h:yA s)(hs:zE zm.name s.roles)(hu:∀p∈u.perms,p.kind<=2/\zU p.key p.stop=true)(hp:u.perms.Pairwise λa b=> ¬zt b.key a.key<0):yA (s.putRole u)where
 pv x hx:=by
  rcases(qx hs).1 hx with rfl|⟨hx,_⟩
  ·exact hu
  ·exact h.pv x hx
 ps x hx:=by
  rcases(qx hs).1 hx with rfl|⟨hx,_⟩
  ·exact hp
  ·exact h.ps x hx
 ur:=h.ur
 on2 e:=by have:=h.on2 e;show 2<=s.rev+1;omega
 pos:=by show 1<=s.rev+1;omega
theorem YZ{l:List Bytes}(h:zM l)(x:Bytes):zM (yl l x):=List.Pairwise.filter _ h
theorem uQ{l:List Bytes}(h:zM l)(x:Bytes):zM (vW l x):=by
 have hs:zE id l:=by unfold zE;rw[List.map_id];exact h
 have h2:=hs.put x;unfold zE at h2;rw[List.map_id]at h2;exact h2
theorem Y0{p x:zh}:∀{l:List zh},x∈Z4 p l↔x=p\/x∈l
 |[]=>by simp[Z4]
 |q::l=>by
  unfold Z4;split
  ·simp
  ·simp only[List.mem_cons,Y0 (l:=l)];constructor
   ·rintro(e|e|e)
    ·exact Or.inr (Or.inl e)
    ·exact Or.inl e
    ·exact Or.inr (Or.inr e)
   ·rintro(e|e|e)
    ·exact Or.inr (Or.inl e)
    ·exact Or.inl e
    ·exact Or.inr (Or.inr e)
theorem QB{p:zh}:∀{l:List zh},(l.Pairwise λa b=> ¬zt b.key a.key<0)->(Z4 p l).Pairwise λa b=> ¬zt b.key a.key<0
 |[],_=>by simp[Z4]
 |q::l,h=>by
  have hq:=List.pairwise_cons.1 h;unfold Z4;split
  ·rename_i Hb;refine List.pairwise_cons.2 ⟨λb hb e=> ?_,h⟩;rcases List.mem_cons.1 hb with rfl|hb
   ·exact yW Hb e
   ·exact hq.1 b hb (qL e Hb)
  ·rename_i pD;refine List.pairwise_cons.2 ⟨λb hb=> ?_,QB hq.2⟩;rcases Y0.1 hb with rfl|hb
   ·exact pD
   ·exact hq.1 b hb
variable{p:zh}
theorem uR{l:List zh}{x:zh}(h:x∈y_ l p):x=p\/x∈l:=by
 unfold y_ at h;split at h
 ·rename_i q hq;split at h
  ·rename_i hc;obtain⟨j,hj,e⟩:=List.getElem_of_mem h;rw[List.getElem_set]at e;split at e
   ·left;rw[<-e,hc.1,hc.2]
   ·right;rw[<-e];exact List.getElem_mem _
  ·exact Y0.1 h
 ·exact Y0.1 h
theorem Vs(p:zh):∀l,(Z4 p l).length=l.length+1
 |[]=>rfl
 |q::l=>by
  unfold Z4;split
  ·rfl
  ·simp[Vs p l]
theorem uS(l:List zh)(p:zh):(y_ l p).length<=l.length+1:=by
 unfold y_;split
 ·split
  ·rw[List.length_set];omega
  ·exact Nat.le_of_eq (Vs p l)
 ·exact Nat.le_of_eq (Vs p l)
theorem uT{l:List zh}(h:l.Pairwise λa b=> ¬zt b.key a.key<0):(y_ l p).Pairwise λa b=> ¬zt b.key a.key<0:=by
 unfold y_;split
 ·rename_i q hq;split
  ·have hk:(l.set (ZL l p) {q with kind:=p.kind}).map (·.key)=l.map (·.key):=by
    apply List.ext_getElem?;intro i;rw[List.getElem?_map,List.getElem?_map,List.getElem?_set];split
    ·rename_i e;subst e;rw[hq];have:=(List.getElem?_eq_some_iff.1 hq).1;simp[this]
    ·rfl
   have h1:(l.map (·.key)).Pairwise λa b=> ¬zt b a<0:=List.pairwise_map.2 h;rw[<-hk]at h1;exact List.pairwise_map.1 h1
  ·exact QB h
 ·exact QB h
theorem gQ{l:List zh}(h:l.Pairwise λa b=> ¬zt b.key a.key<0)(k e:Bytes):(jf l k e).Pairwise λa b=> ¬zt b.key a.key<0:=List.Pairwise.filter _ h
theorem XO{l:List zh}{k e:Bytes}{x:zh}(h:x∈jf l k e):x∈l:=(List.mem_filter.1 h).1
theorem XP(l:List zh)(k e:Bytes):(jf l k e).length<=l.length:=List.length_filter_le ..
theorem WS(l:List Bytes)(x:Bytes):(vW l x).length<=l.length+1:=Vr _ _
theorem WT{l:List Bytes}(h:zM l){x y:Bytes}(hy:y∈vW l x):y=x\/y∈l:=by
 have hs:zE id l:=by unfold zE;rw[List.map_id];exact h
 rcases(qx hs).1 hy with e|e
 ·exact Or.inl e
 ·exact Or.inr e.1
theorem XQ{l:List Bytes}{x y:Bytes}(hy:y∈yl l x):y∈l:=(List.mem_filter.1 hy).1
theorem Small.user{s:zA}(h:Small s k){n:Bytes}(hu:s.user n=some u):u∈s.users/\u.name=n:=(qN h.su).1 hu
theorem Small.role{s:zA}(h:Small s k){n:Bytes}{u:zm}(hu:s.role n=some u):u∈s.roles/\u.name=n:=(qN h.sr).1 hu
structure zH.fits(o:zH):Prop where
 user:o.user.length<=64
 role:o.role.length<=64
 key:o.key.length<=64
 stop:o.stop.length<=64
 pk:o.kind=11->0<=o.pk/\o.pk<=2
theorem zbn{s:zA}(h:Small s k)(hs:yA s)(ho:o.fits)(hu:s.user o.user=some u)(rM:o.role≠[]):Small (s.putUser ⟨u.name,vW u.roles o.role⟩) (k+1)/\yA (s.putUser ⟨u.name,vW u.roles o.role⟩):=by
 obtain⟨hm,hn⟩:=h.user hu;obtain⟨h1,h2,h3,h4⟩:=h.un u hm;refine⟨h.putUser ⟨h1,h2,Nat.le_trans (WS _ _) (by omega),λr hr=> ?_⟩,hs.putUser h.su (uQ (hs.ur u hm) _)⟩;rcases WT (hs.ur u hm) hr with rfl|hr
 ·exact⟨ho.role,rM⟩
 ·exact h4 r hr
theorem zbo{s:zA}(h:Small s k)(hs:yA s)(hu:s.user o.user=some u):Small (s.putUser ⟨u.name,yl u.roles o.role⟩) (k+1)/\yA (s.putUser ⟨u.name,yl u.roles o.role⟩):=by obtain⟨hm,hn⟩:=h.user hu;obtain⟨h1,h2,h3,h4⟩:=h.un u hm;exact⟨h.putUser ⟨h1,h2,Nat.le_trans (List.length_filter_le ..) (by omega),λr hr=>h4 r (XQ hr)⟩,hs.putUser h.su (YZ (hs.ur u hm) _)⟩
theorem WU{s:zA}(h:Small s k)(hs:yA s)(ho:o.fits)(hk:o.kind=11){r:zm}(hr:s.role o.role=some r)(hv:zU o.key o.stop=true):Small (s.putRole ⟨r.name,y_ r.perms ⟨o.pk.toNat,o.key,o.stop⟩⟩) (k+1)/\yA (s.putRole ⟨r.name,y_ r.perms ⟨o.pk.toNat,o.key,o.stop⟩⟩):=by
 obtain⟨hm,hn⟩:=h.role hr;obtain⟨h1,h2,h3,h4⟩:=h.rn r hm;have Sq:=ho.pk hk;refine⟨h.putRole ⟨h1,h2,Nat.le_trans (uS _ _) (by omega),λp hp=> ?_⟩,hs.putRole h.sr (λp hp=> ?_) (uT (hs.ps r hm))⟩
 ·rcases uR hp with rfl|hp
  ·exact⟨ho.key,ho.stop⟩
  ·exact h4 p hp
 ·rcases uR hp with rfl|hp
  ·exact⟨by show o.pk.toNat<=2;omega,hv⟩
  ·exact hs.pv r hm p hp
theorem WV{s:zA}(h:Small s k)(hs:yA s){r:zm}(hr:s.role o.role=some r):Small (s.putRole ⟨r.name,jf r.perms o.key o.stop⟩) (k+1)/\yA (s.putRole ⟨r.name,jf r.perms o.key o.stop⟩):=by obtain⟨hm,hn⟩:=h.role hr;obtain⟨h1,h2,h3,h4⟩:=h.rn r hm;exact⟨h.putRole ⟨h1,h2,Nat.le_trans (XP _ _ _) (by omega),λp hp=>h4 p (XO hp)⟩,hs.putRole h.sr (λp hp=>hs.pv r hm p (XO hp)) (gQ (hs.ps r hm) _ _)⟩
structure Ok(s:zA)(k:Nat):Prop where
 small:Small s k
 sane:yA s
 seen:s.users=[]\/2<=s.rev
theorem Ok.le{s:zA}(h:Ok s k)(hj:k<=j):Ok s j:=⟨h.small.le hj,h.sane,h.seen⟩
theorem zdy{s:zA}(h:Ok s k)(hu:s.user zL=some u):Ok {s with on:=true} k:=by
 have hm:=(h.small.user hu).1;have h2:2<=s.rev:=by
  rcases h.seen with e|e
  ·rw[e]at hm;cases hm
  ·exact e
 exact⟨⟨h.small.us,h.small.rs,h.small.rev,h.small.un,h.small.rn,h.small.su,h.small.sr⟩,⟨h.sane.pv,h.sane.ps,h.sane.ur,λ_=>h2,h.sane.pos⟩,h.seen⟩
theorem zcJ{s:zA}(h:Ok s k):Ok {s with on:=false,rev:=s.rev+1} (k+1):=by have h':=h.small.le (Nat.le_succ k);have hr:=h.small.rev;have hp:=h.sane.pos;exact⟨⟨h'.us,h'.rs,by show s.rev+1<=_;omega,h'.un,h'.rn,h'.su,h'.sr⟩,⟨h.sane.pv,h.sane.ps,h.sane.ur,λe=>(by cases e),by show 1<=s.rev+1;omega⟩,Or.inr (by show 2<=s.rev+1;omega)⟩
theorem Yx{s:zA}(h:Ok s k)(h1:Small (s.putUser u) (k+1)/\yA (s.putUser u)):Ok (s.putUser u) (k+1):=⟨h1.1,h1.2,Or.inr (by have:=h.sane.pos;show 2<=s.rev+1;omega)⟩
theorem Yy{s:zA}{u:zm}(h:Ok s k)(h1:Small (s.putRole u) (k+1)/\yA (s.putRole u)):Ok (s.putRole u) (k+1):=⟨h1.1,h1.2,Or.inr (by have:=h.sane.pos;show 2<=s.rev+1;omega)⟩
theorem zd8{s:zA}{n:Bytes}(h:Ok s k)(hn:n.length<=64)(h0:n≠[]):Ok (s.putUser ⟨n,[]⟩) (k+1):=
 Yx h ⟨h.small.putUser ⟨h0,hn,Nat.zero_le _,λr hr=>(by cases hr)⟩,h.sane.putUser h.small.su List.Pairwise.nil⟩
theorem zd9{s:zA}{n:Bytes}(h:Ok s k)(hn:n.length<=64)(h0:n≠[]):Ok (s.putRole ⟨n,[]⟩) (k+1):=
 Yy h ⟨h.small.putRole ⟨h0,hn,Nat.zero_le _,λr hr=>(by cases hr)⟩,h.sane.putRole h.small.sr (λp hp=>by cases hp) List.Pairwise.nil⟩
theorem zea{s:zA}{n:Bytes}(h:Ok s k):Ok {s with users:=yj zj.name s.users n,rev:=s.rev+1} (k+1):=by have h':=h.small.le (Nat.le_succ k);have hr:=h.small.rev;have hp:=h.sane.pos;refine⟨⟨Nat.le_trans (Jp _ _) h'.us,h'.rs,by show s.rev+1<=_;omega,λu hu=>h'.un u ((je h.small.su).1 hu).1,h'.rn,h.small.su.drop _,h'.sr⟩,⟨h.sane.pv,h.sane.ps,λu hu=>h.sane.ur u ((je h.small.su).1 hu).1,λe=>by have:=h.sane.on2 e;show 2<=s.rev+1;omega,by show 1<=s.rev+1;omega⟩,Or.inr (by show 2<=s.rev+1;omega)⟩
theorem zdz{s:zA}{n:Bytes}(h:Ok s k):Ok {s with roles:=yj zm.name s.roles n,users:=s.users.map λu=>⟨u.name,yl u.roles n⟩,rev:=s.rev+1} (k+1):=by
 have h':=h.small.le (Nat.le_succ k);have hr:=h.small.rev;have hp:=h.sane.pos;have hsu:zE zj.name (s.users.map λu=>(⟨u.name,yl u.roles n⟩:zj)):=by unfold zE;rw[List.map_map];exact h.small.su
 refine⟨⟨by show(s.users.map _).length<=_;rw[List.length_map];exact h'.us,Nat.le_trans (Jp _ _) h'.rs,by show s.rev+1<=_;omega,λu hu=> ?_,λr hr=>h'.rn r ((je h.small.sr).1 hr).1,hsu,h.small.sr.drop _⟩,⟨λr hr=>h.sane.pv r ((je h.small.sr).1 hr).1,λr hr=>h.sane.ps r ((je h.small.sr).1 hr).1,λu hu=> ?_,λe=>by have:=h.sane.on2 e;show 2<=s.rev+1;omega,by show 1<=s.rev+1;omega⟩,Or.inr (by show 2<=s.rev+1;omega)⟩
 ·obtain⟨v,hv,rfl⟩:=List.mem_map.1 hu;obtain⟨h1,h2,h3,h4⟩:=h'.un v hv;exact⟨h1,h2,Nat.le_trans (List.length_filter_le ..) h3,λr hr=>h4 r (XQ hr)⟩
 ·obtain⟨v,hv,rfl⟩:=List.mem_map.1 hu;exact YZ (h.sane.ur v hv) _
theorem Ok.start:Ok zA.start 0:=⟨⟨Nat.le_refl _,Nat.le_refl _,Nat.le_refl _,λu hu=>(by cases hu),λu hu=>(by cases hu),List.Pairwise.nil,List.Pairwise.nil⟩,⟨λu hu=>(by cases hu),λu hu=>(by cases hu),λu hu=>(by cases hu),λe=>(by cases e),Nat.le_refl _⟩,Or.inl rfl⟩
theorem XR{s:zA}(h:Ok s k)(ho:o.fits):Ok (s.change o).1 (k+1):=by
 have hY:=h.le (Nat.le_succ k);unfold zA.change;by_cases rh:o.kind=1
 ·rw[if_pos rh];split
  ·exact hY
  ·split
   ·exact hY
   ·rename_i u hu;split
    ·exact(zdy h hu).le (Nat.le_succ k)
    ·exact hY
 rw[if_neg rh];by_cases se:o.kind=2
 ·rw[if_pos se];split
  ·exact zcJ h
  ·exact hY
 rw[if_neg se];by_cases M_:o.kind=3
 ·rw[if_pos M_];split
  ·exact hY
  ·rename_i h0;split
   ·exact hY
   ·exact zd8 h ho.user h0
 rw[if_neg M_];by_cases LT:o.kind=4
 ·rw[if_pos LT];split
  ·exact hY
  ·split
   ·exact hY
   ·exact zea h
 rw[if_neg LT];by_cases hk5:o.kind=5
 ·rw[if_pos hk5];split
  ·exact hY
  ·rename_i u hu;split
   ·exact hY
   ·rename_i hr;split
    ·exact hY
    ·refine Yx h (zbn h.small h.sane ho hu λe=>hr ⟨?_,?_⟩)
     ·rw[e];decide
     ·cases hq:s.role o.role with
      |none=>rfl
      |some r=>have:=h.small.role hq;exact absurd (this.2.trans e) (h.small.rn r this.1).1
 rw[if_neg hk5];by_cases hk6:o.kind=6
 ·rw[if_pos hk6];split
  ·exact hY
  ·split
   ·exact hY
   ·rename_i u hu;split
    ·exact Yx h (zbo h.small h.sane hu)
    ·exact hY
 rw[if_neg hk6];by_cases hk9:o.kind=9
 ·rw[if_pos hk9];split
  ·exact hY
  ·rename_i h0;split
   ·exact hY
   ·exact zd9 h ho.role h0
 rw[if_neg hk9];by_cases hk10:o.kind=10
 ·rw[if_pos hk10];split
  ·exact hY
  ·split
   ·exact hY
   ·exact zdz h
 rw[if_neg hk10];by_cases hk11:o.kind=11
 ·rw[if_pos hk11];split
  ·exact hY
  ·split
   ·exact hY
   ·rename_i hv;split
    ·exact hY
    ·rename_i r hr;exact Yy h (WU h.small h.sane ho hk11 hr (by simpa using hv))
 rw[if_neg hk11];by_cases hk12:o.kind=12
 ·rw[if_pos hk12];split
  ·exact hY
  ·rename_i r hr;split
   ·exact hY
   ·exact Yy h (WV h.small h.sane hr)
 rw[if_neg hk12];exact hY
theorem zbp{s:zA}(h:Ok s k)(ho:o.fits):Ok (s.step o).1 (k+1):=by
 have hY:=h.le (Nat.le_succ k);unfold zA.step;simp only[];split
 ·exact hY
 split
 ·exact hY
 split
 ·exact hY
 split
 ·exact hY
 split
 ·exact hY
 split
 ·exact hY
 exact XR h ho
noncomputable def zA.after(s:zA)(l:List zH):zA:=l.foldl (λs o=>(s.step o).1) s
theorem Vt(l m:List zH):∀s:zA,s.run (l++m)=s.run l++(s.after l).run m:=by
 induction l with
 |nil=>intro s;rfl
 |cons o l ih=>intro s;show(s.step o).2::(s.step o).1.run (l++m)=_;rw[ih];rfl
theorem zdU(l:List zH):∀s:zA,(s.run l).length=l.length:=by
 induction l with
 |nil=>intro s;rfl
 |cons o l ih=>intro s;show((s.step o).1.run l).length+1=_;rw[ih];rfl
def zH.asks(o:zH):Prop:=o.kind=7\/o.kind=8\/13<=o.kind/\o.kind<=19
instance(o:zH):Decidable o.asks:=by unfold zH.asks;infer_instance
theorem QW{s:zA}(h:o.asks):(s.step o).1=s/\(s.step o).2.rev=s.rev/\(s.step o).2.on=s.on:=by
 have hc:s.change o=(s,0):=by unfold zA.change;rw[if_neg (by unfold zH.asks at h;omega),if_neg (by unfold zH.asks at h;omega),if_neg (by unfold zH.asks at h;omega),if_neg (by unfold zH.asks at h;omega),if_neg (by unfold zH.asks at h;omega),if_neg (by unfold zH.asks at h;omega),if_neg (by unfold zH.asks at h;omega),if_neg (by unfold zH.asks at h;omega),if_neg (by unfold zH.asks at h;omega),if_neg (by unfold zH.asks at h;omega)]
 unfold zA.step;simp only[hc];by_cases h7:o.kind=7
 ·rw[if_pos h7];cases s.user o.user<;>exact⟨rfl,rfl,rfl⟩
 rw[if_neg h7];by_cases h8:o.kind=8
 ·rw[if_pos h8];exact⟨rfl,rfl,rfl⟩
 rw[if_neg h8];by_cases tB:o.kind=13
 ·rw[if_pos tB];cases s.role o.role<;>exact⟨rfl,rfl,rfl⟩
 rw[if_neg tB];by_cases NW:o.kind=14
 ·rw[if_pos NW];exact⟨rfl,rfl,rfl⟩
 rw[if_neg NW];by_cases LA:o.kind=15\/o.kind=16\/o.kind=17\/o.kind=18
 ·rw[if_pos LA];exact⟨rfl,rfl,rfl⟩
 rw[if_neg LA];by_cases h19:o.kind=19
 ·rw[if_pos h19];exact⟨rfl,rfl,rfl⟩
 exfalso;unfold zH.asks at h;omega
theorem yw{s:zA}(h: ¬o.asks):s.step o=((s.change o).1,⟨(s.change o).2,(s.change o).1.rev,(s.change o).1.on,false,[],[]⟩):=by unfold zH.asks at h;unfold zA.step;rw[if_neg (by omega),if_neg (by omega),if_neg (by omega),if_neg (by omega),if_neg (by omega),if_neg (by omega)]
theorem XS{s:zA}(h:20<=o.kind):s.step o=(s,⟨0,s.rev,s.on,false,[],[]⟩):=by
 have h1:s.change o=(s,0):=by unfold zA.change;rw[if_neg (by omega),if_neg (by omega),if_neg (by omega),if_neg (by omega),if_neg (by omega),if_neg (by omega),if_neg (by omega),if_neg (by omega),if_neg (by omega),if_neg (by omega)]
 rw[yw (by unfold zH.asks;omega),h1]
theorem zcL{n:Bytes}(h:Dn n):zt n [255]<0:=by
 unfold Dn at h;cases n with
 |nil=>decide
 |cons a l=>
  have ha:a≠255:=λe=>h (by rw[e];rfl);have:a<255:=by rw[UInt8.lt_iff_toNat_lt];have h1:=a.toNat_lt;have h2:a.toNat≠255:=λe=>ha (UInt8.toNat_inj.1 (by rw[e];rfl));show a.toNat<255;omega
  unfold zt;rw[if_pos this];decide
structure Xc(s:zA)(g:Nat):Prop where
 names:∀r∈s.roles,zt r.name [255]<0
 few:∀r∈s.roles,r.perms.length<=g
theorem Xc.le{s:zA}{g:Nat}(h:Xc s g)(hj:g<=j):Xc s j:=⟨h.names,λr hr=>Nat.le_trans (h.few r hr) hj⟩
theorem Xc.same{s t:zA}{g:Nat}(h:Xc s g)(e:t.roles=s.roles):Xc t g:=⟨by rw[e];exact h.names,by rw[e];exact h.few⟩
theorem Xc.put{s:zA}{g:Nat}{u:zm}(h:Xc s g)(hs:zE zm.name s.roles)(hu:zt u.name [255]<0)(hp:u.perms.length<=g):Xc (s.putRole u) g where
 names x hx:=by
  rcases(qx hs).1 hx with rfl|⟨hx,_⟩
  ·exact hu
  ·exact h.names x hx
 few x hx:=by
  rcases(qx hs).1 hx with rfl|⟨hx,_⟩
  ·exact hp
  ·exact h.few x hx
theorem uV{nm:α->Bytes}{l:List α}{n:Bytes}{x:α}(h:x∈yj nm l n):x∈l:=by
 unfold yj at h;split at h
 ·rcases List.mem_append.1 h with h|h
  ·exact List.mem_of_mem_take h
  ·exact List.mem_of_mem_drop h
 ·exact h
def zH.g(o:zH):Nat:=if o.kind=11 then 1 else 0
theorem UJ{s:zA}{g:Nat}(h:Ok s k)(hf:Xc s g)(hr:Dn o.role):Xc (s.change o).1 (g+o.g):=by
 have hY:=hf.le (Nat.le_add_right g o.g);have NE:=h.small.sr;unfold zA.change;by_cases rh:o.kind=1
 ·rw[if_pos rh];split
  ·exact hY
  ·split
   ·exact hY
   ·split
    ·exact hY.same rfl
    ·exact hY
 rw[if_neg rh];by_cases se:o.kind=2
 ·rw[if_pos se];split
  ·exact hY.same rfl
  ·exact hY
 rw[if_neg se];by_cases M_:o.kind=3
 ·rw[if_pos M_];split
  ·exact hY
  ·split
   ·exact hY
   ·exact hY.same rfl
 rw[if_neg M_];by_cases LT:o.kind=4
 ·rw[if_pos LT];split
  ·exact hY
  ·split
   ·exact hY
   ·exact hY.same rfl
 rw[if_neg LT];by_cases hk5:o.kind=5
 ·rw[if_pos hk5];split
  ·exact hY
  ·split
   ·exact hY
   ·split
    ·exact hY
    ·exact hY.same rfl
 rw[if_neg hk5];by_cases hk6:o.kind=6
 ·rw[if_pos hk6];split
  ·exact hY
  ·split
   ·exact hY
   ·split
    ·exact hY.same rfl
    ·exact hY
 rw[if_neg hk6];by_cases hk9:o.kind=9
 ·rw[if_pos hk9];split
  ·exact hY
  ·split
   ·exact hY
   ·exact hY.put NE (zcL hr) (Nat.zero_le _)
 rw[if_neg hk9];by_cases hk10:o.kind=10
 ·rw[if_pos hk10];split
  ·exact hY
  ·split
   ·exact hY
   ·exact⟨λr h=>hY.names r (uV h),λr h=>hY.few r (uV h)⟩
 rw[if_neg hk10];by_cases hk11:o.kind=11
 ·rw[if_pos hk11];split
  ·exact hY
  ·split
   ·exact hY
   ·split
    ·exact hY
    ·rename_i r e;obtain⟨hm,_⟩:=h.small.role e;refine hY.put NE (hY.names r hm) (Nat.le_trans (uS _ _) ?_);have:=hf.few r hm;unfold zH.g;rw[if_pos hk11];omega
 rw[if_neg hk11];by_cases hk12:o.kind=12
 ·rw[if_pos hk12];split
  ·exact hY
  ·rename_i r e;obtain⟨hm,_⟩:=h.small.role e;split
   ·exact hY
   ·exact hY.put NE (hY.names r hm) (Nat.le_trans (XP _ _ _) (hY.few r hm))
 rw[if_neg hk12];exact hY
theorem W_{s:zA}{g:Nat}(h:Ok s k)(hf:Xc s g)(hr:Dn o.role):Xc (s.step o).1 (g+o.g):=by
 by_cases ha:o.asks
 ·rw[(QW (s:=s) ha).1];exact hf.le (Nat.le_add_right _ _)
 ·rw[yw ha];exact UJ h hf hr
theorem Xc.start:Xc zA.start 0:=⟨λr h=>(by cases h),λr h=>(by cases h)⟩
theorem Y3{α:Type}{nm:α->Bytes}:∀{l:List α} (_:zE nm l) {k:Nat} (hk:k<l.length) {x:α} (_:nm x=nm l[k]),yO nm l x=l.set k x
 |[],_,k,hk,_,_=>absurd hk (Nat.not_lt_zero _)
 |z::l,h,0,_,x,hx=>by have hx:nm x=nm z:=hx;rw[j9,if_neg (by rw[hx];exact zI _),if_pos hx.symm];rfl
 |z::l,h,k+1,hk,x,hx=>by
  have Sa:k<l.length:=by simpa using hk
  have hx':nm x=nm l[k]:=hx;rw[j9,if_pos (by rw[hx'];exact h.head (List.getElem_mem Sa)),Y3 h.tail Sa hx'];rfl
def zP(f:zj->zj)(us:List zj)(k:Nat):List zj:=(us.take k).map f++us.drop k
theorem Dp(f:zj->zj)(us:List zj):zP f us 0=us:=by simp[zP]
theorem zaa(f:zj->zj)(us:List zj):zP f us us.length=us.map f:=by simp[zP]
theorem Vw(f:zj->zj)(us:List zj)(k:Nat)(hk:k<=us.length):(zP f us k).length=us.length:=by simp only[zP,List.length_append,List.length_map,List.length_take,List.length_drop];omega
theorem Vx(f:zj->zj)(hf:∀u,(f u).name=u.name)(us:List zj)(k:Nat):(zP f us k).map (·.name)=us.map (·.name):=by unfold zP;rw[List.map_append,List.map_map,show(λx=>x.name)∘f=(λx:zj=>x.name)from funext hf,<-List.map_append,List.take_append_drop]
theorem Kv?(f:zj->zj)(us:List zj)(k:Nat)(hk:k<us.length):(zP f us k)[k]? =some us[k]:=by unfold zP;rw[List.getElem?_append_right (by simp;omega)];rw[List.length_map,List.length_take,Nat.min_eq_left (Nat.le_of_lt hk),Nat.sub_self,List.getElem?_drop,Nat.add_zero,List.getElem?_eq_getElem hk]
theorem Kv(f:zj->zj)(us:List zj)(k:Nat)(hk:k<us.length)(h:k<(zP f us k).length):(zP f us k)[k]=us[k]:=by have:=Kv? f us k hk;rw[List.getElem?_eq_getElem h]at this;exact Option.some.inj this
theorem XT(f:zj->zj)(us:List zj)(k:Nat)(hk:k<us.length):zP f us (k+1)=(zP f us k).set k (f us[k]):=by unfold zP;rw[List.take_succ_eq_append_getElem hk,List.map_append,List.set_append_right _ _ (by simp;omega)];rw[List.length_map,List.length_take,Nat.min_eq_left (Nat.le_of_lt hk),Nat.sub_self,List.append_assoc];congr 1;rw[List.drop_eq_getElem_cons hk];rfl
theorem zab{f:zj->zj}(hf:∀u,(f u).name=u.name){us:List zj}(hs:zE zj.name us)(hk:k<us.length):yO zj.name (zP f us k) (f us[k])=zP f us (k+1):=by
 have h_:=Vw f us k (Nat.le_of_lt hk);have MM:zE zj.name (zP f us k):=by unfold zE;have:=Vx f hf us k;rw[show(zP f us k).map zj.name=us.map zj.name from this];exact hs
 rw[XT f us k hk];exact Y3 MM (by omega) (by rw[hf,Kv f us k hk (by omega)])
theorem Dq{f:zj->zj}{us:List zj}(hk:k<us.length)(h:f us[k]=us[k]):zP f us (k+1)=zP f us k:=by
 rw[XT f us k hk,h];have h_:=Vw f us k (Nat.le_of_lt hk);apply List.ext_getElem?;intro i;rw[List.getElem?_set];split
 ·rename_i e;subst e;rw[if_pos (by omega),List.getElem?_eq_getElem (by omega),Kv f us _ hk (by omega)]
 ·rfl
end Go.Proofs.YtbmdoinjkligiaaGreat
