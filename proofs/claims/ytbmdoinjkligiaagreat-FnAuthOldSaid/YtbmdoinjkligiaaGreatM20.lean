/- Contracts and laws that the last text joins. -/
import Derived.Test.YtbmdoinjkligiaaGreatM17
import Derived.Test.YtbmdoinjkligiaaGreatM18
import Derived.Test.YtbmdoinjkligiaaGreatM19
set_option maxRecDepth 100000
set_option maxHeartbeats 40000000
set_option linter.all false
namespace Go.Proofs.YtbmdoinjkligiaaGreat
open Tryz
open Lib(hid)
open Go.RowKit
def Zs(s:zA)(n rn:Bytes):zA×Nat:=if s.on=true/\n=zL/\rn=zL then (s,15)else match s.user n with|none=>(s,5)|some u=>if rn∈u.roles then (s.putUser ⟨u.name,yo u.roles rn⟩,0)else (s,11)
variable{a ec:Nat}{l:zu}{s':zA}
theorem Xe{w:World}{rb:Nat}{I:zN}{s:zA}{n rn:Bytes}(h:Zn l w a I s)(hr:Zs s n rn=(s',ec))(hn:n.length<=1000)(h0:im l.some w ⟨rb,0,none⟩=some (zb n))(h1:im l.some w ⟨rb,1,none⟩=some (zb rn))
  (hf:ya s')(hs:yD s'):
  Calls prog 176 #[ptr a,ptr rb] w (VZ l w a I s' ec):=by
 obtain⟨A,ab,m,lg,h⟩:=h;have r2:w.cell? ⟨a,2,none⟩=some (.iface 149 (ptr ab)):=by rw[cell_of_row w a 2 _ _ (0,0) h.row];rfl
 have r3:w.cell? ⟨a,3,none⟩=some (.bool s.on):=by rw[cell_of_row w a 3 _ _ (0,0) h.row];rfl
 have d0:=zd _ _ _ _ h0;have HB:=hid (qP h.idle h.abe);have H:=hid h;have H0:=hid h0;have HF:=hid hf;have HS:=hid hs;have HS0:=hid (zr.refl h.bnd);have m1:=qL;have m2:=qA;have m3:=yg;have m4:=yY;have m5:=q7;have m6:=yS;have d1:=zd _ _ _ _ h1;have H1R:=hid h1;clear h h0 h1 hf hs;have hrt:=root_eq n;have hrt2:=root_eq rn;obtain⟨sx,hsx⟩:=zex ((⟨n.toArray⟩:ByteArray));unfold zb at d0;rw[<-hsx]at d0 hrt;have HSX:=hid hsx;clear hsx;obtain⟨sr,hsr⟩:=zex ((⟨rn.toArray⟩:ByteArray));unfold zb at d1;rw[<-hsr]at d1 hrt2;have HSR:=hid hsr;clear hsr;obtain⟨d,hd⟩:=zex (decide (s.on=true/\n=zL/\rn=zL));have hd3:(s.on && (sx.toList==[114,111,111,116]) && (sr.toList==[114,111,111,116]))=d:=by rw[hrt,hrt2,hd,Bool.eq_iff_iff];simp[and_assoc]
 have HD:=hid hd;have HD3:=hid hd3;obtain⟨son,hson⟩:∃b,s.on=b:=⟨_,rfl⟩;rw[hson]at r3 HD3;have HSON:=hid hson;have HRR:=hid hr;clear hd hd3 hrt hrt2 hson hr;go_enter_defers func176,ntmps176;go_upto_region 1 with fail
 go_cut [28]from 11 to 28 (λc wx=>w=wx/\c=.bool d)
 case first=>
  cases son
  ·have hdd:=HD3.out;rw[Bool.false_and,Bool.false_and]at hdd;subst hdd;go_wp2;go_meet;exact⟨rfl,rfl⟩
  ·cases hx1:(sx.toList==[114,111,111,116])
   ·have hdd:=HD3.out;rw[hx1,Bool.true_and,Bool.false_and]at hdd;subst hdd;go_wp2;go_meet;exact⟨rfl,by first|rfl|simp[hx1]⟩
   ·have hdd:=HD3.out;rw[hx1,Bool.true_and,Bool.true_and]at hdd;go_wp2;go_meet;exact⟨rfl,by first|exact congrArg Value.bool hdd|simp[hx1,hdd]⟩
 case rest=>
  obtain⟨rfl,rfl⟩:=hcut;cases d
  case true=>
   obtain⟨rfl,rfl⟩:s=s'/\15=ec:=by have:=HRR.out;unfold Zs at this;rw[if_pos (of_decide_eq_true HD.out.symm)]at this;cases this;exact⟨rfl,rfl⟩
   go_wp2;exact⟨_,results_tmp2 rfl _ _ _,_,rfl,l,I,zN.same_refl I,HS0.out,_,_,_,_,H.out⟩
  case false=>
   obtain⟨o,ho⟩:∃o,s.user n=o:=⟨_,rfl⟩;have hr:=HRR.out;unfold Zs at hr;rw[if_neg (of_decide_eq_false HD.out.symm),ho]at hr;have HOU:=hid (show qU zj.name s.users n=o from ho);have HRS:=hid hr;clear ho hr;go_wp2_with fail;refine HB.out.mono ?_;rintro e w1 ⟨x,rfl,hn1,hx,hax⟩;have h1:=H.out.new hn1;have HL:=hid (jk h1.idle hax);have hd:za w1 w1.drew:=(za.refl w1).drew;have j0:=hn1.le _ _ d0;have HUS:=hid ((vS (x:=x) (I:=I) (pend:=0) (pdel:=0) (us:=jL) h1.fine h1.kv).user l w1.drew n ⟨h1.idle.new hd,hax.new hd⟩ hn);have H1:=hid (h1.new hd);have HN1:=hid hn1.drew;unfold zb at HUS;rw[<-HSX.out]at HUS;clear h1 hn1 hax hd;go_wp2_with fail;refine HL.out.mono ?_;rintro e w2 ⟨rfl,rfl⟩;go_wp2_with fail;refine wp_region_noPanic ?_;go_region_with (refine HUS.out.mono ?_;rintro e w2 ⟨r,rfl,⟨hi2,hax2⟩,hm2,hg2⟩;have HALL:=hid (And.intro hi2 (And.intro hax2 (And.intro hm2 hg2)));clear hi2 hax2 hm2 hg2)
   all_goals refine NoPanic.normal ?_
   all_goals
    obtain⟨hi2,hax2,hm2,hg2⟩:=HALL.out;rw[HOU.out]at hg2;have hst2:=zB.own H1.out.bnd hm2;have h2:=H1.out.moved hst2 (zN.same_refl I) hi2;have HS2:=hid ((zr.new H.out.bnd HN1.out).trans hst2.s);have HMID:=hid (h2.mid hax2);have H2':=hid h2;have HG:=hid hg2;have hi:=yh x;clear hi2 hm2 hg2 hst2 h2 hax2;cases o with
    |none=>
     have hg:=HG.out;cases hg;obtain⟨rfl,rfl⟩:s=s'/\5=ec:=by have:=HRS.out;cases this;exact⟨rfl,rfl⟩
     go_wp2;refine leaves_cons (f:=261) (args:= #[ptr x]) (by simp) (hi _) ?_;refine(qv HMID.out.tx (by decide) qI HMID.out.atx).mono ?_;rintro e u' w'' ⟨rfl,rfl,l3,I3,hs3,hI3,hi3⟩;exact⟨_,results_tmp2 rfl _ _ _,_,rfl,l3,I3,hI3,HS2.out.trans hs3.s,_,_,_,_,H2'.out.moved hs3 hI3 hi3⟩
    |some u=>
     obtain⟨b,rfl,hbw,hua⟩:=HG.out.at H1.out.bnd;obtain⟨⟨nv,u0,u1⟩,⟨pv,u2,u3⟩,⟨yv,u4,u5⟩,ob,u6,u7⟩:=hua;obtain⟨np,nn,nc,rfl,_⟩:=u1.shape;obtain⟨pp,pn,pc,rfl,_⟩:=u3.shape;obtain⟨yp,n8,c8,rfl⟩:=u5.shape;have k0:=zd _ _ _ _ u0;have k1:=zd _ _ _ _ u2;have k2:=zd _ _ _ _ u4;have k3:=zd _ _ _ _ u6;have hnl:u.roles.length=n8:=by have:=u5.row.1;rw[List.length_map]at this;exact this
     have huk:=H2'.out.fine.uok u (qk H2'.out.fine.us HOU.out);have hn8:n8<=100:=by rw[<-hnl];exact huk.roles
     have e1:=zd _ _ _ _ (HS2.out.im_one H1R.out);unfold zb at e1;rw[<-HSR.out]at e1;have HU1:=hid u1;have HU3:=hid u3;have HU4:=hid u4;have HU5:=hid u5;have HU7:=hid u7;have HE1:=hid (HS2.out.im_one H1R.out);have HNL:=hid hnl;have HUN:=hid (((qO H2'.out.fine.us).1 HOU.out).2);obtain⟨W,hW⟩:=zex ((w2.alloc (.cells #[.slice np nn nc,.slice pp pn pc,.slice none 0 0,ptr ob] 222)).drew);have hK0:Xc w2 W w2.heap.size (.slice np nn nc) (.slice pp pn pc) (ptr ob) []:=⟨by rw[hW];exact((za.refl w2).alloc _).drew,Nat.le_refl _,.slice none 0 0,0,by rw[hW];exact zg w2 _,World.ownsRow_nil _ _ _ _,λb e=>by cases e⟩;have HK0:=hid hK0;have HW:=hid hW;clear u0 u1 u2 u3 u4 u5 u6 u7 hnl huk hK0 hW;go_upto_region 9 with fail
     refine wp_region_noPanic ?_;go_region
     all_goals refine NoPanic.normal ?_
     all_goals
      rw[<-HW.out];have hWle:(im l.some w2).le (im l.some W):=HK0.out.new.im _;have k2W:=zd _ _ _ _ (hWle _ _ HU4.out);obtain⟨ub,hube⟩:∃ub,w2.heap.size=ub:=⟨_,rfl⟩;rw[hube]at HK0;have HUBE:=hid hube;rw[hube];clear hWle hube k0 k1 k2 k3;go_wp2;go_loopw [70] (λc wr=>∃k:Nat,k<=n8/\c=.int .i64 k/\Xc w2 wr ub (.slice np nn nc) (.slice pp pn pc) (ptr ob) (yo (u.roles.take k) rn)) (λc _=>n8-(intOf c).toNat)
      case atStart=>exact⟨0,Nat.zero_le _,rfl,HK0.out⟩
      case round=>
       obtain⟨k,hk,rfl,hK⟩:=hrel;have f1:=zd _ _ _ _ (hK.new.im l.some _ _ HE1.out);unfold zb at f1;rw[<-HSR.out]at f1;by_cases hlt:k<n8
       ·obtain⟨hrl,hrc,hrm,⟨gb,go,rfl,hce⟩|h0⟩:=HU5.out.row
        case inr=>exact absurd h0 (by omega)
        have hku:k<u.roles.length:=by rw[HNL.out];exact hlt
        have ck:=zd _ _ _ _ (hK.new.im l.some _ _ (hce k (by rw[List.length_map];exact hku)));rw[List.getElem_map]at ck;obtain⟨y,hy⟩:∃y,u.roles[k]=y:=⟨_,rfl⟩;rw[hy]at ck;have htk:u.roles.take (k+1)=u.roles.take k++[y]:=by rw[<-hy,List.take_append_getElem]
        have hcmp:((⟨y.toArray⟩:ByteArray).toList !=sr.toList)= !decide (y=rn):=by rw[HSR.out,ByteArray.toList_eq,ByteArray.toList_eq,Bool.eq_iff_iff];simp
        have hcmp1:((⟨y.toArray⟩:ByteArray).toList==sr.toList)=decide (y=rn):=by rw[HSR.out,ByteArray.toList_eq,ByteArray.toList_eq,Bool.eq_iff_iff];simp
        unfold zb at ck;have hkk:(k:Int)<n8:=by omega
        have HTK:=hid htk;have HK:=hid hK;obtain⟨sy,hsy⟩:=zex ((⟨y.toArray⟩:ByteArray));rw[<-hsy]at ck hcmp hcmp1;have HSY:=hid hsy;clear hrl hce hy htk hK hsy;by_cases e9:y=rn
        ·rw[decide_eq_true e9]at hcmp hcmp1;go_wp2;go_roundw
         case rel=>exact⟨k+1,by omega,by go_num,by rw[HTK.out,ZT,if_pos e9];exact HK.out⟩
         case measure=>simp[intOf];omega
        ·rw[decide_eq_false e9]at hcmp hcmp1;obtain⟨hnew,hge,rv,m5,hrow,hown,hfr⟩:=HK.out;obtain⟨x0,x1,x2,x3,z0,z1,z2,z3⟩:=kZ hrow;have HBD:Hid ((((yo (u.roles.take k) rn).map zb).length+[Value.string sy].length)*(16+1)<=140737488355328):=hid (by
          have:=Vt (u.roles.take k) rn;rw[List.length_take]at this;rw[List.length_map,List.length_singleton];omega)
         have x2a:∀ob,(wr.alloc ob).cell? ⟨ub,2,none⟩=some rv:=λob=>za.le ((za.refl wr).alloc ob) _ _ x2;have HROW:=hid hrow;have HFR:=hid hfr;have HNEW:=hid hnew;have HOWN:=hid hown;clear hnew hrow hown hfr;go_wp2_with (at_builtin;go_must (refine qN xV rfl rfl (World.ownsRow.alloc HOWN.out _) rfl rfl (news:=[.string sy]) (Sl.made wr [.string sy] _ 1 1 rfl (by omega)) YR HBD.out ?_));intro v5 w5 ho hg hf5;obtain⟨p7,n7,c7,rfl⟩:=(Sl.of_own ho).shape;have hsy':zb y=Value.string sy:=by rw[HSY.out];rfl
         rw[<-hsy']at ho;obtain⟨hrow5,hK5⟩:=Xc.app (HNEW.out.alloc _) hge (za.heap (show za wr _ from(za.refl wr).alloc _) HROW.out) HFR.out ho hg (λb e=>(hf5 b e).imp (λe1=>e1) λe1=>Nat.le_trans (Nat.le_of_eq (Array.size_push ..)) e1);obtain⟨_,_,y2,_,_,_,y2z,_⟩:=kZ hrow5;have HK5:=hid hK5;clear ho hg hf5 hrow5 hK5;go_wp2;go_roundw
         case rel=>exact⟨k+1,by omega,by go_num,by rw[HTK.out,ZT,if_neg e9];exact HK5.out⟩
         case measure=>simp[intOf];omega
       ·have hkn:k=n8:=by omega
        subst hkn;have htk:u.roles.take u.roles.length=u.roles:=List.take_length;rw[HNL.out]at htk;rw[htk]at hK;obtain⟨hnew,hge,rv,m5,hrow,hown,hfr⟩:=id hK;obtain⟨rp,rn5,rc,rfl⟩:=(Sl.of_own hown).shape;have hrl:(yo u.roles rn).length=rn5:=by have:=(Sl.of_own hown).row.1;rw[List.length_map]at this;exact this
        obtain⟨x0,x1,x2,x3,z0,z1,z2,z3⟩:=kZ hrow;have q2:=zd _ _ _ _ (hnew.im l.some _ _ HU4.out);have HK:=hid hK;have HRL:=hid hrl;clear hK hnew hrow hown hfr hrl htk;by_cases hmem:rn∈u.roles
        ·have hlen:rn5≠k:=λe=>(Q0 u.roles rn).1 (by rw[HRL.out,HNL.out,e]) hmem;have hlen2: ¬((rn5:Int)=k):=by omega
         obtain⟨rfl,rfl⟩:s.putUser ⟨u.name,yo u.roles rn⟩=s'/\0=ec:=by have h9:(if rn∈u.roles then (s.putUser ⟨u.name,yo u.roles rn⟩,0)else (s,11))=(s',ec):=HRS.out;rw[if_pos hmem]at h9;cases h9;exact⟨rfl,rfl⟩
         have hat:jd (im l.some wr) ub ⟨u.name,yo u.roles rn⟩:=HK.out.user (λj e=>HMID.out.bnd j e) HU1.out HU3.out HU7.out;have hd9:za wr wr.drew:=(za.refl wr).drew;have hnw:za w2 wr.drew:=HK.out.new.trans hd9;have hff:=HF.out;have hfu:ya {s with users:=yT zj.name s.users ⟨u.name,yo u.roles rn⟩}:=⟨hff.us,hff.rs,hff.uok,hff.rok,hff.ul,hff.rl,H.out.fine.rev⟩;have huok:jy ⟨u.name,yo u.roles rn⟩:=hff.uok _ ((qB H.out.fine.us).2 (Or.inl rfl));have HPU:=hid (vU (HMID.out.new hnw) (by decide) (by decide) (hat.mono (hd9.im _)) huok hfu);have HSW:=hid (HS2.out.trans (zr.new HMID.out.bnd hnw));have HFR2:=hid (show s.rev+1<200 from hff.rev);clear hat hd9 hnw hff hfu huok hlen;go_wp2_with fail;refine wp_region_noPanic ?_;go_region
         all_goals refine NoPanic.normal ?_
         all_goals
          go_wp2_with fail;refine HPU.out.mono ?_;rintro e w4 ⟨rfl,l4,hs4,hm4⟩;have HS4:=hid (HSW.out.trans hs4.s);have HC4:=hid (yE hm4 (by decide) (by simp[kB,jL]) HFR2.out);clear hs4 hm4;go_wp2_with fail;refine HC4.out.mono ?_;rintro e w5 ⟨rfl,l5,A5,hs5,hm5⟩;have HS5:=hid (HS4.out.trans hs5);have HC5:=hid (qY hm5 HS.out);clear hs5 hm5;go_wp2_with fail;refine HC5.out.mono ?_;rintro e w6 ⟨rfl,l6,m6,hs6,hm6,hc6⟩;have HS6:=hid (HS5.out.trans hs6);have HM6:=hid (And.intro hm6 hc6);clear hs6 hm6 hc6;go_wp2;have hnq:∀o,za w6 (w6.alloc o):=λo=>(za.refl w6).alloc o;refine leaves_cons (f:=261) (args:= #[ptr x]) (by simp) (hi _) ?_;refine(yJ (HM6.out.1.new (hnq _)) HS.out (HM6.out.2.step HM6.out.1.bnd (zr.new HM6.out.1.bnd (hnq _))) (by decide) (jV (by decide) _)).mono ?_;rintro e u' w'' ⟨rfl,rfl,l7,I7,hI7,hs7,hs8⟩
          exact⟨_,results_tmp2 rfl _ _ _,_,rfl,l7,I7,hI7,(HS6.out.trans (zr.new HM6.out.1.bnd (hnq _))).trans hs7,hs8⟩
        ·have hlen:rn5=k:=by have:=(Q0 u.roles rn).2 hmem;rw[HRL.out,HNL.out]at this;exact this
         subst hlen;obtain⟨rfl,rfl⟩:s=s'/\11=ec:=by have h9:(if rn∈u.roles then (s.putUser ⟨u.name,yo u.roles rn⟩,0)else (s,11))=(s',ec):=HRS.out;rw[if_neg hmem]at h9;cases h9;exact⟨rfl,rfl⟩
         have hnw:za w2 wr.drew:=HK.out.new.drew;have HNW:=hid hnw;have HMN:=hid (HMID.out.new hnw);clear hnw;go_wp2_with fail;refine wp_region_noPanic ?_;go_region
         all_goals refine NoPanic.normal ?_
         all_goals
          go_wp2;refine leaves_cons (f:=261) (args:= #[ptr x]) (by simp) (hi _) ?_;refine(qv HMN.out.tx (by decide) qI HMN.out.atx).mono ?_;rintro e u' w'' ⟨rfl,rfl,l3,I3,hs3,hI3,hi3⟩;exact⟨_,results_tmp2 rfl _ _ _,_,rfl,l3,I3,hI3,(HS2.out.trans (zr.new HMID.out.bnd HNW.out)).trans hs3.s,_,_,_,_,(H2'.out.new HNW.out).moved hs3 hI3 hi3⟩
variable{o:zH}
theorem zah{s:zA}(hk:o.kind=1):s.change o=Q1 s:=by unfold zA.change Q1;rw[if_pos hk];cases s.user zL<;>rfl
theorem zai{s:zA}(hk:o.kind=2):s.change o=(Zt s,0):=by unfold zA.change Zt;rw[if_neg (by omega),if_pos hk];cases s.on<;>rfl
theorem zaj{s:zA}(hk:o.kind=3):s.change o=Zq s o.user:=by unfold zA.change Zq;rw[if_neg (by omega),if_neg (by omega),if_pos hk];rfl
theorem zak{s:zA}(hk:o.kind=4):s.change o=Zr s o.user:=by unfold zA.change Zr;rw[if_neg (by omega),if_neg (by omega),if_neg (by omega),if_pos hk];rfl
theorem zal{s:zA}(hk:o.kind=6):s.change o=Zs s o.user o.role:=by unfold zA.change Zs;rw[if_neg (by omega),if_neg (by omega),if_neg (by omega),if_neg (by omega),if_neg (by omega),if_pos hk];rfl
theorem uW{s:zA}(hk:o.kind=9):s.change o=vV s o.role:=by unfold zA.change vV;rw[if_neg (by omega),if_neg (by omega),if_neg (by omega),if_neg (by omega),if_neg (by omega),if_neg (by omega),if_pos hk];rfl
structure Small(s:zA)(k:Nat):Prop where
 us:s.users.length<=k
 rs:s.roles.length<=k
 rev:s.rev<=k+1
 un:∀u∈s.users,u.name≠[]/\u.name.length<=64/\u.roles.length<=k/\∀r∈u.roles,r.length<=64/\r≠[]
 rn:∀r∈s.roles,r.name≠[]/\r.name.length<=64/\r.perms.length<=k/\∀p∈r.perms,p.key.length<=64/\p.stop.length<=64
 su:zE zj.name s.users
 sr:zE zm.name s.roles
variable{k:Nat}
theorem Small.fine{s:zA}(h:Small s k)(hk:k<=100)(hs:yD s):ya s where
 us:=h.su
 rs:=h.sr
 uok u hu:=by obtain⟨h1,h2,h3,h4⟩:=h.un u hu;exact⟨h1,by omega,λx hx=>⟨(h4 x hx).2,by have:=(h4 x hx).1;omega⟩,by omega⟩
 rok r hr:=by
  obtain⟨h1,h2,h3,h4⟩:=h.rn r hr;refine⟨h1,by omega,λp hp=>⟨?_,?_,?_,?_⟩,by omega⟩
  ·have:=(hs.pv r hr p hp).1;omega
  ·intro e;have:=(hs.pv r hr p hp).2;rw[e]at this;simp[zT]at this
  ·have:=(h4 p hp).1;omega
  ·have:=(h4 p hp).2;omega
 ul:=by have:=h.us;omega
 rl:=by have:=h.rs;omega
 rev:=by have:=h.rev;omega
variable{α:Type}
theorem Vw{nm:α->Bytes}(l:List α)(x:α):(yT nm l x).length<=l.length+1:=by unfold yT;simp only[List.length_append,List.length_take,List.length_drop,List.length_cons,List.length_nil];omega
theorem Jt{nm:α->Bytes}(l:List α)(n:Bytes):(ym nm l n).length<=l.length:=by
 unfold ym;split
 ·simp only[List.length_append,List.length_take,List.length_drop];omega
 ·exact Nat.le_refl _
variable{j:Nat}
theorem Small.le{s:zA}(h:Small s k)(hj:k<=j):Small s j where
 us:=Nat.le_trans h.us hj
 rs:=Nat.le_trans h.rs hj
 rev:=by have:=h.rev;omega
 un u hu:=⟨(h.un u hu).1,(h.un u hu).2.1,Nat.le_trans (h.un u hu).2.2.1 hj,(h.un u hu).2.2.2⟩
 rn u hu:=⟨(h.rn u hu).1,(h.rn u hu).2.1,Nat.le_trans (h.rn u hu).2.2.1 hj,(h.rn u hu).2.2.2⟩
 su:=h.su
 sr:=h.sr
variable{u:zj}
theorem Small.putUser{s:zA}(h:Small s k)(hu:u.name≠[]/\u.name.length<=64/\u.roles.length<=k+1/\∀r∈u.roles,r.length<=64/\r≠[]):Small (s.putUser u) (k+1)where
 us:=Nat.le_trans (Vw _ _) (by have:=h.us;omega)
 rs:=by have:=h.rs;exact Nat.le_succ_of_le this
 rev:=by have:=h.rev;show s.rev+1<=_;omega
 un x hx:=by
  rcases(qB h.su).1 hx with rfl|⟨hx,_⟩
  ·exact hu
  ·exact(h.le (Nat.le_succ k)).un x hx
 rn:=(h.le (Nat.le_succ k)).rn
 su:=h.su.put _
 sr:=h.sr
theorem Small.putRole{s:zA}{u:zm}(h:Small s k)(hu:u.name≠[]/\u.name.length<=64/\u.perms.length<=k+1/\∀p∈u.perms,p.key.length<=64/\p.stop.length<=64):Small (s.putRole u) (k+1)where
 us:=by have:=h.us;exact Nat.le_succ_of_le this
 rs:=Nat.le_trans (Vw _ _) (by have:=h.rs;omega)
 rev:=by have:=h.rev;show s.rev+1<=_;omega
 un:=(h.le (Nat.le_succ k)).un
 rn x hx:=by
  rcases(qB h.sr).1 hx with rfl|⟨hx,_⟩
  ·exact hu
  ·exact(h.le (Nat.le_succ k)).rn x hx
 su:=h.su
 sr:=h.sr.put _
theorem yD.putUser{s:zA}(h:yD s)(hs:zE zj.name s.users)(hu:zM u.roles):yD (s.putUser u)where
 pv:=h.pv
 ps:=h.ps
 ur x hx:=by
  rcases(qB hs).1 hx with rfl|⟨hx,_⟩
  ·exact hu
  ·exact h.ur x hx
 on2 e:=by have:=h.on2 e;show 2<=s.rev+1;omega
 pos:=by show 1<=s.rev+1;omega
theorem yD.putRole{s:zA}{u:zm}(h:yD s)(hs:zE zm.name s.roles)(hu:∀p∈u.perms,p.kind<=2/\zT p.key p.stop=true)(hp:u.perms.Pairwise λa b=> ¬zt b.key a.key<0):yD (s.putRole u)where
 pv x hx:=by
  rcases(qB hs).1 hx with rfl|⟨hx,_⟩
  ·exact hu
  ·exact h.pv x hx
 ps x hx:=by
  rcases(qB hs).1 hx with rfl|⟨hx,_⟩
  ·exact hp
  ·exact h.ps x hx
 ur:=h.ur
 on2 e:=by have:=h.on2 e;show 2<=s.rev+1;omega
 pos:=by show 1<=s.rev+1;omega
theorem Y4{l:List Bytes}(h:zM l)(x:Bytes):zM (yo l x):=List.Pairwise.filter _ h
theorem uX{l:List Bytes}(h:zM l)(x:Bytes):zM (vY l x):=by
 have hs:zE id l:=by unfold zE;rw[List.map_id];exact h
 have h2:=hs.put x;unfold zE at h2;rw[List.map_id]at h2;exact h2
theorem Y5{p x:zh}:∀{l:List zh},x∈Qa p l↔x=p\/x∈l
 |[]=>by simp[Qa]
 |q::l=>by
  unfold Qa;split
  ·simp
  ·simp only[List.mem_cons,Y5 (l:=l)];constructor
   ·rintro(e|e|e)
    ·exact Or.inr (Or.inl e)
    ·exact Or.inl e
    ·exact Or.inr (Or.inr e)
   ·rintro(e|e|e)
    ·exact Or.inr (Or.inl e)
    ·exact Or.inl e
    ·exact Or.inr (Or.inr e)
theorem QI{p:zh}:∀{l:List zh},(l.Pairwise λa b=> ¬zt b.key a.key<0)->(Qa p l).Pairwise λa b=> ¬zt b.key a.key<0
 |[],_=>by simp[Qa]
 |q::l,h=>by
  have hq:=List.pairwise_cons.1 h;unfold Qa;split
  ·rename_i hlt;refine List.pairwise_cons.2 ⟨λb hb e=> ?_,h⟩;rcases List.mem_cons.1 hb with rfl|hb
   ·exact y9 hlt e
   ·exact hq.1 b hb (qM e hlt)
  ·rename_i hge;refine List.pairwise_cons.2 ⟨λb hb=> ?_,QI hq.2⟩;rcases Y5.1 hb with rfl|hb
   ·exact hge
   ·exact hq.1 b hb
variable{p:zh}
theorem uY{l:List zh}{x:zh}(h:x∈je l p):x=p\/x∈l:=by
 unfold je at h;split at h
 ·rename_i q hq;split at h
  ·rename_i hc;obtain⟨j,hj,e⟩:=List.getElem_of_mem h;rw[List.getElem_set]at e;split at e
   ·left;rw[<-e,hc.1,hc.2]
   ·right;rw[<-e];exact List.getElem_mem _
  ·exact Y5.1 h
 ·exact Y5.1 h
theorem Vx(p:zh):∀l,(Qa p l).length=l.length+1
 |[]=>rfl
 |q::l=>by
  unfold Qa;split
  ·rfl
  ·simp[Vx p l]
theorem uZ(l:List zh)(p:zh):(je l p).length<=l.length+1:=by
 unfold je;split
 ·split
  ·rw[List.length_set];omega
  ·exact Nat.le_of_eq (Vx p l)
 ·exact Nat.le_of_eq (Vx p l)
theorem u_{l:List zh}(h:l.Pairwise λa b=> ¬zt b.key a.key<0):(je l p).Pairwise λa b=> ¬zt b.key a.key<0:=by
 unfold je;split
 ·rename_i q hq;split
  ·have hk:(l.set (ZR l p) {q with kind:=p.kind}).map (·.key)=l.map (·.key):=by
    apply List.ext_getElem?;intro i;rw[List.getElem?_map,List.getElem?_map,List.getElem?_set];split
    ·rename_i e;subst e;rw[hq];have:=(List.getElem?_eq_some_iff.1 hq).1;simp[this]
    ·rfl
   have h1:(l.map (·.key)).Pairwise λa b=> ¬zt b a<0:=List.pairwise_map.2 h;rw[<-hk]at h1;exact List.pairwise_map.1 h1
  ·exact QI h
 ·exact QI h
theorem gX{l:List zh}(h:l.Pairwise λa b=> ¬zt b.key a.key<0)(k e:Bytes):(jj l k e).Pairwise λa b=> ¬zt b.key a.key<0:=List.Pairwise.filter _ h
theorem XS{l:List zh}{k e:Bytes}{x:zh}(h:x∈jj l k e):x∈l:=(List.mem_filter.1 h).1
theorem XT(l:List zh)(k e:Bytes):(jj l k e).length<=l.length:=List.length_filter_le ..
theorem zam(l:List Bytes)(x:Bytes):(vY l x).length<=l.length+1:=Vw _ _
theorem zan{l:List Bytes}(h:zM l){x y:Bytes}(hy:y∈vY l x):y=x\/y∈l:=by
 have hs:zE id l:=by unfold zE;rw[List.map_id];exact h
 rcases(qB hs).1 hy with e|e
 ·exact Or.inl e
 ·exact Or.inr e.1
theorem XU{l:List Bytes}{x y:Bytes}(hy:y∈yo l x):y∈l:=(List.mem_filter.1 hy).1
theorem Small.user{s:zA}(h:Small s k){n:Bytes}(hu:s.user n=some u):u∈s.users/\u.name=n:=(qO h.su).1 hu
theorem Small.role{s:zA}(h:Small s k){n:Bytes}{u:zm}(hu:s.role n=some u):u∈s.roles/\u.name=n:=(qO h.sr).1 hu
structure zH.fits(o:zH):Prop where
 user:o.user.length<=64
 role:o.role.length<=64
 key:o.key.length<=64
 stop:o.stop.length<=64
 pk:o.kind=11->0<=o.pk/\o.pk<=2
theorem zbP{s:zA}(h:Small s k)(hs:yD s)(ho:o.fits)(hu:s.user o.user=some u)(hr0:o.role≠[]):Small (s.putUser ⟨u.name,vY u.roles o.role⟩) (k+1)/\yD (s.putUser ⟨u.name,vY u.roles o.role⟩):=by
 obtain⟨hm,hn⟩:=h.user hu;obtain⟨h1,h2,h3,h4⟩:=h.un u hm;refine⟨h.putUser ⟨h1,h2,Nat.le_trans (zam _ _) (by omega),λr hr=> ?_⟩,hs.putUser h.su (uX (hs.ur u hm) _)⟩;rcases zan (hs.ur u hm) hr with rfl|hr
 ·exact⟨ho.role,hr0⟩
 ·exact h4 r hr
theorem zbQ{s:zA}(h:Small s k)(hs:yD s)(hu:s.user o.user=some u):Small (s.putUser ⟨u.name,yo u.roles o.role⟩) (k+1)/\yD (s.putUser ⟨u.name,yo u.roles o.role⟩):=by obtain⟨hm,hn⟩:=h.user hu;obtain⟨h1,h2,h3,h4⟩:=h.un u hm;exact⟨h.putUser ⟨h1,h2,Nat.le_trans (List.length_filter_le ..) (by omega),λr hr=>h4 r (XU hr)⟩,hs.putUser h.su (Y4 (hs.ur u hm) _)⟩
theorem zao{s:zA}(h:Small s k)(hs:yD s)(ho:o.fits)(hk:o.kind=11){r:zm}(hr:s.role o.role=some r)(hv:zT o.key o.stop=true):Small (s.putRole ⟨r.name,je r.perms ⟨o.pk.toNat,o.key,o.stop⟩⟩) (k+1)/\yD (s.putRole ⟨r.name,je r.perms ⟨o.pk.toNat,o.key,o.stop⟩⟩):=by
 obtain⟨hm,hn⟩:=h.role hr;obtain⟨h1,h2,h3,h4⟩:=h.rn r hm;have hpk:=ho.pk hk;refine⟨h.putRole ⟨h1,h2,Nat.le_trans (uZ _ _) (by omega),λp hp=> ?_⟩,hs.putRole h.sr (λp hp=> ?_) (u_ (hs.ps r hm))⟩
 ·rcases uY hp with rfl|hp
  ·exact⟨ho.key,ho.stop⟩
  ·exact h4 p hp
 ·rcases uY hp with rfl|hp
  ·exact⟨by show o.pk.toNat<=2;omega,hv⟩
  ·exact hs.pv r hm p hp
theorem zap{s:zA}(h:Small s k)(hs:yD s){r:zm}(hr:s.role o.role=some r):Small (s.putRole ⟨r.name,jj r.perms o.key o.stop⟩) (k+1)/\yD (s.putRole ⟨r.name,jj r.perms o.key o.stop⟩):=by obtain⟨hm,hn⟩:=h.role hr;obtain⟨h1,h2,h3,h4⟩:=h.rn r hm;exact⟨h.putRole ⟨h1,h2,Nat.le_trans (XT _ _ _) (by omega),λp hp=>h4 p (XS hp)⟩,hs.putRole h.sr (λp hp=>hs.pv r hm p (XS hp)) (gX (hs.ps r hm) _ _)⟩
structure Ok(s:zA)(k:Nat):Prop where
 small:Small s k
 sane:yD s
 seen:s.users=[]\/2<=s.rev
theorem Ok.le{s:zA}(h:Ok s k)(hj:k<=j):Ok s j:=⟨h.small.le hj,h.sane,h.seen⟩
theorem zdZ{s:zA}(h:Ok s k)(hu:s.user zL=some u):Ok {s with on:=true} k:=by
 have hm:=(h.small.user hu).1;have h2:2<=s.rev:=by
  rcases h.seen with e|e
  ·rw[e]at hm;cases hm
  ·exact e
 exact⟨⟨h.small.us,h.small.rs,h.small.rev,h.small.un,h.small.rn,h.small.su,h.small.sr⟩,⟨h.sane.pv,h.sane.ps,h.sane.ur,λ_=>h2,h.sane.pos⟩,h.seen⟩
theorem zde{s:zA}(h:Ok s k):Ok {s with on:=false,rev:=s.rev+1} (k+1):=by have h':=h.small.le (Nat.le_succ k);have hr:=h.small.rev;have hp:=h.sane.pos;exact⟨⟨h'.us,h'.rs,by show s.rev+1<=_;omega,h'.un,h'.rn,h'.su,h'.sr⟩,⟨h.sane.pv,h.sane.ps,h.sane.ur,λe=>(by cases e),by show 1<=s.rev+1;omega⟩,Or.inr (by show 2<=s.rev+1;omega)⟩
theorem YB{s:zA}(h:Ok s k)(h1:Small (s.putUser u) (k+1)/\yD (s.putUser u)):Ok (s.putUser u) (k+1):=⟨h1.1,h1.2,Or.inr (by have:=h.sane.pos;show 2<=s.rev+1;omega)⟩
theorem YC{s:zA}{u:zm}(h:Ok s k)(h1:Small (s.putRole u) (k+1)/\yD (s.putRole u)):Ok (s.putRole u) (k+1):=⟨h1.1,h1.2,Or.inr (by have:=h.sane.pos;show 2<=s.rev+1;omega)⟩
theorem zer{s:zA}{n:Bytes}(h:Ok s k)(hn:n.length<=64)(h0:n≠[]):Ok (s.putUser ⟨n,[]⟩) (k+1):=
 YB h ⟨h.small.putUser ⟨h0,hn,Nat.zero_le _,λr hr=>(by cases hr)⟩,h.sane.putUser h.small.su List.Pairwise.nil⟩
theorem zes{s:zA}{n:Bytes}(h:Ok s k)(hn:n.length<=64)(h0:n≠[]):Ok (s.putRole ⟨n,[]⟩) (k+1):=
 YC h ⟨h.small.putRole ⟨h0,hn,Nat.zero_le _,λr hr=>(by cases hr)⟩,h.sane.putRole h.small.sr (λp hp=>by cases hp) List.Pairwise.nil⟩
theorem zet{s:zA}{n:Bytes}(h:Ok s k):Ok {s with users:=ym zj.name s.users n,rev:=s.rev+1} (k+1):=by have h':=h.small.le (Nat.le_succ k);have hr:=h.small.rev;have hp:=h.sane.pos;refine⟨⟨Nat.le_trans (Jt _ _) h'.us,h'.rs,by show s.rev+1<=_;omega,λu hu=>h'.un u ((ji h.small.su).1 hu).1,h'.rn,h.small.su.drop _,h'.sr⟩,⟨h.sane.pv,h.sane.ps,λu hu=>h.sane.ur u ((ji h.small.su).1 hu).1,λe=>by have:=h.sane.on2 e;show 2<=s.rev+1;omega,by show 1<=s.rev+1;omega⟩,Or.inr (by show 2<=s.rev+1;omega)⟩
theorem zd0{s:zA}{n:Bytes}(h:Ok s k):Ok {s with roles:=ym zm.name s.roles n,users:=s.users.map λu=>⟨u.name,yo u.roles n⟩,rev:=s.rev+1} (k+1):=by
 have h':=h.small.le (Nat.le_succ k);have hr:=h.small.rev;have hp:=h.sane.pos;have hsu:zE zj.name (s.users.map λu=>(⟨u.name,yo u.roles n⟩:zj)):=by unfold zE;rw[List.map_map];exact h.small.su
 refine⟨⟨by show(s.users.map _).length<=_;rw[List.length_map];exact h'.us,Nat.le_trans (Jt _ _) h'.rs,by show s.rev+1<=_;omega,λu hu=> ?_,λr hr=>h'.rn r ((ji h.small.sr).1 hr).1,hsu,h.small.sr.drop _⟩,⟨λr hr=>h.sane.pv r ((ji h.small.sr).1 hr).1,λr hr=>h.sane.ps r ((ji h.small.sr).1 hr).1,λu hu=> ?_,λe=>by have:=h.sane.on2 e;show 2<=s.rev+1;omega,by show 1<=s.rev+1;omega⟩,Or.inr (by show 2<=s.rev+1;omega)⟩
 ·obtain⟨v,hv,rfl⟩:=List.mem_map.1 hu;obtain⟨h1,h2,h3,h4⟩:=h'.un v hv;exact⟨h1,h2,Nat.le_trans (List.length_filter_le ..) h3,λr hr=>h4 r (XU hr)⟩
 ·obtain⟨v,hv,rfl⟩:=List.mem_map.1 hu;exact Y4 (h.sane.ur v hv) _
theorem Ok.start:Ok zA.start 0:=⟨⟨Nat.le_refl _,Nat.le_refl _,Nat.le_refl _,λu hu=>(by cases hu),λu hu=>(by cases hu),List.Pairwise.nil,List.Pairwise.nil⟩,⟨λu hu=>(by cases hu),λu hu=>(by cases hu),λu hu=>(by cases hu),λe=>(by cases e),Nat.le_refl _⟩,Or.inl rfl⟩
theorem XV{s:zA}(h:Ok s k)(ho:o.fits):Ok (s.change o).1 (k+1):=by
 have hle:=h.le (Nat.le_succ k);unfold zA.change;by_cases hk1:o.kind=1
 ·rw[if_pos hk1];split
  ·exact hle
  ·split
   ·exact hle
   ·rename_i u hu;split
    ·exact(zdZ h hu).le (Nat.le_succ k)
    ·exact hle
 rw[if_neg hk1];by_cases hk2:o.kind=2
 ·rw[if_pos hk2];split
  ·exact zde h
  ·exact hle
 rw[if_neg hk2];by_cases hk3:o.kind=3
 ·rw[if_pos hk3];split
  ·exact hle
  ·rename_i h0;split
   ·exact hle
   ·exact zer h ho.user h0
 rw[if_neg hk3];by_cases hk4:o.kind=4
 ·rw[if_pos hk4];split
  ·exact hle
  ·split
   ·exact hle
   ·exact zet h
 rw[if_neg hk4];by_cases hk5:o.kind=5
 ·rw[if_pos hk5];split
  ·exact hle
  ·rename_i u hu;split
   ·exact hle
   ·rename_i hr;split
    ·exact hle
    ·refine YB h (zbP h.small h.sane ho hu λe=>hr ⟨?_,?_⟩)
     ·rw[e];decide
     ·cases hq:s.role o.role with
      |none=>rfl
      |some r=>have:=h.small.role hq;exact absurd (this.2.trans e) (h.small.rn r this.1).1
 rw[if_neg hk5];by_cases hk6:o.kind=6
 ·rw[if_pos hk6];split
  ·exact hle
  ·split
   ·exact hle
   ·rename_i u hu;split
    ·exact YB h (zbQ h.small h.sane hu)
    ·exact hle
 rw[if_neg hk6];by_cases hk9:o.kind=9
 ·rw[if_pos hk9];split
  ·exact hle
  ·rename_i h0;split
   ·exact hle
   ·exact zes h ho.role h0
 rw[if_neg hk9];by_cases hk10:o.kind=10
 ·rw[if_pos hk10];split
  ·exact hle
  ·split
   ·exact hle
   ·exact zd0 h
 rw[if_neg hk10];by_cases hk11:o.kind=11
 ·rw[if_pos hk11];split
  ·exact hle
  ·split
   ·exact hle
   ·rename_i hv;split
    ·exact hle
    ·rename_i r hr;exact YC h (zao h.small h.sane ho hk11 hr (by simpa using hv))
 rw[if_neg hk11];by_cases hk12:o.kind=12
 ·rw[if_pos hk12];split
  ·exact hle
  ·rename_i r hr;split
   ·exact hle
   ·exact YC h (zap h.small h.sane hr)
 rw[if_neg hk12];exact hle
theorem zbR{s:zA}(h:Ok s k)(ho:o.fits):Ok (s.step o).1 (k+1):=by
 have hle:=h.le (Nat.le_succ k);unfold zA.step;simp only[];split
 ·exact hle
 split
 ·exact hle
 split
 ·exact hle
 split
 ·exact hle
 split
 ·exact hle
 split
 ·exact hle
 exact XV h ho
noncomputable def zA.after(s:zA)(l:List zH):zA:=l.foldl (λs o=>(s.step o).1) s
theorem YD(l m:List zH):∀s:zA,s.run (l++m)=s.run l++(s.after l).run m:=by
 induction l with
 |nil=>intro s;rfl
 |cons o l ih=>intro s;show(s.step o).2::(s.step o).1.run (l++m)=_;rw[ih];rfl
theorem zbS(l:List zH):∀s:zA,(s.run l).length=l.length:=by
 induction l with
 |nil=>intro s;rfl
 |cons o l ih=>intro s;show((s.step o).1.run l).length+1=_;rw[ih];rfl
def zH.asks(o:zH):Prop:=o.kind=7\/o.kind=8\/13<=o.kind/\o.kind<=19
instance(o:zH):Decidable o.asks:=by unfold zH.asks;infer_instance
theorem Q2{s:zA}(h:o.asks):(s.step o).1=s/\(s.step o).2.rev=s.rev/\(s.step o).2.on=s.on:=by
 have hc:s.change o=(s,0):=by unfold zA.change;rw[if_neg (by unfold zH.asks at h;omega),if_neg (by unfold zH.asks at h;omega),if_neg (by unfold zH.asks at h;omega),if_neg (by unfold zH.asks at h;omega),if_neg (by unfold zH.asks at h;omega),if_neg (by unfold zH.asks at h;omega),if_neg (by unfold zH.asks at h;omega),if_neg (by unfold zH.asks at h;omega),if_neg (by unfold zH.asks at h;omega),if_neg (by unfold zH.asks at h;omega)]
 unfold zA.step;simp only[hc];by_cases h7:o.kind=7
 ·rw[if_pos h7];cases s.user o.user<;>exact⟨rfl,rfl,rfl⟩
 rw[if_neg h7];by_cases h8:o.kind=8
 ·rw[if_pos h8];exact⟨rfl,rfl,rfl⟩
 rw[if_neg h8];by_cases h13:o.kind=13
 ·rw[if_pos h13];cases s.role o.role<;>exact⟨rfl,rfl,rfl⟩
 rw[if_neg h13];by_cases h14:o.kind=14
 ·rw[if_pos h14];exact⟨rfl,rfl,rfl⟩
 rw[if_neg h14];by_cases h15:o.kind=15\/o.kind=16\/o.kind=17\/o.kind=18
 ·rw[if_pos h15];exact⟨rfl,rfl,rfl⟩
 rw[if_neg h15];by_cases h19:o.kind=19
 ·rw[if_pos h19];exact⟨rfl,rfl,rfl⟩
 exfalso;unfold zH.asks at h;omega
theorem yy{s:zA}(h: ¬o.asks):s.step o=((s.change o).1,⟨(s.change o).2,(s.change o).1.rev,(s.change o).1.on,false,[],[]⟩):=by unfold zH.asks at h;unfold zA.step;rw[if_neg (by omega),if_neg (by omega),if_neg (by omega),if_neg (by omega),if_neg (by omega),if_neg (by omega)]
theorem XW{s:zA}(h:20<=o.kind):s.step o=(s,⟨0,s.rev,s.on,false,[],[]⟩):=by
 have h1:s.change o=(s,0):=by unfold zA.change;rw[if_neg (by omega),if_neg (by omega),if_neg (by omega),if_neg (by omega),if_neg (by omega),if_neg (by omega),if_neg (by omega),if_neg (by omega),if_neg (by omega),if_neg (by omega)]
 rw[yy (by unfold zH.asks;omega),h1]
theorem zdg{n:Bytes}(h:DD n):zt n [255]<0:=by
 unfold DD at h;cases n with
 |nil=>decide
 |cons a l=>
  have ha:a≠255:=λe=>h (by rw[e];rfl);have:a<255:=by rw[UInt8.lt_iff_toNat_lt];have h1:=a.toNat_lt;have h2:a.toNat≠255:=λe=>ha (UInt8.toNat_inj.1 (by rw[e];rfl));show a.toNat<255;omega
  unfold zt;rw[if_pos this];decide
structure Xg(s:zA)(g:Nat):Prop where
 names:∀r∈s.roles,zt r.name [255]<0
 few:∀r∈s.roles,r.perms.length<=g
theorem Xg.le{s:zA}{g:Nat}(h:Xg s g)(hj:g<=j):Xg s j:=⟨h.names,λr hr=>Nat.le_trans (h.few r hr) hj⟩
theorem Xg.same{s t:zA}{g:Nat}(h:Xg s g)(e:t.roles=s.roles):Xg t g:=⟨by rw[e];exact h.names,by rw[e];exact h.few⟩
theorem Xg.put{s:zA}{g:Nat}{u:zm}(h:Xg s g)(hs:zE zm.name s.roles)(hu:zt u.name [255]<0)(hp:u.perms.length<=g):Xg (s.putRole u) g where
 names x hx:=by
  rcases(qB hs).1 hx with rfl|⟨hx,_⟩
  ·exact hu
  ·exact h.names x hx
 few x hx:=by
  rcases(qB hs).1 hx with rfl|⟨hx,_⟩
  ·exact hp
  ·exact h.few x hx
theorem fd{nm:α->Bytes}{l:List α}{n:Bytes}{x:α}(h:x∈ym nm l n):x∈l:=by
 unfold ym at h;split at h
 ·rcases List.mem_append.1 h with h|h
  ·exact List.mem_of_mem_take h
  ·exact List.mem_of_mem_drop h
 ·exact h
def zH.g(o:zH):Nat:=if o.kind=11 then 1 else 0
theorem UU{s:zA}{g:Nat}(h:Ok s k)(hf:Xg s g)(hr:DD o.role):Xg (s.change o).1 (g+o.g):=by
 have hle:=hf.le (Nat.le_add_right g o.g);have hsr:=h.small.sr;unfold zA.change;by_cases hk1:o.kind=1
 ·rw[if_pos hk1];split
  ·exact hle
  ·split
   ·exact hle
   ·split
    ·exact hle.same rfl
    ·exact hle
 rw[if_neg hk1];by_cases hk2:o.kind=2
 ·rw[if_pos hk2];split
  ·exact hle.same rfl
  ·exact hle
 rw[if_neg hk2];by_cases hk3:o.kind=3
 ·rw[if_pos hk3];split
  ·exact hle
  ·split
   ·exact hle
   ·exact hle.same rfl
 rw[if_neg hk3];by_cases hk4:o.kind=4
 ·rw[if_pos hk4];split
  ·exact hle
  ·split
   ·exact hle
   ·exact hle.same rfl
 rw[if_neg hk4];by_cases hk5:o.kind=5
 ·rw[if_pos hk5];split
  ·exact hle
  ·split
   ·exact hle
   ·split
    ·exact hle
    ·exact hle.same rfl
 rw[if_neg hk5];by_cases hk6:o.kind=6
 ·rw[if_pos hk6];split
  ·exact hle
  ·split
   ·exact hle
   ·split
    ·exact hle.same rfl
    ·exact hle
 rw[if_neg hk6];by_cases hk9:o.kind=9
 ·rw[if_pos hk9];split
  ·exact hle
  ·split
   ·exact hle
   ·exact hle.put hsr (zdg hr) (Nat.zero_le _)
 rw[if_neg hk9];by_cases hk10:o.kind=10
 ·rw[if_pos hk10];split
  ·exact hle
  ·split
   ·exact hle
   ·exact⟨λr h=>hle.names r (fd h),λr h=>hle.few r (fd h)⟩
 rw[if_neg hk10];by_cases hk11:o.kind=11
 ·rw[if_pos hk11];split
  ·exact hle
  ·split
   ·exact hle
   ·split
    ·exact hle
    ·rename_i r e;obtain⟨hm,_⟩:=h.small.role e;refine hle.put hsr (hle.names r hm) (Nat.le_trans (uZ _ _) ?_);have:=hf.few r hm;unfold zH.g;rw[if_pos hk11];omega
 rw[if_neg hk11];by_cases hk12:o.kind=12
 ·rw[if_pos hk12];split
  ·exact hle
  ·rename_i r e;obtain⟨hm,_⟩:=h.small.role e;split
   ·exact hle
   ·exact hle.put hsr (hle.names r hm) (Nat.le_trans (XT _ _ _) (hle.few r hm))
 rw[if_neg hk12];exact hle
theorem zav{s:zA}{g:Nat}(h:Ok s k)(hf:Xg s g)(hr:DD o.role):Xg (s.step o).1 (g+o.g):=by
 by_cases ha:o.asks
 ·rw[(Q2 (s:=s) ha).1];exact hf.le (Nat.le_add_right _ _)
 ·rw[yy ha];exact UU h hf hr
theorem Xg.start:Xg zA.start 0:=⟨λr h=>(by cases h),λr h=>(by cases h)⟩
theorem Y6{α:Type}{nm:α->Bytes}:∀{l:List α} (_:zE nm l) {k:Nat} (hk:k<l.length) {x:α} (_:nm x=nm l[k]),yT nm l x=l.set k x
 |[],_,k,hk,_,_=>absurd hk (Nat.not_lt_zero _)
 |z::l,h,0,_,x,hx=>by have hx:nm x=nm z:=hx;rw[kh,if_neg (by rw[hx];exact zI _),if_pos hx.symm];rfl
 |z::l,h,k+1,hk,x,hx=>by
  have hk':k<l.length:=by simpa using hk
  have hx':nm x=nm l[k]:=hx;rw[kh,if_pos (by rw[hx'];exact h.head (List.getElem_mem hk')),Y6 h.tail hk' hx'];rfl
def zQ(f:zj->zj)(us:List zj)(k:Nat):List zj:=(us.take k).map f++us.drop k
theorem DF(f:zj->zj)(us:List zj):zQ f us 0=us:=by simp[zQ]
theorem zaw(f:zj->zj)(us:List zj):zQ f us us.length=us.map f:=by simp[zQ]
theorem VA(f:zj->zj)(us:List zj)(k:Nat)(hk:k<=us.length):(zQ f us k).length=us.length:=by simp only[zQ,List.length_append,List.length_map,List.length_take,List.length_drop];omega
theorem VB(f:zj->zj)(hf:∀u,(f u).name=u.name)(us:List zj)(k:Nat):(zQ f us k).map (·.name)=us.map (·.name):=by unfold zQ;rw[List.map_append,List.map_map,show(λx=>x.name)∘f=(λx:zj=>x.name)from funext hf,<-List.map_append,List.take_append_drop]
theorem KA?(f:zj->zj)(us:List zj)(k:Nat)(hk:k<us.length):(zQ f us k)[k]? =some us[k]:=by unfold zQ;rw[List.getElem?_append_right (by simp;omega)];rw[List.length_map,List.length_take,Nat.min_eq_left (Nat.le_of_lt hk),Nat.sub_self,List.getElem?_drop,Nat.add_zero,List.getElem?_eq_getElem hk]
theorem KA(f:zj->zj)(us:List zj)(k:Nat)(hk:k<us.length)(h:k<(zQ f us k).length):(zQ f us k)[k]=us[k]:=by have:=KA? f us k hk;rw[List.getElem?_eq_getElem h]at this;exact Option.some.inj this
theorem XX(f:zj->zj)(us:List zj)(k:Nat)(hk:k<us.length):zQ f us (k+1)=(zQ f us k).set k (f us[k]):=by unfold zQ;rw[List.take_succ_eq_append_getElem hk,List.map_append,List.set_append_right _ _ (by simp;omega)];rw[List.length_map,List.length_take,Nat.min_eq_left (Nat.le_of_lt hk),Nat.sub_self,List.append_assoc];congr 1;rw[List.drop_eq_getElem_cons hk];rfl
theorem zax{f:zj->zj}(hf:∀u,(f u).name=u.name){us:List zj}(hs:zE zj.name us)(hk:k<us.length):yT zj.name (zQ f us k) (f us[k])=zQ f us (k+1):=by
 have hlen:=VA f us k (Nat.le_of_lt hk);have hs':zE zj.name (zQ f us k):=by unfold zE;have:=VB f hf us k;rw[show(zQ f us k).map zj.name=us.map zj.name from this];exact hs
 rw[XX f us k hk];exact Y6 hs' (by omega) (by rw[hf,KA f us k hk (by omega)])
theorem DG{f:zj->zj}{us:List zj}(hk:k<us.length)(h:f us[k]=us[k]):zQ f us (k+1)=zQ f us k:=by
 rw[XX f us k hk,h];have hlen:=VA f us k (Nat.le_of_lt hk);apply List.ext_getElem?;intro i;rw[List.getElem?_set];split
 ·rename_i e;subst e;rw[if_pos (by omega),List.getElem?_eq_getElem (by omega),KA f us _ hk (by omega)]
 ·rfl
end Go.Proofs.YtbmdoinjkligiaaGreat
