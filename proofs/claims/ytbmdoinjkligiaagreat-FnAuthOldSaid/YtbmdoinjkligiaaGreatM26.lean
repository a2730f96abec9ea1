/- Contracts and laws that the last text joins. -/
import Derived.Test.YtbmdoinjkligiaaGreatM24
set_option maxRecDepth 100000
set_option maxHeartbeats 40000000
set_option linter.all false
namespace Go.Proofs.YtbmdoinjkligiaaGreat
open Tryz
open Lib(hid)
open Go.RowKit
theorem VG(a:Nat)(W:World):(method 608 142 (ptr a) "RoleAdd").run prog W=.ok (165,ptr a) W:=by kernel_rfl
variable{a ec x:Nat}{l:zu}{o:zH}{s':zA}
theorem fA{w:World}{I:zN}{s:zA}(h:Wd l w x I a s)(hk:o.kind=9)(hr:vV s o.role=(s',ec))(hn:o.role.length<=1000)(hf:ya s')(hs:yD s'):
  Calls prog 42 #[ptr x,o.val] w (Yd l w x I s' ec):=by
 obtain⟨ki,us,ro,pk,ke,st,np,od,nu⟩:=o;dsimp only at hk hr hn;subst hk;unfold zH.val zH.cells;dsimp only;obtain⟨c0,c1,c2,_⟩:=vZ h.row;obtain⟨rx,hrx⟩:∃z,zb ro=.string z:=⟨_,rfl⟩;obtain⟨cc,hcc⟩:=zex (#[.int .i64 9,zb us,zb ro,.int .i64 pk,zb ke,zb st,.bool np,.int .i64 od,.bool nu]);obtain⟨w1,hw1⟩:=zex (w.alloc (.cells cc 35));have hn1:za w w1:=by rw[hw1];exact(za.refl w).alloc _
 have hs1:w1.heap.size=w.heap.size+1:=by rw[hw1];exact Array.size_push ..
 have hb0:w1.heap[w.heap.size]? =some (.cells cc 35 (0,0)):=by rw[hw1];exact zg w _
 have d2:=hn1.le _ _ c2;have g0:w1.cell? ⟨w.heap.size,0,none⟩=some (.int .i64 9):=by rw[cell_of_row w1 _ 0 _ _ (0,0) hb0,hcc];rfl
 have g2:w1.cell? ⟨w.heap.size,2,none⟩=some (.string rx):=by rw[cell_of_row w1 _ 2 _ _ (0,0) hb0,hcc,hrx];rfl
 obtain⟨w3,hw3⟩:=zex (w1.alloc (.cells #[.string rx] 185));have hn3:za w1 w3:=by rw[hw3];exact(za.refl w1).alloc _
 have hb3:w3.heap[w1.heap.size]? =some (.cells #[.string rx] 185 (0,0)):=by rw[hw3];exact zg w1 _
 have hall:=hn1.trans hn3;have hz0:l w.heap.size=0:=by
  by_cases e:l w.heap.size=0
  ·exact e
  ·have:=h.st.bnd _ e;omega
 have hz1: ¬l.some w1.heap.size:=λe=>by have:=h.st.bnd _ e;omega
 have hC:∀W,(W=w3\/W=w3.drew)->Calls prog 165 #[ptr a,ptr w1.heap.size] W λe w'=>∃v,e=.returned (.tuple #[v,ze ec])/\(∃l' I' a',I'.db=I.db/\qG l w l' w'/\Wd l' w' x I' a' s')/\w'.cell? ⟨x,2,none⟩=some (.iface 142 (ptr a))/\w'.cell? ⟨w.heap.size,2,none⟩=some (.string rx):=λW hW=>by
  have hb:W.heap=w3.heap:=by rcases hW with rfl|rfl<;>rfl
  have hnW:za w W:=by
   rcases hW with rfl|rfl
   ·exact hall
   ·exact hall.drew
  refine(UP (h.new hnW).st hr hn (rb:=w1.heap.size) (zi.2 ⟨hz1,?_⟩) hf hs).mono λe w' hc=> ?_
  rotate_left 1
  ·obtain⟨v,he,hend,k2,kp⟩:=VZ.w h hnW hc;have hb9:W.heap[w.heap.size]? =w1.heap[w.heap.size]? :=by
    rw[hb,hn3.block w.heap.size (by omega) (λe=>e)]
   exact⟨v,he,hend,k2,kp _ _ hz0 (by rw[World.cell?_of_block hb9];exact g2)⟩
  ·rw[hrx,cell_of_row W w1.heap.size 0 _ _ (0,0) (by rw[hb];exact hb3)];rfl
 have hC2:=hC _ (Or.inr rfl);rw[hs1,hw3]at hC2;have HC:=hid hC2;have HW1:=hid hw1;have HCC:=hid hcc;have HRX:=hid hrx;have hme:=VG a;clear h hcc hrx hn1 hn3 hb3 hall hz0 hz1 hC hC2 hr hf hs hb0 hw3;obtain⟨ob,hob⟩:=zex (w.heap.size);rw[<-hob]at g0 g2;have HOB:=hid hob;go_enter func42,ntmps42;go_upto_region 2 with fail
 rw[<-HCC.out,<-HW1.out,<-hob];clear c0 c1 c2 hob hw1;obtain⟨va,hva⟩:=zex (Value.agg cc);rw[<-hva];clear hva;go_wp2_with fail;go_region_held3 (λw'=>w'.cell? ⟨x,2,none⟩=some (.iface 142 (ptr a))/\w'.cell? ⟨ob,2,none⟩=some (.string rx)) (go_keep) (first|(go_at_call 165;refine HC.out.mono ?_;rintro e w9 ⟨v,rfl,hend,k2,k2x⟩;rw[<-HOB.out]at k2x;have HEND:=hid hend;clear hend))
 all_goals
  go_wp2;go_returns;exact⟨rfl,HEND.out⟩
theorem Xl{w:World}{rb:Nat}{I:zN}{s:zA}{n:Bytes}(h:Zn l w a I s)(hr:Zu s n=(s',ec))(hn:n.length<=1000)(h0:im l.some w ⟨rb,0,none⟩=some (zb n))
  (hf:ya s')(hs:yD s'):
  Calls prog 166 #[ptr a,ptr rb] w (VZ l w a I s' ec):=by
 obtain⟨A,ab,m,lg,h⟩:=h;have r2:w.cell? ⟨a,2,none⟩=some (.iface 149 (ptr ab)):=by rw[cell_of_row w a 2 _ _ (0,0) h.row];rfl
 have r3:w.cell? ⟨a,3,none⟩=some (.bool s.on):=by rw[cell_of_row w a 3 _ _ (0,0) h.row];rfl
 have d0:=zd _ _ _ _ h0;have HB:=hid (qP h.idle h.abe);have H:=hid h;have H0:=hid h0;have HF:=hid hf;have HS:=hid hs;have HS0:=hid (zr.refl h.bnd);have m1:=qL;have m2:=qA;have m3:=yg;have m4:=yr;have m5:=q9;have m6:=Zp;have m7:=Zc;have m8:=Zd;have m9:=xM;have m10:=yS;clear h h0 hf hs;have hrt:=root_eq n;obtain⟨sx,hsx⟩:=zex ((⟨n.toArray⟩:ByteArray));unfold zb at d0;rw[<-hsx]at d0 hrt;have HSX:=hid hsx;clear hsx;by_cases c0:s.on=true/\n=zL
 ·obtain⟨rfl,rfl⟩:s=s'/\15=ec:=by unfold Zu at hr;rw[if_pos c0]at hr;cases hr;exact⟨rfl,rfl⟩
  rw[c0.1]at r3;rw[decide_eq_true c0.2]at hrt;clear hr;go_enter_defers func166,ntmps166;go_wp2;exact⟨_,results_tmp2 rfl _ _ _,_,rfl,l,I,zN.same_refl I,HS0.out,_,_,_,_,H.out⟩
 ·have hc:(s.on && (sx.toList==[114,111,111,116]))=false:=by
   rw[hrt];cases e:s.on
   ·rfl
   ·exact decide_eq_false λe2=>c0 ⟨e,e2⟩
  obtain⟨o,ho⟩:∃o,s.role n=o:=⟨_,rfl⟩;unfold Zu at hr;rw[if_neg c0,ho]at hr;have HOU:=hid (show qU zm.name s.roles n=o from ho);have HRR:=hid hr;clear ho hr hrt;obtain⟨son,hson⟩:∃b,s.on=b:=⟨_,rfl⟩;rw[hson]at r3 hc;clear hson c0;go_enter_defers func166,ntmps166;go_upto_region 1 with fail
  go_cut [24]from 14 to 24 (λc wx=>w=wx/\c=.bool false)
  case first=>
   cases son
   ·go_wp2;go_meet;exact⟨rfl,rfl⟩
   ·have hc2:(sx.toList==[114,111,111,116])=false:=by simpa using hc
    clear hc;go_wp2;go_meet;exact⟨rfl,by first|rfl|rw[hc2]⟩
  case rest=>
   obtain⟨rfl,rfl⟩:=hcut;clear hc r3;go_wp2_with fail;refine HB.out.mono ?_;rintro e w1 ⟨x,rfl,hn1,hx,hax⟩;have h1:=H.out.new hn1;have HL:=hid (jk h1.idle hax);have hd:za w1 w1.drew:=(za.refl w1).drew;have j0:=hn1.le _ _ d0;have hmid:=(h1.new hd).mid (hax.new hd);have HUS:=hid (ZX h1.fine h1.kv (h1.idle.new hd) (hax.new hd) hn);have H1:=hid (h1.new hd);have HN1:=hid (show za w w1.drew from hn1.drew);have HMID:=hid hmid;unfold zb at HUS;rw[<-HSX.out,HOU.out]at HUS;clear h1 hn1 hax hd hmid;go_wp2_with fail;refine HL.out.mono ?_;rintro e w2 ⟨rfl,rfl⟩;go_upto_region 6 with fail
   go_cut [7]from 35 to 43 (λc wx=>za w1.drew wx/\jN w1.drew wx (.returned c) o)
   case first=>
    refine wp_region_noPanic ?_;go_region_with (refine HUS.out.mono ?_;rintro e w2 ⟨r,rfl,hn2,hg2⟩;have HALL:=hid (And.intro hn2 hg2);clear hn2 hg2)
    all_goals refine NoPanic.normal ?_
    all_goals
     go_wp2_with fail;go_meet;exact HALL.out
   case rest=>
    obtain⟨hn2,hg2⟩:=hcut;obtain⟨w2,hw2⟩:=zex (wc);rw[<-hw2]at hn2 hg2⊢;clear hw2 j0;have hi:=yh x;have HS2:=hid ((zr.new H.out.bnd HN1.out).trans (zr.new H1.out.bnd hn2));have HMID:=hid (HMID.out.new hn2);have H2':=hid (H1.out.new hn2);cases o with
    |none=>
     cases hg2;obtain⟨rfl,rfl⟩:s=s'/\7=ec:=by have:=HRR.out;cases this;exact⟨rfl,rfl⟩
     go_wp2;refine leaves_cons (f:=261) (args:= #[ptr x]) (by simp) (hi _) ?_;refine(qv HMID.out.tx (by decide) qI HMID.out.atx).mono ?_;rintro e u' w'' ⟨rfl,rfl,l3,I3,hs3,hI3,hi3⟩;exact⟨_,results_tmp2 rfl _ _ _,_,rfl,l3,I3,hI3,HS2.out.trans hs3.s,_,_,_,_,H2'.out.moved hs3 hI3 hi3⟩
    |some ro=>
     obtain⟨b3,wm3,nv3,rv3,ids3,he3,_⟩:=hg2;cases he3;have HRS:=hid (show(({s with roles:=ym zm.name s.roles n,users:=s.users.map (zj.without n),rev:=s.rev+1}:zA),0)=(s',ec)from HRR.out);have e0:=zd _ _ _ _ (HS2.out.im_one H0.out);unfold zb at e0;rw[<-HSX.out]at e0;have hd2:za w2 w2.drew:=(za.refl w2).drew;have HPU:=hid (Vs (HMID.out.new hd2) (by decide) (by decide) hn (vN H.out.fine n));unfold zb at HPU;rw[<-HSX.out]at HPU;have HSW:=hid (HS2.out.trans (zr.new HMID.out.bnd hd2));clear hd2 H1 H2' HS2 HN1 HRR hn2;go_upto_region 9 with fail
     go_cut []from 47 to 55 (λwx=>∃l4,zB l w2.drew l4 wx/\Qb l4 wx a I {s with roles:=ym zm.name s.roles n} A 1 1 jL x ab m lg s.on)
     case first=>
      refine wp_region_noPanic ?_;go_region_with (refine HPU.out.mono ?_;rintro e w4 ⟨rfl,hq4⟩;have HQ4:=hid hq4;clear hq4)
      all_goals refine NoPanic.normal ?_
      all_goals
       go_wp2_with fail;go_meet;exact HQ4.out
     case rest=>
      obtain⟨l4,hs4,hm4⟩:=hcut;obtain⟨w4,hw4⟩:=zex (wc);rw[<-hw4]at hs4 hm4⊢;clear hw4;have HS4:=hid (HSW.out.trans hs4.s);have HM4:=hid hm4;have HGA:=hid ((vS (x:=x) (I:=I) (pend:=1) (pdel:=1) (us:=jL) hm4.fine hm4.kv).all l4 w4 ⟨hm4.tx,hm4.atx⟩);clear hs4 hm4 e0;go_wp2_with fail;refine HGA.out.mono ?_;rintro e w5 ⟨r,rfl,⟨ht5,hax5⟩,hm5,hg5⟩;obtain⟨bs,g1,g2,g3⟩:=hg5;obtain⟨vp,vn,vc,rfl⟩:=g1.shape;have hst5:=zB.own HM4.out.bnd hm5;have hmid5:Qb l4 w5 a I (jA s n 0) A 1 1 (gZ s.users n 0) x ab m lg s.on:=by rw[fe,zaz];exact HM4.out.step hst5 ht5 HM4.out.kv rfl HM4.out.fine
      have HMID5:=hid hmid5;have HS5:=hid (HS4.out.trans hst5.s);have hsl5:Sl (im l4.some w5) 1 (bs.map ptr) (.slice vp vn vc):=Sl.im_of g1 λq e e2=>by have h1:=g2 q e;have h2:=HM4.out.bnd q e2;omega
      have HSL5:=hid hsl5;have hall5:qy (λu b=>jd (im l4.some w5) b u) s.users bs:=g3.mono λ_ _ e=>e.2;have HALL5:=hid hall5;have hbl:s.users.length=bs.length:=g3.length;have hvn:bs.length=vn:=by have:=g1.row.1;rw[List.length_map]at this;exact this
      have HVN:=hid (hbl.trans hvn);have HBL:=hid hvn;have HUL:=hid H.out.fine.ul;have hvn3:vn<=300:=by have:=H.out.fine.ul;omega
      clear g1 g2 g3 hst5 ht5 hax5 hm5 hmid5 hsl5 hall5 hbl hvn HPU HGA HM4 HS4 HSW HMID;go_wp2;go_loopw [60] (λc wr=>∃kk:Nat,kk<=vn/\c=.int .i64 kk/\∃lk pend,pend<=kk+1/\zr l4 w5 lk wr/\Qb lk wr a I (jA s n kk) A pend 1 (gZ s.users n kk) x ab m lg s.on) (λc _=>vn-(intOf c).toNat)
      case atStart=>exact⟨0,Nat.zero_le _,rfl,l4,1,Nat.le_refl _,zr.refl HMID5.out.bnd,HMID5.out⟩
      case round=>
       obtain⟨kk,hk,rfl,lk,pend,hpe,hsk,hmk⟩:=hrel;obtain⟨wo,hwo⟩:=zex (wr);rw[<-hwo]at hsk hmk⊢;clear hwo;have HSK:=hid hsk;have HMK:=hid hmk;clear hsk hmk;by_cases hlt:kk<vn
       ·obtain⟨hrl,hrc,hrm,⟨gb,go,rfl,hce⟩|h0⟩:=HSL5.out.row
        case inr=>exact absurd h0 (by omega)
        have hkb:kk<bs.length:=by rw[HBL.out];exact hlt
        have hku:kk<s.users.length:=by rw[HVN.out];exact hlt
        have ck:=zd _ _ _ _ (HSK.out.le _ _ (hce kk (by rw[List.length_map];exact hkb)));rw[List.getElem_map]at ck;have hua:jd (im lk.some wo) bs[kk] s.users[kk]:=(HALL5.out.get kk hku hkb).mono HSK.out.le;obtain⟨b9,hb9⟩:∃y,bs[kk]=y:=⟨_,rfl⟩;obtain⟨u,hu9⟩:∃y,s.users[kk]=y:=⟨_,rfl⟩;rw[hb9]at ck hua;rw[hu9]at hua;have hum:u∈s.users:=by rw[<-hu9];exact List.getElem_mem hku
        have huk:=H.out.fine.uok u hum;have HU9:=hid (show∃h:kk<s.users.length,s.users[kk]=u from⟨hku,hu9⟩);obtain⟨⟨nv,u0,u1⟩,⟨pv,u2,u3⟩,⟨yv,u4,u5⟩,ob,u6,u7⟩:=hua;obtain⟨np,nn,nc,rfl,_⟩:=u1.shape;obtain⟨pp,pn,pc,rfl,_⟩:=u3.shape;obtain⟨yp,n8,c8,rfl⟩:=u5.shape;have k0:=zd _ _ _ _ u0;have k1:=zd _ _ _ _ u2;have k2:=zd _ _ _ _ u4;have k3:=zd _ _ _ _ u6;have hnl:u.roles.length=n8:=by have:=u5.row.1;rw[List.length_map]at this;exact this
        have hn8:n8<=100:=by rw[<-hnl];exact huk.roles
        have hkz:(kk:Int)<vn:=by omega
        have HU1:=hid u1;have HU3:=hid u3;have HU4:=hid u4;have HU5:=hid u5;have HU7:=hid u7;have HE1:=hid ((HS5.out.trans HSK.out).im_one H0.out);have HNL:=hid hnl;obtain⟨W,hW⟩:=zex ((wo.alloc (.cells #[.slice np nn nc,.slice pp pn pc,.slice none 0 0,ptr ob] 222)).drew);have hK0:Xc wo W wo.heap.size (.slice np nn nc) (.slice pp pn pc) (ptr ob) []:=⟨by rw[hW];exact((za.refl wo).alloc _).drew,Nat.le_refl _,.slice none 0 0,0,by rw[hW];exact zg wo _,World.ownsRow_nil _ _ _ _,λb e=>by cases e⟩;have HK0:=hid hK0;have HW:=hid hW;clear u0 u1 u2 u3 u4 u5 u6 u7 hnl huk hK0 hW hum hrl hce hb9 hu9 hkb hku;go_upto_region 14 with fail
        go_cut [11]from 64 to 77 (λc wx=>c=ptr wo.heap.size/\wx=W)
        case first=>
         refine wp_region_noPanic ?_;go_region
         all_goals refine NoPanic.normal ?_
         all_goals
          go_wp2_with fail;go_meet;exact⟨rfl,HW.out.symm⟩
        case rest=>
         obtain⟨rfl,hwc⟩:=hcut;rw[hwc];clear hwc;have hWle:(im lk.some wo).le (im lk.some W):=HK0.out.new.im _;have k2W:=zd _ _ _ _ (hWle _ _ HU4.out);obtain⟨ub,hube⟩:∃ub,wo.heap.size=ub:=⟨_,rfl⟩;rw[hube]at HK0;have HUBE:=hid hube;rw[hube];clear hWle hube k0 k1 k2 k3 ck;go_wp2;go_loopw [83] (λc wr=>∃i:Nat,i<=n8/\c=.int .i64 i/\Xc wo wr ub (.slice np nn nc) (.slice pp pn pc) (ptr ob) (yo (u.roles.take i) n)) (λc _=>n8-(intOf c).toNat)
         case atStart=>exact⟨0,Nat.zero_le _,rfl,HK0.out⟩
         case round=>
          obtain⟨i,hi8,rfl,hK⟩:=hrel;have f1:=zd _ _ _ _ (hK.new.im lk.some _ _ HE1.out);unfold zb at f1;rw[<-HSX.out]at f1;by_cases hlt8:i<n8
          ·obtain⟨hrl,hrc,hrm,⟨gb8,go8,rfl,hce⟩|h0⟩:=HU5.out.row
           case inr=>exact absurd h0 (by omega)
           have hku8:i<u.roles.length:=by rw[HNL.out];exact hlt8
           have ck:=zd _ _ _ _ (hK.new.im lk.some _ _ (hce i (by rw[List.length_map];exact hku8)));rw[List.getElem_map]at ck;obtain⟨y,hy⟩:∃y,u.roles[i]=y:=⟨_,rfl⟩;rw[hy]at ck;have htk:u.roles.take (i+1)=u.roles.take i++[y]:=by rw[<-hy,List.take_append_getElem]
           have hcmp:((⟨y.toArray⟩:ByteArray).toList !=sx.toList)= !decide (y=n):=by rw[HSX.out,ByteArray.toList_eq,ByteArray.toList_eq,Bool.eq_iff_iff];simp
           have hcmp1:((⟨y.toArray⟩:ByteArray).toList==sx.toList)=decide (y=n):=by rw[HSX.out,ByteArray.toList_eq,ByteArray.toList_eq,Bool.eq_iff_iff];simp
           unfold zb at ck;have hkk8:(i:Int)<n8:=by omega
           have HTK:=hid htk;have HK:=hid hK;obtain⟨sy,hsy⟩:=zex ((⟨y.toArray⟩:ByteArray));rw[<-hsy]at ck hcmp hcmp1;have HSY:=hid hsy;clear hrl hce hy htk hK hsy;by_cases e9:y=n
           ·rw[decide_eq_true e9]at hcmp hcmp1;go_wp2;go_roundw
            case rel=>exact⟨i+1,by omega,by go_num,by rw[HTK.out,ZT,if_pos e9];exact HK.out⟩
            case measure=>simp[intOf];omega
           ·rw[decide_eq_false e9]at hcmp hcmp1;obtain⟨hnew,hge,rv,m5',hrow,hown,hfr⟩:=HK.out;obtain⟨x0,x1,x2,x3,z0,z1,z2,z3⟩:=kZ hrow;have HBD:Hid ((((yo (u.roles.take i) n).map zb).length+[Value.string sy].length)*(16+1)<=140737488355328):=hid (by
             have:=Vt (u.roles.take i) n;rw[List.length_take]at this;rw[List.length_map,List.length_singleton];omega)
            have x2a:∀ob,(wr.alloc ob).cell? ⟨ub,2,none⟩=some rv:=λob=>za.le ((za.refl wr).alloc ob) _ _ x2;have HROW:=hid hrow;have HFR:=hid hfr;have HNEW:=hid hnew;have HOWN:=hid hown;clear hnew hrow hown hfr;go_wp2_with (at_builtin;go_must (refine qN xV rfl rfl (World.ownsRow.alloc HOWN.out _) rfl rfl (news:=[.string sy]) (Sl.made wr [.string sy] _ 1 1 rfl (by omega)) YR HBD.out ?_));intro v5 w5' ho hg hf5;obtain⟨p7,n7,c7,rfl⟩:=(Sl.of_own ho).shape;have hsy':zb y=Value.string sy:=by rw[HSY.out];rfl
            rw[<-hsy']at ho;obtain⟨hrow5,hK5⟩:=Xc.app (HNEW.out.alloc _) hge (za.heap (show za wr _ from(za.refl wr).alloc _) HROW.out) HFR.out ho hg (λb e=>(hf5 b e).imp (λe1=>e1) λe1=>Nat.le_trans (Nat.le_of_eq (Array.size_push ..)) e1);obtain⟨_,_,y2,_,_,_,y2z,_⟩:=kZ hrow5;have HK5:=hid hK5;clear ho hg hf5 hrow5 hK5;go_wp2;go_roundw
            case rel=>exact⟨i+1,by omega,by go_num,by rw[HTK.out,ZT,if_neg e9];exact HK5.out⟩
            case measure=>simp[intOf];omega
          ·have hkn:i=n8:=by omega
           subst hkn;have htk:u.roles.take u.roles.length=u.roles:=List.take_length;rw[HNL.out]at htk;rw[htk]at hK;obtain⟨hnew,hge,rv,m5',hrow,hown,hfr⟩:=id hK;obtain⟨rp,rn5,rc,rfl⟩:=(Sl.of_own hown).shape;have hrl:(yo u.roles n).length=rn5:=by have:=(Sl.of_own hown).row.1;rw[List.length_map]at this;exact this
           obtain⟨x0,x1,x2,x3,z0,z1,z2,z3⟩:=kZ hrow;have q2:=zd _ _ _ _ (hnew.im lk.some _ _ HU4.out);have HK:=hid hK;have HRL:=hid hrl;clear hK hnew hrow hown hfr hrl htk;have hdd:(decide ((rn5:Int)=i))= !decide (n∈u.roles):=by
            by_cases hm:n∈u.roles
            ·have hlen:rn5≠i:=λe=>(Q0 u.roles n).1 (by rw[HRL.out,HNL.out,e]) hm;rw[decide_eq_true hm,decide_eq_false (by omega)];rfl
            ·have hlen:rn5=i:=by have:=(Q0 u.roles n).2 hm;rw[HRL.out,HNL.out]at this;exact this
             rw[decide_eq_false hm,decide_eq_true (by omega)];rfl
           have HDD:=hid hdd;clear hdd;go_upto_region 21 with fail
           go_cut [114]from 104 to 114 (λc wx=>(∃k,wx=wr.drewN k)/\c=.bool (!decide (n∈u.roles)))
           case first=>go_wp2;go_quiet (fail);go_wp2;go_meet;exact⟨⟨nq,rfl⟩,by rw[<-HDD.out];first|done|rfl|simp|(congr 1;simp)⟩
           case rest=>
            obtain⟨⟨kz,hkz⟩,rfl⟩:=hcut;have hzz:za wr wc:=by rw[hkz];exact(za.refl wr).drewN kz
            have HZZ:=hid hzz;clear hzz hkz;by_cases hmem:n∈u.roles
            ·have hbb:(!decide (n∈u.roles))=false:=by rw[decide_eq_true hmem];rfl
             rw[hbb];have hat:jd (im lk.some wr) ub ⟨u.name,yo u.roles n⟩:=HK.out.user (λj e=>HMK.out.bnd j e) HU1.out HU3.out HU7.out;have hnw:za wo wc:=HK.out.new.trans HZZ.out;obtain⟨hku,hu9⟩:=HU9.out;have hput:=UV H.out.fine.us (n:=n) hku;rw[hu9]at hput;have hput:{jA s n kk with users:=yT zj.name (jA s n kk).users ⟨u.name,yo u.roles n⟩}=jA s n (kk+1):=hput;have huok:jy ⟨u.name,yo u.roles n⟩:=VC (H.out.fine.uok u (by rw[<-hu9];exact List.getElem_mem hku)) n;have hpu:=vU (HMK.out.new hnw) (by omega) (Nat.le_trans (zbU s.users n kk .users) (by omega)) (hat.mono (za.im HZZ.out _)) huok (by rw[hput];exact DI H.out.fine n hku);rw[hput]at hpu;have hks:kB (gZ s.users n kk) .users u.name=gZ s.users n (kk+1):=by have:=zbT (n:=n) hku (by rw[hu9];exact hmem);rw[hu9]at this;exact this
             rw[show(⟨u.name,yo u.roles n⟩:zj).name=u.name from rfl,hks]at hpu;have HPU:=hid hpu;have HSW:=hid (HSK.out.trans (zr.new HMK.out.bnd hnw));clear hat hnw huok hput hpu hks hku hu9 hbb;go_wp2_with fail;refine HPU.out.mono ?_;rintro e w6 ⟨rfl,l6,hs6,hm6⟩;have HS6:=hid (HSW.out.trans hs6.s);have HM6:=hid hm6;clear hs6 hm6;go_wp2;go_roundw
             case rel=>exact⟨kk+1,by omega,by go_num,l6,pend+1,by omega,HS6.out,HM6.out⟩
             case measure=>simp[intOf];omega
            ·have hbb:(!decide (n∈u.roles))=true:=by rw[decide_eq_false hmem];rfl
             rw[hbb];have hnw:za wo wc:=HK.out.new.trans HZZ.out;have HNW:=hid hnw;obtain⟨hku,hu9⟩:=HU9.out;have hme:Qb lk wc a I (jA s n (kk+1)) A pend 1 (gZ s.users n (kk+1)) x ab m lg s.on:=by rw[ff hku (by rw[hu9];exact hmem),zaA hku (by rw[hu9];exact hmem)];exact HMK.out.new hnw
             have HME:=hid hme;clear hnw hme hku hu9 hbb;go_wp2;go_roundw
             case rel=>exact⟨kk+1,by omega,by go_num,lk,pend,by omega,HSK.out.trans (zr.new HMK.out.bnd HNW.out),HME.out⟩
             case measure=>simp[intOf];omega
       ·have hkn:kk=vn:=by omega
        subst hkn;have hm5:=HMK.out;have hks:=zaC s.users n kk;have hrise:=zaB H.out.fine.us n kk;rw[<-HVN.out,UW,HVN.out]at hm5;obtain⟨rfl,rfl⟩:({s with roles:=ym zm.name s.roles n,users:=s.users.map (zj.without n),rev:=s.rev+1}:zA)=s'/\0=ec:=by have:=HRS.out;cases this;exact⟨rfl,rfl⟩
        have HFR:=hid (show s.rev+1<200 from HF.out.rev);have HC4:=hid (yE hm5 (by omega) hks HFR.out);have HSX4:=hid (HS5.out.trans HSK.out);have HRISE:=hid hrise;clear hm5 hks hrise;go_wp2_with fail;refine HC4.out.mono ?_;rintro e w5' ⟨rfl,l5,A5,hs5,hm5⟩;have HS5:=hid (HSX4.out.trans hs5);have HPE:Hid (pend+1<1000):=hid (by omega);have HC5:=hid (qY hm5 HS.out);clear hs5 hm5;go_wp2_with fail;refine HC5.out.mono ?_;rintro e w6 ⟨rfl,l6,m6,hs6,hm6,hc6⟩;have HS6:=hid (HS5.out.trans hs6);have HM6:=hid (And.intro hm6 hc6);clear hs6 hm6 hc6;go_wp2;have hnq:∀o,za w6 (w6.alloc o):=λo=>(za.refl w6).alloc o;refine leaves_cons (f:=261) (args:= #[ptr x]) (by simp) (hi _) ?_;refine(yJ (HM6.out.1.new (hnq _)) HS.out (HM6.out.2.step HM6.out.1.bnd (zr.new HM6.out.1.bnd (hnq _))) HPE.out HRISE.out).mono ?_;rintro e u' w'' ⟨rfl,rfl,l7,I7,hI7,hs7,hs8⟩
        exact⟨_,results_tmp2 rfl _ _ _,_,rfl,l7,I7,hI7,(HS6.out.trans (zr.new HM6.out.1.bnd (hnq _))).trans hs7,hs8⟩
theorem Y_(a:Nat)(W:World):(method 608 142 (ptr a) "RoleDelete").run prog W=.ok (166,ptr a) W:=by kernel_rfl
theorem dC{w:World}{I:zN}{s:zA}(h:Wd l w x I a s)(hk:o.kind=10)(hr:Zu s o.role=(s',ec))(hn:o.role.length<=1000)(hf:ya s')(hs:yD s'):
  Calls prog 42 #[ptr x,o.val] w (Yd l w x I s' ec):=by
 obtain⟨ki,us,ro,pk,ke,st,np,od,nu⟩:=o;dsimp only at hk hr hn;subst hk;unfold zH.val zH.cells;dsimp only;obtain⟨c0,c1,c2,_⟩:=vZ h.row;obtain⟨rx,hrx⟩:∃z,zb ro=.string z:=⟨_,rfl⟩;obtain⟨cc,hcc⟩:=zex (#[.int .i64 10,zb us,zb ro,.int .i64 pk,zb ke,zb st,.bool np,.int .i64 od,.bool nu]);obtain⟨w1,hw1⟩:=zex (w.alloc (.cells cc 35));have hn1:za w w1:=by rw[hw1];exact(za.refl w).alloc _
 have hs1:w1.heap.size=w.heap.size+1:=by rw[hw1];exact Array.size_push ..
 have hb0:w1.heap[w.heap.size]? =some (.cells cc 35 (0,0)):=by rw[hw1];exact zg w _
 have d2:=hn1.le _ _ c2;have g0:w1.cell? ⟨w.heap.size,0,none⟩=some (.int .i64 10):=by rw[cell_of_row w1 _ 0 _ _ (0,0) hb0,hcc];rfl
 have g2:w1.cell? ⟨w.heap.size,2,none⟩=some (.string rx):=by rw[cell_of_row w1 _ 2 _ _ (0,0) hb0,hcc,hrx];rfl
 obtain⟨w3,hw3⟩:=zex (w1.alloc (.cells #[.string rx] 190));have hn3:za w1 w3:=by rw[hw3];exact(za.refl w1).alloc _
 have hb3:w3.heap[w1.heap.size]? =some (.cells #[.string rx] 190 (0,0)):=by rw[hw3];exact zg w1 _
 have hall:=hn1.trans hn3;have hz0:l w.heap.size=0:=by
  by_cases e:l w.heap.size=0
  ·exact e
  ·have:=h.st.bnd _ e;omega
 have hz1: ¬l.some w1.heap.size:=λe=>by have:=h.st.bnd _ e;omega
 have hC:∀W,(W=w3\/W=w3.drew)->Calls prog 166 #[ptr a,ptr w1.heap.size] W λe w'=>∃v,e=.returned (.tuple #[v,ze ec])/\(∃l' I' a',I'.db=I.db/\qG l w l' w'/\Wd l' w' x I' a' s')/\w'.cell? ⟨x,2,none⟩=some (.iface 142 (ptr a))/\w'.cell? ⟨w.heap.size,2,none⟩=some (.string rx):=λW hW=>by
  have hb:W.heap=w3.heap:=by rcases hW with rfl|rfl<;>rfl
  have hnW:za w W:=by
   rcases hW with rfl|rfl
   ·exact hall
   ·exact hall.drew
  refine(Xl (h.new hnW).st hr hn (rb:=w1.heap.size) (zi.2 ⟨hz1,?_⟩) hf hs).mono λe w' hc=> ?_
  rotate_left 1
  ·obtain⟨v,he,hend,k2,kp⟩:=VZ.w h hnW hc;have hb9:W.heap[w.heap.size]? =w1.heap[w.heap.size]? :=by
    rw[hb,hn3.block w.heap.size (by omega) (λe=>e)]
   exact⟨v,he,hend,k2,kp _ _ hz0 (by rw[World.cell?_of_block hb9];exact g2)⟩
  ·rw[hrx,cell_of_row W w1.heap.size 0 _ _ (0,0) (by rw[hb];exact hb3)];rfl
 have hC2:=hC _ (Or.inr rfl);rw[hs1,hw3]at hC2;have HC:=hid hC2;have HW1:=hid hw1;have HCC:=hid hcc;have HRX:=hid hrx;have hme:=Y_ a;clear h hcc hrx hn1 hn3 hb3 hall hz0 hz1 hC hC2 hr hf hs hb0 hw3;obtain⟨ob,hob⟩:=zex (w.heap.size);rw[<-hob]at g0 g2;have HOB:=hid hob;go_enter func42,ntmps42;go_upto_region 2 with fail
 rw[<-HCC.out,<-HW1.out,<-hob];clear c0 c1 c2 hob hw1;obtain⟨va,hva⟩:=zex (Value.agg cc);rw[<-hva];clear hva;go_wp2_with fail;go_region_held3 (λw'=>w'.cell? ⟨x,2,none⟩=some (.iface 142 (ptr a))/\w'.cell? ⟨ob,2,none⟩=some (.string rx)) (go_keep) (first|(go_at_call 166;refine HC.out.mono ?_;rintro e w9 ⟨v,rfl,hend,k2,k2x⟩;rw[<-HOB.out]at k2x;have HEND:=hid hend;clear hend))
 all_goals
  go_wp2;go_returns;exact⟨rfl,HEND.out⟩
theorem Kp(a:Nat)(W:World):(method 608 142 (ptr a) "UserList").run prog W=.ok (175,ptr a) W:=by kernel_rfl
theorem zch{w:World}{I:zN}{s:zA}(h:Wd l w x I a s)(hk:o.kind=8):
  Calls prog 33 #[ptr x,o.val] w (fZ l w x I (s,⟨0,s.rev,s.on,false,s.users.map (·.name),[]⟩)):=by
 obtain⟨ki,us,ro,pk,ke,st,np,od,nu⟩:=o;dsimp only at hk;subst hk;unfold zH.val zH.cells;dsimp only;obtain⟨cc,hcc⟩:=zex (#[.int .i64 8,zb us,zb ro,.int .i64 pk,zb ke,zb st,.bool np,.int .i64 od,.bool nu]);obtain⟨l1,H⟩:=yZ.start h cc;obtain⟨W0,hW0⟩:=zex (((w.alloc (.cells cc 35)).alloc (.cells qR 42)).alloc (.cells qR 42));rw[<-hW0]at H;have c2:=H.cell;have g0:W0.cell? ⟨w.heap.size,0,none⟩=some (.int .i64 8):=(H.ocell 0).trans (by rw[hcc];rfl);have hn1:za W0 (W0.alloc (.cells #[] 100)):=(za.refl W0).alloc _;have H1:=H.new hn1;have HC:=hid (H.names hn1 (fJ H1.wd.st (rb:=W0.heap.size)));have HH:=hid H;have HW0:=hid hW0;have HCC:=hid hcc;have m1:=qd;have m2:=qw;have m3:=Kp a;clear h hcc hW0 H H1 hn1;go_enter func33,ntmps33;go_upto_region 3 with fail
 rw[<-HCC.out,<-(show qR= #[.int .i64 0,.int .u64 0,.bool false,.bool false,.slice none 0 0,.slice none 0 0]from rfl),<-HW0.out];obtain⟨va,hva⟩:=zex (Value.agg cc);obtain⟨vz,hvz⟩:=zex (Value.agg qR);rw[<-hva,<-hvz];clear hva hvz;go_wp2_with fail;refine HC.out.mono ?_;rintro e w2 ⟨b,p,n,c,rfl,⟨l2,I2,h2,hsl⟩,d0,d4,z4⟩;obtain⟨W2,hW2⟩:=zex (w2.setCell ⟨w.heap.size+1+1,4,none⟩ (.slice p n c));have h2':=h2.setNames hsl;rw[<-hW2]at h2';have H2:=hid h2';have HW2:=hid hW2;unfold jf at d4;clear h2 h2' hsl hW2 c2 g0;go_upto_region 37 with fail
 rw[<-HW2.out];obtain⟨ec,hec0⟩:∃e:Nat,e=0:=⟨_,rfl⟩;have HEC0:=hid hec0;have HEC:=hid (show ec<=15 by omega);have HEV0:=hid (show ze ec=.nilIface from by rw[hec0];rfl);clear hec0;obtain⟨W3,hW3⟩:=zex (W2.setCell ⟨w.heap.size+1+1,0,none⟩ (.int .i64 (ec:Nat)));have h3:=H2.out.setErr (ec);rw[<-hW3]at h3;obtain⟨W4,hW4⟩:=zex (W3.setCell ⟨w.heap.size+1+1,1,none⟩ (.int .u64 (s.rev:Nat)));have h4:=h3.setRev s.rev;rw[<-hW4]at h4;obtain⟨W5,hW5⟩:=zex (W4.setCell ⟨w.heap.size+1+1,2,none⟩ (.bool s.on));have h5:=h4.setOn s.on;rw[<-hW5]at h5;have a0:=H2.out.acell 0;have z0:=H2.out.afree 0;have b0:W3.cell? ⟨w.heap.size,0,none⟩=some (.int .i64 8):=(h3.ocell 0).trans (by rw[HCC.out];rfl);have HK:=hid (show Calls prog 43 #[.nilIface] W2 _ from by rw[<-HEV0.out];exact vq (w:=W2) HEC.out);have HR:=hid h3.rev;have HO:=hid h4.on;have H3:=hid h3;have H4:=hid h4;have H5:=hid h5;have HW3:=hid hW3;have HW4:=hid hW4
 have HW5:=hid hW5;clear h3 h4 h5 hW3 hW4 hW5;have a0:W2.cell? ⟨w.heap.size+1+1,0,none⟩=some (.int .i64 0):=a0;go_wp2_with fail;refine HK.out.mono ?_;rintro e w9 ⟨rfl,rfl⟩;go_upto_region 38 with fail
 rw[<-HW3.out];clear a0 z0;have q2:=H3.out.cell;have a1:W3.cell? ⟨w.heap.size+1+1,1,none⟩=some (.int .u64 0):=H3.out.acell 1;have z1:=H3.out.afree 1;go_wp2_with fail;refine HR.out.mono ?_;rintro e w9 ⟨rfl,rfl⟩;go_upto_region 41 with fail
 rw[<-HW4.out];clear q2 a1 z1;have q2:=H4.out.cell;have a2:W4.cell? ⟨w.heap.size+1+1,2,none⟩=some (.bool false):=H4.out.acell 2;have z2:=H4.out.afree 2;go_wp2_with fail;refine HO.out.mono ?_;rintro e w9 ⟨rfl,rfl⟩;go_upto_region 42 with fail
 rw[<-HW5.out];clear q2 a2 z2;have k0:=H5.out.acell 0;have r0:=H5.out.rcell 0;have f0:=H5.out.rfree 0;have k1:=H5.out.acell 1;have r1:=H5.out.rcell 1;have f1:=H5.out.rfree 1;have k2:=H5.out.acell 2;have r2:=H5.out.rcell 2;have f2:=H5.out.rfree 2;have k3:=H5.out.acell 3;have r3:=H5.out.rcell 3;have f3:=H5.out.rfree 3;have k4:=H5.out.acell 4;have r4:=H5.out.rcell 4;have f4:=H5.out.rfree 4;have k5:=H5.out.acell 5;have r5:=H5.out.rcell 5;have f5:=H5.out.rfree 5;simp only[xH,qR,Ko,jf,List.getElem?_toArray,List.getElem?_cons_zero,List.getElem?_cons_succ]at k0 k1 k2 k3 k4 k5 r0 r1 r2 r3 r4 r5;go_wp2;exact H5.out.leave (by rw[HEC0.out];rfl) rfl rfl
end Go.Proofs.YtbmdoinjkligiaaGreat
