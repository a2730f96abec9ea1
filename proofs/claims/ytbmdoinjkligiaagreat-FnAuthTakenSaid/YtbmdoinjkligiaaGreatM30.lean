/- Contracts and laws that the last text joins. -/
import Derived.BigRegion
import Derived.Test.YtbmdoinjkligiaaGreatM27
set_option maxRecDepth 100000
set_option maxHeartbeats 40000000
set_option linter.all false
namespace Go.Proofs.YtbmdoinjkligiaaGreat
open Tryz
open Lib(hid)
open Go.RowKit
theorem Z7(a:Nat)(W:World):(method 608 142 (ptr a) "UserRevokeRole").run prog W=.ok (176,ptr a) W:=by kernel_rfl
variable{a ec x:Nat}{l:zu}{o:zH}{s':zA}
theorem fl{w:World}{I:zN}{s:zA}(h:Wd l w x I a s)(hk:o.kind=6)(hr:Zp s o.user o.role=(s',ec))(hn:o.user.length<=1000)(hf:q9 s')(hs:yA s'):
  Calls prog 42 #[ptr x,o.val] w (Q_ l w x I s' ec):=by
 obtain⟨ki,us,ro,pk,ke,st,np,od,nu⟩:=o;dsimp only at hk hr hn;subst hk;unfold zH.val zH.cells;dsimp only;obtain⟨c0,c1,c2,_⟩:=vX h.row;obtain⟨sx,Ht⟩:∃z,zb us=.string z:=⟨_,rfl⟩;obtain⟨rx,Pj⟩:∃z,zb ro=.string z:=⟨_,rfl⟩;obtain⟨cc,Hc⟩:=zex (#[.int .i64 6,zb us,zb ro,.int .i64 pk,zb ke,zb st,.bool np,.int .i64 od,.bool nu]);obtain⟨w1,Hh⟩:=zex (w.alloc (.cells cc 35));have hQ:za w w1:=by rw[Hh];exact(za.refl w).alloc _
 have pI:w1.heap.size=w.heap.size+1:=by rw[Hh];exact Array.size_push ..
 have pM:w1.heap[w.heap.size]? =some (.cells cc 35 (0,0)):=by rw[Hh];exact zg w _
 have d2:=hQ.le _ _ c2;have g0:w1.cell? ⟨w.heap.size,0,none⟩=some (.int .i64 6):=by rw[cell_of_row w1 _ 0 _ _ (0,0) pM,Hc];rfl
 have g1:w1.cell? ⟨w.heap.size,1,none⟩=some (.string sx):=by rw[cell_of_row w1 _ 1 _ _ (0,0) pM,Hc,Ht];rfl
 have g2:w1.cell? ⟨w.heap.size,2,none⟩=some (.string rx):=by rw[cell_of_row w1 _ 2 _ _ (0,0) pM,Hc,Pj];rfl
 obtain⟨w3,pu⟩:=zex (w1.alloc (.cells #[.string sx,.string rx] 180));have Hg:za w1 w3:=by rw[pu];exact(za.refl w1).alloc _
 have sG:w3.heap[w1.heap.size]? =some (.cells #[.string sx,.string rx] 180 (0,0)):=by rw[pu];exact zg w1 _
 have He:=hQ.trans Hg;have sO:l w.heap.size=0:=by
  by_cases e:l w.heap.size=0
  ·exact e
  ·have:=h.st.bnd _ e;omega
 have PZ: ¬l.some w1.heap.size:=λe=>by have:=h.st.bnd _ e;omega
 have hC:∀W,(W=w3\/W=w3.drew)->Calls prog 176 #[ptr a,ptr w1.heap.size] W λe w'=>∃v,e=.returned (.tuple #[v,ze ec])/\(∃l' I' a',I'.db=I.db/\qF l w l' w'/\Wd l' w' x I' a' s')/\w'.cell? ⟨x,2,none⟩=some (.iface 142 (ptr a))/\w'.cell? ⟨w.heap.size,1,none⟩=some (.string sx)/\w'.cell? ⟨w.heap.size,2,none⟩=some (.string rx):=λW hW=>by
  have hb:W.heap=w3.heap:=by rcases hW with rfl|rfl<;>rfl
  have Pz:za w W:=by
   rcases hW with rfl|rfl
   ·exact He
   ·exact He.drew
  refine(Xa (h.new Pz).st hr hn (rb:=w1.heap.size) (zi.2 ⟨PZ,?_⟩) (zi.2 ⟨PZ,?_⟩) hf hs).mono λe w' hc=> ?_
  rotate_left 2
  ·obtain⟨v,he,Hk,k2,kp⟩:=VV.w h Pz hc;have TR:W.heap[w.heap.size]? =w1.heap[w.heap.size]? :=by
    rw[hb,Hg.block w.heap.size (by omega) (λe=>e)]
   exact⟨v,he,Hk,k2,kp _ _ sO (by rw[World.cell?_of_block TR];exact g1),kp _ _ sO (by rw[World.cell?_of_block TR];exact g2)⟩
  ·rw[Ht,cell_of_row W w1.heap.size 0 _ _ (0,0) (by rw[hb];exact sG)];rfl
  ·rw[Pj,cell_of_row W w1.heap.size 1 _ _ (0,0) (by rw[hb];exact sG)];rfl
 have Sg:=hC _ (Or.inr rfl);rw[pI,pu]at Sg;have HC:=hid Sg;have Pr:=hid Hh;have pJ:=hid Hc;have r_:=hid Ht;have LU:=hid Pj;have sL:=Z7 a;clear h Hc Ht Pj hQ Hg sG He sO PZ hC Sg hr hf hs pM pu;obtain⟨ob,p_⟩:=zex (w.heap.size);rw[<-p_]at g0 g1 g2;have mg:=hid p_;go_enter func42,ntmps42;go_upto_region 2 with fail
 rw[<-pJ.out,<-Pr.out,<-p_];clear c0 c1 c2 p_ Hh;obtain⟨va,pR⟩:=zex (Value.agg cc);rw[<-pR];clear pR;go_wp2_with fail;go_region_held3 (λw'=>w'.cell? ⟨x,2,none⟩=some (.iface 142 (ptr a))/\w'.cell? ⟨ob,1,none⟩=some (.string sx)/\w'.cell? ⟨ob,2,none⟩=some (.string rx)) (go_keep) (first|(go_at_call 176;refine HC.out.mono ?_;rintro e w9 ⟨v,rfl,Hk,k2,k1x,k2x⟩;rw[<-mg.out]at k1x k2x;have Hn:=hid Hk;clear Hk))
 all_goals
  go_wp2;go_returns;exact⟨rfl,Hn.out⟩
theorem Xh{w:World}{rb:Nat}{I:zN}{s:zA}{n:Bytes}(h:Zk l w a I s)(hr:Zr s n=(s',ec))(hn:n.length<=1000)(h0:im l.some w ⟨rb,0,none⟩=some (zb n))
  (hf:q9 s')(hs:yA s'):
  Calls prog 166 #[ptr a,ptr rb] w (VV l w a I s' ec):=by
 obtain⟨A,ab,m,lg,h⟩:=h;have r2:w.cell? ⟨a,2,none⟩=some (.iface 149 (ptr ab)):=by rw[cell_of_row w a 2 _ _ (0,0) h.row];rfl
 have r3:w.cell? ⟨a,3,none⟩=some (.bool s.on):=by rw[cell_of_row w a 3 _ _ (0,0) h.row];rfl
 have d0:=zd _ _ _ _ h0;have HB:=hid (qO h.idle h.abe);have H:=hid h;have H0:=hid h0;have HF:=hid hf;have HS:=hid hs;have sM:=hid (zr.refl h.bnd);have m1:=qK;have m2:=qw;have m3:=yd;have m4:=yo;have m5:=qZ;have m6:=Zm;have m7:=x_;have m8:=Za;have m9:=xJ;have m10:=yN;clear h h0 hf hs;have PF:=root_eq n;obtain⟨sx,Ht⟩:=zex ((⟨n.toArray⟩:ByteArray));unfold zb at d0;rw[<-Ht]at d0 PF;have r_:=hid Ht;clear Ht;by_cases c0:s.on=true/\n=zL
 ·obtain⟨rfl,rfl⟩:s=s'/\15=ec:=by unfold Zr at hr;rw[if_pos c0]at hr;cases hr;exact⟨rfl,rfl⟩
  rw[c0.1]at r3;rw[decide_eq_true c0.2]at PF;clear hr;go_enter_defers func166,ntmps166;go_wp2;exact⟨_,results_tmp2 rfl _ _ _,_,rfl,l,I,zN.same_refl I,sM.out,_,_,_,_,H.out⟩
 ·have hc:(s.on && (sx.toList==[114,111,111,116]))=false:=by
   rw[PF];cases e:s.on
   ·rfl
   ·exact decide_eq_false λe2=>c0 ⟨e,e2⟩
  obtain⟨o,ho⟩:∃o,s.role n=o:=⟨_,rfl⟩;unfold Zr at hr;rw[if_neg c0,ho]at hr;have RU:=hid (show qT zm.name s.roles n=o from ho);have rX:=hid hr;clear ho hr PF;obtain⟨son,Tx⟩:∃b,s.on=b:=⟨_,rfl⟩;rw[Tx]at r3 hc;clear Tx c0;go_enter_defers func166,ntmps166;go_upto_region 1 with fail
  go_cut [24]from 14 to 24 (λc wx=>w=wx/\c=.bool false)
  case first=>
   cases son
   ·go_wp2;go_meet;exact⟨rfl,rfl⟩
   ·have Nj:(sx.toList==[114,111,111,116])=false:=by simpa using hc
    clear hc;go_wp2;go_meet;exact⟨rfl,by first|rfl|rw[Nj]⟩
  case rest=>
   obtain⟨rfl,rfl⟩:=hcut;clear hc r3;go_wp2_with fail;refine HB.out.mono ?_;rintro e w1 ⟨x,rfl,hQ,hx,pH⟩;have h1:=H.out.new hQ;have HL:=hid (jg h1.idle pH);have hd:za w1 w1.drew:=(za.refl w1).drew;have j0:=hQ.le _ _ d0;have SI:=(h1.new hd).mid (pH.new hd);have Pm:=hid (ZQ h1.fine h1.kv (h1.idle.new hd) (pH.new hd) hn);have H1:=hid (h1.new hd);have Hs:=hid (show za w w1.drew from hQ.drew);have Hy:=hid SI;unfold zb at Pm;rw[<-r_.out,RU.out]at Pm;clear h1 hQ pH hd SI;go_wp2_with fail;refine HL.out.mono ?_;rintro e w2 ⟨rfl,rfl⟩;go_upto_region 6 with fail
   go_cut [7]from 35 to 43 (λc wx=>za w1.drew wx/\jL w1.drew wx (.returned c) o)
   case first=>
    refine wp_region_noPanic ?_;go_region_with (refine Pm.out.mono ?_;rintro e w2 ⟨r,rfl,Hj,H9⟩;have Hu:=hid (And.intro Hj H9);clear Hj H9)
    all_goals refine NoPanic.normal ?_
    all_goals
     go_wp2_with fail;go_meet;exact Hu.out
   case rest=>
    obtain⟨Hj,H9⟩:=hcut;obtain⟨w2,PO⟩:=zex (wc);rw[<-PO]at Hj H9⊢;clear PO j0;have hi:=ye x;have Ph:=hid ((zr.new H.out.bnd Hs.out).trans (zr.new H1.out.bnd Hj));have Hy:=hid (Hy.out.new Hj);have tf:=hid (H1.out.new Hj);cases o with
    |none=>
     cases H9;obtain⟨rfl,rfl⟩:s=s'/\7=ec:=by have:=rX.out;cases this;exact⟨rfl,rfl⟩
     go_wp2;refine leaves_cons (f:=261) (args:= #[ptr x]) (by simp) (hi _) ?_;refine(qr Hy.out.tx (by decide) qH Hy.out.atx).mono ?_;rintro e u' w'' ⟨rfl,rfl,l3,I3,Pa,Pc,rY⟩;exact⟨_,results_tmp2 rfl _ _ _,_,rfl,l3,I3,Pc,Ph.out.trans Pa.s,_,_,_,_,tf.out.moved Pa Pc rY⟩
    |some ro=>
     obtain⟨b3,wm3,nv3,rv3,ids3,OO,_⟩:=H9;cases OO;have mR:=hid (show(({s with roles:=yj zm.name s.roles n,users:=s.users.map (zj.without n),rev:=s.rev+1}:zA),0)=(s',ec)from rX.out);have e0:=zd _ _ _ _ (Ph.out.im_one H0.out);unfold zb at e0;rw[<-r_.out]at e0;have Pe:za w2 w2.drew:=(za.refl w2).drew;have sC:=hid (Vn (Hy.out.new Pe) (by decide) (by decide) hn (vK H.out.fine n));unfold zb at sC;rw[<-r_.out]at sC;have sY:=hid (Ph.out.trans (zr.new Hy.out.bnd Pe));clear Pe H1 tf Ph Hs rX Hj;go_upto_region 9 with fail
     go_cut []from 47 to 55 (λwx=>∃l4,zB l w2.drew l4 wx/\Z5 l4 wx a I {s with roles:=yj zm.name s.roles n} A 1 1 jJ x ab m lg s.on)
     case first=>
      refine wp_region_noPanic ?_;go_region_with (refine sC.out.mono ?_;rintro e w4 ⟨rfl,eF⟩;have Ox:=hid eF;clear eF)
      all_goals refine NoPanic.normal ?_
      all_goals
       go_wp2_with fail;go_meet;exact Ox.out
     case rest=>
      obtain⟨l4,PV,pP⟩:=hcut;obtain⟨w4,So⟩:=zex (wc);rw[<-So]at PV pP⊢;clear So;have Sx:=hid (sY.out.trans PV.s);have T7:=hid pP;have HGA:=hid ((vQ (x:=x) (I:=I) (pend:=1) (pdel:=1) (us:=jJ) pP.fine pP.kv).all l4 w4 ⟨pP.tx,pP.atx⟩);clear PV pP e0;go_wp2_with fail;refine HGA.out.mono ?_;rintro e w5 ⟨r,rfl,⟨iy,OP⟩,pr,P6⟩;obtain⟨bs,g1,g2,g3⟩:=P6;obtain⟨vp,vn,vc,rfl⟩:=g1.shape;have rA:=zB.own T7.out.bnd pr;have Cz:Z5 l4 w5 a I (jx s n 0) A 1 1 (gV s.users n 0) x ab m lg s.on:=by rw[uW,zad];exact T7.out.step rA iy T7.out.kv rfl T7.out.fine
      have CA:=hid Cz;have P8:=hid (Sx.out.trans rA.s);have MD:Sl (im l4.some w5) 1 (bs.map ptr) (.slice vp vn vc):=Sl.im_of g1 λq e e2=>by have h1:=g2 q e;have h2:=T7.out.bnd q e2;omega
      have OQ:=hid MD;have CB:qz (λu b=>y9 (im l4.some w5) b u) s.users bs:=g3.mono λ_ _ e=>e.2;have Lh:=hid CB;have Ro:s.users.length=bs.length:=g3.length;have Li:bs.length=vn:=by have:=g1.row.1;rw[List.length_map]at this;exact this
      have OR:=hid (Ro.trans Li);have Ef:=hid Li;have Bx:=hid H.out.fine.ul;have hgr:vn<=300:=by have:=H.out.fine.ul;omega
      clear g1 g2 g3 rA iy OP pr Cz MD CB Ro Li sC HGA T7 Sx sY Hy;go_wp2;go_loopw [60] (λc wr=>∃kk:Nat,kk<=vn/\c=.int .i64 kk/\∃lk pend,pend<=kk+1/\zr l4 w5 lk wr/\Z5 lk wr a I (jx s n kk) A pend 1 (gV s.users n kk) x ab m lg s.on) (λc _=>vn-(intOf c).toNat)
      case atStart=>exact⟨0,Nat.zero_le _,rfl,l4,1,Nat.le_refl _,zr.refl CA.out.bnd,CA.out⟩
      case round=>
       obtain⟨kk,hk,rfl,lk,pend,pN,RR,Sr⟩:=hrel;obtain⟨wo,CC⟩:=zex (wr);rw[<-CC]at RR Sr⊢;clear CC;have TJ:=hid RR;have ao:=hid Sr;clear RR Sr;by_cases Hb:kk<vn
       ·obtain⟨pZ,NZ,tT,⟨gb,go,rfl,PQ⟩|h0⟩:=OQ.out.row
        case inr=>exact absurd h0 (by omega)
        have PX:kk<bs.length:=by rw[Ef.out];exact Hb
        have P_:kk<s.users.length:=by rw[OR.out];exact Hb
        have ck:=zd _ _ _ _ (TJ.out.le _ _ (PQ kk (by rw[List.length_map];exact PX)));rw[List.getElem_map]at ck;have Ru:y9 (im lk.some wo) bs[kk] s.users[kk]:=(Lh.out.get kk P_ PX).mono TJ.out.le;obtain⟨b9,TR⟩:∃y,bs[kk]=y:=⟨_,rfl⟩;obtain⟨u,TU⟩:∃y,s.users[kk]=y:=⟨_,rfl⟩;rw[TR]at ck Ru;rw[TU]at Ru;have Lc:u∈s.users:=by rw[<-TU];exact List.getElem_mem P_
        have SW:=H.out.fine.uok u Lc;have HU9:=hid (show∃h:kk<s.users.length,s.users[kk]=u from⟨P_,TU⟩);obtain⟨⟨nv,u0,u1⟩,⟨pv,u2,u3⟩,⟨yv,u4,u5⟩,ob,u6,u7⟩:=Ru;obtain⟨np,nn,nc,rfl,_⟩:=u1.shape;obtain⟨pp,pn,pc,rfl,_⟩:=u3.shape;obtain⟨yp,n8,c8,rfl⟩:=u5.shape;have k0:=zd _ _ _ _ u0;have k1:=zd _ _ _ _ u2;have k2:=zd _ _ _ _ u4;have k3:=zd _ _ _ _ u6;have RL:u.roles.length=n8:=by have:=u5.row.1;rw[List.length_map]at this;exact this
        have r9:n8<=100:=by rw[<-RL];exact SW.roles
        have Eg:(kk:Int)<vn:=by omega
        have eH:=hid u1;have mV:=hid u3;have tN:=hid u4;have RT:=hid u5;have Oy:=hid u7;have eI:=hid ((P8.out.trans TJ.out).im_one H0.out);have RM:=hid RL;obtain⟨W,hW⟩:=zex ((wo.alloc (.cells #[.slice np nn nc,.slice pp pn pc,.slice none 0 0,ptr ob] 222)).drew);have Cu:V9 wo W wo.heap.size (.slice np nn nc) (.slice pp pn pc) (ptr ob) []:=⟨by rw[hW];exact((za.refl wo).alloc _).drew,Nat.le_refl _,.slice none 0 0,0,by rw[hW];exact zg wo _,World.ownsRow_nil _ _ _ _,λb e=>by cases e⟩;have LS:=hid Cu;have HW:=hid hW;clear u0 u1 u2 u3 u4 u5 u6 u7 RL SW Cu hW Lc pZ PQ TR TU PX P_;go_upto_region 14 with fail
        go_cut [11]from 64 to 77 (λc wx=>c=ptr wo.heap.size/\wx=W)
        case first=>
         refine wp_region_noPanic ?_;go_region
         all_goals refine NoPanic.normal ?_
         all_goals
          go_wp2_with fail;go_meet;exact⟨rfl,HW.out.symm⟩
        case rest=>
         obtain⟨rfl,CD⟩:=hcut;rw[CD];clear CD;have l_:(im lk.some wo).le (im lk.some W):=LS.out.new.im _;have k2W:=zd _ _ _ _ (l_ _ _ tN.out);obtain⟨ub,sd⟩:∃ub,wo.heap.size=ub:=⟨_,rfl⟩;rw[sd]at LS;have eJ:=hid sd;rw[sd];clear l_ sd k0 k1 k2 k3 ck;go_wp2;go_loopw [83] (λc wr=>∃i:Nat,i<=n8/\c=.int .i64 i/\V9 wo wr ub (.slice np nn nc) (.slice pp pn pc) (ptr ob) (yl (u.roles.take i) n)) (λc _=>n8-(intOf c).toNat)
         case atStart=>exact⟨0,Nat.zero_le _,rfl,LS.out⟩
         case round=>
          obtain⟨i,Bv,rfl,hK⟩:=hrel;have f1:=zd _ _ _ _ (hK.new.im lk.some _ _ eI.out);unfold zb at f1;rw[<-r_.out]at f1;by_cases hlt8:i<n8
          ·obtain⟨pZ,NZ,tT,⟨gb8,go8,rfl,PQ⟩|h0⟩:=RT.out.row
           case inr=>exact absurd h0 (by omega)
           have OS:i<u.roles.length:=by rw[RM.out];exact hlt8
           have ck:=zd _ _ _ _ (hK.new.im lk.some _ _ (PQ i (by rw[List.length_map];exact OS)));rw[List.getElem_map]at ck;obtain⟨y,hy⟩:∃y,u.roles[i]=y:=⟨_,rfl⟩;rw[hy]at ck;have RX:u.roles.take (i+1)=u.roles.take i++[y]:=by rw[<-hy,List.take_append_getElem]
           have P9:((⟨y.toArray⟩:ByteArray).toList !=sx.toList)= !decide (y=n):=by rw[r_.out,ByteArray.toList_eq,ByteArray.toList_eq,Bool.eq_iff_iff];simp
           have PI:((⟨y.toArray⟩:ByteArray).toList==sx.toList)=decide (y=n):=by rw[r_.out,ByteArray.toList_eq,ByteArray.toList_eq,Bool.eq_iff_iff];simp
           unfold zb at ck;have hgs:(i:Int)<n8:=by omega
           have tA:=hid RX;have HK:=hid hK;obtain⟨sy,Nw⟩:=zex ((⟨y.toArray⟩:ByteArray));rw[<-Nw]at ck P9 PI;have Oz:=hid Nw;clear pZ PQ hy RX hK Nw;by_cases e9:y=n
           ·rw[decide_eq_true e9]at P9 PI;go_wp2;go_roundw
            case rel=>exact⟨i+1,by omega,by go_num,by rw[tA.out,ZN,if_pos e9];exact HK.out⟩
            case measure=>simp[intOf];omega
           ·rw[decide_eq_false e9]at P9 PI;obtain⟨Hp,pD,rv,m5',hZ,Ha,Pw⟩:=HK.out;obtain⟨x0,x1,x2,x3,z0,z1,z2,z3⟩:=kX hZ;have SR:Hid ((((yl (u.roles.take i) n).map zb).length+[Value.string sy].length)*(16+1)<=140737488355328):=hid (by
             have:=Vo (u.roles.take i) n;rw[List.length_take]at this;rw[List.length_map,List.length_singleton];omega)
            have x2a:∀ob,(wr.alloc ob).cell? ⟨ub,2,none⟩=some rv:=λob=>za.le ((za.refl wr).alloc ob) _ _ x2;have P7:=hid hZ;have Rl:=hid Pw;have Rc:=hid Hp;have Px:=hid Ha;clear Hp hZ Ha Pw;go_wp2_with (at_builtin;go_must (refine qM xS rfl rfl (World.ownsRow.alloc Px.out _) rfl rfl (news:=[.string sy]) (Sl.made wr [.string sy] _ 1 1 rfl (by omega)) YM SR.out ?_));intro v5 w5' ho hg PU;obtain⟨p7,n7,c7,rfl⟩:=(Sl.of_own ho).shape;have Bj:zb y=Value.string sy:=by rw[Oz.out];rfl
            rw[<-Bj]at ho;obtain⟨pe,Cv⟩:=V9.app (Rc.out.alloc _) pD (za.heap (show za wr _ from(za.refl wr).alloc _) P7.out) Rl.out ho hg (λb e=>(PU b e).imp (λe1=>e1) λe1=>Nat.le_trans (Nat.le_of_eq (Array.size_push ..)) e1);obtain⟨_,_,y2,_,_,_,y2z,_⟩:=kX pe;have eK:=hid Cv;clear ho hg PU pe Cv;go_wp2;go_roundw
            case rel=>exact⟨i+1,by omega,by go_num,by rw[tA.out,ZN,if_neg e9];exact eK.out⟩
            case measure=>simp[intOf];omega
          ·have ph:i=n8:=by omega
           subst ph;have RX:u.roles.take u.roles.length=u.roles:=List.take_length;rw[RM.out]at RX;rw[RX]at hK;obtain⟨Hp,pD,rv,m5',hZ,Ha,Pw⟩:=id hK;obtain⟨rp,rn5,rc,rfl⟩:=(Sl.of_own Ha).shape;have pZ:(yl u.roles n).length=rn5:=by have:=(Sl.of_own Ha).row.1;rw[List.length_map]at this;exact this
           obtain⟨x0,x1,x2,x3,z0,z1,z2,z3⟩:=kX hZ;have q2:=zd _ _ _ _ (Hp.im lk.some _ _ tN.out);have HK:=hid hK;have NS:=hid pZ;clear hK Hp hZ Ha Pw pZ RX;have TT:(decide ((rn5:Int)=i))= !decide (n∈u.roles):=by
            by_cases hm:n∈u.roles
            ·have h_:rn5≠i:=λe=>(QU u.roles n).1 (by rw[NS.out,RM.out,e]) hm;rw[decide_eq_true hm,decide_eq_false (by omega)];rfl
            ·have h_:rn5=i:=by have:=(QU u.roles n).2 hm;rw[NS.out,RM.out]at this;exact this
             rw[decide_eq_false hm,decide_eq_true (by omega)];rfl
           have ww:=hid TT;clear TT;go_upto_region 21 with fail
           go_cut [114]from 104 to 114 (λc wx=>(∃k,wx=wr.drewN k)/\c=.bool (!decide (n∈u.roles)))
           case first=>go_wp2;go_quiet (fail);go_wp2;go_meet;exact⟨⟨nq,rfl⟩,by rw[<-ww.out];first|done|rfl|simp|(congr 1;simp)⟩
           case rest=>
            obtain⟨⟨kz,Eg⟩,rfl⟩:=hcut;have Ml:za wr wc:=by rw[Eg];exact(za.refl wr).drewN kz
            have OT:=hid Ml;clear Ml Eg;by_cases Hf:n∈u.roles
            ·have Rz:(!decide (n∈u.roles))=false:=by rw[decide_eq_true Hf];rfl
             rw[Rz];have pO:y9 (im lk.some wr) ub ⟨u.name,yl u.roles n⟩:=HK.out.user (λj e=>ao.out.bnd j e) eH.out mV.out Oy.out;have pq:za wo wc:=HK.out.new.trans OT.out;obtain⟨P_,TU⟩:=HU9.out;have pi:=UK H.out.fine.us (n:=n) P_;rw[TU]at pi;have pi:{jx s n kk with users:=yO zj.name (jx s n kk).users ⟨u.name,yl u.roles n⟩}=jx s n (kk+1):=pi;have PH:jv ⟨u.name,yl u.roles n⟩:=Vy (H.out.fine.uok u (by rw[<-TU];exact List.getElem_mem P_)) n;have iB:=vS (ao.out.new pq) (by omega) (Nat.le_trans (zbr s.users n kk .users) (by omega)) (pO.mono (za.im OT.out _)) PH (by rw[pi];exact Dt H.out.fine n P_);rw[pi]at iB;have bu:ku (gV s.users n kk) .users u.name=gV s.users n (kk+1):=by have:=zbq (n:=n) P_ (by rw[TU];exact Hf);rw[TU]at this;exact this
             rw[show(⟨u.name,yl u.roles n⟩:zj).name=u.name from rfl,bu]at iB;have sC:=hid iB;have sY:=hid (TJ.out.trans (zr.new ao.out.bnd pq));clear pO pq PH pi iB bu P_ TU Rz;go_wp2_with fail;refine sC.out.mono ?_;rintro e w6 ⟨rfl,l6,PC,PP⟩;have sP:=hid (sY.out.trans PC.s);have Po:=hid PP;clear PC PP;go_wp2;go_roundw
             case rel=>exact⟨kk+1,by omega,by go_num,l6,pend+1,by omega,sP.out,Po.out⟩
             case measure=>simp[intOf];omega
            ·have Rz:(!decide (n∈u.roles))=true:=by rw[decide_eq_false Hf];rfl
             rw[Rz];have pq:za wo wc:=HK.out.new.trans OT.out;have r7:=hid pq;obtain⟨P_,TU⟩:=HU9.out;have sL:Z5 lk wc a I (jx s n (kk+1)) A pend 1 (gV s.users n (kk+1)) x ab m lg s.on:=by rw[uX P_ (by rw[TU];exact Hf),zae P_ (by rw[TU];exact Hf)];exact ao.out.new pq
             have BX:=hid sL;clear pq sL P_ TU Rz;go_wp2;go_roundw
             case rel=>exact⟨kk+1,by omega,by go_num,lk,pend,by omega,TJ.out.trans (zr.new ao.out.bnd r7.out),BX.out⟩
             case measure=>simp[intOf];omega
       ·have ph:kk=vn:=by omega
        subst ph;have pr:=ao.out;have bu:=zag s.users n kk;have Pt:=zaf H.out.fine.us n kk;rw[<-OR.out,UL,OR.out]at pr;obtain⟨rfl,rfl⟩:({s with roles:=yj zm.name s.roles n,users:=s.users.map (zj.without n),rev:=s.rev+1}:zA)=s'/\0=ec:=by have:=mR.out;cases this;exact⟨rfl,rfl⟩
        have Rl:=hid (show s.rev+1<200 from HF.out.rev);have tL:=hid (yB pr (by omega) bu Rl.out);have OU:=hid (P8.out.trans TJ.out);have RC:=hid Pt;clear pr bu Pt;go_wp2_with fail;refine tL.out.mono ?_;rintro e w5' ⟨rfl,l5,A5,pC,pr⟩;have P8:=hid (OU.out.trans pC);have LI:Hid (pend+1<1000):=hid (by omega);have tF:=hid (qW pr HS.out);clear pC pr;go_wp2_with fail;refine tF.out.mono ?_;rintro e w6 ⟨rfl,l6,m6,PC,PP,R_⟩;have sP:=hid (P8.out.trans PC);have Po:=hid (And.intro PP R_);clear PC PP R_;go_wp2;have P2:∀o,za w6 (w6.alloc o):=λo=>(za.refl w6).alloc o;refine leaves_cons (f:=261) (args:= #[ptr x]) (by simp) (hi _) ?_;refine(yG (Po.out.1.new (P2 _)) HS.out (Po.out.2.step Po.out.1.bnd (zr.new Po.out.1.bnd (P2 _))) LI.out RC.out).mono ?_;rintro e u' w'' ⟨rfl,rfl,l7,I7,tM,ri,rB⟩;exact⟨_,results_tmp2 rfl _ _ _,_,rfl,l7,I7,tM,(sP.out.trans (zr.new Po.out.1.bnd (P2 _))).trans ri,rB⟩
theorem Y7(a:Nat)(W:World):(method 608 142 (ptr a) "RoleDelete").run prog W=.ok (166,ptr a) W:=by kernel_rfl
theorem dt{w:World}{I:zN}{s:zA}(h:Wd l w x I a s)(hk:o.kind=10)(hr:Zr s o.role=(s',ec))(hn:o.role.length<=1000)(hf:q9 s')(hs:yA s'):
  Calls prog 42 #[ptr x,o.val] w (Q_ l w x I s' ec):=by
 obtain⟨ki,us,ro,pk,ke,st,np,od,nu⟩:=o;dsimp only at hk hr hn;subst hk;unfold zH.val zH.cells;dsimp only;obtain⟨c0,c1,c2,_⟩:=vX h.row;obtain⟨rx,Pj⟩:∃z,zb ro=.string z:=⟨_,rfl⟩;obtain⟨cc,Hc⟩:=zex (#[.int .i64 10,zb us,zb ro,.int .i64 pk,zb ke,zb st,.bool np,.int .i64 od,.bool nu]);obtain⟨w1,Hh⟩:=zex (w.alloc (.cells cc 35));have hQ:za w w1:=by rw[Hh];exact(za.refl w).alloc _
 have pI:w1.heap.size=w.heap.size+1:=by rw[Hh];exact Array.size_push ..
 have pM:w1.heap[w.heap.size]? =some (.cells cc 35 (0,0)):=by rw[Hh];exact zg w _
 have d2:=hQ.le _ _ c2;have g0:w1.cell? ⟨w.heap.size,0,none⟩=some (.int .i64 10):=by rw[cell_of_row w1 _ 0 _ _ (0,0) pM,Hc];rfl
 have g2:w1.cell? ⟨w.heap.size,2,none⟩=some (.string rx):=by rw[cell_of_row w1 _ 2 _ _ (0,0) pM,Hc,Pj];rfl
 obtain⟨w3,pu⟩:=zex (w1.alloc (.cells #[.string rx] 190));have Hg:za w1 w3:=by rw[pu];exact(za.refl w1).alloc _
 have sG:w3.heap[w1.heap.size]? =some (.cells #[.string rx] 190 (0,0)):=by rw[pu];exact zg w1 _
 have He:=hQ.trans Hg;have sO:l w.heap.size=0:=by
  by_cases e:l w.heap.size=0
  ·exact e
  ·have:=h.st.bnd _ e;omega
 have PZ: ¬l.some w1.heap.size:=λe=>by have:=h.st.bnd _ e;omega
 have hC:∀W,(W=w3\/W=w3.drew)->Calls prog 166 #[ptr a,ptr w1.heap.size] W λe w'=>∃v,e=.returned (.tuple #[v,ze ec])/\(∃l' I' a',I'.db=I.db/\qF l w l' w'/\Wd l' w' x I' a' s')/\w'.cell? ⟨x,2,none⟩=some (.iface 142 (ptr a))/\w'.cell? ⟨w.heap.size,2,none⟩=some (.string rx):=λW hW=>by
  have hb:W.heap=w3.heap:=by rcases hW with rfl|rfl<;>rfl
  have Pz:za w W:=by
   rcases hW with rfl|rfl
   ·exact He
   ·exact He.drew
  refine(Xh (h.new Pz).st hr hn (rb:=w1.heap.size) (zi.2 ⟨PZ,?_⟩) hf hs).mono λe w' hc=> ?_
  rotate_left 1
  ·obtain⟨v,he,Hk,k2,kp⟩:=VV.w h Pz hc;have TR:W.heap[w.heap.size]? =w1.heap[w.heap.size]? :=by
    rw[hb,Hg.block w.heap.size (by omega) (λe=>e)]
   exact⟨v,he,Hk,k2,kp _ _ sO (by rw[World.cell?_of_block TR];exact g2)⟩
  ·rw[Pj,cell_of_row W w1.heap.size 0 _ _ (0,0) (by rw[hb];exact sG)];rfl
 have Sg:=hC _ (Or.inr rfl);rw[pI,pu]at Sg;have HC:=hid Sg;have Pr:=hid Hh;have pJ:=hid Hc;have LU:=hid Pj;have sL:=Y7 a;clear h Hc Pj hQ Hg sG He sO PZ hC Sg hr hf hs pM pu;obtain⟨ob,p_⟩:=zex (w.heap.size);rw[<-p_]at g0 g2;have mg:=hid p_;go_enter func42,ntmps42;go_upto_region 2 with fail
 rw[<-pJ.out,<-Pr.out,<-p_];clear c0 c1 c2 p_ Hh;obtain⟨va,pR⟩:=zex (Value.agg cc);rw[<-pR];clear pR;go_wp2_with fail;go_region_held3 (λw'=>w'.cell? ⟨x,2,none⟩=some (.iface 142 (ptr a))/\w'.cell? ⟨ob,2,none⟩=some (.string rx)) (go_keep) (first|(go_at_call 166;refine HC.out.mono ?_;rintro e w9 ⟨v,rfl,Hk,k2,k2x⟩;rw[<-mg.out]at k2x;have Hn:=hid Hk;clear Hk))
 all_goals
  go_wp2;go_returns;exact⟨rfl,Hn.out⟩
variable{v:Value}{w1 w2:World}
theorem VF{T:TypeId}(h:za (w1.alloc (.cells #[v] T)).drew w2):w2.cell? ⟨w1.heap.size,0,none⟩=some v/\w2.frozen? ⟨w1.heap.size,0,none⟩=false:=by have hb:=h.heap (show(w1.alloc (.cells #[v] T)).drew.heap[w1.heap.size]? =some (.cells #[v] T (0,0))from zg w1 _);exact⟨by rw[cell_of_row w2 _ 0 _ _ (0,0) hb];rfl,by simp[World.frozen?,hb]⟩
def DJ(s:zA)(p:zh):Option zm->zA×Nat
 |none=>(s,7)
 |some r=>(s.putRole ⟨r.name,y_ r.perms p⟩,0)
def Gz(r:Rd)(rb:Nat):Option zh->Prop
 |none=>r ⟨rb,1,none⟩=some (.pointer none)
 |some p=>∃pb,r ⟨rb,1,none⟩=some (ptr pb)/\ju r pb p
theorem Y8{w:World}{rb:Nat}{I:zN}{s:zA}(h:Zk l w a I s)(h1:Gz (im l.some w) rb none):
  Calls prog 168 #[ptr a,ptr rb] w (VV l w a I s 9):=by
 have d1:=zd _ _ _ _ (show im l.some w ⟨rb,1,none⟩=some (.pointer none)from h1);have PS:∀o,(w.alloc o).cell? ⟨rb,1,none⟩=some (.pointer none):=λo=>za.le ((za.refl w).alloc o) _ _ d1;have HS:=hid (λo=>(And.intro (zr.new h.bnd ((za.refl w).alloc o)) (h.new ((za.refl w).alloc o))));clear h h1 d1;go_enter_defers func168,ntmps168;go_wp2;exact⟨_,results_tmp2 rfl _ _ _,_,rfl,l,I,zN.same_refl I,(HS.out _).1,(HS.out _).2⟩
variable{p:zh}
theorem Y9{w:World}{rb:Nat}{I:zN}{s:zA}{n:Bytes}(h:Zk l w a I s)(hr:vF s n (some p)=(s',ec))(hn:n.length<=1000)(h0:im l.some w ⟨rb,0,none⟩=some (zb n))(h1:Gz (im l.some w) rb (some p))
  (hf:q9 s')(hs:yA s')(RW:yA s)(Sp:∀r∈s.roles,r.perms.length<=11):
  Calls prog 168 #[ptr a,ptr rb] w (VV l w a I s' ec):=by
 obtain⟨A,ab,m,lg,h⟩:=h;obtain⟨pb,h1,RG⟩:=h1;obtain⟨Nx,⟨kv,Ng,rm⟩,ev,Av,wS⟩:=RG;obtain⟨kp,kn,kc,rfl,_⟩:=rm.shape;obtain⟨ep,en,ec2,rfl,_⟩:=wS.shape;obtain⟨wa,LP⟩:=zex (w.alloc (.cells #[ptr rb] 191));have mL:za w wa:=by rw[LP];exact(za.refl w).alloc _
 have hY:=k7 mL l.some;have b0:wa.cell? ⟨w.heap.size,0,none⟩=some (ptr rb):=by rw[LP];exact by rw[cell_of_row _ _ 0 _ _ (0,0) (zg w _)];rfl
 have b1:=hY _ _ h1;have b2:=hY _ _ Nx;have b3:=hY _ _ Ng;have b4:=hY _ _ Av;have b5:=hY _ _ h0;have e1w:(w.alloc (.cells #[ptr rb] 191)).cell? ⟨rb,1,none⟩=some (ptr pb):=by rw[<-LP];exact b1
 have T8:=hid (show Z2 wa p.key _ from rm.mono hY);have Rt:=hid (show Z2 wa p.stop _ from wS.mono hY);have bZ:=hid rm;have LI:=hid wS;have td:=hid mL;have ik:=hid LP;have H:=hid h;have HF:=hid hf;have HS:=hid hs;have wX:=hid RW;have OV:=hid Sp;have m1:=qK;have m2:=qw;have m3:=yd;have m4:=yo;have m5:=qZ;have m6:=jK;obtain⟨sx,Ht⟩:=zex ((⟨n.toArray⟩:ByteArray));unfold zb at b5;rw[<-Ht]at b5;have r_:=hid Ht;have rX:=hid hr;obtain⟨d,hd⟩:∃d,zU p.key p.stop=d:=⟨_,rfl⟩;have HD:=hid hd;clear h h0 h1 Nx Ng rm Av wS hf hs RW Sp mL LP hY Ht hr hd;go_enter_defers func168,ntmps168;go_upto_region 3 with fail
 rw[<-ik.out];clear e1w;obtain⟨cq,cL⟩:∃q,w.heap.size=q:=⟨_,rfl⟩;rw[cL]at b0;rw[cL];have HCQ:=hid cL;clear cL;go_cut [31]from 16 to 31 (λc wx=>za wa wx/\c=.bool (!d))
 case first=>have hv:=hid (λm=>fu (w:=wa.drewN m) (r:=wa.cell?) (Rd.le_refl _) T8.out Rt.out);rw[HD.out]at hv;go_wp2;go_quiet ((go_at_call 181;exact zw (hv.out _)));go_wp2;go_meet;exact⟨(za.refl wa).drewN nq,by first|rfl|(cases d<;>rfl)⟩
 case rest=>
  obtain⟨RE,rfl⟩:=hcut;obtain⟨wq,hwq⟩:=zex (wc);rw[<-hwq]at RE⊢;clear hwq;have Co:=hid (td.out.trans RE);have c0:=RE.le _ _ b0;have c1:=RE.le _ _ b1;have c5:=RE.le _ _ b5;have C2:=hid (RE.le _ _ b2);have C3:=hid (RE.le _ _ b3);have C4:=hid (RE.le _ _ b4);have CK:=hid (show Z2 wq p.key _ from T8.out.mono RE.le);clear b0 b1 b2 b3 b4 b5 RE T8 Rt;cases d
  case false=>
   obtain⟨rfl,rfl⟩:s=s'/\15=ec:=by have:=rX.out;unfold vF at this;simp only[HD.out]at this;cases this;exact⟨rfl,rfl⟩
   have sY:=hid (zr.new H.out.bnd Co.out);have HP:=hid (H.out.new Co.out);go_wp2;exact⟨_,results_tmp2 rfl _ _ _,_,rfl,l,I,zN.same_refl I,sY.out,_,_,_,_,HP.out⟩
  case true=>
   have hx:=H.out.new Co.out;have r2:wq.cell? ⟨a,2,none⟩=some (.iface 149 (ptr ab)):=by rw[cell_of_row wq a 2 _ _ (0,0) hx.row];rfl
   have HB:=hid (qO hx.idle hx.abe);have HX:=hid hx;obtain⟨o,ho⟩:∃o,s.role n=o:=⟨_,rfl⟩;have hr:=rX.out;unfold vF at hr;simp only[HD.out]at hr;rw[ho]at hr;have mR:=hid (show DJ s p o=(s',ec) by cases o<;>exact hr);have RU:=hid (show qT zm.name s.roles n=o from ho);clear hx ho hr;go_wp2_with fail;refine HB.out.mono ?_;rintro e w1 ⟨x,rfl,hQ,hx,pH⟩;have h1:=HX.out.new hQ;have HL:=hid (jg h1.idle pH);have j0:=hQ.le _ _ c0;have j1:=hQ.le _ _ c1;have j5:=hQ.le _ _ c5;have RA:=λ(W':World) (hw:za w1 W')=>ZQ h1.fine h1.kv (h1.idle.new hw) (pH.new hw) hn;unfold zb at RA;rw[<-r_.out]at RA;have Ej:=hid (RA w1.drew (za.refl w1).drew);have Ek:=hid (RA (w1.alloc (.cells #[.pointer none] 223)).drew ((za.refl w1).alloc _).drew);have H1:=hid h1;have Hs:=hid (show za w w1 from Co.out.trans hQ);have SF:=hid hQ;have Hy:=hid (h1.mid pH);have j0d:w1.drew.cell? ⟨cq,0,none⟩=some (ptr rb):=j0
   have j0a:∀o,(w1.alloc o).drew.cell? ⟨cq,0,none⟩=some (ptr rb):=λo=>za.le (((za.refl w1).alloc o).drew) _ _ j0;have j5a:∀o,(w1.alloc o).drew.cell? ⟨rb,0,none⟩=some (.string sx):=λo=>za.le (((za.refl w1).alloc o).drew) _ _ j5;clear h1 hQ pH c0 c1 c5 r2 RA;go_wp2_with fail;refine HL.out.mono ?_;rintro e w2 ⟨rfl,rfl⟩;go_upto_region 8 with fail
   have hi:=ye x;cases o with
   |none=>
    go_cut [7]from 42 to 50 (λc wx=>zap w1 c wx)
    case first=>
     refine wp_region_noPanic ?_;go_region_with (first|(refine Ej.out.mono ?_;rintro e w2 ⟨r,rfl,Hj,H9⟩;rw[RU.out]at H9;cases H9;have Pf:=hid Hj;clear Hj)|(refine Ek.out.mono ?_;rintro e w2 ⟨r,rfl,Hj,H9⟩;obtain⟨zc,zf⟩:=VF Hj;rw[RU.out]at H9;cases H9;have Pf:=hid Hj;clear Hj))
     all_goals refine NoPanic.normal ?_
     all_goals
      go_wp2_with fail;go_meet
      first|exact zdG (w1:=w1) (W':=w1.drew) ((za.refl w1).drew) Pf.out|exact zdH (w1:=w1) ((za.refl w1).alloc _).drew (zg w1 _) (Nat.le_refl _) Pf.out
    case rest=>
     obtain⟨cr,rfl,Ra,pq⟩:=hcut;have r7:=hid pq;obtain⟨rfl,rfl⟩:s=s'/\7=ec:=by have:=mR.out;cases this;exact⟨rfl,rfl⟩
     clear pq j0 j1 j5 j0d j0a j5a;have nN:=hid (Hy.out.new r7.out);have Tu:=hid (zr.new H1.out.bnd r7.out);have HP9:=hid (H1.out.new r7.out);go_wp2;refine leaves_cons (f:=261) (args:= #[ptr x]) (by simp) (hi _) ?_;refine(qr nN.out.tx (by decide) qH nN.out.atx).mono ?_;rintro e u' w'' ⟨rfl,rfl,l3,I3,Pa,Pc,rY⟩;exact⟨_,results_tmp2 rfl _ _ _,_,rfl,l3,I3,Pc,((zr.new H.out.bnd Hs.out).trans Tu.out).trans Pa.s,_,_,_,_,HP9.out.moved Pa Pc rY⟩
   |some u=>
    go_cut [7]from 42 to 50 (λc wx=>zao w1 c wx u)
    case first=>
     refine wp_region_noPanic ?_;go_region_with (first|(refine Ej.out.mono ?_;rintro e w2 ⟨r,rfl,Hj,H9⟩;rw[RU.out]at H9;obtain⟨b,wm,nv,rv,ids,he,pD,rO,rF⟩:=H9;cases he;have Pf:=hid (And.intro Hj (And.intro pD (And.intro rO rF)));clear Hj pD rO rF)|(refine Ek.out.mono ?_;rintro e w2 ⟨r,rfl,Hj,H9⟩;obtain⟨zc,zf⟩:=VF Hj;rw[RU.out]at H9;obtain⟨b,wm,nv,rv,ids,he,pD,rO,rF⟩:=H9;cases he;have Pf:=hid (And.intro Hj (And.intro pD (And.intro rO rF)));clear Hj pD rO rF))
     all_goals refine NoPanic.normal ?_
     all_goals
      go_wp2_with fail;go_meet;obtain⟨Hj,pD,rO,rF⟩:=Pf.out
      first|exact zdE (w1:=w1) (W':=w1.drew) ((za.refl w1).drew) Hj pD rO rF|exact zdF (w1:=w1) ((za.refl w1).alloc _).drew (zg w1 _) (Nat.le_refl _) Hj pD rO rF
    case rest=>
     obtain⟨cr,b,wm,nv,rv,ids,rfl,mM,pq,EP,NQ,rO,rF,Lu,hci,sN⟩:=hcut;obtain⟨w3,pu⟩:=zex (wc);rw[<-pu]at mM pq rF⊢;clear pu j0d j0a j5a;have Lc:=qg H.out.fine.rs RU.out;have SW:=H.out.fine.rok u Lc;have Lk:Ya zh.key u.perms:=wX.out.ps u Lc;have Sp:=OV.out u Lc;obtain⟨rp,rn3,rc,rfl⟩:=(Sl.of_own rF.own).shape;have pS:u.perms.length=rn3:=by have:=(Sl.of_own rF.own).row.1;rw[List.length_map,rF.perms.length]at this;exact this
     have Lj:ids.length=u.perms.length:=rF.perms.length;obtain⟨x0,x1,y0,y1⟩:=qS rF.row;have c0:w3.cell? ⟨cr,0,none⟩=some (ptr b):=by rw[cell_of_row w3 cr 0 _ _ (0,0) mM];rfl
     have k0:=pq.le _ _ j0;have k1:=pq.le _ _ j1;have K2:=hid (pq.le _ _ (SF.out.le _ _ C2.out));have K3:=hid (pq.le _ _ (SF.out.le _ _ C3.out));have K4:=hid (pq.le _ _ (SF.out.le _ _ C4.out));have hZ:=(Sl.of_own rF.own).row;have P1:∀i (hi:i<rn3) (W:World),za w3 W->Calls prog 183 (#[.int .i64 i]++#[ptr cr,ptr cq]) W λe w'=>e=.returned (.bool (!decide (zt ((u.perms.map (·.key)).getD i []) p.key<0)))/\za W w':=λi hi W hW=>by
      obtain⟨_,_,_,⟨gb,go,rfl,PQ⟩|h0⟩:=hZ
      case inr=>exact absurd h0 (by omega)
      have hii:i<ids.length:=by omega
      have hip:i<u.perms.length:=by omega
      have ci:=PQ i (by rw[List.length_map];exact hii);rw[List.getElem_map]at ci;have wf:=(rF.perms.get i hii hip).at (zd _ _);obtain⟨_,⟨kx,q1,q2⟩,_⟩:=wf;have Tc:(u.perms.map (·.key)).getD i []=u.perms[i].key:=by rw[List.getD_eq_getElem?_getD,List.getElem?_map,List.getElem?_eq_getElem hip];rfl
      rw[Tc];exact Xi hi (hW.le _ _ c0) (hW.le _ _ x1) (hW.le _ _ ci) (hW.le _ _ q1) (hW.le _ _ k0) (hW.le _ _ k1) (hW.le _ _ K3.out) (q2.mono hW.le) ((CK.out.mono (za.le (SF.out.trans pq))).mono hW.le)
     have ai:=XK (w:=w3) (g:=183) (cap:= #[ptr cr,ptr cq]) (n:=rn3) (p:=λi=> !decide (zt ((u.perms.map (·.key)).getD i []) p.key<0)) (by omega) ft (λi W hi hW=>P1 i hi W hW) (λi j MG hj hp=>DH Lk p.key i j MG (by omega) hp);have HSE:=hid ai;have mV:=hid rF;have BW:=hid mM;have Rb:=hid pq;have Rn:=hid (And.intro EP (And.intro NQ (And.intro rO (And.intro Lu (And.intro hci sN)))));have eZ:=hid Lk;have HFW:=hid Sp;have ru:=hid pS;have iC:=hid Lj;clear P1 ai hZ rF mM pq EP NQ Lu hci sN Lk Sp pS Lj Lc SW y0 y1 j0 j1 j5;go_upto_region 11 with fail
     go_wp2_with fail;refine HSE.out.mono ?_;rintro e w4 ⟨k,rfl,El,Rh⟩;have BH:ZL u.perms p=k:=DI ru.out El;have HKP:=hid BH;have tN:=hid (mV.out.new Rh);have Te:=hid (Rb.out.trans Rh);have OW:=hid (Rh.heap BW.out);obtain⟨x0',x1',y0',y1'⟩:=qS (tN.out.row);have c0':w4.cell? ⟨cr,0,none⟩=some (ptr b):=Rh.le _ _ c0;have k0':=Rh.le _ _ k0;have k1':=Rh.le _ _ k1;have K2':=hid (Rh.le _ _ K2.out);have K3':=hid (Rh.le _ _ K3.out);have K4':=hid (Rh.le _ _ K4.out);clear x0 x1 k0 k1 c0;obtain⟨ids4,hdD⟩:=zex (ids);go_upto_region 12 with fail
     go_cut [107]from 61 to 107 (λc wx=>(∃j,wx=w4.drewN j)/\c=.bool (Js u.perms p k))
     case first=>
      by_cases Hb:k<rn3
      ·obtain⟨pZ,NZ,tT,⟨gb,go,rfl,PQ⟩|h0⟩:=(Sl.of_own tN.out.own).row
       case inr=>exact absurd h0 (by omega)
       have By:k<u.perms.length:=by rw[ru.out];exact Hb
       have NH:k<ids.length:=by rw[iC.out];exact By
       have ck:=PQ k (by rw[List.length_map];exact NH);rw[List.getElem_map]at ck;have wf:=(tN.out.perms.get k NH By).at (zd _ _);obtain⟨q,hq⟩:∃q,ids[k]=q:=⟨_,rfl⟩;obtain⟨qp,Bb⟩:∃y,u.perms[k]=y:=⟨_,rfl⟩;have OX:ju w4.cell? q qp:=by rw[<-hq,<-Bb];exact wf
       rw[hq]at ck;have Bz:=hid (show Js u.perms p k=(decide (qp.key=p.key) && decide (qp.stop=p.stop)) by rw[XY By,Bb]);obtain⟨_,⟨av,a1,a2⟩,⟨bv,a3,a4⟩⟩:=OX;obtain⟨ap,an,ac,rfl,_⟩:=a2.shape;obtain⟨bp,bn,bc,rfl,_⟩:=a4.shape;have NC:Rd.le wq.cell? w4.cell? :=za.le (SF.out.trans Te.out);have B1:=hid (show Z2 w4 qp.key _ from a2);have B2:=hid (show Z2 w4 p.key _ from CK.out.mono NC);have B3:=hid (show Z2 w4 qp.stop _ from a4);have B4:=hid (show Z2 w4 p.stop _ from(LI.out.mono (k7 Co.out l.some)).mono NC);have e3':=K3'.out;have e4':=K4'.out;have SX:(k:Int)<rn3:=by omega
       clear pZ PQ wf hq Bb a2 a4 NC;by_cases e1:qp.key=p.key
       ·have f1:(qp.key==p.key)=true:=by rw[e1];exact beq_self_eq_true _
        by_cases e2:qp.stop=p.stop
        ·have f2:(qp.stop==p.stop)=true:=by rw[e2];exact beq_self_eq_true _
         have BA:=hid (show Js u.perms p k=true by rw[Bz.out,decide_eq_true e1,decide_eq_true e2];rfl);clear e1 e2;go_wp2;go_quiet (first|(go_at_call 100;exact zw (qe (by exact B1.out) (by exact B2.out)))|(go_at_call 100;exact zw (qe (by exact B3.out) (by exact B4.out))));go_wp2;go_meet;exact⟨⟨nq,rfl⟩,by rw[BA.out];first|done|rfl|simp[f1,f2]⟩
        ·have f2:(qp.stop==p.stop)=false:=by simpa using e2
         have BA:=hid (show Js u.perms p k=false by rw[Bz.out,decide_eq_false e2,Bool.and_false]);clear e1 e2;go_wp2;go_quiet (first|(go_at_call 100;exact zw (qe (by exact B1.out) (by exact B2.out)))|(go_at_call 100;exact zw (qe (by exact B3.out) (by exact B4.out))));go_wp2;go_meet;exact⟨⟨nq,rfl⟩,by rw[BA.out];first|done|rfl|simp[f1,f2]⟩
       ·have f1:(qp.key==p.key)=false:=by simpa using e1
        have BA:=hid (show Js u.perms p k=false by rw[Bz.out,decide_eq_false e1,Bool.false_and]);clear e1;go_wp2;go_quiet (first|(go_at_call 100;exact zw (qe (by exact B1.out) (by exact B2.out)))|(go_at_call 100;exact zw (qe (by exact B3.out) (by exact B4.out))));go_wp2;go_meet;exact⟨⟨nq,rfl⟩,by rw[BA.out];first|done|rfl|simp[f1]⟩
      ·have BA:=hid (XZ (p:=p) (show ¬k<u.perms.length by rw[ru.out];exact Hb));have iz:decide ((k:Int)<rn3)=false:=decide_eq_false (by omega);have MC:decide (k<rn3)=false:=decide_eq_false Hb;clear Hb;go_wp2;go_quiet (fail);go_wp2;go_meet;exact⟨⟨nq,rfl⟩,by rw[BA.out];first|done|rfl⟩
     case rest=>
      obtain⟨⟨j,hj⟩,rfl⟩:=hcut;obtain⟨w5,Bo⟩:=zex (wc);rw[<-Bo]at hj⊢;have SY:za w4 w5:=by rw[hj];exact(za.refl w4).drewN j
      have RT:=hid (tN.out.new SY);have aq:=hid (Te.out.trans SY);have BB:=hid (SY.heap OW.out);obtain⟨x0,x1,y0,y1⟩:=qS RT.out.row;have c0:w5.cell? ⟨cr,0,none⟩=some (ptr b):=SY.le _ _ c0';have k0:=SY.le _ _ k0';have k1:=SY.le _ _ k1';have k2:=SY.le _ _ K2'.out;have K35:=hid (SY.le _ _ K3'.out);have K45:=hid (SY.le _ _ K4'.out);have s7:=hid ((SF.out.trans Te.out).trans SY);clear hj Bo x0' x1' y0' y1' c0' k0' k1' SY;cases hhit:Js u.perms p k
      case true=>
       obtain⟨pE,Em,nP⟩:=zbH HKP.out hhit;have NH:k<ids.length:=by rw[iC.out];exact pE
       obtain⟨pZ,NZ,tT,⟨gb,go,rfl,PQ⟩|h0⟩:=(Sl.of_own RT.out.own).row
       case inr=>exact absurd h0 (by have:=ru.out;omega)
       have ck:=PQ k (by rw[List.length_map];exact NH);rw[List.getElem_map]at ck;obtain⟨q,hq⟩:∃q,ids[k]=q:=⟨_,rfl⟩;have a8:q∈ids:=by rw[<-hq];exact List.getElem_mem NH
       rw[hq]at ck;have wf:=RT.out.perms.get k NH pE;obtain⟨z1,z2,z3,z4⟩:=wf;obtain⟨q0,_,_,qf,_⟩:=Um z3;rw[hq]at q0 qf;have SX:(k:Int)<rn3:=by have:=ru.out;omega
       obtain⟨W9,iD⟩:=zex ((w5.setCell ⟨q,0,none⟩ (.int .i32 p.kind)).drew);have TU:Z3 (λ_=>False) wm W9 b (u.name,y_ u.perms p) nv (.slice (some ⟨gb,go,none⟩) rn3 rc) ids:=by rw[iD,nP];exact(RT.out.setKind (kind:=p.kind) Rn.out.2.2.1 (by rw[List.getElem?_eq_getElem NH,hq]) (List.getElem?_eq_getElem pE)).new ((za.refl _).drew)
       have OY:=Rn.out.2.2.1;have wU:Hid (za w1 W9):=hid (zq.back aq.out RT.out.mod TU.mod Rn.out.2.1 OY);have BC:Hid (jw (im l.some W9) b ⟨u.name,y_ u.perms p⟩):=hid (TU.at λj hj=>by have h1:=H1.out.bnd j hj;have h2:=Rn.out.2.1;omega);have c9:W9.cell? ⟨cr,0,none⟩=some (ptr b):=by
        have Ho:cr≠q:=λe=>Rn.out.2.2.2.2.1 (by rw[e];exact a8);have au:W9.heap[cr]? =some (.cells #[ptr b] 223 (0,0)):=by rw[iD];show(w5.setCell ⟨q,0,none⟩ (.int .i32 p.kind)).heap[cr]? =_;rw[Below.heap_setCell _ _ _ _ (show cr≠q from Ho)];exact BB.out
        rw[cell_of_row W9 cr 0 _ _ (0,0) au];rfl
       obtain⟨rfl,rfl⟩:s.putRole ⟨u.name,y_ u.perms p⟩=s'/\0=ec:=by have:=mR.out;cases this;exact⟨rfl,rfl⟩
       have HW9:=hid iD;clear z4 TU iD z3 pZ PQ nP Em hq hhit;go_upto_region 13 with fail
       go_cut []from 108 to 123 (λwx=>wx=W9)
       case first=>
        refine wp_region_noPanic ?_;go_region
        all_goals refine NoPanic.normal ?_
        all_goals
         go_wp2_with fail;go_meet;rw[HW9.out];try rfl
       case rest=>
        have CD:wc=W9:=hcut;rw[CD];clear CD hcut ck q0 qf x0 x1 y0 y1 c0 k0 k1 k2;have pA:=HF.out;have sA:q9 {s with roles:=yO zm.name s.roles ⟨u.name,y_ u.perms p⟩}:=⟨pA.us,pA.rs,pA.uok,pA.rok,pA.ul,pA.rl,H.out.fine.rev⟩;have PH:kB ⟨u.name,y_ u.perms p⟩:=pA.rok _ ((qx H.out.fine.rs).2 (Or.inl rfl));have sC:=hid (xV (Hy.out.new wU.out) (by decide) (by decide) BC.out PH sA);have sY:=hid ((zr.new H.out.bnd Hs.out).trans (zr.new H1.out.bnd wU.out));have Rl:=hid (show s.rev+1<200 from pA.rev);clear pA sA PH;go_wp2_with fail;refine sC.out.mono ?_;rintro e w4' ⟨rfl,l4,PV,pP⟩;have Sx:=hid (sY.out.trans PV.s);have tL:=hid (yB pP (by decide) (by simp[ku,jJ]) Rl.out);clear PV pP;go_wp2_with fail;refine tL.out.mono ?_;rintro e w5 ⟨rfl,l5,A5,pC,pr⟩;have P8:=hid (Sx.out.trans pC);have tF:=hid (qW pr HS.out);clear pC pr;go_wp2_with fail;refine tF.out.mono ?_;rintro e w6 ⟨rfl,l6,m6,PC,PP,R_⟩
        have sP:=hid (P8.out.trans PC);have Po:=hid (And.intro PP R_);clear PC PP R_;go_wp2;have P2:∀o,za w6 (w6.alloc o):=λo=>(za.refl w6).alloc o;refine leaves_cons (f:=261) (args:= #[ptr x]) (by simp) (hi _) ?_;refine(yG (Po.out.1.new (P2 _)) HS.out (Po.out.2.step Po.out.1.bnd (zr.new Po.out.1.bnd (P2 _))) (by decide) (jT (by decide) _)).mono ?_;rintro e u' w'' ⟨rfl,rfl,l7,I7,tM,ri,rB⟩;exact⟨_,results_tmp2 rfl _ _ _,_,rfl,l7,I7,tM,(sP.out.trans (zr.new Po.out.1.bnd (P2 _))).trans ri,rB⟩
      case false=>
       have nP:=zar HKP.out hhit;have En:=hid nP;obtain⟨rfl,rfl⟩:s.putRole ⟨u.name,y_ u.perms p⟩=s'/\0=ec:=by have:=mR.out;cases this;exact⟨rfl,rfl⟩
       obtain⟨W6,Cy⟩:=zex ((w5.alloc (.cells #[.int .i32 p.kind,.slice kp kn kc,.slice ep en ec2] 112)).drew);obtain⟨q2,PL⟩:=zex (w5.heap.size);have e3':=K35.out;have e4':=K45.out;have BM:=hid Cy;have Nq:=hid PL;clear Cy PL nP hhit;go_upto_region 14 with fail
       go_cut [9]from 124 to 146 (λc wx=>c=ptr q2/\wx=W6)
       case first=>
        refine wp_region_noPanic ?_;go_region
        all_goals refine NoPanic.normal ?_
        all_goals
         go_wp2_with fail;go_meet;rw[BM.out,Nq.out];exact⟨rfl,rfl⟩
       case rest=>
        obtain⟨rfl,CD⟩:=hcut;rw[CD];clear CD;have NI:za w5 W6:=by rw[BM.out];exact((za.refl w5).alloc _).drew
        have sK:W6.heap[q2]? =some (.cells #[.int .i32 p.kind,.slice kp kn kc,.slice ep en ec2] 112 (0,0)):=by rw[BM.out,Nq.out];exact zg w5 _
        have BD:xE l.some w1 W6 b u.name u.perms nv (.slice rp rn3 rc) ids:=(RT.out.new NI).rolX (aq.out.trans NI) Rn.out.2.1 Rn.out.2.2.1 (λj hj=>H1.out.bnd j hj);have hbq:b<q2:=by rw[Nq.out];exact(Array.getElem?_eq_some_iff.1 RT.out.row).1
        have Eo:∀z,(Value.slice rp rn3 rc).ownBlock=some z->z<q2:=λz hz=>by rw[Nq.out];exact(World.ownsRow.lt RT.out.own z hz).2
        have Ep:cr<W6.heap.size:=(Array.getElem?_eq_some_iff.1 (NI.heap BB.out)).1;have Hh:w.heap.size<=w1.heap.size:=Hs.out.size;have hpq:∀o,ju (im (EX l.some b (.slice rp rn3 rc)) (W6.alloc o).drew) q2 p:=λo=>by
         have tZ:za W6 (W6.alloc o).drew:=((za.refl W6).alloc o).drew;obtain⟨f0,f1,f2,_⟩:=Um (tZ.heap sK);have NT: ¬EX l.some b (.slice rp rn3 rc) q2:=by
          rintro(e|e|e)
          ·have h1:=H1.out.bnd q2 e;have h2:=aq.out.size;rw[Nq.out]at h1;omega
          ·omega
          ·have:=Eo _ e;omega
         have hY:(im l.some w).le (im (EX l.some b (.slice rp rn3 rc)) (W6.alloc o).drew):=zdD (za.im (((Hs.out.trans aq.out).trans NI).trans tZ) l.some) (by have:=Rn.out.2.1;omega) (λz hz=>by have:=(World.ownsRow.lt BD.own z hz).1;omega);exact⟨zi.2 ⟨NT,f0⟩,⟨_,zi.2 ⟨NT,f1⟩,bZ.out.mono hY⟩,_,zi.2 ⟨NT,f2⟩,LI.out.mono hY⟩
        have HPQ:=hid hpq;have HX6:=hid BD;obtain⟨x0',x1',y0',y1'⟩:=qS BD.row;have c06:W6.cell? ⟨cr,0,none⟩=some (ptr b):=NI.le _ _ c0;have c06a:∀o,(W6.alloc o).drew.cell? ⟨cr,0,none⟩=some (ptr b):=λo=>za.le (((za.refl W6).alloc o).drew) _ _ c06;have x1a:∀o,(W6.alloc o).drew.cell? ⟨b,1,none⟩=some (.slice rp rn3 rc):=λo=>za.le (((za.refl W6).alloc o).drew) _ _ x1';have Er:=hid (NI.heap BB.out);have SR:Hid (((ids.map ptr).length+[ptr q2].length)*(8+1)<=140737488355328):=hid (by have h1:=HFW.out;have h2:=iC.out;rw[List.length_map,List.length_singleton];omega)
        have Es:=hid Ep;have P6:∀w5':World,(W6.alloc (.cells #[ptr q2] 72)).drew.grownBy w5' (Value.slice rp rn3 rc).ownBlock->w5'.cell? ⟨cr,0,none⟩=some (ptr b):=λw5' hg=>by have rD:cr<(W6.alloc (.cells #[ptr q2] 72)).drew.heap.size:=Nat.lt_of_lt_of_le Es.out (((za.refl W6).alloc _).drew).size;have h9:=((zq.of_grown hg).block cr rD (λe=>Rn.out.2.2.2.2.2 e)).trans (za.heap (((za.refl W6).alloc _).drew) Er.out);rw[cell_of_row w5' cr 0 _ _ (0,0) h9];rfl
        have HG5:=hid P6;clear P6;clear NI sK BD hbq Eo Ep Hh hpq x0 x1 y0 y1 c0 k0 k1 k2 e3' e4';go_upto_region 15 with fail
        go_cut []from 147 to 156 (λwx=>∃p7 n7 c7,xE l.some w1 wx b u.name (u.perms++[p]) nv (.slice p7 n7 c7) (ids++[q2])/\wx.heap[cr]? =some (.cells #[ptr b] 223 (0,0))/\(Value.slice p7 n7 c7).ownBlock≠some cr)
        case first=>
         refine wp_region_noPanic ?_;go_region_law (refine Zg KU rfl rfl (Zb (World.ownsRow.alloc (qJ HX6.out.own 0 (Nat.zero_le _)) _)) rfl rfl (news:=[ptr q2]) (Sl.drew (Sl.made W6 [ptr q2] _ 1 1 rfl (by decide))) gB SR.out ?_;intro v5 w5' ho hg PU;obtain⟨p7,n7,c7,rfl⟩:=(Sl.of_own ho).shape;obtain⟨pe,Mp⟩:=xE.app HX6.out (((za.refl W6).alloc _).drew) (HPQ.out _) ho hg PU;obtain⟨_,z1,_,z1f⟩:=qS pe;have zc:=HG5.out _ hg;have Et:=hid (And.intro Mp (And.intro hg PU));clear ho hg PU pe Mp)
         all_goals refine NoPanic.normal ?_
         all_goals
          go_wp2_with fail;go_meet;obtain⟨Mp,hg,PU⟩:=Et.out;have rD:cr<(W6.alloc (.cells #[ptr q2] 72)).drew.heap.size:=Nat.lt_of_lt_of_le Es.out (((za.refl W6).alloc _).drew).size;refine⟨p7,n7,c7,Mp,?_,λe=> ?_⟩
          ·rw[Below.heap_setCell _ _ _ _ (show cr≠b from Rn.out.2.2.2.1),(zq.of_grown hg).block cr rD (λe=>Rn.out.2.2.2.2.2 e)];exact za.heap (((za.refl W6).alloc _).drew) Er.out
          ·rcases PU _ e with e2|e2
           ·exact Rn.out.2.2.2.2.2 e2
           ·omega
        case rest=>
         obtain⟨p7,n7,c7,Mp,co,Eu⟩:=hcut;obtain⟨W7,hW7⟩:=zex (wc);rw[<-hW7]at Mp co⊢;clear hW7 x0' x1' y0' y1' c06 c06a x1a;obtain⟨v0,v1,_,_⟩:=qS Mp.row;have c7':W7.cell? ⟨cr,0,none⟩=some (ptr b):=by rw[cell_of_row W7 cr 0 _ _ (0,0) co];rfl
         have bj:=hid (UY Mp iC.out eZ.out HFW.out);have BE:=hid (And.intro co Eu);clear Mp co Eu;go_upto_region 16 with fail
         go_wp2_with fail;refine bj.out.mono ?_;rintro e w8 ⟨rfl,A7,ids8,OZ⟩;have wU:Hid (za w1 w8):=hid OZ.new;have BC:Hid (jw (im l.some w8) b ⟨u.name,y_ u.perms p⟩):=hid (by rw[En.out];exact OZ.role λj hj=>H1.out.bnd j hj);have c9:w8.cell? ⟨cr,0,none⟩=some (ptr b):=by have au:w8.heap[cr]? =some (.cells #[ptr b] 223 (0,0)):=(A7.block cr (Array.getElem?_eq_some_iff.1 BE.out.1).1 BE.out.2).trans BE.out.1;rw[cell_of_row w8 cr 0 _ _ (0,0) au];rfl
         clear A7 OZ v0 v1 c7';have pA:=HF.out;have sA:q9 {s with roles:=yO zm.name s.roles ⟨u.name,y_ u.perms p⟩}:=⟨pA.us,pA.rs,pA.uok,pA.rok,pA.ul,pA.rl,H.out.fine.rev⟩;have PH:kB ⟨u.name,y_ u.perms p⟩:=pA.rok _ ((qx H.out.fine.rs).2 (Or.inl rfl));have sC:=hid (xV (Hy.out.new wU.out) (by decide) (by decide) BC.out PH sA);have sY:=hid ((zr.new H.out.bnd Hs.out).trans (zr.new H1.out.bnd wU.out));have Rl:=hid (show s.rev+1<200 from pA.rev);clear pA sA PH;go_wp2_with fail;refine sC.out.mono ?_;rintro e w4' ⟨rfl,l4,PV,pP⟩;have Sx:=hid (sY.out.trans PV.s);have tL:=hid (yB pP (by decide) (by simp[ku,jJ]) Rl.out);clear PV pP;go_wp2_with fail;refine tL.out.mono ?_;rintro e w5 ⟨rfl,l5,A5,pC,pr⟩;have P8:=hid (Sx.out.trans pC);have tF:=hid (qW pr HS.out);clear pC pr;go_wp2_with fail;refine tF.out.mono ?_;rintro e w6 ⟨rfl,l6,m6,PC,PP,R_⟩;have sP:=hid (P8.out.trans PC);have Po:=hid (And.intro PP R_)
         clear PC PP R_;go_wp2;have P2:∀o,za w6 (w6.alloc o):=λo=>(za.refl w6).alloc o;refine leaves_cons (f:=261) (args:= #[ptr x]) (by simp) (hi _) ?_;refine(yG (Po.out.1.new (P2 _)) HS.out (Po.out.2.step Po.out.1.bnd (zr.new Po.out.1.bnd (P2 _))) (by decide) (jT (by decide) _)).mono ?_;rintro e u' w'' ⟨rfl,rfl,l7,I7,tM,ri,rB⟩;exact⟨_,results_tmp2 rfl _ _ _,_,rfl,l7,I7,tM,(sP.out.trans (zr.new Po.out.1.bnd (P2 _))).trans ri,rB⟩
theorem Ko(a:Nat)(W:World):(method 608 142 (ptr a) "RoleList").run prog W=.ok (169,ptr a) W:=by kernel_rfl
theorem zaD{w:World}{I:zN}{s:zA}(h:Wd l w x I a s)(hk:o.kind=14)(Hb:∀r∈s.roles,zt r.name [255]<0):
  Calls prog 33 #[ptr x,o.val] w (fR l w x I (s,⟨0,s.rev,s.on,false,s.roles.map (·.name),[]⟩)):=by
 obtain⟨ki,us,ro,pk,ke,st,np,od,nu⟩:=o;dsimp only at hk;subst hk;unfold zH.val zH.cells;dsimp only;obtain⟨cc,Hc⟩:=zex (#[.int .i64 14,zb us,zb ro,.int .i64 pk,zb ke,zb st,.bool np,.int .i64 od,.bool nu]);obtain⟨l1,H⟩:=yV.start h cc;obtain⟨W0,py⟩:=zex (((w.alloc (.cells cc 35)).alloc (.cells qQ 42)).alloc (.cells qQ 42));rw[<-py]at H;have c2:=H.cell;have g0:W0.cell? ⟨w.heap.size,0,none⟩=some (.int .i64 14):=(H.ocell 0).trans (by rw[Hc];rfl);have hQ:za W0 (W0.alloc (.cells #[] 117)):=(za.refl W0).alloc _;have H1:=H.new hQ;have HC:=hid (H.names hQ (fG H1.wd.st Hb (rb:=W0.heap.size)));have HH:=hid H;have rR:=hid py;have pJ:=hid Hc;have m1:=qa;have m2:=qt;have m3:=Ko a;clear h Hc py H H1 hQ Hb;go_enter func33,ntmps33;go_upto_region 3 with fail
 rw[<-pJ.out,<-(show qQ= #[.int .i64 0,.int .u64 0,.bool false,.bool false,.slice none 0 0,.slice none 0 0]from rfl),<-rR.out];obtain⟨va,pR⟩:=zex (Value.agg cc);obtain⟨vz,RD⟩:=zex (Value.agg qQ);rw[<-pR,<-RD];clear pR RD;go_wp2_with fail;refine HC.out.mono ?_;rintro e w2 ⟨b,p,n,c,rfl,⟨l2,I2,h2,pW⟩,d0,d4,z4⟩;obtain⟨W2,nS⟩:=zex (w2.setCell ⟨w.heap.size+1+1,4,none⟩ (.slice p n c));have NJ:=h2.setNames pW;rw[<-nS]at NJ;have H2:=hid NJ;have lj:=hid nS;unfold ja at d4;clear h2 NJ pW nS c2 g0;go_upto_region 37 with fail
 rw[<-lj.out];obtain⟨ec,rP⟩:∃e:Nat,e=0:=⟨_,rfl⟩;have Tz:=hid rP;have tO:=hid (show ec<=15 by omega);have TA:=hid (show ze ec=.nilIface from by rw[rP];rfl);clear rP;obtain⟨W3,PD⟩:=zex (W2.setCell ⟨w.heap.size+1+1,0,none⟩ (.int .i64 (ec:Nat)));have h3:=H2.out.setErr (ec);rw[<-PD]at h3;obtain⟨W4,PJ⟩:=zex (W3.setCell ⟨w.heap.size+1+1,1,none⟩ (.int .u64 (s.rev:Nat)));have h4:=h3.setRev s.rev;rw[<-PJ]at h4;obtain⟨W5,P4⟩:=zex (W4.setCell ⟨w.heap.size+1+1,2,none⟩ (.bool s.on));have h5:=h4.setOn s.on;rw[<-P4]at h5;have a0:=H2.out.acell 0;have z0:=H2.out.afree 0;have b0:W3.cell? ⟨w.heap.size,0,none⟩=some (.int .i64 14):=(h3.ocell 0).trans (by rw[pJ.out];rfl);have HK:=hid (show Calls prog 43 #[.nilIface] W2 _ from by rw[<-TA.out];exact vm (w:=W2) tO.out);have HR:=hid h3.rev;have HO:=hid h4.on;have H3:=hid h3;have H4:=hid h4;have H5:=hid h5;have Rn:=hid PD;have sQ:=hid PJ;have s7:=hid P4
 clear h3 h4 h5 PD PJ P4;have a0:W2.cell? ⟨w.heap.size+1+1,0,none⟩=some (.int .i64 0):=a0;go_wp2_with fail;refine HK.out.mono ?_;rintro e w9 ⟨rfl,rfl⟩;go_upto_region 38 with fail
 rw[<-Rn.out];clear a0 z0;have q2:=H3.out.cell;have a1:W3.cell? ⟨w.heap.size+1+1,1,none⟩=some (.int .u64 0):=H3.out.acell 1;have z1:=H3.out.afree 1;go_wp2_with fail;refine HR.out.mono ?_;rintro e w9 ⟨rfl,rfl⟩;go_upto_region 41 with fail
 rw[<-sQ.out];clear q2 a1 z1;have q2:=H4.out.cell;have a2:W4.cell? ⟨w.heap.size+1+1,2,none⟩=some (.bool false):=H4.out.acell 2;have z2:=H4.out.afree 2;go_wp2_with fail;refine HO.out.mono ?_;rintro e w9 ⟨rfl,rfl⟩;go_upto_region 42 with fail
 rw[<-s7.out];clear q2 a2 z2;have k0:=H5.out.acell 0;have r0:=H5.out.rcell 0;have f0:=H5.out.rfree 0;have k1:=H5.out.acell 1;have r1:=H5.out.rcell 1;have f1:=H5.out.rfree 1;have k2:=H5.out.acell 2;have r2:=H5.out.rcell 2;have f2:=H5.out.rfree 2;have k3:=H5.out.acell 3;have r3:=H5.out.rcell 3;have f3:=H5.out.rfree 3;have k4:=H5.out.acell 4;have r4:=H5.out.rcell 4;have f4:=H5.out.rfree 4;have k5:=H5.out.acell 5;have r5:=H5.out.rcell 5;have f5:=H5.out.rfree 5;simp only[xF,qQ,Kj,ja,List.getElem?_toArray,List.getElem?_cons_zero,List.getElem?_cons_succ]at k0 k1 k2 k3 k4 k5 r0 r1 r2 r3 r4 r5;go_wp2;exact H5.out.leave (by rw[Tz.out];rfl) rfl rfl
end Go.Proofs.YtbmdoinjkligiaaGreat
