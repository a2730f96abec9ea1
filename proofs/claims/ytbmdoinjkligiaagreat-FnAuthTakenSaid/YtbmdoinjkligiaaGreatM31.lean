/- Contracts and laws that the last text joins. -/
import Derived.Test.YtbmdoinjkligiaaGreatM27
set_option maxRecDepth 100000
set_option maxHeartbeats 40000000
set_option linter.all false
namespace Go.Proofs.YtbmdoinjkligiaaGreat
open Tryz
open Lib(hid)
open Go.RowKit
def ZZ(L:List (Nat×zh))(k e:Bytes):List (Nat×zh):=L.filter λp=> !(decide (p.2.key=k) && decide (p.2.stop=e))
theorem JR(L:List (Nat×zh))(k e:Bytes):(ZZ L k e).map (·.2)=jf (L.map (·.2)) k e:=by unfold ZZ jf;rw[List.filter_map];rfl
theorem VG(L:List (Nat×zh))(p:Nat×zh)(k e:Bytes):ZZ (L++[p]) k e=if p.2.key=k/\p.2.stop=e then ZZ L k e else ZZ L k e++[p]:=by
 unfold ZZ;rw[List.filter_append];by_cases h:p.2.key=k/\p.2.stop=e
 ·rw[if_pos h];simp[h.1,h.2]
 ·rw[if_neg h];have h2: ¬p.2.key=k\/¬p.2.stop=e:=by
   by_cases h1:p.2.key=k
   ·exact Or.inr λh2=>h ⟨h1,h2⟩
   ·exact Or.inl h1
  simpa using h2
theorem zas(L:List (Nat×zh))(k e:Bytes):(ZZ L k e).length<=L.length:=List.length_filter_le ..
variable{nv:Value}{ub:Nat}
theorem QG.drewN{w0 w:World}{bs:List Nat}(h:QG w0 w ub nv bs)(n:Nat):QG w0 (w.drewN n) ub nv bs:=⟨h.new.drewN n,h.ge,h.ex⟩
variable{a ec:Nat}{kv:Value}{l:zu}{s':zA}
theorem Xl{w:World}{rb:Nat}{I:zN}{s:zA}{n k e:Bytes}{ev:Value}(h:Zk l w a I s)(hr:QC s n k e=(s',ec))(hn:n.length<=1000)(h0:im l.some w ⟨rb,0,none⟩=some (zb n))(h1:im l.some w ⟨rb,1,none⟩=some kv)(hk:Bs (im l.some w) k kv)(h2:im l.some w ⟨rb,2,none⟩=some ev)(he:Bs (im l.some w) e ev)
  (hf:q9 s')(hs:yA s'):
  Calls prog 170 #[ptr a,ptr rb] w (VV l w a I s' ec):=by
 obtain⟨A,ab,m,lg,h⟩:=h;have r2:w.cell? ⟨a,2,none⟩=some (.iface 149 (ptr ab)):=by rw[cell_of_row w a 2 _ _ (0,0) h.row];rfl
 have r3:w.cell? ⟨a,3,none⟩=some (.bool s.on):=by rw[cell_of_row w a 3 _ _ (0,0) h.row];rfl
 have d0:=zd _ _ _ _ h0;have HB:=hid (qO h.idle h.abe);have H:=hid h;have H0:=hid h0;have HF:=hid hf;have HS:=hid hs;have sM:=hid (zr.refl h.bnd);have m1:=qK;have m2:=qw;have m3:=yd;have m4:=yo;have m5:=qZ;have m6:=jK;obtain⟨kp,kn,kc,rfl,_⟩:=hk.shape;obtain⟨ep,en,ec2,rfl,_⟩:=he.shape;have LR:=hid (And.intro h1 hk);have wL:=hid (And.intro h2 he);clear h h0 h1 h2 hk he hf hs;obtain⟨sx,Ht⟩:=zex ((⟨n.toArray⟩:ByteArray));unfold zb at d0;rw[<-Ht]at d0;have r_:=hid Ht;clear Ht;obtain⟨o,ho⟩:∃o,s.role n=o:=⟨_,rfl⟩;unfold QC at hr;rw[ho]at hr;have RU:=hid (show qT zm.name s.roles n=o from ho);have rX:=hid hr;clear ho hr;go_enter_defers func170,ntmps170;go_wp2_with fail;refine HB.out.mono ?_;rintro e w1 ⟨x,rfl,hQ,hx,pH⟩;have h1:=H.out.new hQ;have HL:=hid (jg h1.idle pH);have hd:za w1 w1.drew:=(za.refl w1).drew;have j0:=hQ.le _ _ d0;have SI:=(h1.new hd).mid (pH.new hd)
 have Pm:=hid (ZQ h1.fine h1.kv (h1.idle.new hd) (pH.new hd) hn);have H1:=hid (h1.new hd);have Hs:=hid (show za w w1.drew from hQ.drew);have Hy:=hid SI;unfold zb at Pm;rw[<-r_.out]at Pm;clear h1 hQ pH hd SI;go_wp2_with fail;refine HL.out.mono ?_;rintro e w2 ⟨rfl,rfl⟩;go_wp2_with fail;refine wp_region_noPanic ?_;go_region_with (refine Pm.out.mono ?_;rintro e w2 ⟨r,rfl,Hj,H9⟩;have Hu:=hid (And.intro Hj H9);clear Hj H9)
 all_goals refine NoPanic.normal ?_
 all_goals
  obtain⟨Hj,H9⟩:=Hu.out;rw[RU.out]at H9;have hi:=ye x;have Pf:=hid Hj;clear j0;cases o with
  |none=>
   have r7:=Pf;cases H9;obtain⟨rfl,rfl⟩:s=s'/\7=ec:=by have:=rX.out;cases this;exact⟨rfl,rfl⟩
   clear Hj;have nN:=hid (Hy.out.new r7.out);have Tu:=hid (zr.new H1.out.bnd r7.out);go_wp2;refine leaves_cons (f:=261) (args:= #[ptr x]) (by simp) (hi _) ?_;refine(qr nN.out.tx (by decide) qH nN.out.atx).mono ?_;rintro e u' w'' ⟨rfl,rfl,l3,I3,Pa,Pc,rY⟩;exact⟨_,results_tmp2 rfl _ _ _,_,rfl,l3,I3,Pc,((zr.new H.out.bnd Hs.out).trans Tu.out).trans Pa.s,_,_,_,_,(H1.out.new r7.out).moved Pa Pc rY⟩
  |some u=>
   obtain⟨b,he,lP,o0⟩:=H9.at H1.out.bnd;cases he;obtain⟨⟨nv,u0,u1⟩,pv,ids,u2,u3,u4⟩:=o0;obtain⟨np,nn,nc,rfl,_⟩:=u1.shape;obtain⟨pp,n8,c8,rfl⟩:=u3.shape;have k0:=zd _ _ _ _ u0;have k1:=zd _ _ _ _ u2;obtain⟨L,hL⟩:=zex (ids.zip u.perms);obtain⟨Ev,Ew⟩:=zam u4;rw[<-hL]at Ev Ew;have Sz:ids.length=n8:=by have:=u3.row.1;rw[List.length_map]at this;exact this
   have RL:L.length=n8:=by rw[<-Sz,<-Ev,List.length_map]
   have SW:=H1.out.fine.rok u (qg H1.out.fine.rs RU.out);have pS:u.perms.length=n8:=by rw[<-Ew,List.length_map];exact RL
   have r9:n8<=100:=by rw[<-pS];exact SW.perms
   have nQ:(im l.some w).le (im l.some w2):=(za.im Hs.out _).le_trans (za.im Hj _);have eI:=hid (nQ _ _ LR.out.1);have O4:=hid (LR.out.2.mono nQ);have HE2:=hid (nQ _ _ wL.out.1);have O5:=hid (wL.out.2.mono nQ);have eH:=hid u1;have cX:=hid u2;have mV:=hid u3;have Me:qz (ju (im l.some w2)) (L.map (·.1)) (L.map (·.2)):=by rw[Ev,Ew];exact u4
   have tN:=hid Me;have HL1:=hid Ev;have HL2:=hid Ew;have RM:=hid RL;have ru:=hid pS;have BN:=hid (((qN H1.out.fine.rs).1 RU.out).2);have pw:∀j,l j≠0->j<w2.heap.size:=λj hj=>Nat.lt_of_lt_of_le (H1.out.bnd j hj) Hj.size;have SB:=hid pw;obtain⟨W,hW⟩:=zex (w2.alloc (.cells #[.slice np nn nc,.slice none 0 0] 226));have Cu:QG w2 W w2.heap.size (.slice np nn nc) []:=⟨by rw[hW];exact(za.refl w2).alloc _,Nat.le_refl _,.slice none 0 0,0,by rw[hW];exact zg w2 _,World.ownsRow_nil _ _ _ _,λb e=>by cases e⟩;have k1W:W.cell? ⟨b,1,none⟩=some (.slice pp n8 c8):=by rw[hW];exact za.le ((za.refl w2).alloc _) _ _ k1
   have LS:=hid Cu;have HW:=hid hW;clear u0 u1 u2 u3 u4 hL Ev Ew Sz SW Cu hW Me RL pS H9 Hj nQ pw;go_upto_region 8 with fail
   rw[<-HW.out];obtain⟨ub,sd⟩:∃ub,w2.heap.size=ub:=⟨_,rfl⟩;rw[sd]at LS;have eJ:=hid sd;rw[sd];clear sd k0 k1;go_wp2;go_loopw [43] (λc wr=>∃i:Nat,i<=n8/\c=.int .i64 i/\QG w2 wr ub (.slice np nn nc) ((ZZ (L.take i) k e).map (·.1))) (λc _=>n8-(intOf c).toNat)
   case atStart=>exact⟨0,Nat.zero_le _,rfl,LS.out⟩
   case round=>
    obtain⟨i,Bv,rfl,hK⟩:=hrel;by_cases Hb:i<n8
    ·obtain⟨pZ,NZ,tT,⟨gb,go,rfl,PQ⟩|h0⟩:=mV.out.row
     case inr=>exact absurd h0 (by omega)
     have O6:i<L.length:=by rw[RM.out];exact Hb
     have hY:=hK.new.im l.some;have ck:=zd _ _ _ _ (hY _ _ (PQ i (by rw[List.length_map,<-HL1.out,List.length_map];exact O6)));have tH:ids[i]? =some L[i].1:=by rw[<-HL1.out,List.getElem?_map,List.getElem?_eq_getElem O6];rfl
     rw[List.getElem_map,(List.getElem?_eq_some_iff.1 tH).2]at ck;have RG:=(jy.1 tN.out L[i] (List.getElem_mem O6)).mono hY;obtain⟨⟨q,p⟩,hy⟩:∃y,L[i]=y:=⟨_,rfl⟩;rw[hy]at ck RG;have RX:L.take (i+1)=L.take i++[(q,p)]:=by rw[<-hy,List.take_append_getElem]
     obtain⟨_,⟨av,a1,a2⟩,⟨bv,a3,a4⟩⟩:=RG;obtain⟨ap,an,ac,rfl,_⟩:=a2.shape;obtain⟨bp,bn,bc,rfl,_⟩:=a4.shape;have g1:=zd _ _ _ _ a1;have g2:=zd _ _ _ _ a3;have g3:=zd _ _ _ _ (hY _ _ eI.out);have g4:=zd _ _ _ _ (hY _ _ HE2.out);have B1:=hid (show Z2 wr p.key _ from a2.mono (zd _ _));have B2:=hid (show Z2 wr k _ from(O4.out.mono hY).mono (zd _ _));have B3:=hid (show Z2 wr p.stop _ from a4.mono (zd _ _));have B4:=hid (show Z2 wr e _ from(O5.out.mono hY).mono (zd _ _));have Rk:(i:Int)<n8:=by omega
     have tA:=hid RX;have HK:=hid hK;clear pZ PQ hy RX hK hY a1 a2 a3 a4 tH;go_upto_region 11 with fail
     go_cut [68]from 47 to 68 (λc wx=>za wr wx/\(∃m,wx=wr.drewN m)/\c=.bool (!(decide (p.key=k) && decide (p.stop=e))))
     case first=>
      by_cases e1:p.key=k
      ·have f1:(p.key==k)=true:=by rw[e1];exact beq_self_eq_true k
       by_cases e2:p.stop=e
       ·have f2:(p.stop==e)=true:=by rw[e2];exact beq_self_eq_true e
        go_wp2;go_quiet (first|(go_at_call 100;exact zw (qe (by exact B1.out) (by exact B2.out)))|(go_at_call 100;exact zw (qe (by exact B3.out) (by exact B4.out))));go_wp2;go_meet;exact⟨(za.refl wr).drewN nq,⟨nq,rfl⟩,by rw[decide_eq_true e1,decide_eq_true e2];first|rfl|simp[f1,f2]⟩
       ·have f2:(p.stop==e)=false:=by simpa using e2
        go_wp2;go_quiet (first|(go_at_call 100;exact zw (qe (by exact B1.out) (by exact B2.out)))|(go_at_call 100;exact zw (qe (by exact B3.out) (by exact B4.out))));go_wp2;go_meet;exact⟨(za.refl wr).drewN nq,⟨nq,rfl⟩,by rw[decide_eq_true e1,decide_eq_false e2];first|rfl|simp[f1,f2]⟩
      ·have f1:(p.key==k)=false:=by simpa using e1
       go_wp2;go_quiet (first|(go_at_call 100;exact zw (qe (by exact B1.out) (by exact B2.out)))|(go_at_call 100;exact zw (qe (by exact B3.out) (by exact B4.out))));go_wp2;go_meet;exact⟨(za.refl wr).drewN nq,⟨nq,rfl⟩,by rw[decide_eq_false e1];first|rfl|simp[f1]⟩
     case rest=>
      obtain⟨RE,⟨mm,Su⟩,rfl⟩:=hcut;have hKx:QG w2 wc ub (.slice np nn nc) ((ZZ (L.take i) k e).map (·.1)):=by rw[Su];exact HK.out.drewN mm
      have HKX:=hid hKx;clear hKx RE Su ck g1 g2 g3 g4;by_cases e9:p.key=k/\p.stop=e
      ·rw[decide_eq_true e9.1,decide_eq_true e9.2];go_wp2;go_roundw
       case rel=>exact⟨i+1,by omega,by go_num,by rw[tA.out,VG,if_pos e9];exact HKX.out⟩
       case measure=>simp[intOf];omega
      ·have Ex:(!(decide (p.key=k) && decide (p.stop=e)))=true:=by
        by_cases e1:p.key=k
        ·have: ¬p.stop=e:=λe2=>e9 ⟨e1,e2⟩;simp[this]
        ·simp[e1]
       rw[Ex];obtain⟨Hp,pD,rv,m5',hZ,Ha,Pw⟩:=HKX.out;obtain⟨x0,x1,z0,z1⟩:=qS hZ;have SR:Hid (((((ZZ (L.take i) k e).map (·.1)).map ptr).length+[ptr q].length)*(8+1)<=140737488355328):=hid (by have:=zas (L.take i) k e;rw[List.length_take]at this;rw[List.length_map,List.length_map,List.length_singleton];omega)
       have x1a:∀ob,(wc.alloc ob).cell? ⟨ub,1,none⟩=some rv:=λob=>za.le ((za.refl wc).alloc ob) _ _ x1;have P7:=hid hZ;have Rl:=hid Pw;have Rc:=hid Hp;have Px:=hid Ha;clear Hp hZ Ha Pw Ex;go_wp2_with (at_builtin;go_must (refine qM KU rfl rfl (World.ownsRow.alloc Px.out _) rfl rfl (news:=[ptr q]) (Sl.made wc [ptr q] _ 1 1 rfl (by omega)) gB SR.out ?_));intro v5 w5 ho hg PU;obtain⟨p7,n7,c7,rfl⟩:=(Sl.of_own ho).shape;rw[<-List.map_map]at ho;obtain⟨pe,Cv⟩:=QG.app (Rc.out.alloc _) pD (za.heap (show za wc _ from(za.refl wc).alloc _) P7.out) Rl.out ho hg (λb e=>(PU b e).imp (λe1=>e1) λe1=>Nat.le_trans (Nat.le_of_eq (Array.size_push ..)) e1);obtain⟨_,y1,_,y1z⟩:=qS pe;have eK:=hid Cv;clear ho hg PU pe Cv;go_wp2;go_roundw
       case rel=>exact⟨i+1,by omega,by go_num,by rw[tA.out,VG,if_neg e9,List.map_append];exact eK.out⟩
       case measure=>simp[intOf];omega
    ·have ph:i=n8:=by omega
     subst ph;have RX:L.take L.length=L:=List.take_length;rw[RM.out]at RX;rw[RX]at hK;have cg:(ZZ L k e).length=(jf u.perms k e).length:=by rw[<-HL2.out,<-JR,List.length_map]
     obtain⟨Hp,pD,rv,m5',hZ,Ha,Pw⟩:=id hK;obtain⟨rp,rn5,rc,rfl⟩:=(Sl.of_own Ha).shape;have pZ:(jf u.perms k e).length=rn5:=by have:=(Sl.of_own Ha).row.1;rw[List.length_map,List.length_map,cg]at this;exact this
     obtain⟨x0,x1,z0,z1⟩:=qS hZ;have q1:=zd _ _ _ _ (Hp.im l.some _ _ cX.out);have HK:=hid hK;have NS:=hid pZ;clear hK Hp hZ Ha Pw pZ RX cg k1W;by_cases Hf:(jf u.perms k e).length=u.perms.length
     ·have h_:rn5=i:=by rw[<-NS.out,Hf,ru.out]
      subst h_;obtain⟨rfl,rfl⟩:s=s'/\12=ec:=by have h9:(if (jf u.perms k e).length=u.perms.length then (s,12)else (s.putRole ⟨u.name,jf u.perms k e⟩,0))=(s',ec):=rX.out;rw[if_pos Hf]at h9;cases h9;exact⟨rfl,rfl⟩
      have pq:za w1.drew wr.drew:=Pf.out.trans HK.out.new.drew;have r7:=hid pq;have nN:=hid (Hy.out.new pq);clear pq;go_wp2_with fail;refine wp_region_noPanic ?_;go_region
      all_goals refine NoPanic.normal ?_
      all_goals
       go_wp2;refine leaves_cons (f:=261) (args:= #[ptr x]) (by simp) (hi _) ?_;refine(qr nN.out.tx (by decide) qH nN.out.atx).mono ?_;rintro e u' w'' ⟨rfl,rfl,l3,I3,Pa,Pc,rY⟩;exact⟨_,results_tmp2 rfl _ _ _,_,rfl,l3,I3,Pc,((zr.new H.out.bnd Hs.out).trans (zr.new H1.out.bnd r7.out)).trans Pa.s,_,_,_,_,(H1.out.new r7.out).moved Pa Pc rY⟩
     ·have h_:rn5≠i:=λe9=>Hf (by rw[NS.out,ru.out,e9]);have eL: ¬((i:Int)=rn5):=by omega
      obtain⟨rfl,rfl⟩:s.putRole ⟨u.name,jf u.perms k e⟩=s'/\0=ec:=by have h9:(if (jf u.perms k e).length=u.perms.length then (s,12)else (s.putRole ⟨u.name,jf u.perms k e⟩,0))=(s',ec):=rX.out;rw[if_neg Hf]at h9;cases h9;exact⟨rfl,rfl⟩
      have sw:qz (ju (im l.some w2)) ((ZZ L k e).map (·.1)) (jf u.perms k e):=by rw[<-HL2.out,<-JR];exact jy.2 λp hp=>jy.1 tN.out p (List.mem_filter.1 hp).1
      have pO:jw (im l.some wr) ub ⟨u.name,jf u.perms k e⟩:=HK.out.role (λj e=>SB.out j e) eH.out sw;have Bk:za wr wr.drew:=(za.refl wr).drew;have pq:za w1.drew wr.drew:=(Pf.out.trans HK.out.new).trans Bk;have pA:=HF.out;have sA:q9 {s with roles:=yO zm.name s.roles ⟨u.name,jf u.perms k e⟩}:=⟨pA.us,pA.rs,pA.uok,pA.rok,pA.ul,pA.rl,H.out.fine.rev⟩;have PH:kB ⟨u.name,jf u.perms k e⟩:=pA.rok _ ((qx H.out.fine.rs).2 (Or.inl rfl));have sC:=hid (xV (Hy.out.new pq) (by decide) (by decide) (pO.mono (Bk.im _)) PH sA);have sY:=hid ((zr.new H.out.bnd Hs.out).trans (zr.new H1.out.bnd pq));have Rl:=hid (show s.rev+1<200 from pA.rev);clear pO Bk pq pA sA PH h_ sw;go_wp2_with fail;refine wp_region_noPanic ?_;go_region
      all_goals refine NoPanic.normal ?_
      all_goals
       go_wp2_with fail;refine sC.out.mono ?_;rintro e w4 ⟨rfl,l4,PV,pP⟩;have Sx:=hid (sY.out.trans PV.s);have tL:=hid (yB pP (by decide) (by simp[ku,jJ]) Rl.out);clear PV pP;go_wp2_with fail;refine tL.out.mono ?_;rintro e w5 ⟨rfl,l5,A5,pC,pr⟩;have P8:=hid (Sx.out.trans pC);have tF:=hid (qW pr HS.out);clear pC pr;go_wp2_with fail;refine tF.out.mono ?_;rintro e w6 ⟨rfl,l6,m6,PC,PP,R_⟩;have sP:=hid (P8.out.trans PC);have Po:=hid (And.intro PP R_);clear PC PP R_;go_wp2;have P2:∀o,za w6 (w6.alloc o):=λo=>(za.refl w6).alloc o;refine leaves_cons (f:=261) (args:= #[ptr x]) (by simp) (hi _) ?_;refine(yG (Po.out.1.new (P2 _)) HS.out (Po.out.2.step Po.out.1.bnd (zr.new Po.out.1.bnd (P2 _))) (by decide) (jT (by decide) _)).mono ?_;rintro e u' w'' ⟨rfl,rfl,l7,I7,tM,ri,rB⟩;exact⟨_,results_tmp2 rfl _ _ _,_,rfl,l7,I7,tM,(sP.out.trans (zr.new Po.out.1.bnd (P2 _))).trans ri,rB⟩
theorem Y_(a:Nat)(W:World):(method 608 142 (ptr a) "RoleRevokePermission").run prog W=.ok (170,ptr a) W:=by kernel_rfl
variable{o:zH}{x:Nat}
theorem dB{w:World}{I:zN}{s:zA}(h:Wd l w x I a s)(hk:o.kind=12)(hr:QC s o.role o.key o.stop=(s',ec))(hn:o.role.length<=1000)(pE:o.key.length<=1000)(pW:o.stop.length<=1000)(hf:q9 s')(hs:yA s'):
  Calls prog 42 #[ptr x,o.val] w (Q_ l w x I s' ec):=by
 obtain⟨ki,us,ro,pk,ke,st,np,od,nu⟩:=o;dsimp only at hk hr hn pE pW;subst hk;unfold zH.val zH.cells;dsimp only;obtain⟨c0,c1,c2,_⟩:=vX h.row;obtain⟨rx,Pj⟩:∃z,zb ro=.string z:=⟨_,rfl⟩;obtain⟨kx,rH⟩:∃z,zb ke=.string z:=⟨_,rfl⟩;obtain⟨sx,Ht⟩:∃z,zb st=.string z:=⟨_,rfl⟩;obtain⟨cc,Hc⟩:=zex (#[.int .i64 12,zb us,zb ro,.int .i64 pk,zb ke,zb st,.bool np,.int .i64 od,.bool nu]);obtain⟨w1,Hh⟩:=zex (w.alloc (.cells cc 35));have hQ:za w w1:=by rw[Hh];exact(za.refl w).alloc _
 have pI:w1.heap.size=w.heap.size+1:=by rw[Hh];exact Array.size_push ..
 have pM:w1.heap[w.heap.size]? =some (.cells cc 35 (0,0)):=by rw[Hh];exact zg w _
 have d2:=hQ.le _ _ c2;have g0:w1.cell? ⟨w.heap.size,0,none⟩=some (.int .i64 12):=by rw[cell_of_row w1 _ 0 _ _ (0,0) pM,Hc];rfl
 have g2:w1.cell? ⟨w.heap.size,2,none⟩=some (.string rx):=by rw[cell_of_row w1 _ 2 _ _ (0,0) pM,Hc,Pj];rfl
 have g4:w1.cell? ⟨w.heap.size,4,none⟩=some (.string kx):=by rw[cell_of_row w1 _ 4 _ _ (0,0) pM,Hc,rH];rfl
 have g5:w1.cell? ⟨w.heap.size,5,none⟩=some (.string sx):=by rw[cell_of_row w1 _ 5 _ _ (0,0) pM,Hc,Ht];rfl
 obtain⟨kn,kc,wa,sn,sc,wa2,ra,ra2,na1,na,la,la2,ba,ba2⟩:=Y5 w1.drew (a:=ke) (b:=st) (by omega) (by omega);obtain⟨tn,tc,wb,un,uc,wb2,rb,rb2,nb1,nb,lb,lb2,NG,Lb⟩:=Y5 w1.drew (a:=st) (b:=ke) (by omega) (by omega);have Ml:w1.drew.heap.size=w1.heap.size:=rfl;rw[Ml]at ra rb la lb ba NG;have sO:l w.heap.size=0:=by
  by_cases e:l w.heap.size=0
  ·exact e
  ·have:=h.st.bnd _ e;omega
 have hC:∀(W2:World) (kb sb kn kc sn sc:Nat),za w1 W2->Bs W2.cell? ke (.slice (some ⟨kb,0,none⟩) kn kc)->Bs W2.cell? st (.slice (some ⟨sb,0,none⟩) sn sc)->w1.heap.size<=kb->w1.heap.size<=sb->
   Calls prog 170 #[ptr a,ptr W2.heap.size] (W2.alloc (.cells #[.string rx,.slice (some ⟨kb,0,none⟩) kn kc,.slice (some ⟨sb,0,none⟩) sn sc] 202)) λe w'=>∃v,e=.returned (.tuple #[v,ze ec])/\(∃l' I' a',I'.db=I.db/\qF l w l' w'/\Wd l' w' x I' a' s')/\w'.cell? ⟨x,2,none⟩=some (.iface 142 (ptr a))/\w'.cell? ⟨w.heap.size,2,none⟩=some (.string rx)/\w'.cell? ⟨w.heap.size,4,none⟩=some (.string kx)/\w'.cell? ⟨w.heap.size,5,none⟩=some (.string sx):=λW2 kb sb kn kc sn sc Hj PA rZ PX C_=>by
  obtain⟨W,hW⟩:=zex (W2.alloc (.cells #[.string rx,.slice (some ⟨kb,0,none⟩) kn kc,.slice (some ⟨sb,0,none⟩) sn sc] 202));rw[<-hW];have Hg:za W2 W:=by rw[hW];exact(za.refl W2).alloc _
  have sG:W.heap[W2.heap.size]? =some (.cells #[.string rx,.slice (some ⟨kb,0,none⟩) kn kc,.slice (some ⟨sb,0,none⟩) sn sc] 202 (0,0)):=by rw[hW];exact zg W2 _
  obtain⟨q0,q1,q2,_⟩:=vX sG;have PZ: ¬l.some W2.heap.size:=λe=>by have:=h.st.bnd _ e;have:=Hj.size;omega
  have Pz:za w W:=(hQ.trans Hj).trans Hg;refine(Xl (h.new Pz).st hr hn (rb:=W2.heap.size) (zi.2 ⟨PZ,by rw[Pj];exact q0⟩) (zi.2 ⟨PZ,q1⟩) ((PA.mono Hg.le).im_of λj e e2=> ?_) (zi.2 ⟨PZ,q2⟩) ((rZ.mono Hg.le).im_of λj e e2=> ?_) hf hs).mono λe w' hc=> ?_
  ·have e:kb=j:=by simpa[Value.ownBlock]using e
   have:=h.st.bnd _ e2;omega
  ·have e:sb=j:=by simpa[Value.ownBlock]using e
   have:=h.st.bnd _ e2;omega
  ·obtain⟨v,he,Hk,k2,kp⟩:=VV.w h Pz hc;have hY:=(Hj.trans Hg).le;exact⟨v,he,Hk,k2,kp _ _ sO (hY _ _ g2),kp _ _ sO (hY _ _ g4),kp _ _ sO (hY _ _ g5)⟩
 have HA:=hid (hC wa2 _ _ kn kc sn sc (za.undrew na) ba ba2 (Nat.le_refl _) (Nat.le_of_lt la));have HB:=hid (hC wb2 _ _ un uc tn tc (za.undrew nb) Lb NG (Nat.le_of_lt lb) (Nat.le_refl _));have Pr:=hid Hh;have pJ:=hid Hc;have sL:=Y_ a;rw[rH]at ra rb2;rw[Ht]at ra2 rb;obtain⟨a1,a2,a4,a5⟩:=And.intro (na1.le _ _ d2) (And.intro (na1.le _ _ g2) (And.intro (na1.le _ _ g4) (na1.le _ _ g5)));obtain⟨b1,b2,b4,b5⟩:=And.intro (nb1.le _ _ d2) (And.intro (nb1.le _ _ g2) (And.intro (nb1.le _ _ g4) (nb1.le _ _ g5)));obtain⟨aa1,aa2,aa4,aa5⟩:=And.intro (na.le _ _ d2) (And.intro (na.le _ _ g2) (And.intro (na.le _ _ g4) (na.le _ _ g5)));obtain⟨bb1,bb2,bb4,bb5⟩:=And.intro (nb.le _ _ d2) (And.intro (nb.le _ _ g2) (And.intro (nb.le _ _ g4) (nb.le _ _ g5)));clear h Hc Pj rH Ht hQ sO hC hr hf hs pM na nb na1 nb1 ba ba2 NG Lb la la2 lb lb2 Ml pI;obtain⟨ob,p_⟩:=zex (w.heap.size)
 rw[<-p_]at g0 g2 g4 g5 a2 a4 a5 b2 b4 b5 aa2 aa4 aa5 bb2 bb4 bb5;have mg:=hid p_;go_enter func42,ntmps42;go_upto_region 2 with fail
 rw[<-pJ.out,<-Pr.out,<-p_];clear c0 c1 c2 p_ Hh;obtain⟨va,pR⟩:=zex (Value.agg cc);rw[<-pR];clear pR;go_wp2_with fail;go_region_held (λw'=>w'.cell? ⟨x,2,none⟩=some (.iface 142 (ptr a))/\w'.cell? ⟨ob,2,none⟩=some (.string rx)/\w'.cell? ⟨ob,4,none⟩=some (.string kx)/\w'.cell? ⟨ob,5,none⟩=some (.string sx)) (first|go_keep|(refine⟨?_,?_,?_,?_⟩<;>assumption)) (first|(go_at_call 170;(first|(with_reducible refine HA.out.mono ?_)|(with_reducible refine HB.out.mono ?_));rintro e w9 ⟨v,rfl,Hk,k2,k2x,k4x,k5x⟩;rw[<-mg.out]at k2x k4x k5x;have Hn:=hid Hk;clear Hk))
 all_goals
  go_wp2;go_returns;exact⟨rfl,Hn.out⟩
theorem VJ(a:Nat)(W:World):(method 608 142 (ptr a) "HasRole").run prog W=.ok (158,ptr a) W:=by kernel_rfl
theorem zaI{w:World}{I:zN}{s:zA}(h:Wd l w x I a s)(hk:o.kind=19)(hn:o.user.length<=1000):
  Calls prog 33 #[ptr x,o.val] w (fR l w x I (s,⟨0,s.rev,s.on,Dl s o.user o.role,[],[]⟩)):=by
 obtain⟨ki,us,ro,pk,ke,st,np,od,nu⟩:=o;dsimp only at hk hn;subst hk;unfold zH.val zH.cells;dsimp only;obtain⟨yes,mQ⟩:=zex (Dl s us ro);rw[<-mQ];obtain⟨sx,Ht⟩:∃z,zb us=.string z:=⟨_,rfl⟩;obtain⟨rx,Pj⟩:∃z,zb ro=.string z:=⟨_,rfl⟩;obtain⟨cc,Hc⟩:=zex (#[.int .i64 19,zb us,zb ro,.int .i64 pk,zb ke,zb st,.bool np,.int .i64 od,.bool nu]);obtain⟨l1,H⟩:=yV.start h cc;obtain⟨W0,py⟩:=zex (((w.alloc (.cells cc 35)).alloc (.cells qQ 42)).alloc (.cells qQ 42));rw[<-py]at H;have c2:=H.cell;have g0:W0.cell? ⟨w.heap.size,0,none⟩=some (.int .i64 19):=(H.ocell 0).trans (by rw[Hc];rfl);have g1:W0.cell? ⟨w.heap.size,1,none⟩=some (.string sx):=(H.ocell 1).trans (by rw[Hc,<-Ht];rfl);have g2:W0.cell? ⟨w.heap.size,2,none⟩=some (.string rx):=(H.ocell 2).trans (by rw[Hc,<-Pj];rfl)
 have HC:=hid (show Calls prog 158 #[ptr a,.string sx,.string rx] W0.drew λe w'=>e=.returned (.bool yes)/\(∃l2 I2,yV l w x I cc l2 w' I2 a s Kj ja ja)/\w'.cell? ⟨x,2,none⟩=some (.iface 142 (ptr a))/\w'.cell? ⟨w.heap.size,1,none⟩=some (.string sx)/\w'.cell? ⟨w.heap.size,2,none⟩=some (.string rx)/\w'.cell? ⟨w.heap.size+1+1,3,none⟩=some (.bool false)/\w'.frozen? ⟨w.heap.size+1+1,3,none⟩=false/\((w'.setCell ⟨w.heap.size+1+1,3,none⟩ (.bool yes)).cell? ⟨x,2,none⟩=some (.iface 142 (ptr a))/\(w'.setCell ⟨w.heap.size+1+1,3,none⟩ (.bool yes)).cell? ⟨w.heap.size,1,none⟩=some (.string sx)/\(w'.setCell ⟨w.heap.size+1+1,3,none⟩ (.bool yes)).cell? ⟨w.heap.size,2,none⟩=some (.string rx))from by
  have hd:za W0 W0.drew:=(za.refl W0).drew;have hc:=Uw (rn:=ro) (H.new hd).wd.st hn;rw[Ht,Pj,<-mQ]at hc;refine hc.mono ?_;rintro e w' ⟨rfl,l2,I2,hI,hs,ht⟩;have h2:=H.call hd hs hI ht;exact⟨rfl,⟨l2,I2,h2⟩,h2.cell,(h2.ocell 1).trans (by rw[Hc,<-Ht];rfl),(h2.ocell 2).trans (by rw[Hc,<-Pj];rfl),h2.acell 3,h2.afree 3,(h2.setYes yes).cell,((h2.setYes yes).ocell 1).trans (by rw[Hc,<-Ht];rfl),((h2.setYes yes).ocell 2).trans (by rw[Hc,<-Pj];rfl)⟩)
 have HH:=hid H;have rR:=hid py;have pJ:=hid Hc;have m1:=qa;have m2:=qt;have m3:=VJ a;clear h Hc py H hn mQ Ht Pj;go_enter func33,ntmps33;go_upto_region 3 with fail
 rw[<-pJ.out,<-(show qQ= #[.int .i64 0,.int .u64 0,.bool false,.bool false,.slice none 0 0,.slice none 0 0]from rfl),<-rR.out];obtain⟨va,pR⟩:=zex (Value.agg cc);obtain⟨vz,RD⟩:=zex (Value.agg qQ);rw[<-pR,<-RD];clear pR RD;go_wp2_with fail;go_region_held3 (λw'=>w'.cell? ⟨x,2,none⟩=some (.iface 142 (ptr a))/\w'.cell? ⟨w.heap.size,1,none⟩=some (.string sx)/\w'.cell? ⟨w.heap.size,2,none⟩=some (.string rx)) (first|assumption|go_keep) (first|(go_at_call 158;refine HC.out.mono ?_;rintro e w9 ⟨rfl,Hk,k2,k1x,k2x,ka,kz,kS⟩;have Hn:=hid Hk;clear Hk))
 all_goals
  obtain⟨l2,I2,h2⟩:=Hn.out;obtain⟨W2,nS⟩:=zex (w9.setCell ⟨w.heap.size+1+1,3,none⟩ (.bool yes));have NJ:=h2.setYes yes;rw[<-nS]at NJ;have H2:=hid NJ;have lj:=hid nS;clear h2 NJ c2 g0 g1 g2 k2 k1x k2x ka kz kS Hn
  first|rw[<-nS]|(go_upto_region 37 with fail;rw[<-nS])
  clear nS;obtain⟨ec,rP⟩:∃e:Nat,e=0:=⟨_,rfl⟩;have Tz:=hid rP;have tO:=hid (show ec<=15 by omega);have TA:=hid (show ze ec=.nilIface from by rw[rP];rfl);clear rP;obtain⟨W3,PD⟩:=zex (W2.setCell ⟨w.heap.size+1+1,0,none⟩ (.int .i64 (ec:Nat)));have h3:=H2.out.setErr (ec);rw[<-PD]at h3;obtain⟨W4,PJ⟩:=zex (W3.setCell ⟨w.heap.size+1+1,1,none⟩ (.int .u64 (s.rev:Nat)));have h4:=h3.setRev s.rev;rw[<-PJ]at h4;obtain⟨W5,P4⟩:=zex (W4.setCell ⟨w.heap.size+1+1,2,none⟩ (.bool s.on));have h5:=h4.setOn s.on;rw[<-P4]at h5;have a0:=H2.out.acell 0;have z0:=H2.out.afree 0;have b0:W3.cell? ⟨w.heap.size,0,none⟩=some (.int .i64 19):=(h3.ocell 0).trans (by rw[pJ.out];rfl);have HK:=hid (show Calls prog 43 #[.nilIface] W2 _ from by rw[<-TA.out];exact vm (w:=W2) tO.out);have HR:=hid h3.rev;have HO:=hid h4.on;have H3:=hid h3;have H4:=hid h4;have H5:=hid h5;have Rn:=hid PD;have sQ:=hid PJ;have s7:=hid P4
  clear h3 h4 h5 PD PJ P4;have a0:W2.cell? ⟨w.heap.size+1+1,0,none⟩=some (.int .i64 0):=a0;go_wp2_with fail;refine HK.out.mono ?_;rintro e w9 ⟨rfl,rfl⟩;go_upto_region 38 with fail
  rw[<-Rn.out];clear a0 z0;have q2:=H3.out.cell;have a1:W3.cell? ⟨w.heap.size+1+1,1,none⟩=some (.int .u64 0):=H3.out.acell 1;have z1:=H3.out.afree 1;go_wp2_with fail;refine HR.out.mono ?_;rintro e w9 ⟨rfl,rfl⟩;go_upto_region 41 with fail
  rw[<-sQ.out];clear q2 a1 z1;have q2:=H4.out.cell;have a2:W4.cell? ⟨w.heap.size+1+1,2,none⟩=some (.bool false):=H4.out.acell 2;have z2:=H4.out.afree 2;go_wp2_with fail;refine HO.out.mono ?_;rintro e w9 ⟨rfl,rfl⟩;go_upto_region 42 with fail
  rw[<-s7.out];clear q2 a2 z2;have k0:=H5.out.acell 0;have r0:=H5.out.rcell 0;have f0:=H5.out.rfree 0;have k1:=H5.out.acell 1;have r1:=H5.out.rcell 1;have f1:=H5.out.rfree 1;have k2:=H5.out.acell 2;have r2:=H5.out.rcell 2;have f2:=H5.out.rfree 2;have k3:=H5.out.acell 3;have r3:=H5.out.rcell 3;have f3:=H5.out.rfree 3;have k4:=H5.out.acell 4;have r4:=H5.out.rcell 4;have f4:=H5.out.rfree 4;have k5:=H5.out.acell 5;have r5:=H5.out.rcell 5;have f5:=H5.out.rfree 5;simp only[xF,qQ,Kj,ja,List.getElem?_toArray,List.getElem?_cons_zero,List.getElem?_cons_succ]at k0 k1 k2 k3 k4 k5 r0 r1 r2 r3 r4 r5;go_wp2;exact H5.out.leave (by rw[Tz.out];rfl) rfl rfl
end Go.Proofs.YtbmdoinjkligiaaGreat
