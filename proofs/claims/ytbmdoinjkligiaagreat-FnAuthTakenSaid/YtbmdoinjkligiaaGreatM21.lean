/- Contracts and laws that the last text joins. -/
import Derived.Test.YtbmdoinjkligiaaGreatM18
set_option maxRecDepth 100000
set_option maxHeartbeats 40000000
set_option linter.all false
namespace Go.Proofs.YtbmdoinjkligiaaGreat
open Tryz
open Lib(hid)
open Go.RowKit
theorem ZO(x:Nat)(W:World):(method 608 149 (ptr x) "ForceCommit").run prog W=.ok (209,ptr x) W:=by kernel_rfl
variable{A:yr}{a ab pdel pend x:Nat}{l:zu}{lg:Value}
theorem Vp{w:World}{I:zN}{s:zA}{ks:zF->List Bytes}{m:Nat}{ron:Bool}{b:Bool}(h:Z5 l w a I s A pend pdel ks x ab m lg ron)(hp:pend<=900)(hu:(ks .auth).length<=400):
  Calls prog 272 #[ptr x,.bool b] w λe w'=>e=.returned (.tuple #[])/\∃l',zB l w l' w'/\Z5 l' w' a I {s with on:=b} (yh A Qq (DY b)) (pend+1) pdel (ku ks .auth Qq) x ab m lg ron:=by
 refine(Ka h.tx (h.fine.dbOk h.kv) hp (by omega) h.atx).mono ?_;rintro e w' ⟨rfl,l',hs,ht⟩;have hf:=h.fine;exact⟨rfl,l',hs,h.step (s':={s with on:=b}) hs ht (h.kv.putEn b) rfl ⟨hf.us,hf.rs,hf.uok,hf.rok,hf.ul,hf.rl,hf.rev⟩⟩
theorem Dm:∀c,zM (vl (ku jJ .auth Qq) c):=λc=>by
 unfold vl ku jJ;by_cases h1:c=.auth
 ·rw[if_pos h1,if_pos h1];exact List.pairwise_pair.2 (by decide)
 ·rw[if_neg h1,if_neg h1];exact List.Pairwise.nil
theorem UF:∀c,zM (ku jJ .auth Qq c):=λc=>by
 unfold ku jJ;by_cases h1:c=.auth
 ·rw[if_pos h1];exact xB _
 ·rw[if_neg h1];exact List.Pairwise.nil
def Zq(s:zA):zA:=if s.on then {s with on:=false,rev:=s.rev+1}else s
variable{s':zA}
theorem Vq{w:World}{I:zN}{s:zA}(h:Zk l w a I s)(hr:Zq s=s')(hf:q9 s')(hs:yA s'):
  Calls prog 156 #[ptr a] w λe w'=>e=.returned (.tuple #[])/\JP l w a I s' w':=by
 obtain⟨A,ab,m,lg,h⟩:=h;obtain⟨A0,hA0⟩:=Qu h.row;have r2:w.cell? ⟨a,2,none⟩=some (.iface 149 (ptr ab)):=by rw[cell_of_row w a 2 _ _ (0,0) h.row];rfl
 have r3:w.cell? ⟨a,3,none⟩=some (.bool s.on):=by rw[cell_of_row w a 3 _ _ (0,0) h.row];rfl
 have HB:=hid (qO h.idle h.abe);have H:=hid h;have HF:=hid hf;have HS:=hid hs;have sM:=hid (zr.refl h.bnd);have m1:=qK;have m2:=qw;have m3:=vk;have m4:=jm;have m5:=ZO;clear h hf hs;by_cases c0:s.on=true
 ·obtain rfl:{s with on:=false,rev:=s.rev+1}=s':=by unfold Zq at hr;rw[if_pos c0]at hr;exact hr
  rw[c0]at r3;clear hr;go_enter_defers func156,ntmps156;go_wp2_with (go_at_call 69;go_must (refine(vY _ _).mono ?_);rintro e w9 ⟨rfl,rfl⟩);refine HB.out.mono ?_;rintro e w1 ⟨x,rfl,hQ,hx,pH⟩;have h1:=H.out.new hQ;have HL:=hid (jg h1.idle pH);have Hs:=hid hQ;have Bi:=hid (Vp (b:=false) (h1.mid pH) (by decide) (by decide));clear h1 hQ pH;go_wp2_with fail;refine HL.out.mono ?_;rintro e w2 ⟨rfl,rfl⟩;go_wp2_with fail;refine Bi.out.mono ?_;rintro e w4 ⟨rfl,l4,PV,pP⟩;have Sx:=hid ((zr.new H.out.bnd Hs.out).trans PV.s);have tL:=hid (yB pP (by decide) (by decide) (show s.rev+1<200 from HF.out.rev));clear PV pP;go_wp2_with fail;refine tL.out.mono ?_;rintro e w5 ⟨rfl,l5,A5,pC,pr⟩;have P8:=hid (Sx.out.trans pC);have t8:=hid pr;have HU:=hid (vC pr.tx (by decide) Dm pr.atx);clear pC pr;go_wp2_with fail;refine HU.out.mono ?_;rintro e w6 ⟨rfl,l6,I6,PC,hI6,hi6⟩
  have Bl:=hid (kL hi6 (zN.to hI6 (t8.out.abe.step PC)));have sP:=hid PC;clear hi6 PC;go_wp2_with fail;refine Bl.out.mono ?_;rintro e w7 ⟨rfl,l7,I7,ri,tM,w_⟩;have Hi:zB l5 w5 l7 w7:=sP.out.trans ri;have Pq:kR w7 a (s.rev+1) lg (.iface 149 (ptr ab)) true m:=by have:=t8.out.row.keep (Hi.mod.block a t8.out.row.lt λe=>by have:=e.2;have:=t8.out.lab;omega);rw[c0]at this;exact this
  have eM:l7 a=12:=by rw[Hi.old a t8.out.row.lt,t8.out.lab]
  have q3:w7.cell? ⟨a,3,none⟩=some (.bool true):=by rw[cell_of_row w7 a 3 _ _ (0,0) Pq];rfl
  have z3:w7.frozen? ⟨a,3,none⟩=false:=by have hr:w7.heap[a]? =some (.cells #[.int .u64 ((s.rev+1:Nat):Int),lg,.iface 149 (ptr ab),.bool true,.map (some m)] 146 (0,0)):=Pq;simp[World.frozen?,hr]
  have OB:=hid Pq;have Tu:=hid Hi;have HI7:=hid (And.intro w_ (zN.same_trans hI6 tM));have HLA:=hid eM;clear Pq Hi w_ ri eM;go_wp2;refine leaves_cons (f:=70) (args:= #[.pointer (some A0)]) (by simp) (by simp[go_sem]) ?_;refine(kQ _ _).mono ?_;rintro e u' w'' ⟨rfl,rfl,rfl⟩;obtain⟨w_,hI⟩:=HI7.out;obtain⟨rB,lR⟩:=Qz w_.bnd HLA.out 3 (.bool false);have hS:zr l w l7 w7:=P8.out.trans Tu.out.s;exact⟨_,results_none rfl _ _ _,rfl,l7,I7,hI,hS.trans rB,A5,ab,m,lg,⟨kZ.client w_ lR,t8.out.kv,OB.out.setOn,zN.to hI ((t8.out.abe.step Tu.out).client lR),(H.out.cache.step H.out.bnd hS).step w_.bnd rB,HLA.out,HF.out,HS.out⟩⟩
 ·have c0':s.on=false:=by simpa using c0
  obtain rfl:s=s':=by unfold Zq at hr;rw[if_neg c0]at hr;exact hr
  rw[c0']at r3;clear hr;go_enter_defers func156,ntmps156;go_wp2_with (go_at_call 69;go_must (refine(vY _ _).mono ?_);rintro e w9 ⟨rfl,rfl⟩);refine leaves_cons (f:=70) (args:= #[.pointer (some A0)]) (by simp) (by simp[go_sem]) ?_;refine(kQ _ _).mono ?_;rintro e u' w'' ⟨rfl,rfl,rfl⟩;exact⟨_,results_none rfl _ _ _,rfl,l,I,zN.same_refl I,sM.out,_,_,_,_,H.out⟩
theorem uO{w:World}{I:zN}{s:zA}{ks:zF->List Bytes}{m:Nat}{ron:Bool}(h:Z5 l w a I s A pend pdel ks x ab m lg ron):
  Calls prog 271 #[ptr x] w λe w'=>e=.returned (.int .u64 s.rev)/\zB l w l w'/\Z5 l w' a I s A pend pdel ks x ab m lg ron:=by
 obtain⟨C,wb,rb,e2,e4,hB,h1,h2,h3,h4⟩:=h.tx;have R:=YS (l:=l) (w:=w) (I:=I) (C:=C) (rb:=rb) (pend:=pend) (pdel:=pdel) (e2:=e2) (e4:=e4) h1 (h.fine.dbOk h.kv);refine(vP (R:=λr w'=>r=.int .u64 s.rev/\zB l w l w'/\Z5 l w' a I s A pend pdel ks x ab m lg ron) h.atx.2 ((x8 (n:=s.rev) R.toDe ⟨zB.refl hB.bnd,hB⟩ (by have:=h.fine.rev;omega) h.kv.rv).mono ?_)).mono ?_
 ·rintro e w' ⟨rfl,⟨hs,tJ⟩,hm⟩;exact⟨_,rfl,rfl,hs,h.step hs ⟨C,wb,rb,e2,e4,tJ,h1,h2,h3,h4⟩ h.kv rfl h.fine⟩
 ·rintro e w' ⟨r,rfl,rfl,hs,hm⟩;exact⟨rfl,hs,hm⟩
variable{bv:Value}
theorem XN{w:World}{rev m r:Nat}{on:Bool}(ha:kR w a rev lg bv on m):Calls prog 179 #[ptr a,.int .u64 r] w λe w'=>e=.returned (.tuple #[])/\w'=w.setCell ⟨a,0,none⟩ (.int .u64 r):=by
 have r0:w.cell? ⟨a,0,none⟩=some (.int .u64 rev):=by rw[cell_of_row w a 0 _ _ (0,0) ha];rfl
 have z0:w.frozen? ⟨a,0,none⟩=false:=by have hr:w.heap[a]? =some (.cells #[.int .u64 rev,lg,bv,.bool on,.map (some m)] 146 (0,0)):=ha;simp[World.frozen?,hr]
 clear ha;go_enter func179,ntmps179;go_wp2;go_returns;exact⟨rfl,rfl⟩
variable{bb:Nat}
theorem ZP{w:World}{I:zN}{s:zA}{ks:zF->List Bytes}{m tb:Nat}{ron:Bool}{u:FrameMode}(h:Z5 l w a I s A pend pdel ks x ab m lg ron)(hp:pend<1000)(hr:∀b,zM (ks b))(ht:im l.some w ⟨tb,0,none⟩=some (.iface 417 (ptr x)))(hb:im l.some w ⟨bb,0,none⟩=some (ptr a)):
  CallsD prog 177 #[ptr tb,ptr bb] u w λe u' w'=>u'=u/\(e=.returned (.tuple #[])/\WD l w I (s.db A) w'):=by
 have t0:=zd _ _ _ _ ht;have HU:=hid (vC h.tx hp hr h.atx);have H:=hid h;have SD:=hid hb;have m3:=vk;have m5:=ZO;clear h ht hb;go_enter_d func177,ntmps177;go_wp2_with fail;refine HU.out.mono ?_;rintro e w1 ⟨rfl,l1,I1,pI,hI1,et⟩;have b0:=zd _ _ _ _ (pI.le _ _ SD.out);have hZ:=H.out.row.keep (pI.mod.block a H.out.row.lt λe=>by have:=e.2;have:=H.out.lab;omega);have r2:w1.cell? ⟨a,2,none⟩=some (.iface 149 (ptr ab)):=by rw[cell_of_row w1 a 2 _ _ (0,0) hZ];rfl
 have Bl:=hid (kL et (zN.to hI1 (H.out.abe.step pI)));have RV:=hid pI;clear pI et hZ;go_wp2_with fail;refine Bl.out.mono ?_;rintro e w2 ⟨rfl,l2,I2,rj,RY,Pn⟩;have HD:=hid (show WD l w I (s.db A) w2 from⟨l2,I2,RV.out.trans rj,zN.same_trans hI1 RY,Pn⟩);clear rj Pn;go_wp2;go_returns;exact⟨rfl,HD.out⟩
def QV(s:zA):zA×Nat:=if s.on then (s,0)else match s.user zL with|none=>(s,1)|some u=>if u.root then ({s with on:=true},0)else (s,2)
theorem UG(tb bb:Nat)(W:World):(invoke (.fn (.func 177) #[ptr tb,ptr bb]) #[]).run prog W=.ok (.enter 177 #[ptr tb,ptr bb]) W:=by kernel_rfl
variable{ec:Nat}
theorem Xb{w:World}{I:zN}{s:zA}(h:Zk l w a I s)(hr:QV s=(s',ec))(hf:q9 s')(hs:yA s'):
  Calls prog 157 #[ptr a] w λe w'=>e=.returned (ze ec)/\JP l w a I s' w':=by
 obtain⟨A,ab,m,lg,h⟩:=h;obtain⟨w0,eN⟩:=zex (w.alloc (.cells #[ptr a] 142));have PK:za w w0:=by rw[eN];exact(za.refl w).alloc _
 have pM:w0.cell? ⟨w.heap.size,0,none⟩=some (ptr a):=by
  have:w0.heap[w.heap.size]? =some (.cells #[ptr a] 142 (0,0)):=by rw[eN];exact zg w _
  rw[cell_of_row w0 _ 0 _ _ (0,0) this];rfl
 have S7:l w.heap.size=0:=zbm h.bnd (Nat.le_refl _);have er:im l.some w0 ⟨w.heap.size,0,none⟩=some (ptr a):=zi.2 ⟨λe=>e S7,pM⟩;have h0:=h.new PK;obtain⟨A0,hA0⟩:=Qu h0.row;have r2:w0.cell? ⟨a,2,none⟩=some (.iface 149 (ptr ab)):=by rw[cell_of_row w0 a 2 _ _ (0,0) h0.row];rfl
 have r3:w0.cell? ⟨a,3,none⟩=some (.bool s.on):=by rw[cell_of_row w0 a 3 _ _ (0,0) h0.row];rfl
 have HB:=hid (qO h0.idle h0.abe);have H:=hid h0;have il:=hid er;have S_:=hid PK;have HF:=hid hf;have HS:=hid hs;have sM:=hid (zr.new h.bnd PK);have rR:=hid eN;have m1:=qK;have m2:=qw;have m5:=qY;have m6:=jm;have m7:=jj;obtain⟨b0,Bm⟩:∃b0,w.heap.size=b0:=⟨_,rfl⟩;rw[Bm]at il pM;have HB0:=hid Bm;clear h hf hs h0 PK er S7 eN Bm;by_cases c0:s.on=true
 ·obtain⟨rfl,rfl⟩:s=s'/\0=ec:=by unfold QV at hr;rw[if_pos c0]at hr;cases hr;exact⟨rfl,rfl⟩
  rw[c0]at r3;clear hr;go_enter_defers func157,ntmps157;go_upto_region 1 with fail
  rw[<-rR.out,HB0.out];go_wp2_with (go_at_call 69;go_must (refine(vY _ _).mono ?_);rintro e w9 ⟨rfl,rfl⟩);refine leaves_cons (f:=70) (args:= #[.pointer (some A0)]) (by simp) (by simp[go_sem]) ?_;refine(kQ _ _).mono ?_;rintro e u' w'' ⟨rfl,rfl,rfl⟩;exact⟨_,results_tmp rfl _ _ _,rfl,l,I,zN.same_refl I,sM.out,_,_,_,_,H.out⟩
 ·have c0':s.on=false:=by simpa using c0
  rw[c0']at r3;obtain⟨o,ho⟩:∃o,s.user zL=o:=⟨_,rfl⟩;unfold QV at hr;rw[if_neg c0,ho]at hr;have RU:=hid (show qT zj.name s.users zL=o from ho);have rX:=hid hr;clear ho hr;go_enter_defers func157,ntmps157;go_upto_region 1 with fail
  rw[<-rR.out,HB0.out];go_wp2_with (go_at_call 69;go_must (refine(vY _ _).mono ?_);rintro e w9 ⟨rfl,rfl⟩);refine HB.out.mono ?_;rintro e w1 ⟨x,rfl,hQ,hx,pH⟩;obtain⟨W,hW⟩:=zex (w1.alloc (.cells #[.iface 417 (ptr x)] 140));have Pz:za w1 W:=by rw[hW];exact(za.refl w1).alloc _
  have mH:W.cell? ⟨w1.heap.size,0,none⟩=some (.iface 417 (ptr x)):=by
   have:W.heap[w1.heap.size]? =some (.cells #[.iface 417 (ptr x)] 140 (0,0)):=by rw[hW];exact zg w1 _
   rw[cell_of_row W _ 0 _ _ (0,0) this];rfl
  have h1w:=H.out.new hQ;have eO:l w1.heap.size=0:=zbm h1w.bnd (Nat.le_refl _);have La:za w0 W:=hQ.trans Pz;have h1:=H.out.new La;have pH:=pH.new Pz;have cM:=hid (show im l.some W ⟨w1.heap.size,0,none⟩=some (.iface 417 (ptr x))from zi.2 ⟨λe=>e eO,mH⟩);have SD:=hid (La.im l.some _ _ il.out);have bb0:=La.le _ _ pM;have HL:=hid (jg h1.idle pH);have Pm:=hid ((vQ (x:=x) (I:=I) (pend:=0) (pdel:=0) (us:=jJ) h1.fine h1.kv).user l W zL ⟨h1.idle,pH⟩ (by decide));have H1:=hid h1;have RV:=hid (sM.out.trans (zr.new H.out.bnd La));have HW:=hid hW;obtain⟨tb,Bn⟩:∃tb,w1.heap.size=tb:=⟨_,rfl⟩;rw[Bn]at cM mH;have HTE:=hid Bn;clear Pz h1w eO La h1 pH hW hQ Bn;rw[XL]at Pm;unfold WI at Pm;go_upto_region 6 with fail
  rw[<-HW.out,HTE.out];go_wp2_with fail;refine HL.out.mono ?_;rintro e w2 ⟨rfl,rfl⟩;go_wp2_with fail;refine Pm.out.mono ?_;rintro e w2 ⟨r,rfl,⟨Pn,po⟩,Hq,H9⟩;rw[RU.out]at H9;have pm:=zB.own H1.out.bnd Hq;have h2:=H1.out.moved pm (zN.same_refl I) Pn;have Ph:=hid (RV.out.trans pm.s);have Hy:=hid (h2.mid po);have tf:=hid h2;have HG:=hid H9;have cd:=hid (pm.le _ _ cM.out);have ce:=hid (pm.le _ _ SD.out);have tb2:=zd _ _ _ _ cd.out;have bb2:=zd _ _ _ _ ce.out;have hi:=UG tb b0;clear Pn Hq H9 pm h2 po;cases o with
  |none=>
   have hg:=HG.out;cases hg;obtain⟨rfl,rfl⟩:s=s'/\1=ec:=by have:=rX.out;cases this;exact⟨rfl,rfl⟩
   go_wp2;refine leaves_cons (f:=177) (args:= #[ptr tb,ptr b0]) (by simp) (hi _) ?_;refine(ZP Hy.out (by decide) qH cd.out ce.out).mono ?_;rintro e u' w'' ⟨rfl,rfl,l3,I3,Pa,Pc,rY⟩;refine leaves_cons (f:=70) (args:= #[.pointer (some A0)]) (by simp[settle]) (by simp[go_sem]) ?_;refine(kQ _ _).mono ?_;rintro e u' w5 ⟨rfl,rfl,rfl⟩;exact⟨_,results_tmp rfl _ _ _,rfl,l3,I3,Pc,Ph.out.trans Pa.s,_,_,_,_,tf.out.moved Pa Pc rY⟩
  |some u=>
   obtain⟨b,rfl,lP,Ru⟩:=HG.out.at H1.out.bnd;have Hf:=qg tf.out.fine.us RU.out;have HR:=hid (Ve (zd _ _) Ru (tf.out.sane.ur u Hf) (tf.out.fine.uok u Hf).roles);clear Ru Hf;by_cases c4:u.root=true
   ·rw[c4]at HR;obtain⟨rfl,rfl⟩:{s with on:=true}=s'/\0=ec:=by
     have h9:(if u.root=true then (({s with on:=true}:zA),0)else (s,2))=(s',ec):=rX.out;rw[if_pos c4]at h9;cases h9;exact⟨rfl,rfl⟩
    go_wp2_with fail;refine HR.out.mono ?_;rintro e w3 ⟨rfl,pu⟩;have r6:=Hy.out.new pu;have Cs:=hid (Ph.out.trans (zr.new tf.out.bnd pu));have Bi:=hid (Vp (b:=true) r6 (by decide) (by decide));have eP:=hid (pu.im _ _ _ cd.out);have eQ:=hid (pu.im _ _ _ ce.out);have tb3:=zd _ _ _ _ eP.out;have bb3:=zd _ _ _ _ eQ.out;clear pu r6;go_wp2_with fail;refine Bi.out.mono ?_;rintro e w4 ⟨rfl,l4,PV,pP⟩;have eR:=hid (PV.le _ _ eP.out);have eS:=hid (PV.le _ _ eQ.out);have tb4:=zd _ _ _ _ eR.out;have bb4:=zd _ _ _ _ eS.out;have nO:=pP.row;rw[c0']at nO;have q3:w4.cell? ⟨a,3,none⟩=some (.bool false):=by rw[cell_of_row w4 a 3 _ _ (0,0) nO];rfl
    have z3:w4.frozen? ⟨a,3,none⟩=false:=by have hr:w4.heap[a]? =some (.cells #[.int .u64 s.rev,lg,.iface 149 (ptr ab),.bool false,.map (some m)] 146 (0,0)):=nO;simp[World.frozen?,hr]
    obtain⟨w5,Bo⟩:=zex (w4.setCell ⟨a,3,none⟩ (.bool true));obtain⟨pC,LQ⟩:=Qz pP.bnd pP.lab 3 (.bool true);rw[<-Bo]at pC LQ;have pe:=nO.setOn (on2:=true);rw[<-Bo]at pe;have pr:Z5 l4 w5 a I {s with on:=true} (yh A Qq (DY true)) 1 0 (ku jJ .auth Qq) x ab m lg true:=⟨pP.tx.client LQ,pP.kv,pP.atx.client LQ,pe,pP.abe.client LQ,pP.lab,pP.fine⟩;have eT:=hid (pC.le _ _ eR.out);have eU:=hid (pC.le _ _ eS.out);have tb5:=zd _ _ _ _ eT.out;have bb5:=zd _ _ _ _ eU.out;have P8:=hid ((Cs.out.trans PV.s).trans pC);have Bp:=hid (qW pr HS.out);have s7:=hid Bo;clear PV pP nO Bo pC LQ pe pr;go_upto_region 15 with fail
    rw[<-s7.out];go_wp2_with fail;refine Bp.out.mono ?_;rintro e w6 ⟨rfl,l6,m6,PC,PP,R_⟩;have eV:=hid (PC.le _ _ eT.out);have Bq:=hid (PC.le _ _ eU.out);have tb6:=zd _ _ _ _ eV.out;have bb6:=zd _ _ _ _ Bq.out;have sP:=hid (P8.out.trans PC);have hd:za w6 w6.drew:=(za.refl w6).drew;have HRD:=hid (uO (PP.new hd));have HC6:=hid (R_.step PP.bnd (zr.new PP.bnd hd));have Ly:=hid (zr.new PP.bnd hd);clear PC PP R_ hd;go_wp2_with fail;refine wp_region_noPanic ?_;go_region_with (first|(go_at_call 271;refine HRD.out.mono ?_;rintro e w7 ⟨rfl,ri,rk⟩;have bb7:=zd _ _ _ _ (ri.le _ _ (Ly.out.le _ _ Bq.out));have CU:=hid (And.intro ri rk);have TS:=hid (XN (r:=s.rev) rk.row);clear ri rk)|(refine TS.out.mono ?_;rintro e w8 ⟨rfl,lL⟩;have af:=hid lL;clear lL))
    all_goals refine NoPanic.normal ?_
    all_goals
     obtain⟨ri,rk⟩:=CU.out;obtain⟨rB,lR⟩:=Qz rk.bnd rk.lab 0 (.int .u64 s.rev);rw[<-af.out]at rB lR;have tR:=rk.row.setRev (r2:=s.rev);rw[<-af.out]at tR;have HM8:=hid (show Z5 l6 w8 a I {s with on:=true} (yh A Qq (DY true)) 1 0 (ku jJ .auth Qq) x ab m6 lg true from⟨rk.tx.client lR,rk.kv,rk.atx.client lR,tR,rk.abe.client lR,rk.lab,rk.fine⟩);have A3:=hid ((HC6.out.step (Ly.out.bnd) ri.s).step rk.bnd rB);have Br:=hid (((sP.out.trans Ly.out).trans ri.s).trans rB);have OC:=hid (rB.le _ _ (ri.le _ _ (Ly.out.le _ _ eV.out)));have OD:=hid (rB.le _ _ (ri.le _ _ (Ly.out.le _ _ Bq.out)));clear ri rk rB lR tR;go_wp2;refine leaves_cons (f:=177) (args:= #[ptr tb,ptr b0]) (by simp) (hi _) ?_;refine(ZP HM8.out (by decide) UF OC.out OD.out).mono ?_;rintro e u' w'' ⟨rfl,rfl,l3,I3,Pa,Pc,rY⟩;refine leaves_cons (f:=70) (args:= #[.pointer (some A0)]) (by simp[settle]) (by simp[go_sem]) ?_
     refine(kQ _ _).mono ?_;rintro e u' w5 ⟨rfl,rfl,rfl⟩;exact⟨_,results_tmp rfl _ _ _,rfl,l3,I3,Pc,Br.out.trans Pa.s,_,_,_,_,QA HM8.out HS.out A3.out Pa Pc rY⟩
   ·obtain⟨rfl,rfl⟩:s=s'/\2=ec:=by
     have h9:(if u.root=true then (({s with on:=true}:zA),0)else (s,2))=(s',ec):=rX.out;rw[if_neg c4]at h9;cases h9;exact⟨rfl,rfl⟩
    have c4':u.root=false:=by simpa using c4
    rw[c4']at HR;go_wp2_with fail;refine HR.out.mono ?_;rintro e w3 ⟨rfl,pu⟩;go_wp2;refine leaves_cons (f:=177) (args:= #[ptr tb,ptr b0]) (by simp) (hi _) ?_;refine(ZP (Hy.out.new pu) (by decide) qH (pu.im _ _ _ cd.out) (pu.im _ _ _ ce.out)).mono ?_;rintro e u' w'' ⟨rfl,rfl,l3,I3,Pa,Pc,rY⟩;refine leaves_cons (f:=70) (args:= #[.pointer (some A0)]) (by simp[settle]) (by simp[go_sem]) ?_;refine(kQ _ _).mono ?_;rintro e u' w5 ⟨rfl,rfl,rfl⟩;exact⟨_,results_tmp rfl _ _ _,rfl,l3,I3,Pc,(Ph.out.trans (zr.new tf.out.bnd pu)).trans Pa.s,_,_,_,_,(tf.out.new pu).moved Pa Pc rY⟩
end Go.Proofs.YtbmdoinjkligiaaGreat
