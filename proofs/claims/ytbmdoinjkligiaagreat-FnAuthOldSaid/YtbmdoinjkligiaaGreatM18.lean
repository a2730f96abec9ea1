/- Contracts and laws that the last text joins. -/
import Derived.Test.YtbmdoinjkligiaaGreatM16
set_option maxRecDepth 100000
set_option maxHeartbeats 40000000
set_option linter.all false
namespace Go.Proofs.YtbmdoinjkligiaaGreat
open Tryz
open Lib(hid)
open Go.RowKit
theorem ZU(x:Nat)(W:World):(method 608 149 (ptr x) "ForceCommit").run prog W=.ok (209,ptr x) W:=by kernel_rfl
variable{A:yu}{a ab pdel pend x:Nat}{l:zu}{lg:Value}
theorem Vu{w:World}{I:zN}{s:zA}{ks:zF->List Bytes}{m:Nat}{ron:Bool}{b:Bool}(h:Qb l w a I s A pend pdel ks x ab m lg ron)(hp:pend<=900)(hu:(ks .auth).length<=400):
  Calls prog 272 #[ptr x,.bool b] w λe w'=>e=.returned (.tuple #[])/\∃l',zB l w l' w'/\Qb l' w' a I {s with on:=b} (yj A Qx (Wl b)) (pend+1) pdel (kB ks .auth Qx) x ab m lg ron:=by
 refine(Kf h.tx (h.fine.dbOk h.kv) hp (by omega) h.atx).mono ?_;rintro e w' ⟨rfl,l',hs,ht⟩;have hf:=h.fine;exact⟨rfl,l',hs,h.step (s':={s with on:=b}) hs ht (h.kv.putEn b) rfl ⟨hf.us,hf.rs,hf.uok,hf.rok,hf.ul,hf.rl,hf.rev⟩⟩
theorem DC:∀c,zM (vo (kB jL .auth Qx) c):=λc=>by
 unfold vo kB jL;by_cases h1:c=.auth
 ·rw[if_pos h1,if_pos h1];exact List.pairwise_pair.2 (by decide)
 ·rw[if_neg h1,if_neg h1];exact List.Pairwise.nil
theorem UQ:∀c,zM (kB jL .auth Qx c):=λc=>by
 unfold kB jL;by_cases h1:c=.auth
 ·rw[if_pos h1];exact xD _
 ·rw[if_neg h1];exact List.Pairwise.nil
def Zt(s:zA):zA:=if s.on then {s with on:=false,rev:=s.rev+1}else s
variable{s':zA}
theorem Vv{w:World}{I:zN}{s:zA}(h:Zn l w a I s)(hr:Zt s=s')(hf:ya s')(hs:yD s'):
  Calls prog 156 #[ptr a] w λe w'=>e=.returned (.tuple #[])/\JU l w a I s' w':=by
 obtain⟨A,ab,m,lg,h⟩:=h;obtain⟨A0,hA0⟩:=QB h.row;have r2:w.cell? ⟨a,2,none⟩=some (.iface 149 (ptr ab)):=by rw[cell_of_row w a 2 _ _ (0,0) h.row];rfl
 have r3:w.cell? ⟨a,3,none⟩=some (.bool s.on):=by rw[cell_of_row w a 3 _ _ (0,0) h.row];rfl
 have HB:=hid (qP h.idle h.abe);have H:=hid h;have HF:=hid hf;have HS:=hid hs;have HS0:=hid (zr.refl h.bnd);have m1:=qL;have m2:=qA;have m3:=vm;have m4:=jp;have m5:=ZU;clear h hf hs;by_cases c0:s.on=true
 ·obtain rfl:{s with on:=false,rev:=s.rev+1}=s':=by unfold Zt at hr;rw[if_pos c0]at hr;exact hr
  rw[c0]at r3;clear hr;go_enter_defers func156,ntmps156;go_wp2_with (go_at_call 69;go_must (refine(v_ _ _).mono ?_);rintro e w9 ⟨rfl,rfl⟩);refine HB.out.mono ?_;rintro e w1 ⟨x,rfl,hn1,hx,hax⟩;have h1:=H.out.new hn1;have HL:=hid (jk h1.idle hax);have HN1:=hid hn1;have HSV:=hid (Vu (b:=false) (h1.mid hax) (by decide) (by decide));clear h1 hn1 hax;go_wp2_with fail;refine HL.out.mono ?_;rintro e w2 ⟨rfl,rfl⟩;go_wp2_with fail;refine HSV.out.mono ?_;rintro e w4 ⟨rfl,l4,hs4,hm4⟩;have HS4:=hid ((zr.new H.out.bnd HN1.out).trans hs4.s);have HC4:=hid (yE hm4 (by decide) (by decide) (show s.rev+1<200 from HF.out.rev));clear hs4 hm4;go_wp2_with fail;refine HC4.out.mono ?_;rintro e w5 ⟨rfl,l5,A5,hs5,hm5⟩;have HS5:=hid (HS4.out.trans hs5);have HM5:=hid hm5;have HU:=hid (vF hm5.tx (by decide) DC hm5.atx);clear hs5 hm5;go_wp2_with fail;refine HU.out.mono ?_;rintro e w6 ⟨rfl,l6,I6,hs6,hI6,hi6⟩
  have HFC:=hid (kM hi6 (zN.to hI6 (HM5.out.abe.step hs6)));have HS6:=hid hs6;clear hi6 hs6;go_wp2_with fail;refine HFC.out.mono ?_;rintro e w7 ⟨rfl,l7,I7,hs7,hI7,hi7⟩;have hst:zB l5 w5 l7 w7:=HS6.out.trans hs7;have hrow7:kT w7 a (s.rev+1) lg (.iface 149 (ptr ab)) true m:=by have:=HM5.out.row.keep (hst.mod.block a HM5.out.row.lt λe=>by have:=e.2;have:=HM5.out.lab;omega);rw[c0]at this;exact this
  have hla7:l7 a=12:=by rw[hst.old a HM5.out.row.lt,HM5.out.lab]
  have q3:w7.cell? ⟨a,3,none⟩=some (.bool true):=by rw[cell_of_row w7 a 3 _ _ (0,0) hrow7];rfl
  have z3:w7.frozen? ⟨a,3,none⟩=false:=by have hr:w7.heap[a]? =some (.cells #[.int .u64 ((s.rev+1:Nat):Int),lg,.iface 149 (ptr ab),.bool true,.map (some m)] 146 (0,0)):=hrow7;simp[World.frozen?,hr]
  have HR7:=hid hrow7;have HST:=hid hst;have HI7:=hid (And.intro hi7 (zN.same_trans hI6 hI7));have HLA:=hid hla7;clear hrow7 hst hi7 hs7 hla7;go_wp2;refine leaves_cons (f:=70) (args:= #[.pointer (some A0)]) (by simp) (by simp[go_sem]) ?_;refine(kR _ _).mono ?_;rintro e u' w'' ⟨rfl,rfl,rfl⟩;obtain⟨hi7,hI⟩:=HI7.out;obtain⟨hs8,hc8⟩:=QG hi7.bnd HLA.out 3 (.bool false);have hS:zr l w l7 w7:=HS5.out.trans HST.out.s;exact⟨_,results_none rfl _ _ _,rfl,l7,I7,hI,hS.trans hs8,A5,ab,m,lg,⟨k7.client hi7 hc8,HM5.out.kv,HR7.out.setOn,zN.to hI ((HM5.out.abe.step HST.out).client hc8),(H.out.cache.step H.out.bnd hS).step hi7.bnd hs8,HLA.out,HF.out,HS.out⟩⟩
 ·have c0':s.on=false:=by simpa using c0
  obtain rfl:s=s':=by unfold Zt at hr;rw[if_neg c0]at hr;exact hr
  rw[c0']at r3;clear hr;go_enter_defers func156,ntmps156;go_wp2_with (go_at_call 69;go_must (refine(v_ _ _).mono ?_);rintro e w9 ⟨rfl,rfl⟩);refine leaves_cons (f:=70) (args:= #[.pointer (some A0)]) (by simp) (by simp[go_sem]) ?_;refine(kR _ _).mono ?_;rintro e u' w'' ⟨rfl,rfl,rfl⟩;exact⟨_,results_none rfl _ _ _,rfl,l,I,zN.same_refl I,HS0.out,_,_,_,_,H.out⟩
theorem uV{w:World}{I:zN}{s:zA}{ks:zF->List Bytes}{m:Nat}{ron:Bool}(h:Qb l w a I s A pend pdel ks x ab m lg ron):
  Calls prog 271 #[ptr x] w λe w'=>e=.returned (.int .u64 s.rev)/\zB l w l w'/\Qb l w' a I s A pend pdel ks x ab m lg ron:=by
 obtain⟨C,wb,rb,e2,e4,hB,h1,h2,h3,h4⟩:=h.tx;have R:=YX (l:=l) (w:=w) (I:=I) (C:=C) (rb:=rb) (pend:=pend) (pdel:=pdel) (e2:=e2) (e4:=e4) h1 (h.fine.dbOk h.kv);refine(vR (R:=λr w'=>r=.int .u64 s.rev/\zB l w l w'/\Qb l w' a I s A pend pdel ks x ab m lg ron) h.atx.2 ((Za (n:=s.rev) R.toDu ⟨zB.refl hB.bnd,hB⟩ (by have:=h.fine.rev;omega) h.kv.rv).mono ?_)).mono ?_
 ·rintro e w' ⟨rfl,⟨hs,hB'⟩,hm⟩;exact⟨_,rfl,rfl,hs,h.step hs ⟨C,wb,rb,e2,e4,hB',h1,h2,h3,h4⟩ h.kv rfl h.fine⟩
 ·rintro e w' ⟨r,rfl,rfl,hs,hm⟩;exact⟨rfl,hs,hm⟩
variable{bv:Value}
theorem XR{w:World}{rev m r:Nat}{on:Bool}(ha:kT w a rev lg bv on m):Calls prog 179 #[ptr a,.int .u64 r] w λe w'=>e=.returned (.tuple #[])/\w'=w.setCell ⟨a,0,none⟩ (.int .u64 r):=by
 have r0:w.cell? ⟨a,0,none⟩=some (.int .u64 rev):=by rw[cell_of_row w a 0 _ _ (0,0) ha];rfl
 have z0:w.frozen? ⟨a,0,none⟩=false:=by have hr:w.heap[a]? =some (.cells #[.int .u64 rev,lg,bv,.bool on,.map (some m)] 146 (0,0)):=ha;simp[World.frozen?,hr]
 clear ha;go_enter func179,ntmps179;go_wp2;go_returns;exact⟨rfl,rfl⟩
variable{bb:Nat}
theorem ZV{w:World}{I:zN}{s:zA}{ks:zF->List Bytes}{m tb:Nat}{ron:Bool}{u:FrameMode}(h:Qb l w a I s A pend pdel ks x ab m lg ron)(hp:pend<1000)(hr:∀b,zM (ks b))(ht:im l.some w ⟨tb,0,none⟩=some (.iface 417 (ptr x)))(hb:im l.some w ⟨bb,0,none⟩=some (ptr a)):
  CallsD prog 177 #[ptr tb,ptr bb] u w λe u' w'=>u'=u/\(e=.returned (.tuple #[])/\WZ l w I (s.db A) w'):=by
 have t0:=zd _ _ _ _ ht;have HU:=hid (vF h.tx hp hr h.atx);have H:=hid h;have HBB:=hid hb;have m3:=vm;have m5:=ZU;clear h ht hb;go_enter_d func177,ntmps177;go_wp2_with fail;refine HU.out.mono ?_;rintro e w1 ⟨rfl,l1,I1,hs1,hI1,hi1⟩;have b0:=zd _ _ _ _ (hs1.le _ _ HBB.out);have hrow:=H.out.row.keep (hs1.mod.block a H.out.row.lt λe=>by have:=e.2;have:=H.out.lab;omega);have r2:w1.cell? ⟨a,2,none⟩=some (.iface 149 (ptr ab)):=by rw[cell_of_row w1 a 2 _ _ (0,0) hrow];rfl
 have HFC:=hid (kM hi1 (zN.to hI1 (H.out.abe.step hs1)));have HS1:=hid hs1;clear hs1 hi1 hrow;go_wp2_with fail;refine HFC.out.mono ?_;rintro e w2 ⟨rfl,l2,I2,hs2,hI2,hi2⟩;have HD:=hid (show WZ l w I (s.db A) w2 from⟨l2,I2,HS1.out.trans hs2,zN.same_trans hI1 hI2,hi2⟩);clear hs2 hi2;go_wp2;go_returns;exact⟨rfl,HD.out⟩
def Q1(s:zA):zA×Nat:=if s.on then (s,0)else match s.user zL with|none=>(s,1)|some u=>if u.root then ({s with on:=true},0)else (s,2)
theorem UR(tb bb:Nat)(W:World):(invoke (.fn (.func 177) #[ptr tb,ptr bb]) #[]).run prog W=.ok (.enter 177 #[ptr tb,ptr bb]) W:=by kernel_rfl
variable{ec:Nat}
theorem Xf{w:World}{I:zN}{s:zA}(h:Zn l w a I s)(hr:Q1 s=(s',ec))(hf:ya s')(hs:yD s'):
  Calls prog 157 #[ptr a] w λe w'=>e=.returned (ze ec)/\JU l w a I s' w':=by
 obtain⟨A,ab,m,lg,h⟩:=h;obtain⟨w0,hw0⟩:=zex (w.alloc (.cells #[ptr a] 142));have hn0:za w w0:=by rw[hw0];exact(za.refl w).alloc _
 have hb0:w0.cell? ⟨w.heap.size,0,none⟩=some (ptr a):=by
  have:w0.heap[w.heap.size]? =some (.cells #[ptr a] 142 (0,0)):=by rw[hw0];exact zg w _
  rw[cell_of_row w0 _ 0 _ _ (0,0) this];rfl
 have hl0:l w.heap.size=0:=zbO h.bnd (Nat.le_refl _);have hi0:im l.some w0 ⟨w.heap.size,0,none⟩=some (ptr a):=zi.2 ⟨λe=>e hl0,hb0⟩;have h0:=h.new hn0;obtain⟨A0,hA0⟩:=QB h0.row;have r2:w0.cell? ⟨a,2,none⟩=some (.iface 149 (ptr ab)):=by rw[cell_of_row w0 a 2 _ _ (0,0) h0.row];rfl
 have r3:w0.cell? ⟨a,3,none⟩=some (.bool s.on):=by rw[cell_of_row w0 a 3 _ _ (0,0) h0.row];rfl
 have HB:=hid (qP h0.idle h0.abe);have H:=hid h0;have HI0:=hid hi0;have HN0:=hid hn0;have HF:=hid hf;have HS:=hid hs;have HS0:=hid (zr.new h.bnd hn0);have HW0:=hid hw0;have m1:=qL;have m2:=qA;have m5:=q7;have m6:=jp;have m7:=jn;obtain⟨b0,hb00⟩:∃b0,w.heap.size=b0:=⟨_,rfl⟩;rw[hb00]at HI0 hb0;have HB0:=hid hb00;clear h hf hs h0 hn0 hi0 hl0 hw0 hb00;by_cases c0:s.on=true
 ·obtain⟨rfl,rfl⟩:s=s'/\0=ec:=by unfold Q1 at hr;rw[if_pos c0]at hr;cases hr;exact⟨rfl,rfl⟩
  rw[c0]at r3;clear hr;go_enter_defers func157,ntmps157;go_upto_region 1 with fail
  rw[<-HW0.out,HB0.out];go_wp2_with (go_at_call 69;go_must (refine(v_ _ _).mono ?_);rintro e w9 ⟨rfl,rfl⟩);refine leaves_cons (f:=70) (args:= #[.pointer (some A0)]) (by simp) (by simp[go_sem]) ?_;refine(kR _ _).mono ?_;rintro e u' w'' ⟨rfl,rfl,rfl⟩;exact⟨_,results_tmp rfl _ _ _,rfl,l,I,zN.same_refl I,HS0.out,_,_,_,_,H.out⟩
 ·have c0':s.on=false:=by simpa using c0
  rw[c0']at r3;obtain⟨o,ho⟩:∃o,s.user zL=o:=⟨_,rfl⟩;unfold Q1 at hr;rw[if_neg c0,ho]at hr;have HOU:=hid (show qU zj.name s.users zL=o from ho);have HRR:=hid hr;clear ho hr;go_enter_defers func157,ntmps157;go_upto_region 1 with fail
  rw[<-HW0.out,HB0.out];go_wp2_with (go_at_call 69;go_must (refine(v_ _ _).mono ?_);rintro e w9 ⟨rfl,rfl⟩);refine HB.out.mono ?_;rintro e w1 ⟨x,rfl,hn1,hx,hax⟩;obtain⟨W,hW⟩:=zex (w1.alloc (.cells #[.iface 417 (ptr x)] 140));have hnW:za w1 W:=by rw[hW];exact(za.refl w1).alloc _
  have htb:W.cell? ⟨w1.heap.size,0,none⟩=some (.iface 417 (ptr x)):=by
   have:W.heap[w1.heap.size]? =some (.cells #[.iface 417 (ptr x)] 140 (0,0)):=by rw[hW];exact zg w1 _
   rw[cell_of_row W _ 0 _ _ (0,0) this];rfl
  have h1w:=H.out.new hn1;have hlt0:l w1.heap.size=0:=zbO h1w.bnd (Nat.le_refl _);have hn0W:za w0 W:=hn1.trans hnW;have h1:=H.out.new hn0W;have hax:=hax.new hnW;have HTB:=hid (show im l.some W ⟨w1.heap.size,0,none⟩=some (.iface 417 (ptr x))from zi.2 ⟨λe=>e hlt0,htb⟩);have HBB:=hid (hn0W.im l.some _ _ HI0.out);have bb0:=hn0W.le _ _ hb0;have HL:=hid (jk h1.idle hax);have HUS:=hid ((vS (x:=x) (I:=I) (pend:=0) (pdel:=0) (us:=jL) h1.fine h1.kv).user l W zL ⟨h1.idle,hax⟩ (by decide));have H1:=hid h1;have HS1:=hid (HS0.out.trans (zr.new H.out.bnd hn0W));have HW:=hid hW;obtain⟨tb,htbe⟩:∃tb,w1.heap.size=tb:=⟨_,rfl⟩;rw[htbe]at HTB htb;have HTE:=hid htbe;clear hnW h1w hlt0 hn0W h1 hax hW hn1 htbe;rw[XP]at HUS;unfold zac at HUS;go_upto_region 6 with fail
  rw[<-HW.out,HTE.out];go_wp2_with fail;refine HL.out.mono ?_;rintro e w2 ⟨rfl,rfl⟩;go_wp2_with fail;refine HUS.out.mono ?_;rintro e w2 ⟨r,rfl,⟨hi2,hax2⟩,hm2,hg2⟩;rw[HOU.out]at hg2;have hst2:=zB.own H1.out.bnd hm2;have h2:=H1.out.moved hst2 (zN.same_refl I) hi2;have HS2:=hid (HS1.out.trans hst2.s);have HMID:=hid (h2.mid hax2);have H2':=hid h2;have HG:=hid hg2;have HTB2:=hid (hst2.le _ _ HTB.out);have HBB2:=hid (hst2.le _ _ HBB.out);have tb2:=zd _ _ _ _ HTB2.out;have bb2:=zd _ _ _ _ HBB2.out;have hi:=UR tb b0;clear hi2 hm2 hg2 hst2 h2 hax2;cases o with
  |none=>
   have hg:=HG.out;cases hg;obtain⟨rfl,rfl⟩:s=s'/\1=ec:=by have:=HRR.out;cases this;exact⟨rfl,rfl⟩
   go_wp2;refine leaves_cons (f:=177) (args:= #[ptr tb,ptr b0]) (by simp) (hi _) ?_;refine(ZV HMID.out (by decide) qI HTB2.out HBB2.out).mono ?_;rintro e u' w'' ⟨rfl,rfl,l3,I3,hs3,hI3,hi3⟩;refine leaves_cons (f:=70) (args:= #[.pointer (some A0)]) (by simp[settle]) (by simp[go_sem]) ?_;refine(kR _ _).mono ?_;rintro e u' w5 ⟨rfl,rfl,rfl⟩;exact⟨_,results_tmp rfl _ _ _,rfl,l3,I3,hI3,HS2.out.trans hs3.s,_,_,_,_,H2'.out.moved hs3 hI3 hi3⟩
  |some u=>
   obtain⟨b,rfl,hbw,hua⟩:=HG.out.at H1.out.bnd;have hmem:=qk H2'.out.fine.us HOU.out;have HR:=hid (Vj (zd _ _) hua (H2'.out.sane.ur u hmem) (H2'.out.fine.uok u hmem).roles);clear hua hmem;by_cases c4:u.root=true
   ·rw[c4]at HR;obtain⟨rfl,rfl⟩:{s with on:=true}=s'/\0=ec:=by
     have h9:(if u.root=true then (({s with on:=true}:zA),0)else (s,2))=(s',ec):=HRR.out;rw[if_pos c4]at h9;cases h9;exact⟨rfl,rfl⟩
    go_wp2_with fail;refine HR.out.mono ?_;rintro e w3 ⟨rfl,hw3⟩;have hm3:=HMID.out.new hw3;have HS3:=hid (HS2.out.trans (zr.new H2'.out.bnd hw3));have HSV:=hid (Vu (b:=true) hm3 (by decide) (by decide));have HTB3:=hid (hw3.im _ _ _ HTB2.out);have HBB3:=hid (hw3.im _ _ _ HBB2.out);have tb3:=zd _ _ _ _ HTB3.out;have bb3:=zd _ _ _ _ HBB3.out;clear hw3 hm3;go_wp2_with fail;refine HSV.out.mono ?_;rintro e w4 ⟨rfl,l4,hs4,hm4⟩;have HTB4:=hid (hs4.le _ _ HTB3.out);have HBB4:=hid (hs4.le _ _ HBB3.out);have tb4:=zd _ _ _ _ HTB4.out;have bb4:=zd _ _ _ _ HBB4.out;have hrow4:=hm4.row;rw[c0']at hrow4;have q3:w4.cell? ⟨a,3,none⟩=some (.bool false):=by rw[cell_of_row w4 a 3 _ _ (0,0) hrow4];rfl
    have z3:w4.frozen? ⟨a,3,none⟩=false:=by have hr:w4.heap[a]? =some (.cells #[.int .u64 s.rev,lg,.iface 149 (ptr ab),.bool false,.map (some m)] 146 (0,0)):=hrow4;simp[World.frozen?,hr]
    obtain⟨w5,hw5⟩:=zex (w4.setCell ⟨a,3,none⟩ (.bool true));obtain⟨hs5,hc5⟩:=QG hm4.bnd hm4.lab 3 (.bool true);rw[<-hw5]at hs5 hc5;have hrow5:=hrow4.setOn (on2:=true);rw[<-hw5]at hrow5;have hm5:Qb l4 w5 a I {s with on:=true} (yj A Qx (Wl true)) 1 0 (kB jL .auth Qx) x ab m lg true:=⟨hm4.tx.client hc5,hm4.kv,hm4.atx.client hc5,hrow5,hm4.abe.client hc5,hm4.lab,hm4.fine⟩;have HTB5:=hid (hs5.le _ _ HTB4.out);have HBB5:=hid (hs5.le _ _ HBB4.out);have tb5:=zd _ _ _ _ HTB5.out;have bb5:=zd _ _ _ _ HBB5.out;have HS5:=hid ((HS3.out.trans hs4.s).trans hs5);have HRF:=hid (qY hm5 HS.out);have HW5:=hid hw5;clear hs4 hm4 hrow4 hw5 hs5 hc5 hrow5 hm5;go_upto_region 15 with fail
    rw[<-HW5.out];go_wp2_with fail;refine HRF.out.mono ?_;rintro e w6 ⟨rfl,l6,m6,hs6,hm6,hc6⟩;have HTB6:=hid (hs6.le _ _ HTB5.out);have HBB6:=hid (hs6.le _ _ HBB5.out);have tb6:=zd _ _ _ _ HTB6.out;have bb6:=zd _ _ _ _ HBB6.out;have HS6:=hid (HS5.out.trans hs6);have hd:za w6 w6.drew:=(za.refl w6).drew;have HRD:=hid (uV (hm6.new hd));have HC6:=hid (hc6.step hm6.bnd (zr.new hm6.bnd hd));have HB6:=hid (zr.new hm6.bnd hd);clear hs6 hm6 hc6 hd;go_wp2_with fail;refine wp_region_noPanic ?_;go_region_with (first|(go_at_call 271;refine HRD.out.mono ?_;rintro e w7 ⟨rfl,hs7,hm7⟩;have bb7:=zd _ _ _ _ (hs7.le _ _ (HB6.out.le _ _ HBB6.out));have HM7:=hid (And.intro hs7 hm7);have HSR:=hid (XR (r:=s.rev) hm7.row);clear hs7 hm7)|(refine HSR.out.mono ?_;rintro e w8 ⟨rfl,hw8⟩;have HW8:=hid hw8;clear hw8))
    all_goals refine NoPanic.normal ?_
    all_goals
     obtain⟨hs7,hm7⟩:=HM7.out;obtain⟨hs8,hc8⟩:=QG hm7.bnd hm7.lab 0 (.int .u64 s.rev);rw[<-HW8.out]at hs8 hc8;have hrow8:=hm7.row.setRev (r2:=s.rev);rw[<-HW8.out]at hrow8;have HM8:=hid (show Qb l6 w8 a I {s with on:=true} (yj A Qx (Wl true)) 1 0 (kB jL .auth Qx) x ab m6 lg true from⟨hm7.tx.client hc8,hm7.kv,hm7.atx.client hc8,hrow8,hm7.abe.client hc8,hm7.lab,hm7.fine⟩);have HC8:=hid ((HC6.out.step (HB6.out.bnd) hs7.s).step hm7.bnd hs8);have HS8:=hid (((HS6.out.trans HB6.out).trans hs7.s).trans hs8);have HTB8:=hid (hs8.le _ _ (hs7.le _ _ (HB6.out.le _ _ HTB6.out)));have HBB8:=hid (hs8.le _ _ (hs7.le _ _ (HB6.out.le _ _ HBB6.out)));clear hs7 hm7 hs8 hc8 hrow8;go_wp2;refine leaves_cons (f:=177) (args:= #[ptr tb,ptr b0]) (by simp) (hi _) ?_;refine(ZV HM8.out (by decide) UQ HTB8.out HBB8.out).mono ?_;rintro e u' w'' ⟨rfl,rfl,l3,I3,hs3,hI3,hi3⟩
     refine leaves_cons (f:=70) (args:= #[.pointer (some A0)]) (by simp[settle]) (by simp[go_sem]) ?_;refine(kR _ _).mono ?_;rintro e u' w5 ⟨rfl,rfl,rfl⟩;exact⟨_,results_tmp rfl _ _ _,rfl,l3,I3,hI3,HS8.out.trans hs3.s,_,_,_,_,QH HM8.out HS.out HC8.out hs3 hI3 hi3⟩
   ·obtain⟨rfl,rfl⟩:s=s'/\2=ec:=by
     have h9:(if u.root=true then (({s with on:=true}:zA),0)else (s,2))=(s',ec):=HRR.out;rw[if_neg c4]at h9;cases h9;exact⟨rfl,rfl⟩
    have c4':u.root=false:=by simpa using c4
    rw[c4']at HR;go_wp2_with fail;refine HR.out.mono ?_;rintro e w3 ⟨rfl,hw3⟩;go_wp2;refine leaves_cons (f:=177) (args:= #[ptr tb,ptr b0]) (by simp) (hi _) ?_;refine(ZV (HMID.out.new hw3) (by decide) qI (hw3.im _ _ _ HTB2.out) (hw3.im _ _ _ HBB2.out)).mono ?_;rintro e u' w'' ⟨rfl,rfl,l3,I3,hs3,hI3,hi3⟩;refine leaves_cons (f:=70) (args:= #[.pointer (some A0)]) (by simp[settle]) (by simp[go_sem]) ?_;refine(kR _ _).mono ?_;rintro e u' w5 ⟨rfl,rfl,rfl⟩;exact⟨_,results_tmp rfl _ _ _,rfl,l3,I3,hI3,(HS2.out.trans (zr.new H2'.out.bnd hw3)).trans hs3.s,_,_,_,_,(H2'.out.new hw3).moved hs3 hI3 hi3⟩
end Go.Proofs.YtbmdoinjkligiaaGreat
