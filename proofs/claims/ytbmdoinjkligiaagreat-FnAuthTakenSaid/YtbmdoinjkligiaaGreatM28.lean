/- Contracts and laws that the last text joins. -/
import Derived.Deep.CutBlock
import Derived.Test.YtbmdoinjkligiaaGreatM27
set_option maxRecDepth 100000
set_option maxHeartbeats 40000000
set_option linter.all false
namespace Go.Proofs.YtbmdoinjkligiaaGreat
open Tryz
open Lib(hid)
open Go.RowKit
theorem Y6(a:Nat)(W:World):(method 608 142 (ptr a) "UserDelete").run prog W=.ok (172,ptr a) W:=by kernel_rfl
variable{a ec x:Nat}{l:zu}{o:zH}{s':zA}
theorem fg{w:World}{I:zN}{s:zA}(h:Wd l w x I a s)(hk:o.kind=4)(hr:Zo s o.user=(s',ec))(hn:o.user.length<=1000)(hf:q9 s')(hs:yA s'):
  Calls prog 42 #[ptr x,o.val] w (Q_ l w x I s' ec):=by
 obtain⟨ki,us,ro,pk,ke,st,np,od,nu⟩:=o;dsimp only at hk hr hn;subst hk;unfold zH.val zH.cells;dsimp only;obtain⟨c0,c1,c2,_⟩:=vX h.row;obtain⟨sx,Ht⟩:∃z,zb us=.string z:=⟨_,rfl⟩;obtain⟨cc,Hc⟩:=zex (#[.int .i64 4,zb us,zb ro,.int .i64 pk,zb ke,zb st,.bool np,.int .i64 od,.bool nu]);obtain⟨w1,Hh⟩:=zex (w.alloc (.cells cc 35));have hQ:za w w1:=by rw[Hh];exact(za.refl w).alloc _
 have pI:w1.heap.size=w.heap.size+1:=by rw[Hh];exact Array.size_push ..
 have pM:w1.heap[w.heap.size]? =some (.cells cc 35 (0,0)):=by rw[Hh];exact zg w _
 have d2:=hQ.le _ _ c2;have g0:w1.cell? ⟨w.heap.size,0,none⟩=some (.int .i64 4):=by rw[cell_of_row w1 _ 0 _ _ (0,0) pM,Hc];rfl
 have g1:w1.cell? ⟨w.heap.size,1,none⟩=some (.string sx):=by rw[cell_of_row w1 _ 1 _ _ (0,0) pM,Hc,Ht];rfl
 obtain⟨w3,pu⟩:=zex (w1.alloc (.cells #[.string sx] 168));have Hg:za w1 w3:=by rw[pu];exact(za.refl w1).alloc _
 have sG:w3.heap[w1.heap.size]? =some (.cells #[.string sx] 168 (0,0)):=by rw[pu];exact zg w1 _
 have He:=hQ.trans Hg;have sO:l w.heap.size=0:=by
  by_cases e:l w.heap.size=0
  ·exact e
  ·have:=h.st.bnd _ e;omega
 have PZ: ¬l.some w1.heap.size:=λe=>by have:=h.st.bnd _ e;omega
 have hC:∀W,(W=w3\/W=w3.drew)->Calls prog 172 #[ptr a,ptr w1.heap.size] W λe w'=>∃v,e=.returned (.tuple #[v,ze ec])/\(∃l' I' a',I'.db=I.db/\qF l w l' w'/\Wd l' w' x I' a' s')/\w'.cell? ⟨x,2,none⟩=some (.iface 142 (ptr a))/\w'.cell? ⟨w.heap.size,1,none⟩=some (.string sx):=λW hW=>by
  have hb:W.heap=w3.heap:=by rcases hW with rfl|rfl<;>rfl
  have Pz:za w W:=by
   rcases hW with rfl|rfl
   ·exact He
   ·exact He.drew
  refine(V_ (h.new Pz).st hr hn (rb:=w1.heap.size) (zi.2 ⟨PZ,?_⟩) hf hs).mono λe w' hc=> ?_
  rotate_left 1
  ·obtain⟨v,he,Hk,k2,kp⟩:=VV.w h Pz hc;have TR:W.heap[w.heap.size]? =w1.heap[w.heap.size]? :=by
    rw[hb,Hg.block w.heap.size (by omega) (λe=>e)]
   exact⟨v,he,Hk,k2,kp _ _ sO (by rw[World.cell?_of_block TR];exact g1)⟩
  ·rw[Ht,cell_of_row W w1.heap.size 0 _ _ (0,0) (by rw[hb];exact sG)];rfl
 have Sg:=hC _ (Or.inr rfl);rw[pI,pu]at Sg;have HC:=hid Sg;have Pr:=hid Hh;have pJ:=hid Hc;have r_:=hid Ht;have sL:=Y6 a;clear h Hc Ht hQ Hg sG He sO PZ hC Sg hr hf hs pM pu;obtain⟨ob,p_⟩:=zex (w.heap.size);rw[<-p_]at g0 g1;have mg:=hid p_;go_enter func42,ntmps42;go_upto_region 2 with fail
 rw[<-pJ.out,<-Pr.out,<-p_];clear c0 c1 c2 p_ Hh;obtain⟨va,pR⟩:=zex (Value.agg cc);rw[<-pR];clear pR;go_wp2_with fail;go_region_held3 (λw'=>w'.cell? ⟨x,2,none⟩=some (.iface 142 (ptr a))/\w'.cell? ⟨ob,1,none⟩=some (.string sx)) (go_keep) (first|(go_at_call 172;refine HC.out.mono ?_;rintro e w9 ⟨v,rfl,Hk,k2,k1x⟩;rw[<-mg.out]at k1x;have Hn:=hid Hk;clear Hk))
 all_goals
  go_wp2;go_returns;exact⟨rfl,Hn.out⟩
theorem VC(a:Nat)(W:World):(method 608 142 (ptr a) "RoleAdd").run prog W=.ok (165,ptr a) W:=by kernel_rfl
theorem fm{w:World}{I:zN}{s:zA}(h:Wd l w x I a s)(hk:o.kind=9)(hr:vT s o.role=(s',ec))(hn:o.role.length<=1000)(hf:q9 s')(hs:yA s'):
  Calls prog 42 #[ptr x,o.val] w (Q_ l w x I s' ec):=by
 obtain⟨ki,us,ro,pk,ke,st,np,od,nu⟩:=o;dsimp only at hk hr hn;subst hk;unfold zH.val zH.cells;dsimp only;obtain⟨c0,c1,c2,_⟩:=vX h.row;obtain⟨rx,Pj⟩:∃z,zb ro=.string z:=⟨_,rfl⟩;obtain⟨cc,Hc⟩:=zex (#[.int .i64 9,zb us,zb ro,.int .i64 pk,zb ke,zb st,.bool np,.int .i64 od,.bool nu]);obtain⟨w1,Hh⟩:=zex (w.alloc (.cells cc 35));have hQ:za w w1:=by rw[Hh];exact(za.refl w).alloc _
 have pI:w1.heap.size=w.heap.size+1:=by rw[Hh];exact Array.size_push ..
 have pM:w1.heap[w.heap.size]? =some (.cells cc 35 (0,0)):=by rw[Hh];exact zg w _
 have d2:=hQ.le _ _ c2;have g0:w1.cell? ⟨w.heap.size,0,none⟩=some (.int .i64 9):=by rw[cell_of_row w1 _ 0 _ _ (0,0) pM,Hc];rfl
 have g2:w1.cell? ⟨w.heap.size,2,none⟩=some (.string rx):=by rw[cell_of_row w1 _ 2 _ _ (0,0) pM,Hc,Pj];rfl
 obtain⟨w3,pu⟩:=zex (w1.alloc (.cells #[.string rx] 185));have Hg:za w1 w3:=by rw[pu];exact(za.refl w1).alloc _
 have sG:w3.heap[w1.heap.size]? =some (.cells #[.string rx] 185 (0,0)):=by rw[pu];exact zg w1 _
 have He:=hQ.trans Hg;have sO:l w.heap.size=0:=by
  by_cases e:l w.heap.size=0
  ·exact e
  ·have:=h.st.bnd _ e;omega
 have PZ: ¬l.some w1.heap.size:=λe=>by have:=h.st.bnd _ e;omega
 have hC:∀W,(W=w3\/W=w3.drew)->Calls prog 165 #[ptr a,ptr w1.heap.size] W λe w'=>∃v,e=.returned (.tuple #[v,ze ec])/\(∃l' I' a',I'.db=I.db/\qF l w l' w'/\Wd l' w' x I' a' s')/\w'.cell? ⟨x,2,none⟩=some (.iface 142 (ptr a))/\w'.cell? ⟨w.heap.size,2,none⟩=some (.string rx):=λW hW=>by
  have hb:W.heap=w3.heap:=by rcases hW with rfl|rfl<;>rfl
  have Pz:za w W:=by
   rcases hW with rfl|rfl
   ·exact He
   ·exact He.drew
  refine(UE (h.new Pz).st hr hn (rb:=w1.heap.size) (zi.2 ⟨PZ,?_⟩) hf hs).mono λe w' hc=> ?_
  rotate_left 1
  ·obtain⟨v,he,Hk,k2,kp⟩:=VV.w h Pz hc;have TR:W.heap[w.heap.size]? =w1.heap[w.heap.size]? :=by
    rw[hb,Hg.block w.heap.size (by omega) (λe=>e)]
   exact⟨v,he,Hk,k2,kp _ _ sO (by rw[World.cell?_of_block TR];exact g2)⟩
  ·rw[Pj,cell_of_row W w1.heap.size 0 _ _ (0,0) (by rw[hb];exact sG)];rfl
 have Sg:=hC _ (Or.inr rfl);rw[pI,pu]at Sg;have HC:=hid Sg;have Pr:=hid Hh;have pJ:=hid Hc;have LU:=hid Pj;have sL:=VC a;clear h Hc Pj hQ Hg sG He sO PZ hC Sg hr hf hs pM pu;obtain⟨ob,p_⟩:=zex (w.heap.size);rw[<-p_]at g0 g2;have mg:=hid p_;go_enter func42,ntmps42;go_upto_region 2 with fail
 rw[<-pJ.out,<-Pr.out,<-p_];clear c0 c1 c2 p_ Hh;obtain⟨va,pR⟩:=zex (Value.agg cc);rw[<-pR];clear pR;go_wp2_with fail;go_region_held3 (λw'=>w'.cell? ⟨x,2,none⟩=some (.iface 142 (ptr a))/\w'.cell? ⟨ob,2,none⟩=some (.string rx)) (go_keep) (first|(go_at_call 165;refine HC.out.mono ?_;rintro e w9 ⟨v,rfl,Hk,k2,k2x⟩;rw[<-mg.out]at k2x;have Hn:=hid Hk;clear Hk))
 all_goals
  go_wp2;go_returns;exact⟨rfl,Hn.out⟩
variable{W w':World}
theorem JP.w{w:World}{I:zN}{s:zA}(h:Wd l w x I a s)(hn:za w W)(hc:JP l W a I s' w'):∃l' I' a',I'.db=I.db/\qF l w l' w'/\Wd l' w' x I' a' s':=by obtain⟨l',I',hI,hs,ht⟩:=hc;exact⟨l',I',a,hI.2.2.2,(qF.new h.st.bnd hn).trans hs.w,(h.new hn).call hs hI ht⟩
theorem Ja(a:Nat)(W:World):(method 608 142 (ptr a) "AuthEnable").run prog W=.ok (157,ptr a) W:=by kernel_rfl
theorem YB(a:Nat)(W:World):(method 608 142 (ptr a) "AuthDisable").run prog W=.ok (156,ptr a) W:=by kernel_rfl
theorem fy{w:World}{I:zN}{s:zA}(h:Wd l w x I a s)(hk:o.kind=1)(hr:QV s=(s',ec))(hf:q9 s')(hs:yA s'):
  Calls prog 42 #[ptr x,o.val] w (Q_ l w x I s' ec):=by
 obtain⟨ki,us,ro,pk,ke,st,np,od,nu⟩:=o;dsimp only at hk;subst hk;unfold zH.val zH.cells;dsimp only;obtain⟨c0,c1,c2,_⟩:=vX h.row;obtain⟨cc,Hc⟩:=zex (#[.int .i64 1,zb us,zb ro,.int .i64 pk,zb ke,zb st,.bool np,.int .i64 od,.bool nu]);obtain⟨w1,Hh⟩:=zex (w.alloc (.cells cc 35));have hQ:za w w1:=by rw[Hh];exact(za.refl w).alloc _
 have pM:w1.heap[w.heap.size]? =some (.cells cc 35 (0,0)):=by rw[Hh];exact zg w _
 have d2:=hQ.le _ _ c2;have g0:w1.cell? ⟨w.heap.size,0,none⟩=some (.int .i64 1):=by rw[cell_of_row w1 _ 0 _ _ (0,0) pM,Hc];rfl
 have HC:=hid (Xb (h.new hQ).st hr hf hs);have HH:=hid h;have Hs:=hid hQ;have Pr:=hid Hh;have pJ:=hid Hc;have sL:=Ja a;clear h Hc hQ hr hf hs pM c0 c1 c2;obtain⟨ob,p_⟩:=zex (w.heap.size);rw[<-p_]at g0;go_enter func42,ntmps42;go_upto_region 2 with fail
 rw[<-pJ.out,<-Pr.out,<-p_];clear p_ Hh;obtain⟨va,pR⟩:=zex (Value.agg cc);rw[<-pR];clear pR;go_wp2_with fail;refine HC.out.mono ?_;rintro e w2 ⟨rfl,ha⟩;have Hn:=hid (JP.w HH.out Hs.out ha);clear ha;go_wp2;go_returns;exact⟨rfl,Hn.out⟩
theorem fz{w:World}{I:zN}{s:zA}(h:Wd l w x I a s)(hk:o.kind=2)(hr:Zq s=s')(hf:q9 s')(hs:yA s'):
  Calls prog 42 #[ptr x,o.val] w (Q_ l w x I s' 0):=by
 obtain⟨ki,us,ro,pk,ke,st,np,od,nu⟩:=o;dsimp only at hk;subst hk;unfold zH.val zH.cells;dsimp only;obtain⟨c0,c1,c2,_⟩:=vX h.row;obtain⟨cc,Hc⟩:=zex (#[.int .i64 2,zb us,zb ro,.int .i64 pk,zb ke,zb st,.bool np,.int .i64 od,.bool nu]);obtain⟨w1,Hh⟩:=zex (w.alloc (.cells cc 35));have hQ:za w w1:=by rw[Hh];exact(za.refl w).alloc _
 have pM:w1.heap[w.heap.size]? =some (.cells cc 35 (0,0)):=by rw[Hh];exact zg w _
 have d2:=hQ.le _ _ c2;have g0:w1.cell? ⟨w.heap.size,0,none⟩=some (.int .i64 2):=by rw[cell_of_row w1 _ 0 _ _ (0,0) pM,Hc];rfl
 have HC:=hid (Vq (h.new hQ).st hr hf hs);have HH:=hid h;have Hs:=hid hQ;have Pr:=hid Hh;have pJ:=hid Hc;have sL:=YB a;clear h Hc hQ hr hf hs pM c0 c1 c2;obtain⟨ob,p_⟩:=zex (w.heap.size);rw[<-p_]at g0;go_enter func42,ntmps42;go_upto_region 2 with fail
 rw[<-pJ.out,<-Pr.out,<-p_];clear p_ Hh;obtain⟨va,pR⟩:=zex (Value.agg cc);rw[<-pR];clear pR;go_wp2_with fail;refine HC.out.mono ?_;rintro e w2 ⟨rfl,ha⟩;have Hn:=hid (JP.w HH.out Hs.out ha);clear ha;go_wp2;go_returns;exact⟨rfl,Hn.out⟩
theorem VH(x:Nat)(W:World):(method 608 424 (ptr x) "UnsafeReadAuthEnabled").run prog W=.ok (296,ptr x) W:=by kernel_rfl
theorem Kg(x:Nat)(W:World):(method 608 424 (ptr x) "UnsafeReadAuthRevision").run prog W=.ok (297,ptr x) W:=by kernel_rfl
section
variable{l:zu}{w:World}{a:Nat}{I:zN}{s:zA}{A:yr}{ab m x:Nat}{lg:Value}
theorem UZ(h:Q8 l w a I s A ab m lg)(hx:qd l w x 238 I.rt 426):
  Calls prog 296 #[ptr x] w λe w'=>e=.returned (.bool s.on)/\zB l w l w'/\Q8 l w' a I s A ab m lg/\qd l w' x 238 I.rt 426:=by
 obtain⟨C,wb,rb,e2,e4,hB,h1,h2,h3,h4⟩:=h.idle;have R:=YT (l:=l) (w:=w) (I:=I) (C:=C) (wb:=wb) (rb:=rb) (pend:=0) (pdel:=0) (e2:=e2) h2 (h4 rfl).2.1 (h.fine.dbOk h.kv);refine(Q7 (R:=λr w'=>r=.bool s.on/\zB l w l w'/\Q8 l w' a I s A ab m lg/\qd l w' x 238 I.rt 426) hx.2 ((YO R.toDe ⟨zB.refl hB.bnd,hB⟩).mono ?_)).mono ?_
 ·rintro e w' ⟨rfl,⟨hs,tJ⟩,hm⟩;exact⟨_,rfl,congrArg Value.bool h.kv.en,hs,h.moved hs (zN.same_refl I) ⟨C,wb,rb,e2,e4,tJ,h1,h2,h3,h4⟩,hx.step hs⟩
 ·rintro e w' ⟨r,rfl,rfl,hs,hm⟩;exact⟨rfl,hs,hm⟩
theorem fA(h:Q8 l w a I s A ab m lg)(hx:qd l w x 238 I.rt 426):
  Calls prog 297 #[ptr x] w λe w'=>e=.returned (.int .u64 s.rev)/\zB l w l w'/\Q8 l w' a I s A ab m lg/\qd l w' x 238 I.rt 426:=by
 obtain⟨C,wb,rb,e2,e4,hB,h1,h2,h3,h4⟩:=h.idle;have R:=YT (l:=l) (w:=w) (I:=I) (C:=C) (wb:=wb) (rb:=rb) (pend:=0) (pdel:=0) (e2:=e2) h2 (h4 rfl).2.1 (h.fine.dbOk h.kv);refine(Qr (R:=λr w'=>r=.int .u64 s.rev/\zB l w l w'/\Q8 l w' a I s A ab m lg/\qd l w' x 238 I.rt 426) hx.2 ((x8 (n:=s.rev) R.toDe ⟨zB.refl hB.bnd,hB⟩ (by have:=h.fine.rev;omega) h.kv.rv).mono ?_)).mono ?_
 ·rintro e w' ⟨rfl,⟨hs,tJ⟩,hm⟩;exact⟨_,rfl,rfl,hs,h.moved hs (zN.same_refl I) ⟨C,wb,rb,e2,e4,tJ,h1,h2,h3,h4⟩,hx.step hs⟩
 ·rintro e w' ⟨r,rfl,rfl,hs,hm⟩;exact⟨rfl,hs,hm⟩
theorem Q8.set{ab2:Nat}(h:Q8 l w a I s A ab m lg){o:Nat}{v:Value}(hZ:kR (w.setCell ⟨a,o,none⟩ v) a s.rev lg (.iface 149 (ptr ab2)) s.on m)(h2:qd l w ab2 136 I.be 151):zr l w l (w.setCell ⟨a,o,none⟩ v)/\Q8 l (w.setCell ⟨a,o,none⟩ v) a I s A ab2 m lg:=by obtain⟨hs,hc⟩:=Qz h.bnd h.lab o v;exact⟨hs,kZ.client h.idle hc,h.kv,hZ,h2.client hc,h.cache.step h.bnd hs,h.lab,h.fine,h.sane⟩
theorem kR.setBe{rev:Nat}{bv bv2:Value}{on:Bool}(h:kR w a rev lg bv on m):kR (w.setCell ⟨a,2,none⟩ bv2) a rev lg bv2 on m:=heap_setCell_same _ _ _ _ _ _ h
end
theorem U0{w:World}{ab2:Nat}{I:zN}{s:zA}(h:Zk l w a I s)(h2:qd l w ab2 136 I.be 151):
  Calls prog 164 #[ptr a,.iface 149 (ptr ab2)] w λe w'=>e=.returned (.tuple #[])/\∃l',zr l w l' w'/\Zk l' w' a I s:=by
 obtain⟨A,ab,m,lg,h⟩:=h;have r2:w.cell? ⟨a,2,none⟩=some (.iface 149 (ptr ab)):=by rw[cell_of_row w a 2 _ _ (0,0) h.row];rfl
 have z2:w.frozen? ⟨a,2,none⟩=false:=by have hr:w.heap[a]? =some (.cells #[.int .u64 s.rev,lg,.iface 149 (ptr ab),.bool s.on,.map (some m)] 146 (0,0)):=h.row;simp[World.frozen?,hr]
 obtain⟨w1,Hh⟩:=zex (w.setCell ⟨a,2,none⟩ (.iface 149 (ptr ab2)));obtain⟨pI,h1⟩:=h.set h.row.setBe h2;rw[<-Hh]at pI h1;have HB:=hid (vD h1.idle h1.abe);have H1:=hid h1;have RV:=hid pI;have Pr:=hid Hh;have m1:=Qv;have m2:=km;have m3:=ji;have m4:=VH;have m5:=Kg;clear h h2 h1 pI Hh;go_enter func164,ntmps164;go_upto_region 1 with fail
 rw[<-Pr.out];go_wp2_with fail;refine HB.out.mono ?_;rintro e w2 ⟨x,rfl,Hj,hx,pH⟩;have h2:=H1.out.new Hj;have HL:=hid (xm h2.idle pH);have OG:=hid (UZ h2 pH);have Ph:=hid (RV.out.trans (zr.new H1.out.bnd Hj));clear h2 Hj pH;go_wp2_with fail;refine HL.out.mono ?_;rintro e w3 ⟨rfl,rfl⟩;go_wp2_with fail;refine OG.out.mono ?_;rintro e w4 ⟨rfl,PV,h4,ws⟩;have Sx:=hid (Ph.out.trans PV.s);have OH:=hid (fA h4 ws);clear PV h4 ws;go_wp2_with fail;refine OH.out.mono ?_;rintro e w5 ⟨rfl,pC,h5,aD⟩;have TS:=hid (XN (r:=s.rev) h5.row);have P8:=hid (Sx.out.trans pC.s);have H5:=hid (And.intro h5 aD);clear pC h5 aD;go_wp2_with fail;refine TS.out.mono ?_;rintro e w6 ⟨rfl,Sc⟩;obtain⟨PC,h6⟩:=H5.out.1.set (o:=0) (v:=.int .u64 s.rev) H5.out.1.row.setRev H5.out.1.abe;rw[<-Sc]at PC h6;have BD:qd l w6 x 238 I.rt 426:=H5.out.2.s PC
 have Bp:=hid (Vd (QT (x:=x) (I:=I) h6.fine h6.kv) h6.fine.us h6.fine.rs h6.fine.uok h6.fine.rok h6.sane.pv ⟨h6.idle,BD⟩ h6.row h6.lab);have sP:=hid (P8.out.trans PC);have H6:=hid h6;clear PC h6 BD Sc;go_wp2_with fail;refine Bp.out.mono ?_;rintro e w7 ⟨rfl,l7,m7,⟨w_,Mp⟩,ri,Pq,wT⟩;have h7:Q8 l7 w7 a I s A ab2 m7 lg:=⟨w_,H6.out.kv,Pq,H6.out.abe.s ri,wT,by rw[ri.old a H6.out.row.lt,H6.out.lab],H6.out.fine,H6.out.sane⟩;have HU:=hid (uz h7.idle Mp);obtain⟨A0,hA0⟩:=Qu h7.row;have q3:w7.cell? ⟨a,3,none⟩=some (.bool s.on):=by rw[cell_of_row w7 a 3 _ _ (0,0) Pq];rfl
 have z3:w7.frozen? ⟨a,3,none⟩=false:=by have hr:w7.heap[a]? =some (.cells #[.int .u64 s.rev,lg,.iface 149 (ptr ab2),.bool s.on,.map (some m7)] 146 (0,0)):=Pq;simp[World.frozen?,hr]
 obtain⟨w8,lL⟩:=zex (w7.setCell ⟨a,3,none⟩ (.bool s.on));obtain⟨rB,h8⟩:=h7.set (o:=3) (v:=.bool s.on) h7.row.setOn h7.abe;rw[<-lL]at rB h8;obtain⟨A8,hA8⟩:=Qu h8.row;have Br:=hid ((sP.out.trans ri).trans rB);have H8:=hid h8;have af:=hid lL;clear w_ Mp ri Pq wT h7 rB h8 lL;go_wp2_with fail;refine HU.out.mono ?_;rintro e w9 ⟨rfl,rfl⟩;go_upto_region 9 with(go_at_call 69;go_must (refine(vY _ _).mono ?_);rintro e w9 ⟨rfl,rfl⟩)
 rw[<-af.out];go_wp2_with (go_at_call 70;go_must (refine(QQ _ _).mono ?_);rintro e w9 ⟨rfl,rfl⟩);go_returns;exact⟨rfl,l7,Br.out,_,_,_,_,H8.out⟩
theorem DK{s:zA}(h:1<=s.rev):s.wake=s:=by unfold zA.wake;rw[if_neg (by omega)]
theorem zat{w:World}{I:zN}{s:zA}(h:Wd l w x I a s):
  Calls prog 32 #[ptr x] w λe w'=>e=.returned (.tuple #[])/\∃l' I' a',I'.db=I.db/\qF l w l' w'/\Wd l' w' x I' a' s:=by
 obtain⟨A,ab,m,lg,hp⟩:=h.st;obtain⟨C,wb,rb,e2,e4,hB,h1,h2,h3,h4⟩:=hp.idle;obtain⟨dv,hd,hD⟩:=hB.db;have hC:C=(s.db A).bkts:=(h4 rfl).1;have hw:=DK hp.sane.pos;have:=Gx (d:=I.db) hB.bnd h.lab h.row hB.lab.2.2.2.1 hd hD (by rw[hC];exact Nat.le_refl 3) (by rw[hC];exact DC _) hp.kv hp.fine (by rw[hw];exact hp.sane);rw[hw]at this;exact this
theorem Xm(t:Nat)(W:World):(method 608 136 (ptr t) "ForceCommit").run prog W=.ok (151,ptr t) W:=by kernel_rfl
theorem dC{w:World}{I:zN}{s:zA}(h:Wd l w x I a s)(hk:o.kind=21):
  Calls prog 42 #[ptr x,o.val] w (Q_ l w x I s 0):=by
 obtain⟨ki,us,ro,pk,ke,st,np,od,nu⟩:=o;dsimp only at hk;subst hk;unfold zH.val zH.cells;dsimp only;obtain⟨c0,c1,c2,_⟩:=vX h.row;obtain⟨cc,Hc⟩:=zex (#[.int .i64 21,zb us,zb ro,.int .i64 pk,zb ke,zb st,.bool np,.int .i64 od,.bool nu]);obtain⟨w1,Hh⟩:=zex (w.alloc (.cells cc 35));have hQ:za w w1:=by rw[Hh];exact(za.refl w).alloc _
 have pM:w1.heap[w.heap.size]? =some (.cells cc 35 (0,0)):=by rw[Hh];exact zg w _
 have d1:=hQ.le _ _ c1;have g0:w1.cell? ⟨w.heap.size,0,none⟩=some (.int .i64 21):=by rw[cell_of_row w1 _ 0 _ _ (0,0) pM,Hc];rfl
 have hC:Calls prog 151 #[ptr I.be] w1 λe w'=>e=.returned (.tuple #[])/\∃l' I',I.same I'/\qF l w l' w'/\Wd l' w' x I' a s:=by obtain⟨A,ab,m,lg,hp⟩:=(h.new hQ).st;refine(ZX hp.idle).mono ?_;rintro e w' ⟨rfl,l',I',hs,hI,hi⟩;exact⟨rfl,l',I',hI,(qF.new h.st.bnd hQ).trans hs.s.w,(h.new hQ).call hs.s hI ⟨A,ab,m,lg,hp.moved hs hI hi⟩⟩
 have HC:=hid hC;have Pr:=hid Hh;have pJ:=hid Hc;have sL:=Xm I.be;clear h Hc hQ pM c0 c1 c2 hC;obtain⟨ob,p_⟩:=zex (w.heap.size);rw[<-p_]at g0;go_enter func42,ntmps42;go_upto_region 2 with fail
 rw[<-pJ.out,<-Pr.out,<-p_];clear p_ Hh;obtain⟨va,pR⟩:=zex (Value.agg cc);rw[<-pR];clear pR;go_wp2_with fail;refine HC.out.mono ?_;rintro e w2 ⟨rfl,l2,I2,RY,rj,Pe⟩;have O7:=hid (zat Pe);have TK:=hid RY;have Ph:=hid rj;clear RY rj Pe;go_wp2_with fail;refine O7.out.mono ?_;rintro e w3 ⟨rfl,l3,I3,a3,Pc,Pa,nD⟩;have Hn:=hid (show∃l' I' a',I'.db=I.db/\qF l w l' w3/\Wd l' w3 x I' a' s from⟨l3,I3,a3,Pc.trans TK.out.2.2.2,Ph.out.trans Pa,nD⟩);clear Pc Pa nD;go_wp2;go_returns;exact⟨rfl,Hn.out⟩
theorem VI(a:Nat)(W:World):(method 608 142 (ptr a) "Recover").run prog W=.ok (164,ptr a) W:=by kernel_rfl
theorem dD{w:World}{I:zN}{s:zA}(h:Wd l w x I a s)(hk:o.kind=20):
  Calls prog 42 #[ptr x,o.val] w (Q_ l w x I s 0):=by
 obtain⟨ki,us,ro,pk,ke,st,np,od,nu⟩:=o;dsimp only at hk;subst hk;unfold zH.val zH.cells;dsimp only;obtain⟨c0,c1,c2,_⟩:=vX h.row;obtain⟨cc,Hc⟩:=zex (#[.int .i64 20,zb us,zb ro,.int .i64 pk,zb ke,zb st,.bool np,.int .i64 od,.bool nu]);obtain⟨w1,Hh⟩:=zex (w.alloc (.cells cc 35));have hQ:za w w1:=by rw[Hh];exact(za.refl w).alloc _
 have pM:w1.heap[w.heap.size]? =some (.cells cc 35 (0,0)):=by rw[Hh];exact zg w _
 have d1:=hQ.le _ _ c1;have d2:=hQ.le _ _ c2;have g0:w1.cell? ⟨w.heap.size,0,none⟩=some (.int .i64 20):=by rw[cell_of_row w1 _ 0 _ _ (0,0) pM,Hc];rfl
 obtain⟨w3,pu⟩:=zex (w1.drew.alloc (.cells #[.iface 136 (ptr I.be),.pointer none] 151));have Hg:za w1 w3:=by rw[pu];exact((za.refl w1).drew).alloc _
 have hC:Calls prog 164 #[ptr a,.iface 149 (ptr w1.drew.heap.size)] w3 λe w'=>e=.returned (.tuple #[])/\(∃l' I' a',I'.db=I.db/\qF l w l' w'/\Wd l' w' x I' a' s)/\w'.cell? ⟨x,1,none⟩=some (.iface 136 (ptr I.be))/\w'.cell? ⟨x,2,none⟩=some (.iface 142 (ptr a)):=by
  have h3:=h.new (hQ.trans Hg);have S7:l w1.drew.heap.size=0:=by
   by_cases e:l w1.drew.heap.size=0
   ·exact e
   ·have h1:=h.st.bnd _ e;have h2:w1.drew.heap.size=w1.heap.size:=rfl;have:=hQ.size;omega
  refine(U0 h3.st ⟨S7,by rw[pu];exact zg w1.drew _⟩).mono ?_;rintro e w' ⟨rfl,l',hs,ht⟩;have hd:=h3.call hs (zN.same_refl I) ht;exact⟨rfl,⟨l',I,a,rfl,(qF.new h.st.bnd (hQ.trans Hg)).trans hs.w,hd⟩,(vX hd.row).2.1,(vX hd.row).2.2.1⟩
 rw[pu]at hC;have td:=hid (λW=>Gw (w:=W) (be:=I.be));have HC:=hid hC;have Pr:=hid Hh;have pJ:=hid Hc;have sL:=VI a;clear h Hc hQ pM c0 c1 c2 hC pu Hg;obtain⟨ob,p_⟩:=zex (w.heap.size);rw[<-p_]at g0;go_enter func42,ntmps42;go_upto_region 2 with fail
 rw[<-pJ.out,<-Pr.out,<-p_];clear p_ Hh;obtain⟨va,pR⟩:=zex (Value.agg cc);rw[<-pR];clear pR;go_wp2_with fail;go_region_held3 (λw'=>w'.cell? ⟨x,1,none⟩=some (.iface 136 (ptr I.be))/\w'.cell? ⟨x,2,none⟩=some (.iface 142 (ptr a))) (go_keep) (first|(go_at_call 40;((with_reducible refine(td.out _).mono ?_));rintro e w9 ⟨rfl,rfl⟩)|(go_at_call 164;refine HC.out.mono ?_;rintro e w9 ⟨rfl,Hk,k1,k2⟩;have Hn:=hid Hk;clear Hk))
 all_goals
  go_wp2;go_returns;exact⟨rfl,Hn.out⟩
theorem DL{w:World}{I:zN}{s:zA}(h:Wd l w x I a s)(hk:1<=o.kind/\o.kind<=21/\o.kind≠7/\o.kind≠8/\o.kind≠11/\(o.kind<13\/19<o.kind))(nR:ec<=15)
  (hC:∀L W,Wd L W x I a s->Calls prog 42 #[ptr x,o.val] W (Q_ L W x I s' ec)):
  Calls prog 33 #[ptr x,o.val] w (fR l w x I (s',⟨ec,s'.rev,s'.on,false,[],[]⟩)):=by
 obtain⟨ki,us,ro,pk,ke,st,np,od,nu⟩:=o;dsimp only at hk;unfold zH.val zH.cells at hC⊢;dsimp only at hC⊢;have e7:(ki==7)=false:=by simp;omega
 have e8:(ki==8)=false:=by simp;omega
 have e13:(ki==13)=false:=by simp;omega
 have e14:(ki==14)=false:=by simp;omega
 have e15:(ki==15)=false:=by simp;omega
 have e16:(ki==16)=false:=by simp;omega
 have e17:(ki==17)=false:=by simp;omega
 have e18:(ki==18)=false:=by simp;omega
 have e19:(ki==19)=false:=by simp;omega
 have e11:(ki==11)=false:=by simp;omega
 have e1:decide (ki<1)=false:=by simp;omega
 have e21:decide (21<ki)=false:=by simp;omega
 obtain⟨sx,Ht⟩:∃z,zb us=.string z:=⟨_,rfl⟩;obtain⟨rx,Pj⟩:∃z,zb ro=.string z:=⟨_,rfl⟩;obtain⟨kx,rH⟩:∃z,zb ke=.string z:=⟨_,rfl⟩;obtain⟨tx,htx⟩:∃z,zb st=.string z:=⟨_,rfl⟩;obtain⟨cc,Hc⟩:=zex (#[.int .i64 ki,zb us,zb ro,.int .i64 pk,zb ke,zb st,.bool np,.int .i64 od,.bool nu]);obtain⟨l1,H⟩:=yV.start h cc;obtain⟨W0,py⟩:=zex (((w.alloc (.cells cc 35)).alloc (.cells qQ 42)).alloc (.cells qQ 42));rw[<-py]at H;have c2:=H.cell;have g0:W0.cell? ⟨w.heap.size,0,none⟩=some (.int .i64 ki):=(H.ocell 0).trans (by rw[Hc];rfl);have Hz:cc= #[.int .i64 ki,.string sx,.string rx,.int .i64 pk,.string kx,.string tx,.bool np,.int .i64 od,.bool nu]:=by rw[Hc,Ht,Pj,rH,htx]
 have v0:=(H.ocell 0).trans (show cc[0]? =some (.int .i64 ki)from by rw[Hz];rfl);have v1:=(H.ocell 1).trans (show cc[1]? =some (.string sx)from by rw[Hz];rfl);have v2:=(H.ocell 2).trans (show cc[2]? =some (.string rx)from by rw[Hz];rfl);have v3:=(H.ocell 3).trans (show cc[3]? =some (.int .i64 pk)from by rw[Hz];rfl);have v4:=(H.ocell 4).trans (show cc[4]? =some (.string kx)from by rw[Hz];rfl);have v5:=(H.ocell 5).trans (show cc[5]? =some (.string tx)from by rw[Hz];rfl);have v6:=(H.ocell 6).trans (show cc[6]? =some (.bool np)from by rw[Hz];rfl);have v7:=(H.ocell 7).trans (show cc[7]? =some (.int .i64 od)from by rw[Hz];rfl);have v8:=(H.ocell 8).trans (show cc[8]? =some (.bool nu)from by rw[Hz];rfl);rw[<-Hc,Hz]at hC;have HC:=hid (hC l1 W0 H.wd);have tO:=hid nR;have HH:=hid H;have rR:=hid py;have pJ:=hid Hc;have m1:=qa;have m2:=qt;clear h Hc py H hC hk nR Hz Ht Pj rH htx
 go_enter func33,ntmps33;go_upto_region 3 with fail
 rw[<-pJ.out,<-(show qQ= #[.int .i64 0,.int .u64 0,.bool false,.bool false,.slice none 0 0,.slice none 0 0]from rfl),<-rR.out];obtain⟨va,pR⟩:=zex (Value.agg cc);obtain⟨vz,RD⟩:=zex (Value.agg qQ);rw[<-pR,<-RD];clear pR RD;go_wp2_with fail;refine HC.out.mono ?_;rintro e w2 ⟨rfl,l2,I2,a2,rE,rj,Pe⟩;have H2:=hid (HH.out.wcall rE rj Pe);clear rE rj Pe c2 g0 v0 v1 v2 v3 v4 v5 v6 v7 v8;obtain⟨W3,PD⟩:=zex (w2.setCell ⟨w.heap.size+1+1,0,none⟩ (.int .i64 (ec:Nat)));have h3:=H2.out.setErr (ec);rw[<-PD]at h3;obtain⟨W4,PJ⟩:=zex (W3.setCell ⟨w.heap.size+1+1,1,none⟩ (.int .u64 (s'.rev:Nat)));have h4:=h3.setRev s'.rev;rw[<-PJ]at h4;obtain⟨W5,P4⟩:=zex (W4.setCell ⟨w.heap.size+1+1,2,none⟩ (.bool s'.on));have h5:=h4.setOn s'.on;rw[<-P4]at h5;have a0:=H2.out.acell 0;have z0:=H2.out.afree 0;have b0:W3.cell? ⟨w.heap.size,0,none⟩=some (.int .i64 ki):=(h3.ocell 0).trans (by rw[pJ.out];rfl)
 have HK:=hid (vm (w:=w2) tO.out);have HR:=hid h3.rev;have HO:=hid h4.on;have H3:=hid h3;have H4:=hid h4;have H5:=hid h5;have Rn:=hid PD;have sQ:=hid PJ;have s7:=hid P4;clear h3 h4 h5 PD PJ P4;have a0:w2.cell? ⟨w.heap.size+1+1,0,none⟩=some (.int .i64 0):=a0;go_wp2_with fail;refine HK.out.mono ?_;rintro e w9 ⟨rfl,rfl⟩;go_upto_region 38 with fail
 rw[<-Rn.out];clear a0 z0;have q2:=H3.out.cell;have a1:W3.cell? ⟨w.heap.size+1+1,1,none⟩=some (.int .u64 0):=H3.out.acell 1;have z1:=H3.out.afree 1;go_wp2_with fail;refine HR.out.mono ?_;rintro e w9 ⟨rfl,rfl⟩;go_upto_region 41 with fail
 rw[<-sQ.out];clear q2 a1 z1;have q2:=H4.out.cell;have a2:W4.cell? ⟨w.heap.size+1+1,2,none⟩=some (.bool false):=H4.out.acell 2;have z2:=H4.out.afree 2;go_wp2_with fail;refine HO.out.mono ?_;rintro e w9 ⟨rfl,rfl⟩;go_upto_region 42 with fail
 rw[<-s7.out];clear q2 a2 z2;have k0:=H5.out.acell 0;have r0:=H5.out.rcell 0;have f0:=H5.out.rfree 0;have k1:=H5.out.acell 1;have r1:=H5.out.rcell 1;have f1:=H5.out.rfree 1;have k2:=H5.out.acell 2;have r2:=H5.out.rcell 2;have f2:=H5.out.rfree 2;have k3:=H5.out.acell 3;have r3:=H5.out.rcell 3;have f3:=H5.out.rfree 3;have k4:=H5.out.acell 4;have r4:=H5.out.rcell 4;have f4:=H5.out.rfree 4;have k5:=H5.out.acell 5;have r5:=H5.out.rcell 5;have f5:=H5.out.rfree 5;simp only[xF,qQ,Kj,ja,List.getElem?_toArray,List.getElem?_cons_zero,List.getElem?_cons_succ]at k0 k1 k2 k3 k4 k5 r0 r1 r2 r3 r4 r5;go_wp2;exact H5.out.leave rfl rfl rfl
theorem zax{w:World}{I:zN}{s:zA}(h:Wd l w x I a s)(hk:o.kind=11)(Nx:0<=o.pk)(rm:o.pk<=2)(nR:ec<=15)
  (hC:∀L W,Wd L W x I a s->Calls prog 42 #[ptr x,o.val] W (Q_ L W x I s' ec)):
  Calls prog 33 #[ptr x,o.val] w (fR l w x I (s',⟨ec,s'.rev,s'.on,false,[],[]⟩)):=by
 obtain⟨ki,us,ro,pk,ke,st,np,od,nu⟩:=o;dsimp only at hk Nx rm;subst hk;unfold zH.val zH.cells at hC⊢;dsimp only at hC⊢;have e0:decide (pk<0)=false:=by simp;omega
 have e2:decide (2<pk)=false:=by simp;omega
 obtain⟨sx,Ht⟩:∃z,zb us=.string z:=⟨_,rfl⟩;obtain⟨rx,Pj⟩:∃z,zb ro=.string z:=⟨_,rfl⟩;obtain⟨kx,rH⟩:∃z,zb ke=.string z:=⟨_,rfl⟩;obtain⟨tx,htx⟩:∃z,zb st=.string z:=⟨_,rfl⟩;obtain⟨cc,Hc⟩:=zex (#[.int .i64 11,zb us,zb ro,.int .i64 pk,zb ke,zb st,.bool np,.int .i64 od,.bool nu]);obtain⟨l1,H⟩:=yV.start h cc;obtain⟨W0,py⟩:=zex (((w.alloc (.cells cc 35)).alloc (.cells qQ 42)).alloc (.cells qQ 42));rw[<-py]at H;have c2:=H.cell;have g0:W0.cell? ⟨w.heap.size,0,none⟩=some (.int .i64 11):=(H.ocell 0).trans (by rw[Hc];rfl);have Hz:cc= #[.int .i64 11,.string sx,.string rx,.int .i64 pk,.string kx,.string tx,.bool np,.int .i64 od,.bool nu]:=by rw[Hc,Ht,Pj,rH,htx]
 have v0:=(H.ocell 0).trans (show cc[0]? =some (.int .i64 11)from by rw[Hz];rfl);have v1:=(H.ocell 1).trans (show cc[1]? =some (.string sx)from by rw[Hz];rfl);have v2:=(H.ocell 2).trans (show cc[2]? =some (.string rx)from by rw[Hz];rfl);have v3:=(H.ocell 3).trans (show cc[3]? =some (.int .i64 pk)from by rw[Hz];rfl);have v4:=(H.ocell 4).trans (show cc[4]? =some (.string kx)from by rw[Hz];rfl);have v5:=(H.ocell 5).trans (show cc[5]? =some (.string tx)from by rw[Hz];rfl);have v6:=(H.ocell 6).trans (show cc[6]? =some (.bool np)from by rw[Hz];rfl);have v7:=(H.ocell 7).trans (show cc[7]? =some (.int .i64 od)from by rw[Hz];rfl);have v8:=(H.ocell 8).trans (show cc[8]? =some (.bool nu)from by rw[Hz];rfl);rw[<-Hc,Hz]at hC;have HC:=hid (hC l1 W0 H.wd);have tO:=hid nR;have HH:=hid H;have rR:=hid py;have pJ:=hid Hc;have m1:=qa;have m2:=qt;clear h Hc py H hC nR Hz Ht Pj rH htx;go_enter func33,ntmps33
 go_upto_region 3 with fail
 rw[<-pJ.out,<-(show qQ= #[.int .i64 0,.int .u64 0,.bool false,.bool false,.slice none 0 0,.slice none 0 0]from rfl),<-rR.out];obtain⟨va,pR⟩:=zex (Value.agg cc);obtain⟨vz,RD⟩:=zex (Value.agg qQ);rw[<-pR,<-RD];clear pR RD;go_wp2_with fail;refine HC.out.mono ?_;rintro e w2 ⟨rfl,l2,I2,a2,rE,rj,Pe⟩;have H2:=hid (HH.out.wcall rE rj Pe);clear rE rj Pe c2 g0 v0 v1 v2 v3 v4 v5 v6 v7 v8;obtain⟨W3,PD⟩:=zex (w2.setCell ⟨w.heap.size+1+1,0,none⟩ (.int .i64 (ec:Nat)));have h3:=H2.out.setErr (ec);rw[<-PD]at h3;obtain⟨W4,PJ⟩:=zex (W3.setCell ⟨w.heap.size+1+1,1,none⟩ (.int .u64 (s'.rev:Nat)));have h4:=h3.setRev s'.rev;rw[<-PJ]at h4;obtain⟨W5,P4⟩:=zex (W4.setCell ⟨w.heap.size+1+1,2,none⟩ (.bool s'.on));have h5:=h4.setOn s'.on;rw[<-P4]at h5;have a0:=H2.out.acell 0;have z0:=H2.out.afree 0;have b0:W3.cell? ⟨w.heap.size,0,none⟩=some (.int .i64 11):=(h3.ocell 0).trans (by rw[pJ.out];rfl)
 have b3:W3.cell? ⟨w.heap.size,3,none⟩=some (.int .i64 pk):=(h3.ocell 3).trans (by rw[pJ.out];rfl);have HK:=hid (vm (w:=w2) tO.out);have HR:=hid h3.rev;have HO:=hid h4.on;have H3:=hid h3;have H4:=hid h4;have H5:=hid h5;have Rn:=hid PD;have sQ:=hid PJ;have s7:=hid P4;clear h3 h4 h5 PD PJ P4;have a0:w2.cell? ⟨w.heap.size+1+1,0,none⟩=some (.int .i64 0):=a0;go_wp2_with fail;refine HK.out.mono ?_;rintro e w9 ⟨rfl,rfl⟩;go_upto_region 38 with fail
 rw[<-Rn.out];clear a0 z0;have q2:=H3.out.cell;have a1:W3.cell? ⟨w.heap.size+1+1,1,none⟩=some (.int .u64 0):=H3.out.acell 1;have z1:=H3.out.afree 1;go_wp2_with fail;refine HR.out.mono ?_;rintro e w9 ⟨rfl,rfl⟩;go_upto_region 41 with fail
 rw[<-sQ.out];clear q2 a1 z1;have q2:=H4.out.cell;have a2:W4.cell? ⟨w.heap.size+1+1,2,none⟩=some (.bool false):=H4.out.acell 2;have z2:=H4.out.afree 2;go_wp2_with fail;refine HO.out.mono ?_;rintro e w9 ⟨rfl,rfl⟩;go_upto_region 42 with fail
 rw[<-s7.out];clear q2 a2 z2;have k0:=H5.out.acell 0;have r0:=H5.out.rcell 0;have f0:=H5.out.rfree 0;have k1:=H5.out.acell 1;have r1:=H5.out.rcell 1;have f1:=H5.out.rfree 1;have k2:=H5.out.acell 2;have r2:=H5.out.rcell 2;have f2:=H5.out.rfree 2;have k3:=H5.out.acell 3;have r3:=H5.out.rcell 3;have f3:=H5.out.rfree 3;have k4:=H5.out.acell 4;have r4:=H5.out.rcell 4;have f4:=H5.out.rfree 4;have k5:=H5.out.acell 5;have r5:=H5.out.rcell 5;have f5:=H5.out.rfree 5;simp only[xF,qQ,Kj,ja,List.getElem?_toArray,List.getElem?_cons_zero,List.getElem?_cons_succ]at k0 k1 k2 k3 k4 k5 r0 r1 r2 r3 r4 r5;go_wp2;exact H5.out.leave rfl rfl rfl
theorem Kk(a:Nat)(W:World):(method 608 142 (ptr a) "UserList").run prog W=.ok (175,ptr a) W:=by kernel_rfl
theorem zbO{w:World}{I:zN}{s:zA}(h:Wd l w x I a s)(hk:o.kind=8):
  Calls prog 33 #[ptr x,o.val] w (fR l w x I (s,⟨0,s.rev,s.on,false,s.users.map (·.name),[]⟩)):=by
 obtain⟨ki,us,ro,pk,ke,st,np,od,nu⟩:=o;dsimp only at hk;subst hk;unfold zH.val zH.cells;dsimp only;obtain⟨cc,Hc⟩:=zex (#[.int .i64 8,zb us,zb ro,.int .i64 pk,zb ke,zb st,.bool np,.int .i64 od,.bool nu]);obtain⟨l1,H⟩:=yV.start h cc;obtain⟨W0,py⟩:=zex (((w.alloc (.cells cc 35)).alloc (.cells qQ 42)).alloc (.cells qQ 42));rw[<-py]at H;have c2:=H.cell;have g0:W0.cell? ⟨w.heap.size,0,none⟩=some (.int .i64 8):=(H.ocell 0).trans (by rw[Hc];rfl);have hQ:za W0 (W0.alloc (.cells #[] 100)):=(za.refl W0).alloc _;have H1:=H.new hQ;have HC:=hid (H.names hQ (fC H1.wd.st (rb:=W0.heap.size)));have HH:=hid H;have rR:=hid py;have pJ:=hid Hc;have m1:=qa;have m2:=qt;have m3:=Kk a;clear h Hc py H H1 hQ;go_enter func33,ntmps33;go_upto_region 3 with fail
 rw[<-pJ.out,<-(show qQ= #[.int .i64 0,.int .u64 0,.bool false,.bool false,.slice none 0 0,.slice none 0 0]from rfl),<-rR.out];obtain⟨va,pR⟩:=zex (Value.agg cc);obtain⟨vz,RD⟩:=zex (Value.agg qQ);rw[<-pR,<-RD];clear pR RD;go_wp2_with fail;refine HC.out.mono ?_;rintro e w2 ⟨b,p,n,c,rfl,⟨l2,I2,h2,pW⟩,d0,d4,z4⟩;obtain⟨W2,nS⟩:=zex (w2.setCell ⟨w.heap.size+1+1,4,none⟩ (.slice p n c));have NJ:=h2.setNames pW;rw[<-nS]at NJ;have H2:=hid NJ;have lj:=hid nS;unfold ja at d4;clear h2 NJ pW nS c2 g0;go_upto_region 37 with fail
 rw[<-lj.out];obtain⟨ec,rP⟩:∃e:Nat,e=0:=⟨_,rfl⟩;have Tz:=hid rP;have tO:=hid (show ec<=15 by omega);have TA:=hid (show ze ec=.nilIface from by rw[rP];rfl);clear rP;obtain⟨W3,PD⟩:=zex (W2.setCell ⟨w.heap.size+1+1,0,none⟩ (.int .i64 (ec:Nat)));have h3:=H2.out.setErr (ec);rw[<-PD]at h3;obtain⟨W4,PJ⟩:=zex (W3.setCell ⟨w.heap.size+1+1,1,none⟩ (.int .u64 (s.rev:Nat)));have h4:=h3.setRev s.rev;rw[<-PJ]at h4;obtain⟨W5,P4⟩:=zex (W4.setCell ⟨w.heap.size+1+1,2,none⟩ (.bool s.on));have h5:=h4.setOn s.on;rw[<-P4]at h5;have a0:=H2.out.acell 0;have z0:=H2.out.afree 0;have b0:W3.cell? ⟨w.heap.size,0,none⟩=some (.int .i64 8):=(h3.ocell 0).trans (by rw[pJ.out];rfl);have HK:=hid (show Calls prog 43 #[.nilIface] W2 _ from by rw[<-TA.out];exact vm (w:=W2) tO.out);have HR:=hid h3.rev;have HO:=hid h4.on;have H3:=hid h3;have H4:=hid h4;have H5:=hid h5;have Rn:=hid PD;have sQ:=hid PJ;have s7:=hid P4
 clear h3 h4 h5 PD PJ P4;have a0:W2.cell? ⟨w.heap.size+1+1,0,none⟩=some (.int .i64 0):=a0;go_wp2_with fail;refine HK.out.mono ?_;rintro e w9 ⟨rfl,rfl⟩;go_upto_region 38 with fail
 rw[<-Rn.out];clear a0 z0;have q2:=H3.out.cell;have a1:W3.cell? ⟨w.heap.size+1+1,1,none⟩=some (.int .u64 0):=H3.out.acell 1;have z1:=H3.out.afree 1;go_wp2_with fail;refine HR.out.mono ?_;rintro e w9 ⟨rfl,rfl⟩;go_upto_region 41 with fail
 rw[<-sQ.out];clear q2 a1 z1;have q2:=H4.out.cell;have a2:W4.cell? ⟨w.heap.size+1+1,2,none⟩=some (.bool false):=H4.out.acell 2;have z2:=H4.out.afree 2;go_wp2_with fail;refine HO.out.mono ?_;rintro e w9 ⟨rfl,rfl⟩;go_upto_region 42 with fail
 rw[<-s7.out];clear q2 a2 z2;have k0:=H5.out.acell 0;have r0:=H5.out.rcell 0;have f0:=H5.out.rfree 0;have k1:=H5.out.acell 1;have r1:=H5.out.rcell 1;have f1:=H5.out.rfree 1;have k2:=H5.out.acell 2;have r2:=H5.out.rcell 2;have f2:=H5.out.rfree 2;have k3:=H5.out.acell 3;have r3:=H5.out.rcell 3;have f3:=H5.out.rfree 3;have k4:=H5.out.acell 4;have r4:=H5.out.rcell 4;have f4:=H5.out.rfree 4;have k5:=H5.out.acell 5;have r5:=H5.out.rcell 5;have f5:=H5.out.rfree 5;simp only[xF,qQ,Kj,ja,List.getElem?_toArray,List.getElem?_cons_zero,List.getElem?_cons_succ]at k0 k1 k2 k3 k4 k5 r0 r1 r2 r3 r4 r5;go_wp2;exact H5.out.leave (by rw[Tz.out];rfl) rfl rfl
theorem Zv(a:Nat)(W:World):(method 608 142 (ptr a) "IsAdminPermitted").run prog W=.ok (159,ptr a) W:=by kernel_rfl
theorem zaH{w:World}{I:zN}{s:zA}(h:Wd l w x I a s)(hk:o.kind=18)(h0:0<=o.old)(h1:o.old<=1)(hn:o.who.length<=1000)(nR:ec<=15)(hv:ec=Qy s o.who):
  Calls prog 33 #[ptr x,o.val] w (fR l w x I (s,⟨ec,s.rev,s.on,false,[],[]⟩)):=by
 obtain⟨wh,TB⟩:=zex (o.who);obtain⟨rv,sB⟩:=zex (o.rv s);have pZ:rv<=1000:=by obtain⟨A,ab,m,lg,hp⟩:=h.st;have:=hp.fine.rev;rw[sB];unfold zH.rv;split<;>omega
 rw[<-TB]at hn;rw[<-TB]at hv;have hA:∀L W,Wd L W x I a s->Calls prog 41 #[ptr x,o.val] W λe w'=>∃ib,e=.returned (ptr ib)/\za W w'/\W.heap.size<=ib/\vj w' ib wh rv:=λL W hW=>by rw[TB,sB];exact Y4 hW h0 h1
 obtain⟨ki,us,ro,pk,ke,st,np,od,nu⟩:=o;dsimp only at hk;subst hk;unfold zH.val zH.cells at hA⊢;dsimp only at hA⊢;obtain⟨sx,Ht⟩:∃z,zb us=.string z:=⟨_,rfl⟩;obtain⟨rx,Pj⟩:∃z,zb ro=.string z:=⟨_,rfl⟩;obtain⟨kx,rH⟩:∃z,zb ke=.string z:=⟨_,rfl⟩;obtain⟨tx,htx⟩:∃z,zb st=.string z:=⟨_,rfl⟩;obtain⟨cc,Hc⟩:=zex (#[.int .i64 18,zb us,zb ro,.int .i64 pk,zb ke,zb st,.bool np,.int .i64 od,.bool nu]);obtain⟨l1,H⟩:=yV.start h cc;obtain⟨W0,py⟩:=zex (((w.alloc (.cells cc 35)).alloc (.cells qQ 42)).alloc (.cells qQ 42));rw[<-py]at H;have c2:=H.cell;have g0:W0.cell? ⟨w.heap.size,0,none⟩=some (.int .i64 18):=(H.ocell 0).trans (by rw[Hc];rfl);have Hz:cc= #[.int .i64 18,.string sx,.string rx,.int .i64 pk,.string kx,.string tx,.bool np,.int .i64 od,.bool nu]:=by rw[Hc,Ht,Pj,rH,htx]
 have NK:∀l2 W I2,yV l w x I cc l2 W I2 a s Kj ja ja->W.cell? ⟨x,2,none⟩=some (.iface 142 (ptr a))/\W.cell? ⟨w.heap.size,0,none⟩=some (.int .i64 18)/\W.cell? ⟨w.heap.size,1,none⟩=some (.string sx)/\W.cell? ⟨w.heap.size,2,none⟩=some (.string rx)/\W.cell? ⟨w.heap.size,3,none⟩=some (.int .i64 pk)/\W.cell? ⟨w.heap.size,4,none⟩=some (.string kx)/\W.cell? ⟨w.heap.size,5,none⟩=some (.string tx)/\W.cell? ⟨w.heap.size,6,none⟩=some (.bool np)/\W.cell? ⟨w.heap.size,7,none⟩=some (.int .i64 od)/\W.cell? ⟨w.heap.size,8,none⟩=some (.bool nu):=λl2 W I2 hw=>
  ⟨hw.cell,(hw.ocell 0).trans (by rw[Hz];rfl),(hw.ocell 1).trans (by rw[Hz];rfl),(hw.ocell 2).trans (by rw[Hz];rfl),(hw.ocell 3).trans (by rw[Hz];rfl),(hw.ocell 4).trans (by rw[Hz];rfl),(hw.ocell 5).trans (by rw[Hz];rfl),(hw.ocell 6).trans (by rw[Hz];rfl),(hw.ocell 7).trans (by rw[Hz];rfl),(hw.ocell 8).trans (by rw[Hz];rfl)⟩
 have hS:∀W,za W0 W->W.cell? ⟨x,2,none⟩=some (.iface 142 (ptr a))/\W.cell? ⟨w.heap.size,0,none⟩=some (.int .i64 18)/\W.cell? ⟨w.heap.size,1,none⟩=some (.string sx)/\W.cell? ⟨w.heap.size,2,none⟩=some (.string rx)/\W.cell? ⟨w.heap.size,3,none⟩=some (.int .i64 pk)/\W.cell? ⟨w.heap.size,4,none⟩=some (.string kx)/\W.cell? ⟨w.heap.size,5,none⟩=some (.string tx)/\W.cell? ⟨w.heap.size,6,none⟩=some (.bool np)/\W.cell? ⟨w.heap.size,7,none⟩=some (.int .i64 od)/\W.cell? ⟨w.heap.size,8,none⟩=some (.bool nu):=λW hW=>NK _ _ _ (H.new hW)
 have hP:∀(W:World) (ib:Nat),za W0 W->vj W ib wh rv->Calls prog 159 #[ptr a,ptr ib] W λe w'=>e=.returned (ze ec)/\(∃l2 I2,yV l w x I cc l2 w' I2 a s Kj ja ja)/\w'.cell? ⟨x,2,none⟩=some (.iface 142 (ptr a))/\w'.cell? ⟨w.heap.size,0,none⟩=some (.int .i64 18)/\w'.cell? ⟨w.heap.size,1,none⟩=some (.string sx)/\w'.cell? ⟨w.heap.size,2,none⟩=some (.string rx)/\w'.cell? ⟨w.heap.size,3,none⟩=some (.int .i64 pk)/\w'.cell? ⟨w.heap.size,4,none⟩=some (.string kx)/\w'.cell? ⟨w.heap.size,5,none⟩=some (.string tx)/\w'.cell? ⟨w.heap.size,6,none⟩=some (.bool np)/\w'.cell? ⟨w.heap.size,7,none⟩=some (.int .i64 od)/\w'.cell? ⟨w.heap.size,8,none⟩=some (.bool nu):=λW ib pq Rs=>by have hw:=H.new pq;rw[hv];refine(H.asks pq (Uv hw.wd.st Rs hn)).mono ?_;rintro e w' ⟨rfl,l2,I2,h2⟩;exact⟨rfl,⟨l2,I2,h2⟩,NK _ _ _ h2⟩
 rw[<-Hc,Hz]at hA;have HP:=hid hP;have HA:=hid (λW (hW:za W0 W)=>hA l1 W (H.wd.new hW));have HS:=hid hS;have tO:=hid nR;have pX:za W0 W0.drew:=(za.refl W0).drew;have hS0:=hS W0 (za.refl W0);have bo:=hS W0.drew pX;have HH:=hid H;have rR:=hid py;have pJ:=hid Hc;have m1:=qa;have m2:=qt;have m3:=Zv a;clear h Hc py H hn TB sB pZ hA hS NK hP nR hv h0 h1 Ht Pj rH htx Hz;go_enter func33,ntmps33;go_upto_region 3 with fail
 rw[<-pJ.out,<-(show qQ= #[.int .i64 0,.int .u64 0,.bool false,.bool false,.slice none 0 0,.slice none 0 0]from rfl),<-rR.out];obtain⟨va,pR⟩:=zex (Value.agg cc);obtain⟨vz,RD⟩:=zex (Value.agg qQ);rw[<-pR,<-RD];clear pR RD;have sM:=HS.out W0 (za.refl W0);go_wp2_with fail
 go_region_held (λw'=>w'.cell? ⟨x,2,none⟩=some (.iface 142 (ptr a))/\w'.cell? ⟨w.heap.size,0,none⟩=some (.int .i64 18)/\w'.cell? ⟨w.heap.size,1,none⟩=some (.string sx)/\w'.cell? ⟨w.heap.size,2,none⟩=some (.string rx)/\w'.cell? ⟨w.heap.size,3,none⟩=some (.int .i64 pk)/\w'.cell? ⟨w.heap.size,4,none⟩=some (.string kx)/\w'.cell? ⟨w.heap.size,5,none⟩=some (.string tx)/\w'.cell? ⟨w.heap.size,6,none⟩=some (.bool np)/\w'.cell? ⟨w.heap.size,7,none⟩=some (.int .i64 od)/\w'.cell? ⟨w.heap.size,8,none⟩=some (.bool nu)) (first|assumption|go_keep) (first|(go_at_call 41;((with_reducible refine(HA.out _ pX).mono ?_));rintro e w3 ⟨ib,rfl,Hg,pD,rI⟩;have Mq:=HS.out w3 (pX.trans Hg);have sX:=hid (HP.out w3 ib (pX.trans Hg) rI);clear Hg pD rI)|(go_at_call 159;refine sX.out.mono ?_;rintro e w9 ⟨rfl,Hk,EC⟩;have Hn:=hid Hk;clear Hk))
 all_goals
  obtain⟨l2,I2,h2⟩:=Hn.out;have H2:=hid h2;clear h2 Hn EC;obtain⟨W3,PD⟩:=zex (w9.setCell ⟨w.heap.size+1+1,0,none⟩ (.int .i64 (ec:Nat)));have h3:=H2.out.setErr (ec);rw[<-PD]at h3;obtain⟨W4,PJ⟩:=zex (W3.setCell ⟨w.heap.size+1+1,1,none⟩ (.int .u64 (s.rev:Nat)));have h4:=h3.setRev s.rev;rw[<-PJ]at h4;obtain⟨W5,P4⟩:=zex (W4.setCell ⟨w.heap.size+1+1,2,none⟩ (.bool s.on));have h5:=h4.setOn s.on;rw[<-P4]at h5;have a0:=H2.out.acell 0;have z0:=H2.out.afree 0;have b0:W3.cell? ⟨w.heap.size,0,none⟩=some (.int .i64 18):=(h3.ocell 0).trans (by rw[pJ.out];rfl);have HK:=hid (vm (w:=w9) tO.out);have HR:=hid h3.rev;have HO:=hid h4.on;have H3:=hid h3;have H4:=hid h4;have H5:=hid h5;have Rn:=hid PD;have sQ:=hid PJ;have s7:=hid P4;clear h3 h4 h5 PD PJ P4;have a0:w9.cell? ⟨w.heap.size+1+1,0,none⟩=some (.int .i64 0):=a0;go_wp2_with fail;refine HK.out.mono ?_;rintro e w9 ⟨rfl,rfl⟩;go_upto_region 38 with fail
  rw[<-Rn.out];clear a0 z0;have q2:=H3.out.cell;have a1:W3.cell? ⟨w.heap.size+1+1,1,none⟩=some (.int .u64 0):=H3.out.acell 1;have z1:=H3.out.afree 1;go_wp2_with fail;refine HR.out.mono ?_;rintro e w9 ⟨rfl,rfl⟩;go_upto_region 41 with fail
  rw[<-sQ.out];clear q2 a1 z1;have q2:=H4.out.cell;have a2:W4.cell? ⟨w.heap.size+1+1,2,none⟩=some (.bool false):=H4.out.acell 2;have z2:=H4.out.afree 2;go_wp2_with fail;refine HO.out.mono ?_;rintro e w9 ⟨rfl,rfl⟩;go_upto_region 42 with fail
  rw[<-s7.out];clear q2 a2 z2;have k0:=H5.out.acell 0;have r0:=H5.out.rcell 0;have f0:=H5.out.rfree 0;have k1:=H5.out.acell 1;have r1:=H5.out.rcell 1;have f1:=H5.out.rfree 1;have k2:=H5.out.acell 2;have r2:=H5.out.rcell 2;have f2:=H5.out.rfree 2;have k3:=H5.out.acell 3;have r3:=H5.out.rcell 3;have f3:=H5.out.rfree 3;have k4:=H5.out.acell 4;have r4:=H5.out.rcell 4;have f4:=H5.out.rfree 4;have k5:=H5.out.acell 5;have r5:=H5.out.rcell 5;have f5:=H5.out.rfree 5;simp only[xF,qQ,Kj,ja,List.getElem?_toArray,List.getElem?_cons_zero,List.getElem?_cons_succ]at k0 k1 k2 k3 k4 k5 r0 r1 r2 r3 r4 r5;go_wp2;exact H5.out.leave rfl rfl rfl
end Go.Proofs.YtbmdoinjkligiaaGreat
