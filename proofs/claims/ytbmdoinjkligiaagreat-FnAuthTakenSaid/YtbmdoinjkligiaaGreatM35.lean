/- Contracts and laws that the last text joins. -/
import Derived.Test.YtbmdoinjkligiaaGreatM28
import Derived.Test.YtbmdoinjkligiaaGreatM29
import Derived.Test.YtbmdoinjkligiaaGreatM30
import Derived.Test.YtbmdoinjkligiaaGreatM31
import Derived.Test.YtbmdoinjkligiaaGreatM32
import Derived.Test.YtbmdoinjkligiaaGreatM33
import Derived.Test.YtbmdoinjkligiaaGreatM34
set_option maxRecDepth 100000
set_option maxHeartbeats 40000000
set_option linter.all false
namespace Go.Proofs.YtbmdoinjkligiaaGreat
open Go.Proofs.Tryz Tryz
open Lib(hid)
open Go.RowKit
theorem QE(a:Nat)(W:World):(method 608 142 (ptr a) "UserGrantRole").run prog W=.ok (174,ptr a) W:=by kernel_rfl
variable{a ec x:Nat}{l:zu}{o:zH}{s':zA}
theorem fk{w:World}{I:zN}{s:zA}(h:Wd l w x I a s)(hk:o.kind=5)(hr:xC s o.user o.role=(s',ec))(hn:o.user.length<=1000)(LO:o.role.length<=1000)(hf:q9 s')(hs:yA s')(Ee:yA s):
  Calls prog 42 #[ptr x,o.val] w (Q_ l w x I s' ec):=by
 obtain⟨ki,us,ro,pk,ke,st,np,od,nu⟩:=o;dsimp only at hk hr hn LO;subst hk;unfold zH.val zH.cells;dsimp only;have RW:=Ee;obtain⟨c0,c1,c2,_⟩:=vX h.row;obtain⟨sx,Ht⟩:∃z,zb us=.string z:=⟨_,rfl⟩;obtain⟨rx,Pj⟩:∃z,zb ro=.string z:=⟨_,rfl⟩;obtain⟨cc,Hc⟩:=zex (#[.int .i64 5,zb us,zb ro,.int .i64 pk,zb ke,zb st,.bool np,.int .i64 od,.bool nu]);obtain⟨w1,Hh⟩:=zex (w.alloc (.cells cc 35));have hQ:za w w1:=by rw[Hh];exact(za.refl w).alloc _
 have pI:w1.heap.size=w.heap.size+1:=by rw[Hh];exact Array.size_push ..
 have pM:w1.heap[w.heap.size]? =some (.cells cc 35 (0,0)):=by rw[Hh];exact zg w _
 have d2:=hQ.le _ _ c2;have g0:w1.cell? ⟨w.heap.size,0,none⟩=some (.int .i64 5):=by rw[cell_of_row w1 _ 0 _ _ (0,0) pM,Hc];rfl
 have g1:w1.cell? ⟨w.heap.size,1,none⟩=some (.string sx):=by rw[cell_of_row w1 _ 1 _ _ (0,0) pM,Hc,Ht];rfl
 have g2:w1.cell? ⟨w.heap.size,2,none⟩=some (.string rx):=by rw[cell_of_row w1 _ 2 _ _ (0,0) pM,Hc,Pj];rfl
 obtain⟨w3,pu⟩:=zex (w1.alloc (.cells #[.string sx,.string rx] 174));have Hg:za w1 w3:=by rw[pu];exact(za.refl w1).alloc _
 have sG:w3.heap[w1.heap.size]? =some (.cells #[.string sx,.string rx] 174 (0,0)):=by rw[pu];exact zg w1 _
 have He:=hQ.trans Hg;have sO:l w.heap.size=0:=by
  by_cases e:l w.heap.size=0
  ·exact e
  ·have:=h.st.bnd _ e;omega
 have PZ: ¬l.some w1.heap.size:=λe=>by have:=h.st.bnd _ e;omega
 have hC:∀W,(W=w3\/W=w3.drew)->Calls prog 174 #[ptr a,ptr w1.heap.size] W λe w'=>∃v,e=.returned (.tuple #[v,ze ec])/\(∃l' I' a',I'.db=I.db/\qF l w l' w'/\Wd l' w' x I' a' s')/\w'.cell? ⟨x,2,none⟩=some (.iface 142 (ptr a))/\w'.cell? ⟨w.heap.size,1,none⟩=some (.string sx)/\w'.cell? ⟨w.heap.size,2,none⟩=some (.string rx):=λW hW=>by
  have hb:W.heap=w3.heap:=by rcases hW with rfl|rfl<;>rfl
  have Pz:za w W:=by
   rcases hW with rfl|rfl
   ·exact He
   ·exact He.drew
  refine(dj (h.new Pz).st hr hn LO (rb:=w1.heap.size) (zi.2 ⟨PZ,?_⟩) (zi.2 ⟨PZ,?_⟩) hf hs RW).mono λe w' hc=> ?_
  rotate_left 2
  ·obtain⟨v,he,Hk,k2,kp⟩:=VV.w h Pz hc;have TR:W.heap[w.heap.size]? =w1.heap[w.heap.size]? :=by
    rw[hb,Hg.block w.heap.size (by omega) (λe=>e)]
   exact⟨v,he,Hk,k2,kp _ _ sO (by rw[World.cell?_of_block TR];exact g1),kp _ _ sO (by rw[World.cell?_of_block TR];exact g2)⟩
  ·rw[Ht,cell_of_row W w1.heap.size 0 _ _ (0,0) (by rw[hb];exact sG)];rfl
  ·rw[Pj,cell_of_row W w1.heap.size 1 _ _ (0,0) (by rw[hb];exact sG)];rfl
 have Sg:=hC _ (Or.inr rfl);rw[pI,pu]at Sg;have HC:=hid Sg;have Pr:=hid Hh;have pJ:=hid Hc;have r_:=hid Ht;have LU:=hid Pj;have sL:=QE a;clear h Hc Ht Pj hQ Hg sG He sO PZ hC Sg hr hf hs pM pu;obtain⟨ob,p_⟩:=zex (w.heap.size);rw[<-p_]at g0 g1 g2;have mg:=hid p_;go_enter func42,ntmps42;go_upto_region 2 with fail
 rw[<-pJ.out,<-Pr.out,<-p_];clear c0 c1 c2 p_ Hh;obtain⟨va,pR⟩:=zex (Value.agg cc);rw[<-pR];clear pR;go_wp2_with fail;go_region_held3 (λw'=>w'.cell? ⟨x,2,none⟩=some (.iface 142 (ptr a))/\w'.cell? ⟨ob,1,none⟩=some (.string sx)/\w'.cell? ⟨ob,2,none⟩=some (.string rx)) (go_keep) (first|(go_at_call 174;refine HC.out.mono ?_;rintro e w9 ⟨v,rfl,Hk,k2,k1x,k2x⟩;rw[<-mg.out]at k1x k2x;have Hn:=hid Hk;clear Hk))
 all_goals
  go_wp2;go_returns;exact⟨rfl,Hn.out⟩
theorem Zs(a:Nat)(W:World):(method 608 142 (ptr a) "RoleGrantPermission").run prog W=.ok (168,ptr a) W:=by kernel_rfl
theorem Xj{w:World}{I:zN}{s:zA}(h:Wd l w x I a s)(hk:o.kind=11)(hp:o.noPerm=true):
  Calls prog 42 #[ptr x,o.val] w (Q_ l w x I s 9):=by
 obtain⟨ki,us,ro,pk,ke,st,np,od,nu⟩:=o;dsimp only at hk hp;subst hk hp;unfold zH.val zH.cells;dsimp only;obtain⟨c0,c1,c2,_⟩:=vX h.row;obtain⟨rx,Pj⟩:∃z,zb ro=.string z:=⟨_,rfl⟩;obtain⟨cc,Hc⟩:=zex (#[.int .i64 11,zb us,zb ro,.int .i64 pk,zb ke,zb st,.bool true,.int .i64 od,.bool nu]);obtain⟨w1,Hh⟩:=zex (w.alloc (.cells cc 35));have hQ:za w w1:=by rw[Hh];exact(za.refl w).alloc _
 have pM:w1.heap[w.heap.size]? =some (.cells cc 35 (0,0)):=by rw[Hh];exact zg w _
 have g0:w1.cell? ⟨w.heap.size,0,none⟩=some (.int .i64 11):=by rw[cell_of_row w1 _ 0 _ _ (0,0) pM,Hc];rfl
 have g2:w1.cell? ⟨w.heap.size,2,none⟩=some (.string rx):=by rw[cell_of_row w1 _ 2 _ _ (0,0) pM,Hc,Pj];rfl
 have g6:w1.cell? ⟨w.heap.size,6,none⟩=some (.bool true):=by rw[cell_of_row w1 _ 6 _ _ (0,0) pM,Hc];rfl
 obtain⟨w2,PO⟩:=zex (w1.alloc (.cells #[.string rx,.pointer none] 193));have Hj:za w1 w2:=by rw[PO];exact(za.refl w1).alloc _
 have hZ:w2.heap[w1.heap.size]? =some (.cells #[.string rx,.pointer none] 193 (0,0)):=by rw[PO];exact zg w1 _
 have p2:=(hQ.trans Hj).le _ _ c2;have p6:=Hj.le _ _ g6;have hC:Calls prog 168 #[ptr a,ptr w1.heap.size] w2 λe w'=>∃v,e=.returned (.tuple #[v,ze 9])/\(∃l' I' a',I'.db=I.db/\qF l w l' w'/\Wd l' w' x I' a' s):=by
  have PZ: ¬l.some w1.heap.size:=λe=>by have:=h.st.bnd _ e;have:=hQ.size;omega
  refine(Y8 (h.new (hQ.trans Hj)).st (rb:=w1.heap.size) (zi.2 ⟨PZ,by rw[cell_of_row w2 _ 1 _ _ (0,0) hZ];rfl⟩)).mono λe w' hc=> ?_;obtain⟨v,he,Hk,_⟩:=VV.w h (hQ.trans Hj) hc;exact⟨v,he,Hk⟩
 have HC:=hid hC;have Pr:=hid Hh;have lj:=hid PO;have pJ:=hid Hc;have sL:=Zs a;clear h Hc hQ pM c0 c1 c2 hC PO Hj hZ Pj;obtain⟨ob,p_⟩:=zex (w.heap.size);rw[<-p_]at g0 g2 g6 p6;go_enter func42,ntmps42;go_upto_region 2 with fail
 rw[<-pJ.out,<-Pr.out,<-p_];clear p_ Hh;obtain⟨va,pR⟩:=zex (Value.agg cc);rw[<-pR];clear pR;go_upto_region 21 with fail
 rw[<-lj.out];clear g0 g2 g6;go_wp2_with fail;refine HC.out.mono ?_;rintro e w9 ⟨v,rfl,Hk⟩;have Hn:=hid Hk;clear Hk;go_wp2;go_returns;exact⟨rfl,Hn.out⟩
theorem Xk{w:World}{I:zN}{s:zA}(h:Wd l w x I a s)(hk:o.kind=11)(hp:o.noPerm=false)(hr:vF s o.role (some ⟨o.pk.toNat,o.key,o.stop⟩)=(s',ec))(hn:o.role.length<=1000)(Nx:0<=o.pk)(rm:o.pk<=2)(pE:o.key.length<=1000)(pW:o.stop.length<=1000)(hf:q9 s')(hs:yA s')(RW:yA s)(Sp:∀r∈s.roles,r.perms.length<=11):
  Calls prog 42 #[ptr x,o.val] w (Q_ l w x I s' ec):=by
 obtain⟨ki,us,ro,pk,ke,st,np,od,nu⟩:=o;dsimp only at hk hp hr hn Nx rm pE pW;subst hk hp;unfold zH.val zH.cells;dsimp only;obtain⟨c0,c1,c2,_⟩:=vX h.row;obtain⟨rx,Pj⟩:∃z,zb ro=.string z:=⟨_,rfl⟩;obtain⟨kx,rH⟩:∃z,zb ke=.string z:=⟨_,rfl⟩;obtain⟨sx,Ht⟩:∃z,zb st=.string z:=⟨_,rfl⟩;obtain⟨cc,Hc⟩:=zex (#[.int .i64 11,zb us,zb ro,.int .i64 pk,zb ke,zb st,.bool false,.int .i64 od,.bool nu]);obtain⟨w1,Hh⟩:=zex (w.alloc (.cells cc 35));have hQ:za w w1:=by rw[Hh];exact(za.refl w).alloc _
 have pI:w1.heap.size=w.heap.size+1:=by rw[Hh];exact Array.size_push ..
 have pM:w1.heap[w.heap.size]? =some (.cells cc 35 (0,0)):=by rw[Hh];exact zg w _
 have g0:w1.cell? ⟨w.heap.size,0,none⟩=some (.int .i64 11):=by rw[cell_of_row w1 _ 0 _ _ (0,0) pM,Hc];rfl
 have g2:w1.cell? ⟨w.heap.size,2,none⟩=some (.string rx):=by rw[cell_of_row w1 _ 2 _ _ (0,0) pM,Hc,Pj];rfl
 have g3:w1.cell? ⟨w.heap.size,3,none⟩=some (.int .i64 pk):=by rw[cell_of_row w1 _ 3 _ _ (0,0) pM,Hc];rfl
 have g4:w1.cell? ⟨w.heap.size,4,none⟩=some (.string kx):=by rw[cell_of_row w1 _ 4 _ _ (0,0) pM,Hc,rH];rfl
 have g5:w1.cell? ⟨w.heap.size,5,none⟩=some (.string sx):=by rw[cell_of_row w1 _ 5 _ _ (0,0) pM,Hc,Ht];rfl
 have g6:w1.cell? ⟨w.heap.size,6,none⟩=some (.bool false):=by rw[cell_of_row w1 _ 6 _ _ (0,0) pM,Hc];rfl
 obtain⟨w2,PO⟩:=zex (w1.alloc (.cells #[.string rx,.pointer none] 193));have Hj:za w1 w2:=by rw[PO];exact(za.refl w1).alloc _
 have rj:w2.heap.size=w1.heap.size+1:=by rw[PO];exact Array.size_push ..
 have hZ:w2.heap[w1.heap.size]? =some (.cells #[.string rx,.pointer none] 193 (0,0)):=by rw[PO];exact zg w1 _
 have p3:=Hj.le _ _ g3;have p4:=Hj.le _ _ g4;have p5:=Hj.le _ _ g5;have p6:=Hj.le _ _ g6;have hP:=zbC (w:=w2) Nx rm pE pW;unfold WY at hP;rw[rH,Ht]at hP;have hC:∀(w3:World) (pb:Nat),za w2 w3->w2.heap.size<=pb->(∀S:Nat->Prop,(∀j,S j->j<w2.heap.size)->ju (im S w3) pb ⟨pk.toNat,ke,st⟩)->Calls prog 168 #[ptr a,ptr w1.heap.size] (w3.setCell ⟨w1.heap.size,1,none⟩ (ptr pb)) λe w'=>∃v,e=.returned (.tuple #[v,ze ec])/\(∃l' I' a',I'.db=I.db/\qF l w l' w'/\Wd l' w' x I' a' s'):=λw3 pb Hg wQ RG=>by
  obtain⟨W,hW⟩:=zex (w3.setCell ⟨w1.heap.size,1,none⟩ (ptr pb));rw[<-hW];have PZ: ¬l.some w1.heap.size:=λe=>by have:=h.st.bnd _ e;omega
  have hm:zq (· =w1.heap.size) w3 W:=by rw[hW];exact vx (S:=(· =w1.heap.size)) (zq.refl _ _) rfl _
  have Pz:za w W:=zq.trans (za.trans (za.trans hQ Hj) Hg) hm λb hb e=>by have e:b=w1.heap.size:=e;omega
  have mI:W.heap[w1.heap.size]? =some (.cells #[.string rx,ptr pb] 193 (0,0)):=by rw[hW];exact heap_setCell_same w3 _ 1 _ _ _ (Hg.heap hZ)
  have hY:(im (λj=>l j≠0\/j=w1.heap.size) w3).le (im l.some W):=(hm.mono (S':=λj=>l j≠0\/j=w1.heap.size) λj _ e=>Or.inr e).im λj _ e=>Or.inl e;have O0:=RG (λj=>l j≠0\/j=w1.heap.size) (λj e=>by
   rcases e with e|e
   ·have:=h.st.bnd _ e;omega
   ·omega)
  refine(Y9 (h.new Pz).st hr hn (rb:=w1.heap.size) (zi.2 ⟨PZ,by rw[Pj,cell_of_row W _ 0 _ _ (0,0) mI];rfl⟩) ⟨pb,zi.2 ⟨PZ,by rw[cell_of_row W _ 1 _ _ (0,0) mI];rfl⟩,O0.mono hY⟩ hf hs RW Sp).mono λe w' hc=> ?_;obtain⟨v,he,Hk,_⟩:=VV.w h Pz hc;exact⟨v,he,Hk⟩
 have hK:∀(w3:World),za w2 w3->w3.cell? ⟨w1.heap.size,1,none⟩=some (.pointer none)/\w3.frozen? ⟨w1.heap.size,1,none⟩=false/\∀v,(w3.setCell ⟨w1.heap.size,1,none⟩ v).cell? ⟨x,2,none⟩=some (.iface 142 (ptr a)):=λw3 Hg=>by have mI:=Hg.heap hZ;have RQ:x<w.heap.size:=(Array.getElem?_eq_some_iff.1 h.row).1;refine⟨by rw[cell_of_row w3 _ 1 _ _ (0,0) mI];rfl,by simp[World.frozen?,mI],λv=> ?_⟩;have hm:zq (· =w1.heap.size) w3 (w3.setCell ⟨w1.heap.size,1,none⟩ v):=vx (S:=(· =w1.heap.size)) (zq.refl _ _) rfl _;exact hm.cell (p:=⟨x,2,none⟩) (λe=>by have e:x=w1.heap.size:=e;omega) (((hQ.trans Hj).trans Hg).le _ _ c2)
 have HP:=hid hP;have HC:=hid hC;have HK:=hid hK;have Pr:=hid Hh;have lj:=hid PO;have pJ:=hid Hc;have sL:=Zs a;clear h Hc hQ pM c0 c1 c2 hC PO Hj hZ Pj rH Ht hr hf hs RW Sp hK hP pI rj;obtain⟨ob,p_⟩:=zex (w.heap.size);rw[<-p_]at g0 g2 g3 g4 g5 g6 p3 p4 p5 p6;go_enter func42,ntmps42;go_upto_region 2 with fail
 rw[<-pJ.out,<-Pr.out,<-p_];clear p_ Hh;obtain⟨va,pR⟩:=zex (Value.agg cc);rw[<-pR];clear pR;go_upto_region 21 with fail
 rw[<-lj.out];clear g0 g2 g3 g4 g5 g6;go_wp2_with fail;refine HP.out.mono ?_;rintro e w3 ⟨pb,rfl,Hg,wQ,RG⟩;obtain⟨q1,z1,q2⟩:=HK.out w3 Hg;have q2:=q2 (ptr pb);have HC3:=hid (HC.out w3 pb Hg wQ RG);clear Hg wQ RG;obtain⟨w4,So⟩:=zex (w3.setCell ⟨w1.heap.size,1,none⟩ (ptr pb));rw[<-So]at HC3 q2;have sQ:=hid So;clear So;go_upto_region 23 with fail
 rw[<-sQ.out];clear q1 z1;go_wp2_with fail;refine HC3.out.mono ?_;rintro e w9 ⟨v,rfl,Hk⟩;have Hn:=hid Hk;clear Hk;go_wp2;go_returns;exact⟨rfl,Hn.out⟩
section
variable{l:zu}{w:World}{x a k:Nat}{I:zN}{s:zA}{o:zH}
theorem VK(h:Wd l w x I a s)(pV:Ok s k)(hk:k<=98)(ho:o.runs)(hf:∀r∈s.roles,o.kind=11->r.perms.length<=11)(ha: ¬o.asks):
  Calls prog 42 #[ptr x,o.val] w (Q_ l w x I (s.change o).1 (s.change o).2):=by
 have BG:=XR pV ho.fits;have Lq:q9 (s.change o).1:=BG.small.fine (by omega) BG.sane;have Lr:=BG.sane;have hu:o.user.length<=1000:=by have:=ho.user;omega
 have hr:o.role.length<=1000:=by have:=ho.role.1;omega
 have N7:o.key.length<=1000:=by have:=ho.key;omega
 have Hi:o.stop.length<=1000:=by have:=ho.stop;omega
 have Rk:=ho.kind;unfold zH.asks at ha;have hc:o.kind=1\/o.kind=2\/o.kind=3\/o.kind=4\/o.kind=5\/o.kind=6\/o.kind=9\/o.kind=10\/o.kind=11\/o.kind=12\/o.kind=20\/o.kind=21:=by omega
 rcases hc with e|e|e|e|e|e|e|e|e|e|e|e
 ·exact fy h e (WN e).symm Lq Lr
 ·have h2:=WO (s:=s) e;rw[h2]at Lq Lr⊢;exact fz h e rfl Lq Lr
 ·exact ff h e (WP e).symm hu Lq Lr
 ·exact fg h e (WQ e).symm hu Lq Lr
 ·exact fk h e (zah e).symm hu hr Lq Lr pV.sane
 ·exact fl h e (WR e).symm hu Lq Lr
 ·exact fm h e (uP e).symm hr Lq Lr
 ·exact dt h e (Ds e).symm hr Lq Lr
 ·have h2:=Du (s:=s) e;obtain⟨p0,p2⟩:=ho.pk e;cases hp:o.noPerm
  ·rw[hp]at h2;exact Xk h e hp h2.symm hr p0 p2 N7 Hi Lq Lr pV.sane λr hr=>hf r hr e
  ·rw[hp]at h2;have h3:s.change o=(s,9):=h2;rw[h3];exact Xj h e hp
 ·exact dB h e (Dv e).symm hr N7 Hi Lq Lr
 ·have h3:s.change o=(s,0):=by
   have:=XS (s:=s) (o:=o) (by omega);rw[yw (by unfold zH.asks;omega)]at this;injection this with h4 h5
   injection h5 with h6
   exact Prod.ext h4 h6
  rw[h3];exact dD h e
 ·have h3:s.change o=(s,0):=by
   have:=XS (s:=s) (o:=o) (by omega);rw[yw (by unfold zH.asks;omega)]at this;injection this with h4 h5
   injection h5 with h6
   exact Prod.ext h4 h6
  rw[h3];exact dC h e
theorem zdJ{g:Nat}(tB:o.kind=13->Calls prog 33 #[ptr x,o.val] w (fR l w x I (s.step o)))(h:Wd l w x I a s)(pV:Ok s k)(hk:k<=98)(hf:Xc s g)(hg:g+o.g<=12)(ho:o.runs):
  Calls prog 33 #[ptr x,o.val] w (fR l w x I (s.step o)):=by
 have hu:o.user.length<=1000:=by have:=ho.user;omega
 have hr:o.role.length<=1000:=by have:=ho.role.1;omega
 have N7:o.key.length<=1000:=by have:=ho.key;omega
 have Hi:o.stop.length<=1000:=by have:=ho.stop;omega
 have A_:=zbw ho.user;have Rk:=ho.kind;have pF:o.old=0\/o.old=1:=by have:=ho.old;omega
 have RW:=pV.sane;by_cases ha:o.asks
 ·have hc:o.kind=7\/o.kind=8\/o.kind=13\/o.kind=14\/o.kind=15\/o.kind=16\/o.kind=17\/o.kind=18\/o.kind=19:=by unfold zH.asks at ha;omega
  rcases hc with e|e|e|e|e|e|e|e|e
  ·rw[zcM e];cases hq:s.user o.user with
   |none=>exact zay h e hq hu
   |some u=>exact zaz h e hq hu
  ·rw[zcN e];exact zbO h e
  ·exact tB e
  ·rw[zbu e];exact zaD h e hf.names
  ·rw[gX (Or.inl e)];exact zaE h e ho.old.1 ho.old.2 A_ N7 (by have:=ho.put e;unfold zU;simp[this]) (gW s o) (by rw[Ux RW pF (Or.inl e),if_neg (by omega),if_pos e])
  ·rw[gX (Or.inr (Or.inl e))];exact zaF h e ho.old.1 ho.old.2 A_ N7 (ho.range (Or.inl e)) Hi (gW s o) (by rw[Ux RW pF (Or.inr (Or.inl e)),if_pos e,if_neg (by omega)])
  ·rw[gX (Or.inr (Or.inr (Or.inl e)))];exact zaG h e ho.old.1 ho.old.2 A_ N7 (ho.range (Or.inr e)) Hi (gW s o) (by rw[Ux RW pF (Or.inr (Or.inr e)),if_neg (by omega),if_neg (by omega)])
  ·rw[gX (Or.inr (Or.inr (Or.inr e)))];exact zaH h e ho.old.1 ho.old.2 A_ (gW s o) (WK e)
  ·rw[zbv e];exact zaI h e hu
 ·rw[yw ha];have ED:∀r∈s.roles,o.kind=11->r.perms.length<=11:=λr hr e=>by
   have:=hf.few r hr;unfold zH.g at hg;rw[if_pos e]at hg;omega
  by_cases e:o.kind=11
  ·obtain⟨p0,p2⟩:=ho.pk e;exact zax h e p0 p2 (XU s o) λL W hW=>VK hW pV hk ho ED ha
  ·exact DL h (by unfold zH.asks at ha;omega) (XU s o) λL W hW=>VK hW pV hk ho ED ha
end
theorem zdk(ho:o.runs)(h:o.kind≠13):zdI o:=λhw pV hk hf hg=>zdJ (λe=>absurd e h) hw pV hk hf hg ho
end Go.Proofs.YtbmdoinjkligiaaGreat
