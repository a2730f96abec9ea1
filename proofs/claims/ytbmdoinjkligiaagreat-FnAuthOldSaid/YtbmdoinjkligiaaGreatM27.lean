/- Contracts and laws that the last text joins. -/
import Derived.BigRegion
import Derived.Test.YtbmdoinjkligiaaGreatM24
set_option maxRecDepth 100000
set_option maxHeartbeats 40000000
set_option linter.all false
namespace Go.Proofs.YtbmdoinjkligiaaGreat
open Tryz
open Lib(hid)
open Go.RowKit
theorem Y9(a:Nat)(W:World):(method 608 142 (ptr a) "UserDelete").run prog W=.ok (172,ptr a) W:=by kernel_rfl
variable{a ec x:Nat}{l:zu}{o:zH}{s':zA}
theorem ft{w:World}{I:zN}{s:zA}(h:Wd l w x I a s)(hk:o.kind=4)(hr:Zr s o.user=(s',ec))(hn:o.user.length<=1000)(hf:ya s')(hs:yD s'):
  Calls prog 42 #[ptr x,o.val] w (Yd l w x I s' ec):=by
 obtain⟨ki,us,ro,pk,ke,st,np,od,nu⟩:=o;dsimp only at hk hr hn;subst hk;unfold zH.val zH.cells;dsimp only;obtain⟨c0,c1,c2,_⟩:=vZ h.row;obtain⟨sx,hsx⟩:∃z,zb us=.string z:=⟨_,rfl⟩;obtain⟨cc,hcc⟩:=zex (#[.int .i64 4,zb us,zb ro,.int .i64 pk,zb ke,zb st,.bool np,.int .i64 od,.bool nu]);obtain⟨w1,hw1⟩:=zex (w.alloc (.cells cc 35));have hn1:za w w1:=by rw[hw1];exact(za.refl w).alloc _
 have hs1:w1.heap.size=w.heap.size+1:=by rw[hw1];exact Array.size_push ..
 have hb0:w1.heap[w.heap.size]? =some (.cells cc 35 (0,0)):=by rw[hw1];exact zg w _
 have d2:=hn1.le _ _ c2;have g0:w1.cell? ⟨w.heap.size,0,none⟩=some (.int .i64 4):=by rw[cell_of_row w1 _ 0 _ _ (0,0) hb0,hcc];rfl
 have g1:w1.cell? ⟨w.heap.size,1,none⟩=some (.string sx):=by rw[cell_of_row w1 _ 1 _ _ (0,0) hb0,hcc,hsx];rfl
 obtain⟨w3,hw3⟩:=zex (w1.alloc (.cells #[.string sx] 168));have hn3:za w1 w3:=by rw[hw3];exact(za.refl w1).alloc _
 have hb3:w3.heap[w1.heap.size]? =some (.cells #[.string sx] 168 (0,0)):=by rw[hw3];exact zg w1 _
 have hall:=hn1.trans hn3;have hz0:l w.heap.size=0:=by
  by_cases e:l w.heap.size=0
  ·exact e
  ·have:=h.st.bnd _ e;omega
 have hz1: ¬l.some w1.heap.size:=λe=>by have:=h.st.bnd _ e;omega
 have hC:∀W,(W=w3\/W=w3.drew)->Calls prog 172 #[ptr a,ptr w1.heap.size] W λe w'=>∃v,e=.returned (.tuple #[v,ze ec])/\(∃l' I' a',I'.db=I.db/\qG l w l' w'/\Wd l' w' x I' a' s')/\w'.cell? ⟨x,2,none⟩=some (.iface 142 (ptr a))/\w'.cell? ⟨w.heap.size,1,none⟩=some (.string sx):=λW hW=>by
  have hb:W.heap=w3.heap:=by rcases hW with rfl|rfl<;>rfl
  have hnW:za w W:=by
   rcases hW with rfl|rfl
   ·exact hall
   ·exact hall.drew
  refine(Xd (h.new hnW).st hr hn (rb:=w1.heap.size) (zi.2 ⟨hz1,?_⟩) hf hs).mono λe w' hc=> ?_
  rotate_left 1
  ·obtain⟨v,he,hend,k2,kp⟩:=VZ.w h hnW hc;have hb9:W.heap[w.heap.size]? =w1.heap[w.heap.size]? :=by
    rw[hb,hn3.block w.heap.size (by omega) (λe=>e)]
   exact⟨v,he,hend,k2,kp _ _ hz0 (by rw[World.cell?_of_block hb9];exact g1)⟩
  ·rw[hsx,cell_of_row W w1.heap.size 0 _ _ (0,0) (by rw[hb];exact hb3)];rfl
 have hC2:=hC _ (Or.inr rfl);rw[hs1,hw3]at hC2;have HC:=hid hC2;have HW1:=hid hw1;have HCC:=hid hcc;have HSX:=hid hsx;have hme:=Y9 a;clear h hcc hsx hn1 hn3 hb3 hall hz0 hz1 hC hC2 hr hf hs hb0 hw3;obtain⟨ob,hob⟩:=zex (w.heap.size);rw[<-hob]at g0 g1;have HOB:=hid hob;go_enter func42,ntmps42;go_upto_region 2 with fail
 rw[<-HCC.out,<-HW1.out,<-hob];clear c0 c1 c2 hob hw1;obtain⟨va,hva⟩:=zex (Value.agg cc);rw[<-hva];clear hva;go_wp2_with fail;go_region_held3 (λw'=>w'.cell? ⟨x,2,none⟩=some (.iface 142 (ptr a))/\w'.cell? ⟨ob,1,none⟩=some (.string sx)) (go_keep) (first|(go_at_call 172;refine HC.out.mono ?_;rintro e w9 ⟨v,rfl,hend,k2,k1x⟩;rw[<-HOB.out]at k1x;have HEND:=hid hend;clear hend))
 all_goals
  go_wp2;go_returns;exact⟨rfl,HEND.out⟩
theorem Qd(a:Nat)(W:World):(method 608 142 (ptr a) "UserRevokeRole").run prog W=.ok (176,ptr a) W:=by kernel_rfl
theorem fz{w:World}{I:zN}{s:zA}(h:Wd l w x I a s)(hk:o.kind=6)(hr:Zs s o.user o.role=(s',ec))(hn:o.user.length<=1000)(hf:ya s')(hs:yD s'):
  Calls prog 42 #[ptr x,o.val] w (Yd l w x I s' ec):=by
 obtain⟨ki,us,ro,pk,ke,st,np,od,nu⟩:=o;dsimp only at hk hr hn;subst hk;unfold zH.val zH.cells;dsimp only;obtain⟨c0,c1,c2,_⟩:=vZ h.row;obtain⟨sx,hsx⟩:∃z,zb us=.string z:=⟨_,rfl⟩;obtain⟨rx,hrx⟩:∃z,zb ro=.string z:=⟨_,rfl⟩;obtain⟨cc,hcc⟩:=zex (#[.int .i64 6,zb us,zb ro,.int .i64 pk,zb ke,zb st,.bool np,.int .i64 od,.bool nu]);obtain⟨w1,hw1⟩:=zex (w.alloc (.cells cc 35));have hn1:za w w1:=by rw[hw1];exact(za.refl w).alloc _
 have hs1:w1.heap.size=w.heap.size+1:=by rw[hw1];exact Array.size_push ..
 have hb0:w1.heap[w.heap.size]? =some (.cells cc 35 (0,0)):=by rw[hw1];exact zg w _
 have d2:=hn1.le _ _ c2;have g0:w1.cell? ⟨w.heap.size,0,none⟩=some (.int .i64 6):=by rw[cell_of_row w1 _ 0 _ _ (0,0) hb0,hcc];rfl
 have g1:w1.cell? ⟨w.heap.size,1,none⟩=some (.string sx):=by rw[cell_of_row w1 _ 1 _ _ (0,0) hb0,hcc,hsx];rfl
 have g2:w1.cell? ⟨w.heap.size,2,none⟩=some (.string rx):=by rw[cell_of_row w1 _ 2 _ _ (0,0) hb0,hcc,hrx];rfl
 obtain⟨w3,hw3⟩:=zex (w1.alloc (.cells #[.string sx,.string rx] 180));have hn3:za w1 w3:=by rw[hw3];exact(za.refl w1).alloc _
 have hb3:w3.heap[w1.heap.size]? =some (.cells #[.string sx,.string rx] 180 (0,0)):=by rw[hw3];exact zg w1 _
 have hall:=hn1.trans hn3;have hz0:l w.heap.size=0:=by
  by_cases e:l w.heap.size=0
  ·exact e
  ·have:=h.st.bnd _ e;omega
 have hz1: ¬l.some w1.heap.size:=λe=>by have:=h.st.bnd _ e;omega
 have hC:∀W,(W=w3\/W=w3.drew)->Calls prog 176 #[ptr a,ptr w1.heap.size] W λe w'=>∃v,e=.returned (.tuple #[v,ze ec])/\(∃l' I' a',I'.db=I.db/\qG l w l' w'/\Wd l' w' x I' a' s')/\w'.cell? ⟨x,2,none⟩=some (.iface 142 (ptr a))/\w'.cell? ⟨w.heap.size,1,none⟩=some (.string sx)/\w'.cell? ⟨w.heap.size,2,none⟩=some (.string rx):=λW hW=>by
  have hb:W.heap=w3.heap:=by rcases hW with rfl|rfl<;>rfl
  have hnW:za w W:=by
   rcases hW with rfl|rfl
   ·exact hall
   ·exact hall.drew
  refine(Xe (h.new hnW).st hr hn (rb:=w1.heap.size) (zi.2 ⟨hz1,?_⟩) (zi.2 ⟨hz1,?_⟩) hf hs).mono λe w' hc=> ?_
  rotate_left 2
  ·obtain⟨v,he,hend,k2,kp⟩:=VZ.w h hnW hc;have hb9:W.heap[w.heap.size]? =w1.heap[w.heap.size]? :=by
    rw[hb,hn3.block w.heap.size (by omega) (λe=>e)]
   exact⟨v,he,hend,k2,kp _ _ hz0 (by rw[World.cell?_of_block hb9];exact g1),kp _ _ hz0 (by rw[World.cell?_of_block hb9];exact g2)⟩
  ·rw[hsx,cell_of_row W w1.heap.size 0 _ _ (0,0) (by rw[hb];exact hb3)];rfl
  ·rw[hrx,cell_of_row W w1.heap.size 1 _ _ (0,0) (by rw[hb];exact hb3)];rfl
 have hC2:=hC _ (Or.inr rfl);rw[hs1,hw3]at hC2;have HC:=hid hC2;have HW1:=hid hw1;have HCC:=hid hcc;have HSX:=hid hsx;have HRX:=hid hrx;have hme:=Qd a;clear h hcc hsx hrx hn1 hn3 hb3 hall hz0 hz1 hC hC2 hr hf hs hb0 hw3;obtain⟨ob,hob⟩:=zex (w.heap.size);rw[<-hob]at g0 g1 g2;have HOB:=hid hob;go_enter func42,ntmps42;go_upto_region 2 with fail
 rw[<-HCC.out,<-HW1.out,<-hob];clear c0 c1 c2 hob hw1;obtain⟨va,hva⟩:=zex (Value.agg cc);rw[<-hva];clear hva;go_wp2_with fail;go_region_held3 (λw'=>w'.cell? ⟨x,2,none⟩=some (.iface 142 (ptr a))/\w'.cell? ⟨ob,1,none⟩=some (.string sx)/\w'.cell? ⟨ob,2,none⟩=some (.string rx)) (go_keep) (first|(go_at_call 176;refine HC.out.mono ?_;rintro e w9 ⟨v,rfl,hend,k2,k1x,k2x⟩;rw[<-HOB.out]at k1x k2x;have HEND:=hid hend;clear hend))
 all_goals
  go_wp2;go_returns;exact⟨rfl,HEND.out⟩
variable{v:Value}{w1 w2:World}
theorem VJ{T:TypeId}(h:za (w1.alloc (.cells #[v] T)).drew w2):w2.cell? ⟨w1.heap.size,0,none⟩=some v/\w2.frozen? ⟨w1.heap.size,0,none⟩=false:=by have hb:=h.heap (show(w1.alloc (.cells #[v] T)).drew.heap[w1.heap.size]? =some (.cells #[v] T (0,0))from zg w1 _);exact⟨by rw[cell_of_row w2 _ 0 _ _ (0,0) hb];rfl,by simp[World.frozen?,hb]⟩
def D1(s:zA)(p:zh):Option zm->zA×Nat
 |none=>(s,7)
 |some r=>(s.putRole ⟨r.name,je r.perms p⟩,0)
def GM(r:Rd)(rb:Nat):Option zh->Prop
 |none=>r ⟨rb,1,none⟩=some (.pointer none)
 |some p=>∃pb,r ⟨rb,1,none⟩=some (ptr pb)/\jx r pb p
theorem Ja{w:World}{rb:Nat}{I:zN}{s:zA}(h:Zn l w a I s)(h1:GM (im l.some w) rb none):
  Calls prog 168 #[ptr a,ptr rb] w (VZ l w a I s 9):=by
 have d1:=zd _ _ _ _ (show im l.some w ⟨rb,1,none⟩=some (.pointer none)from h1);have hd1:∀o,(w.alloc o).cell? ⟨rb,1,none⟩=some (.pointer none):=λo=>za.le ((za.refl w).alloc o) _ _ d1;have HS:=hid (λo=>(And.intro (zr.new h.bnd ((za.refl w).alloc o)) (h.new ((za.refl w).alloc o))));clear h h1 d1;go_enter_defers func168,ntmps168;go_wp2;exact⟨_,results_tmp2 rfl _ _ _,_,rfl,l,I,zN.same_refl I,(HS.out _).1,(HS.out _).2⟩
variable{p:zh}
theorem Jb{w:World}{rb:Nat}{I:zN}{s:zA}{n:Bytes}(h:Zn l w a I s)(hr:vI s n (some p)=(s',ec))(hn:n.length<=1000)(h0:im l.some w ⟨rb,0,none⟩=some (zb n))(h1:GM (im l.some w) rb (some p))
  (hf:ya s')(hs:yD s')(hsn:yD s)(hfew:∀r∈s.roles,r.perms.length<=11):
  Calls prog 168 #[ptr a,ptr rb] w (VZ l w a I s' ec):=by
 obtain⟨A,ab,m,lg,h⟩:=h;obtain⟨pb,h1,hpa⟩:=h1;obtain⟨hp0,⟨kv,hp1,hp2⟩,ev,hp3,hp4⟩:=hpa;obtain⟨kp,kn,kc,rfl,_⟩:=hp2.shape;obtain⟨ep,en,ec2,rfl,_⟩:=hp4.shape;obtain⟨wa,hwa⟩:=zex (w.alloc (.cells #[ptr rb] 191));have hna:za w wa:=by rw[hwa];exact(za.refl w).alloc _
 have hle:=vd hna l.some;have b0:wa.cell? ⟨w.heap.size,0,none⟩=some (ptr rb):=by rw[hwa];exact by rw[cell_of_row _ _ 0 _ _ (0,0) (zg w _)];rfl
 have b1:=hle _ _ h1;have b2:=hle _ _ hp0;have b3:=hle _ _ hp1;have b4:=hle _ _ hp3;have b5:=hle _ _ h0;have e1w:(w.alloc (.cells #[ptr rb] 191)).cell? ⟨rb,1,none⟩=some (ptr pb):=by rw[<-hwa];exact b1
 have HBK:=hid (show Z9 wa p.key _ from hp2.mono hle);have HBE:=hid (show Z9 wa p.stop _ from hp4.mono hle);have HPK:=hid hp2;have HPE:=hid hp4;have HNA:=hid hna;have HWA:=hid hwa;have H:=hid h;have HF:=hid hf;have HS:=hid hs;have HSN:=hid hsn;have HFEW:=hid hfew;have m1:=qL;have m2:=qA;have m3:=yg;have m4:=yr;have m5:=q9;have m6:=jM;obtain⟨sx,hsx⟩:=zex ((⟨n.toArray⟩:ByteArray));unfold zb at b5;rw[<-hsx]at b5;have HSX:=hid hsx;have HRR:=hid hr;obtain⟨d,hd⟩:∃d,zT p.key p.stop=d:=⟨_,rfl⟩;have HD:=hid hd;clear h h0 h1 hp0 hp1 hp2 hp3 hp4 hf hs hsn hfew hna hwa hle hsx hr hd;go_enter_defers func168,ntmps168;go_upto_region 3 with fail
 rw[<-HWA.out];clear e1w;obtain⟨cq,hcq⟩:∃q,w.heap.size=q:=⟨_,rfl⟩;rw[hcq]at b0;rw[hcq];have HCQ:=hid hcq;clear hcq;go_cut [31]from 16 to 31 (λc wx=>za wa wx/\c=.bool (!d))
 case first=>have hv:=hid (λm=>fF (w:=wa.drewN m) (r:=wa.cell?) (Rd.le_refl _) HBK.out HBE.out);rw[HD.out]at hv;go_wp2;go_quiet ((go_at_call 181;exact zw (hv.out _)));go_wp2;go_meet;exact⟨(za.refl wa).drewN nq,by first|rfl|(cases d<;>rfl)⟩
 case rest=>
  obtain⟨hnx,rfl⟩:=hcut;obtain⟨wq,hwq⟩:=zex (wc);rw[<-hwq]at hnx⊢;clear hwq;have HNX:=hid (HNA.out.trans hnx);have c0:=hnx.le _ _ b0;have c1:=hnx.le _ _ b1;have c5:=hnx.le _ _ b5;have C2:=hid (hnx.le _ _ b2);have C3:=hid (hnx.le _ _ b3);have C4:=hid (hnx.le _ _ b4);have CK:=hid (show Z9 wq p.key _ from HBK.out.mono hnx.le);clear b0 b1 b2 b3 b4 b5 hnx HBK HBE;cases d
  case false=>
   obtain⟨rfl,rfl⟩:s=s'/\15=ec:=by have:=HRR.out;unfold vI at this;simp only[HD.out]at this;cases this;exact⟨rfl,rfl⟩
   have HSW:=hid (zr.new H.out.bnd HNX.out);have HP:=hid (H.out.new HNX.out);go_wp2;exact⟨_,results_tmp2 rfl _ _ _,_,rfl,l,I,zN.same_refl I,HSW.out,_,_,_,_,HP.out⟩
  case true=>
   have hx:=H.out.new HNX.out;have r2:wq.cell? ⟨a,2,none⟩=some (.iface 149 (ptr ab)):=by rw[cell_of_row wq a 2 _ _ (0,0) hx.row];rfl
   have HB:=hid (qP hx.idle hx.abe);have HX:=hid hx;obtain⟨o,ho⟩:∃o,s.role n=o:=⟨_,rfl⟩;have hr:=HRR.out;unfold vI at hr;simp only[HD.out]at hr;rw[ho]at hr;have HRS:=hid (show D1 s p o=(s',ec) by cases o<;>exact hr);have HOU:=hid (show qU zm.name s.roles n=o from ho);clear hx ho hr;go_wp2_with fail;refine HB.out.mono ?_;rintro e w1 ⟨x,rfl,hn1,hx,hax⟩;have h1:=HX.out.new hn1;have HL:=hid (jk h1.idle hax);have j0:=hn1.le _ _ c0;have j1:=hn1.le _ _ c1;have j5:=hn1.le _ _ c5;have hus:=λ(W':World) (hw:za w1 W')=>ZX h1.fine h1.kv (h1.idle.new hw) (hax.new hw) hn;unfold zb at hus;rw[<-HSX.out]at hus;have HUSA:=hid (hus w1.drew (za.refl w1).drew);have HUSB:=hid (hus (w1.alloc (.cells #[.pointer none] 223)).drew ((za.refl w1).alloc _).drew);have H1:=hid h1;have HN1:=hid (show za w w1 from HNX.out.trans hn1);have HX1:=hid hn1;have HMID:=hid (h1.mid hax)
   have j0d:w1.drew.cell? ⟨cq,0,none⟩=some (ptr rb):=j0;have j0a:∀o,(w1.alloc o).drew.cell? ⟨cq,0,none⟩=some (ptr rb):=λo=>za.le (((za.refl w1).alloc o).drew) _ _ j0;have j5a:∀o,(w1.alloc o).drew.cell? ⟨rb,0,none⟩=some (.string sx):=λo=>za.le (((za.refl w1).alloc o).drew) _ _ j5;clear h1 hn1 hax c0 c1 c5 r2 hus;go_wp2_with fail;refine HL.out.mono ?_;rintro e w2 ⟨rfl,rfl⟩;go_upto_region 8 with fail
   have hi:=yh x;cases o with
   |none=>
    go_cut [7]from 42 to 50 (λc wx=>zaL w1 c wx)
    case first=>
     refine wp_region_noPanic ?_;go_region_with (first|(refine HUSA.out.mono ?_;rintro e w2 ⟨r,rfl,hn2,hg2⟩;rw[HOU.out]at hg2;cases hg2;have HN2:=hid hn2;clear hn2)|(refine HUSB.out.mono ?_;rintro e w2 ⟨r,rfl,hn2,hg2⟩;obtain⟨zc,zf⟩:=VJ hn2;rw[HOU.out]at hg2;cases hg2;have HN2:=hid hn2;clear hn2))
     all_goals refine NoPanic.normal ?_
     all_goals
      go_wp2_with fail;go_meet
      first|exact zd7 (w1:=w1) (W':=w1.drew) ((za.refl w1).drew) HN2.out|exact zd8 (w1:=w1) ((za.refl w1).alloc _).drew (zg w1 _) (Nat.le_refl _) HN2.out
    case rest=>
     obtain⟨cr,rfl,hc0,hnw⟩:=hcut;have HNW:=hid hnw;obtain⟨rfl,rfl⟩:s=s'/\7=ec:=by have:=HRS.out;cases this;exact⟨rfl,rfl⟩
     clear hnw j0 j1 j5 j0d j0a j5a;have HMN:=hid (HMID.out.new HNW.out);have HST:=hid (zr.new H1.out.bnd HNW.out);have HP9:=hid (H1.out.new HNW.out);go_wp2;refine leaves_cons (f:=261) (args:= #[ptr x]) (by simp) (hi _) ?_;refine(qv HMN.out.tx (by decide) qI HMN.out.atx).mono ?_;rintro e u' w'' ⟨rfl,rfl,l3,I3,hs3,hI3,hi3⟩;exact⟨_,results_tmp2 rfl _ _ _,_,rfl,l3,I3,hI3,((zr.new H.out.bnd HN1.out).trans HST.out).trans hs3.s,_,_,_,_,HP9.out.moved hs3 hI3 hi3⟩
   |some u=>
    go_cut [7]from 42 to 50 (λc wx=>zaK w1 c wx u)
    case first=>
     refine wp_region_noPanic ?_;go_region_with (first|(refine HUSA.out.mono ?_;rintro e w2 ⟨r,rfl,hn2,hg2⟩;rw[HOU.out]at hg2;obtain⟨b,wm,nv,rv,ids,he,hge,hbm,hu2⟩:=hg2;cases he;have HN2:=hid (And.intro hn2 (And.intro hge (And.intro hbm hu2)));clear hn2 hge hbm hu2)|(refine HUSB.out.mono ?_;rintro e w2 ⟨r,rfl,hn2,hg2⟩;obtain⟨zc,zf⟩:=VJ hn2;rw[HOU.out]at hg2;obtain⟨b,wm,nv,rv,ids,he,hge,hbm,hu2⟩:=hg2;cases he;have HN2:=hid (And.intro hn2 (And.intro hge (And.intro hbm hu2)));clear hn2 hge hbm hu2))
     all_goals refine NoPanic.normal ?_
     all_goals
      go_wp2_with fail;go_meet;obtain⟨hn2,hge,hbm,hu2⟩:=HN2.out
      first|exact zd5 (w1:=w1) (W':=w1.drew) ((za.refl w1).drew) hn2 hge hbm hu2|exact zd6 (w1:=w1) ((za.refl w1).alloc _).drew (zg w1 _) (Nat.le_refl _) hn2 hge hbm hu2
    case rest=>
     obtain⟨cr,b,wm,nv,rv,ids,rfl,hcr,hnw,hcg,hbg,hbm,hu2,hcb,hci,hcv⟩:=hcut;obtain⟨w3,hw3⟩:=zex (wc);rw[<-hw3]at hcr hnw hu2⊢;clear hw3 j0d j0a j5a;have hum:=qk H.out.fine.rs HOU.out;have huk:=H.out.fine.rok u hum;have hweak:Ye zh.key u.perms:=HSN.out.ps u hum;have hfew:=HFEW.out u hum;obtain⟨rp,rn3,rc,rfl⟩:=(Sl.of_own hu2.own).shape;have hpl:u.perms.length=rn3:=by have:=(Sl.of_own hu2.own).row.1;rw[List.length_map,hu2.perms.length]at this;exact this
     have hidl:ids.length=u.perms.length:=hu2.perms.length;obtain⟨x0,x1,y0,y1⟩:=qT hu2.row;have c0:w3.cell? ⟨cr,0,none⟩=some (ptr b):=by rw[cell_of_row w3 cr 0 _ _ (0,0) hcr];rfl
     have k0:=hnw.le _ _ j0;have k1:=hnw.le _ _ j1;have K2:=hid (hnw.le _ _ (HX1.out.le _ _ C2.out));have K3:=hid (hnw.le _ _ (HX1.out.le _ _ C3.out));have K4:=hid (hnw.le _ _ (HX1.out.le _ _ C4.out));have hrow:=(Sl.of_own hu2.own).row;have hkey:∀i (hi:i<rn3) (W:World),za w3 W->Calls prog 183 (#[.int .i64 i]++#[ptr cr,ptr cq]) W λe w'=>e=.returned (.bool (!decide (zt ((u.perms.map (·.key)).getD i []) p.key<0)))/\za W w':=λi hi W hW=>by
      obtain⟨_,_,_,⟨gb,go,rfl,hce⟩|h0⟩:=hrow
      case inr=>exact absurd h0 (by omega)
      have hii:i<ids.length:=by omega
      have hip:i<u.perms.length:=by omega
      have ci:=hce i (by rw[List.length_map];exact hii);rw[List.getElem_map]at ci;have hpi:=(hu2.perms.get i hii hip).at (zd _ _);obtain⟨_,⟨kx,q1,q2⟩,_⟩:=hpi;have hgd:(u.perms.map (·.key)).getD i []=u.perms[i].key:=by rw[List.getD_eq_getElem?_getD,List.getElem?_map,List.getElem?_eq_getElem hip];rfl
      rw[hgd];exact Xm hi (hW.le _ _ c0) (hW.le _ _ x1) (hW.le _ _ ci) (hW.le _ _ q1) (hW.le _ _ k0) (hW.le _ _ k1) (hW.le _ _ K3.out) (q2.mono hW.le) ((CK.out.mono (za.le (HX1.out.trans hnw))).mono hW.le)
     have hse:=XO (w:=w3) (g:=183) (cap:= #[ptr cr,ptr cq]) (n:=rn3) (p:=λi=> !decide (zt ((u.perms.map (·.key)).getD i []) p.key<0)) (by omega) fE (λi W hi hW=>hkey i hi W hW) (λi j hij hj hp=>DY hweak p.key i j hij (by omega) hp);have HSE:=hid hse;have HU3:=hid hu2;have HCR:=hid hcr;have HN3:=hid hnw;have HW3:=hid (And.intro hcg (And.intro hbg (And.intro hbm (And.intro hcb (And.intro hci hcv)))));have HWK:=hid hweak;have HFW:=hid hfew;have HPL:=hid hpl;have HIL:=hid hidl;clear hkey hse hrow hu2 hcr hnw hcg hbg hcb hci hcv hweak hfew hpl hidl hum huk y0 y1 j0 j1 j5;go_upto_region 11 with fail
     go_wp2_with fail;refine HSE.out.mono ?_;rintro e w4 ⟨k,rfl,hedge,hn4⟩;have hkp:ZR u.perms p=k:=DZ HPL.out hedge;have HKP:=hid hkp;have HU4:=hid (HU3.out.new hn4);have HN4:=hid (HN3.out.trans hn4);have HCR4:=hid (hn4.heap HCR.out);obtain⟨x0',x1',y0',y1'⟩:=qT (HU4.out.row);have c0':w4.cell? ⟨cr,0,none⟩=some (ptr b):=hn4.le _ _ c0;have k0':=hn4.le _ _ k0;have k1':=hn4.le _ _ k1;have K2':=hid (hn4.le _ _ K2.out);have K3':=hid (hn4.le _ _ K3.out);have K4':=hid (hn4.le _ _ K4.out);clear x0 x1 k0 k1 c0;obtain⟨ids4,hids4⟩:=zex (ids);go_upto_region 12 with fail
     go_cut [107]from 61 to 107 (λc wx=>(∃j,wx=w4.drewN j)/\c=.bool (Jx u.perms p k))
     case first=>
      by_cases hlt:k<rn3
      ·obtain⟨hrl,hrc,hrm,⟨gb,go,rfl,hce⟩|h0⟩:=(Sl.of_own HU4.out.own).row
       case inr=>exact absurd h0 (by omega)
       have hkp9:k<u.perms.length:=by rw[HPL.out];exact hlt
       have hki9:k<ids.length:=by rw[HIL.out];exact hkp9
       have ck:=hce k (by rw[List.length_map];exact hki9);rw[List.getElem_map]at ck;have hpi:=(HU4.out.perms.get k hki9 hkp9).at (zd _ _);obtain⟨q,hq⟩:∃q,ids[k]=q:=⟨_,rfl⟩;obtain⟨qp,hqp⟩:∃y,u.perms[k]=y:=⟨_,rfl⟩;have hpi':jx w4.cell? q qp:=by rw[<-hq,<-hqp];exact hpi
       rw[hq]at ck;have HHIT:=hid (show Jx u.perms p k=(decide (qp.key=p.key) && decide (qp.stop=p.stop)) by rw[X2 hkp9,hqp]);obtain⟨_,⟨av,a1,a2⟩,⟨bv,a3,a4⟩⟩:=hpi';obtain⟨ap,an,ac,rfl,_⟩:=a2.shape;obtain⟨bp,bn,bc,rfl,_⟩:=a4.shape;have hle4:Rd.le wq.cell? w4.cell? :=za.le (HX1.out.trans HN4.out);have B1:=hid (show Z9 w4 qp.key _ from a2);have B2:=hid (show Z9 w4 p.key _ from CK.out.mono hle4);have B3:=hid (show Z9 w4 qp.stop _ from a4);have B4:=hid (show Z9 w4 p.stop _ from(HPE.out.mono (vd HNX.out l.some)).mono hle4);have e3':=K3'.out;have e4':=K4'.out;have hltz:(k:Int)<rn3:=by omega
       clear hrl hce hpi hq hqp a2 a4 hle4;by_cases e1:qp.key=p.key
       ·have f1:(qp.key==p.key)=true:=by rw[e1];exact beq_self_eq_true _
        by_cases e2:qp.stop=p.stop
        ·have f2:(qp.stop==p.stop)=true:=by rw[e2];exact beq_self_eq_true _
         have HHT:=hid (show Jx u.perms p k=true by rw[HHIT.out,decide_eq_true e1,decide_eq_true e2];rfl);clear e1 e2;go_wp2;go_quiet (first|(go_at_call 100;exact zw (qh (by exact B1.out) (by exact B2.out)))|(go_at_call 100;exact zw (qh (by exact B3.out) (by exact B4.out))));go_wp2;go_meet;exact⟨⟨nq,rfl⟩,by rw[HHT.out];first|done|rfl|simp[f1,f2]⟩
        ·have f2:(qp.stop==p.stop)=false:=by simpa using e2
         have HHT:=hid (show Jx u.perms p k=false by rw[HHIT.out,decide_eq_false e2,Bool.and_false]);clear e1 e2;go_wp2;go_quiet (first|(go_at_call 100;exact zw (qh (by exact B1.out) (by exact B2.out)))|(go_at_call 100;exact zw (qh (by exact B3.out) (by exact B4.out))));go_wp2;go_meet;exact⟨⟨nq,rfl⟩,by rw[HHT.out];first|done|rfl|simp[f1,f2]⟩
       ·have f1:(qp.key==p.key)=false:=by simpa using e1
        have HHT:=hid (show Jx u.perms p k=false by rw[HHIT.out,decide_eq_false e1,Bool.false_and]);clear e1;go_wp2;go_quiet (first|(go_at_call 100;exact zw (qh (by exact B1.out) (by exact B2.out)))|(go_at_call 100;exact zw (qh (by exact B3.out) (by exact B4.out))));go_wp2;go_meet;exact⟨⟨nq,rfl⟩,by rw[HHT.out];first|done|rfl|simp[f1]⟩
      ·have HHT:=hid (X3 (p:=p) (show ¬k<u.perms.length by rw[HPL.out];exact hlt));have hdz:decide ((k:Int)<rn3)=false:=decide_eq_false (by omega);have hdn:decide (k<rn3)=false:=decide_eq_false hlt;clear hlt;go_wp2;go_quiet (fail);go_wp2;go_meet;exact⟨⟨nq,rfl⟩,by rw[HHT.out];first|done|rfl⟩
     case rest=>
      obtain⟨⟨j,hj⟩,rfl⟩:=hcut;obtain⟨w5,hw5⟩:=zex (wc);rw[<-hw5]at hj⊢;have hn45:za w4 w5:=by rw[hj];exact(za.refl w4).drewN j
      have HU5:=hid (HU4.out.new hn45);have HN5:=hid (HN4.out.trans hn45);have HCR5:=hid (hn45.heap HCR4.out);obtain⟨x0,x1,y0,y1⟩:=qT HU5.out.row;have c0:w5.cell? ⟨cr,0,none⟩=some (ptr b):=hn45.le _ _ c0';have k0:=hn45.le _ _ k0';have k1:=hn45.le _ _ k1';have k2:=hn45.le _ _ K2'.out;have K35:=hid (hn45.le _ _ K3'.out);have K45:=hid (hn45.le _ _ K4'.out);have HW5:=hid ((HX1.out.trans HN4.out).trans hn45);clear hj hw5 x0' x1' y0' y1' c0' k0' k1' hn45;cases hhit:Jx u.perms p k
      case true=>
       obtain⟨hkl,hkey9,hput9⟩:=zca HKP.out hhit;have hki9:k<ids.length:=by rw[HIL.out];exact hkl
       obtain⟨hrl,hrc,hrm,⟨gb,go,rfl,hce⟩|h0⟩:=(Sl.of_own HU5.out.own).row
       case inr=>exact absurd h0 (by have:=HPL.out;omega)
       have ck:=hce k (by rw[List.length_map];exact hki9);rw[List.getElem_map]at ck;obtain⟨q,hq⟩:∃q,ids[k]=q:=⟨_,rfl⟩;have hqm:q∈ids:=by rw[<-hq];exact List.getElem_mem hki9
       rw[hq]at ck;have hpi:=HU5.out.perms.get k hki9 hkl;obtain⟨z1,z2,z3,z4⟩:=hpi;obtain⟨q0,_,_,qf,_⟩:=Ux z3;rw[hq]at q0 qf;have hltz:(k:Int)<rn3:=by have:=HPL.out;omega
       obtain⟨W9,hW9⟩:=zex ((w5.setCell ⟨q,0,none⟩ (.int .i32 p.kind)).drew);have hu9:Z_ (λ_=>False) wm W9 b (u.name,je u.perms p) nv (.slice (some ⟨gb,go,none⟩) rn3 rc) ids:=by rw[hW9,hput9];exact(HU5.out.setKind (kind:=p.kind) HW3.out.2.2.1 (by rw[List.getElem?_eq_getElem hki9,hq]) (List.getElem?_eq_getElem hkl)).new ((za.refl _).drew)
       have hbm9:=HW3.out.2.2.1;have HN9:Hid (za w1 W9):=hid (zo.back HN5.out HU5.out.mod hu9.mod HW3.out.2.1 hbm9);have HAT9:Hid (jz (im l.some W9) b ⟨u.name,je u.perms p⟩):=hid (hu9.at λj hj=>by have h1:=H1.out.bnd j hj;have h2:=HW3.out.2.1;omega);have c9:W9.cell? ⟨cr,0,none⟩=some (ptr b):=by
        have hne:cr≠q:=λe=>HW3.out.2.2.2.2.1 (by rw[e];exact hqm);have hr9:W9.heap[cr]? =some (.cells #[ptr b] 223 (0,0)):=by rw[hW9];show(w5.setCell ⟨q,0,none⟩ (.int .i32 p.kind)).heap[cr]? =_;rw[Below.heap_setCell _ _ _ _ (show cr≠q from hne)];exact HCR5.out
        rw[cell_of_row W9 cr 0 _ _ (0,0) hr9];rfl
       obtain⟨rfl,rfl⟩:s.putRole ⟨u.name,je u.perms p⟩=s'/\0=ec:=by have:=HRS.out;cases this;exact⟨rfl,rfl⟩
       have HW9:=hid hW9;clear z4 hu9 hW9 z3 hrl hce hput9 hkey9 hq hhit;go_upto_region 13 with fail
       go_cut []from 108 to 123 (λwx=>wx=W9)
       case first=>
        refine wp_region_noPanic ?_;go_region
        all_goals refine NoPanic.normal ?_
        all_goals
         go_wp2_with fail;go_meet;rw[HW9.out];try rfl
       case rest=>
        have hwc:wc=W9:=hcut;rw[hwc];clear hwc hcut ck q0 qf x0 x1 y0 y1 c0 k0 k1 k2;have hff:=HF.out;have hfu:ya {s with roles:=yT zm.name s.roles ⟨u.name,je u.perms p⟩}:=⟨hff.us,hff.rs,hff.uok,hff.rok,hff.ul,hff.rl,H.out.fine.rev⟩;have huok:kD ⟨u.name,je u.perms p⟩:=hff.rok _ ((qB H.out.fine.rs).2 (Or.inl rfl));have HPU:=hid (xY (HMID.out.new HN9.out) (by decide) (by decide) HAT9.out huok hfu);have HSW:=hid ((zr.new H.out.bnd HN1.out).trans (zr.new H1.out.bnd HN9.out));have HFR:=hid (show s.rev+1<200 from hff.rev);clear hff hfu huok;go_wp2_with fail;refine HPU.out.mono ?_;rintro e w4' ⟨rfl,l4,hs4,hm4⟩;have HS4:=hid (HSW.out.trans hs4.s);have HC4:=hid (yE hm4 (by decide) (by simp[kB,jL]) HFR.out);clear hs4 hm4;go_wp2_with fail;refine HC4.out.mono ?_;rintro e w5 ⟨rfl,l5,A5,hs5,hm5⟩;have HS5:=hid (HS4.out.trans hs5);have HC5:=hid (qY hm5 HS.out);clear hs5 hm5;go_wp2_with fail
        refine HC5.out.mono ?_;rintro e w6 ⟨rfl,l6,m6,hs6,hm6,hc6⟩;have HS6:=hid (HS5.out.trans hs6);have HM6:=hid (And.intro hm6 hc6);clear hs6 hm6 hc6;go_wp2;have hnq:∀o,za w6 (w6.alloc o):=λo=>(za.refl w6).alloc o;refine leaves_cons (f:=261) (args:= #[ptr x]) (by simp) (hi _) ?_;refine(yJ (HM6.out.1.new (hnq _)) HS.out (HM6.out.2.step HM6.out.1.bnd (zr.new HM6.out.1.bnd (hnq _))) (by decide) (jV (by decide) _)).mono ?_;rintro e u' w'' ⟨rfl,rfl,l7,I7,hI7,hs7,hs8⟩;exact⟨_,results_tmp2 rfl _ _ _,_,rfl,l7,I7,hI7,(HS6.out.trans (zr.new HM6.out.1.bnd (hnq _))).trans hs7,hs8⟩
      case false=>
       have hput9:=zaN HKP.out hhit;have HPUT9:=hid hput9;obtain⟨rfl,rfl⟩:s.putRole ⟨u.name,je u.perms p⟩=s'/\0=ec:=by have:=HRS.out;cases this;exact⟨rfl,rfl⟩
       obtain⟨W6,hW6⟩:=zex ((w5.alloc (.cells #[.int .i32 p.kind,.slice kp kn kc,.slice ep en ec2] 112)).drew);obtain⟨q2,hq2⟩:=zex (w5.heap.size);have e3':=K35.out;have e4':=K45.out;have HW6:=hid hW6;have HQ2:=hid hq2;clear hW6 hq2 hput9 hhit;go_upto_region 14 with fail
       go_cut [9]from 124 to 146 (λc wx=>c=ptr q2/\wx=W6)
       case first=>
        refine wp_region_noPanic ?_;go_region
        all_goals refine NoPanic.normal ?_
        all_goals
         go_wp2_with fail;go_meet;rw[HW6.out,HQ2.out];exact⟨rfl,rfl⟩
       case rest=>
        obtain⟨rfl,hwc⟩:=hcut;rw[hwc];clear hwc;have hn56:za w5 W6:=by rw[HW6.out];exact((za.refl w5).alloc _).drew
        have hrq:W6.heap[q2]? =some (.cells #[.int .i32 p.kind,.slice kp kn kc,.slice ep en ec2] 112 (0,0)):=by rw[HW6.out,HQ2.out];exact zg w5 _
        have hx6:xG l.some w1 W6 b u.name u.perms nv (.slice rp rn3 rc) ids:=(HU5.out.new hn56).rolX (HN5.out.trans hn56) HW3.out.2.1 HW3.out.2.2.1 (λj hj=>H1.out.bnd j hj);have hbq:b<q2:=by rw[HQ2.out];exact(Array.getElem?_eq_some_iff.1 HU5.out.row).1
        have hrvq:∀z,(Value.slice rp rn3 rc).ownBlock=some z->z<q2:=λz hz=>by rw[HQ2.out];exact(World.ownsRow.lt HU5.out.own z hz).2
        have hcrl:cr<W6.heap.size:=(Array.getElem?_eq_some_iff.1 (hn56.heap HCR5.out)).1;have hw1:w.heap.size<=w1.heap.size:=HN1.out.size;have hpq:∀o,jx (im (EX l.some b (.slice rp rn3 rc)) (W6.alloc o).drew) q2 p:=λo=>by
         have hn6:za W6 (W6.alloc o).drew:=((za.refl W6).alloc o).drew;obtain⟨f0,f1,f2,_⟩:=Ux (hn6.heap hrq);have hq': ¬EX l.some b (.slice rp rn3 rc) q2:=by
          rintro(e|e|e)
          ·have h1:=H1.out.bnd q2 e;have h2:=HN5.out.size;rw[HQ2.out]at h1;omega
          ·omega
          ·have:=hrvq _ e;omega
         have hle:(im l.some w).le (im (EX l.some b (.slice rp rn3 rc)) (W6.alloc o).drew):=zd4 (za.im (((HN1.out.trans HN5.out).trans hn56).trans hn6) l.some) (by have:=HW3.out.2.1;omega) (λz hz=>by have:=(World.ownsRow.lt hx6.own z hz).1;omega);exact⟨zi.2 ⟨hq',f0⟩,⟨_,zi.2 ⟨hq',f1⟩,HPK.out.mono hle⟩,_,zi.2 ⟨hq',f2⟩,HPE.out.mono hle⟩
        have HPQ:=hid hpq;have HX6:=hid hx6;obtain⟨x0',x1',y0',y1'⟩:=qT hx6.row;have c06:W6.cell? ⟨cr,0,none⟩=some (ptr b):=hn56.le _ _ c0;have c06a:∀o,(W6.alloc o).drew.cell? ⟨cr,0,none⟩=some (ptr b):=λo=>za.le (((za.refl W6).alloc o).drew) _ _ c06;have x1a:∀o,(W6.alloc o).drew.cell? ⟨b,1,none⟩=some (.slice rp rn3 rc):=λo=>za.le (((za.refl W6).alloc o).drew) _ _ x1';have HCR6:=hid (hn56.heap HCR5.out);have HBD:Hid (((ids.map ptr).length+[ptr q2].length)*(8+1)<=140737488355328):=hid (by have h1:=HFW.out;have h2:=HIL.out;rw[List.length_map,List.length_singleton];omega)
        have HCRL:=hid hcrl;have hg5:∀w5':World,(W6.alloc (.cells #[ptr q2] 72)).drew.grownBy w5' (Value.slice rp rn3 rc).ownBlock->w5'.cell? ⟨cr,0,none⟩=some (ptr b):=λw5' hg=>by have hcl:cr<(W6.alloc (.cells #[ptr q2] 72)).drew.heap.size:=Nat.lt_of_lt_of_le HCRL.out (((za.refl W6).alloc _).drew).size;have h9:=((zo.of_grown hg).block cr hcl (λe=>HW3.out.2.2.2.2.2 e)).trans (za.heap (((za.refl W6).alloc _).drew) HCR6.out);rw[cell_of_row w5' cr 0 _ _ (0,0) h9];rfl
        have HG5:=hid hg5;clear hg5;clear hn56 hrq hx6 hbq hrvq hcrl hw1 hpq x0 x1 y0 y1 c0 k0 k1 k2 e3' e4';go_upto_region 15 with fail
        go_cut []from 147 to 156 (λwx=>∃p7 n7 c7,xG l.some w1 wx b u.name (u.perms++[p]) nv (.slice p7 n7 c7) (ids++[q2])/\wx.heap[cr]? =some (.cells #[ptr b] 223 (0,0))/\(Value.slice p7 n7 c7).ownBlock≠some cr)
        case first=>
         refine wp_region_noPanic ?_;go_region_law (refine Zj KZ rfl rfl (Ze (World.ownsRow.alloc (qK HX6.out.own 0 (Nat.zero_le _)) _)) rfl rfl (news:=[ptr q2]) (Sl.drew (Sl.made W6 [ptr q2] _ 1 1 rfl (by decide))) gG HBD.out ?_;intro v5 w5' ho hg hf5;obtain⟨p7,n7,c7,rfl⟩:=(Sl.of_own ho).shape;obtain⟨hrow5,hx7⟩:=xG.app HX6.out (((za.refl W6).alloc _).drew) (HPQ.out _) ho hg hf5;obtain⟨_,z1,_,z1f⟩:=qT hrow5;have zc:=HG5.out _ hg;have HALL7:=hid (And.intro hx7 (And.intro hg hf5));clear ho hg hf5 hrow5 hx7)
         all_goals refine NoPanic.normal ?_
         all_goals
          go_wp2_with fail;go_meet;obtain⟨hx7,hg,hf5⟩:=HALL7.out;have hcl:cr<(W6.alloc (.cells #[ptr q2] 72)).drew.heap.size:=Nat.lt_of_lt_of_le HCRL.out (((za.refl W6).alloc _).drew).size;refine⟨p7,n7,c7,hx7,?_,λe=> ?_⟩
          ·rw[Below.heap_setCell _ _ _ _ (show cr≠b from HW3.out.2.2.2.1),(zo.of_grown hg).block cr hcl (λe=>HW3.out.2.2.2.2.2 e)];exact za.heap (((za.refl W6).alloc _).drew) HCR6.out
          ·rcases hf5 _ e with e2|e2
           ·exact HW3.out.2.2.2.2.2 e2
           ·omega
        case rest=>
         obtain⟨p7,n7,c7,hx7,hcr7,hne7⟩:=hcut;obtain⟨W7,hW7⟩:=zex (wc);rw[<-hW7]at hx7 hcr7⊢;clear hW7 x0' x1' y0' y1' c06 c06a x1a;obtain⟨v0,v1,_,_⟩:=qT hx7.row;have c7':W7.cell? ⟨cr,0,none⟩=some (ptr b):=by rw[cell_of_row W7 cr 0 _ _ (0,0) hcr7];rfl
         have HSO:=hid (U9 hx7 HIL.out HWK.out HFW.out);have HCR7:=hid (And.intro hcr7 hne7);clear hx7 hcr7 hne7;go_upto_region 16 with fail
         go_wp2_with fail;refine HSO.out.mono ?_;rintro e w8 ⟨rfl,hm8,ids8,hx8⟩;have HN9:Hid (za w1 w8):=hid hx8.new;have HAT9:Hid (jz (im l.some w8) b ⟨u.name,je u.perms p⟩):=hid (by rw[HPUT9.out];exact hx8.role λj hj=>H1.out.bnd j hj);have c9:w8.cell? ⟨cr,0,none⟩=some (ptr b):=by have hr9:w8.heap[cr]? =some (.cells #[ptr b] 223 (0,0)):=(hm8.block cr (Array.getElem?_eq_some_iff.1 HCR7.out.1).1 HCR7.out.2).trans HCR7.out.1;rw[cell_of_row w8 cr 0 _ _ (0,0) hr9];rfl
         clear hm8 hx8 v0 v1 c7';have hff:=HF.out;have hfu:ya {s with roles:=yT zm.name s.roles ⟨u.name,je u.perms p⟩}:=⟨hff.us,hff.rs,hff.uok,hff.rok,hff.ul,hff.rl,H.out.fine.rev⟩;have huok:kD ⟨u.name,je u.perms p⟩:=hff.rok _ ((qB H.out.fine.rs).2 (Or.inl rfl));have HPU:=hid (xY (HMID.out.new HN9.out) (by decide) (by decide) HAT9.out huok hfu);have HSW:=hid ((zr.new H.out.bnd HN1.out).trans (zr.new H1.out.bnd HN9.out));have HFR:=hid (show s.rev+1<200 from hff.rev);clear hff hfu huok;go_wp2_with fail;refine HPU.out.mono ?_;rintro e w4' ⟨rfl,l4,hs4,hm4⟩;have HS4:=hid (HSW.out.trans hs4.s);have HC4:=hid (yE hm4 (by decide) (by simp[kB,jL]) HFR.out);clear hs4 hm4;go_wp2_with fail;refine HC4.out.mono ?_;rintro e w5 ⟨rfl,l5,A5,hs5,hm5⟩;have HS5:=hid (HS4.out.trans hs5);have HC5:=hid (qY hm5 HS.out);clear hs5 hm5;go_wp2_with fail;refine HC5.out.mono ?_;rintro e w6 ⟨rfl,l6,m6,hs6,hm6,hc6⟩
         have HS6:=hid (HS5.out.trans hs6);have HM6:=hid (And.intro hm6 hc6);clear hs6 hm6 hc6;go_wp2;have hnq:∀o,za w6 (w6.alloc o):=λo=>(za.refl w6).alloc o;refine leaves_cons (f:=261) (args:= #[ptr x]) (by simp) (hi _) ?_;refine(yJ (HM6.out.1.new (hnq _)) HS.out (HM6.out.2.step HM6.out.1.bnd (zr.new HM6.out.1.bnd (hnq _))) (by decide) (jV (by decide) _)).mono ?_;rintro e u' w'' ⟨rfl,rfl,l7,I7,hI7,hs7,hs8⟩;exact⟨_,results_tmp2 rfl _ _ _,_,rfl,l7,I7,hI7,(HS6.out.trans (zr.new HM6.out.1.bnd (hnq _))).trans hs7,hs8⟩
theorem Zv(a:Nat)(W:World):(method 608 142 (ptr a) "RoleGrantPermission").run prog W=.ok (168,ptr a) W:=by kernel_rfl
theorem Xn{w:World}{I:zN}{s:zA}(h:Wd l w x I a s)(hk:o.kind=11)(hp:o.noPerm=true):
  Calls prog 42 #[ptr x,o.val] w (Yd l w x I s 9):=by
 obtain⟨ki,us,ro,pk,ke,st,np,od,nu⟩:=o;dsimp only at hk hp;subst hk hp;unfold zH.val zH.cells;dsimp only;obtain⟨c0,c1,c2,_⟩:=vZ h.row;obtain⟨rx,hrx⟩:∃z,zb ro=.string z:=⟨_,rfl⟩;obtain⟨cc,hcc⟩:=zex (#[.int .i64 11,zb us,zb ro,.int .i64 pk,zb ke,zb st,.bool true,.int .i64 od,.bool nu]);obtain⟨w1,hw1⟩:=zex (w.alloc (.cells cc 35));have hn1:za w w1:=by rw[hw1];exact(za.refl w).alloc _
 have hb0:w1.heap[w.heap.size]? =some (.cells cc 35 (0,0)):=by rw[hw1];exact zg w _
 have g0:w1.cell? ⟨w.heap.size,0,none⟩=some (.int .i64 11):=by rw[cell_of_row w1 _ 0 _ _ (0,0) hb0,hcc];rfl
 have g2:w1.cell? ⟨w.heap.size,2,none⟩=some (.string rx):=by rw[cell_of_row w1 _ 2 _ _ (0,0) hb0,hcc,hrx];rfl
 have g6:w1.cell? ⟨w.heap.size,6,none⟩=some (.bool true):=by rw[cell_of_row w1 _ 6 _ _ (0,0) hb0,hcc];rfl
 obtain⟨w2,hw2⟩:=zex (w1.alloc (.cells #[.string rx,.pointer none] 193));have hn2:za w1 w2:=by rw[hw2];exact(za.refl w1).alloc _
 have hrow:w2.heap[w1.heap.size]? =some (.cells #[.string rx,.pointer none] 193 (0,0)):=by rw[hw2];exact zg w1 _
 have p2:=(hn1.trans hn2).le _ _ c2;have p6:=hn2.le _ _ g6;have hC:Calls prog 168 #[ptr a,ptr w1.heap.size] w2 λe w'=>∃v,e=.returned (.tuple #[v,ze 9])/\(∃l' I' a',I'.db=I.db/\qG l w l' w'/\Wd l' w' x I' a' s):=by
  have hz1: ¬l.some w1.heap.size:=λe=>by have:=h.st.bnd _ e;have:=hn1.size;omega
  refine(Ja (h.new (hn1.trans hn2)).st (rb:=w1.heap.size) (zi.2 ⟨hz1,by rw[cell_of_row w2 _ 1 _ _ (0,0) hrow];rfl⟩)).mono λe w' hc=> ?_;obtain⟨v,he,hend,_⟩:=VZ.w h (hn1.trans hn2) hc;exact⟨v,he,hend⟩
 have HC:=hid hC;have HW1:=hid hw1;have HW2:=hid hw2;have HCC:=hid hcc;have hme:=Zv a;clear h hcc hn1 hb0 c0 c1 c2 hC hw2 hn2 hrow hrx;obtain⟨ob,hob⟩:=zex (w.heap.size);rw[<-hob]at g0 g2 g6 p6;go_enter func42,ntmps42;go_upto_region 2 with fail
 rw[<-HCC.out,<-HW1.out,<-hob];clear hob hw1;obtain⟨va,hva⟩:=zex (Value.agg cc);rw[<-hva];clear hva;go_upto_region 21 with fail
 rw[<-HW2.out];clear g0 g2 g6;go_wp2_with fail;refine HC.out.mono ?_;rintro e w9 ⟨v,rfl,hend⟩;have HEND:=hid hend;clear hend;go_wp2;go_returns;exact⟨rfl,HEND.out⟩
theorem Xo{w:World}{I:zN}{s:zA}(h:Wd l w x I a s)(hk:o.kind=11)(hp:o.noPerm=false)(hr:vI s o.role (some ⟨o.pk.toNat,o.key,o.stop⟩)=(s',ec))(hn:o.role.length<=1000)(hp0:0<=o.pk)(hp2:o.pk<=2)(hkl:o.key.length<=1000)(hsl:o.stop.length<=1000)(hf:ya s')(hs:yD s')(hsn:yD s)(hfew:∀r∈s.roles,r.perms.length<=11):
  Calls prog 42 #[ptr x,o.val] w (Yd l w x I s' ec):=by
 obtain⟨ki,us,ro,pk,ke,st,np,od,nu⟩:=o;dsimp only at hk hp hr hn hp0 hp2 hkl hsl;subst hk hp;unfold zH.val zH.cells;dsimp only;obtain⟨c0,c1,c2,_⟩:=vZ h.row;obtain⟨rx,hrx⟩:∃z,zb ro=.string z:=⟨_,rfl⟩;obtain⟨kx,hkx⟩:∃z,zb ke=.string z:=⟨_,rfl⟩;obtain⟨sx,hsx⟩:∃z,zb st=.string z:=⟨_,rfl⟩;obtain⟨cc,hcc⟩:=zex (#[.int .i64 11,zb us,zb ro,.int .i64 pk,zb ke,zb st,.bool false,.int .i64 od,.bool nu]);obtain⟨w1,hw1⟩:=zex (w.alloc (.cells cc 35));have hn1:za w w1:=by rw[hw1];exact(za.refl w).alloc _
 have hs1:w1.heap.size=w.heap.size+1:=by rw[hw1];exact Array.size_push ..
 have hb0:w1.heap[w.heap.size]? =some (.cells cc 35 (0,0)):=by rw[hw1];exact zg w _
 have g0:w1.cell? ⟨w.heap.size,0,none⟩=some (.int .i64 11):=by rw[cell_of_row w1 _ 0 _ _ (0,0) hb0,hcc];rfl
 have g2:w1.cell? ⟨w.heap.size,2,none⟩=some (.string rx):=by rw[cell_of_row w1 _ 2 _ _ (0,0) hb0,hcc,hrx];rfl
 have g3:w1.cell? ⟨w.heap.size,3,none⟩=some (.int .i64 pk):=by rw[cell_of_row w1 _ 3 _ _ (0,0) hb0,hcc];rfl
 have g4:w1.cell? ⟨w.heap.size,4,none⟩=some (.string kx):=by rw[cell_of_row w1 _ 4 _ _ (0,0) hb0,hcc,hkx];rfl
 have g5:w1.cell? ⟨w.heap.size,5,none⟩=some (.string sx):=by rw[cell_of_row w1 _ 5 _ _ (0,0) hb0,hcc,hsx];rfl
 have g6:w1.cell? ⟨w.heap.size,6,none⟩=some (.bool false):=by rw[cell_of_row w1 _ 6 _ _ (0,0) hb0,hcc];rfl
 obtain⟨w2,hw2⟩:=zex (w1.alloc (.cells #[.string rx,.pointer none] 193));have hn2:za w1 w2:=by rw[hw2];exact(za.refl w1).alloc _
 have hs2:w2.heap.size=w1.heap.size+1:=by rw[hw2];exact Array.size_push ..
 have hrow:w2.heap[w1.heap.size]? =some (.cells #[.string rx,.pointer none] 193 (0,0)):=by rw[hw2];exact zg w1 _
 have p3:=hn2.le _ _ g3;have p4:=hn2.le _ _ g4;have p5:=hn2.le _ _ g5;have p6:=hn2.le _ _ g6;have hP:=zb5 (w:=w2) hp0 hp2 hkl hsl;unfold zas at hP;rw[hkx,hsx]at hP;have hC:∀(w3:World) (pb:Nat),za w2 w3->w2.heap.size<=pb->(∀S:Nat->Prop,(∀j,S j->j<w2.heap.size)->jx (im S w3) pb ⟨pk.toNat,ke,st⟩)->Calls prog 168 #[ptr a,ptr w1.heap.size] (w3.setCell ⟨w1.heap.size,1,none⟩ (ptr pb)) λe w'=>∃v,e=.returned (.tuple #[v,ze ec])/\(∃l' I' a',I'.db=I.db/\qG l w l' w'/\Wd l' w' x I' a' s'):=λw3 pb hn3 hpb hpa=>by
  obtain⟨W,hW⟩:=zex (w3.setCell ⟨w1.heap.size,1,none⟩ (ptr pb));rw[<-hW];have hz1: ¬l.some w1.heap.size:=λe=>by have:=h.st.bnd _ e;omega
  have hm:zo (· =w1.heap.size) w3 W:=by rw[hW];exact vA (S:=(· =w1.heap.size)) (zo.refl _ _) rfl _
  have hnW:za w W:=zo.trans (za.trans (za.trans hn1 hn2) hn3) hm λb hb e=>by have e:b=w1.heap.size:=e;omega
  have hr3:W.heap[w1.heap.size]? =some (.cells #[.string rx,ptr pb] 193 (0,0)):=by rw[hW];exact heap_setCell_same w3 _ 1 _ _ _ (hn3.heap hrow)
  have hle:(im (λj=>l j≠0\/j=w1.heap.size) w3).le (im l.some W):=(hm.mono (S':=λj=>l j≠0\/j=w1.heap.size) λj _ e=>Or.inr e).im λj _ e=>Or.inl e;have hpa2:=hpa (λj=>l j≠0\/j=w1.heap.size) (λj e=>by
   rcases e with e|e
   ·have:=h.st.bnd _ e;omega
   ·omega)
  refine(Jb (h.new hnW).st hr hn (rb:=w1.heap.size) (zi.2 ⟨hz1,by rw[hrx,cell_of_row W _ 0 _ _ (0,0) hr3];rfl⟩) ⟨pb,zi.2 ⟨hz1,by rw[cell_of_row W _ 1 _ _ (0,0) hr3];rfl⟩,hpa2.mono hle⟩ hf hs hsn hfew).mono λe w' hc=> ?_;obtain⟨v,he,hend,_⟩:=VZ.w h hnW hc;exact⟨v,he,hend⟩
 have hK:∀(w3:World),za w2 w3->w3.cell? ⟨w1.heap.size,1,none⟩=some (.pointer none)/\w3.frozen? ⟨w1.heap.size,1,none⟩=false/\∀v,(w3.setCell ⟨w1.heap.size,1,none⟩ v).cell? ⟨x,2,none⟩=some (.iface 142 (ptr a)):=λw3 hn3=>by have hr3:=hn3.heap hrow;have hxl:x<w.heap.size:=(Array.getElem?_eq_some_iff.1 h.row).1;refine⟨by rw[cell_of_row w3 _ 1 _ _ (0,0) hr3];rfl,by simp[World.frozen?,hr3],λv=> ?_⟩;have hm:zo (· =w1.heap.size) w3 (w3.setCell ⟨w1.heap.size,1,none⟩ v):=vA (S:=(· =w1.heap.size)) (zo.refl _ _) rfl _;exact hm.cell (p:=⟨x,2,none⟩) (λe=>by have e:x=w1.heap.size:=e;omega) (((hn1.trans hn2).trans hn3).le _ _ c2)
 have HP:=hid hP;have HC:=hid hC;have HK:=hid hK;have HW1:=hid hw1;have HW2:=hid hw2;have HCC:=hid hcc;have hme:=Zv a;clear h hcc hn1 hb0 c0 c1 c2 hC hw2 hn2 hrow hrx hkx hsx hr hf hs hsn hfew hK hP hs1 hs2;obtain⟨ob,hob⟩:=zex (w.heap.size);rw[<-hob]at g0 g2 g3 g4 g5 g6 p3 p4 p5 p6;go_enter func42,ntmps42;go_upto_region 2 with fail
 rw[<-HCC.out,<-HW1.out,<-hob];clear hob hw1;obtain⟨va,hva⟩:=zex (Value.agg cc);rw[<-hva];clear hva;go_upto_region 21 with fail
 rw[<-HW2.out];clear g0 g2 g3 g4 g5 g6;go_wp2_with fail;refine HP.out.mono ?_;rintro e w3 ⟨pb,rfl,hn3,hpb,hpa⟩;obtain⟨q1,z1,q2⟩:=HK.out w3 hn3;have q2:=q2 (ptr pb);have HC3:=hid (HC.out w3 pb hn3 hpb hpa);clear hn3 hpb hpa;obtain⟨w4,hw4⟩:=zex (w3.setCell ⟨w1.heap.size,1,none⟩ (ptr pb));rw[<-hw4]at HC3 q2;have HW4:=hid hw4;clear hw4;go_upto_region 23 with fail
 rw[<-HW4.out];clear q1 z1;go_wp2_with fail;refine HC3.out.mono ?_;rintro e w9 ⟨v,rfl,hend⟩;have HEND:=hid hend;clear hend;go_wp2;go_returns;exact⟨rfl,HEND.out⟩
theorem Kt(a:Nat)(W:World):(method 608 142 (ptr a) "RoleList").run prog W=.ok (169,ptr a) W:=by kernel_rfl
theorem zaZ{w:World}{I:zN}{s:zA}(h:Wd l w x I a s)(hk:o.kind=14)(hlt:∀r∈s.roles,zt r.name [255]<0):
  Calls prog 33 #[ptr x,o.val] w (fZ l w x I (s,⟨0,s.rev,s.on,false,s.roles.map (·.name),[]⟩)):=by
 obtain⟨ki,us,ro,pk,ke,st,np,od,nu⟩:=o;dsimp only at hk;subst hk;unfold zH.val zH.cells;dsimp only;obtain⟨cc,hcc⟩:=zex (#[.int .i64 14,zb us,zb ro,.int .i64 pk,zb ke,zb st,.bool np,.int .i64 od,.bool nu]);obtain⟨l1,H⟩:=yZ.start h cc;obtain⟨W0,hW0⟩:=zex (((w.alloc (.cells cc 35)).alloc (.cells qR 42)).alloc (.cells qR 42));rw[<-hW0]at H;have c2:=H.cell;have g0:W0.cell? ⟨w.heap.size,0,none⟩=some (.int .i64 14):=(H.ocell 0).trans (by rw[hcc];rfl);have hn1:za W0 (W0.alloc (.cells #[] 117)):=(za.refl W0).alloc _;have H1:=H.new hn1;have HC:=hid (H.names hn1 (fN H1.wd.st hlt (rb:=W0.heap.size)));have HH:=hid H;have HW0:=hid hW0;have HCC:=hid hcc;have m1:=qd;have m2:=qw;have m3:=Kt a;clear h hcc hW0 H H1 hn1 hlt;go_enter func33,ntmps33;go_upto_region 3 with fail
 rw[<-HCC.out,<-(show qR= #[.int .i64 0,.int .u64 0,.bool false,.bool false,.slice none 0 0,.slice none 0 0]from rfl),<-HW0.out];obtain⟨va,hva⟩:=zex (Value.agg cc);obtain⟨vz,hvz⟩:=zex (Value.agg qR);rw[<-hva,<-hvz];clear hva hvz;go_wp2_with fail;refine HC.out.mono ?_;rintro e w2 ⟨b,p,n,c,rfl,⟨l2,I2,h2,hsl⟩,d0,d4,z4⟩;obtain⟨W2,hW2⟩:=zex (w2.setCell ⟨w.heap.size+1+1,4,none⟩ (.slice p n c));have h2':=h2.setNames hsl;rw[<-hW2]at h2';have H2:=hid h2';have HW2:=hid hW2;unfold jf at d4;clear h2 h2' hsl hW2 c2 g0;go_upto_region 37 with fail
 rw[<-HW2.out];obtain⟨ec,hec0⟩:∃e:Nat,e=0:=⟨_,rfl⟩;have HEC0:=hid hec0;have HEC:=hid (show ec<=15 by omega);have HEV0:=hid (show ze ec=.nilIface from by rw[hec0];rfl);clear hec0;obtain⟨W3,hW3⟩:=zex (W2.setCell ⟨w.heap.size+1+1,0,none⟩ (.int .i64 (ec:Nat)));have h3:=H2.out.setErr (ec);rw[<-hW3]at h3;obtain⟨W4,hW4⟩:=zex (W3.setCell ⟨w.heap.size+1+1,1,none⟩ (.int .u64 (s.rev:Nat)));have h4:=h3.setRev s.rev;rw[<-hW4]at h4;obtain⟨W5,hW5⟩:=zex (W4.setCell ⟨w.heap.size+1+1,2,none⟩ (.bool s.on));have h5:=h4.setOn s.on;rw[<-hW5]at h5;have a0:=H2.out.acell 0;have z0:=H2.out.afree 0;have b0:W3.cell? ⟨w.heap.size,0,none⟩=some (.int .i64 14):=(h3.ocell 0).trans (by rw[HCC.out];rfl);have HK:=hid (show Calls prog 43 #[.nilIface] W2 _ from by rw[<-HEV0.out];exact vq (w:=W2) HEC.out);have HR:=hid h3.rev;have HO:=hid h4.on;have H3:=hid h3;have H4:=hid h4;have H5:=hid h5;have HW3:=hid hW3;have HW4:=hid hW4
 have HW5:=hid hW5;clear h3 h4 h5 hW3 hW4 hW5;have a0:W2.cell? ⟨w.heap.size+1+1,0,none⟩=some (.int .i64 0):=a0;go_wp2_with fail;refine HK.out.mono ?_;rintro e w9 ⟨rfl,rfl⟩;go_upto_region 38 with fail
 rw[<-HW3.out];clear a0 z0;have q2:=H3.out.cell;have a1:W3.cell? ⟨w.heap.size+1+1,1,none⟩=some (.int .u64 0):=H3.out.acell 1;have z1:=H3.out.afree 1;go_wp2_with fail;refine HR.out.mono ?_;rintro e w9 ⟨rfl,rfl⟩;go_upto_region 41 with fail
 rw[<-HW4.out];clear q2 a1 z1;have q2:=H4.out.cell;have a2:W4.cell? ⟨w.heap.size+1+1,2,none⟩=some (.bool false):=H4.out.acell 2;have z2:=H4.out.afree 2;go_wp2_with fail;refine HO.out.mono ?_;rintro e w9 ⟨rfl,rfl⟩;go_upto_region 42 with fail
 rw[<-HW5.out];clear q2 a2 z2;have k0:=H5.out.acell 0;have r0:=H5.out.rcell 0;have f0:=H5.out.rfree 0;have k1:=H5.out.acell 1;have r1:=H5.out.rcell 1;have f1:=H5.out.rfree 1;have k2:=H5.out.acell 2;have r2:=H5.out.rcell 2;have f2:=H5.out.rfree 2;have k3:=H5.out.acell 3;have r3:=H5.out.rcell 3;have f3:=H5.out.rfree 3;have k4:=H5.out.acell 4;have r4:=H5.out.rcell 4;have f4:=H5.out.rfree 4;have k5:=H5.out.acell 5;have r5:=H5.out.rcell 5;have f5:=H5.out.rfree 5;simp only[xH,qR,Ko,jf,List.getElem?_toArray,List.getElem?_cons_zero,List.getElem?_cons_succ]at k0 k1 k2 k3 k4 k5 r0 r1 r2 r3 r4 r5;go_wp2;exact H5.out.leave (by rw[HEC0.out];rfl) rfl rfl
end Go.Proofs.YtbmdoinjkligiaaGreat
