/- Contracts and laws that the last text joins. -/
import Derived.Test.YtbmdoinjkligiaaGreatM24
set_option maxRecDepth 100000
set_option maxHeartbeats 40000000
set_option linter.all false
namespace Go.Proofs.YtbmdoinjkligiaaGreat
open Tryz
open Lib(hid)
open Go.RowKit
theorem zaC:yy prog 393 223 (.pointer none) 1 8:=⟨by kernel_rfl,by kernel_rfl,rfl,by decide⟩
def fE(S:Nat->Prop)(w w':World)(us:List zm)(v:Value):Prop:=
 ∃bs:List Nat,Sl w'.cell? 1 (bs.map ptr) v/\(∀q,v.ownBlock=some q->w.heap.size<=q)/\qz (λu b=>w.heap.size<=b/\jw (im (λj=>S j) w') b u) us bs
structure QJ(S:Nat->Prop)(w W1 wr:World)(ub n:Nat)(us:List zm)(k:Nat)(bs:List Nat):Prop where
 len:bs.length=k
 mod:zq (· =ub) W1 wr
 row:wr.heap[ub]? =some (.cells (bs.map ptr++List.replicate (n-k) (Value.pointer none)).toArray 223 (0,0))
 all:qz (λu b=>w.heap.size<=b/\jw (im (λj=>S j\/j=ub) wr) b u) (us.take k) bs
variable{S:Nat->Prop}{k n ub:Nat}{nv:Value}{w5 wr:World}
theorem QJ.step{w W1:World}{us:List zm}{bs:List Nat}(h:QJ S w W1 wr ub n us k bs)(hS:∀j,S j->j<w.heap.size)(hu:w.heap.size<=ub)(LF:ub<W1.heap.size)(hk:k<us.length)(ph:k<n){rv:Value}{ids:List Nat}
  (hw:w.heap.size<=wr.heap.size)(nI:Z3 (λ_=>False) (wr.alloc JJ) w5 wr.heap.size ((us[k]).name,(us[k]).perms) nv rv ids):QJ S w W1 (w5.setCell ⟨ub,k,none⟩ (ptr wr.heap.size)) ub n us (k+1) (bs++[wr.heap.size]):=by
 have pL:(wr.alloc JJ).heap.size=wr.heap.size+1:=Array.size_push ..
 have pz:za wr w5:=zq.trans ((za.refl wr).alloc _) nI.mod λj hj e=>by omega
 have mG:ub<wr.heap.size:=Nat.lt_of_lt_of_le LF h.mod.size;have Se:=kP (λj=>S j\/j=ub) w5 ⟨ub,k,none⟩ (Or.inr rfl) (ptr wr.heap.size);refine⟨by simp[h.len],(zq.trans h.mod (za.mod pz _) λ_ _ e=>e).setCell (λ_=>rfl) _,?_,?_⟩
 ·rw[heap_setCell_same w5 ub k _ _ _ (pz.heap h.row),KZ h.len ph]
 ·rw[List.take_succ_eq_append_getElem hk];refine(h.all.mono λu b ⟨h1,h2⟩=>⟨h1,(h2.mono (za.im pz _)).mono Se⟩).append (.cons ⟨hw,?_⟩ .nil);exact(nI.at (S:=λj=>S j\/j=ub) λj hj=>by
   rw[pL];rcases hj with hj|hj
   ·have:=hS j hj;omega
   ·omega).mono Se
theorem zbQ{w:World}(hS:∀j,S j->j<w.heap.size):za w ((w.alloc (.cells #[.int .u8 0] 5)).alloc (.cells #[.int .u8 255] 5)).drew/\Bs (im S ((w.alloc (.cells #[.int .u8 0] 5)).alloc (.cells #[.int .u8 255] 5)).drew) [0] (.slice (some ⟨w.heap.size,0,none⟩) 1 1)/\Bs (im S ((w.alloc (.cells #[.int .u8 0] 5)).alloc (.cells #[.int .u8 255] 5)).drew) [255] (.slice (some ⟨w.heap.size+1,0,none⟩) 1 1):=by
 obtain⟨v1,h1⟩:=zex (w.alloc (.cells #[.int .u8 0] 5));have s1:v1.heap.size=w.heap.size+1:=by rw[h1];exact Array.size_push ..
 have b1:Bs v1.cell? [0] (.slice (some ⟨w.heap.size,0,none⟩) 1 1):=by rw[h1];exact xg (w:=w) (l:=[0]) (n:=1) rfl (by decide)
 have b2:Bs (v1.alloc (.cells #[.int .u8 255] 5)).cell? [255] (.slice (some ⟨w.heap.size+1,0,none⟩) 1 1):=by have:=xg (w:=v1) (T:=5) (fr:=(0,0)) (l:=[255]) (n:=1) rfl (by decide);rw[s1]at this;exact this
 have n1:za w v1:=by rw[h1];exact(za.refl w).alloc _
 have n2:za v1 (v1.alloc (.cells #[.int .u8 255] 5)).drew:=((za.refl v1).alloc _).drew;rw[<-h1];exact⟨n1.trans n2,(b1.mono (za.le n2)).im_of λj e=>by cases e;exact λe2=>Nat.lt_irrefl _ (hS _ e2),(show Bs (v1.alloc (.cells #[.int .u8 255] 5)).drew.cell? [255] _ from b2).im_of λj e=>by cases e;exact λe2=>by have:w.heap.size+1<w.heap.size:=hS _ e2;omega⟩
theorem zbR{w:World}(hS:∀j,S j->j<w.heap.size):za w ((w.alloc (.cells #[.int .u8 255] 5)).alloc (.cells #[.int .u8 0] 5)).drew/\Bs (im S ((w.alloc (.cells #[.int .u8 255] 5)).alloc (.cells #[.int .u8 0] 5)).drew) [0] (.slice (some ⟨w.heap.size+1,0,none⟩) 1 1)/\Bs (im S ((w.alloc (.cells #[.int .u8 255] 5)).alloc (.cells #[.int .u8 0] 5)).drew) [255] (.slice (some ⟨w.heap.size,0,none⟩) 1 1):=by
 obtain⟨v1,h1⟩:=zex (w.alloc (.cells #[.int .u8 255] 5));have s1:v1.heap.size=w.heap.size+1:=by rw[h1];exact Array.size_push ..
 have b1:Bs v1.cell? [255] (.slice (some ⟨w.heap.size,0,none⟩) 1 1):=by rw[h1];exact xg (w:=w) (l:=[255]) (n:=1) rfl (by decide)
 have b2:Bs (v1.alloc (.cells #[.int .u8 0] 5)).cell? [0] (.slice (some ⟨w.heap.size+1,0,none⟩) 1 1):=by have:=xg (w:=v1) (T:=5) (fr:=(0,0)) (l:=[0]) (n:=1) rfl (by decide);rw[s1]at this;exact this
 have n1:za w v1:=by rw[h1];exact(za.refl w).alloc _
 have n2:za v1 (v1.alloc (.cells #[.int .u8 0] 5)).drew:=((za.refl v1).alloc _).drew;rw[<-h1];exact⟨n1.trans n2,(show Bs (v1.alloc (.cells #[.int .u8 0] 5)).drew.cell? [0] _ from b2).im_of λj e=>by cases e;exact λe2=>(by have:w.heap.size+1<w.heap.size:=hS _ e2;omega),(b1.mono (za.le n2)).im_of λj e=>by cases e;exact λe2=>Nat.lt_irrefl _ (hS _ e2)⟩
variable{lg rc v:Value}
theorem DN{T:TypeId}{f:FuncId}{w:World}{us:List zm}(Hm:∀W,(method 608 T v "UnsafeRange").run prog W=.ok (f,rc) W)(PT:∀W,(nilAhead 608 T v "UnsafeRange").run prog W=.ok (some false) W)(PN:∀args W,(callFunc f args).run prog W=.ok (.enter f args) W)
  (hS:∀j,S j->j<w.heap.size)(hrg:∀W kv ev,za w W->Bs (im S W) [0] kv->Bs (im S W) [255] ev->Calls prog f #[rc,zF.roles.val,kv,ev,.int .i64 (-1)] W λe w'=>∃ks vs,e=.returned (.tuple #[ks,vs])/\za W w'/\qP (im S w') (us.map zm.enc) vs)(Hx:us.length<=1000)(ho:∀u∈us,kB u):
  Calls prog 274 #[lg,.iface T v] w λe w'=>∃uv,e=.returned uv/\za w w'/\fE S w w' us uv:=by
 obtain⟨a1,a2,a3⟩:=zbQ (S:=S) hS;obtain⟨b1,b2,b3⟩:=zbR (S:=S) hS;have HRA:=hid (hrg _ _ _ a1 a2 a3);have Rr:=hid (hrg _ _ _ b1 b2 b3);have td:=hid a1;have B9:=hid b1;have HA:=hid (λW=>kE W);have HO:=hid ho;have Ec:=hid hS;clear hrg a1 a2 a3 b1 b2 b3 ho hS;go_enter func274,ntmps274;go_upto_region 1 with fail
 go_cut [5,6]from 12 to 21 (λ_ c wx=>za w wx/\qP (im S wx) (us.map zm.enc) c)
 case first=>
  go_region_with (first|(go_at_call 217;refine(HA.out _).mono ?_;rintro e w1 ⟨rfl,rfl⟩)|(refine HRA.out.mono ?_;rintro e w1 ⟨ks,vs,rfl,hQ,TZ⟩;have Tg:=hid (And.intro (td.out.trans hQ) TZ);clear hQ TZ)|(refine Rr.out.mono ?_;rintro e w1 ⟨ks,vs,rfl,hQ,TZ⟩;have Tg:=hid (And.intro (B9.out.trans hQ) TZ);clear hQ TZ))
  all_goals(
   go_wp2_with fail;go_meet;exact Tg.out)
 case rest=>
  obtain⟨PK,tq⟩:=hcut;obtain⟨W0,py⟩:=zex (wc);rw[<-py]at PK tq⊢;clear py;obtain⟨cs,pW,He⟩:=tq;obtain⟨p,n8,c8,rfl⟩:=pW.shape;obtain⟨r9,A9⟩:=pW.addr;have h_:cs.length=us.length:=by rw[<-He.length,List.length_map]
  obtain⟨n,hn⟩:∃n,us.length=n:=⟨_,rfl⟩;have hao:n8=n:=by rw[<-r9,h_,hn]
  subst hao;have S_:=hid PK;have Ni:=hid (Sl.mono (zd _ _) pW);have Hu:=hid (He.mono λ_ _ e=>e.mono (zd _ _));have H7:=hid h_;have HN:=hid hn;have oQ:=hid A9;clear PK pW He h_ hn A9 r9 Hm PT PN HRA Rr td B9 HA;by_cases h0:n8=0
  ·subst h0;go_wp2;go_returns;refine⟨_,rfl,S_.out,[],Sl.nil _ _,(λq hq=>by cases hq),?_⟩;have:us=[]:=List.eq_nil_of_length_eq_zero HN.out;rw[this];exact .nil
  ·have Sr:=YP zaC rfl W0 n8 (by have:=HN.out;omega) (by have:=HN.out;omega);have h0':((n8:Int)==0)=false:=by simp;omega
   obtain⟨W1,PW⟩:=zex (W0.alloc (.cells (List.replicate n8 (Value.pointer none)).toArray 223));have hQ:za W0 W1:=by rw[PW];exact(za.refl W0).alloc _
   have Ps:W1.heap[W0.heap.size]? =some (.cells (List.replicate n8 (Value.pointer none)).toArray 223 (0,0)):=by rw[PW];exact zg W0 _
   rw[<-PW]at Sr;have lS:W0.heap.size<W1.heap.size:=(Array.getElem?_eq_some_iff.1 Ps).1;have rM:QJ S w W1 W1 W0.heap.size n8 us 0 []:=⟨rfl,zq.refl _ _,Ps,.nil⟩;have eN:w.heap.size<=W0.heap.size:=S_.out.size;have Hs:=hid hQ;have wP:=hid rM;clear PW hQ Ps rM;go_wp2;go_loopw [30] (λc wr=>∃(k:Nat) (bs:List Nat),k<=n8/\c=.int .i64 k/\QJ S w W1 wr W0.heap.size n8 us k bs) (λc _=>n8-(intOf c).toNat)
   case atStart=>exact⟨0,[],Nat.zero_le _,rfl,wP.out⟩
   case round=>
    obtain⟨k,bs,hk,rfl,hR⟩:=hrel;by_cases Hb:k<n8
    ·have P_:k<us.length:=by rw[HN.out];exact Hb
     have sD:k<cs.length:=by rw[H7.out];exact P_
     obtain⟨gb,go,rfl⟩:=oQ.out (by intro e;rw[e]at sD;simp at sD);have Lt:=Ni.out.cellAt k sD;have t_:=Hu.out.get k (by rw[List.length_map];exact P_) sD;rw[List.getElem_map]at t_;obtain⟨kp,kn,kc,Sh,_⟩:=t_.shape;rw[Sh]at Lt t_;have mZ:gb≠W0.heap.size:=λe=>by have h9:=World.block_lt_of_cell? W0 _ Lt;rw[e]at h9;exact Nat.lt_irrefl _ h9
     have dk:wr.cell? ⟨gb,go+k,none⟩=some (.slice kp kn kc):=hR.mod.cell (λe=>mZ e) (Hs.out.le _ _ Lt);have BQ:w.heap.size<=wr.heap.size:=by have:=hR.mod.size;omega
     have N_:W0.heap.size<wr.heap.size:=Nat.lt_of_lt_of_le lS hR.mod.size;have HU:=hid (Qp (w:=wr.alloc JJ) (r:=W0.cell?) (b:=wr.heap.size) (zg wr _) (λa y ha=>by have ng:=World.block_lt_of_cell? W0 a ha;refine zi.2 ⟨λe=>by have e:a.block=wr.heap.size:=e;omega,za.le ((za.refl wr).alloc _) _ _ (hR.mod.cell (λe=>by have e:a.block=W0.heap.size:=e;omega) (Hs.out.le _ _ ha))⟩) (HO.out _ (List.getElem_mem P_)) t_)
     unfold JJ at HU;have HR:=hid hR;have nJ:=hR.row;have Rk:(k:Int)<n8:=by omega
     have dkl:∀ob,(wr.alloc ob).cell? ⟨gb,go+k,none⟩=some (.slice kp kn kc):=λob=>za.le ((za.refl wr).alloc ob) _ _ dk;clear hR t_ Lt dk;go_wp2_with fail;refine HU.out.mono ?_;rintro e w5 ⟨rfl,nv,rv,ids,hu⟩;have tI:=hid hu;have pz:za wr w5:=zq.trans ((za.refl wr).alloc _) hu.mod λj hj e=>by omega
     have pe:=pz.heap nJ;have k5:∃x,w5.cell? ⟨W0.heap.size,k,none⟩=some x:=⟨_,by rw[cell_of_row w5 _ k _ _ (0,0) pe];exact Array.getElem?_eq_getElem (by have:=HR.out.len;simp;omega)⟩;obtain⟨x5,k5⟩:=k5;have f5:w5.frozen? ⟨W0.heap.size,k,none⟩=false:=by simp[World.frozen?,pe]
     clear hu pz pe nJ HU;go_wp2;go_roundw
     case rel=>exact⟨k+1,_,by omega,by go_num,HR.out.step Ec.out (by omega) lS P_ Hb BQ tI.out⟩
     case measure=>simp[intOf];omega
    ·have ph:k=n8:=by omega
     subst ph;have HR:=hid hR;clear hR;go_wp2;go_returns;have ii:za w wr:=zq.trans (S_.out.trans Hs.out) HR.out.mod λj hj e=>by omega
     have ng:=HR.out.all;rw[List.take_of_length_le (by rw[HN.out];exact Nat.le_refl _)]at ng;have hZ:=HR.out.row;rw[Nat.sub_self]at hZ;refine⟨_,rfl,ii,bs,?_,λq hq=> ?_,ng.mono λu b ⟨h1,h2⟩=>⟨h1,h2.mono (jn λj e=>Or.inl e)⟩⟩
     rotate_left
     ·have NT:W0.heap.size=q:=by simpa[Value.ownBlock]using hq
      omega
     refine⟨_,_,_,rfl,by simp[HR.out.len],Nat.le_refl _,by have:=HN.out;omega,(λh=>by cases h),Or.inr ⟨_,_,rfl,λi hi=> ?_⟩⟩;rw[cell_of_row wr _ _ _ _ (0,0) hZ,Nat.zero_add];simp only[List.replicate_zero,List.append_nil,List.getElem?_toArray];exact List.getElem?_eq_getElem hi
end Go.Proofs.YtbmdoinjkligiaaGreat
