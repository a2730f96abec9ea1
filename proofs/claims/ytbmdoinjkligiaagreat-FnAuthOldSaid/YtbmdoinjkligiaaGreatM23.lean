/- Contracts and laws that the last text joins. -/
import Derived.Test.YtbmdoinjkligiaaGreatM21
set_option maxRecDepth 100000
set_option maxHeartbeats 40000000
set_option linter.all false
namespace Go.Proofs.YtbmdoinjkligiaaGreat
open Tryz
open Lib(hid)
open Go.RowKit
theorem zaY:yB prog 393 223 (.pointer none) 1 8:=⟨by kernel_rfl,by kernel_rfl,rfl,by decide⟩
def fL(S:Nat->Prop)(w w':World)(us:List zm)(v:Value):Prop:=
 ∃bs:List Nat,Sl w'.cell? 1 (bs.map ptr) v/\(∀q,v.ownBlock=some q->w.heap.size<=q)/\qy (λu b=>w.heap.size<=b/\jz (im (λj=>S j) w') b u) us bs
structure QQ(S:Nat->Prop)(w W1 wr:World)(ub n:Nat)(us:List zm)(k:Nat)(bs:List Nat):Prop where
 len:bs.length=k
 mod:zo (· =ub) W1 wr
 row:wr.heap[ub]? =some (.cells (bs.map ptr++List.replicate (n-k) (Value.pointer none)).toArray 223 (0,0))
 all:qy (λu b=>w.heap.size<=b/\jz (im (λj=>S j\/j=ub) wr) b u) (us.take k) bs
variable{S:Nat->Prop}{k n ub:Nat}{nv:Value}{w5 wr:World}
theorem QQ.step{w W1:World}{us:List zm}{bs:List Nat}(h:QQ S w W1 wr ub n us k bs)(hS:∀j,S j->j<w.heap.size)(hu:w.heap.size<=ub)(hul:ub<W1.heap.size)(hk:k<us.length)(hkn:k<n){rv:Value}{ids:List Nat}
  (hw:w.heap.size<=wr.heap.size)(hut:Z_ (λ_=>False) (wr.alloc JO) w5 wr.heap.size ((us[k]).name,(us[k]).perms) nv rv ids):QQ S w W1 (w5.setCell ⟨ub,k,none⟩ (ptr wr.heap.size)) ub n us (k+1) (bs++[wr.heap.size]):=by
 have hsz:(wr.alloc JO).heap.size=wr.heap.size+1:=Array.size_push ..
 have hn5:za wr w5:=zo.trans ((za.refl wr).alloc _) hut.mod λj hj e=>by omega
 have hur:ub<wr.heap.size:=Nat.lt_of_lt_of_le hul h.mod.size;have hset:=kQ (λj=>S j\/j=ub) w5 ⟨ub,k,none⟩ (Or.inr rfl) (ptr wr.heap.size);refine⟨by simp[h.len],(zo.trans h.mod (za.mod hn5 _) λ_ _ e=>e).setCell (λ_=>rfl) _,?_,?_⟩
 ·rw[heap_setCell_same w5 ub k _ _ _ (hn5.heap h.row),K8 h.len hkn]
 ·rw[List.take_succ_eq_append_getElem hk];refine(h.all.mono λu b ⟨h1,h2⟩=>⟨h1,(h2.mono (za.im hn5 _)).mono hset⟩).append (.cons ⟨hw,?_⟩ .nil);exact(hut.at (S:=λj=>S j\/j=ub) λj hj=>by
   rw[hsz];rcases hj with hj|hj
   ·have:=hS j hj;omega
   ·omega).mono hset
theorem zcj{w:World}(hS:∀j,S j->j<w.heap.size):za w ((w.alloc (.cells #[.int .u8 0] 5)).alloc (.cells #[.int .u8 255] 5)).drew/\Bs (im S ((w.alloc (.cells #[.int .u8 0] 5)).alloc (.cells #[.int .u8 255] 5)).drew) [0] (.slice (some ⟨w.heap.size,0,none⟩) 1 1)/\Bs (im S ((w.alloc (.cells #[.int .u8 0] 5)).alloc (.cells #[.int .u8 255] 5)).drew) [255] (.slice (some ⟨w.heap.size+1,0,none⟩) 1 1):=by
 obtain⟨v1,h1⟩:=zex (w.alloc (.cells #[.int .u8 0] 5));have s1:v1.heap.size=w.heap.size+1:=by rw[h1];exact Array.size_push ..
 have b1:Bs v1.cell? [0] (.slice (some ⟨w.heap.size,0,none⟩) 1 1):=by rw[h1];exact xi (w:=w) (l:=[0]) (n:=1) rfl (by decide)
 have b2:Bs (v1.alloc (.cells #[.int .u8 255] 5)).cell? [255] (.slice (some ⟨w.heap.size+1,0,none⟩) 1 1):=by have:=xi (w:=v1) (T:=5) (fr:=(0,0)) (l:=[255]) (n:=1) rfl (by decide);rw[s1]at this;exact this
 have n1:za w v1:=by rw[h1];exact(za.refl w).alloc _
 have n2:za v1 (v1.alloc (.cells #[.int .u8 255] 5)).drew:=((za.refl v1).alloc _).drew;rw[<-h1];exact⟨n1.trans n2,(b1.mono (za.le n2)).im_of λj e=>by cases e;exact λe2=>Nat.lt_irrefl _ (hS _ e2),(show Bs (v1.alloc (.cells #[.int .u8 255] 5)).drew.cell? [255] _ from b2).im_of λj e=>by cases e;exact λe2=>by have:w.heap.size+1<w.heap.size:=hS _ e2;omega⟩
theorem zck{w:World}(hS:∀j,S j->j<w.heap.size):za w ((w.alloc (.cells #[.int .u8 255] 5)).alloc (.cells #[.int .u8 0] 5)).drew/\Bs (im S ((w.alloc (.cells #[.int .u8 255] 5)).alloc (.cells #[.int .u8 0] 5)).drew) [0] (.slice (some ⟨w.heap.size+1,0,none⟩) 1 1)/\Bs (im S ((w.alloc (.cells #[.int .u8 255] 5)).alloc (.cells #[.int .u8 0] 5)).drew) [255] (.slice (some ⟨w.heap.size,0,none⟩) 1 1):=by
 obtain⟨v1,h1⟩:=zex (w.alloc (.cells #[.int .u8 255] 5));have s1:v1.heap.size=w.heap.size+1:=by rw[h1];exact Array.size_push ..
 have b1:Bs v1.cell? [255] (.slice (some ⟨w.heap.size,0,none⟩) 1 1):=by rw[h1];exact xi (w:=w) (l:=[255]) (n:=1) rfl (by decide)
 have b2:Bs (v1.alloc (.cells #[.int .u8 0] 5)).cell? [0] (.slice (some ⟨w.heap.size+1,0,none⟩) 1 1):=by have:=xi (w:=v1) (T:=5) (fr:=(0,0)) (l:=[0]) (n:=1) rfl (by decide);rw[s1]at this;exact this
 have n1:za w v1:=by rw[h1];exact(za.refl w).alloc _
 have n2:za v1 (v1.alloc (.cells #[.int .u8 0] 5)).drew:=((za.refl v1).alloc _).drew;rw[<-h1];exact⟨n1.trans n2,(show Bs (v1.alloc (.cells #[.int .u8 0] 5)).drew.cell? [0] _ from b2).im_of λj e=>by cases e;exact λe2=>(by have:w.heap.size+1<w.heap.size:=hS _ e2;omega),(b1.mono (za.le n2)).im_of λj e=>by cases e;exact λe2=>Nat.lt_irrefl _ (hS _ e2)⟩
variable{lg rc v:Value}
theorem D5{T:TypeId}{f:FuncId}{w:World}{us:List zm}(hmeth:∀W,(method 608 T v "UnsafeRange").run prog W=.ok (f,rc) W)(hnil:∀W,(nilAhead 608 T v "UnsafeRange").run prog W=.ok (some false) W)(hent:∀args W,(callFunc f args).run prog W=.ok (.enter f args) W)
  (hS:∀j,S j->j<w.heap.size)(hrg:∀W kv ev,za w W->Bs (im S W) [0] kv->Bs (im S W) [255] ev->Calls prog f #[rc,zF.roles.val,kv,ev,.int .i64 (-1)] W λe w'=>∃ks vs,e=.returned (.tuple #[ks,vs])/\za W w'/\qQ (im S w') (us.map zm.enc) vs)(hsm:us.length<=1000)(ho:∀u∈us,kD u):
  Calls prog 274 #[lg,.iface T v] w λe w'=>∃uv,e=.returned uv/\za w w'/\fL S w w' us uv:=by
 obtain⟨a1,a2,a3⟩:=zcj (S:=S) hS;obtain⟨b1,b2,b3⟩:=zck (S:=S) hS;have HRA:=hid (hrg _ _ _ a1 a2 a3);have HRB:=hid (hrg _ _ _ b1 b2 b3);have HNA:=hid a1;have HNB:=hid b1;have HA:=hid (λW=>kG W);have HO:=hid ho;have HSS:=hid hS;clear hrg a1 a2 a3 b1 b2 b3 ho hS;go_enter func274,ntmps274;go_upto_region 1 with fail
 go_cut [5,6]from 12 to 21 (λ_ c wx=>za w wx/\qQ (im S wx) (us.map zm.enc) c)
 case first=>
  go_region_with (first|(go_at_call 217;refine(HA.out _).mono ?_;rintro e w1 ⟨rfl,rfl⟩)|(refine HRA.out.mono ?_;rintro e w1 ⟨ks,vs,rfl,hn1,hv1⟩;have HC1:=hid (And.intro (HNA.out.trans hn1) hv1);clear hn1 hv1)|(refine HRB.out.mono ?_;rintro e w1 ⟨ks,vs,rfl,hn1,hv1⟩;have HC1:=hid (And.intro (HNB.out.trans hn1) hv1);clear hn1 hv1))
  all_goals(
   go_wp2_with fail;go_meet;exact HC1.out)
 case rest=>
  obtain⟨hn0,hv0⟩:=hcut;obtain⟨W0,hW0⟩:=zex (wc);rw[<-hW0]at hn0 hv0⊢;clear hW0;obtain⟨cs,hsl,hall⟩:=hv0;obtain⟨p,n8,c8,rfl⟩:=hsl.shape;obtain⟨hn8,had⟩:=hsl.addr;have hlen:cs.length=us.length:=by rw[<-hall.length,List.length_map]
  obtain⟨n,hn⟩:∃n,us.length=n:=⟨_,rfl⟩;have hn8':n8=n:=by rw[<-hn8,hlen,hn]
  subst hn8';have HN0:=hid hn0;have HSL:=hid (Sl.mono (zd _ _) hsl);have HALL:=hid (hall.mono λ_ _ e=>e.mono (zd _ _));have HLEN:=hid hlen;have HN:=hid hn;have HAD:=hid had;clear hn0 hsl hall hlen hn had hn8 hmeth hnil hent HRA HRB HNA HNB HA;by_cases h0:n8=0
  ·subst h0;go_wp2;go_returns;refine⟨_,rfl,HN0.out,[],Sl.nil _ _,(λq hq=>by cases hq),?_⟩;have:us=[]:=List.eq_nil_of_length_eq_zero HN.out;rw[this];exact .nil
  ·have hmk:=YU zaY rfl W0 n8 (by have:=HN.out;omega) (by have:=HN.out;omega);have h0':((n8:Int)==0)=false:=by simp;omega
   obtain⟨W1,hW1⟩:=zex (W0.alloc (.cells (List.replicate n8 (Value.pointer none)).toArray 223));have hn1:za W0 W1:=by rw[hW1];exact(za.refl W0).alloc _
   have hrow1:W1.heap[W0.heap.size]? =some (.cells (List.replicate n8 (Value.pointer none)).toArray 223 (0,0)):=by rw[hW1];exact zg W0 _
   rw[<-hW1]at hmk;have hlt1:W0.heap.size<W1.heap.size:=(Array.getElem?_eq_some_iff.1 hrow1).1;have hr0:QQ S w W1 W1 W0.heap.size n8 us 0 []:=⟨rfl,zo.refl _ _,hrow1,.nil⟩;have hw0:w.heap.size<=W0.heap.size:=HN0.out.size;have HN1:=hid hn1;have HR0:=hid hr0;clear hW1 hn1 hrow1 hr0;go_wp2;go_loopw [30] (λc wr=>∃(k:Nat) (bs:List Nat),k<=n8/\c=.int .i64 k/\QQ S w W1 wr W0.heap.size n8 us k bs) (λc _=>n8-(intOf c).toNat)
   case atStart=>exact⟨0,[],Nat.zero_le _,rfl,HR0.out⟩
   case round=>
    obtain⟨k,bs,hk,rfl,hR⟩:=hrel;by_cases hlt:k<n8
    ·have hku:k<us.length:=by rw[HN.out];exact hlt
     have hkc:k<cs.length:=by rw[HLEN.out];exact hku
     obtain⟨gb,go,rfl⟩:=HAD.out (by intro e;rw[e]at hkc;simp at hkc);have hvk:=HSL.out.cellAt k hkc;have hgk:=HALL.out.get k (by rw[List.length_map];exact hku) hkc;rw[List.getElem_map]at hgk;obtain⟨kp,kn,kc,hkv,_⟩:=hgk.shape;rw[hkv]at hvk hgk;have hgb:gb≠W0.heap.size:=λe=>by have h9:=World.block_lt_of_cell? W0 _ hvk;rw[e]at h9;exact Nat.lt_irrefl _ h9
     have dk:wr.cell? ⟨gb,go+k,none⟩=some (.slice kp kn kc):=hR.mod.cell (λe=>hgb e) (HN1.out.le _ _ hvk);have hwr:w.heap.size<=wr.heap.size:=by have:=hR.mod.size;omega
     have hub:W0.heap.size<wr.heap.size:=Nat.lt_of_lt_of_le hlt1 hR.mod.size;have HU:=hid (Qw (w:=wr.alloc JO) (r:=W0.cell?) (b:=wr.heap.size) (zg wr _) (λa y ha=>by have hal:=World.block_lt_of_cell? W0 a ha;refine zi.2 ⟨λe=>by have e:a.block=wr.heap.size:=e;omega,za.le ((za.refl wr).alloc _) _ _ (hR.mod.cell (λe=>by have e:a.block=W0.heap.size:=e;omega) (HN1.out.le _ _ ha))⟩) (HO.out _ (List.getElem_mem hku)) hgk)
     unfold JO at HU;have HR:=hid hR;have hrowc:=hR.row;have hkk:(k:Int)<n8:=by omega
     have dkl:∀ob,(wr.alloc ob).cell? ⟨gb,go+k,none⟩=some (.slice kp kn kc):=λob=>za.le ((za.refl wr).alloc ob) _ _ dk;clear hR hgk hvk dk;go_wp2_with fail;refine HU.out.mono ?_;rintro e w5 ⟨rfl,nv,rv,ids,hu⟩;have HUT:=hid hu;have hn5:za wr w5:=zo.trans ((za.refl wr).alloc _) hu.mod λj hj e=>by omega
     have hrow5:=hn5.heap hrowc;have k5:∃x,w5.cell? ⟨W0.heap.size,k,none⟩=some x:=⟨_,by rw[cell_of_row w5 _ k _ _ (0,0) hrow5];exact Array.getElem?_eq_getElem (by have:=HR.out.len;simp;omega)⟩;obtain⟨x5,k5⟩:=k5;have f5:w5.frozen? ⟨W0.heap.size,k,none⟩=false:=by simp[World.frozen?,hrow5]
     clear hu hn5 hrow5 hrowc HU;go_wp2;go_roundw
     case rel=>exact⟨k+1,_,by omega,by go_num,HR.out.step HSS.out (by omega) hlt1 hku hlt hwr HUT.out⟩
     case measure=>simp[intOf];omega
    ·have hkn:k=n8:=by omega
     subst hkn;have HR:=hid hR;clear hR;go_wp2;go_returns;have hNr:za w wr:=zo.trans (HN0.out.trans HN1.out) HR.out.mod λj hj e=>by omega
     have hal:=HR.out.all;rw[List.take_of_length_le (by rw[HN.out];exact Nat.le_refl _)]at hal;have hrow:=HR.out.row;rw[Nat.sub_self]at hrow;refine⟨_,rfl,hNr,bs,?_,λq hq=> ?_,hal.mono λu b ⟨h1,h2⟩=>⟨h1,h2.mono (jq λj e=>Or.inl e)⟩⟩
     rotate_left
     ·have hq':W0.heap.size=q:=by simpa[Value.ownBlock]using hq
      omega
     refine⟨_,_,_,rfl,by simp[HR.out.len],Nat.le_refl _,by have:=HN.out;omega,(λh=>by cases h),Or.inr ⟨_,_,rfl,λi hi=> ?_⟩⟩;rw[cell_of_row wr _ _ _ _ (0,0) hrow,Nat.zero_add];simp only[List.replicate_zero,List.append_nil,List.getElem?_toArray];exact List.getElem?_eq_getElem hi
end Go.Proofs.YtbmdoinjkligiaaGreat
