/- Contracts and laws that the last text joins. -/
import Derived.Test.YtbmdoinjkligiaaGreatM18
import Derived.Test.YtbmdoinjkligiaaGreatM19
import Derived.Test.YtbmdoinjkligiaaGreatM21
set_option maxRecDepth 100000
set_option maxHeartbeats 40000000
set_option linter.all false
namespace Go.Proofs.YtbmdoinjkligiaaGreat
open Tryz
open Lib(hid)
open Go.RowKit
theorem Xk(x:Nat)(W:World):(method 608 149 (ptr x) "CreateAuthBuckets").run prog W=.ok (208,ptr x) W:=by kernel_rfl
variable{A:yu}{W:World}{l:zu}{pdel pend x:Nat}{us:zF->List Bytes}
theorem U5{I:zN}{s:zA}{on:Bool}{rev:Nat}(hf:ya s)(hA:yq A on rev)(h:k7 l W I (s.db A) pend pdel us)(hx:qe l W x 257 I.t 419):
  Calls prog 270 #[ptr x] W λe w'=>e=.returned (.bool on)/\za W w':=by
 obtain⟨C,wb,rb,e2,e4,hB,h1,h2,h3,h4⟩:=h;have R:=Q5 hB h1 (hf.dbOk hA);refine(Q_ (R:=λr w'=>r=.bool on/\za W w') hx.2 ((YT R (za.refl W)).mono ?_)).mono ?_
 ·rintro e w' ⟨rfl,hn,hm⟩;exact⟨_,rfl,congrArg Value.bool hA.en,hn⟩
 ·rintro e w' ⟨r,rfl,rfl,hn⟩;exact⟨rfl,hn⟩
theorem fm{I:zN}{s:zA}{on:Bool}{rev:Nat}(hf:ya s)(hA:yq A on rev)(hr:rev<256)(h:k7 l W I (s.db A) pend pdel us)(hx:qe l W x 257 I.t 419):
  Calls prog 271 #[ptr x] W λe w'=>e=.returned (.int .u64 rev)/\za W w':=by
 obtain⟨C,wb,rb,e2,e4,hB,h1,h2,h3,h4⟩:=h;have R:=Q5 hB h1 (hf.dbOk hA);refine(vR (R:=λr w'=>r=.int .u64 rev/\za W w') hx.2 ((Za (n:=rev) R (za.refl W) hr hA.rv).mono ?_)).mono ?_
 ·rintro e w' ⟨rfl,hn,hm⟩;exact⟨_,rfl,rfl,hn⟩
 ·rintro e w' ⟨r,rfl,rfl,hn⟩;exact⟨rfl,hn⟩
def zA.wake(s:zA):zA:=if s.rev=0 then {s with rev:=s.rev+1}else s
variable{ab:Nat}{lg:Value}
theorem DP{w:World}{I:zN}{s:zA}(ht:k7 l w I (s.db A) pend 0 jL)(hkv:yq A s.on s.rev)(hf:ya s)(ha:qe l w ab 136 I.be 151)(hx:qe l w x 257 I.t 419)
  (hW:W=(w.alloc (.map #[] 0)).alloc (.cells #[.int .u64 s.rev,lg,.iface 149 (ptr ab),.bool s.on,.map (some w.heap.size)] 146)):
  ∃l',zr l w l' W/\Qb l' W (w.heap.size+1) I s A pend 0 jL x ab w.heap.size lg s.on:=by
 have hn:za w W:=by rw[hW];exact((za.refl w).alloc _).alloc _
 have hs:W.heap.size=w.heap.size+2:=by rw[hW];exact(Array.size_push ..).trans (congrArg (· +1) (Array.size_push ..))
 have hl:=zbL (l:=l) (F:=(· =w.heap.size+1)) (n:=12) ht.bnd hn (λb e=>by rw[e];omega);have hc:=zr.client hl (hn.mod _);have h0:l (w.heap.size+1)=0:=by
  by_cases e:l (w.heap.size+1)=0
  ·exact e
  ·have:=ht.bnd _ e;omega
 refine⟨l.add (· =w.heap.size+1) 12,hl,k7.client ht hc,hkv,hx.client hc,?_,ha.client hc,zu.add_pos rfl h0,hf⟩;have h9:=zg (w.alloc (.map #[] 0)) (.cells #[.int .u64 s.rev,lg,.iface 149 (ptr ab),.bool s.on,.map (some w.heap.size)] 146);have hsz:(w.alloc (.map #[] 0)).heap.size=w.heap.size+1:=Array.size_push ..
 rw[hsz,<-hW]at h9;exact h9
theorem fo(b:zF):zM (vo jL b):=by
 unfold vo jL;by_cases e:b=.auth
 ·rw[if_pos e];exact List.pairwise_singleton _ _
 ·rw[if_neg e];exact List.Pairwise.nil
def zdn(l:zu)(w:World)(I:zN)(s:zA)(e:Ending)(w':World):Prop:=
 ∃a l' I',e=.returned (.iface 142 (ptr a))/\w.heap.size<=a/\I.same I'/\zr l w l' w'/\Zn l' w' a I' s
variable{C:List z_}{rb wb:List (Nat×z_)}
theorem DR{w:World}{I:zN}{s:zA}(h:j4 l w I C wb rb 0 0 [] [])(ha:qe l w ab 136 I.be 151)(hsm:wb.length<=800)
  (hD:xF (xF (xF (wb.map (·.2)) (zF.auth).name) (zF.users).name) (zF.roles).name=(s.db A).bkts)(hkv:yq A s.on s.rev)(hf:ya s)(hs:yD s.wake):
  Calls prog 39 #[.pointer none,.iface 149 (ptr ab)] w (zdn l w I s.wake):=by
 have HCR:=hid (U3 h ha hsm);have HA:=hid ha;have HDD:=hid hD;have HKV:=hid hkv;have HF:=hid hf;have HS:=hid hs;have HB:=hid h.bnd;have m0:=Xk;have m1:=qL;have m2:=qA;have m3:=vT;have m4:=jn;have m5:=vm;have m6:=ZU;have hmm:= @run_makeMap prog;have hlt:=hf.rev;clear h ha hsm hD hkv hf hs;go_enter func39,ntmps39;go_wp2_with fail;refine HCR.out.mono ?_;rintro e w1 ⟨rfl,l1,wb1,hs1,hB1,hm1⟩;have htx:k7 l1 w1 I (s.db A) 3 0 jL:=⟨C,wb1,rb,[],[],hB1,hm1.trans HDD.out,by simp,λb=>rfl,λe=>by omega⟩;have hab:=HA.out.step hs1;have HBT:=hid (qP htx hab);have HT1:=hid htx;have HA1:=hid hab;have HS1:=hid hs1;clear hB1 hm1 htx hab hs1;go_wp2_with fail;refine HBT.out.mono ?_;rintro e w2 ⟨x,rfl,hn2,hx2,hax2⟩;have ht2:=HT1.out.new hn2;have HLK:=hid (jk ht2 hax2);have HEN:=hid (U5 HF.out HKV.out ht2 hax2);have HN2:=hid hn2;have HX2:=hid hax2;clear ht2 hn2 hax2;go_wp2_with fail;refine HLK.out.mono ?_
 rintro e w3 ⟨rfl,rfl⟩;go_wp2_with fail;refine HEN.out.mono ?_;rintro e w3 ⟨rfl,hn3⟩;have HN3:=hid (HN2.out.trans hn3);have HX3:=hid (HX2.out.new hn3);have HRV:=hid (fm HF.out HKV.out (by omega) (HT1.out.new HN3.out) HX3.out);clear hn3;go_wp2_with fail;refine HRV.out.mono ?_;rintro e w4 ⟨rfl,hn4⟩;have hn5:=HN3.out.trans hn4;obtain⟨W5,hW5⟩:=zex ((w4.alloc (.map #[] 0)).alloc (.cells #[.int .u64 s.rev,.pointer none,.iface 149 (ptr ab),.bool s.on,.map (some w4.heap.size)] 146));obtain⟨l5,hs5,hm5⟩:=DP (lg:=.pointer none) (HT1.out.new hn5) HKV.out HF.out (HA1.out.new hn5) (HX3.out.new hn4) hW5;have HGE:=hid (show w.heap.size<=w4.heap.size+1 from by have:=HS1.out.size;have:=hn5.size;omega);have HW5:=hid hW5;have HM5:=hid hm5;have HS5:=hid ((HS1.out.s.trans (zr.new HT1.out.bnd hn5)).trans hs5);clear hn4 hn5 hW5 hs5 hm5;go_upto_region 6 with fail
 change Code.wp _ _ _ _ ((w4.alloc (.map #[] 0)).alloc (.cells #[.int .u64 s.rev,.pointer none,.iface 149 (ptr ab),.bool s.on,.map (some w4.heap.size)] 146));rw[<-HW5.out];obtain⟨a,ha⟩:=zex (w4.heap.size+1);rw[<-ha]at HM5 HGE⊢;clear ha;have HR:=hid (Vm HM5.out.row);by_cases c0:s.rev=0
 ·have he:(decide ((s.rev:Int)=0))=true:=by rw[c0];rfl
  have hei:((s.rev:Int)==0)=true:=by rw[c0];rfl
  have hwk:s.wake={s with rev:=s.rev+1}:=by unfold zA.wake;rw[if_pos c0]
  rw[hwk]at HS;have HWK:=hid hwk;clear hwk;have HC:=hid (yE HM5.out (by decide) (by simp[jL]) (by omega));clear c0;go_wp2_with (go_at_call 54;refine HR.out.mono ?_;rintro e w9 ⟨rfl,rfl⟩);refine HC.out.mono ?_;rintro e w6 ⟨rfl,l6,A6,hs6,hm6⟩;have HM6:=hid hm6;have HS6:=hid (HS5.out.trans hs6);have HRF:=hid (qY hm6 HS.out);clear hs6 hm6;go_wp2_with fail;refine HRF.out.mono ?_;rintro e w7 ⟨rfl,l7,m7,hs7,hm7,hc7⟩;have HU:=hid (vF hm7.tx (by decide) fo hm7.atx);have HM7:=hid hm7;have HC7:=hid hc7;have HS7:=hid (HS6.out.trans hs7);clear hs7 hm7 hc7;go_wp2_with fail;refine HU.out.mono ?_;rintro e w8 ⟨rfl,l8,I8,hs8,hI8,hi8⟩;have hp8:=QH HM7.out HS.out HC7.out hs8 hI8 hi8;have HFC:=hid (kM hp8.idle hp8.abe);have HP8:=hid hp8;have HI8:=hid hI8;have HS8:=hid (HS7.out.trans hs8.s);clear hs8 hI8 hi8 hp8;go_wp2_with fail;refine HFC.out.mono ?_;rintro e w9 ⟨rfl,l9,I9,hs9,hI9,hi9⟩
  have HEND:=hid (And.intro hs9 (And.intro hI9 hi9));clear hs9 hI9 hi9;go_wp2;go_returns;exact⟨a,l9,I9,rfl,HGE.out,zN.same_trans HI8.out HEND.out.2.1,HS8.out.trans HEND.out.1.s,by rw[HWK.out];exact⟨_,_,_,_,HP8.out.moved HEND.out.1 HEND.out.2.1 HEND.out.2.2⟩⟩
 ·have he:(decide ((s.rev:Int)=0))=false:=by simp;omega
  have hei:((s.rev:Int)==0)=false:=by simp;omega
  have hen:decide (s.rev=0)=false:=by simp;omega
  have hen2:(s.rev==0)=false:=by simp;omega
  have hwk:s.wake=s:=by unfold zA.wake;rw[if_neg c0]
  rw[hwk]at HS;have HWK:=hid hwk;clear hwk;have HRF:=hid (qY HM5.out HS.out);clear c0;go_wp2_with (go_at_call 54;refine HR.out.mono ?_;rintro e w9 ⟨rfl,rfl⟩);refine HRF.out.mono ?_;rintro e w7 ⟨rfl,l7,m7,hs7,hm7,hc7⟩;have HU:=hid (vF hm7.tx (by decide) qI hm7.atx);have HM7:=hid hm7;have HC7:=hid hc7;have HS7:=hid (HS5.out.trans hs7);clear hs7 hm7 hc7;go_wp2_with fail;refine HU.out.mono ?_;rintro e w8 ⟨rfl,l8,I8,hs8,hI8,hi8⟩;have hp8:=QH HM7.out HS.out HC7.out hs8 hI8 hi8;have HFC:=hid (kM hp8.idle hp8.abe);have HP8:=hid hp8;have HI8:=hid hI8;have HS8:=hid (HS7.out.trans hs8.s);clear hs8 hI8 hi8 hp8;go_wp2_with fail;refine HFC.out.mono ?_;rintro e w9 ⟨rfl,l9,I9,hs9,hI9,hi9⟩;have HEND:=hid (And.intro hs9 (And.intro hI9 hi9));clear hs9 hI9 hi9;go_wp2;go_returns
  exact⟨a,l9,I9,rfl,HGE.out,zN.same_trans HI8.out HEND.out.2.1,HS8.out.trans HEND.out.1.s,by rw[HWK.out];exact⟨_,_,_,_,HP8.out.moved HEND.out.1 HEND.out.2.1 HEND.out.2.2⟩⟩
structure qG(l:zu)(w:World)(l':zu)(w':World):Prop where
 mod:zo (λj=>l j≠0/\l j≠14) w w'
 old:∀b,b<w.heap.size->l' b=l b
 bnd:∀b,l' b≠0->b<w'.heap.size
variable{l':zu}{w':World}
theorem zr.w{w:World}(h:zr l w l' w'):qG l w l' w':=⟨h.mod.mono λj _ e=>⟨e.1,by have:=e.2;omega⟩,h.old,h.bnd⟩
variable{w'':World}
theorem qG.trans{l'':zu}{w:World}(h:qG l w l' w')(k:qG l' w' l'' w''):qG l w l'' w'' where
 mod:=h.mod.trans k.mod λb hb e=>by rw[h.old b hb]at e;exact e
 old b hb:=by rw[k.old b (Nat.lt_of_lt_of_le hb h.mod.size),h.old b hb]
 bnd:=k.bnd
theorem qG.refl{w:World}(h:∀b,l b≠0->b<w.heap.size):qG l w l w:=⟨zo.refl _ _,λ_ _=>rfl,h⟩
theorem qG.new{w:World}(h:∀b,l b≠0->b<w.heap.size)(hn:za w w'):qG l w l w':=⟨hn.mod _,λ_ _=>rfl,λb e=>Nat.lt_of_lt_of_le (h b e) hn.size⟩
theorem qG.le{w:World}(h:qG l w l' w'):(im l.some w).le (im l'.some w'):=
 (h.mod.mono (S':=l.some) λj _ e=>e.1).im λb hb e=>by show l b≠0;rw[<-h.old b hb];exact e
theorem qG.size{w:World}(h:qG l w l' w'):w.heap.size<=w'.heap.size:=h.mod.size
structure Wd(l:zu)(w:World)(x:Nat)(I:zN)(a:Nat)(s:zA):Prop where
 row:w.heap[x]? =some (.cells #[ptr I.db,.iface 136 (ptr I.be),.iface 142 (ptr a)] 63 (0,0))
 lab:l x=17
 st:Zn l w a I s
variable{b:Nat}
theorem vZ{w:World}{T:Nat}{x y z:Value}(h:w.heap[b]? =some (.cells #[x,y,z] T (0,0))):w.cell? ⟨b,0,none⟩=some x/\w.cell? ⟨b,1,none⟩=some y/\w.cell? ⟨b,2,none⟩=some z/\w.frozen? ⟨b,0,none⟩=false/\w.frozen? ⟨b,1,none⟩=false/\w.frozen? ⟨b,2,none⟩=false:=
 ⟨by rw[cell_of_row w b 0 _ _ (0,0) h];rfl,by rw[cell_of_row w b 1 _ _ (0,0) h];rfl,by rw[cell_of_row w b 2 _ _ (0,0) h];rfl,by simp[World.frozen?,h],by simp[World.frozen?,h],by simp[World.frozen?,h]⟩
variable{a:Nat}{s':zA}
theorem Wd.call{w:World}{I I':zN}{s:zA}(h:Wd l w x I a s)(hs:zr l w l' w')(hI:I.same I')(ht:Zn l' w' a I' s'):Wd l' w' x I' a s':=by have hx:x<w.heap.size:=(Array.getElem?_eq_some_iff.1 h.row).1;refine⟨?_,by rw[hs.old x hx];exact h.lab,ht⟩;rw[hs.mod.block x hx (λe=>by have:=e.2;rw[h.lab]at this;omega),hI.2.2.2,hI.1];exact h.row
theorem Wd.new{w:World}{I:zN}{s:zA}(h:Wd l w x I a s)(hn:za w w'):Wd l w' x I a s:=
 ⟨hn.heap h.row,h.lab,h.st.keep (qF.ofNew h.st.bnd hn) λj e=>hn.block j (h.st.bnd j (by omega)) λe=>e⟩
variable{dv:Value}
theorem zb3{k:zu}{w:World}{d:Nat}(hk:∀j,k j≠0->j<w.heap.size)(hk4:k d=4)(hd:w.heap[d]? =some (.cells #[dv] 79 (0,0)))(hD:jP (im k.some w) C dv)(hsm:C.length<=1000):
  Calls prog 38 #[ptr d,.int .i64 1000] w λe w'=>∃l' I wb rb,e=.returned (.iface 136 (ptr I.be))/\za w w'/\(∀b,b<w.heap.size->l' b=k b)/\I.db=d/\j4 l' w' I C wb rb 0 0 [] []/\wb.map (·.2)=C/\rb.map (·.2)=C:=by
 have HO:=hid (zdl hk hk4 hd hD hsm);clear hk hk4 hd hD hsm;go_enter func38,ntmps38;go_wp2_with fail;refine HO.out.mono ?_;rintro e w1 ⟨l',I,wb,rb,rfl,h1⟩;have H1:=hid h1;clear h1;go_wp2;go_returns;exact⟨l',I,wb,rb,rfl,H1.out⟩
variable{be:Nat}
theorem GJ{w:World}:
  Calls prog 40 #[.pointer none,.iface 136 (ptr be)] w λe w'=>e=.returned (.iface 149 (ptr w.heap.size))/\w'=w.alloc (.cells #[.iface 136 (ptr be),.pointer none] 151):=by
 go_enter func40,ntmps40;go_wp2;go_returns;exact⟨rfl,rfl⟩
def zb4(C:List z_):List z_:=xF (xF (xF C (zF.auth).name) (zF.users).name) (zF.roles).name
theorem zaF:zb4 []=(vu.mk [] [] []).bkts:=by decide
theorem DS(D:vu):zb4 D.bkts=D.bkts:=by
 have h1:D.bkts.map (·.1)=K_:=rfl;have e:∀b:zF,xF D.bkts b.name=D.bkts:=λb=>by unfold xF;rw[h1,if_pos (kr b).2]
 unfold zb4;rw[e,e,e]
theorem zcD{w:World}(hb:∀j,l j≠0->j<w.heap.size)(hx:l x=17)(i:Nat)(v:Value):qF l w l (w.setCell ⟨x,i,none⟩ v)/\qG l w l (w.setCell ⟨x,i,none⟩ v):=by have hm:zo (· =x) w (w.setCell ⟨x,i,none⟩ v):=vA (S:=(· =x)) (zo.refl _ _) rfl _;have hbn:∀b,l b≠0->b<(w.setCell ⟨x,i,none⟩ v).heap.size:=λb e=>Nat.lt_of_lt_of_le (hb b e) hm.size;exact⟨⟨hm.mono λj _ e=>by rw[e,hx];decide,λ_ _=>rfl,hbn⟩,⟨hm.mono λj _ e=>by rw[e,hx];decide,λ_ _=>rfl,hbn⟩⟩
variable{bv:Value}
theorem GK{w:World}{d:Nat}{av:Value}{s:zA}(hb:∀j,l j≠0->j<w.heap.size)(hx:l x=17)(hrow:w.heap[x]? =some (.cells #[ptr d,bv,av] 63 (0,0)))(hd4:l d=4)(hd:w.heap[d]? =some (.cells #[dv] 79 (0,0)))
  (hD:jP (im l.some w) C dv)(hsm:C.length<=3)(hadd:zb4 C=(s.db A).bkts)(hkv:yq A s.on s.rev)(hf:ya s)(hs:yD s.wake):
  Calls prog 32 #[ptr x] w λe w'=>e=.returned (.tuple #[])/\∃l' I a,I.db=d/\qG l w l' w'/\Wd l' w' x I a s.wake:=by
 obtain⟨c0,c1,c2,z0,z1,z2⟩:=vZ hrow;have hxl:x<w.heap.size:=(Array.getElem?_eq_some_iff.1 hrow).1;have HO:=hid (zb3 hb hd4 hd hD (by omega));have HROW:=hid hrow;have HX:=hid hx;have HADD:=hid hadd;have HKV:=hid hkv;have HF:=hid hf;have HS:=hid hs;have HB:=hid hb;clear hb hx hrow hd4 hd hD hadd hkv hf hs;go_enter func32,ntmps32;go_wp2_with fail;refine HO.out.mono ?_;rintro e w1 ⟨l1,I,wb,rb,rfl,hn1,hl1,hdb,hB1,hwb,hrb⟩;have hr1:=hn1.heap HROW.out;obtain⟨d0,d1,d2,y0,y1,y2⟩:=vZ hr1;have hx1:l1 x=17:=(hl1 x hxl).trans HX.out;obtain⟨W1,hW1⟩:=zex (w1.setCell ⟨x,1,none⟩ (.iface 136 (ptr I.be)));obtain⟨hc1,hw1⟩:=zcD hB1.bnd hx1 1 (.iface 136 (ptr I.be));rw[<-hW1]at hc1 hw1;have hr2:W1.heap[x]? =some (.cells #[ptr d,.iface 136 (ptr I.be),av] 63 (0,0)):=by rw[hW1];exact heap_setCell_same w1 x 1 _ _ _ hr1
 obtain⟨e0,e1,e2,v0,v1,v2⟩:=vZ hr2;have hst1:qG l w l1 w1:=⟨hn1.mod _,hl1,hB1.bnd⟩;have hB2:=hB1.client hc1;have HB2:=hid hB2;have HW1:=hid hW1;have HR2:=hid hr2;have HX1:=hid hx1;have HST:=hid (hst1.trans hw1);have HDB:=hid hdb;have HWB:=hid hwb;have HNA:=hid (GJ (w:=W1) (be:=I.be));clear hn1 hl1 hdb hB1 hwb hrb hr1 hx1 hW1 hc1 hw1 hr2 hst1 hB2 c0 c1 c2 z0 z1 z2;go_upto_region 1 with fail
 rw[<-HW1.out];clear d0 d1 d2 y0 y1 y2;go_wp2_with fail;refine HNA.out.mono ?_;rintro e w3 ⟨rfl,hw3⟩;have hn3:za W1 w3:=by rw[hw3];exact(za.refl W1).alloc _
 have hB3:=(HB2.out.ofNew hn3).2;have hl0:l1 W1.heap.size=0:=by
  by_cases e:l1 W1.heap.size=0
  ·exact e
  ·have:=HB2.out.bnd _ e;omega
 have hax:qe l1 w3 W1.heap.size 136 I.be 151:=⟨hl0,by rw[hw3];exact zg W1 _⟩;have hl3:wb.length<=800:=by have:=congrArg List.length HWB.out;rw[List.length_map]at this;omega
 have HNS:=hid (DR hB3 hax hl3 (by rw[HWB.out];exact HADD.out) HKV.out HF.out HS.out);have HN3:=hid hn3;clear hw3 hn3 hB3 hl0 hax hl3;go_wp2_with fail;refine HNS.out.mono ?_;rintro e w4 ⟨a,l4,I4,rfl,hge,hI4,hs4,ht4⟩;have hxW:x<w3.heap.size:=by have:=HST.out.size;have:=HN3.out.size;omega
 have hx4:l4 x=17:=(hs4.old x hxW).trans HX1.out;have hr4:w4.heap[x]? =some (.cells #[ptr d,.iface 136 (ptr I.be),av] 63 (0,0)):=by rw[hs4.mod.block x hxW (λe=>by have:=e.2;rw[HX1.out]at this;omega)];exact HN3.out.heap HR2.out
 obtain⟨g0,g1,g2,u0,u1,u2⟩:=vZ hr4;obtain⟨hc4,hw4⟩:=zcD ht4.bnd hx4 2 (.iface 142 (ptr a));have HEND:=hid (show I4.db=d/\qG l w l4 (w4.setCell ⟨x,2,none⟩ (.iface 142 (ptr a)))/\Wd l4 (w4.setCell ⟨x,2,none⟩ (.iface 142 (ptr a))) x I4 a s.wake from by
  refine⟨hI4.2.2.2.trans HDB.out,((HST.out.trans (qG.new HB2.out.bnd HN3.out)).trans hs4.w).trans hw4,?_,hx4,ht4.keep hc4 λj e=>Below.heap_setCell _ _ _ _ (λe9=>by have e9:j=x:=e9;rw[e9,hx4]at e;omega)⟩
  rw[heap_setCell_same w4 x 2 _ _ _ hr4,hI4.2.2.2,hI4.1,HDB.out];rfl)
 clear hge hI4 hs4 ht4 hx4 hr4 hc4 hw4;go_wp2;go_returns;exact⟨rfl,l4,I4,a,HEND.out⟩
theorem qd(a:Nat)(W:World):(method 608 142 (ptr a) "Revision").run prog W=.ok (54,ptr a) W:=by kernel_rfl
variable{o:zH}
theorem Y7{w:World}{I:zN}{s:zA}(h:Wd l w x I a s)(h0:0<=o.old)(h1:o.old<=1):
  Calls prog 41 #[ptr x,o.val] w λe w'=>∃ib,e=.returned (ptr ib)/\za w w'/\w.heap.size<=ib/\vl w' ib o.who (zH.rv s o):=by
 obtain⟨A,ab,m,lg,hp⟩:=h.st;have hr:=hp.fine.rev;have hr1:=hp.sane.pos;obtain⟨c0,c1,c2,_⟩:=vZ h.row;have HR:=hid (λW (hn:za w W)=>Vm (w:=W) (hp.row.keep (hn.block a hp.row.lt λe=>e)));have hme:=qd a;have hxl:x<w.heap.size:=(Array.getElem?_eq_some_iff.1 h.row).1;clear h hp;obtain⟨ki,us,ro,pk,ke,st,np,od,nu⟩:=o;obtain⟨q1,hq1⟩:=zex ((zH.mk ki us ro pk ke st np od nu).who);obtain⟨q2,hq2⟩:=zex (zH.rv s (zH.mk ki us ro pk ke st np od nu));rw[<-hq1,<-hq2];unfold zH.who at hq1;unfold zH.rv at hq2;unfold zH.val zH.cells;dsimp only at*
 obtain⟨w1,hw1⟩:=zex (w.alloc (.cells #[.int .i64 ki,zb us,zb ro,.int .i64 pk,zb ke,zb st,.bool np,.int .i64 od,.bool nu] 35));have hn1:za w w1:=by rw[hw1];exact(za.refl w).alloc _
 have hs1:w1.heap.size=w.heap.size+1:=by rw[hw1];exact Array.size_push ..
 have HW1:=hid hw1;have HN1:=hid hn1;have HQ1:=hid hq1;have HQ2:=hid hq2;clear hw1 hn1 hq1 hq2;cases nu
 ·have HR1:=hid (HR.out w1 HN1.out);have HR2:=hid (HR.out w1.drew HN1.out.drew);go_enter func41,ntmps41;go_upto_region 3 with fail
  rw[<-HW1.out];have hr0:=HW1.out;have hb0:w1.heap[w.heap.size]? =some (.cells #[.int .i64 ki,zb us,zb ro,.int .i64 pk,zb ke,zb st,.bool np,.int .i64 od,.bool false] 35 (0,0)):=by rw[hr0];exact zg w _
  have d2:=HN1.out.le _ _ c2;have g1:w1.cell? ⟨w.heap.size,1,none⟩=some (zb us):=by rw[cell_of_row w1 _ 1 _ _ (0,0) hb0];rfl
  have g7:w1.cell? ⟨w.heap.size,7,none⟩=some (.int .i64 od):=by rw[cell_of_row w1 _ 7 _ _ (0,0) hb0];rfl
  obtain⟨ob,hob⟩:=zex (w.heap.size);rw[<-hob]at g1 g7⊢;have HOB:=hid hob;clear hr0 hb0 hob;obtain⟨sx,hsx⟩:=zex ((⟨us.toArray⟩:ByteArray));have hsv:zb us=.string sx:=by rw[hsx];rfl
  rw[hsv]at g1;have HSV:=hid hsv;clear hsx hsv;obtain⟨c35,hc35⟩:=zex (Value.agg #[.int .i64 ki,zb us,zb ro,.int .i64 pk,zb ke,zb st,.bool np,.int .i64 od,.bool false]);rw[<-hc35];clear hc35;have hmx:max ((s.rev:Int)-od) 0=((s.rev-od.toNat:Nat):Int):=by omega
  go_region_with (first|(refine HR1.out.mono ?_;rintro e w2 ⟨rfl,rfl⟩)|(refine HR2.out.mono ?_;rintro e w2 ⟨rfl,rfl⟩))
  all_goals
   go_wp2;go_returns;have h9:=zg w1 (.cells #[.string sx,.int .u64 (s.rev-od.toNat:Nat)] 153);rw[hs1]at h9;refine⟨w.heap.size+1,rfl,by first|exact(HN1.out.alloc _).drew|exact HN1.out.alloc _|exact(HN1.out.alloc _).drewN _,by omega,?_⟩;rw[HQ1.out,HQ2.out];simp only[Bool.false_eq_true,if_false];unfold vl;rw[HSV.out,show((s.rev:Int)-od).toNat=s.rev-od.toNat by omega];exact h9
 ·go_enter func41,ntmps41;go_wp2;go_returns;have h9:=zg w1 (.cells #[.string {data:= #[]},.int .u64 0] 153);rw[hs1]at h9;rw[<-HW1.out];refine⟨w.heap.size+1,rfl,HN1.out.alloc _,by omega,?_⟩;rw[HQ1.out,HQ2.out];simp only[if_true];exact h9
theorem DT{w:World}{n:Int}(h0:0<=n)(h2:n<=2):Calls prog 49 #[.int .i64 n] w λe w'=>e=.returned (.int .i32 n)/\w=w':=by
 have e1:decide (n< -2147483648)=false:=by simp;omega
 have e2:decide ((2147483647:Int)<n)=false:=by simp;omega
 go_enter func49,ntmps49;go_wp2;go_returns;exact⟨rfl,rfl⟩
theorem Y8(w:World){a b:Bytes}(ha:a.length<=1000000)(hb:b.length<=1000000):
  ∃an ac w1 bn bc w2,(convert 9 75 (zb a)).run prog w=.ok (.slice (some ⟨w.heap.size,0,none⟩) an ac) w1/\(convert 9 75 (zb b)).run prog w1=.ok (.slice (some ⟨w1.heap.size,0,none⟩) bn bc) w2/\
   za w w1/\za w w2/\w.heap.size<w1.heap.size/\w1.heap.size<w2.heap.size/\Bs w2.cell? a (.slice (some ⟨w.heap.size,0,none⟩) an ac)/\Bs w2.cell? b (.slice (some ⟨w1.heap.size,0,none⟩) bn bc):=by
 obtain⟨v1,w1,h1,n1,b1,⟨an,ac,rfl⟩,l1⟩:=jQ (P:=prog) w 9 75 5 (l:=a) (u:=.string) (by kernel_rfl) (by kernel_rfl) (by kernel_rfl) ha;obtain⟨v2,w2,h2,n2,b2,⟨bn,bc,rfl⟩,l2⟩:=jQ (P:=prog) w1 9 75 5 (l:=b) (u:=.string) (by kernel_rfl) (by kernel_rfl) (by kernel_rfl) hb;exact⟨an,ac,w1,bn,bc,w2,h1,h2,n1,n1.trans n2,l1,l2,b1.mono n2.le,b2⟩
variable{stop:Bytes}{w2:World}
theorem X0{w:World}{kd:Nat}{key:Bytes}{kb sb kn kc sn sc:Nat}(hn:za w w2)(hk:Bs w2.cell? key (.slice (some ⟨kb,0,none⟩) kn kc))(hs:Bs w2.cell? stop (.slice (some ⟨sb,0,none⟩) sn sc))(hkb:w.heap.size<=kb)(hsb:w.heap.size<=sb)
  (hW:W=w2.alloc (.cells #[.int .i32 kd,.slice (some ⟨kb,0,none⟩) kn kc,.slice (some ⟨sb,0,none⟩) sn sc] 112)):
  za w W/\w.heap.size<=w2.heap.size/\∀S:Nat->Prop,(∀j,S j->j<w.heap.size)->jx (im S W) w2.heap.size ⟨kd,key,stop⟩:=by
 have hn2:za w2 W:=by rw[hW];exact(za.refl w2).alloc _
 have hrow:W.heap[w2.heap.size]? =some (.cells #[.int .i32 kd,.slice (some ⟨kb,0,none⟩) kn kc,.slice (some ⟨sb,0,none⟩) sn sc] 112 (0,0)):=by rw[hW];exact zg w2 _
 obtain⟨r0,r1,r2,_⟩:=vZ hrow;have hsz:=hn.size;refine⟨hn.trans hn2,hsz,λS hS=> ?_⟩;have hb: ¬S w2.heap.size:=λe=>by have:=hS _ e;omega
 refine⟨zi.2 ⟨hb,r0⟩,⟨_,zi.2 ⟨hb,r1⟩,(hk.mono hn2.le).im_of λj e e2=> ?_⟩,⟨_,zi.2 ⟨hb,r2⟩,(hs.mono hn2.le).im_of λj e e2=> ?_⟩⟩
 ·have e:kb=j:=by simpa[Value.ownBlock]using e
  have:=hS j e2;omega
 ·have e:sb=j:=by simpa[Value.ownBlock]using e
  have:=hS j e2;omega
theorem zb5{w:World}{k:Int}{key:Bytes}(h0:0<=k)(h2:k<=2)(hkl:key.length<=1000)(hsl:stop.length<=1000):
  Calls prog 36 #[zas k key stop] w λe w'=>∃pb,e=.returned (ptr pb)/\za w w'/\w.heap.size<=pb/\∀S:Nat->Prop,(∀j,S j->j<w.heap.size)->jx (im S w') pb ⟨k.toNat,key,stop⟩:=by
 unfold zas;obtain⟨kx,ek⟩:∃kx,zb key=.string kx:=⟨_,rfl⟩;obtain⟨sx,es⟩:∃sx,zb stop=.string sx:=⟨_,rfl⟩;rw[ek,es];obtain⟨w1,hw1⟩:=zex (w.alloc (.cells #[.int .i64 k,.string kx,.string sx] 33));have hn1:za w w1:=by rw[hw1];exact(za.refl w).alloc _
 have hb0:w1.heap[w.heap.size]? =some (.cells #[.int .i64 k,.string kx,.string sx] 33 (0,0)):=by rw[hw1];exact zg w _
 obtain⟨kn,kc,wa,sn,sc,wa2,ra,ra2,na1,na,la,la2,ba,ba2⟩:=Y8 w1.drew (a:=key) (b:=stop) (by omega) (by omega);obtain⟨tn,tc,wb,un,uc,wb2,rb,rb2,nb1,nb,lb,lb2,hbb1,hbb2⟩:=Y8 w1.drew (a:=stop) (b:=key) (by omega) (by omega);have hkk:(k.toNat:Int)=k:=by omega
 have hzz:w1.drew.heap.size=w1.heap.size:=rfl;rw[hzz]at ra rb la lb ba hbb1;have hA:=λW hW=>X0 (w:=w) (kd:=k.toNat) (hn1.trans (za.undrew na)) ba ba2 hn1.size (by have:=hn1.size;omega) (W:=W) hW;have hB:=λW hW=>X0 (w:=w) (kd:=k.toNat) (hn1.trans (za.undrew nb)) hbb2 hbb1 (by have:=hn1.size;omega) hn1.size (W:=W) hW;rw[hkk]at hA hB;have HA:=hid hA;have HB:=hid hB;have HO:=hid (λW=>DT (w:=W) h0 h2);have HW1:=hid hw1;obtain⟨r0,r1,r2,_⟩:=vZ hb0;obtain⟨a0,a1,a2⟩:=And.intro (na1.le _ _ r0) (And.intro (na1.le _ _ r1) (na1.le _ _ r2));obtain⟨b0,b1,b2⟩:=And.intro (nb1.le _ _ r0) (And.intro (nb1.le _ _ r1) (nb1.le _ _ r2));obtain⟨aa0,aa1,aa2⟩:=And.intro (na.le _ _ r0) (And.intro (na.le _ _ r1) (na.le _ _ r2));obtain⟨bb0,bb1,bb2⟩:=And.intro (nb.le _ _ r0) (And.intro (nb.le _ _ r1) (nb.le _ _ r2));obtain⟨ob,hob⟩:=zex (w.heap.size);rw[ek]at ra rb2;rw[es]at ra2 rb
 clear hA hB hw1 na nb na1 nb1 ba ba2 hbb1 hbb2 la la2 lb lb2 hb0 hzz ek es hn1;rw[<-hob]at r0 r1 r2 a0 a1 a2 b0 b1 b2 aa0 aa1 aa2 bb0 bb1 bb2;go_enter func36,ntmps36;go_upto_region 1 with fail
 rw[<-HW1.out,<-hob];obtain⟨cc,hcc⟩:=zex (Value.agg #[.int .i64 k,.string kx,.string sx]);rw[<-hcc];clear hcc hob hkk;go_region_held (λw'=>w'.cell? ⟨ob,0,none⟩=some (.int .i64 k)/\w'.cell? ⟨ob,1,none⟩=some (.string kx)/\w'.cell? ⟨ob,2,none⟩=some (.string sx)) (first|go_keep|(refine⟨?_,?_,?_⟩<;>assumption)) (first|(refine(HO.out _).mono ?_;rintro e w9 ⟨rfl,rfl⟩))
 all_goals
  go_wp2;go_returns
  first
   |(obtain⟨z1,z2,z3⟩:=HA.out _ rfl;exact⟨_,rfl,z1,z2,z3⟩)
   |(obtain⟨z1,z2,z3⟩:=HB.out _ rfl;exact⟨_,rfl,z1,z2,z3⟩)
end Go.Proofs.YtbmdoinjkligiaaGreat
