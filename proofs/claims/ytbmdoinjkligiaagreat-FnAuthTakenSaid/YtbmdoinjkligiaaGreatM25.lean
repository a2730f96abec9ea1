/- Contracts and laws that the last text joins. -/
import Derived.Test.YtbmdoinjkligiaaGreatM21
import Derived.Test.YtbmdoinjkligiaaGreatM22
import Derived.Test.YtbmdoinjkligiaaGreatM24
set_option maxRecDepth 100000
set_option maxHeartbeats 40000000
set_option linter.all false
namespace Go.Proofs.YtbmdoinjkligiaaGreat
open Tryz
open Lib(hid)
open Go.RowKit
theorem Xg(x:Nat)(W:World):(method 608 149 (ptr x) "CreateAuthBuckets").run prog W=.ok (208,ptr x) W:=by kernel_rfl
variable{A:yr}{W:World}{l:zu}{pdel pend x:Nat}{us:zF->List Bytes}
theorem UU{I:zN}{s:zA}{on:Bool}{rev:Nat}(hf:q9 s)(hA:ym A on rev)(h:kZ l W I (s.db A) pend pdel us)(hx:qd l W x 257 I.t 419):
  Calls prog 270 #[ptr x] W λe w'=>e=.returned (.bool on)/\za W w':=by
 obtain⟨C,wb,rb,e2,e4,hB,h1,h2,h3,h4⟩:=h;have R:=QY hB h1 (hf.dbOk hA);refine(Q6 (R:=λr w'=>r=.bool on/\za W w') hx.2 ((YO R (za.refl W)).mono ?_)).mono ?_
 ·rintro e w' ⟨rfl,hn,hm⟩;exact⟨_,rfl,congrArg Value.bool hA.en,hn⟩
 ·rintro e w' ⟨r,rfl,rfl,hn⟩;exact⟨rfl,hn⟩
theorem fd{I:zN}{s:zA}{on:Bool}{rev:Nat}(hf:q9 s)(hA:ym A on rev)(hr:rev<256)(h:kZ l W I (s.db A) pend pdel us)(hx:qd l W x 257 I.t 419):
  Calls prog 271 #[ptr x] W λe w'=>e=.returned (.int .u64 rev)/\za W w':=by
 obtain⟨C,wb,rb,e2,e4,hB,h1,h2,h3,h4⟩:=h;have R:=QY hB h1 (hf.dbOk hA);refine(vP (R:=λr w'=>r=.int .u64 rev/\za W w') hx.2 ((x8 (n:=rev) R (za.refl W) hr hA.rv).mono ?_)).mono ?_
 ·rintro e w' ⟨rfl,hn,hm⟩;exact⟨_,rfl,rfl,hn⟩
 ·rintro e w' ⟨r,rfl,rfl,hn⟩;exact⟨rfl,hn⟩
def zA.wake(s:zA):zA:=if s.rev=0 then {s with rev:=s.rev+1}else s
variable{ab:Nat}{lg:Value}
theorem DA{w:World}{I:zN}{s:zA}(ht:kZ l w I (s.db A) pend 0 jJ)(Sh:ym A s.on s.rev)(hf:q9 s)(ha:qd l w ab 136 I.be 151)(hx:qd l w x 257 I.t 419)
  (hW:W=(w.alloc (.map #[] 0)).alloc (.cells #[.int .u64 s.rev,lg,.iface 149 (ptr ab),.bool s.on,.map (some w.heap.size)] 146)):
  ∃l',zr l w l' W/\Z5 l' W (w.heap.size+1) I s A pend 0 jJ x ab w.heap.size lg s.on:=by
 have hn:za w W:=by rw[hW];exact((za.refl w).alloc _).alloc _
 have hs:W.heap.size=w.heap.size+2:=by rw[hW];exact(Array.size_push ..).trans (congrArg (· +1) (Array.size_push ..))
 have hl:=zbj (l:=l) (F:=(· =w.heap.size+1)) (n:=12) ht.bnd hn (λb e=>by rw[e];omega);have hc:=zr.client hl (hn.mod _);have h0:l (w.heap.size+1)=0:=by
  by_cases e:l (w.heap.size+1)=0
  ·exact e
  ·have:=ht.bnd _ e;omega
 refine⟨l.add (· =w.heap.size+1) 12,hl,kZ.client ht hc,Sh,hx.client hc,?_,ha.client hc,zu.add_pos rfl h0,hf⟩;have h9:=zg (w.alloc (.map #[] 0)) (.cells #[.int .u64 s.rev,lg,.iface 149 (ptr ab),.bool s.on,.map (some w.heap.size)] 146);have pL:(w.alloc (.map #[] 0)).heap.size=w.heap.size+1:=Array.size_push ..
 rw[pL,<-hW]at h9;exact h9
theorem fe(b:zF):zM (vl jJ b):=by
 unfold vl jJ;by_cases e:b=.auth
 ·rw[if_pos e];exact List.pairwise_singleton _ _
 ·rw[if_neg e];exact List.Pairwise.nil
def zcS(l:zu)(w:World)(I:zN)(s:zA)(e:Ending)(w':World):Prop:=
 ∃a l' I',e=.returned (.iface 142 (ptr a))/\w.heap.size<=a/\I.same I'/\zr l w l' w'/\Zk l' w' a I' s
variable{C:List zZ}{rb wb:List (Nat×zZ)}
theorem DB{w:World}{I:zN}{s:zA}(h:jX l w I C wb rb 0 0 [] [])(ha:qd l w ab 136 I.be 151)(Hx:wb.length<=800)
  (hD:xD (xD (xD (wb.map (·.2)) (zF.auth).name) (zF.users).name) (zF.roles).name=(s.db A).bkts)(Sh:ym A s.on s.rev)(hf:q9 s)(hs:yA s.wake):
  Calls prog 39 #[.pointer none,.iface 149 (ptr ab)] w (zcS l w I s.wake):=by
 have BW:=hid (US h ha Hx);have HA:=hid ha;have ww:=hid hD;have LR:=hid Sh;have HF:=hid hf;have HS:=hid hs;have HB:=hid h.bnd;have m0:=Xg;have m1:=qK;have m2:=qw;have m3:=vR;have m4:=jj;have m5:=vk;have m6:=ZO;have Su:= @run_makeMap prog;have Hb:=hf.rev;clear h ha Hx hD Sh hf hs;go_enter func39,ntmps39;go_wp2_with fail;refine BW.out.mono ?_;rintro e w1 ⟨rfl,l1,wb1,pI,tK,Hl⟩;have htx:kZ l1 w1 I (s.db A) 3 0 jJ:=⟨C,wb1,rb,[],[],tK,Hl.trans ww.out,by simp,λb=>rfl,λe=>by omega⟩;have th:=HA.out.step pI;have aU:=hid (qO htx th);have LN:=hid htx;have Oi:=hid th;have RV:=hid pI;clear tK Hl htx th pI;go_wp2_with fail;refine aU.out.mono ?_;rintro e w2 ⟨x,rfl,Hj,rU,po⟩;have SG:=LN.out.new Hj;have OF:=hid (jg SG po);have OG:=hid (UU HF.out LR.out SG po);have Pf:=hid Hj;have MQ:=hid po;clear SG Hj po;go_wp2_with fail;refine OF.out.mono ?_;rintro e w3 ⟨rfl,rfl⟩;go_wp2_with fail;refine OG.out.mono ?_
 rintro e w3 ⟨rfl,Hg⟩;have Rb:=hid (Pf.out.trans Hg);have E2:=hid (MQ.out.new Hg);have OH:=hid (fd HF.out LR.out (by omega) (LN.out.new Rb.out) E2.out);clear Hg;go_wp2_with fail;refine OH.out.mono ?_;rintro e w4 ⟨rfl,Rh⟩;have pz:=Rb.out.trans Rh;obtain⟨W5,P4⟩:=zex ((w4.alloc (.map #[] 0)).alloc (.cells #[.int .u64 s.rev,.pointer none,.iface 149 (ptr ab),.bool s.on,.map (some w4.heap.size)] 146));obtain⟨l5,pC,pr⟩:=DA (lg:=.pointer none) (LN.out.new pz) LR.out HF.out (Oi.out.new pz) (E2.out.new Rh) P4;have Cw:=hid (show w.heap.size<=w4.heap.size+1 from by have:=RV.out.size;have:=pz.size;omega);have s7:=hid P4;have t8:=hid pr;have P8:=hid ((RV.out.s.trans (zr.new LN.out.bnd pz)).trans pC);clear Rh pz P4 pC pr;go_upto_region 6 with fail
 change Code.wp _ _ _ _ ((w4.alloc (.map #[] 0)).alloc (.cells #[.int .u64 s.rev,.pointer none,.iface 149 (ptr ab),.bool s.on,.map (some w4.heap.size)] 146));rw[<-s7.out];obtain⟨a,ha⟩:=zex (w4.heap.size+1);rw[<-ha]at t8 Cw⊢;clear ha;have HR:=hid (Vh t8.out.row);by_cases c0:s.rev=0
 ·have he:(decide ((s.rev:Int)=0))=true:=by rw[c0];rfl
  have hei:((s.rev:Int)==0)=true:=by rw[c0];rfl
  have LL:s.wake={s with rev:=s.rev+1}:=by unfold zA.wake;rw[if_pos c0]
  rw[LL]at HS;have eZ:=hid LL;clear LL;have HC:=hid (yB t8.out (by decide) (by simp[jJ]) (by omega));clear c0;go_wp2_with (go_at_call 54;refine HR.out.mono ?_;rintro e w9 ⟨rfl,rfl⟩);refine HC.out.mono ?_;rintro e w6 ⟨rfl,l6,A6,PC,PP⟩;have Po:=hid PP;have sP:=hid (P8.out.trans PC);have Bp:=hid (qW PP HS.out);clear PC PP;go_wp2_with fail;refine Bp.out.mono ?_;rintro e w7 ⟨rfl,l7,m7,ri,rk,wT⟩;have HU:=hid (vC rk.tx (by decide) fe rk.atx);have CU:=hid rk;have OI:=hid wT;have OJ:=hid (sP.out.trans ri);clear ri rk wT;go_wp2_with fail;refine HU.out.mono ?_;rintro e w8 ⟨rfl,l8,I8,rB,Bu,Bv⟩;have ch:=QA CU.out HS.out OI.out rB Bu Bv;have Bl:=hid (kL ch.idle ch.abe);have OK:=hid ch;have OL:=hid Bu;have Br:=hid (OJ.out.trans rB.s);clear rB Bu Bv ch;go_wp2_with fail;refine Bl.out.mono ?_;rintro e w9 ⟨rfl,l9,I9,Mm,e_,wY⟩;have Hn:=hid (And.intro Mm (And.intro e_ wY));clear Mm e_ wY;go_wp2;go_returns
  exact⟨a,l9,I9,rfl,Cw.out,zN.same_trans OL.out Hn.out.2.1,Br.out.trans Hn.out.1.s,by rw[eZ.out];exact⟨_,_,_,_,OK.out.moved Hn.out.1 Hn.out.2.1 Hn.out.2.2⟩⟩
 ·have he:(decide ((s.rev:Int)=0))=false:=by simp;omega
  have hei:((s.rev:Int)==0)=false:=by simp;omega
  have MT:decide (s.rev=0)=false:=by simp;omega
  have hgm:(s.rev==0)=false:=by simp;omega
  have LL:s.wake=s:=by unfold zA.wake;rw[if_neg c0]
  rw[LL]at HS;have eZ:=hid LL;clear LL;have Bp:=hid (qW t8.out HS.out);clear c0;go_wp2_with (go_at_call 54;refine HR.out.mono ?_;rintro e w9 ⟨rfl,rfl⟩);refine Bp.out.mono ?_;rintro e w7 ⟨rfl,l7,m7,ri,rk,wT⟩;have HU:=hid (vC rk.tx (by decide) qH rk.atx);have CU:=hid rk;have OI:=hid wT;have OJ:=hid (P8.out.trans ri);clear ri rk wT;go_wp2_with fail;refine HU.out.mono ?_;rintro e w8 ⟨rfl,l8,I8,rB,Bu,Bv⟩;have ch:=QA CU.out HS.out OI.out rB Bu Bv;have Bl:=hid (kL ch.idle ch.abe);have OK:=hid ch;have OL:=hid Bu;have Br:=hid (OJ.out.trans rB.s);clear rB Bu Bv ch;go_wp2_with fail;refine Bl.out.mono ?_;rintro e w9 ⟨rfl,l9,I9,Mm,e_,wY⟩;have Hn:=hid (And.intro Mm (And.intro e_ wY));clear Mm e_ wY;go_wp2;go_returns;exact⟨a,l9,I9,rfl,Cw.out,zN.same_trans OL.out Hn.out.2.1,Br.out.trans Hn.out.1.s,by rw[eZ.out];exact⟨_,_,_,_,OK.out.moved Hn.out.1 Hn.out.2.1 Hn.out.2.2⟩⟩
structure qF(l:zu)(w:World)(l':zu)(w':World):Prop where
 mod:zq (λj=>l j≠0/\l j≠14) w w'
 old:∀b,b<w.heap.size->l' b=l b
 bnd:∀b,l' b≠0->b<w'.heap.size
variable{l':zu}{w':World}
theorem zr.w{w:World}(h:zr l w l' w'):qF l w l' w':=⟨h.mod.mono λj _ e=>⟨e.1,by have:=e.2;omega⟩,h.old,h.bnd⟩
variable{w'':World}
theorem qF.trans{l'':zu}{w:World}(h:qF l w l' w')(k:qF l' w' l'' w''):qF l w l'' w'' where
 mod:=h.mod.trans k.mod λb hb e=>by rw[h.old b hb]at e;exact e
 old b hb:=by rw[k.old b (Nat.lt_of_lt_of_le hb h.mod.size),h.old b hb]
 bnd:=k.bnd
theorem qF.refl{w:World}(h:∀b,l b≠0->b<w.heap.size):qF l w l w:=⟨zq.refl _ _,λ_ _=>rfl,h⟩
theorem qF.new{w:World}(h:∀b,l b≠0->b<w.heap.size)(hn:za w w'):qF l w l w':=⟨hn.mod _,λ_ _=>rfl,λb e=>Nat.lt_of_lt_of_le (h b e) hn.size⟩
theorem qF.le{w:World}(h:qF l w l' w'):(im l.some w).le (im l'.some w'):=
 (h.mod.mono (S':=l.some) λj _ e=>e.1).im λb hb e=>by show l b≠0;rw[<-h.old b hb];exact e
theorem qF.size{w:World}(h:qF l w l' w'):w.heap.size<=w'.heap.size:=h.mod.size
structure Wd(l:zu)(w:World)(x:Nat)(I:zN)(a:Nat)(s:zA):Prop where
 row:w.heap[x]? =some (.cells #[ptr I.db,.iface 136 (ptr I.be),.iface 142 (ptr a)] 63 (0,0))
 lab:l x=17
 st:Zk l w a I s
variable{b:Nat}
theorem vX{w:World}{T:Nat}{x y z:Value}(h:w.heap[b]? =some (.cells #[x,y,z] T (0,0))):w.cell? ⟨b,0,none⟩=some x/\w.cell? ⟨b,1,none⟩=some y/\w.cell? ⟨b,2,none⟩=some z/\w.frozen? ⟨b,0,none⟩=false/\w.frozen? ⟨b,1,none⟩=false/\w.frozen? ⟨b,2,none⟩=false:=
 ⟨by rw[cell_of_row w b 0 _ _ (0,0) h];rfl,by rw[cell_of_row w b 1 _ _ (0,0) h];rfl,by rw[cell_of_row w b 2 _ _ (0,0) h];rfl,by simp[World.frozen?,h],by simp[World.frozen?,h],by simp[World.frozen?,h]⟩
variable{a:Nat}{s':zA}
theorem Wd.call{w:World}{I I':zN}{s:zA}(h:Wd l w x I a s)(hs:zr l w l' w')(hI:I.same I')(ht:Zk l' w' a I' s'):Wd l' w' x I' a s':=by have hx:x<w.heap.size:=(Array.getElem?_eq_some_iff.1 h.row).1;refine⟨?_,by rw[hs.old x hx];exact h.lab,ht⟩;rw[hs.mod.block x hx (λe=>by have:=e.2;rw[h.lab]at this;omega),hI.2.2.2,hI.1];exact h.row
theorem Wd.new{w:World}{I:zN}{s:zA}(h:Wd l w x I a s)(hn:za w w'):Wd l w' x I a s:=
 ⟨hn.heap h.row,h.lab,h.st.keep (qD.ofNew h.st.bnd hn) λj e=>hn.block j (h.st.bnd j (by omega)) λe=>e⟩
variable{dv:Value}
theorem zbA{k:zu}{w:World}{d:Nat}(hk:∀j,k j≠0->j<w.heap.size)(LT:k d=4)(hd:w.heap[d]? =some (.cells #[dv] 79 (0,0)))(hD:jN (im k.some w) C dv)(Hx:C.length<=1000):
  Calls prog 38 #[ptr d,.int .i64 1000] w λe w'=>∃l' I wb rb,e=.returned (.iface 136 (ptr I.be))/\za w w'/\(∀b,b<w.heap.size->l' b=k b)/\I.db=d/\jX l' w' I C wb rb 0 0 [] []/\wb.map (·.2)=C/\rb.map (·.2)=C:=by
 have HO:=hid (zcQ hk LT hd hD Hx);clear hk LT hd hD Hx;go_enter func38,ntmps38;go_wp2_with fail;refine HO.out.mono ?_;rintro e w1 ⟨l',I,wb,rb,rfl,h1⟩;have H1:=hid h1;clear h1;go_wp2;go_returns;exact⟨l',I,wb,rb,rfl,H1.out⟩
variable{be:Nat}
theorem Gw{w:World}:
  Calls prog 40 #[.pointer none,.iface 136 (ptr be)] w λe w'=>e=.returned (.iface 149 (ptr w.heap.size))/\w'=w.alloc (.cells #[.iface 136 (ptr be),.pointer none] 151):=by
 go_enter func40,ntmps40;go_wp2;go_returns;exact⟨rfl,rfl⟩
def zbB(C:List zZ):List zZ:=xD (xD (xD C (zF.auth).name) (zF.users).name) (zF.roles).name
theorem zaj:zbB []=(vr.mk [] [] []).bkts:=by decide
theorem DC(D:vr):zbB D.bkts=D.bkts:=by
 have h1:D.bkts.map (·.1)=K5:=rfl;have e:∀b:zF,xD D.bkts b.name=D.bkts:=λb=>by unfold xD;rw[h1,if_pos (kh b).2]
 unfold zbB;rw[e,e,e]
theorem zb8{w:World}(hb:∀j,l j≠0->j<w.heap.size)(hx:l x=17)(i:Nat)(v:Value):qD l w l (w.setCell ⟨x,i,none⟩ v)/\qF l w l (w.setCell ⟨x,i,none⟩ v):=by have hm:zq (· =x) w (w.setCell ⟨x,i,none⟩ v):=vx (S:=(· =x)) (zq.refl _ _) rfl _;have cw:∀b,l b≠0->b<(w.setCell ⟨x,i,none⟩ v).heap.size:=λb e=>Nat.lt_of_lt_of_le (hb b e) hm.size;exact⟨⟨hm.mono λj _ e=>by rw[e,hx];decide,λ_ _=>rfl,cw⟩,⟨hm.mono λj _ e=>by rw[e,hx];decide,λ_ _=>rfl,cw⟩⟩
variable{bv:Value}
theorem Gx{w:World}{d:Nat}{av:Value}{s:zA}(hb:∀j,l j≠0->j<w.heap.size)(hx:l x=17)(hZ:w.heap[x]? =some (.cells #[ptr d,bv,av] 63 (0,0)))(Sv:l d=4)(hd:w.heap[d]? =some (.cells #[dv] 79 (0,0)))
  (hD:jN (im l.some w) C dv)(Hx:C.length<=3)(tu:zbB C=(s.db A).bkts)(Sh:ym A s.on s.rev)(hf:q9 s)(hs:yA s.wake):
  Calls prog 32 #[ptr x] w λe w'=>e=.returned (.tuple #[])/\∃l' I a,I.db=d/\qF l w l' w'/\Wd l' w' x I a s.wake:=by
 obtain⟨c0,c1,c2,z0,z1,z2⟩:=vX hZ;have RQ:x<w.heap.size:=(Array.getElem?_eq_some_iff.1 hZ).1;have HO:=hid (zbA hb Sv hd hD (by omega));have P7:=hid hZ;have HX:=hid hx;have MN:=hid tu;have LR:=hid Sh;have HF:=hid hf;have HS:=hid hs;have HB:=hid hb;clear hb hx hZ Sv hd hD tu Sh hf hs;go_enter func32,ntmps32;go_wp2_with fail;refine HO.out.mono ?_;rintro e w1 ⟨l1,I,wb,rb,rfl,hQ,rG,rE,tK,EY,Py⟩;have Pv:=hQ.heap P7.out;obtain⟨d0,d1,d2,y0,y1,y2⟩:=vX Pv;have pB:l1 x=17:=(rG x RQ).trans HX.out;obtain⟨W1,PW⟩:=zex (w1.setCell ⟨x,1,none⟩ (.iface 136 (ptr I.be)));obtain⟨r8,Hh⟩:=zb8 tK.bnd pB 1 (.iface 136 (ptr I.be));rw[<-PW]at r8 Hh;have ry:W1.heap[x]? =some (.cells #[ptr d,.iface 136 (ptr I.be),av] 63 (0,0)):=by rw[PW];exact heap_setCell_same w1 x 1 _ _ _ Pv
 obtain⟨e0,e1,e2,v0,v1,v2⟩:=vX ry;have Re:qF l w l1 w1:=⟨hQ.mod _,rG,tK.bnd⟩;have wz:=tK.client r8;have SB:=hid wz;have Pr:=hid PW;have Nn:=hid ry;have SF:=hid pB;have Tu:=hid (Re.trans Hh);have HDB:=hid rE;have HWB:=hid EY;have td:=hid (Gw (w:=W1) (be:=I.be));clear hQ rG rE tK EY Py Pv pB PW r8 Hh ry Re wz c0 c1 c2 z0 z1 z2;go_upto_region 1 with fail
 rw[<-Pr.out];clear d0 d1 d2 y0 y1 y2;go_wp2_with fail;refine td.out.mono ?_;rintro e w3 ⟨rfl,pu⟩;have Hg:za W1 w3:=by rw[pu];exact(za.refl W1).alloc _
 have hB3:=(SB.out.ofNew Hg).2;have S7:l1 W1.heap.size=0:=by
  by_cases e:l1 W1.heap.size=0
  ·exact e
  ·have:=SB.out.bnd _ e;omega
 have pH:qd l1 w3 W1.heap.size 136 I.be 151:=⟨S7,by rw[pu];exact zg W1 _⟩;have ea:wb.length<=800:=by have:=congrArg List.length HWB.out;rw[List.length_map]at this;omega
 have HNS:=hid (DB hB3 pH ea (by rw[HWB.out];exact MN.out) LR.out HF.out HS.out);have Rb:=hid Hg;clear pu Hg hB3 S7 pH ea;go_wp2_with fail;refine HNS.out.mono ?_;rintro e w4 ⟨a,l4,I4,rfl,pD,Ci,PV,OM⟩;have hxW:x<w3.heap.size:=by have:=Tu.out.size;have:=Rb.out.size;omega
 have ws:l4 x=17:=(PV.old x hxW).trans SF.out;have Mb:w4.heap[x]? =some (.cells #[ptr d,.iface 136 (ptr I.be),av] 63 (0,0)):=by rw[PV.mod.block x hxW (λe=>by have:=e.2;rw[SF.out]at this;omega)];exact Rb.out.heap Nn.out
 obtain⟨g0,g1,g2,u0,u1,u2⟩:=vX Mb;obtain⟨hc4,So⟩:=zb8 OM.bnd ws 2 (.iface 142 (ptr a));have Hn:=hid (show I4.db=d/\qF l w l4 (w4.setCell ⟨x,2,none⟩ (.iface 142 (ptr a)))/\Wd l4 (w4.setCell ⟨x,2,none⟩ (.iface 142 (ptr a))) x I4 a s.wake from by
  refine⟨Ci.2.2.2.trans HDB.out,((Tu.out.trans (qF.new SB.out.bnd Rb.out)).trans PV.w).trans So,?_,ws,OM.keep hc4 λj e=>Below.heap_setCell _ _ _ _ (λe9=>by have e9:j=x:=e9;rw[e9,ws]at e;omega)⟩
  rw[heap_setCell_same w4 x 2 _ _ _ Mb,Ci.2.2.2,Ci.1,HDB.out];rfl)
 clear pD Ci PV OM ws Mb hc4 So;go_wp2;go_returns;exact⟨rfl,l4,I4,a,Hn.out⟩
theorem qa(a:Nat)(W:World):(method 608 142 (ptr a) "Revision").run prog W=.ok (54,ptr a) W:=by kernel_rfl
variable{o:zH}
theorem Y4{w:World}{I:zN}{s:zA}(h:Wd l w x I a s)(h0:0<=o.old)(h1:o.old<=1):
  Calls prog 41 #[ptr x,o.val] w λe w'=>∃ib,e=.returned (ptr ib)/\za w w'/\w.heap.size<=ib/\vj w' ib o.who (zH.rv s o):=by
 obtain⟨A,ab,m,lg,hp⟩:=h.st;have hr:=hp.fine.rev;have Pv:=hp.sane.pos;obtain⟨c0,c1,c2,_⟩:=vX h.row;have HR:=hid (λW (hn:za w W)=>Vh (w:=W) (hp.row.keep (hn.block a hp.row.lt λe=>e)));have sL:=qa a;have RQ:x<w.heap.size:=(Array.getElem?_eq_some_iff.1 h.row).1;clear h hp;obtain⟨ki,us,ro,pk,ke,st,np,od,nu⟩:=o;obtain⟨q1,pY⟩:=zex ((zH.mk ki us ro pk ke st np od nu).who);obtain⟨q2,PL⟩:=zex (zH.rv s (zH.mk ki us ro pk ke st np od nu));rw[<-pY,<-PL];unfold zH.who at pY;unfold zH.rv at PL;unfold zH.val zH.cells;dsimp only at*
 obtain⟨w1,Hh⟩:=zex (w.alloc (.cells #[.int .i64 ki,zb us,zb ro,.int .i64 pk,zb ke,zb st,.bool np,.int .i64 od,.bool nu] 35));have hQ:za w w1:=by rw[Hh];exact(za.refl w).alloc _
 have pI:w1.heap.size=w.heap.size+1:=by rw[Hh];exact Array.size_push ..
 have Pr:=hid Hh;have Hs:=hid hQ;have Na:=hid pY;have Nq:=hid PL;clear Hh hQ pY PL;cases nu
 ·have tD:=hid (HR.out w1 Hs.out);have Nn:=hid (HR.out w1.drew Hs.out.drew);go_enter func41,ntmps41;go_upto_region 3 with fail
  rw[<-Pr.out];have rM:=Pr.out;have pM:w1.heap[w.heap.size]? =some (.cells #[.int .i64 ki,zb us,zb ro,.int .i64 pk,zb ke,zb st,.bool np,.int .i64 od,.bool false] 35 (0,0)):=by rw[rM];exact zg w _
  have d2:=Hs.out.le _ _ c2;have g1:w1.cell? ⟨w.heap.size,1,none⟩=some (zb us):=by rw[cell_of_row w1 _ 1 _ _ (0,0) pM];rfl
  have g7:w1.cell? ⟨w.heap.size,7,none⟩=some (.int .i64 od):=by rw[cell_of_row w1 _ 7 _ _ (0,0) pM];rfl
  obtain⟨ob,p_⟩:=zex (w.heap.size);rw[<-p_]at g1 g7⊢;have mg:=hid p_;clear rM pM p_;obtain⟨sx,Ht⟩:=zex ((⟨us.toArray⟩:ByteArray));have ON:zb us=.string sx:=by rw[Ht];rfl
  rw[ON]at g1;have Bi:=hid ON;clear Ht ON;obtain⟨c35,Ea⟩:=zex (Value.agg #[.int .i64 ki,zb us,zb ro,.int .i64 pk,zb ke,zb st,.bool np,.int .i64 od,.bool false]);rw[<-Ea];clear Ea;have Tp:max ((s.rev:Int)-od) 0=((s.rev-od.toNat:Nat):Int):=by omega
  go_region_with (first|(refine tD.out.mono ?_;rintro e w2 ⟨rfl,rfl⟩)|(refine Nn.out.mono ?_;rintro e w2 ⟨rfl,rfl⟩))
  all_goals
   go_wp2;go_returns;have h9:=zg w1 (.cells #[.string sx,.int .u64 (s.rev-od.toNat:Nat)] 153);rw[pI]at h9;refine⟨w.heap.size+1,rfl,by first|exact(Hs.out.alloc _).drew|exact Hs.out.alloc _|exact(Hs.out.alloc _).drewN _,by omega,?_⟩;rw[Na.out,Nq.out];simp only[Bool.false_eq_true,if_false];unfold vj;rw[Bi.out,show((s.rev:Int)-od).toNat=s.rev-od.toNat by omega];exact h9
 ·go_enter func41,ntmps41;go_wp2;go_returns;have h9:=zg w1 (.cells #[.string {data:= #[]},.int .u64 0] 153);rw[pI]at h9;rw[<-Pr.out];refine⟨w.heap.size+1,rfl,Hs.out.alloc _,by omega,?_⟩;rw[Na.out,Nq.out];simp only[if_true];exact h9
theorem DD{w:World}{n:Int}(h0:0<=n)(h2:n<=2):Calls prog 49 #[.int .i64 n] w λe w'=>e=.returned (.int .i32 n)/\w=w':=by
 have e1:decide (n< -2147483648)=false:=by simp;omega
 have e2:decide ((2147483647:Int)<n)=false:=by simp;omega
 go_enter func49,ntmps49;go_wp2;go_returns;exact⟨rfl,rfl⟩
theorem Y5(w:World){a b:Bytes}(ha:a.length<=1000000)(hb:b.length<=1000000):
  ∃an ac w1 bn bc w2,(convert 9 75 (zb a)).run prog w=.ok (.slice (some ⟨w.heap.size,0,none⟩) an ac) w1/\(convert 9 75 (zb b)).run prog w1=.ok (.slice (some ⟨w1.heap.size,0,none⟩) bn bc) w2/\
   za w w1/\za w w2/\w.heap.size<w1.heap.size/\w1.heap.size<w2.heap.size/\Bs w2.cell? a (.slice (some ⟨w.heap.size,0,none⟩) an ac)/\Bs w2.cell? b (.slice (some ⟨w1.heap.size,0,none⟩) bn bc):=by
 obtain⟨v1,w1,h1,n1,b1,⟨an,ac,rfl⟩,l1⟩:=jO (P:=prog) w 9 75 5 (l:=a) (u:=.string) (by kernel_rfl) (by kernel_rfl) (by kernel_rfl) ha;obtain⟨v2,w2,h2,n2,b2,⟨bn,bc,rfl⟩,l2⟩:=jO (P:=prog) w1 9 75 5 (l:=b) (u:=.string) (by kernel_rfl) (by kernel_rfl) (by kernel_rfl) hb;exact⟨an,ac,w1,bn,bc,w2,h1,h2,n1,n1.trans n2,l1,l2,b1.mono n2.le,b2⟩
variable{stop:Bytes}{w2:World}
theorem XW{w:World}{kd:Nat}{key:Bytes}{kb sb kn kc sn sc:Nat}(hn:za w w2)(hk:Bs w2.cell? key (.slice (some ⟨kb,0,none⟩) kn kc))(hs:Bs w2.cell? stop (.slice (some ⟨sb,0,none⟩) sn sc))(PX:w.heap.size<=kb)(C_:w.heap.size<=sb)
  (hW:W=w2.alloc (.cells #[.int .i32 kd,.slice (some ⟨kb,0,none⟩) kn kc,.slice (some ⟨sb,0,none⟩) sn sc] 112)):
  za w W/\w.heap.size<=w2.heap.size/\∀S:Nat->Prop,(∀j,S j->j<w.heap.size)->ju (im S W) w2.heap.size ⟨kd,key,stop⟩:=by
 have Hj:za w2 W:=by rw[hW];exact(za.refl w2).alloc _
 have hZ:W.heap[w2.heap.size]? =some (.cells #[.int .i32 kd,.slice (some ⟨kb,0,none⟩) kn kc,.slice (some ⟨sb,0,none⟩) sn sc] 112 (0,0)):=by rw[hW];exact zg w2 _
 obtain⟨r0,r1,r2,_⟩:=vX hZ;have pL:=hn.size;refine⟨hn.trans Hj,pL,λS hS=> ?_⟩;have hb: ¬S w2.heap.size:=λe=>by have:=hS _ e;omega
 refine⟨zi.2 ⟨hb,r0⟩,⟨_,zi.2 ⟨hb,r1⟩,(hk.mono Hj.le).im_of λj e e2=> ?_⟩,⟨_,zi.2 ⟨hb,r2⟩,(hs.mono Hj.le).im_of λj e e2=> ?_⟩⟩
 ·have e:kb=j:=by simpa[Value.ownBlock]using e
  have:=hS j e2;omega
 ·have e:sb=j:=by simpa[Value.ownBlock]using e
  have:=hS j e2;omega
theorem zbC{w:World}{k:Int}{key:Bytes}(h0:0<=k)(h2:k<=2)(pE:key.length<=1000)(pW:stop.length<=1000):
  Calls prog 36 #[WY k key stop] w λe w'=>∃pb,e=.returned (ptr pb)/\za w w'/\w.heap.size<=pb/\∀S:Nat->Prop,(∀j,S j->j<w.heap.size)->ju (im S w') pb ⟨k.toNat,key,stop⟩:=by
 unfold WY;obtain⟨kx,ek⟩:∃kx,zb key=.string kx:=⟨_,rfl⟩;obtain⟨sx,es⟩:∃sx,zb stop=.string sx:=⟨_,rfl⟩;rw[ek,es];obtain⟨w1,Hh⟩:=zex (w.alloc (.cells #[.int .i64 k,.string kx,.string sx] 33));have hQ:za w w1:=by rw[Hh];exact(za.refl w).alloc _
 have pM:w1.heap[w.heap.size]? =some (.cells #[.int .i64 k,.string kx,.string sx] 33 (0,0)):=by rw[Hh];exact zg w _
 obtain⟨kn,kc,wa,sn,sc,wa2,ra,ra2,na1,na,la,la2,ba,ba2⟩:=Y5 w1.drew (a:=key) (b:=stop) (by omega) (by omega);obtain⟨tn,tc,wb,un,uc,wb2,rb,rb2,nb1,nb,lb,lb2,NG,Lb⟩:=Y5 w1.drew (a:=stop) (b:=key) (by omega) (by omega);have Rk:(k.toNat:Int)=k:=by omega
 have Ml:w1.drew.heap.size=w1.heap.size:=rfl;rw[Ml]at ra rb la lb ba NG;have hA:=λW hW=>XW (w:=w) (kd:=k.toNat) (hQ.trans (za.undrew na)) ba ba2 hQ.size (by have:=hQ.size;omega) (W:=W) hW;have hB:=λW hW=>XW (w:=w) (kd:=k.toNat) (hQ.trans (za.undrew nb)) Lb NG (by have:=hQ.size;omega) hQ.size (W:=W) hW;rw[Rk]at hA hB;have HA:=hid hA;have HB:=hid hB;have HO:=hid (λW=>DD (w:=W) h0 h2);have Pr:=hid Hh;obtain⟨r0,r1,r2,_⟩:=vX pM;obtain⟨a0,a1,a2⟩:=And.intro (na1.le _ _ r0) (And.intro (na1.le _ _ r1) (na1.le _ _ r2));obtain⟨b0,b1,b2⟩:=And.intro (nb1.le _ _ r0) (And.intro (nb1.le _ _ r1) (nb1.le _ _ r2));obtain⟨aa0,aa1,aa2⟩:=And.intro (na.le _ _ r0) (And.intro (na.le _ _ r1) (na.le _ _ r2));obtain⟨bb0,bb1,bb2⟩:=And.intro (nb.le _ _ r0) (And.intro (nb.le _ _ r1) (nb.le _ _ r2));obtain⟨ob,p_⟩:=zex (w.heap.size);rw[ek]at ra rb2;rw[es]at ra2 rb
 clear hA hB Hh na nb na1 nb1 ba ba2 NG Lb la la2 lb lb2 pM Ml ek es hQ;rw[<-p_]at r0 r1 r2 a0 a1 a2 b0 b1 b2 aa0 aa1 aa2 bb0 bb1 bb2;go_enter func36,ntmps36;go_upto_region 1 with fail
 rw[<-Pr.out,<-p_];obtain⟨cc,Hc⟩:=zex (Value.agg #[.int .i64 k,.string kx,.string sx]);rw[<-Hc];clear Hc p_ Rk;go_region_held (λw'=>w'.cell? ⟨ob,0,none⟩=some (.int .i64 k)/\w'.cell? ⟨ob,1,none⟩=some (.string kx)/\w'.cell? ⟨ob,2,none⟩=some (.string sx)) (first|go_keep|(refine⟨?_,?_,?_⟩<;>assumption)) (first|(refine(HO.out _).mono ?_;rintro e w9 ⟨rfl,rfl⟩))
 all_goals
  go_wp2;go_returns
  first
   |(obtain⟨z1,z2,z3⟩:=HA.out _ rfl;exact⟨_,rfl,z1,z2,z3⟩)
   |(obtain⟨z1,z2,z3⟩:=HB.out _ rfl;exact⟨_,rfl,z1,z2,z3⟩)
end Go.Proofs.YtbmdoinjkligiaaGreat
