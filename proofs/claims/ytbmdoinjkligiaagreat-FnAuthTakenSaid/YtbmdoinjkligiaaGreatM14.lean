/- Contracts and laws that the last text joins. -/
import Derived.Test.YtbmdoinjkligiaaGreatM13
set_option maxRecDepth 100000
set_option maxHeartbeats 40000000
set_option linter.all false
namespace Go.Proofs.YtbmdoinjkligiaaGreat
open Tryz
open Lib(hid)
open Go.RowKit
theorem YU(t:Nat)(W:World):(method 608 136 (ptr t) "BatchTx").run prog W=.ok (149,ptr t) W:=by kernel_rfl
theorem uA(t:Nat)(W:World):(method 608 136 (ptr t) "ReadTx").run prog W=.ok (152,ptr t) W:=by kernel_rfl
theorem gL(t:Nat)(W:World):(method 608 136 (ptr t) "ForceCommit").run prog W=.ok (151,ptr t) W:=by kernel_rfl
variable{be rt t:Nat}
theorem Vb{w:World}{db:Nat}(h:vA w be db t rt):Calls prog 149 #[ptr be] w λe w'=>e=.returned (.iface 257 (ptr t))/\w=w':=by have c3:=h.cells.2.2.1;clear h;go_enter func149,ntmps149;go_wp2;go_returns;exact⟨rfl,rfl⟩
theorem Df{w:World}{db:Nat}(h:vA w be db t rt):Calls prog 152 #[ptr be] w λe w'=>e=.returned (.iface 238 (ptr rt))/\w=w':=by have c3:=h.cells.2.2.2.1;clear h;go_enter func152,ntmps152;go_wp2;go_returns;exact⟨rfl,rfl⟩
variable{l:zu}{pdel pend:Nat}{us:zF->List Bytes}
theorem kZ.beAt{w:World}{I:zN}{D:vr}(h:kZ l w I D pend pdel us):vA w I.be I.db I.t I.rt:=by obtain⟨C,wb,rb,e2,e4,hB,_⟩:=h;exact hB.be
def WE(l:zu)(w w':World)(e:Ending)(AT:TypeId)(T:TypeId)(I:Nat)(ty:TypeId):Prop:=∃x,e=.returned (.iface AT (ptr x))/\za w w'/\w.heap.size<=x/\qd l w' x T I ty
variable{ab:Nat}
theorem qO{w:World}{I:zN}{D:vr}(h:kZ l w I D pend pdel us)(ha:qd l w ab 136 I.be 151):
  Calls prog 207 #[ptr ab] w λe w'=>WE l w w' e 417 257 I.t 419:=by
 obtain⟨q0,q1,_⟩:=qS ha.2;have Hr:=h.bnd;have ef:=h.beAt;have HB:=hid (Vb (show vA w.drew I.be I.db I.t I.rt from ef));have TN:l w.heap.size=0:=by
  by_cases e:l w.heap.size=0
  ·exact e
  ·have:=Hr _ e;omega
 have Hm:=YU;have bU:=hid TN;clear TN;have hZ:(w.drew.alloc (.cells #[.iface 257 (ptr I.t),.pointer none] 419)).heap[w.heap.size]? =some (.cells #[.iface 257 (ptr I.t),.pointer none] 419 (0,0)):=zg w.drew _;have P7:=hid hZ;clear hZ;clear h ha Hr ef;go_enter func207,ntmps207;go_wp2_with fail;go_region_with (go_at_call 149;refine HB.out.mono ?_;rintro e w1 ⟨rfl,rfl⟩)
 all_goals
  go_wp2;go_returns;exact⟨w.heap.size,rfl,((za.refl w).alloc _).drew,Nat.le_refl _,bU.out,P7.out⟩
theorem vD{w:World}{I:zN}{D:vr}(h:kZ l w I D pend pdel us)(ha:qd l w ab 136 I.be 151):
  Calls prog 214 #[ptr ab] w λe w'=>WE l w w' e 424 238 I.rt 426:=by
 obtain⟨q0,q1,_⟩:=qS ha.2;have Hr:=h.bnd;have ef:=h.beAt;have HB:=hid (Df (show vA w.drew I.be I.db I.t I.rt from ef));have TN:l w.heap.size=0:=by
  by_cases e:l w.heap.size=0
  ·exact e
  ·have:=Hr _ e;omega
 have Hm:=uA;have bU:=hid TN;clear TN;have hZ:(w.drew.alloc (.cells #[.iface 238 (ptr I.rt),.pointer none] 426)).heap[w.heap.size]? =some (.cells #[.iface 238 (ptr I.rt),.pointer none] 426 (0,0)):=zg w.drew _;have P7:=hid hZ;clear hZ;clear h ha Hr ef;go_enter func214,ntmps214;go_wp2_with fail;go_region_with (go_at_call 152;refine HB.out.mono ?_;rintro e w1 ⟨rfl,rfl⟩)
 all_goals
  go_wp2;go_returns;exact⟨w.heap.size,rfl,((za.refl w).alloc _).drew,Nat.le_refl _,bU.out,P7.out⟩
theorem kL{w:World}{I:zN}{D:vr}(h:V4 l w I D)(ha:qd l w ab 136 I.be 151):
  Calls prog 209 #[ptr ab] w λe w'=>e=.returned (.tuple #[])/\WD l w I D w':=by
 have q0:w.cell? ⟨ab,0,none⟩=some (.iface 136 (ptr I.be)):=(qS ha.2).1;have HF:=hid (ZX h);have Hm:=gL;clear h ha;go_enter func209,ntmps209;go_wp2_with fail;refine HF.out.mono ?_;rintro e w1 ⟨rfl,hd⟩;have HD:=hid hd;clear hd;go_wp2;go_returns;exact⟨rfl,HD.out⟩
def zA.db(s:zA)(A:yr):vr:=⟨A,VT zm.name zm.enc s.roles,VT zj.name zj.enc s.users⟩
structure ym(A:yr)(on:Bool)(rev:Nat):Prop where
 en:Wx (qX A Qq)=on
 rv:qX A xH=Wz rev
 sorted:zE (λp:Bytes×Bytes=>p.1) A
 key:∀p∈A,p.1=Qq\/p.1=xH
structure q9(s:zA):Prop where
 us:zE zj.name s.users
 rs:zE zm.name s.roles
 uok:∀u∈s.users,jv u
 rok:∀r∈s.roles,kB r
 ul:s.users.length<=300
 rl:s.roles.length<=300
 rev:s.rev<200
variable{α:Type}
theorem WF{nm en:α->Bytes}{l:List α}(hs:zE nm l)(h0:∀x∈l,nm x≠[]/\(nm x).length<=1000)(hl:l.length<=1000):zcz (VT nm en l)where
 rise:=by rw[YR];exact hs
 ne p hp:=by obtain⟨x,hx,rfl⟩:=List.mem_map.1 hp;exact(h0 x hx).1
 len:=by unfold VT;rw[List.length_map];exact hl
 key p hp:=by obtain⟨x,hx,rfl⟩:=List.mem_map.1 hp;exact(h0 x hx).2
variable{A:yr}
theorem zbi(h:zE (λp:Bytes×Bytes=>p.1) A)(hk:∀p∈A,p.1=Qq\/p.1=xH):A.length<=2:=by
 match A,h,hk with
 |[],_,_=>simp
 |[_],_,_=>simp
 |[_,_],_,_=>simp
 |a::b::c::r,h,hk=>exfalso;have h1:=h.head (z:=b) (by simp);have h2:=h.head (z:=c) (by simp);have h3:=h.tail.head (z:=c) (by simp);have ka:=hk a (by simp);have kb:=hk b (by simp);have kc:=hk c (by simp);rcases ka with ka|ka<;>rcases kb with kb|kb<;>rcases kc with kc|kc<;>rw[ka,kb]at h1<;>rw[ka,kc]at h2<;>rw[kb,kc]at h3<;>first|exact zI _ h1|exact zI _ h2|exact zI _ h3
theorem ym.ok{on:Bool}{rev:Nat}(h:ym A on rev):zcz A where
 rise:=h.sorted
 ne p hp:=by rcases h.key p hp with e|e<;>rw[e]<;>decide
 len:=by have:=zbi h.sorted h.key;omega
 key p hp:=by rcases h.key p hp with e|e<;>rw[e]<;>decide
theorem q9.dbOk{s:zA}(h:q9 s){on:Bool}{rev:Nat}(hA:ym A on rev):(s.db A).ok:=λb=>by
 cases b with
 |auth=>exact hA.ok
 |users=>exact WF h.us (λu hu=>⟨(h.uok u hu).name0,(h.uok u hu).name⟩) (by have:=h.ul;omega)
 |roles=>exact WF h.rs (λu hu=>⟨(h.rok u hu).name0,(h.rok u hu).name⟩) (by have:=h.rl;omega)
structure AR(B:zu->World->Prop)(T:TypeId)(v rc:Value)(gU gR gA:FuncId)(us:List zj)(rs:List zm):Prop where
 keep:∀l l' W W',B l W->qD l W l' W'->B l' W'
 lt:∀l W,B l W->∀j,l j≠0->j<W.heap.size
 methU:∀W,(method 608 T v "UnsafeGetUser").run prog W=.ok (gU,rc) W
 nilU:∀W,(nilAhead 608 T v "UnsafeGetUser").run prog W=.ok (some false) W
 entU:∀args W,(callFunc gU args).run prog W=.ok (.enter gU args) W
 methR:∀W,(method 608 T v "UnsafeGetRole").run prog W=.ok (gR,rc) W
 nilR:∀W,(nilAhead 608 T v "UnsafeGetRole").run prog W=.ok (some false) W
 entR:∀args W,(callFunc gR args).run prog W=.ok (.enter gR args) W
 methA:∀W,(method 608 T v "UnsafeGetAllUsers").run prog W=.ok (gA,rc) W
 nilA:∀W,(nilAhead 608 T v "UnsafeGetAllUsers").run prog W=.ok (some false) W
 entA:∀args W,(callFunc gA args).run prog W=.ok (.enter gA args) W
 user:∀l W n,B l W->n.length<=1000->Calls prog gU #[rc,zb n] W λe w'=>∃r,e=.returned r/\(B l w'/\zq l.own W w'/\j8 W w' (.returned r) (qT zj.name us n))
 role:∀l W n,B l W->n.length<=1000->Calls prog gR #[rc,zb n] W λe w'=>∃r,e=.returned r/\(B l w'/\zq l.own W w'/\jL W w' (.returned r) (qT zm.name rs n))
 all:∀l W,B l W->Calls prog gA #[rc] W λe w'=>∃r,e=.returned r/\(B l w'/\zq l.own W w'/\KY l.some W w' us r)
variable{w':World}
theorem j8.ret{w:World}{e:Ending}{o:Option zj}(h:j8 w w' e o):∃r,e=.returned r/\j8 w w' (.returned r) o:=by
 cases o with
 |none=>exact⟨_,h,rfl⟩
 |some u=>obtain⟨b,wm,nv,rv,ov,rfl,h1⟩:=h;exact⟨_,rfl,b,wm,nv,rv,ov,rfl,h1⟩
theorem jL.ret{w:World}{e:Ending}{o:Option zm}(h:jL w w' e o):∃r,e=.returned r/\jL w w' (.returned r) o:=by
 cases o with
 |none=>exact⟨_,h,rfl⟩
 |some u=>obtain⟨b,wm,nv,rv,ids,rfl,h1⟩:=h;exact⟨_,rfl,b,wm,nv,rv,ids,rfl,h1⟩
theorem j8.undrew{w:World}{e:Ending}{o:Option zj}(h:j8 w.drew w' e o):j8 w w' e o:=by cases o<;>exact h
theorem jL.undrew{w:World}{e:Ending}{o:Option zm}(h:jL w.drew w' e o):jL w w' e o:=by cases o<;>exact h
section
variable{I:zN}{pend pdel x:Nat}{us:zF->List Bytes}{s:zA}{A:yr}{on:Bool}{rev:Nat}
theorem zcB{s:zA}(A:yr)(n:Bytes):qX ((s.db A).get .users) n=(qT zj.name s.users n).map zj.enc:=gF _ _
theorem zcC{s:zA}(A:yr)(n:Bytes):qX ((s.db A).get .roles) n=(qT zm.name s.roles n).map zm.enc:=gF _ _
theorem qg{α:Type}{nm:α->Bytes}{l:List α}(h:zE nm l){n:Bytes}{y:α}(hg:qT nm l n=some y):y∈l:=((qN h).1 hg).1
theorem vQ(hf:q9 s)(hA:ym A on rev):AR (λl W=>kZ l W I (s.db A) pend pdel us/\qd l W x 257 I.t 419) 417 (ptr x) (ptr x) 267 266 265 s.users s.roles where
 keep l l' W W' h hc:=⟨h.1.client hc,h.2.client hc⟩
 lt l W h:=h.1.bnd
 methU _:=by kernel_rfl
 nilU _:=by kernel_rfl
 entU _ _:=by kernel_rfl
 methR _:=by kernel_rfl
 nilR _:=by kernel_rfl
 entR _ _:=by kernel_rfl
 methA _:=by kernel_rfl
 nilA _:=by kernel_rfl
 entA _ _:=by kernel_rfl
 user l W n h hn:=by obtain⟨⟨C,wb,rb,e2,e4,hB,h1,h2,h3,h4⟩,hx⟩:=h;have R:=YS (l:=l) (w:=W) (I:=I) (C:=C) (rb:=rb) (pend:=pend) (pdel:=pdel) (e2:=e2) (e4:=e4) h1 (hf.dbOk hA);refine JL hx.2 ((KW (lg:=.pointer none) R.toDe (w:=W.drew) (n:=n) ⟨(zB.refl hB.bnd).drewN 1,hB.drewN 1⟩ hn (zcB A n) (λu hu=>hf.uok u (qg hf.us hu))).mono ?_);rintro e w' ⟨⟨hs,tJ⟩,hm,hg⟩;obtain⟨r,rfl,hg⟩:=hg.ret;exact⟨r,rfl,⟨⟨C,wb,rb,e2,e4,tJ,h1,h2,h3,h4⟩,hx.step hs⟩,hs.mod,hg.undrew⟩
 role l W n h hn:=by obtain⟨⟨C,wb,rb,e2,e4,hB,h1,h2,h3,h4⟩,hx⟩:=h;have R:=YS (l:=l) (w:=W) (I:=I) (C:=C) (rb:=rb) (pend:=pend) (pdel:=pdel) (e2:=e2) (e4:=e4) h1 (hf.dbOk hA);refine JM hx.2 ((KX (lg:=.pointer none) R.toDe (w:=W.drew) (n:=n) ⟨(zB.refl hB.bnd).drewN 1,hB.drewN 1⟩ hn (zcC A n) (λu hu=>hf.rok u (qg hf.rs hu))).mono ?_);rintro e w' ⟨⟨hs,tJ⟩,hm,hg⟩;obtain⟨r,rfl,hg⟩:=hg.ret;exact⟨r,rfl,⟨⟨C,wb,rb,e2,e4,tJ,h1,h2,h3,h4⟩,hx.step hs⟩,hs.mod,hg.undrew⟩
 all l W h:=by obtain⟨⟨C,wb,rb,e2,e4,hB,h1,h2,h3,h4⟩,hx⟩:=h;have R:=YS (l:=l) (w:=W) (I:=I) (C:=C) (rb:=rb) (pend:=pend) (pdel:=pdel) (e2:=e2) (e4:=e4) h1 (hf.dbOk hA);refine J9 hx.2 ((XI (lg:=.pointer none) R (w:=W.drew) ⟨(zB.refl hB.bnd).drewN 1,hB.drewN 1⟩ rfl (by have:=hf.ul;omega) hf.uok).mono ?_);rintro e w' ⟨r,rfl,⟨hs,tJ⟩,hm,hg⟩;exact⟨r,rfl,⟨⟨C,wb,rb,e2,e4,tJ,h1,h2,h3,h4⟩,hx.step hs⟩,hs.mod,hg⟩
theorem QT(hf:q9 s)(hA:ym A on rev):AR (λl W=>V4 l W I (s.db A)/\qd l W x 238 I.rt 426) 424 (ptr x) (ptr x) 295 294 293 s.users s.roles where
 keep l l' W W' h hc:=⟨h.1.client hc,h.2.client hc⟩
 lt l W h:=h.1.bnd
 methU _:=by kernel_rfl
 nilU _:=by kernel_rfl
 entU _ _:=by kernel_rfl
 methR _:=by kernel_rfl
 nilR _:=by kernel_rfl
 entR _ _:=by kernel_rfl
 methA _:=by kernel_rfl
 nilA _:=by kernel_rfl
 entA _ _:=by kernel_rfl
 user l W n h hn:=by obtain⟨⟨C,wb,rb,e2,e4,hB,h1,h2,h3,h4⟩,hx⟩:=h;have R:=YT (l:=l) (w:=W) (I:=I) (C:=C) (wb:=wb) (rb:=rb) (pend:=0) (pdel:=0) (e2:=e2) h2 (h4 rfl).2.1 (hf.dbOk hA);refine uw hx.2 ((KW (lg:=.pointer none) R.toDe (w:=W.drew) (n:=n) ⟨(zB.refl hB.bnd).drewN 1,hB.drewN 1⟩ hn (zcB A n) (λu hu=>hf.uok u (qg hf.us hu))).mono ?_);rintro e w' ⟨⟨hs,tJ⟩,hm,hg⟩;obtain⟨r,rfl,hg⟩:=hg.ret;exact⟨r,rfl,⟨⟨C,wb,rb,e2,e4,tJ,h1,h2,h3,h4⟩,hx.step hs⟩,hs.mod,hg.undrew⟩
 role l W n h hn:=by obtain⟨⟨C,wb,rb,e2,e4,hB,h1,h2,h3,h4⟩,hx⟩:=h;have R:=YT (l:=l) (w:=W) (I:=I) (C:=C) (wb:=wb) (rb:=rb) (pend:=0) (pdel:=0) (e2:=e2) h2 (h4 rfl).2.1 (hf.dbOk hA);refine ux hx.2 ((KX (lg:=.pointer none) R.toDe (w:=W.drew) (n:=n) ⟨(zB.refl hB.bnd).drewN 1,hB.drewN 1⟩ hn (zcC A n) (λu hu=>hf.rok u (qg hf.rs hu))).mono ?_);rintro e w' ⟨⟨hs,tJ⟩,hm,hg⟩;obtain⟨r,rfl,hg⟩:=hg.ret;exact⟨r,rfl,⟨⟨C,wb,rb,e2,e4,tJ,h1,h2,h3,h4⟩,hx.step hs⟩,hs.mod,hg.undrew⟩
 all l W h:=by obtain⟨⟨C,wb,rb,e2,e4,hB,h1,h2,h3,h4⟩,hx⟩:=h;have R:=YT (l:=l) (w:=W) (I:=I) (C:=C) (wb:=wb) (rb:=rb) (pend:=0) (pdel:=0) (e2:=e2) h2 (h4 rfl).2.1 (hf.dbOk hA);refine J_ hx.2 ((XI (lg:=.pointer none) R (w:=W.drew) ⟨(zB.refl hB.bnd).drewN 1,hB.drewN 1⟩ rfl (by have:=hf.ul;omega) hf.uok).mono ?_);rintro e w' ⟨r,rfl,⟨hs,tJ⟩,hm,hg⟩;exact⟨r,rfl,⟨⟨C,wb,rb,e2,e4,tJ,h1,h2,h3,h4⟩,hx.step hs⟩,hs.mod,hg⟩
end
structure jM(l:zu)(w:World)(l':zu)(w':World):Prop where
 mod:zq l.own w w'
 old:∀b,b<w.heap.size->l' b=l b
 bnd:∀b,l' b≠0->b<w'.heap.size
theorem jM.refl{w:World}(h:∀b,l b≠0->b<w.heap.size):jM l w l w:=⟨zq.refl _ _,λ_ _=>rfl,h⟩
variable{l':zu}
theorem jM.le{w:World}(h:jM l w l' w'):(im l.some w).le (im l'.some w'):=
 (h.mod.mono (S':=l.some) λ_ _ e=>e.1).im λb hb e=>by show l b≠0;rw[<-h.old b hb];exact e
variable{w'':World}
theorem jM.trans{l'':zu}{w:World}(h:jM l w l' w')(k:jM l' w' l'' w''):jM l w l'' w'' where
 mod:=h.mod.trans k.mod λb hb e=>by
  unfold zu.own at*
  rw[h.old b hb]at e;exact e
 old b hb:=by rw[k.old b (Nat.lt_of_lt_of_le hb h.mod.size),h.old b hb]
 bnd:=k.bnd
theorem jM.read{w:World}(h:jM l w l' w')(hm:zq l'.own w' w''):jM l w l' w'':=h.trans ⟨hm,λ_ _=>rfl,λb e=>Nat.lt_of_lt_of_le (h.bnd b e) hm.size⟩
theorem jM.new{w:World}(h:jM l w l' w')(hn:za w' w''):jM l w l' w'':=h.read (hn.mod _)
def VU(B:zu->World->Prop)(l0:zu)(w0:World)(l:zu)(W:World)(s1 i1 s2 i2:Nat)(L1 L2:List Iv):Prop:=
 B l W/\jM l0 w0 l W/\∃F1 F2:Nat->Prop,q7 (im l.some W) W F1 s1 i1 L1/\q7 (im l.some W) W F2 s2 i2 L2/\(∀j,F1 j->l j=13)/\(∀j,F2 j->l j=13)/\(∀j,F1 j->¬F2 j)/\(∀j,F1 j\/F2 j->w0.heap.size<=j)
variable{L1 L2:List Iv}{W:World}{i1 i2 s1 s2:Nat}{l0:zu}
theorem VU.swap{B:zu->World->Prop}{w0:World}(h:VU B l0 w0 l W s1 i1 s2 i2 L1 L2):VU B l0 w0 l W s2 i2 s1 i1 L2 L1:=by obtain⟨h1,h2,F1,F2,h3,h4,h5,h6,h7,h8⟩:=h;exact⟨h1,h2,F2,F1,h4,h3,h6,h5,λj a b=>h7 j b a,λj e=>h8 j e.symm⟩
variable{W':World}
theorem VU.read{B:zu->World->Prop}{w0:World}(h:VU B l0 w0 l W s1 i1 s2 i2 L1 L2)(hB:B l W')(hm:zq l.own W W'):VU B l0 w0 l W' s1 i1 s2 i2 L1 L2:=by obtain⟨h1,h2,F1,F2,h3,h4,h5,h6,h7,h8⟩:=h;have hY:(im l.some W).le (im l.some W'):=(hm.mono (S':=l.some) λ_ _ e=>e.1).im λ_ _ e=>e;have hk:∀j,l j=13->W'.heap[j]? =W.heap[j]? :=λj e=>hm.block j (h2.bnd j (by rw[e];decide)) (λe2=>by have:=e2.2;omega);exact⟨hB,h2.read hm,F1,F2,h3.frame (λj e=>hk j (h5 j e)) hY,h4.frame (λj e=>hk j (h6 j e)) hY,h5,h6,h7,h8⟩
theorem VU.ins{B:zu->World->Prop}{w0:World}{v:Iv}(hk:∀l l' W W',B l W->qD l W l' W'->B l' W')(h1:B l W)(h2:jM l0 w0 l W){F1 F2:Nat->Prop}
  (h4:q7 (im l.some W) W F2 s2 i2 L2)(h5:∀j,F1 j->l j=13)(h6:∀j,F2 j->l j=13)(h7:∀j,F1 j->¬F2 j)(h8:∀j,F1 j\/F2 j->w0.heap.size<=j)
  (h:Ze l.some F1 W W' s1 i1 L1 v):∃l',VU B l0 w0 l' W' s1 i1 s2 i2 (v::L1) L2/\(im l.some W).le (im l'.some W'):=by
 obtain⟨F',hm,ij,hF2,ht⟩:=h;have hc:qD l W (l.add F' 13) W':=qD.own h2.bnd (hm.mono λj _ e=>by rw[h5 j e];decide) λj e=>by
  rcases ij j e with e|e
  ·exact Or.inl (by rw[h5 j e];decide)
  ·exact Or.inr e
 have oS:∀j,F' j->(l.add F' 13) j=13:=λj e=>by
  by_cases h0:l j=0
  ·exact zu.add_pos e h0
  ·rcases ij j e with e2|e2
   ·rw[zu.add_old h0];exact h5 j e2
   ·have:=h2.bnd j h0;omega
 have oU:w0.heap.size<=W.heap.size:=h2.mod.size;refine⟨l.add F' 13,⟨hk _ _ _ _ h1 hc,⟨zq.trans h2.mod hm λj hj e=> ?_,λb hb=> ?_,hc.bnd⟩,F',F2,by rw[Qf (by decide)];exact ht,h4.frame (λj e=> ?_) hc.le,oS,λj e=> ?_,λj e e2=> ?_,λj e=> ?_⟩,hc.le⟩
 ·have:=h8 j (Or.inl e);omega
 ·rw[hc.old b (Nat.lt_of_lt_of_le hb oU),h2.old b hb]
 ·exact hm.block j (h2.bnd j (by rw[h6 j e];decide)) (λe2=>h7 j e2 e)
 ·rw[zu.add_old (by rw[h6 j e];decide)];exact h6 j e
 ·rcases ij j e with e3|e3
  ·exact h7 j e3 e2
  ·have:=h2.bnd j (by rw[h6 j e2];decide);omega
 ·rcases e with e|e
  ·rcases ij j e with e3|e3
   ·exact h8 j (Or.inl e3)
   ·omega
  ·exact h8 j (Or.inr e)
theorem Vc{B:zu->World->Prop}{w0:World}{b e:EV}(hk:∀l l' W W',B l W->qD l W l' W'->B l' W')(h:VU B l0 w0 l W s1 i1 s2 i2 L1 L2)(hb:kK (im l.some W) b)(he:kK (im l.some W) e)(hv:Q5 (b.1,e.1)):
  Calls prog 234 #[ptr i1,.agg #[b.2,e.2],Xw] W λr w'=>r=.returned (.tuple #[])/\∃l',VU B l0 w0 l' w' s1 i1 s2 i2 ((b.1,e.1)::L1) L2/\(im l.some W).le (im l'.some w'):=by
 obtain⟨h1,h2,F1,F2,h3,h4,h5,h6,h7,h8⟩:=h;refine(ud (S:=l.some) (F:=F1) h2.bnd (λj e=>by show l j≠0;rw[h5 j e];decide) h3 hb he hv).mono ?_;rintro r w' ⟨rfl,hi⟩;exact⟨rfl,VU.ins hk h1 h2 h4 h5 h6 h7 h8 hi⟩
theorem JN{B:zu->World->Prop}{w0:World}{b e:EV}(hk:∀l l' W W',B l W->qD l W l' W'->B l' W')(h:VU B l0 w0 l W s1 i1 s2 i2 L1 L2)(hb:kK (im l.some W) b)(he:kK (im l.some W) e)(hv:Q5 (b.1,e.1)):
  Calls prog 234 #[ptr i2,.agg #[b.2,e.2],Xw] W λr w'=>r=.returned (.tuple #[])/\∃l',VU B l0 w0 l' w' s1 i1 s2 i2 L1 ((b.1,e.1)::L2)/\(im l.some W).le (im l'.some w'):=
 (Vc hk h.swap hb he hv).mono λr w' ⟨a,l',b,c⟩=>⟨a,l',b.swap,c⟩
theorem VU.start{B:zu->World->Prop}{w0 W1 W2:World}(hk:∀l l' W W',B l W->qD l W l' W'->B l' W')(h1:B l0 W)(h2:jM l0 w0 l0 W)
  (hQ:za W W1)(ha:W.heap.size<=s1/\W.heap.size<=i1/\s1<W1.heap.size/\i1<W1.heap.size)(sU:∀r,q7 r W1 (λj=>j=s1\/j=i1) s1 i1 [])
  (Hj:za W1 W2)(hb:W1.heap.size<=s2/\W1.heap.size<=i2/\s2<W2.heap.size/\i2<W2.heap.size)(SG:∀r,q7 r W2 (λj=>j=s2\/j=i2) s2 i2 []):
  ∃l',VU B l0 w0 l' W2 s1 i1 s2 i2 [] []/\(im l0.some W).le (im l'.some W2):=by
 have pI:=hQ.size;have rj:=Hj.size;have hc:qD l0 W (l0.add (λj=>(j=s1\/j=i1)\/(j=s2\/j=i2)) 13) W2:=qD.own h2.bnd (za.mod (hQ.trans Hj) _) λj e=>Or.inr (by omega);have tB:∀j,((j=s1\/j=i1)\/(j=s2\/j=i2))->(l0.add (λj=>(j=s1\/j=i1)\/(j=s2\/j=i2)) 13) j=13:=λj e=>by
  have h0:l0 j=0:=by
   by_cases e0:l0 j=0
   ·exact e0
   ·have:=h2.bnd j e0;omega
  exact zu.add_pos e h0
 have oU:=h2.mod.size;refine⟨_,⟨hk _ _ _ _ h1 hc,⟨zq.trans h2.mod (za.mod (hQ.trans Hj) (λ_=>False)) λj hj e=>e.elim,λb Ry=> ?_,hc.bnd⟩,λj=>j=s1\/j=i1,λj=>j=s2\/j=i2,(sU _).frame (λj e=>Hj.block j (by omega) (λe=>e)) (Rd.le_refl _),SG _,λj e=>tB j (Or.inl e),λj e=>tB j (Or.inr e),λj e e2=>by omega,λj e=>by omega⟩,hc.le⟩;rw[hc.old b (Nat.lt_of_lt_of_le Ry oU),h2.old b Ry]
theorem Dg(it:Nat)(W:World):(method 608 280 (ptr it) "Insert").run prog W=.ok (234,ptr it) W:=by kernel_rfl
def yu(rs:List zm)(r:Bytes):List zh:=match qT zm.name rs r with|some x=>x.perms|none=>[]
def permsOf(rs:List zm)(l:List Bytes):List zh:=l.flatMap (yu rs)
theorem YV(rs:List zm)(l:List Bytes)(r:Bytes):permsOf rs (l++[r])=permsOf rs l++yu rs r:=by simp[permsOf]
theorem jH(ps:List zh)(p:zh)(k:Nat):(qq (ps++[p]) k).reverse=if p.allows k then kg p.key p.stop::(qq ps k).reverse else (qq ps k).reverse:=by
 unfold qq;rw[List.filter_append];by_cases h:p.allows k=true
 ·simp[h]
 ·simp[h]
variable{c n:Nat}{cs:List Value}{r:Rd}
theorem Sl.row{p:Option Addr}(h:Sl r 1 cs (.slice p n c)):cs.length=n/\n<=c/\c<=9223372036854775807/\((∃gb go,p=some ⟨gb,go,none⟩/\∀i (hi:i<cs.length),r ⟨gb,go+i,none⟩=some cs[i])\/n=0):=by
 obtain⟨p',n',c',e,hl,hn,hc,hp,h5⟩:=h;cases e;refine⟨by omega,hn,hc,?_⟩;rcases h5 with h5|⟨b,o,h6,h7⟩
 ·right;rw[h5]at hl;simp at hl;omega
 ·exact Or.inl ⟨b,o,h6,h7⟩
theorem Dh(k:Bytes):zt k (k++[0])<0:=by
 induction k with
 |nil=>simp[zt]
 |cons x k ih=>simpa[zt]using ih
theorem Jn{k e:Bytes}(h:zU k e=true):Q5 (kg k e):=by
 unfold zU at h;simp only[Bool.and_eq_true,Bool.not_eq_true',decide_eq_false_iff_not,Bool.or_eq_true,decide_eq_true_eq]at h;obtain⟨hk,h⟩:=h;unfold Q5 kg;by_cases he:e=[]
 ·rw[if_pos he];unfold pt;rw[Zj hk (by simp)];exact Dh k
 ·rw[if_neg he];by_cases h0:e=[0]
  ·rw[if_pos h0];exact uB hk
  ·rw[if_neg h0];rw[Zj hk he];rcases h with(h|h)|h
   ·exact absurd h he
   ·exact absurd h h0
   ·exact h
theorem VU.new{B:zu->World->Prop}{w0:World}(hk:∀l l' W W',B l W->qD l W l' W'->B l' W')(hb:∀l W,B l W->∀j,l j≠0->j<W.heap.size)(h:VU B l0 w0 l W s1 i1 s2 i2 L1 L2)(hn:za W W'):VU B l0 w0 l W' s1 i1 s2 i2 L1 L2:=
 h.read (hk _ _ _ _ h.1 (qD.ofNew (hb _ _ h.1) hn)) (hn.mod _)
variable{S:Nat->Prop}{wr:World}
theorem uC{wb:World}{T:TypeId}{x y:Value}(hS:∀j,S j->j<wr.heap.size)(hn:za wr wb)(hi:wb.heap[wr.heap.size]? =some (.cells #[.nilIface,.nilIface] T (0,0)))(hW:W=(wb.setCell ⟨wr.heap.size,0,none⟩ x).setCell ⟨wr.heap.size,1,none⟩ y):
  za wr W/\W.heap[wr.heap.size]? =some (.cells #[x,y] T (0,0))/\∀l v,Bs wb.cell? l v->(∀j,v.ownBlock=some j->wr.heap.size<j)->Bs (im S W) l v:=by
 have h1:(wb.setCell ⟨wr.heap.size,0,none⟩ x).heap[wr.heap.size]? =some (.cells #[x,.nilIface] T (0,0)):=heap_setCell_same _ _ _ _ _ _ hi;have h2:((wb.setCell ⟨wr.heap.size,0,none⟩ x).setCell ⟨wr.heap.size,1,none⟩ y).heap[wr.heap.size]? =some (.cells #[x,y] T (0,0)):=heap_setCell_same _ _ _ _ _ _ h1;have hm:zq (λj=>j=wr.heap.size) wb W:=by rw[hW];exact((zq.refl (λj=>j=wr.heap.size) wb).setCell (p:=⟨wr.heap.size,0,none⟩) (λ_=>rfl) x).setCell (p:=⟨wr.heap.size,1,none⟩) (λ_=>rfl) y
 refine⟨zq.trans hn hm λj hj e=>by omega,by rw[hW];exact h2,λl v hb hv=> ?_⟩;have h3:=Bs.im_of (S:=λj=>j=wr.heap.size) hb λj e e2=>by have:=hv j e;omega
 exact Bs.im_of ((h3.mono (hm.im λ_ _ e=>e)).mono (zd _ _)) λj e e2=>by have:=hv j e;have:=hS j e2;omega
def uD(B:zu->World->Prop)(l0:zu)(w0:World)(l:zu)(W:World)(r:Value)(ps:List zh):Prop:=
 ∃q s1 i1 s2 i2,r=ptr q/\w0.heap.size<=q/\l q=0/\W.heap[q]? =some (.cells #[.iface 280 (ptr i1),.iface 280 (ptr i2)] 235 (0,0))/\VU B l0 w0 l W s1 i1 s2 i2 (qq ps 0).reverse (qq ps 1).reverse
def zcE(B:zu->World->Prop)(l0:zu)(w0:World)(W:World)(r:Value)(rs:List zm):Option zj->Prop
 |none=>r=.pointer none/\B l0 W/\jM l0 w0 l0 W
 |some u=>∃l,uD B l0 w0 l W r (permsOf rs u.roles)
variable{u:zj}
theorem j8.at{r:Value}(h:j8 W w' (.returned r) (some u))(hb:∀j,l j≠0->j<W.heap.size):∃b,r=ptr b/\W.heap.size<=b/\y9 (im l.some w') b u:=by obtain⟨b,wm,nv,rv,ov,he,h1,h2,h3⟩:=h;cases he;exact⟨b,rfl,h1,h3.at λj hj=>by have:=hb j hj;omega⟩
theorem jL.at{r:Value}{u:zm}(h:jL W w' (.returned r) (some u))(hb:∀j,l j≠0->j<W.heap.size):∃b,r=ptr b/\W.heap.size<=b/\jw (im l.some w') b u:=by obtain⟨b,wm,nv,rv,ids,he,h1,h2,h3⟩:=h;cases he;exact⟨b,rfl,h1,h3.at λj hj=>by have:=hb j hj;omega⟩
def YW(r:Rd)(b:Nat)(u:zj):Prop:=∃v,r ⟨b,2,none⟩=some v/\Sl r 1 (u.roles.map zb) v
def WG(r:Rd)(b:Nat)(x:zm):Prop:=∃v ids,r ⟨b,1,none⟩=some v/\Sl r 1 (ids.map ptr) v/\qz (ju r) ids x.perms
variable{b:Nat}{r':Rd}
theorem YW.mono(h:YW r b u)(hr:r.le r'):YW r' b u:=by obtain⟨v,h1,h2⟩:=h;exact⟨v,hr _ _ h1,h2.mono hr⟩
def zdw(l:zu)(w:World)(r:Value):Option zj->Prop
 |none=>r=.pointer none
 |some u=>∃b,r=ptr b/\YW (im l.some w) b u
def zdx(l:zu)(w:World)(r:Value):Option zm->Prop
 |none=>r=.pointer none
 |some x=>∃b,r=ptr b/\WG (im l.some w) b x
structure AR0(okU okR:Bytes->Prop)(B:zu->World->Prop)(T:TypeId)(v rc:Value)(gU gR:FuncId)(us:List zj)(rs:List zm):Prop where
 keep:∀l l' W W',B l W->qD l W l' W'->B l' W'
 lt:∀l W,B l W->∀j,l j≠0->j<W.heap.size
 methU:∀W,(method 608 T v "UnsafeGetUser").run prog W=.ok (gU,rc) W
 nilU:∀W,(nilAhead 608 T v "UnsafeGetUser").run prog W=.ok (some false) W
 entU:∀args W,(callFunc gU args).run prog W=.ok (.enter gU args) W
 methR:∀W,(method 608 T v "UnsafeGetRole").run prog W=.ok (gR,rc) W
 nilR:∀W,(nilAhead 608 T v "UnsafeGetRole").run prog W=.ok (some false) W
 entR:∀args W,(callFunc gR args).run prog W=.ok (.enter gR args) W
 user:∀l W n,okU n->B l W->n.length<=1000->Calls prog gU #[rc,zb n] W λe w'=>∃r,e=.returned r/\(B l w'/\zq l.own W w'/\zdw l w' r (qT zj.name us n))
 role:∀l W n,okR n->B l W->n.length<=1000->Calls prog gR #[rc,zb n] W λe w'=>∃r,e=.returned r/\(B l w'/\zq l.own W w'/\zdx l w' r (qT zm.name rs n))
def zb4(_:Bytes):Prop:=True
variable{rc v:Value}{rs:List zm}
theorem AR.weak{B:zu->World->Prop}{T:TypeId}{gU gR gA:FuncId}{us:List zj}(h:AR B T v rc gU gR gA us rs):AR0 zb4 zb4 B T v rc gU gR us rs where
 keep:=h.keep
 lt:=h.lt
 methU:=h.methU
 nilU:=h.nilU
 entU:=h.entU
 methR:=h.methR
 nilR:=h.nilR
 entR:=h.entR
 user l W n _ hB hn:=(h.user l W n hB hn).mono λe w' hx=>by
  obtain⟨r,he,h1,h2,h3⟩:=hx;refine⟨r,he,h1,h2,?_⟩;cases ho:qT zj.name us n with
  |none=>rw[ho]at h3;cases h3;rfl
  |some u=>rw[ho]at h3;obtain⟨b,h4,_,h5⟩:=h3.at (h.lt _ _ hB);exact⟨b,h4,h5.roles⟩
 role l W n _ hB hn:=(h.role l W n hB hn).mono λe w' hx=>by
  obtain⟨r,he,h1,h2,h3⟩:=hx;refine⟨r,he,h1,h2,?_⟩;cases ho:qT zm.name rs n with
  |none=>rw[ho]at h3;cases h3;rfl
  |some u=>rw[ho]at h3;obtain⟨b,h4,_,h5⟩:=h3.at (h.lt _ _ hB);exact⟨b,h4,h5.perms⟩
theorem gN{okU okR:Bytes->Prop}{B:zu->World->Prop}{T:TypeId}{gU gR:FuncId}{us:List zj}(h:AR0 okU okR B T v rc gU gR us rs)(pV:∀u∈us,∀r∈u.roles,okR r)(RA:zE zj.name us)(LE:zE zm.name rs)(ma:∀u∈us,jv u)(eh:∀r∈rs,kB r)(N9:∀r∈rs,∀p∈r.perms,p.kind<=2/\zU p.key p.stop=true)
  {w:World}{n:Bytes}(Cn:okU n)(hB:B l w)(hn:n.length<=1000):
  Calls prog 50 #[.iface T v,zb n] w λe w'=>∃r,e=.returned r/\zcE B l w w' r rs (qT zj.name us n):=by
 have m1:=h.methU;have n1:=h.nilU;have e1:=h.entU;have m2:=h.methR;have n2:=h.nilR;have e2:=h.entR;have mT:=Dg;have HU:=hid (h.user l w n Cn hB hn);have H:=hid h;have Hr:=h.lt l w hB;have Pm:=hid RA;have mR:=hid LE;have ag:=hid ma;have oV:=hid eh;have lQ:=hid N9;have wW:=hid Hr;have Sk:=hid pV;clear h hB Hr RA LE ma eh N9 pV Cn;unfold zb at HU⊢;generalize(⟨n.toArray⟩:ByteArray)=sx at HU⊢;obtain⟨o,ho⟩:∃o,qT zj.name us n=o:=⟨_,rfl⟩;rw[ho]at HU;rw[ho];have HO:=hid ho;clear ho;go_enter func50,ntmps50;go_wp2_with fail;refine HU.out.mono ?_;rintro e w1 ⟨r,rfl,tK,Hl,NN⟩;have Rq:=hid tK;have HP1:=hid ((jM.refl wW.out).read Hl);clear HU tK Hl;cases o with
 |none=>cases NN;go_wp2;go_returns;exact⟨_,rfl,rfl,Rq.out,HP1.out⟩
 |some u=>
  obtain⟨b,rfl,pO⟩:=NN;have tK:=Rq.out;have Hf:=qg Pm.out HO.out;have md:=hid (ag.out u Hf);have RU:=hid (Sk.out u Hf);clear Hf;go_wp2_with fail;refine(uo (r:=λ_=>none)).mono ?_;rintro e w2 ⟨s1,i1,rfl,hQ,a1,a2,a3,a4,sU⟩;go_wp2_with fail;refine(uo (r:=λ_=>none)).mono ?_;rintro e w3 ⟨s2,i2,rfl,Hj,b1,b2,b3,b4,SG⟩;obtain⟨l3,hT,hY⟩:=VU.start H.out.keep tK HP1.out hQ ⟨a1,a2,a3,a4⟩ (λr=>sU.frame (λ_ _=>rfl) (λa v h=>by cases h)) Hj ⟨b1,b2,b3,b4⟩ (λr=>SG.frame (λ_ _=>rfl) (λa v h=>by cases h));have oW:=pO.mono hY;have HT:=hid hT;obtain⟨y,h5,h6⟩:=oW;obtain⟨p,n8,c8,rfl⟩:=h6.shape;have RL:u.roles.length=n8:=by obtain⟨p9,m9,c9,e9,h9,_⟩:=h6;cases e9;simpa using h9
  have c2:w3.cell? ⟨b,2,none⟩=some (.slice p n8 c8):=zd _ _ _ _ h5;have P7:=hid h6;have H5:=hid h5;have RM:=hid RL;have r9:n8<=100:=by rw[<-RL];exact md.out.roles
  clear hQ a1 a2 a3 a4 sU Hj b1 b2 b3 b4 SG hT hY pO tK h5 h6 RL;go_wp2;go_loopw [27] (λc wr=>∃(k:Nat) (l':zu),k<=n8/\c=.int .i64 k/\VU B l w l' wr s1 i1 s2 i2 (qq (permsOf rs (u.roles.take k)) 0).reverse (qq (permsOf rs (u.roles.take k)) 1).reverse/\(im l3.some w3).le (im l'.some wr)) (λc _=>n8-(intOf c).toNat)
  case atStart=>exact⟨0,l3,Nat.zero_le _,rfl,HT.out,Rd.le_refl _⟩
  case round=>
   obtain⟨k,l',hk,rfl,hT,hY⟩:=hrel;by_cases Hb:k<n8
   ·obtain⟨pZ,NZ,tT,⟨gb,go,rfl,PQ⟩|h0⟩:=P7.out.row
    case inr=>exact absurd h0 (by omega)
    have P_:k<u.roles.length:=by rw[RM.out];exact Hb
    have Nb:=hY _ _ (PQ k (by rw[List.length_map];exact P_));have ck:wr.cell? ⟨gb,go+k,none⟩=some (zb u.roles[k]):=by have:=zd _ _ _ _ Nb;simpa using this
    have Rk:(k:Int)<n8:=by omega
    have LN:=hid hT;have oX:=hid hY;obtain⟨rn,LO⟩:=zex (u.roles[k]);rw[<-LO]at ck;have oY:rn.length<=1000:=by rw[LO];exact(md.out.roles0 _ (List.getElem_mem P_)).2
    have RX:u.roles.take (k+1)=u.roles.take k++[rn]:=by rw[LO,List.take_append_getElem]
    have tA:=hid RX;have tD:=hid (H.out.role l' wr rn (by rw[LO];exact RU.out _ (List.getElem_mem P_)) hT.1 oY);unfold zb at tD ck;generalize(⟨rn.toArray⟩:ByteArray)=sr at tD ck;clear hT hY pZ PQ Nb LO RX;go_wp2_with fail;refine tD.out.mono ?_;rintro e w4 ⟨r4,rfl,ah,pP,LZ⟩;have oZ:=LN.out.read ah pP;have NC:(im l'.some wr).le (im l'.some w4):=(pP.mono (S':=l'.some) λ_ _ e=>e.1).im λ_ _ e=>e;have HT4:=hid oZ;have ei:=hid (oX.out.le_trans NC);obtain⟨o4,LY⟩:∃o,qT zm.name rs rn=o:=⟨_,rfl⟩;rw[LY]at LZ;have EK:=hid LY;cases o4 with
    |none=>
     cases LZ;clear LY ah pP oZ NC tD;go_wp2;go_roundw
     case rel=>
      refine⟨k+1,l',by omega,by go_num,?_,ei.out⟩;have:yu rs rn=[]:=by unfold yu;rw[EK.out]
      rw[tA.out,YV,this,List.append_nil];exact HT4.out
     case measure=>simp[intOf];omega
    |some x=>
     obtain⟨rb,rfl,o0⟩:=LZ;have hrp:yu rs rn=x.perms:=by unfold yu;rw[LY]
     have bR:=qg mR.out LY;have HRK:=hid (oV.out x bR);have bZ:=hid (lQ.out x bR);obtain⟨y,ids,g5,g6,g7⟩:=o0;obtain⟨p6,m8,d8,rfl⟩:=g6.shape;have g8:w4.cell? ⟨rb,1,none⟩=some (.slice p6 m8 d8):=zd _ _ _ _ g5;have wy:x.perms.length=m8:=by have:=g6.row.1;rw[List.length_map]at this;rw[<-g7.length];exact this
     have A7:m8<=100:=by rw[<-wy];exact HRK.out.perms
     have HRP:=hid hrp;have HG6:=hid g6;have HG7:=hid g7;have HML:=hid wy;clear LY ah pP oZ NC tD hrp bR g5 g6 g7 wy;go_wp2;go_loopw [41] (λc wr=>∃(q:Nat) (l5:zu),q<=m8/\c=.int .i64 q/\VU B l w l5 wr s1 i1 s2 i2 (qq (permsOf rs (u.roles.take k)++x.perms.take q) 0).reverse (qq (permsOf rs (u.roles.take k)++x.perms.take q) 1).reverse/\(im l'.some w4).le (im l5.some wr)) (λc _=>m8-(intOf c).toNat)
     case atStart=>exact⟨0,l',Nat.zero_le _,rfl,by simpa using HT4.out,Rd.le_refl _⟩
     case round=>
      obtain⟨q,l5,hq,rfl,Mg,mS⟩:=hrel;by_cases lT:q<m8
      ·obtain⟨pZ,hfN,hfO,⟨gb6,go6,rfl,PQ⟩|h0⟩:=HG6.out.row
       case inr=>exact absurd h0 (by omega)
       have n0:q<ids.length:=by rw[<-pZ,List.length_map]at lT;exact lT
       have Bb:q<x.perms.length:=by rw[HML.out];exact lT
       have Nb:=mS _ _ (PQ q (by rw[List.length_map];exact n0));obtain⟨pb,wQ⟩:∃pb,ids[q]=pb:=⟨_,rfl⟩;obtain⟨pp,Ts⟩:∃pp,x.perms[q]=pp:=⟨_,rfl⟩;have ck6:wr.cell? ⟨gb6,go6+q,none⟩=some (ptr pb):=by have:=zd _ _ _ _ Nb;rw[<-wQ];simpa using this
       have RG:=(HG7.out.get q n0 Bb).mono mS;rw[wQ,Ts]at RG;have el:x.perms.take (q+1)=x.perms.take q++[pp]:=by rw[<-Ts,List.take_append_getElem]
       have eo:=hid (bZ.out pp (by rw[<-Ts];exact List.getElem_mem Bb));have lQ:=hid (HRK.out.perms0 pp (by rw[<-Ts];exact List.getElem_mem Bb));have Bc:=hid el;have lU:=hid Mg;have lV:=hid mS;have hqq:(q:Int)<m8:=by omega
       clear Mg mS pZ PQ Nb Ts el;obtain⟨wa,LP⟩:=zex (wr.alloc (.cells #[.nilIface,.nilIface] 230));have mL:za wr wa:=by rw[LP];exact(za.refl wr).alloc _
       have RS:wa.heap[wr.heap.size]? =some (.cells #[.nilIface,.nilIface] 230 (0,0)):=by rw[LP];exact zg wr _
       obtain⟨f1,⟨kv,f2,f3⟩,sv,f4,f5⟩:=RG;obtain⟨kp,kn,kc,rfl,ph⟩:=f3.shape;obtain⟨sp,sn,sc,rfl,RW⟩:=f5.shape;have j1:=mL.le _ _ (zd _ _ _ _ f1);have j2:=mL.le _ _ (zd _ _ _ _ f2);have j3:=mL.le _ _ (zd _ _ _ _ f4);have HJ1:=hid (zd _ _ _ _ f1);have o9:=hid f3;have HF5:=hid f5;have o_:=hid (f5.mono (mL.im l5.some));have ik:=hid LP;have td:=hid mL;have Cg:=hid RS;have wX:=hid RW;have HKN:=hid ph;clear LP mL RS f1 f2 f3 f4 f5 RW ph;go_upto_region 16 with fail
       rw[<-ik.out];have hfR:sn<=1000:=by rw[<-wX.out];exact lQ.out.stop
       go_cut [59] (λc wx=>wa=wx/\∃d:Bool,c=.bool d/\(d=false↔pp.stop=[0]))
       case first=>
        by_cases h1:sn=1
        ·subst h1;obtain⟨z,hz⟩:∃z,pp.stop=[z]:=by
          have:=wX.out
          match pp.stop,this with
          |[z],_=>exact⟨z,rfl⟩
         obtain⟨_,_,_,⟨gs,gos,rfl,RO⟩|h0⟩:=(o_.out.sl).row
         case inr=>exact absurd h0 (by decide)
         have sO:=zd _ _ _ _ (RO 0 (by simp[hz]));have PZ:wa.cell? ⟨gs,gos,none⟩=some (.int .u8 z.toNat):=by simpa[hz,ql]using sO
         clear RO sO;by_cases Ml:z=0
         ·subst Ml;have Cc:wa.cell? ⟨gs,gos,none⟩=some (.int .u8 0):=PZ;clear PZ;go_wp2;go_meet;exact⟨rfl,_,rfl,by simp[hz]⟩
         ·have TQ: ¬(z.toNat:Int)=0:=λe=>Ml (UInt8.toNat_inj.1 (by simpa using e));have hzm: ¬z.toNat=0:=by omega
          go_wp2;go_meet;exact⟨rfl,_,rfl,by simp[hz,Ml,hzm]⟩
        ·have St:pp.stop≠[0]:=λe=>h1 (by rw[<-wX.out,e];rfl);have hfT: ¬(sn:Int)=1:=by omega
         go_wp2;go_meet;exact⟨rfl,_,rfl,by simp[St]⟩
       case rest=>
        obtain⟨rfl,d,rfl,hd⟩:=hcut;obtain⟨ed,Bd⟩:=zex ((if pp.stop=[0]then []else pp.stop));go_upto_if 59 with fail
        go_cut [14] (λc wx=>wa=wx/\Bs (im l5.some wr) ed c)
        case first=>
         cases d
         ·have h0:=hd.1 rfl;clear hd;go_wp2;go_meet;refine⟨rfl,?_⟩;rw[Bd,if_pos h0];exact Bs.nil _
         ·have h0: ¬pp.stop=[0]:=λe=>by cases hd.2 e
          clear hd;go_wp2;go_meet;refine⟨rfl,?_⟩;rw[Bd,if_neg h0];exact HF5.out
        case rest=>
         obtain⟨rfl,pU⟩:=hcut;obtain⟨ep,en,ec,rfl,MT⟩:=pU.shape;have Rt:=hid pU;clear pU;go_upto_if 69 with fail
         go_cut [] (λwx=>za wr wx/\∃b' e':EV,wx.heap[wr.heap.size]? =some (.cells #[b'.2,e'.2] 230 (0,0))/\kK (im l5.some wx) b'/\kK (im l5.some wx) e'/\(b'.1,e'.1)=kg pp.key pp.stop)
         case first=>
          by_cases h0:sn=0
          ·subst h0;have ai:pp.stop=[]:=List.eq_nil_of_length_eq_zero wX.out;have PX:=o9.out.mono ((td.out.im l5.some).le_trans (zd _ _));have pE:pp.key.length<=1000000:=by have:=lQ.out.key;omega
           have HP:=hid (XH PX pE);clear PX;go_wp2_with fail;refine HP.out.mono ?_;rintro e wb ⟨u9,rfl,rV,N_,ma⟩;obtain⟨k0,k1,z0,z1⟩:=qS (rV.heap Cg.out);have z2:(wb.setCell ⟨wr.heap.size,0,none⟩ (.iface 283 (.slice kp kn kc))).frozen? ⟨wr.heap.size,1,none⟩=false:=by simp[World.frozen?,heap_setCell_same wb wr.heap.size 0 _ _ _ (rV.heap Cg.out)]
           have HW:=hid (λW=>uC (S:=l5.some) (W:=W) (x:=.iface 283 (.slice kp kn kc)) (y:=.iface 283 u9) (λj e=>H.out.lt _ _ lU.out.1 j e) (td.out.trans rV) (rV.heap Cg.out));have HUB:=hid N_;have ag:=hid ma;clear rV N_ ma;go_wp2;go_meet;obtain⟨R0,wY,TR⟩:=HW.out _ rfl;have Mm:wa.heap.size=wr.heap.size+1:=by rw[ik.out];exact Array.size_push ..
           refine⟨R0,(pp.key,.iface 283 (.slice kp kn kc)),(pp.key++[0],.iface 283 u9),wY,⟨_,rfl,o9.out.mono (R0.im _)⟩,⟨_,rfl,TR _ _ HUB.out λj e=>by have:=ag.out j e;omega⟩,?_⟩;unfold kg;rw[if_pos ai];rfl
          ·have ai:pp.stop≠[]:=λe=>h0 (by rw[<-wX.out,e];rfl);have hfV: ¬(sn:Int)=0:=by omega
           go_wp2_with fail;refine xe.mono ?_;rintro e wb ⟨rfl,rV⟩;obtain⟨k0,k1,z0,z1⟩:=qS (rV.heap Cg.out);have z2:(wb.setCell ⟨wr.heap.size,0,none⟩ (.iface 283 (.slice kp kn kc))).frozen? ⟨wr.heap.size,1,none⟩=false:=by simp[World.frozen?,heap_setCell_same wb wr.heap.size 0 _ _ _ (rV.heap Cg.out)]
           have HW:=hid (λW=>uC (S:=l5.some) (W:=W) (x:=.iface 283 (.slice kp kn kc)) (y:=.iface 283 (.slice ep en ec)) (λj e=>H.out.lt _ _ lU.out.1 j e) (td.out.trans rV) (rV.heap Cg.out));clear rV;go_wp2;go_meet;obtain⟨R0,wY,_⟩:=HW.out _ rfl;refine⟨R0,(pp.key,.iface 283 (.slice kp kn kc)),(ed,.iface 283 (.slice ep en ec)),wY,⟨_,rfl,o9.out.mono (R0.im _)⟩,⟨_,rfl,Rt.out.mono (R0.im _)⟩,?_⟩;unfold kg;rw[if_neg ai,Bd]
         case rest=>
          obtain⟨RE,b',e',Nv,Ry,TL,Oa⟩:=hcut;have Sh:=RE.le _ _ HJ1.out;have Ob:=lU.out.new H.out.keep H.out.lt RE;have hv:Q5 (b'.1,e'.1):=by rw[Oa];exact Jn eo.out.2
          obtain⟨r0,r1,_,_⟩:=qS Nv;have Oc:=hid (show(im l5.some wr).le (im l5.some wc)from RE.im _);have Co:=hid RE;have Od:=hid Oa;have er:im l5.some wc ⟨wr.heap.size,0,none⟩=some b'.2:=zi.2 ⟨λe=>by have:=H.out.lt _ _ lU.out.1 _ e;exact Nat.lt_irrefl _ this,r0⟩;have et:im l5.some wc ⟨wr.heap.size,1,none⟩=some e'.2:=zi.2 ⟨λe=>by have:=H.out.lt _ _ lU.out.1 _ e;exact Nat.lt_irrefl _ this,r1⟩;have il:=hid er;have HI1:=hid et;have HB':=hid Ry;have HE':=hid TL;have HV:=hid hv;have eu:=hid (Vc H.out.keep Ob Ry TL hv);have Oe:=hid (JN H.out.keep Ob Ry TL hv);clear Nv RE Oa Ry TL hv Ob er et;obtain⟨pk,Sq⟩:∃pk,pp.kind=pk:=⟨_,rfl⟩;have Of:=eo.out.1;rw[Sq]at Sh Of;have mU:=hid Sq;clear Sq;rcases(show pk=0\/pk=1\/pk=2 by omega)with h9|h9|h9
          ·subst h9;go_wp2_with fail;refine eu.out.mono ?_;rintro e w7 ⟨rfl,l7,wZ,Sm⟩;have io:=hid wZ;have lW:=hid Sm;clear wZ Sm;go_wp2;go_roundw
           case rel=>refine⟨q+1,l7,by omega,by go_num,?_,lV.out.le_trans (Oc.out.le_trans lW.out)⟩;have:=io.out;rw[Od.out]at this;rw[Bc.out,<-List.append_assoc,jH,jH,if_pos (by simp[zh.allows,mU.out]),if_neg (by simp[zh.allows,mU.out])];exact this
           case measure=>simp[intOf];omega
          ·subst h9;go_wp2_with fail;refine Oe.out.mono ?_;rintro e w7 ⟨rfl,l7,wZ,Sm⟩;have io:=hid wZ;have lW:=hid Sm;clear wZ Sm;go_wp2;go_roundw
           case rel=>refine⟨q+1,l7,by omega,by go_num,?_,lV.out.le_trans (Oc.out.le_trans lW.out)⟩;have:=io.out;rw[Od.out]at this;rw[Bc.out,<-List.append_assoc,jH,jH,if_neg (by simp[zh.allows,mU.out]),if_pos (by simp[zh.allows,mU.out])];exact this
           case measure=>simp[intOf];omega
          ·subst h9;go_wp2_with fail;refine eu.out.mono ?_;rintro e w7 ⟨rfl,l7,wZ,Sm⟩;have s0:=zd _ _ _ _ (Sm _ _ il.out);have s1:=zd _ _ _ _ (Sm _ _ HI1.out);have Og:=hid (JN H.out.keep wZ (HB'.out.mono Sm) (HE'.out.mono Sm) HV.out);have io:=hid wZ;have lW:=hid Sm;clear wZ Sm;go_wp2_with fail;refine Og.out.mono ?_;rintro e w8 ⟨rfl,l8,hT8,ew⟩;have HT8:=hid hT8;have Oh:=hid ew;clear hT8 ew;go_wp2;go_roundw
           case rel=>refine⟨q+1,l8,by omega,by go_num,?_,lV.out.le_trans (Oc.out.le_trans (lW.out.le_trans Oh.out))⟩;have:=HT8.out;rw[Od.out]at this;rw[Bc.out,<-List.append_assoc,jH,jH,if_pos (by simp[zh.allows,mU.out]),if_pos (by simp[zh.allows,mU.out])];exact this
           case measure=>simp[intOf];omega
      ·have a8:q=m8:=by omega
       subst a8;have lU:=hid Mg;have lV:=hid mS;clear Mg mS;go_wp2;go_roundw
       case rel=>refine⟨k+1,l5,by omega,by go_num,?_,ei.out.le_trans lV.out⟩;rw[tA.out,YV,HRP.out];have:=lU.out;rw[<-HML.out,List.take_length]at this;exact this
       case measure=>simp[intOf];omega
   ·have ph:k=n8:=by omega
    subst ph;have lU:=hid hT;clear hT hY;go_wp2;go_returns;have hN:za wr (wr.alloc (.cells #[.iface 280 (ptr i1),.iface 280 (ptr i2)] 235)):=(za.refl wr).alloc _;have h9:=lU.out.new H.out.keep H.out.lt hN;rw[<-RM.out,List.take_length]at h9;refine⟨_,rfl,l',wr.heap.size,s1,i1,s2,i2,rfl,?_,?_,zg wr _,h9⟩
    case refine_2=>
     by_cases e:l' wr.heap.size=0
     ·exact e
     ·exact absurd (H.out.lt _ _ lU.out.1 _ e) (Nat.lt_irrefl _)
    have:=lU.out.2.1.mod.size;have:wr.heap.size=wr.heap.size:=rfl;omega
end Go.Proofs.YtbmdoinjkligiaaGreat
