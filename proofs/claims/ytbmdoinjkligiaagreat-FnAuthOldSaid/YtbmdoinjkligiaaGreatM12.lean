/- Contracts and laws that the last text joins. -/
import Derived.Test.YtbmdoinjkligiaaGreatM11
set_option maxRecDepth 100000
set_option maxHeartbeats 40000000
set_option linter.all false
namespace Go.Proofs.YtbmdoinjkligiaaGreat
open Tryz
open Lib(hid)
open Go.RowKit
theorem YZ(t:Nat)(W:World):(method 608 136 (ptr t) "BatchTx").run prog W=.ok (149,ptr t) W:=by kernel_rfl
theorem uH(t:Nat)(W:World):(method 608 136 (ptr t) "ReadTx").run prog W=.ok (152,ptr t) W:=by kernel_rfl
theorem gQ(t:Nat)(W:World):(method 608 136 (ptr t) "ForceCommit").run prog W=.ok (151,ptr t) W:=by kernel_rfl
variable{be rt t:Nat}
theorem Vg{w:World}{db:Nat}(h:vC w be db t rt):Calls prog 149 #[ptr be] w λe w'=>e=.returned (.iface 257 (ptr t))/\w=w':=by have c3:=h.cells.2.2.1;clear h;go_enter func149,ntmps149;go_wp2;go_returns;exact⟨rfl,rfl⟩
theorem Dv{w:World}{db:Nat}(h:vC w be db t rt):Calls prog 152 #[ptr be] w λe w'=>e=.returned (.iface 238 (ptr rt))/\w=w':=by have c3:=h.cells.2.2.2.1;clear h;go_enter func152,ntmps152;go_wp2;go_returns;exact⟨rfl,rfl⟩
variable{l:zu}{pdel pend:Nat}{us:zF->List Bytes}
theorem k7.beAt{w:World}{I:zN}{D:vu}(h:k7 l w I D pend pdel us):vC w I.be I.db I.t I.rt:=by obtain⟨C,wb,rb,e2,e4,hB,_⟩:=h;exact hB.be
def W8(l:zu)(w w':World)(e:Ending)(AT:TypeId)(T:TypeId)(I:Nat)(ty:TypeId):Prop:=∃x,e=.returned (.iface AT (ptr x))/\za w w'/\w.heap.size<=x/\qe l w' x T I ty
variable{ab:Nat}
theorem qP{w:World}{I:zN}{D:vu}(h:k7 l w I D pend pdel us)(ha:qe l w ab 136 I.be 151):
  Calls prog 207 #[ptr ab] w λe w'=>W8 l w w' e 417 257 I.t 419:=by
 obtain⟨q0,q1,_⟩:=qT ha.2;have hbnd:=h.bnd;have hBB:=h.beAt;have HB:=hid (Vg (show vC w.drew I.be I.db I.t I.rt from hBB));have hx0:l w.heap.size=0:=by
  by_cases e:l w.heap.size=0
  ·exact e
  ·have:=hbnd _ e;omega
 have hmeth:=YZ;have HX0:=hid hx0;clear hx0;have hrow:(w.drew.alloc (.cells #[.iface 257 (ptr I.t),.pointer none] 419)).heap[w.heap.size]? =some (.cells #[.iface 257 (ptr I.t),.pointer none] 419 (0,0)):=zg w.drew _;have HROW:=hid hrow;clear hrow;clear h ha hbnd hBB;go_enter func207,ntmps207;go_wp2_with fail;go_region_with (go_at_call 149;refine HB.out.mono ?_;rintro e w1 ⟨rfl,rfl⟩)
 all_goals
  go_wp2;go_returns;exact⟨w.heap.size,rfl,((za.refl w).alloc _).drew,Nat.le_refl _,HX0.out,HROW.out⟩
theorem vG{w:World}{I:zN}{D:vu}(h:k7 l w I D pend pdel us)(ha:qe l w ab 136 I.be 151):
  Calls prog 214 #[ptr ab] w λe w'=>W8 l w w' e 424 238 I.rt 426:=by
 obtain⟨q0,q1,_⟩:=qT ha.2;have hbnd:=h.bnd;have hBB:=h.beAt;have HB:=hid (Dv (show vC w.drew I.be I.db I.t I.rt from hBB));have hx0:l w.heap.size=0:=by
  by_cases e:l w.heap.size=0
  ·exact e
  ·have:=hbnd _ e;omega
 have hmeth:=uH;have HX0:=hid hx0;clear hx0;have hrow:(w.drew.alloc (.cells #[.iface 238 (ptr I.rt),.pointer none] 426)).heap[w.heap.size]? =some (.cells #[.iface 238 (ptr I.rt),.pointer none] 426 (0,0)):=zg w.drew _;have HROW:=hid hrow;clear hrow;clear h ha hbnd hBB;go_enter func214,ntmps214;go_wp2_with fail;go_region_with (go_at_call 152;refine HB.out.mono ?_;rintro e w1 ⟨rfl,rfl⟩)
 all_goals
  go_wp2;go_returns;exact⟨w.heap.size,rfl,((za.refl w).alloc _).drew,Nat.le_refl _,HX0.out,HROW.out⟩
theorem kM{w:World}{I:zN}{D:vu}(h:V8 l w I D)(ha:qe l w ab 136 I.be 151):
  Calls prog 209 #[ptr ab] w λe w'=>e=.returned (.tuple #[])/\WZ l w I D w':=by
 have q0:w.cell? ⟨ab,0,none⟩=some (.iface 136 (ptr I.be)):=(qT ha.2).1;have HF:=hid (Z4 h);have hmeth:=gQ;clear h ha;go_enter func209,ntmps209;go_wp2_with fail;refine HF.out.mono ?_;rintro e w1 ⟨rfl,hd⟩;have HD:=hid hd;clear hd;go_wp2;go_returns;exact⟨rfl,HD.out⟩
def zA.db(s:zA)(A:yu):vu:=⟨A,VX zm.name zm.enc s.roles,VX zj.name zj.enc s.users⟩
structure yq(A:yu)(on:Bool)(rev:Nat):Prop where
 en:WT (qZ A Qx)=on
 rv:qZ A xK=WV rev
 sorted:zE (λp:Bytes×Bytes=>p.1) A
 key:∀p∈A,p.1=Qx\/p.1=xK
structure ya(s:zA):Prop where
 us:zE zj.name s.users
 rs:zE zm.name s.roles
 uok:∀u∈s.users,jy u
 rok:∀r∈s.roles,kD r
 ul:s.users.length<=300
 rl:s.roles.length<=300
 rev:s.rev<200
variable{α:Type}
theorem W_{nm en:α->Bytes}{l:List α}(hs:zE nm l)(h0:∀x∈l,nm x≠[]/\(nm x).length<=1000)(hl:l.length<=1000):zc4 (VX nm en l)where
 rise:=by rw[YW];exact hs
 ne p hp:=by obtain⟨x,hx,rfl⟩:=List.mem_map.1 hp;exact(h0 x hx).1
 len:=by unfold VX;rw[List.length_map];exact hl
 key p hp:=by obtain⟨x,hx,rfl⟩:=List.mem_map.1 hp;exact(h0 x hx).2
variable{A:yu}
theorem zbK(h:zE (λp:Bytes×Bytes=>p.1) A)(hk:∀p∈A,p.1=Qx\/p.1=xK):A.length<=2:=by
 match A,h,hk with
 |[],_,_=>simp
 |[_],_,_=>simp
 |[_,_],_,_=>simp
 |a::b::c::r,h,hk=>exfalso;have h1:=h.head (z:=b) (by simp);have h2:=h.head (z:=c) (by simp);have h3:=h.tail.head (z:=c) (by simp);have ka:=hk a (by simp);have kb:=hk b (by simp);have kc:=hk c (by simp);rcases ka with ka|ka<;>rcases kb with kb|kb<;>rcases kc with kc|kc<;>rw[ka,kb]at h1<;>rw[ka,kc]at h2<;>rw[kb,kc]at h3<;>first|exact zI _ h1|exact zI _ h2|exact zI _ h3
theorem yq.ok{on:Bool}{rev:Nat}(h:yq A on rev):zc4 A where
 rise:=h.sorted
 ne p hp:=by rcases h.key p hp with e|e<;>rw[e]<;>decide
 len:=by have:=zbK h.sorted h.key;omega
 key p hp:=by rcases h.key p hp with e|e<;>rw[e]<;>decide
theorem ya.dbOk{s:zA}(h:ya s){on:Bool}{rev:Nat}(hA:yq A on rev):(s.db A).ok:=λb=>by
 cases b with
 |auth=>exact hA.ok
 |users=>exact W_ h.us (λu hu=>⟨(h.uok u hu).name0,(h.uok u hu).name⟩) (by have:=h.ul;omega)
 |roles=>exact W_ h.rs (λu hu=>⟨(h.rok u hu).name0,(h.rok u hu).name⟩) (by have:=h.rl;omega)
structure AR(B:zu->World->Prop)(T:TypeId)(v rc:Value)(gU gR gA:FuncId)(us:List zj)(rs:List zm):Prop where
 keep:∀l l' W W',B l W->qF l W l' W'->B l' W'
 lt:∀l W,B l W->∀j,l j≠0->j<W.heap.size
 methU:∀W,(method 608 T v "UnsafeGetUser").run prog W=.ok (gU,rc) W
 nilU:∀W,(nilAhead 608 T v "UnsafeGetUser").run prog W=.ok (some false) W
 entU:∀args W,(callFunc gU args).run prog W=.ok (.enter gU args) W
 methR:∀W,(method 608 T v "UnsafeGetRole").run prog W=.ok (gR,rc) W
 nilR:∀W,(nilAhead 608 T v "UnsafeGetRole").run prog W=.ok (some false) W
 entR:∀args W,(callFunc gR args).run prog W=.ok (.enter gR args) W
 methA:∀W,(method 608 T v "UnsafeGetAllUsers").run prog W=.ok (gA,rc) W
 nilA:∀W,(nilAhead 608 T v "UnsafeGetAllUsers").run prog W=.ok (some false) W
 entA:∀args W,(callFunc gA args).run prog W=.ok (.enter gA args) W
 user:∀l W n,B l W->n.length<=1000->Calls prog gU #[rc,zb n] W λe w'=>∃r,e=.returned r/\(B l w'/\zo l.own W w'/\kg W w' (.returned r) (qU zj.name us n))
 role:∀l W n,B l W->n.length<=1000->Calls prog gR #[rc,zb n] W λe w'=>∃r,e=.returned r/\(B l w'/\zo l.own W w'/\jN W w' (.returned r) (qU zm.name rs n))
 all:∀l W,B l W->Calls prog gA #[rc] W λe w'=>∃r,e=.returned r/\(B l w'/\zo l.own W w'/\K7 l.some W w' us r)
variable{w':World}
theorem kg.ret{w:World}{e:Ending}{o:Option zj}(h:kg w w' e o):∃r,e=.returned r/\kg w w' (.returned r) o:=by
 cases o with
 |none=>exact⟨_,h,rfl⟩
 |some u=>obtain⟨b,wm,nv,rv,ov,rfl,h1⟩:=h;exact⟨_,rfl,b,wm,nv,rv,ov,rfl,h1⟩
theorem jN.ret{w:World}{e:Ending}{o:Option zm}(h:jN w w' e o):∃r,e=.returned r/\jN w w' (.returned r) o:=by
 cases o with
 |none=>exact⟨_,h,rfl⟩
 |some u=>obtain⟨b,wm,nv,rv,ids,rfl,h1⟩:=h;exact⟨_,rfl,b,wm,nv,rv,ids,rfl,h1⟩
theorem kg.undrew{w:World}{e:Ending}{o:Option zj}(h:kg w.drew w' e o):kg w w' e o:=by cases o<;>exact h
theorem jN.undrew{w:World}{e:Ending}{o:Option zm}(h:jN w.drew w' e o):jN w w' e o:=by cases o<;>exact h
section
variable{I:zN}{pend pdel x:Nat}{us:zF->List Bytes}{s:zA}{A:yu}{on:Bool}{rev:Nat}
theorem zc6{s:zA}(A:yu)(n:Bytes):qZ ((s.db A).get .users) n=(qU zj.name s.users n).map zj.enc:=gK _ _
theorem zc7{s:zA}(A:yu)(n:Bytes):qZ ((s.db A).get .roles) n=(qU zm.name s.roles n).map zm.enc:=gK _ _
theorem qk{α:Type}{nm:α->Bytes}{l:List α}(h:zE nm l){n:Bytes}{y:α}(hg:qU nm l n=some y):y∈l:=((qO h).1 hg).1
theorem vS(hf:ya s)(hA:yq A on rev):AR (λl W=>k7 l W I (s.db A) pend pdel us/\qe l W x 257 I.t 419) 417 (ptr x) (ptr x) 267 266 265 s.users s.roles where
 keep l l' W W' h hc:=⟨h.1.client hc,h.2.client hc⟩
 lt l W h:=h.1.bnd
 methU _:=by kernel_rfl
 nilU _:=by kernel_rfl
 entU _ _:=by kernel_rfl
 methR _:=by kernel_rfl
 nilR _:=by kernel_rfl
 entR _ _:=by kernel_rfl
 methA _:=by kernel_rfl
 nilA _:=by kernel_rfl
 entA _ _:=by kernel_rfl
 user l W n h hn:=by obtain⟨⟨C,wb,rb,e2,e4,hB,h1,h2,h3,h4⟩,hx⟩:=h;have R:=YX (l:=l) (w:=W) (I:=I) (C:=C) (rb:=rb) (pend:=pend) (pdel:=pdel) (e2:=e2) (e4:=e4) h1 (hf.dbOk hA);refine JQ hx.2 ((K5 (lg:=.pointer none) R.toDu (w:=W.drew) (n:=n) ⟨(zB.refl hB.bnd).drewN 1,hB.drewN 1⟩ hn (zc6 A n) (λu hu=>hf.uok u (qk hf.us hu))).mono ?_);rintro e w' ⟨⟨hs,hB'⟩,hm,hg⟩;obtain⟨r,rfl,hg⟩:=hg.ret;exact⟨r,rfl,⟨⟨C,wb,rb,e2,e4,hB',h1,h2,h3,h4⟩,hx.step hs⟩,hs.mod,hg.undrew⟩
 role l W n h hn:=by obtain⟨⟨C,wb,rb,e2,e4,hB,h1,h2,h3,h4⟩,hx⟩:=h;have R:=YX (l:=l) (w:=W) (I:=I) (C:=C) (rb:=rb) (pend:=pend) (pdel:=pdel) (e2:=e2) (e4:=e4) h1 (hf.dbOk hA);refine JR hx.2 ((K6 (lg:=.pointer none) R.toDu (w:=W.drew) (n:=n) ⟨(zB.refl hB.bnd).drewN 1,hB.drewN 1⟩ hn (zc7 A n) (λu hu=>hf.rok u (qk hf.rs hu))).mono ?_);rintro e w' ⟨⟨hs,hB'⟩,hm,hg⟩;obtain⟨r,rfl,hg⟩:=hg.ret;exact⟨r,rfl,⟨⟨C,wb,rb,e2,e4,hB',h1,h2,h3,h4⟩,hx.step hs⟩,hs.mod,hg.undrew⟩
 all l W h:=by obtain⟨⟨C,wb,rb,e2,e4,hB,h1,h2,h3,h4⟩,hx⟩:=h;have R:=YX (l:=l) (w:=W) (I:=I) (C:=C) (rb:=rb) (pend:=pend) (pdel:=pdel) (e2:=e2) (e4:=e4) h1 (hf.dbOk hA);refine Kd hx.2 ((XM (lg:=.pointer none) R (w:=W.drew) ⟨(zB.refl hB.bnd).drewN 1,hB.drewN 1⟩ rfl (by have:=hf.ul;omega) hf.uok).mono ?_);rintro e w' ⟨r,rfl,⟨hs,hB'⟩,hm,hg⟩;exact⟨r,rfl,⟨⟨C,wb,rb,e2,e4,hB',h1,h2,h3,h4⟩,hx.step hs⟩,hs.mod,hg⟩
theorem QZ(hf:ya s)(hA:yq A on rev):AR (λl W=>V8 l W I (s.db A)/\qe l W x 238 I.rt 426) 424 (ptr x) (ptr x) 295 294 293 s.users s.roles where
 keep l l' W W' h hc:=⟨h.1.client hc,h.2.client hc⟩
 lt l W h:=h.1.bnd
 methU _:=by kernel_rfl
 nilU _:=by kernel_rfl
 entU _ _:=by kernel_rfl
 methR _:=by kernel_rfl
 nilR _:=by kernel_rfl
 entR _ _:=by kernel_rfl
 methA _:=by kernel_rfl
 nilA _:=by kernel_rfl
 entA _ _:=by kernel_rfl
 user l W n h hn:=by obtain⟨⟨C,wb,rb,e2,e4,hB,h1,h2,h3,h4⟩,hx⟩:=h;have R:=YY (l:=l) (w:=W) (I:=I) (C:=C) (wb:=wb) (rb:=rb) (pend:=0) (pdel:=0) (e2:=e2) h2 (h4 rfl).2.1 (hf.dbOk hA);refine uD hx.2 ((K5 (lg:=.pointer none) R.toDu (w:=W.drew) (n:=n) ⟨(zB.refl hB.bnd).drewN 1,hB.drewN 1⟩ hn (zc6 A n) (λu hu=>hf.uok u (qk hf.us hu))).mono ?_);rintro e w' ⟨⟨hs,hB'⟩,hm,hg⟩;obtain⟨r,rfl,hg⟩:=hg.ret;exact⟨r,rfl,⟨⟨C,wb,rb,e2,e4,hB',h1,h2,h3,h4⟩,hx.step hs⟩,hs.mod,hg.undrew⟩
 role l W n h hn:=by obtain⟨⟨C,wb,rb,e2,e4,hB,h1,h2,h3,h4⟩,hx⟩:=h;have R:=YY (l:=l) (w:=W) (I:=I) (C:=C) (wb:=wb) (rb:=rb) (pend:=0) (pdel:=0) (e2:=e2) h2 (h4 rfl).2.1 (hf.dbOk hA);refine uE hx.2 ((K6 (lg:=.pointer none) R.toDu (w:=W.drew) (n:=n) ⟨(zB.refl hB.bnd).drewN 1,hB.drewN 1⟩ hn (zc7 A n) (λu hu=>hf.rok u (qk hf.rs hu))).mono ?_);rintro e w' ⟨⟨hs,hB'⟩,hm,hg⟩;obtain⟨r,rfl,hg⟩:=hg.ret;exact⟨r,rfl,⟨⟨C,wb,rb,e2,e4,hB',h1,h2,h3,h4⟩,hx.step hs⟩,hs.mod,hg.undrew⟩
 all l W h:=by obtain⟨⟨C,wb,rb,e2,e4,hB,h1,h2,h3,h4⟩,hx⟩:=h;have R:=YY (l:=l) (w:=W) (I:=I) (C:=C) (wb:=wb) (rb:=rb) (pend:=0) (pdel:=0) (e2:=e2) h2 (h4 rfl).2.1 (hf.dbOk hA);refine Ke hx.2 ((XM (lg:=.pointer none) R (w:=W.drew) ⟨(zB.refl hB.bnd).drewN 1,hB.drewN 1⟩ rfl (by have:=hf.ul;omega) hf.uok).mono ?_);rintro e w' ⟨r,rfl,⟨hs,hB'⟩,hm,hg⟩;exact⟨r,rfl,⟨⟨C,wb,rb,e2,e4,hB',h1,h2,h3,h4⟩,hx.step hs⟩,hs.mod,hg⟩
end
structure jO(l:zu)(w:World)(l':zu)(w':World):Prop where
 mod:zo l.own w w'
 old:∀b,b<w.heap.size->l' b=l b
 bnd:∀b,l' b≠0->b<w'.heap.size
theorem jO.refl{w:World}(h:∀b,l b≠0->b<w.heap.size):jO l w l w:=⟨zo.refl _ _,λ_ _=>rfl,h⟩
variable{l':zu}
theorem jO.le{w:World}(h:jO l w l' w'):(im l.some w).le (im l'.some w'):=
 (h.mod.mono (S':=l.some) λ_ _ e=>e.1).im λb hb e=>by show l b≠0;rw[<-h.old b hb];exact e
variable{w'':World}
theorem jO.trans{l'':zu}{w:World}(h:jO l w l' w')(k:jO l' w' l'' w''):jO l w l'' w'' where
 mod:=h.mod.trans k.mod λb hb e=>by
  unfold zu.own at*
  rw[h.old b hb]at e;exact e
 old b hb:=by rw[k.old b (Nat.lt_of_lt_of_le hb h.mod.size),h.old b hb]
 bnd:=k.bnd
theorem jO.read{w:World}(h:jO l w l' w')(hm:zo l'.own w' w''):jO l w l' w'':=h.trans ⟨hm,λ_ _=>rfl,λb e=>Nat.lt_of_lt_of_le (h.bnd b e) hm.size⟩
theorem jO.new{w:World}(h:jO l w l' w')(hn:za w' w''):jO l w l' w'':=h.read (hn.mod _)
def VY(B:zu->World->Prop)(l0:zu)(w0:World)(l:zu)(W:World)(s1 i1 s2 i2:Nat)(L1 L2:List Iv):Prop:=
 B l W/\jO l0 w0 l W/\∃F1 F2:Nat->Prop,q_ (im l.some W) W F1 s1 i1 L1/\q_ (im l.some W) W F2 s2 i2 L2/\(∀j,F1 j->l j=13)/\(∀j,F2 j->l j=13)/\(∀j,F1 j->¬F2 j)/\(∀j,F1 j\/F2 j->w0.heap.size<=j)
variable{L1 L2:List Iv}{W:World}{i1 i2 s1 s2:Nat}{l0:zu}
theorem VY.swap{B:zu->World->Prop}{w0:World}(h:VY B l0 w0 l W s1 i1 s2 i2 L1 L2):VY B l0 w0 l W s2 i2 s1 i1 L2 L1:=by obtain⟨h1,h2,F1,F2,h3,h4,h5,h6,h7,h8⟩:=h;exact⟨h1,h2,F2,F1,h4,h3,h6,h5,λj a b=>h7 j b a,λj e=>h8 j e.symm⟩
variable{W':World}
theorem VY.read{B:zu->World->Prop}{w0:World}(h:VY B l0 w0 l W s1 i1 s2 i2 L1 L2)(hB:B l W')(hm:zo l.own W W'):VY B l0 w0 l W' s1 i1 s2 i2 L1 L2:=by obtain⟨h1,h2,F1,F2,h3,h4,h5,h6,h7,h8⟩:=h;have hle:(im l.some W).le (im l.some W'):=(hm.mono (S':=l.some) λ_ _ e=>e.1).im λ_ _ e=>e;have hk:∀j,l j=13->W'.heap[j]? =W.heap[j]? :=λj e=>hm.block j (h2.bnd j (by rw[e];decide)) (λe2=>by have:=e2.2;omega);exact⟨hB,h2.read hm,F1,F2,h3.frame (λj e=>hk j (h5 j e)) hle,h4.frame (λj e=>hk j (h6 j e)) hle,h5,h6,h7,h8⟩
theorem VY.ins{B:zu->World->Prop}{w0:World}{v:Iv}(hk:∀l l' W W',B l W->qF l W l' W'->B l' W')(h1:B l W)(h2:jO l0 w0 l W){F1 F2:Nat->Prop}
  (h4:q_ (im l.some W) W F2 s2 i2 L2)(h5:∀j,F1 j->l j=13)(h6:∀j,F2 j->l j=13)(h7:∀j,F1 j->¬F2 j)(h8:∀j,F1 j\/F2 j->w0.heap.size<=j)
  (h:Zh l.some F1 W W' s1 i1 L1 v):∃l',VY B l0 w0 l' W' s1 i1 s2 i2 (v::L1) L2/\(im l.some W).le (im l'.some W'):=by
 obtain⟨F',hm,hF1,hF2,ht⟩:=h;have hc:qF l W (l.add F' 13) W':=qF.own h2.bnd (hm.mono λj _ e=>by rw[h5 j e];decide) λj e=>by
  rcases hF1 j e with e|e
  ·exact Or.inl (by rw[h5 j e];decide)
  ·exact Or.inr e
 have hl13:∀j,F' j->(l.add F' 13) j=13:=λj e=>by
  by_cases h0:l j=0
  ·exact zu.add_pos e h0
  ·rcases hF1 j e with e2|e2
   ·rw[zu.add_old h0];exact h5 j e2
   ·have:=h2.bnd j h0;omega
 have hmw:w0.heap.size<=W.heap.size:=h2.mod.size;refine⟨l.add F' 13,⟨hk _ _ _ _ h1 hc,⟨zo.trans h2.mod hm λj hj e=> ?_,λb hb=> ?_,hc.bnd⟩,F',F2,by rw[Qm (by decide)];exact ht,h4.frame (λj e=> ?_) hc.le,hl13,λj e=> ?_,λj e e2=> ?_,λj e=> ?_⟩,hc.le⟩
 ·have:=h8 j (Or.inl e);omega
 ·rw[hc.old b (Nat.lt_of_lt_of_le hb hmw),h2.old b hb]
 ·exact hm.block j (h2.bnd j (by rw[h6 j e];decide)) (λe2=>h7 j e2 e)
 ·rw[zu.add_old (by rw[h6 j e];decide)];exact h6 j e
 ·rcases hF1 j e with e3|e3
  ·exact h7 j e3 e2
  ·have:=h2.bnd j (by rw[h6 j e2];decide);omega
 ·rcases e with e|e
  ·rcases hF1 j e with e3|e3
   ·exact h8 j (Or.inl e3)
   ·omega
  ·exact h8 j (Or.inr e)
theorem Vh{B:zu->World->Prop}{w0:World}{b e:EV}(hk:∀l l' W W',B l W->qF l W l' W'->B l' W')(h:VY B l0 w0 l W s1 i1 s2 i2 L1 L2)(hb:kL (im l.some W) b)(he:kL (im l.some W) e)(hv:Q9 (b.1,e.1)):
  Calls prog 234 #[ptr i1,.agg #[b.2,e.2],XA] W λr w'=>r=.returned (.tuple #[])/\∃l',VY B l0 w0 l' w' s1 i1 s2 i2 ((b.1,e.1)::L1) L2/\(im l.some W).le (im l'.some w'):=by
 obtain⟨h1,h2,F1,F2,h3,h4,h5,h6,h7,h8⟩:=h;refine(uk (S:=l.some) (F:=F1) h2.bnd (λj e=>by show l j≠0;rw[h5 j e];decide) h3 hb he hv).mono ?_;rintro r w' ⟨rfl,hi⟩;exact⟨rfl,VY.ins hk h1 h2 h4 h5 h6 h7 h8 hi⟩
theorem JS{B:zu->World->Prop}{w0:World}{b e:EV}(hk:∀l l' W W',B l W->qF l W l' W'->B l' W')(h:VY B l0 w0 l W s1 i1 s2 i2 L1 L2)(hb:kL (im l.some W) b)(he:kL (im l.some W) e)(hv:Q9 (b.1,e.1)):
  Calls prog 234 #[ptr i2,.agg #[b.2,e.2],XA] W λr w'=>r=.returned (.tuple #[])/\∃l',VY B l0 w0 l' w' s1 i1 s2 i2 L1 ((b.1,e.1)::L2)/\(im l.some W).le (im l'.some w'):=
 (Vh hk h.swap hb he hv).mono λr w' ⟨a,l',b,c⟩=>⟨a,l',b.swap,c⟩
theorem VY.start{B:zu->World->Prop}{w0 W1 W2:World}(hk:∀l l' W W',B l W->qF l W l' W'->B l' W')(h1:B l0 W)(h2:jO l0 w0 l0 W)
  (hn1:za W W1)(ha:W.heap.size<=s1/\W.heap.size<=i1/\s1<W1.heap.size/\i1<W1.heap.size)(ht1:∀r,q_ r W1 (λj=>j=s1\/j=i1) s1 i1 [])
  (hn2:za W1 W2)(hb:W1.heap.size<=s2/\W1.heap.size<=i2/\s2<W2.heap.size/\i2<W2.heap.size)(ht2:∀r,q_ r W2 (λj=>j=s2\/j=i2) s2 i2 []):
  ∃l',VY B l0 w0 l' W2 s1 i1 s2 i2 [] []/\(im l0.some W).le (im l'.some W2):=by
 have hs1:=hn1.size;have hs2:=hn2.size;have hc:qF l0 W (l0.add (λj=>(j=s1\/j=i1)\/(j=s2\/j=i2)) 13) W2:=qF.own h2.bnd (za.mod (hn1.trans hn2) _) λj e=>Or.inr (by omega);have h13:∀j,((j=s1\/j=i1)\/(j=s2\/j=i2))->(l0.add (λj=>(j=s1\/j=i1)\/(j=s2\/j=i2)) 13) j=13:=λj e=>by
  have h0:l0 j=0:=by
   by_cases e0:l0 j=0
   ·exact e0
   ·have:=h2.bnd j e0;omega
  exact zu.add_pos e h0
 have hmw:=h2.mod.size;refine⟨_,⟨hk _ _ _ _ h1 hc,⟨zo.trans h2.mod (za.mod (hn1.trans hn2) (λ_=>False)) λj hj e=>e.elim,λb hb'=> ?_,hc.bnd⟩,λj=>j=s1\/j=i1,λj=>j=s2\/j=i2,(ht1 _).frame (λj e=>hn2.block j (by omega) (λe=>e)) (Rd.le_refl _),ht2 _,λj e=>h13 j (Or.inl e),λj e=>h13 j (Or.inr e),λj e e2=>by omega,λj e=>by omega⟩,hc.le⟩;rw[hc.old b (Nat.lt_of_lt_of_le hb' hmw),h2.old b hb']
theorem Dw(it:Nat)(W:World):(method 608 280 (ptr it) "Insert").run prog W=.ok (234,ptr it) W:=by kernel_rfl
def yx(rs:List zm)(r:Bytes):List zh:=match qU zm.name rs r with|some x=>x.perms|none=>[]
def permsOf(rs:List zm)(l:List Bytes):List zh:=l.flatMap (yx rs)
theorem Y0(rs:List zm)(l:List Bytes)(r:Bytes):permsOf rs (l++[r])=permsOf rs l++yx rs r:=by simp[permsOf]
theorem jJ(ps:List zh)(p:zh)(k:Nat):(qu (ps++[p]) k).reverse=if p.allows k then kq p.key p.stop::(qu ps k).reverse else (qu ps k).reverse:=by
 unfold qu;rw[List.filter_append];by_cases h:p.allows k=true
 ·simp[h]
 ·simp[h]
variable{c n:Nat}{cs:List Value}{r:Rd}
theorem Sl.row{p:Option Addr}(h:Sl r 1 cs (.slice p n c)):cs.length=n/\n<=c/\c<=9223372036854775807/\((∃gb go,p=some ⟨gb,go,none⟩/\∀i (hi:i<cs.length),r ⟨gb,go+i,none⟩=some cs[i])\/n=0):=by
 obtain⟨p',n',c',e,hl,hn,hc,hp,h5⟩:=h;cases e;refine⟨by omega,hn,hc,?_⟩;rcases h5 with h5|⟨b,o,h6,h7⟩
 ·right;rw[h5]at hl;simp at hl;omega
 ·exact Or.inl ⟨b,o,h6,h7⟩
theorem Dx(k:Bytes):zt k (k++[0])<0:=by
 induction k with
 |nil=>simp[zt]
 |cons x k ih=>simpa[zt]using ih
theorem Jr{k e:Bytes}(h:zT k e=true):Q9 (kq k e):=by
 unfold zT at h;simp only[Bool.and_eq_true,Bool.not_eq_true',decide_eq_false_iff_not,Bool.or_eq_true,decide_eq_true_eq]at h;obtain⟨hk,h⟩:=h;unfold Q9 kq;by_cases he:e=[]
 ·rw[if_pos he];unfold pt;rw[Zm hk (by simp)];exact Dx k
 ·rw[if_neg he];by_cases h0:e=[0]
  ·rw[if_pos h0];exact uI hk
  ·rw[if_neg h0];rw[Zm hk he];rcases h with(h|h)|h
   ·exact absurd h he
   ·exact absurd h h0
   ·exact h
theorem VY.new{B:zu->World->Prop}{w0:World}(hk:∀l l' W W',B l W->qF l W l' W'->B l' W')(hb:∀l W,B l W->∀j,l j≠0->j<W.heap.size)(h:VY B l0 w0 l W s1 i1 s2 i2 L1 L2)(hn:za W W'):VY B l0 w0 l W' s1 i1 s2 i2 L1 L2:=
 h.read (hk _ _ _ _ h.1 (qF.ofNew (hb _ _ h.1) hn)) (hn.mod _)
variable{S:Nat->Prop}{wr:World}
theorem uJ{wb:World}{T:TypeId}{x y:Value}(hS:∀j,S j->j<wr.heap.size)(hn:za wr wb)(hi:wb.heap[wr.heap.size]? =some (.cells #[.nilIface,.nilIface] T (0,0)))(hW:W=(wb.setCell ⟨wr.heap.size,0,none⟩ x).setCell ⟨wr.heap.size,1,none⟩ y):
  za wr W/\W.heap[wr.heap.size]? =some (.cells #[x,y] T (0,0))/\∀l v,Bs wb.cell? l v->(∀j,v.ownBlock=some j->wr.heap.size<j)->Bs (im S W) l v:=by
 have h1:(wb.setCell ⟨wr.heap.size,0,none⟩ x).heap[wr.heap.size]? =some (.cells #[x,.nilIface] T (0,0)):=heap_setCell_same _ _ _ _ _ _ hi;have h2:((wb.setCell ⟨wr.heap.size,0,none⟩ x).setCell ⟨wr.heap.size,1,none⟩ y).heap[wr.heap.size]? =some (.cells #[x,y] T (0,0)):=heap_setCell_same _ _ _ _ _ _ h1;have hm:zo (λj=>j=wr.heap.size) wb W:=by rw[hW];exact((zo.refl (λj=>j=wr.heap.size) wb).setCell (p:=⟨wr.heap.size,0,none⟩) (λ_=>rfl) x).setCell (p:=⟨wr.heap.size,1,none⟩) (λ_=>rfl) y
 refine⟨zo.trans hn hm λj hj e=>by omega,by rw[hW];exact h2,λl v hb hv=> ?_⟩;have h3:=Bs.im_of (S:=λj=>j=wr.heap.size) hb λj e e2=>by have:=hv j e;omega
 exact Bs.im_of ((h3.mono (hm.im λ_ _ e=>e)).mono (zd _ _)) λj e e2=>by have:=hv j e;have:=hS j e2;omega
def uK(B:zu->World->Prop)(l0:zu)(w0:World)(l:zu)(W:World)(r:Value)(ps:List zh):Prop:=
 ∃q s1 i1 s2 i2,r=ptr q/\w0.heap.size<=q/\l q=0/\W.heap[q]? =some (.cells #[.iface 280 (ptr i1),.iface 280 (ptr i2)] 235 (0,0))/\VY B l0 w0 l W s1 i1 s2 i2 (qu ps 0).reverse (qu ps 1).reverse
def zc9(B:zu->World->Prop)(l0:zu)(w0:World)(W:World)(r:Value)(rs:List zm):Option zj->Prop
 |none=>r=.pointer none/\B l0 W/\jO l0 w0 l0 W
 |some u=>∃l,uK B l0 w0 l W r (permsOf rs u.roles)
variable{u:zj}
theorem kg.at{r:Value}(h:kg W w' (.returned r) (some u))(hb:∀j,l j≠0->j<W.heap.size):∃b,r=ptr b/\W.heap.size<=b/\jd (im l.some w') b u:=by obtain⟨b,wm,nv,rv,ov,he,h1,h2,h3⟩:=h;cases he;exact⟨b,rfl,h1,h3.at λj hj=>by have:=hb j hj;omega⟩
theorem jN.at{r:Value}{u:zm}(h:jN W w' (.returned r) (some u))(hb:∀j,l j≠0->j<W.heap.size):∃b,r=ptr b/\W.heap.size<=b/\jz (im l.some w') b u:=by obtain⟨b,wm,nv,rv,ids,he,h1,h2,h3⟩:=h;cases he;exact⟨b,rfl,h1,h3.at λj hj=>by have:=hb j hj;omega⟩
def Y1(r:Rd)(b:Nat)(u:zj):Prop:=∃v,r ⟨b,2,none⟩=some v/\Sl r 1 (u.roles.map zb) v
def zaa(r:Rd)(b:Nat)(x:zm):Prop:=∃v ids,r ⟨b,1,none⟩=some v/\Sl r 1 (ids.map ptr) v/\qy (jx r) ids x.perms
variable{b:Nat}{r':Rd}
theorem Y1.mono(h:Y1 r b u)(hr:r.le r'):Y1 r' b u:=by obtain⟨v,h1,h2⟩:=h;exact⟨v,hr _ _ h1,h2.mono hr⟩
def zdX(l:zu)(w:World)(r:Value):Option zj->Prop
 |none=>r=.pointer none
 |some u=>∃b,r=ptr b/\Y1 (im l.some w) b u
def zdY(l:zu)(w:World)(r:Value):Option zm->Prop
 |none=>r=.pointer none
 |some x=>∃b,r=ptr b/\zaa (im l.some w) b x
structure AR0(okU okR:Bytes->Prop)(B:zu->World->Prop)(T:TypeId)(v rc:Value)(gU gR:FuncId)(us:List zj)(rs:List zm):Prop where
 keep:∀l l' W W',B l W->qF l W l' W'->B l' W'
 lt:∀l W,B l W->∀j,l j≠0->j<W.heap.size
 methU:∀W,(method 608 T v "UnsafeGetUser").run prog W=.ok (gU,rc) W
 nilU:∀W,(nilAhead 608 T v "UnsafeGetUser").run prog W=.ok (some false) W
 entU:∀args W,(callFunc gU args).run prog W=.ok (.enter gU args) W
 methR:∀W,(method 608 T v "UnsafeGetRole").run prog W=.ok (gR,rc) W
 nilR:∀W,(nilAhead 608 T v "UnsafeGetRole").run prog W=.ok (some false) W
 entR:∀args W,(callFunc gR args).run prog W=.ok (.enter gR args) W
 user:∀l W n,okU n->B l W->n.length<=1000->Calls prog gU #[rc,zb n] W λe w'=>∃r,e=.returned r/\(B l w'/\zo l.own W w'/\zdX l w' r (qU zj.name us n))
 role:∀l W n,okR n->B l W->n.length<=1000->Calls prog gR #[rc,zb n] W λe w'=>∃r,e=.returned r/\(B l w'/\zo l.own W w'/\zdY l w' r (qU zm.name rs n))
def zcz(_:Bytes):Prop:=True
variable{rc v:Value}{rs:List zm}
theorem AR.weak{B:zu->World->Prop}{T:TypeId}{gU gR gA:FuncId}{us:List zj}(h:AR B T v rc gU gR gA us rs):AR0 zcz zcz B T v rc gU gR us rs where
 keep:=h.keep
 lt:=h.lt
 methU:=h.methU
 nilU:=h.nilU
 entU:=h.entU
 methR:=h.methR
 nilR:=h.nilR
 entR:=h.entR
 user l W n _ hB hn:=(h.user l W n hB hn).mono λe w' hx=>by
  obtain⟨r,he,h1,h2,h3⟩:=hx;refine⟨r,he,h1,h2,?_⟩;cases ho:qU zj.name us n with
  |none=>rw[ho]at h3;cases h3;rfl
  |some u=>rw[ho]at h3;obtain⟨b,h4,_,h5⟩:=h3.at (h.lt _ _ hB);exact⟨b,h4,h5.roles⟩
 role l W n _ hB hn:=(h.role l W n hB hn).mono λe w' hx=>by
  obtain⟨r,he,h1,h2,h3⟩:=hx;refine⟨r,he,h1,h2,?_⟩;cases ho:qU zm.name rs n with
  |none=>rw[ho]at h3;cases h3;rfl
  |some u=>rw[ho]at h3;obtain⟨b,h4,_,h5⟩:=h3.at (h.lt _ _ hB);exact⟨b,h4,h5.perms⟩
theorem gT{okU okR:Bytes->Prop}{B:zu->World->Prop}{T:TypeId}{gU gR:FuncId}{us:List zj}(h:AR0 okU okR B T v rc gU gR us rs)(hok:∀u∈us,∀r∈u.roles,okR r)(hus:zE zj.name us)(hrs:zE zm.name rs)(huo:∀u∈us,jy u)(hro:∀r∈rs,kD r)(hpo:∀r∈rs,∀p∈r.perms,p.kind<=2/\zT p.key p.stop=true)
  {w:World}{n:Bytes}(hon:okU n)(hB:B l w)(hn:n.length<=1000):
  Calls prog 50 #[.iface T v,zb n] w λe w'=>∃r,e=.returned r/\zc9 B l w w' r rs (qU zj.name us n):=by
 have m1:=h.methU;have n1:=h.nilU;have e1:=h.entU;have m2:=h.methR;have n2:=h.nilR;have e2:=h.entR;have mT:=Dw;have HU:=hid (h.user l w n hon hB hn);have H:=hid h;have hbnd:=h.lt l w hB;have HUS:=hid hus;have HRS:=hid hrs;have HUO:=hid huo;have HRO:=hid hro;have HPO:=hid hpo;have HBND:=hid hbnd;have HOK:=hid hok;clear h hB hbnd hus hrs huo hro hpo hok hon;unfold zb at HU⊢;generalize(⟨n.toArray⟩:ByteArray)=sx at HU⊢;obtain⟨o,ho⟩:∃o,qU zj.name us n=o:=⟨_,rfl⟩;rw[ho]at HU;rw[ho];have HO:=hid ho;clear ho;go_enter func50,ntmps50;go_wp2_with fail;refine HU.out.mono ?_;rintro e w1 ⟨r,rfl,hB1,hm1,hg1⟩;have HB1:=hid hB1;have HP1:=hid ((jO.refl HBND.out).read hm1);clear HU hB1 hm1;cases o with
 |none=>cases hg1;go_wp2;go_returns;exact⟨_,rfl,rfl,HB1.out,HP1.out⟩
 |some u=>
  obtain⟨b,rfl,hat⟩:=hg1;have hB1:=HB1.out;have hmem:=qk HUS.out HO.out;have HUK:=hid (HUO.out u hmem);have HOU:=hid (HOK.out u hmem);clear hmem;go_wp2_with fail;refine(uA (r:=λ_=>none)).mono ?_;rintro e w2 ⟨s1,i1,rfl,hn1,a1,a2,a3,a4,ht1⟩;go_wp2_with fail;refine(uA (r:=λ_=>none)).mono ?_;rintro e w3 ⟨s2,i2,rfl,hn2,b1,b2,b3,b4,ht2⟩;obtain⟨l3,hT,hle⟩:=VY.start H.out.keep hB1 HP1.out hn1 ⟨a1,a2,a3,a4⟩ (λr=>ht1.frame (λ_ _=>rfl) (λa v h=>by cases h)) hn2 ⟨b1,b2,b3,b4⟩ (λr=>ht2.frame (λ_ _=>rfl) (λa v h=>by cases h));have hat3:=hat.mono hle;have HT:=hid hT;obtain⟨y,h5,h6⟩:=hat3;obtain⟨p,n8,c8,rfl⟩:=h6.shape;have hnl:u.roles.length=n8:=by obtain⟨p9,m9,c9,e9,h9,_⟩:=h6;cases e9;simpa using h9
  have c2:w3.cell? ⟨b,2,none⟩=some (.slice p n8 c8):=zd _ _ _ _ h5;have HROW:=hid h6;have H5:=hid h5;have HNL:=hid hnl;have hn8:n8<=100:=by rw[<-hnl];exact HUK.out.roles
  clear hn1 a1 a2 a3 a4 ht1 hn2 b1 b2 b3 b4 ht2 hT hle hat hB1 h5 h6 hnl;go_wp2;go_loopw [27] (λc wr=>∃(k:Nat) (l':zu),k<=n8/\c=.int .i64 k/\VY B l w l' wr s1 i1 s2 i2 (qu (permsOf rs (u.roles.take k)) 0).reverse (qu (permsOf rs (u.roles.take k)) 1).reverse/\(im l3.some w3).le (im l'.some wr)) (λc _=>n8-(intOf c).toNat)
  case atStart=>exact⟨0,l3,Nat.zero_le _,rfl,HT.out,Rd.le_refl _⟩
  case round=>
   obtain⟨k,l',hk,rfl,hT,hle⟩:=hrel;by_cases hlt:k<n8
   ·obtain⟨hrl,hrc,hrm,⟨gb,go,rfl,hce⟩|h0⟩:=HROW.out.row
    case inr=>exact absurd h0 (by omega)
    have hku:k<u.roles.length:=by rw[HNL.out];exact hlt
    have hck:=hle _ _ (hce k (by rw[List.length_map];exact hku));have ck:wr.cell? ⟨gb,go+k,none⟩=some (zb u.roles[k]):=by have:=zd _ _ _ _ hck;simpa using this
    have hkk:(k:Int)<n8:=by omega
    have HT1:=hid hT;have HLE1:=hid hle;obtain⟨rn,hrn⟩:=zex (u.roles[k]);rw[<-hrn]at ck;have hrnl:rn.length<=1000:=by rw[hrn];exact(HUK.out.roles0 _ (List.getElem_mem hku)).2
    have htk:u.roles.take (k+1)=u.roles.take k++[rn]:=by rw[hrn,List.take_append_getElem]
    have HTK:=hid htk;have HR1:=hid (H.out.role l' wr rn (by rw[hrn];exact HOU.out _ (List.getElem_mem hku)) hT.1 hrnl);unfold zb at HR1 ck;generalize(⟨rn.toArray⟩:ByteArray)=sr at HR1 ck;clear hT hle hrl hce hck hrn htk;go_wp2_with fail;refine HR1.out.mono ?_;rintro e w4 ⟨r4,rfl,hB4,hm4,hg4⟩;have hT4:=HT1.out.read hB4 hm4;have hle4:(im l'.some wr).le (im l'.some w4):=(hm4.mono (S':=l'.some) λ_ _ e=>e.1).im λ_ _ e=>e;have HT4:=hid hT4;have HLE4:=hid (HLE1.out.le_trans hle4);obtain⟨o4,ho4⟩:∃o,qU zm.name rs rn=o:=⟨_,rfl⟩;rw[ho4]at hg4;have HO4:=hid ho4;cases o4 with
    |none=>
     cases hg4;clear ho4 hB4 hm4 hT4 hle4 HR1;go_wp2;go_roundw
     case rel=>
      refine⟨k+1,l',by omega,by go_num,?_,HLE4.out⟩;have:yx rs rn=[]:=by unfold yx;rw[HO4.out]
      rw[HTK.out,Y0,this,List.append_nil];exact HT4.out
     case measure=>simp[intOf];omega
    |some x=>
     obtain⟨rb,rfl,hra⟩:=hg4;have hrp:yx rs rn=x.perms:=by unfold yx;rw[ho4]
     have hxm:=qk HRS.out ho4;have HRK:=hid (HRO.out x hxm);have HPK:=hid (HPO.out x hxm);obtain⟨y,ids,g5,g6,g7⟩:=hra;obtain⟨p6,m8,d8,rfl⟩:=g6.shape;have g8:w4.cell? ⟨rb,1,none⟩=some (.slice p6 m8 d8):=zd _ _ _ _ g5;have hml:x.perms.length=m8:=by have:=g6.row.1;rw[List.length_map]at this;rw[<-g7.length];exact this
     have hm8:m8<=100:=by rw[<-hml];exact HRK.out.perms
     have HRP:=hid hrp;have HG6:=hid g6;have HG7:=hid g7;have HML:=hid hml;clear ho4 hB4 hm4 hT4 hle4 HR1 hrp hxm g5 g6 g7 hml;go_wp2;go_loopw [41] (λc wr=>∃(q:Nat) (l5:zu),q<=m8/\c=.int .i64 q/\VY B l w l5 wr s1 i1 s2 i2 (qu (permsOf rs (u.roles.take k)++x.perms.take q) 0).reverse (qu (permsOf rs (u.roles.take k)++x.perms.take q) 1).reverse/\(im l'.some w4).le (im l5.some wr)) (λc _=>m8-(intOf c).toNat)
     case atStart=>exact⟨0,l',Nat.zero_le _,rfl,by simpa using HT4.out,Rd.le_refl _⟩
     case round=>
      obtain⟨q,l5,hq,rfl,hT5,hle5⟩:=hrel;by_cases hlt5:q<m8
      ·obtain⟨hrl,hrc6,hrm6,⟨gb6,go6,rfl,hce⟩|h0⟩:=HG6.out.row
       case inr=>exact absurd h0 (by omega)
       have hqi:q<ids.length:=by rw[<-hrl,List.length_map]at hlt5;exact hlt5
       have hqp:q<x.perms.length:=by rw[HML.out];exact hlt5
       have hck:=hle5 _ _ (hce q (by rw[List.length_map];exact hqi));obtain⟨pb,hpb⟩:∃pb,ids[q]=pb:=⟨_,rfl⟩;obtain⟨pp,hpp⟩:∃pp,x.perms[q]=pp:=⟨_,rfl⟩;have ck6:wr.cell? ⟨gb6,go6+q,none⟩=some (ptr pb):=by have:=zd _ _ _ _ hck;rw[<-hpb];simpa using this
       have hpa:=(HG7.out.get q hqi hqp).mono hle5;rw[hpb,hpp]at hpa;have htk6:x.perms.take (q+1)=x.perms.take q++[pp]:=by rw[<-hpp,List.take_append_getElem]
       have HPV:=hid (HPK.out pp (by rw[<-hpp];exact List.getElem_mem hqp));have HPO:=hid (HRK.out.perms0 pp (by rw[<-hpp];exact List.getElem_mem hqp));have HTK6:=hid htk6;have HT5:=hid hT5;have HLE5:=hid hle5;have hqq:(q:Int)<m8:=by omega
       clear hT5 hle5 hrl hce hck hpp htk6;obtain⟨wa,hwa⟩:=zex (wr.alloc (.cells #[.nilIface,.nilIface] 230));have hna:za wr wa:=by rw[hwa];exact(za.refl wr).alloc _
       have hia:wa.heap[wr.heap.size]? =some (.cells #[.nilIface,.nilIface] 230 (0,0)):=by rw[hwa];exact zg wr _
       obtain⟨f1,⟨kv,f2,f3⟩,sv,f4,f5⟩:=hpa;obtain⟨kp,kn,kc,rfl,hkn⟩:=f3.shape;obtain⟨sp,sn,sc,rfl,hsn⟩:=f5.shape;have j1:=hna.le _ _ (zd _ _ _ _ f1);have j2:=hna.le _ _ (zd _ _ _ _ f2);have j3:=hna.le _ _ (zd _ _ _ _ f4);have HJ1:=hid (zd _ _ _ _ f1);have HF3:=hid f3;have HF5:=hid f5;have HF5a:=hid (f5.mono (hna.im l5.some));have HWA:=hid hwa;have HNA:=hid hna;have HIA:=hid hia;have HSN:=hid hsn;have HKN:=hid hkn;clear hwa hna hia f1 f2 f3 f4 f5 hsn hkn;go_upto_region 16 with fail
       rw[<-HWA.out];have hsn1:sn<=1000:=by rw[<-HSN.out];exact HPO.out.stop
       go_cut [59] (λc wx=>wa=wx/\∃d:Bool,c=.bool d/\(d=false↔pp.stop=[0]))
       case first=>
        by_cases h1:sn=1
        ·subst h1;obtain⟨z,hz⟩:∃z,pp.stop=[z]:=by
          have:=HSN.out
          match pp.stop,this with
          |[z],_=>exact⟨z,rfl⟩
         obtain⟨_,_,_,⟨gs,gos,rfl,hcs⟩|h0⟩:=(HF5a.out.sl).row
         case inr=>exact absurd h0 (by decide)
         have hz0:=zd _ _ _ _ (hcs 0 (by simp[hz]));have hz1:wa.cell? ⟨gs,gos,none⟩=some (.int .u8 z.toNat):=by simpa[hz,qr]using hz0
         clear hcs hz0;by_cases hzz:z=0
         ·subst hzz;have hz2:wa.cell? ⟨gs,gos,none⟩=some (.int .u8 0):=hz1;clear hz1;go_wp2;go_meet;exact⟨rfl,_,rfl,by simp[hz]⟩
         ·have hzn: ¬(z.toNat:Int)=0:=λe=>hzz (UInt8.toNat_inj.1 (by simpa using e));have hzm: ¬z.toNat=0:=by omega
          go_wp2;go_meet;exact⟨rfl,_,rfl,by simp[hz,hzz,hzm]⟩
        ·have hs0:pp.stop≠[0]:=λe=>h1 (by rw[<-HSN.out,e];rfl);have hsn2: ¬(sn:Int)=1:=by omega
         go_wp2;go_meet;exact⟨rfl,_,rfl,by simp[hs0]⟩
       case rest=>
        obtain⟨rfl,d,rfl,hd⟩:=hcut;obtain⟨ed,hed⟩:=zex ((if pp.stop=[0]then []else pp.stop));go_upto_if 59 with fail
        go_cut [14] (λc wx=>wa=wx/\Bs (im l5.some wr) ed c)
        case first=>
         cases d
         ·have h0:=hd.1 rfl;clear hd;go_wp2;go_meet;refine⟨rfl,?_⟩;rw[hed,if_pos h0];exact Bs.nil _
         ·have h0: ¬pp.stop=[0]:=λe=>by cases hd.2 e
          clear hd;go_wp2;go_meet;refine⟨rfl,?_⟩;rw[hed,if_neg h0];exact HF5.out
        case rest=>
         obtain⟨rfl,hbe⟩:=hcut;obtain⟨ep,en,ec,rfl,hen⟩:=hbe.shape;have HBE:=hid hbe;clear hbe;go_upto_if 69 with fail
         go_cut [] (λwx=>za wr wx/\∃b' e':EV,wx.heap[wr.heap.size]? =some (.cells #[b'.2,e'.2] 230 (0,0))/\kL (im l5.some wx) b'/\kL (im l5.some wx) e'/\(b'.1,e'.1)=kq pp.key pp.stop)
         case first=>
          by_cases h0:sn=0
          ·subst h0;have hse:pp.stop=[]:=List.eq_nil_of_length_eq_zero HSN.out;have hkb:=HF3.out.mono ((HNA.out.im l5.some).le_trans (zd _ _));have hkl:pp.key.length<=1000000:=by have:=HPO.out.key;omega
           have HP:=hid (XL hkb hkl);clear hkb;go_wp2_with fail;refine HP.out.mono ?_;rintro e wb ⟨u9,rfl,hnb,hub,huo⟩;obtain⟨k0,k1,z0,z1⟩:=qT (hnb.heap HIA.out);have z2:(wb.setCell ⟨wr.heap.size,0,none⟩ (.iface 283 (.slice kp kn kc))).frozen? ⟨wr.heap.size,1,none⟩=false:=by simp[World.frozen?,heap_setCell_same wb wr.heap.size 0 _ _ _ (hnb.heap HIA.out)]
           have HW:=hid (λW=>uJ (S:=l5.some) (W:=W) (x:=.iface 283 (.slice kp kn kc)) (y:=.iface 283 u9) (λj e=>H.out.lt _ _ HT5.out.1 j e) (HNA.out.trans hnb) (hnb.heap HIA.out));have HUB:=hid hub;have HUO:=hid huo;clear hnb hub huo;go_wp2;go_meet;obtain⟨hn9,hi9,hb9⟩:=HW.out _ rfl;have hs9:wa.heap.size=wr.heap.size+1:=by rw[HWA.out];exact Array.size_push ..
           refine⟨hn9,(pp.key,.iface 283 (.slice kp kn kc)),(pp.key++[0],.iface 283 u9),hi9,⟨_,rfl,HF3.out.mono (hn9.im _)⟩,⟨_,rfl,hb9 _ _ HUB.out λj e=>by have:=HUO.out j e;omega⟩,?_⟩;unfold kq;rw[if_pos hse];rfl
          ·have hse:pp.stop≠[]:=λe=>h0 (by rw[<-HSN.out,e];rfl);have hsn3: ¬(sn:Int)=0:=by omega
           go_wp2_with fail;refine xh.mono ?_;rintro e wb ⟨rfl,hnb⟩;obtain⟨k0,k1,z0,z1⟩:=qT (hnb.heap HIA.out);have z2:(wb.setCell ⟨wr.heap.size,0,none⟩ (.iface 283 (.slice kp kn kc))).frozen? ⟨wr.heap.size,1,none⟩=false:=by simp[World.frozen?,heap_setCell_same wb wr.heap.size 0 _ _ _ (hnb.heap HIA.out)]
           have HW:=hid (λW=>uJ (S:=l5.some) (W:=W) (x:=.iface 283 (.slice kp kn kc)) (y:=.iface 283 (.slice ep en ec)) (λj e=>H.out.lt _ _ HT5.out.1 j e) (HNA.out.trans hnb) (hnb.heap HIA.out));clear hnb;go_wp2;go_meet;obtain⟨hn9,hi9,_⟩:=HW.out _ rfl;refine⟨hn9,(pp.key,.iface 283 (.slice kp kn kc)),(ed,.iface 283 (.slice ep en ec)),hi9,⟨_,rfl,HF3.out.mono (hn9.im _)⟩,⟨_,rfl,HBE.out.mono (hn9.im _)⟩,?_⟩;unfold kq;rw[if_neg hse,hed]
         case rest=>
          obtain⟨hnx,b',e',hix,hb',he',hre⟩:=hcut;have hkv:=hnx.le _ _ HJ1.out;have hT6:=HT5.out.new H.out.keep H.out.lt hnx;have hv:Q9 (b'.1,e'.1):=by rw[hre];exact Jr HPV.out.2
          obtain⟨r0,r1,_,_⟩:=qT hix;have HIR:=hid (show(im l5.some wr).le (im l5.some wc)from hnx.im _);have HNX:=hid hnx;have HRE:=hid hre;have hi0:im l5.some wc ⟨wr.heap.size,0,none⟩=some b'.2:=zi.2 ⟨λe=>by have:=H.out.lt _ _ HT5.out.1 _ e;exact Nat.lt_irrefl _ this,r0⟩;have hi1:im l5.some wc ⟨wr.heap.size,1,none⟩=some e'.2:=zi.2 ⟨λe=>by have:=H.out.lt _ _ HT5.out.1 _ e;exact Nat.lt_irrefl _ this,r1⟩;have HI0:=hid hi0;have HI1:=hid hi1;have HB':=hid hb';have HE':=hid he';have HV:=hid hv;have HIN1:=hid (Vh H.out.keep hT6 hb' he' hv);have HIN2:=hid (JS H.out.keep hT6 hb' he' hv);clear hix hnx hre hb' he' hv hT6 hi0 hi1;obtain⟨pk,hpk⟩:∃pk,pp.kind=pk:=⟨_,rfl⟩;have hpk2:=HPV.out.1;rw[hpk]at hkv hpk2;have HPKK:=hid hpk;clear hpk;rcases(show pk=0\/pk=1\/pk=2 by omega)with h9|h9|h9
          ·subst h9;go_wp2_with fail;refine HIN1.out.mono ?_;rintro e w7 ⟨rfl,l7,hT7,hle7⟩;have HT7:=hid hT7;have HLE7:=hid hle7;clear hT7 hle7;go_wp2;go_roundw
           case rel=>refine⟨q+1,l7,by omega,by go_num,?_,HLE5.out.le_trans (HIR.out.le_trans HLE7.out)⟩;have:=HT7.out;rw[HRE.out]at this;rw[HTK6.out,<-List.append_assoc,jJ,jJ,if_pos (by simp[zh.allows,HPKK.out]),if_neg (by simp[zh.allows,HPKK.out])];exact this
           case measure=>simp[intOf];omega
          ·subst h9;go_wp2_with fail;refine HIN2.out.mono ?_;rintro e w7 ⟨rfl,l7,hT7,hle7⟩;have HT7:=hid hT7;have HLE7:=hid hle7;clear hT7 hle7;go_wp2;go_roundw
           case rel=>refine⟨q+1,l7,by omega,by go_num,?_,HLE5.out.le_trans (HIR.out.le_trans HLE7.out)⟩;have:=HT7.out;rw[HRE.out]at this;rw[HTK6.out,<-List.append_assoc,jJ,jJ,if_neg (by simp[zh.allows,HPKK.out]),if_pos (by simp[zh.allows,HPKK.out])];exact this
           case measure=>simp[intOf];omega
          ·subst h9;go_wp2_with fail;refine HIN1.out.mono ?_;rintro e w7 ⟨rfl,l7,hT7,hle7⟩;have s0:=zd _ _ _ _ (hle7 _ _ HI0.out);have s1:=zd _ _ _ _ (hle7 _ _ HI1.out);have HIN3:=hid (JS H.out.keep hT7 (HB'.out.mono hle7) (HE'.out.mono hle7) HV.out);have HT7:=hid hT7;have HLE7:=hid hle7;clear hT7 hle7;go_wp2_with fail;refine HIN3.out.mono ?_;rintro e w8 ⟨rfl,l8,hT8,hle8⟩;have HT8:=hid hT8;have HLE8:=hid hle8;clear hT8 hle8;go_wp2;go_roundw
           case rel=>refine⟨q+1,l8,by omega,by go_num,?_,HLE5.out.le_trans (HIR.out.le_trans (HLE7.out.le_trans HLE8.out))⟩;have:=HT8.out;rw[HRE.out]at this;rw[HTK6.out,<-List.append_assoc,jJ,jJ,if_pos (by simp[zh.allows,HPKK.out]),if_pos (by simp[zh.allows,HPKK.out])];exact this
           case measure=>simp[intOf];omega
      ·have hqm:q=m8:=by omega
       subst hqm;have HT5:=hid hT5;have HLE5:=hid hle5;clear hT5 hle5;go_wp2;go_roundw
       case rel=>refine⟨k+1,l5,by omega,by go_num,?_,HLE4.out.le_trans HLE5.out⟩;rw[HTK.out,Y0,HRP.out];have:=HT5.out;rw[<-HML.out,List.take_length]at this;exact this
       case measure=>simp[intOf];omega
   ·have hkn:k=n8:=by omega
    subst hkn;have HT5:=hid hT;clear hT hle;go_wp2;go_returns;have hN:za wr (wr.alloc (.cells #[.iface 280 (ptr i1),.iface 280 (ptr i2)] 235)):=(za.refl wr).alloc _;have h9:=HT5.out.new H.out.keep H.out.lt hN;rw[<-HNL.out,List.take_length]at h9;refine⟨_,rfl,l',wr.heap.size,s1,i1,s2,i2,rfl,?_,?_,zg wr _,h9⟩
    case refine_2=>
     by_cases e:l' wr.heap.size=0
     ·exact e
     ·exact absurd (H.out.lt _ _ HT5.out.1 _ e) (Nat.lt_irrefl _)
    have:=HT5.out.2.1.mod.size;have:wr.heap.size=wr.heap.size:=rfl;omega
end Go.Proofs.YtbmdoinjkligiaaGreat
