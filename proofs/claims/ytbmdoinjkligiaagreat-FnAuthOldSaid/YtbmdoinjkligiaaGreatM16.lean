/- Contracts and laws that the last text joins. -/
import Derived.Test.YtbmdoinjkligiaaGreatM13
import Derived.Test.YtbmdoinjkligiaaGreatM14
import Derived.Test.YtbmdoinjkligiaaGreatM15
set_option maxRecDepth 100000
set_option maxHeartbeats 40000000
set_option linter.all false
namespace Go.Proofs.YtbmdoinjkligiaaGreat
open Tryz
open Lib(hid)
open Go.RowKit
variable{l l':zu}{w':World}{x:Nat}
theorem qe.s{w:World}{T:TypeId}{I:Nat}{ty:TypeId}(h:qe l w x T I ty)(hs:zr l w l' w'):qe l' w' x T I ty:=by have hx:=(Array.getElem?_eq_some_iff.1 h.2).1;exact⟨(hs.old x hx).trans h.1,(hs.mod.block x hx (λe=>e.1 h.1)).trans h.2⟩
theorem Vp(A:yu):VX (·.1) (·.2) A=A:=by unfold VX;exact List.map_id' A
theorem Vq(A:yu)(k v:Bytes):yj A k v=yT (·.1) A (k,v):=by have:=gJ (nm:=λp:Bytes×Bytes=>p.1) (en:=λp=>p.2) A (k,v);rw[Vp,Vp]at this;exact this
theorem uP(A:yu)(k:Bytes):qZ A k=(qU (·.1) A k).map (·.2):=by have:=gK (nm:=λp:Bytes×Bytes=>p.1) (en:=λp=>p.2) A k;rw[Vp]at this;exact this
variable{A:yu}
theorem Kz(h:zE (λp:Bytes×Bytes=>p.1) A)(k v j:Bytes):qZ (yj A k v) j=if j=k then some v else qZ A j:=by
 rw[uP,Vq,XN h];by_cases e:j=k
 ·rw[if_pos e,if_pos e];rfl
 ·rw[if_neg e,if_neg e,uP]
theorem yq.put{on on':Bool}{rev rev':Nat}(h:yq A on rev){k v:Bytes}(hk:k=Qx\/k=xK)(h1:WT (qZ (yj A k v) Qx)=on')(h2:qZ (yj A k v) xK=WV rev'):yq (yj A k v) on' rev' where
 en:=h1
 rv:=h2
 sorted:=by rw[Vq];exact h.sorted.put _
 key p hp:=by
  rw[Vq]at hp;rcases(qB h.sorted).1 hp with rfl|⟨hp,_⟩
  ·exact hk
  ·exact h.key p hp
theorem yq.putRev{on:Bool}{rev:Nat}(h:yq A on rev)(n:Nat)(hn:n≠0):yq (yj A xK (VW n)) on n:=
 h.put (Or.inr rfl) (by rw[Kz h.sorted,if_neg (by decide)];exact h.en) (by rw[Kz h.sorted,if_pos rfl];unfold WV;rw[if_neg hn])
theorem yq.putEn{on:Bool}{rev:Nat}(h:yq A on rev)(b:Bool):yq (yj A Qx (Wl b)) b rev:=
 h.put (Or.inl rfl) (by rw[Kz h.sorted,if_pos rfl];cases b<;>rfl) (by rw[Kz h.sorted,if_neg (by decide)];exact h.rv)
structure Qb(l:zu)(w:World)(a:Nat)(I:zN)(s:zA)(A:yu)(pend pdel:Nat)(ks:zF->List Bytes)(x ab m:Nat)(lg:Value)(ron:Bool):Prop where
 tx:k7 l w I (s.db A) pend pdel ks
 kv:yq A s.on s.rev
 atx:qe l w x 257 I.t 419
 row:kT w a s.rev lg (.iface 149 (ptr ab)) ron m
 abe:qe l w ab 136 I.be 151
 lab:l a=12
 fine:ya s
section
variable{l l':zu}{w w':World}{a:Nat}{I:zN}{s:zA}{A:yu}{pend pdel:Nat}{ks:zF->List Bytes}{x ab m:Nat}{lg:Value}{ron:Bool}
theorem Qb.bnd(h:Qb l w a I s A pend pdel ks x ab m lg ron):∀j,l j≠0->j<w.heap.size:=h.tx.bnd
theorem Yb.mid(h:Yb l w a I s A ab m lg)(hx:qe l w x 257 I.t 419):Qb l w a I s A 0 0 jL x ab m lg s.on:=⟨h.idle,h.kv,hx,h.row,h.abe,h.lab,h.fine⟩
theorem Qb.step{s':zA}{A':yu}{pend' pdel':Nat}{ks':zF->List Bytes}(h:Qb l w a I s A pend pdel ks x ab m lg ron)(hs:zB l w l' w')(ht:k7 l' w' I (s'.db A') pend' pdel' ks')(hkv:yq A' s'.on s'.rev)(hr:s'.rev=s.rev)(hf:ya s'):Qb l' w' a I s' A' pend' pdel' ks' x ab m lg ron:=
 ⟨ht,hkv,h.atx.step hs,by rw[hr];exact h.row.keep (hs.mod.block a h.row.lt λe=>by have:=e.2;have:=h.lab;omega),h.abe.step hs,by rw[hs.old a h.row.lt,h.lab],hf⟩
theorem Qb.new(h:Qb l w a I s A pend pdel ks x ab m lg ron)(hn:za w w'):Qb l w' a I s A pend pdel ks x ab m lg ron:=
 ⟨h.tx.new hn,h.kv,h.atx.new hn,h.row.keep (hn.block a h.row.lt λe=>e),h.abe.new hn,h.lab,h.fine⟩
theorem kT.setRev{rev r2:Nat}{bv:Value}(h:kT w a rev lg bv ron m):kT (w.setCell ⟨a,0,none⟩ (.int .u64 r2)) a r2 lg bv ron m:=heap_setCell_same _ _ _ _ _ _ h
theorem kT.setOn{rev:Nat}{bv:Value}{on2:Bool}(h:kT w a rev lg bv ron m):kT (w.setCell ⟨a,3,none⟩ (.bool on2)) a rev lg bv on2 m:=heap_setCell_same _ _ _ _ _ _ h
theorem QG(hb:∀j,l j≠0->j<w.heap.size)(hla:l a=12)(o:Nat)(v:Value):zr l w l (w.setCell ⟨a,o,none⟩ v)/\qF l w l (w.setCell ⟨a,o,none⟩ v):=by have hm:zo (· =a) w (w.setCell ⟨a,o,none⟩ v):=(zo.refl (· =a) w).setCell (p:=⟨a,o,none⟩) (λ_=>rfl) v;have hs:zr l w l (w.setCell ⟨a,o,none⟩ v):=⟨hm.mono λj _ e=>by rw[e,hla];decide,λ_ _=>rfl,λb e=>Nat.lt_of_lt_of_le (hb b e) hm.size⟩;exact⟨hs,hs.client (hm.mono λj _ e=>by rw[e,hla];decide)⟩
theorem UK(s:zA)(A:yu)(u:zj):(s.db A).put .users (yj ((s.db A).get .users) u.name u.enc)=({s with users:=yT zj.name s.users u}:zA).db A:=by show vu.mk _ _ _=vu.mk _ _ _;rw[show(s.db A).get .users=VX zj.name zj.enc s.users from rfl,gJ];rfl
theorem UL(s:zA)(A:yu)(u:zm):(s.db A).put .roles (yj ((s.db A).get .roles) u.name u.enc)=({s with roles:=yT zm.name s.roles u}:zA).db A:=by show vu.mk _ _ _=vu.mk _ _ _;rw[show(s.db A).get .roles=VX zm.name zm.enc s.roles from rfl,gJ];rfl
theorem uQ(s:zA)(A:yu)(n:Bytes):(s.db A).put .users (js ((s.db A).get .users) n)=({s with users:=ym zj.name s.users n}:zA).db A:=by show vu.mk _ _ _=vu.mk _ _ _;rw[show(s.db A).get .users=VX zj.name zj.enc s.users from rfl,uB];rfl
theorem uR(s:zA)(A:yu)(n:Bytes):(s.db A).put .roles (js ((s.db A).get .roles) n)=({s with roles:=ym zm.name s.roles n}:zA).db A:=by show vu.mk _ _ _=vu.mk _ _ _;rw[show(s.db A).get .roles=VX zm.name zm.enc s.roles from rfl,uB];rfl
end
theorem UM(x:Nat)(W:World):(nilAhead 608 417 (ptr x) "UnsafeSaveAuthRevision").run prog W=.ok (some false) W:=by kernel_rfl
theorem uS(x:Nat)(W:World):(method 608 417 (ptr x) "UnsafeSaveAuthRevision").run prog W=.ok (273,ptr x) W:=by kernel_rfl
def vo(ks:zF->List Bytes):zF->List Bytes:=λc=>ks c++if c=.auth then [xK]else []
def zdc(l:zu)(w:World)(a:Nat)(I:zN)(s:zA)(pend pdel:Nat)(ks:zF->List Bytes)(x ab m:Nat)(lg:Value)(ron:Bool)(w':World):Prop:=
 ∃l' A',zr l w l' w'/\Qb l' w' a I {s with rev:=s.rev+1} A' (pend+1) pdel (vo ks) x ab m lg ron
variable{a ab pdel pend:Nat}{lg:Value}
theorem yE{w:World}{I:zN}{s:zA}{ks:zF->List Bytes}{m:Nat}{ron:Bool}(h:Qb l w a I s A pend pdel ks x ab m lg ron)(hp:pend<=900)(hu:(ks .auth).length<=400)(hf:s.rev+1<200):
  Calls prog 55 #[ptr a,.iface 417 (ptr x)] w λe w'=>e=.returned (.tuple #[])/\zdc l w a I s pend pdel ks x ab m lg ron w':=by
 have r0:w.cell? ⟨a,0,none⟩=some (.int .u64 s.rev):=by rw[cell_of_row w a 0 _ _ (0,0) h.row];rfl
 have z0:w.frozen? ⟨a,0,none⟩=false:=by have hr:w.heap[a]? =some (.cells #[.int .u64 s.rev,lg,.iface 149 (ptr ab),.bool ron,.map (some m)] 146 (0,0)):=h.row;simp[World.frozen?,hr]
 obtain⟨w1,hw1⟩:=zex (w.setCell ⟨a,0,none⟩ (.int .u64 ((s.rev+1:Nat):Int)));obtain⟨hs1,hc1⟩:=QG h.bnd h.lab 0 (.int .u64 ((s.rev+1:Nat):Int));rw[<-hw1]at hs1 hc1;have hrow1:=h.row.setRev (r2:=s.rev+1);rw[<-hw1]at hrow1;have htx1:=h.tx.client hc1;have hatx1:=h.atx.client hc1;have habe1:=h.abe.client hc1;have hd:za w1 w1.drew:=(za.refl w1).drew;have HR:=hid (Vm (w:=w1.drew) (hrow1.keep rfl));have HSV:=hid (Js (w:=w1.drew) (n:=s.rev+1) (htx1.new hd) (h.fine.dbOk h.kv) hp (by omega) (hatx1.new hd) (by omega));have H:=hid h;have HS1:=hid hs1;have HROW:=hid hrow1;have HABE:=hid habe1;have HATX:=hid hatx1;have HW1:=hid (show w1=w.setCell ⟨a,0,none⟩ (.int .u64 ((s.rev:Int)+1))from hw1);have hlt:((s.rev:Int)+1)<18446744073709551616:=by omega
 have n1:=UM x;have m1:=uS x;clear h hw1 hs1 hc1 hrow1 htx1 hatx1 habe1 hd;go_enter func55,ntmps55;go_upto_region 1 with fail
 rw[<-HW1.out];go_region_with (first|(go_at_call 54;refine HR.out.mono ?_;rintro e w9 ⟨rfl,rfl⟩)|(refine HSV.out.mono ?_;rintro e w5 ⟨rfl,hs5⟩;have HS5:=hid hs5;clear hs5))
 all_goals
  go_wp2;go_returns;refine⟨rfl,?_⟩;obtain⟨l5,hst5,ht5⟩:=HS5.out;have hd:za w1 w1.drew:=(za.refl w1).drew;have hst:zB l w1 l5 w5:=⟨zo.trans (za.mod hd _) hst5.mod λ_ _ e=>e,hst5.old,hst5.new,hst5.bnd⟩;refine⟨l5,yj A xK (VW (s.rev+1)),HS1.out.trans hst.s,ht5,H.out.kv.putRev _ (by omega),HATX.out.step hst,HROW.out.keep (hst.mod.block a HROW.out.lt λe=>by have:=e.2;have:=H.out.lab;omega),HABE.out.step hst,by rw[hst.old a HROW.out.lt,H.out.lab],?_⟩;have hf':=H.out.fine;exact⟨hf'.us,hf'.rs,hf'.uok,hf'.rok,hf'.ul,hf'.rl,hf⟩
def zbN(l:zu)(w:World)(a:Nat)(I:zN)(s:zA)(A:yu)(pend pdel:Nat)(ks:zF->List Bytes)(x ab:Nat)(lg:Value)(ron:Bool)(w':World):Prop:=
 ∃l' m',zr l w l' w'/\Qb l' w' a I s A pend pdel ks x ab m' lg ron/\jU l' w' m' s.users s.roles
theorem qY{w:World}{I:zN}{s:zA}{ks:zF->List Bytes}{m:Nat}{ron:Bool}(h:Qb l w a I s A pend pdel ks x ab m lg ron)(hs:yD s):
  Calls prog 56 #[ptr a,.iface 417 (ptr x)] w λe w'=>e=.returned (.tuple #[])/\zbN l w a I s A pend pdel ks x ab lg ron w':=by
 refine(Vi (vS (x:=x) (I:=I) (pend:=pend) (pdel:=pdel) (us:=ks) h.fine h.kv) h.fine.us h.fine.rs h.fine.uok h.fine.rok hs.pv ⟨h.tx,h.atx⟩ h.row h.lab).mono ?_;rintro e w' ⟨rfl,l',m',⟨ht,hx⟩,hst,hrow,hc⟩;exact⟨rfl,l',m',hst,⟨ht,h.kv,hx,hrow,h.abe.s hst,by rw[hst.old a h.row.lt,h.lab],h.fine⟩,hc⟩
theorem QH{w:World}{I I':zN}{s:zA}{ks:zF->List Bytes}{m:Nat}(h:Qb l w a I s A pend pdel ks x ab m lg s.on)(hs:yD s)(hc:jU l w m s.users s.roles)(hst:zB l w l' w')(hI:I.same I')(hi:V8 l' w' I' (s.db A)):Yb l' w' a I' s A ab m lg where
 idle:=hi
 kv:=h.kv
 row:=h.row.keep (hst.mod.block a h.row.lt λe=>by have:=e.2;have:=h.lab;omega)
 abe:=zN.to hI (h.abe.step hst)
 cache:=hc.step h.bnd hst.s
 lab:=by rw[hst.old a h.row.lt,h.lab]
 fine:=h.fine
 sane:=hs
theorem yY(x:Nat)(W:World):(nilAhead 608 417 (ptr x) "UnsafeGetUser").run prog W=.ok (some false) W:=by kernel_rfl
theorem q7(x:Nat)(W:World):(method 608 417 (ptr x) "UnsafeGetUser").run prog W=.ok (267,ptr x) W:=by kernel_rfl
theorem yr(x:Nat)(W:World):(nilAhead 608 417 (ptr x) "UnsafeGetRole").run prog W=.ok (some false) W:=by kernel_rfl
theorem q9(x:Nat)(W:World):(method 608 417 (ptr x) "UnsafeGetRole").run prog W=.ok (266,ptr x) W:=by kernel_rfl
theorem yS(x:Nat)(W:World):(method 608 417 (ptr x) "UnsafePutUser").run prog W=.ok (269,ptr x) W:=by kernel_rfl
theorem jM(x:Nat)(W:World):(method 608 417 (ptr x) "UnsafePutRole").run prog W=.ok (268,ptr x) W:=by kernel_rfl
theorem Zo(x:Nat)(W:World):(nilAhead 608 417 (ptr x) "UnsafeDeleteUser").run prog W=.ok (some false) W:=by kernel_rfl
theorem Zb(x:Nat)(W:World):(method 608 417 (ptr x) "UnsafeDeleteUser").run prog W=.ok (263,ptr x) W:=by kernel_rfl
theorem Zp(x:Nat)(W:World):(nilAhead 608 417 (ptr x) "UnsafeDeleteRole").run prog W=.ok (some false) W:=by kernel_rfl
theorem Zc(x:Nat)(W:World):(method 608 417 (ptr x) "UnsafeDeleteRole").run prog W=.ok (262,ptr x) W:=by kernel_rfl
theorem Zd(x:Nat)(W:World):(nilAhead 608 417 (ptr x) "UnsafeGetAllUsers").run prog W=.ok (some false) W:=by kernel_rfl
theorem xM(x:Nat)(W:World):(method 608 417 (ptr x) "UnsafeGetAllUsers").run prog W=.ok (265,ptr x) W:=by kernel_rfl
theorem jp(x:Nat)(W:World):(method 608 417 (ptr x) "UnsafeSaveAuthEnabled").run prog W=.ok (272,ptr x) W:=by kernel_rfl
theorem jn(x:Nat)(W:World):(method 608 417 (ptr x) "UnsafeReadAuthRevision").run prog W=.ok (271,ptr x) W:=by kernel_rfl
theorem vT(x:Nat)(W:World):(method 608 417 (ptr x) "UnsafeReadAuthEnabled").run prog W=.ok (270,ptr x) W:=by kernel_rfl
theorem xN(x:Nat)(W:World):(method 608 417 (ptr x) "UnsafeGetAllRoles").run prog W=.ok (264,ptr x) W:=by kernel_rfl
def VZ(l:zu)(w:World)(a:Nat)(I:zN)(s':zA)(n:Nat)(e:Ending)(w':World):Prop:=∃r,e=.returned (.tuple #[r,ze n])/\∃l' I',I.same I'/\zr l w l' w'/\Zn l' w' a I' s'
variable{W:World}{nv:Value}{ub:Nat}
theorem zaf{ob:Nat}{n:Bytes}(hb:l ub=0)(hrow:W.heap[ub]? =some (.cells #[nv,.slice none 0 0,.slice none 0 0,ptr ob] 222 (0,0)))(hn:Bs (im l.some W) n nv)(ho:im l.some W ⟨ob,0,none⟩=some (.bool true)):jd (im l.some W) ub ⟨n,[]⟩where
 name:=⟨nv,zi.2 ⟨λe=>e hb,by rw[cell_of_row W ub 0 _ _ (0,0) hrow];rfl⟩,hn⟩
 pass:=⟨_,zi.2 ⟨λe=>e hb,by rw[cell_of_row W ub 1 _ _ (0,0) hrow];rfl⟩,Bs.nil _⟩
 roles:=⟨_,zi.2 ⟨λe=>e hb,by rw[cell_of_row W ub 2 _ _ (0,0) hrow];rfl⟩,Sl.nil _ _⟩
 opts:=⟨ob,zi.2 ⟨λe=>e hb,by rw[cell_of_row W ub 3 _ _ (0,0) hrow];rfl⟩,ho⟩
variable{b:Nat}
theorem zbO{w:World}(h:∀j,l j≠0->j<w.heap.size)(hb:w.heap.size<=b):l b=0:=by
 by_cases e:l b=0
 ·exact e
 ·have:=h b e;omega
variable{v:Value}
theorem zr.im_one{w:World}(h:zr l w l' w'){p:Addr}(hp:im l.some w p=some v):im l'.some w' p=some v:=h.le _ _ hp
def kB(ks:zF->List Bytes)(b:zF)(n:Bytes):zF->List Bytes:=λc=>ks c++if c=b then [n]else []
section
variable{l:zu}{w:World}{a:Nat}{I:zN}{s:zA}{A:yu}{pend pdel:Nat}{ks:zF->List Bytes}{x ab m:Nat}{lg:Value}{ron:Bool}
theorem vU{b:Nat}{u:zj}(h:Qb l w a I s A pend pdel ks x ab m lg ron)(hp:pend<=900)(hu:(ks .users).length<=400)(hat:jd (im l.some w) b u)(hok:jy u)(hf:ya {s with users:=yT zj.name s.users u}):
  Calls prog 269 #[ptr x,ptr b] w λe w'=>e=.returned (.tuple #[])/\∃l',zB l w l' w'/\Qb l' w' a I {s with users:=yT zj.name s.users u} A (pend+1) pdel (kB ks .users u.name) x ab m lg ron:=by
 refine(uF h.tx (h.fine.dbOk h.kv) hp (by omega) h.atx hat hok).mono ?_;rintro e w' ⟨rfl,l',hs,ht⟩;rw[UK]at ht;exact⟨rfl,l',hs,h.step hs ht h.kv rfl hf⟩
theorem xY{b:Nat}{u:zm}(h:Qb l w a I s A pend pdel ks x ab m lg ron)(hp:pend<=900)(hu:(ks .roles).length<=400)(hat:jz (im l.some w) b u)(hok:kD u)(hf:ya {s with roles:=yT zm.name s.roles u}):
  Calls prog 268 #[ptr x,ptr b] w λe w'=>e=.returned (.tuple #[])/\∃l',zB l w l' w'/\Qb l' w' a I {s with roles:=yT zm.name s.roles u} A (pend+1) pdel (kB ks .roles u.name) x ab m lg ron:=by
 refine(uO h.tx (h.fine.dbOk h.kv) hp (by omega) h.atx hat hok).mono ?_;rintro e w' ⟨rfl,l',hs,ht⟩;rw[UL]at ht;exact⟨rfl,l',hs,h.step hs ht h.kv rfl hf⟩
theorem Vr{n:Bytes}(h:Qb l w a I s A pend pdel ks x ab m lg ron)(hp:pend<=900)(hpd:pdel<=900)(hn:n.length<=1000)(hf:ya {s with users:=ym zj.name s.users n}):
  Calls prog 263 #[ptr x,zb n] w λe w'=>e=.returned (.tuple #[])/\∃l',zB l w l' w'/\Qb l' w' a I {s with users:=ym zj.name s.users n} A (pend+1) (pdel+1) ks x ab m lg ron:=by
 refine(Vn h.tx (h.fine.dbOk h.kv) hp hpd h.atx hn).mono ?_;rintro e w' ⟨rfl,hs,ht⟩;rw[uQ]at ht;exact⟨rfl,l,hs,h.step hs ht h.kv rfl hf⟩
theorem Vs{n:Bytes}(h:Qb l w a I s A pend pdel ks x ab m lg ron)(hp:pend<=900)(hpd:pdel<=900)(hn:n.length<=1000)(hf:ya {s with roles:=ym zm.name s.roles n}):
  Calls prog 262 #[ptr x,zb n] w λe w'=>e=.returned (.tuple #[])/\∃l',zB l w l' w'/\Qb l' w' a I {s with roles:=ym zm.name s.roles n} A (pend+1) (pdel+1) ks x ab m lg ron:=by
 refine(Vo h.tx (h.fine.dbOk h.kv) hp hpd h.atx hn).mono ?_;rintro e w' ⟨rfl,hs,ht⟩;rw[uR]at ht;exact⟨rfl,l,hs,h.step hs ht h.kv rfl hf⟩
def JU(l:zu)(w:World)(a:Nat)(I:zN)(s:zA)(w':World):Prop:=∃l' I',I.same I'/\zr l w l' w'/\Zn l' w' a I' s
theorem yJ{u:FrameMode}(h:Qb l w a I s A pend pdel ks x ab m lg s.on)(hs:yD s)(hc:jU l w m s.users s.roles)(hp:pend<1000)(hr:∀b,zM (ks b)):
  CallsD prog 261 #[ptr x] u w λe u' w'=>u'=u/\(e=.returned (.tuple #[])/\JU l w a I s w'):=by
 refine(qv h.tx hp hr h.atx).mono ?_;rintro e u' w' ⟨rfl,rfl,l',I',hst,hI,hi⟩;exact⟨rfl,rfl,l',I',hI,hst.s,_,_,_,_,QH h hs hc hst hI hi⟩
end
theorem xD(x:Bytes):zM [x]:=List.pairwise_singleton _ _
theorem jV{b:zF}(hb:b≠.auth)(n:Bytes):∀c,zM (vo (kB jL b n) c):=λc=>by
 unfold vo kB jL;by_cases h1:c=.auth
 ·subst h1;rw[if_neg λe=>hb e.symm,if_pos rfl];exact xD _
 ·rw[if_neg h1];by_cases h2:c=b
  ·rw[if_pos h2];exact xD _
  ·rw[if_neg h2];exact List.Pairwise.nil
theorem UN:∀c,zM (vo jL c):=λc=>by
 unfold vo jL;by_cases h1:c=.auth
 ·rw[if_pos h1];exact xD _
 ·rw[if_neg h1];exact List.Pairwise.nil
def Zq(s:zA)(n:Bytes):zA×Nat:=if n=[]then (s,4)else match s.user n with|some _=>(s,3)|none=>(s.putUser ⟨n,[]⟩,0)
variable{ec:Nat}{s':zA}
theorem UO{w:World}{rb ob:Nat}{I:zN}{s:zA}{n:Bytes}(h:Zn l w a I s)(hr:Zq s n=(s',ec))(hn:n.length<=1000)(h0:im l.some w ⟨rb,0,none⟩=some (zb n))(h2:im l.some w ⟨rb,2,none⟩=some (ptr ob))(ho:im l.some w ⟨ob,0,none⟩=some (.bool true))
  (hf:ya s')(hs:yD s'):
  Calls prog 171 #[ptr a,ptr rb] w (VZ l w a I s' ec):=by
 obtain⟨A,ab,m,lg,h⟩:=h;have r2:w.cell? ⟨a,2,none⟩=some (.iface 149 (ptr ab)):=by rw[cell_of_row w a 2 _ _ (0,0) h.row];rfl
 have d0:=zd _ _ _ _ h0;have d2:=zd _ _ _ _ h2;have HB:=hid (qP h.idle h.abe);have H:=hid h;have H0:=hid h0;have H2:=hid h2;have HO:=hid ho;have HF:=hid hf;have HS:=hid hs;have HS0:=hid (zr.refl h.bnd);have m1:=qL;have m2:=qA;have m3:=yg;have m4:=yY;have m5:=q7;have m6:=yS;clear h h0 h2 ho hf hs;by_cases c0:n=[]
 ·subst c0;have d0':w.cell? ⟨rb,0,none⟩=some (.string {data:= #[]}):=d0;clear d0;obtain⟨rfl,rfl⟩:s=s'/\4=ec:=by unfold Zq at hr;rw[if_pos rfl]at hr;cases hr;exact⟨rfl,rfl⟩
  clear hr;go_enter_defers func171,ntmps171;go_wp2;exact⟨_,results_tmp2 rfl _ _ _,_,rfl,l,I,zN.same_refl I,HS0.out,_,_,_,_,H.out⟩
 ·have hne: ¬((n.length:Int)=0):=λe=>c0 (List.eq_nil_of_length_eq_zero (by omega));have hsz:((⟨n.toArray⟩:ByteArray).size:Int)=n.length:=by simp[ByteArray.size]
  rw[<-hsz]at hne;obtain⟨o,ho⟩:∃o,s.user n=o:=⟨_,rfl⟩;unfold Zq at hr;rw[if_neg c0,ho]at hr;have HOU:=hid (show qU zj.name s.users n=o from ho);have HRR:=hid hr;clear ho hr;obtain⟨sx,hsx⟩:=zex ((⟨n.toArray⟩:ByteArray));unfold zb at d0;rw[<-hsx]at d0 hne;have HSX:=hid hsx;clear hsx hsz;go_enter_defers func171,ntmps171;go_wp2_with fail;refine HB.out.mono ?_;rintro e w1 ⟨x,rfl,hn1,hx,hax⟩;have h1:=H.out.new hn1;have HL:=hid (jk h1.idle hax);have hd:za w1 w1.drew:=(za.refl w1).drew;have j0:=hn1.le _ _ d0;have HUS:=hid ((vS (x:=x) (I:=I) (pend:=0) (pdel:=0) (us:=jL) h1.fine h1.kv).user l w1.drew n ⟨h1.idle.new hd,hax.new hd⟩ hn);have H1:=hid (h1.new hd);have HN1:=hid hn1.drew;have HM1:=hid (((h1.new hd)).mid (hax.new hd));unfold zb at HUS;rw[<-HSX.out]at HUS;clear h1 hn1 hax hd;go_wp2_with fail;refine HL.out.mono ?_;rintro e w2 ⟨rfl,rfl⟩;go_wp2_with fail;refine wp_region_noPanic ?_
  go_region_with (refine HUS.out.mono ?_;rintro e w2 ⟨r,rfl,⟨hi2,hax2⟩,hm2,hg2⟩;have HALL:=hid (And.intro hi2 (And.intro hax2 (And.intro hm2 hg2)));clear hi2 hax2 hm2 hg2)
  all_goals refine NoPanic.normal ?_
  all_goals
   obtain⟨hi2,hax2,hm2,hg2⟩:=HALL.out;rw[HOU.out]at hg2;have hst2:=zB.own H1.out.bnd hm2;have h2:=H1.out.moved hst2 (zN.same_refl I) hi2;have HS2:=hid ((zr.new H.out.bnd HN1.out).trans hst2.s);have HMID:=hid (h2.mid hax2);have H2':=hid h2;have HG:=hid hg2;have hi:=yh x;clear hi2 hm2 hg2 hst2 h2 hax2;cases o with
   |some u=>
    obtain⟨b,rfl,hbw,hua⟩:=HG.out.at H1.out.bnd;obtain⟨rfl,rfl⟩:s=s'/\3=ec:=by have:=HRR.out;cases this;exact⟨rfl,rfl⟩
    go_wp2;refine leaves_cons (f:=261) (args:= #[ptr x]) (by simp) (hi _) ?_;refine(qv HMID.out.tx (by decide) qI HMID.out.atx).mono ?_;rintro e u' w'' ⟨rfl,rfl,l3,I3,hs3,hI3,hi3⟩;exact⟨_,results_tmp2 rfl _ _ _,_,rfl,l3,I3,hI3,HS2.out.trans hs3.s,_,_,_,_,H2'.out.moved hs3 hI3 hi3⟩
   |none=>
    have hg:=HG.out;cases hg;obtain⟨rfl,rfl⟩:s.putUser ⟨n,[]⟩=s'/\0=ec:=by have:=HRR.out;cases this;exact⟨rfl,rfl⟩
    have e0:=zd _ _ _ _ (HS2.out.im_one H0.out);have e2:=zd _ _ _ _ (HS2.out.im_one H2.out);obtain⟨kv,wc,hrun,hnc,hbc,⟨kn,kc,rfl⟩,hlt⟩:=jQ (P:=prog) w2 9 75 5 (l:=n) (u:=.string) (by kernel_rfl) (by kernel_rfl) (by kernel_rfl) (by omega);unfold zb at e0;rw[<-HSX.out]at e0 hrun;have e0c:=hnc.le _ _ e0;have e2c:=hnc.le _ _ e2;obtain⟨W,hW⟩:=zex (wc.alloc (.cells #[.slice (some ⟨w2.heap.size,0,none⟩) kn kc,.slice none 0 0,.slice none 0 0,ptr ob] 222));have hnW:za w2 W:=by rw[hW];exact hnc.trans ((za.refl wc).alloc _)
    have hcW:za wc W:=by rw[hW];exact(za.refl wc).alloc _
    have hrowW:W.heap[wc.heap.size]? =some (.cells #[.slice (some ⟨w2.heap.size,0,none⟩) kn kc,.slice none 0 0,.slice none 0 0,ptr ob] 222 (0,0)):=by rw[hW];exact zg wc _
    have hat:jd (im l.some W) wc.heap.size ⟨n,[]⟩:=zaf (zbO HMID.out.bnd hnc.size) hrowW ((Bs.im_of (S:=l.some) hbc λj e e2=>by cases e;exact absurd (HMID.out.bnd _ e2) (Nat.lt_irrefl _)).mono (hcW.im _)) ((HS2.out.le.le_trans (hnW.im _)) _ _ HO.out);have hmW:=HMID.out.new hnW;have hff:=HF.out;have hfu:ya {s with users:=yT zj.name s.users ⟨n,[]⟩}:=⟨hff.us,hff.rs,hff.uok,hff.rok,hff.ul,hff.rl,H.out.fine.rev⟩;have huok:jy ⟨n,[]⟩:=hff.uok _ ((qB H.out.fine.us).2 (Or.inl rfl));have HPU:=hid (vU hmW (by decide) (by decide) hat huok hfu);have HSW:=hid (HS2.out.trans (zr.new HMID.out.bnd hnW));have HFR:=hid (show s.rev+1<200 from hff.rev);have HW:=hid hW;clear hnc hbc hlt hnW hcW hrowW hat hmW hff hfu huok hW;go_wp2_with fail;rw[<-HW.out];refine HPU.out.mono ?_;rintro e w4 ⟨rfl,l4,hs4,hm4⟩;have HS4:=hid (HSW.out.trans hs4.s);have HC4:=hid (yE hm4 (by decide) (by simp[kB,jL]) HFR.out)
    clear hs4 hm4;go_wp2_with fail;refine HC4.out.mono ?_;rintro e w5 ⟨rfl,l5,A5,hs5,hm5⟩;have HS5:=hid (HS4.out.trans hs5);have HC5:=hid (qY hm5 HS.out);clear hs5 hm5;go_wp2_with fail;refine HC5.out.mono ?_;rintro e w6 ⟨rfl,l6,m6,hs6,hm6,hc6⟩;have HS6:=hid (HS5.out.trans hs6);have HM6:=hid (And.intro hm6 hc6);clear hs6 hm6 hc6;go_wp2;have hnq:∀o,za w6 (w6.alloc o):=λo=>(za.refl w6).alloc o;refine leaves_cons (f:=261) (args:= #[ptr x]) (by simp) (hi _) ?_;refine(yJ (HM6.out.1.new (hnq _)) HS.out (HM6.out.2.step HM6.out.1.bnd (zr.new HM6.out.1.bnd (hnq _))) (by decide) (jV (by decide) n)).mono ?_;rintro e u' w'' ⟨rfl,rfl,l7,I7,hI7,hs7,hs8⟩;exact⟨_,results_tmp2 rfl _ _ _,_,rfl,l7,I7,hI7,(HS6.out.trans (zr.new HM6.out.1.bnd (hnq _))).trans hs7,hs8⟩
theorem zag{n:Bytes}(hb:l ub=0)(hrow:W.heap[ub]? =some (.cells #[nv,.slice none 0 0] 226 (0,0)))(hn:Bs (im l.some W) n nv):jz (im l.some W) ub ⟨n,[]⟩where
 name:=⟨nv,zi.2 ⟨λe=>e hb,by rw[cell_of_row W ub 0 _ _ (0,0) hrow];rfl⟩,hn⟩
 perms:=⟨_,[],zi.2 ⟨λe=>e hb,by rw[cell_of_row W ub 1 _ _ (0,0) hrow];rfl⟩,Sl.nil _ _,.nil⟩
variable{rs:List zm}
theorem jU.roles{w:World}{m:Nat}{us:List zj}{rs':List zm}(h:jU l w m us rs)(he:∀r,yx rs r=yx rs' r):jU l w m us rs':=by
 have hp:∀ls,permsOf rs ls=permsOf rs' ls:=λls=>by unfold permsOf;rw[show yx rs=yx rs' from funext he]
 obtain⟨h0,es,h1,h2,h3,h4⟩:=h;refine⟨h0,es,h1,h2,λn v e=> ?_,h4⟩;obtain⟨u,a,b,c⟩:=h3 n v e;exact⟨u,a,b,by rw[<-hp];exact c⟩
theorem Xb(hs:zE zm.name rs){n:Bytes}(h:qU zm.name rs n=none)(r:Bytes):yx rs r=yx (yT zm.name rs ⟨n,[]⟩) r:=by
 unfold yx;rw[XN hs];by_cases e:r=n
 ·rw[if_pos e,e,h]
 ·rw[if_neg e]
def vV(s:zA)(n:Bytes):zA×Nat:=if n=[]then (s,8)else match s.role n with|some _=>(s,6)|none=>(s.putRole ⟨n,[]⟩,0)
theorem UP{w:World}{rb:Nat}{I:zN}{s:zA}{n:Bytes}(h:Zn l w a I s)(hr:vV s n=(s',ec))(hn:n.length<=1000)(h0:im l.some w ⟨rb,0,none⟩=some (zb n))
  (hf:ya s')(hs:yD s'):
  Calls prog 165 #[ptr a,ptr rb] w (VZ l w a I s' ec):=by
 obtain⟨A,ab,m,lg,h⟩:=h;have r2:w.cell? ⟨a,2,none⟩=some (.iface 149 (ptr ab)):=by rw[cell_of_row w a 2 _ _ (0,0) h.row];rfl
 have r3:w.cell? ⟨a,3,none⟩=some (.bool s.on):=by rw[cell_of_row w a 3 _ _ (0,0) h.row];rfl
 have d0:=zd _ _ _ _ h0;have HB:=hid (qP h.idle h.abe);have H:=hid h;have H0:=hid h0;have HF:=hid hf;have HS:=hid hs;have HS0:=hid (zr.refl h.bnd);have m1:=qL;have m2:=qA;have m3:=yg;have m4:=yr;have m5:=q9;have m6:=jM;clear h h0 hf hs;by_cases c0:n=[]
 ·subst c0;have d0':w.cell? ⟨rb,0,none⟩=some (.string {data:= #[]}):=d0;clear d0;obtain⟨rfl,rfl⟩:s=s'/\8=ec:=by unfold vV at hr;rw[if_pos rfl]at hr;cases hr;exact⟨rfl,rfl⟩
  clear hr;go_enter_defers func165,ntmps165;go_wp2;exact⟨_,results_tmp2 rfl _ _ _,_,rfl,l,I,zN.same_refl I,HS0.out,_,_,_,_,H.out⟩
 ·have hne: ¬((n.length:Int)=0):=λe=>c0 (List.eq_nil_of_length_eq_zero (by omega));have hsz:((⟨n.toArray⟩:ByteArray).size:Int)=n.length:=by simp[ByteArray.size]
  rw[<-hsz]at hne;obtain⟨o,ho⟩:∃o,s.role n=o:=⟨_,rfl⟩;unfold vV at hr;rw[if_neg c0,ho]at hr;have HOU:=hid (show qU zm.name s.roles n=o from ho);have HRR:=hid hr;clear ho hr hsz;obtain⟨sx,hsx⟩:=zex ((⟨n.toArray⟩:ByteArray));unfold zb at d0;rw[<-hsx]at d0 hne;have HSX:=hid hsx;clear hsx;go_enter_defers func165,ntmps165;go_wp2_with fail;refine HB.out.mono ?_;rintro e w1 ⟨x,rfl,hn1,hx,hax⟩;have h1:=H.out.new hn1;have HL:=hid (jk h1.idle hax);have hd:za w1 w1.drew:=(za.refl w1).drew;have j0:=hn1.le _ _ d0;have HUS:=hid ((vS (x:=x) (I:=I) (pend:=0) (pdel:=0) (us:=jL) h1.fine h1.kv).role l w1.drew n ⟨h1.idle.new hd,hax.new hd⟩ hn);have H1:=hid (h1.new hd);have HN1:=hid hn1.drew;unfold zb at HUS;rw[<-HSX.out]at HUS;clear h1 hn1 hax hd;go_wp2_with fail;refine HL.out.mono ?_;rintro e w2 ⟨rfl,rfl⟩;go_wp2_with fail;refine wp_region_noPanic ?_
  go_region_with (refine HUS.out.mono ?_;rintro e w2 ⟨r,rfl,⟨hi2,hax2⟩,hm2,hg2⟩;have HALL:=hid (And.intro hi2 (And.intro hax2 (And.intro hm2 hg2)));clear hi2 hax2 hm2 hg2)
  all_goals refine NoPanic.normal ?_
  all_goals
   obtain⟨hi2,hax2,hm2,hg2⟩:=HALL.out;rw[HOU.out]at hg2;have hst2:=zB.own H1.out.bnd hm2;have h2:=H1.out.moved hst2 (zN.same_refl I) hi2;have HS2:=hid ((zr.new H.out.bnd HN1.out).trans hst2.s);have HMID:=hid (h2.mid hax2);have H2':=hid h2;have HG:=hid hg2;have hi:=yh x;clear hi2 hm2 hg2 hst2 h2 hax2;cases o with
   |some u=>
    obtain⟨b,rfl,hbw,hua⟩:=HG.out.at H1.out.bnd;obtain⟨rfl,rfl⟩:s=s'/\6=ec:=by have:=HRR.out;cases this;exact⟨rfl,rfl⟩
    go_wp2;refine leaves_cons (f:=261) (args:= #[ptr x]) (by simp) (hi _) ?_;refine(qv HMID.out.tx (by decide) qI HMID.out.atx).mono ?_;rintro e u' w'' ⟨rfl,rfl,l3,I3,hs3,hI3,hi3⟩;exact⟨_,results_tmp2 rfl _ _ _,_,rfl,l3,I3,hI3,HS2.out.trans hs3.s,_,_,_,_,H2'.out.moved hs3 hI3 hi3⟩
   |none=>
    have hg:=HG.out;cases hg;obtain⟨rfl,rfl⟩:s.putRole ⟨n,[]⟩=s'/\0=ec:=by have:=HRR.out;cases this;exact⟨rfl,rfl⟩
    have e0:=zd _ _ _ _ (HS2.out.im_one H0.out);obtain⟨kv,wc,hrun,hnc,hbc,⟨kn,kc,rfl⟩,hlt⟩:=jQ (P:=prog) w2 9 75 5 (l:=n) (u:=.string) (by kernel_rfl) (by kernel_rfl) (by kernel_rfl) (by omega);unfold zb at e0;rw[<-HSX.out]at e0 hrun;have e0c:=hnc.le _ _ e0;obtain⟨W,hW⟩:=zex (wc.alloc (.cells #[.slice (some ⟨w2.heap.size,0,none⟩) kn kc,.slice none 0 0] 226));have hnW:za w2 W:=by rw[hW];exact hnc.trans ((za.refl wc).alloc _)
    have hcW:za wc W:=by rw[hW];exact(za.refl wc).alloc _
    have hrowW:W.heap[wc.heap.size]? =some (.cells #[.slice (some ⟨w2.heap.size,0,none⟩) kn kc,.slice none 0 0] 226 (0,0)):=by rw[hW];exact zg wc _
    have hat:jz (im l.some W) wc.heap.size ⟨n,[]⟩:=zag (zbO HMID.out.bnd hnc.size) hrowW ((Bs.im_of (S:=l.some) hbc λj e e2=>by cases e;exact absurd (HMID.out.bnd _ e2) (Nat.lt_irrefl _)).mono (hcW.im _));have hmW:=HMID.out.new hnW;have hff:=HF.out;have hfu:ya {s with roles:=yT zm.name s.roles ⟨n,[]⟩}:=⟨hff.us,hff.rs,hff.uok,hff.rok,hff.ul,hff.rl,H.out.fine.rev⟩;have huok:kD ⟨n,[]⟩:=hff.rok _ ((qB H.out.fine.rs).2 (Or.inl rfl));have HPU:=hid (xY hmW (by decide) (by decide) hat huok hfu);have HSW:=hid (HS2.out.trans (zr.new HMID.out.bnd hnW));have HFR:=hid (show s.rev+1<200 from hff.rev);have HW:=hid hW;clear hnc hbc hlt hnW hcW hrowW hat hmW hff hfu huok hW;go_wp2_with fail;rw[<-HW.out];refine HPU.out.mono ?_;rintro e w4 ⟨rfl,l4,hs4,hm4⟩;have HS4:=hid (HSW.out.trans hs4.s);have HC4:=hid (yE hm4 (by decide) (by simp[kB,jL]) HFR.out);clear hs4 hm4;go_wp2_with fail;refine HC4.out.mono ?_
    rintro e w5 ⟨rfl,l5,A5,hs5,hm5⟩;have HS5:=hid (HS4.out.trans hs5);have HM5:=hid hm5;have HC5:=hid ((H.out.cache.step H.out.bnd HS5.out).roles (Xb H.out.fine.rs HOU.out));clear hs5 hm5;go_wp2;have hnq:∀o,za w5 (w5.alloc o):=λo=>(za.refl w5).alloc o;refine leaves_cons (f:=261) (args:= #[ptr x]) (by simp) (hi _) ?_;refine(yJ (HM5.out.new (hnq _)) HS.out (HC5.out.step HM5.out.bnd (zr.new HM5.out.bnd (hnq _))) (by decide) (jV (by decide) n)).mono ?_;rintro e u' w'' ⟨rfl,rfl,l7,I7,hI7,hs7,hs8⟩;exact⟨_,results_tmp2 rfl _ _ _,_,rfl,l7,I7,hI7,(HS5.out.trans (zr.new HM5.out.bnd (hnq _))).trans hs7,hs8⟩
end Go.Proofs.YtbmdoinjkligiaaGreat
