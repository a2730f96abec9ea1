/- Contracts and laws that the last text joins. -/
import Derived.Test.YtbmdoinjkligiaaGreatM15
import Derived.Test.YtbmdoinjkligiaaGreatM16
import Derived.Test.YtbmdoinjkligiaaGreatM17
set_option maxRecDepth 100000
set_option maxHeartbeats 40000000
set_option linter.all false
namespace Go.Proofs.YtbmdoinjkligiaaGreat
open Tryz
open Lib(hid)
open Go.RowKit
variable{l l':zu}{w':World}{x:Nat}
theorem qd.s{w:World}{T:TypeId}{I:Nat}{ty:TypeId}(h:qd l w x T I ty)(hs:zr l w l' w'):qd l' w' x T I ty:=by have hx:=(Array.getElem?_eq_some_iff.1 h.2).1;exact⟨(hs.old x hx).trans h.1,(hs.mod.block x hx (λe=>e.1 h.1)).trans h.2⟩
theorem Vk(A:yr):VT (·.1) (·.2) A=A:=by unfold VT;exact List.map_id' A
theorem Vl(A:yr)(k v:Bytes):yh A k v=yO (·.1) A (k,v):=by have:=gE (nm:=λp:Bytes×Bytes=>p.1) (en:=λp=>p.2) A (k,v);rw[Vk,Vk]at this;exact this
theorem uH(A:yr)(k:Bytes):qX A k=(qT (·.1) A k).map (·.2):=by have:=gF (nm:=λp:Bytes×Bytes=>p.1) (en:=λp=>p.2) A k;rw[Vk]at this;exact this
variable{A:yr}
theorem Ku(h:zE (λp:Bytes×Bytes=>p.1) A)(k v j:Bytes):qX (yh A k v) j=if j=k then some v else qX A j:=by
 rw[uH,Vl,XJ h];by_cases e:j=k
 ·rw[if_pos e,if_pos e];rfl
 ·rw[if_neg e,if_neg e,uH]
theorem ym.put{on on':Bool}{rev rev':Nat}(h:ym A on rev){k v:Bytes}(hk:k=Qq\/k=xH)(h1:Wx (qX (yh A k v) Qq)=on')(h2:qX (yh A k v) xH=Wz rev'):ym (yh A k v) on' rev' where
 en:=h1
 rv:=h2
 sorted:=by rw[Vl];exact h.sorted.put _
 key p hp:=by
  rw[Vl]at hp;rcases(qx h.sorted).1 hp with rfl|⟨hp,_⟩
  ·exact hk
  ·exact h.key p hp
theorem ym.putRev{on:Bool}{rev:Nat}(h:ym A on rev)(n:Nat)(hn:n≠0):ym (yh A xH (VS n)) on n:=
 h.put (Or.inr rfl) (by rw[Ku h.sorted,if_neg (by decide)];exact h.en) (by rw[Ku h.sorted,if_pos rfl];unfold Wz;rw[if_neg hn])
theorem ym.putEn{on:Bool}{rev:Nat}(h:ym A on rev)(b:Bool):ym (yh A Qq (DY b)) b rev:=
 h.put (Or.inl rfl) (by rw[Ku h.sorted,if_pos rfl];cases b<;>rfl) (by rw[Ku h.sorted,if_neg (by decide)];exact h.rv)
structure Z5(l:zu)(w:World)(a:Nat)(I:zN)(s:zA)(A:yr)(pend pdel:Nat)(ks:zF->List Bytes)(x ab m:Nat)(lg:Value)(ron:Bool):Prop where
 tx:kZ l w I (s.db A) pend pdel ks
 kv:ym A s.on s.rev
 atx:qd l w x 257 I.t 419
 row:kR w a s.rev lg (.iface 149 (ptr ab)) ron m
 abe:qd l w ab 136 I.be 151
 lab:l a=12
 fine:q9 s
section
variable{l l':zu}{w w':World}{a:Nat}{I:zN}{s:zA}{A:yr}{pend pdel:Nat}{ks:zF->List Bytes}{x ab m:Nat}{lg:Value}{ron:Bool}
theorem Z5.bnd(h:Z5 l w a I s A pend pdel ks x ab m lg ron):∀j,l j≠0->j<w.heap.size:=h.tx.bnd
theorem Q8.mid(h:Q8 l w a I s A ab m lg)(hx:qd l w x 257 I.t 419):Z5 l w a I s A 0 0 jJ x ab m lg s.on:=⟨h.idle,h.kv,hx,h.row,h.abe,h.lab,h.fine⟩
theorem Z5.step{s':zA}{A':yr}{pend' pdel':Nat}{ks':zF->List Bytes}(h:Z5 l w a I s A pend pdel ks x ab m lg ron)(hs:zB l w l' w')(ht:kZ l' w' I (s'.db A') pend' pdel' ks')(Sh:ym A' s'.on s'.rev)(hr:s'.rev=s.rev)(hf:q9 s'):Z5 l' w' a I s' A' pend' pdel' ks' x ab m lg ron:=
 ⟨ht,Sh,h.atx.step hs,by rw[hr];exact h.row.keep (hs.mod.block a h.row.lt λe=>by have:=e.2;have:=h.lab;omega),h.abe.step hs,by rw[hs.old a h.row.lt,h.lab],hf⟩
theorem Z5.new(h:Z5 l w a I s A pend pdel ks x ab m lg ron)(hn:za w w'):Z5 l w' a I s A pend pdel ks x ab m lg ron:=
 ⟨h.tx.new hn,h.kv,h.atx.new hn,h.row.keep (hn.block a h.row.lt λe=>e),h.abe.new hn,h.lab,h.fine⟩
theorem kR.setRev{rev r2:Nat}{bv:Value}(h:kR w a rev lg bv ron m):kR (w.setCell ⟨a,0,none⟩ (.int .u64 r2)) a r2 lg bv ron m:=heap_setCell_same _ _ _ _ _ _ h
theorem kR.setOn{rev:Nat}{bv:Value}{on2:Bool}(h:kR w a rev lg bv ron m):kR (w.setCell ⟨a,3,none⟩ (.bool on2)) a rev lg bv on2 m:=heap_setCell_same _ _ _ _ _ _ h
theorem Qz(hb:∀j,l j≠0->j<w.heap.size)(m_:l a=12)(o:Nat)(v:Value):zr l w l (w.setCell ⟨a,o,none⟩ v)/\qD l w l (w.setCell ⟨a,o,none⟩ v):=by have hm:zq (· =a) w (w.setCell ⟨a,o,none⟩ v):=(zq.refl (· =a) w).setCell (p:=⟨a,o,none⟩) (λ_=>rfl) v;have hs:zr l w l (w.setCell ⟨a,o,none⟩ v):=⟨hm.mono λj _ e=>by rw[e,m_];decide,λ_ _=>rfl,λb e=>Nat.lt_of_lt_of_le (hb b e) hm.size⟩;exact⟨hs,hs.client (hm.mono λj _ e=>by rw[e,m_];decide)⟩
theorem Uy(s:zA)(A:yr)(u:zj):(s.db A).put .users (yh ((s.db A).get .users) u.name u.enc)=({s with users:=yO zj.name s.users u}:zA).db A:=by show vr.mk _ _ _=vr.mk _ _ _;rw[show(s.db A).get .users=VT zj.name zj.enc s.users from rfl,gE];rfl
theorem Uz(s:zA)(A:yr)(u:zm):(s.db A).put .roles (yh ((s.db A).get .roles) u.name u.enc)=({s with roles:=yO zm.name s.roles u}:zA).db A:=by show vr.mk _ _ _=vr.mk _ _ _;rw[show(s.db A).get .roles=VT zm.name zm.enc s.roles from rfl,gE];rfl
theorem uI(s:zA)(A:yr)(n:Bytes):(s.db A).put .users (jp ((s.db A).get .users) n)=({s with users:=yj zj.name s.users n}:zA).db A:=by show vr.mk _ _ _=vr.mk _ _ _;rw[show(s.db A).get .users=VT zj.name zj.enc s.users from rfl,uq];rfl
theorem uJ(s:zA)(A:yr)(n:Bytes):(s.db A).put .roles (jp ((s.db A).get .roles) n)=({s with roles:=yj zm.name s.roles n}:zA).db A:=by show vr.mk _ _ _=vr.mk _ _ _;rw[show(s.db A).get .roles=VT zm.name zm.enc s.roles from rfl,uq];rfl
end
theorem UA(x:Nat)(W:World):(nilAhead 608 417 (ptr x) "UnsafeSaveAuthRevision").run prog W=.ok (some false) W:=by kernel_rfl
theorem uK(x:Nat)(W:World):(method 608 417 (ptr x) "UnsafeSaveAuthRevision").run prog W=.ok (273,ptr x) W:=by kernel_rfl
def vl(ks:zF->List Bytes):zF->List Bytes:=λc=>ks c++if c=.auth then [xH]else []
def zcH(l:zu)(w:World)(a:Nat)(I:zN)(s:zA)(pend pdel:Nat)(ks:zF->List Bytes)(x ab m:Nat)(lg:Value)(ron:Bool)(w':World):Prop:=
 ∃l' A',zr l w l' w'/\Z5 l' w' a I {s with rev:=s.rev+1} A' (pend+1) pdel (vl ks) x ab m lg ron
variable{a ab pdel pend:Nat}{lg:Value}
theorem yB{w:World}{I:zN}{s:zA}{ks:zF->List Bytes}{m:Nat}{ron:Bool}(h:Z5 l w a I s A pend pdel ks x ab m lg ron)(hp:pend<=900)(hu:(ks .auth).length<=400)(hf:s.rev+1<200):
  Calls prog 55 #[ptr a,.iface 417 (ptr x)] w λe w'=>e=.returned (.tuple #[])/\zcH l w a I s pend pdel ks x ab m lg ron w':=by
 have r0:w.cell? ⟨a,0,none⟩=some (.int .u64 s.rev):=by rw[cell_of_row w a 0 _ _ (0,0) h.row];rfl
 have z0:w.frozen? ⟨a,0,none⟩=false:=by have hr:w.heap[a]? =some (.cells #[.int .u64 s.rev,lg,.iface 149 (ptr ab),.bool ron,.map (some m)] 146 (0,0)):=h.row;simp[World.frozen?,hr]
 obtain⟨w1,Hh⟩:=zex (w.setCell ⟨a,0,none⟩ (.int .u64 ((s.rev+1:Nat):Int)));obtain⟨pI,r8⟩:=Qz h.bnd h.lab 0 (.int .u64 ((s.rev+1:Nat):Int));rw[<-Hh]at pI r8;have Ps:=h.row.setRev (r2:=s.rev+1);rw[<-Hh]at Ps;have mE:=h.tx.client r8;have lZ:=h.atx.client r8;have Ct:=h.abe.client r8;have hd:za w1 w1.drew:=(za.refl w1).drew;have HR:=hid (Vh (w:=w1.drew) (Ps.keep rfl));have Bi:=hid (Jo (w:=w1.drew) (n:=s.rev+1) (mE.new hd) (h.fine.dbOk h.kv) hp (by omega) (lZ.new hd) (by omega));have H:=hid h;have RV:=hid pI;have P7:=hid Ps;have Ou:=hid Ct;have Ow:=hid lZ;have Pr:=hid (show w1=w.setCell ⟨a,0,none⟩ (.int .u64 ((s.rev:Int)+1))from Hh);have Hb:((s.rev:Int)+1)<18446744073709551616:=by omega
 have n1:=UA x;have m1:=uK x;clear h Hh pI r8 Ps mE lZ Ct hd;go_enter func55,ntmps55;go_upto_region 1 with fail
 rw[<-Pr.out];go_region_with (first|(go_at_call 54;refine HR.out.mono ?_;rintro e w9 ⟨rfl,rfl⟩)|(refine Bi.out.mono ?_;rintro e w5 ⟨rfl,pC⟩;have P8:=hid pC;clear pC))
 all_goals
  go_wp2;go_returns;refine⟨rfl,?_⟩;obtain⟨l5,rA,iy⟩:=P8.out;have hd:za w1 w1.drew:=(za.refl w1).drew;have Hi:zB l w1 l5 w5:=⟨zq.trans (za.mod hd _) rA.mod λ_ _ e=>e,rA.old,rA.new,rA.bnd⟩;refine⟨l5,yh A xH (VS (s.rev+1)),RV.out.trans Hi.s,iy,H.out.kv.putRev _ (by omega),Ow.out.step Hi,P7.out.keep (Hi.mod.block a P7.out.lt λe=>by have:=e.2;have:=H.out.lab;omega),Ou.out.step Hi,by rw[Hi.old a P7.out.lt,H.out.lab],?_⟩;have al:=H.out.fine;exact⟨al.us,al.rs,al.uok,al.rok,al.ul,al.rl,hf⟩
def zbl(l:zu)(w:World)(a:Nat)(I:zN)(s:zA)(A:yr)(pend pdel:Nat)(ks:zF->List Bytes)(x ab:Nat)(lg:Value)(ron:Bool)(w':World):Prop:=
 ∃l' m',zr l w l' w'/\Z5 l' w' a I s A pend pdel ks x ab m' lg ron/\jS l' w' m' s.users s.roles
theorem qW{w:World}{I:zN}{s:zA}{ks:zF->List Bytes}{m:Nat}{ron:Bool}(h:Z5 l w a I s A pend pdel ks x ab m lg ron)(hs:yA s):
  Calls prog 56 #[ptr a,.iface 417 (ptr x)] w λe w'=>e=.returned (.tuple #[])/\zbl l w a I s A pend pdel ks x ab lg ron w':=by
 refine(Vd (vQ (x:=x) (I:=I) (pend:=pend) (pdel:=pdel) (us:=ks) h.fine h.kv) h.fine.us h.fine.rs h.fine.uok h.fine.rok hs.pv ⟨h.tx,h.atx⟩ h.row h.lab).mono ?_;rintro e w' ⟨rfl,l',m',⟨ht,hx⟩,Hi,hZ,hc⟩;exact⟨rfl,l',m',Hi,⟨ht,h.kv,hx,hZ,h.abe.s Hi,by rw[Hi.old a h.row.lt,h.lab],h.fine⟩,hc⟩
theorem QA{w:World}{I I':zN}{s:zA}{ks:zF->List Bytes}{m:Nat}(h:Z5 l w a I s A pend pdel ks x ab m lg s.on)(hs:yA s)(hc:jS l w m s.users s.roles)(Hi:zB l w l' w')(hI:I.same I')(hi:V4 l' w' I' (s.db A)):Q8 l' w' a I' s A ab m lg where
 idle:=hi
 kv:=h.kv
 row:=h.row.keep (Hi.mod.block a h.row.lt λe=>by have:=e.2;have:=h.lab;omega)
 abe:=zN.to hI (h.abe.step Hi)
 cache:=hc.step h.bnd Hi.s
 lab:=by rw[Hi.old a h.row.lt,h.lab]
 fine:=h.fine
 sane:=hs
theorem yU(x:Nat)(W:World):(nilAhead 608 417 (ptr x) "UnsafeGetUser").run prog W=.ok (some false) W:=by kernel_rfl
theorem qY(x:Nat)(W:World):(method 608 417 (ptr x) "UnsafeGetUser").run prog W=.ok (267,ptr x) W:=by kernel_rfl
theorem yo(x:Nat)(W:World):(nilAhead 608 417 (ptr x) "UnsafeGetRole").run prog W=.ok (some false) W:=by kernel_rfl
theorem qZ(x:Nat)(W:World):(method 608 417 (ptr x) "UnsafeGetRole").run prog W=.ok (266,ptr x) W:=by kernel_rfl
theorem yN(x:Nat)(W:World):(method 608 417 (ptr x) "UnsafePutUser").run prog W=.ok (269,ptr x) W:=by kernel_rfl
theorem jK(x:Nat)(W:World):(method 608 417 (ptr x) "UnsafePutRole").run prog W=.ok (268,ptr x) W:=by kernel_rfl
theorem Zl(x:Nat)(W:World):(nilAhead 608 417 (ptr x) "UnsafeDeleteUser").run prog W=.ok (some false) W:=by kernel_rfl
theorem x9(x:Nat)(W:World):(method 608 417 (ptr x) "UnsafeDeleteUser").run prog W=.ok (263,ptr x) W:=by kernel_rfl
theorem Zm(x:Nat)(W:World):(nilAhead 608 417 (ptr x) "UnsafeDeleteRole").run prog W=.ok (some false) W:=by kernel_rfl
theorem x_(x:Nat)(W:World):(method 608 417 (ptr x) "UnsafeDeleteRole").run prog W=.ok (262,ptr x) W:=by kernel_rfl
theorem Za(x:Nat)(W:World):(nilAhead 608 417 (ptr x) "UnsafeGetAllUsers").run prog W=.ok (some false) W:=by kernel_rfl
theorem xJ(x:Nat)(W:World):(method 608 417 (ptr x) "UnsafeGetAllUsers").run prog W=.ok (265,ptr x) W:=by kernel_rfl
theorem jm(x:Nat)(W:World):(method 608 417 (ptr x) "UnsafeSaveAuthEnabled").run prog W=.ok (272,ptr x) W:=by kernel_rfl
theorem jj(x:Nat)(W:World):(method 608 417 (ptr x) "UnsafeReadAuthRevision").run prog W=.ok (271,ptr x) W:=by kernel_rfl
theorem vR(x:Nat)(W:World):(method 608 417 (ptr x) "UnsafeReadAuthEnabled").run prog W=.ok (270,ptr x) W:=by kernel_rfl
theorem xK(x:Nat)(W:World):(method 608 417 (ptr x) "UnsafeGetAllRoles").run prog W=.ok (264,ptr x) W:=by kernel_rfl
def VV(l:zu)(w:World)(a:Nat)(I:zN)(s':zA)(n:Nat)(e:Ending)(w':World):Prop:=∃r,e=.returned (.tuple #[r,ze n])/\∃l' I',I.same I'/\zr l w l' w'/\Zk l' w' a I' s'
variable{W:World}{nv:Value}{ub:Nat}
theorem WL{ob:Nat}{n:Bytes}(hb:l ub=0)(hZ:W.heap[ub]? =some (.cells #[nv,.slice none 0 0,.slice none 0 0,ptr ob] 222 (0,0)))(hn:Bs (im l.some W) n nv)(ho:im l.some W ⟨ob,0,none⟩=some (.bool true)):y9 (im l.some W) ub ⟨n,[]⟩where
 name:=⟨nv,zi.2 ⟨λe=>e hb,by rw[cell_of_row W ub 0 _ _ (0,0) hZ];rfl⟩,hn⟩
 pass:=⟨_,zi.2 ⟨λe=>e hb,by rw[cell_of_row W ub 1 _ _ (0,0) hZ];rfl⟩,Bs.nil _⟩
 roles:=⟨_,zi.2 ⟨λe=>e hb,by rw[cell_of_row W ub 2 _ _ (0,0) hZ];rfl⟩,Sl.nil _ _⟩
 opts:=⟨ob,zi.2 ⟨λe=>e hb,by rw[cell_of_row W ub 3 _ _ (0,0) hZ];rfl⟩,ho⟩
variable{b:Nat}
theorem zbm{w:World}(h:∀j,l j≠0->j<w.heap.size)(hb:w.heap.size<=b):l b=0:=by
 by_cases e:l b=0
 ·exact e
 ·have:=h b e;omega
variable{v:Value}
theorem zr.im_one{w:World}(h:zr l w l' w'){p:Addr}(hp:im l.some w p=some v):im l'.some w' p=some v:=h.le _ _ hp
def ku(ks:zF->List Bytes)(b:zF)(n:Bytes):zF->List Bytes:=λc=>ks c++if c=b then [n]else []
section
variable{l:zu}{w:World}{a:Nat}{I:zN}{s:zA}{A:yr}{pend pdel:Nat}{ks:zF->List Bytes}{x ab m:Nat}{lg:Value}{ron:Bool}
theorem vS{b:Nat}{u:zj}(h:Z5 l w a I s A pend pdel ks x ab m lg ron)(hp:pend<=900)(hu:(ks .users).length<=400)(pO:y9 (im l.some w) b u)(pV:jv u)(hf:q9 {s with users:=yO zj.name s.users u}):
  Calls prog 269 #[ptr x,ptr b] w λe w'=>e=.returned (.tuple #[])/\∃l',zB l w l' w'/\Z5 l' w' a I {s with users:=yO zj.name s.users u} A (pend+1) pdel (ku ks .users u.name) x ab m lg ron:=by
 refine(uy h.tx (h.fine.dbOk h.kv) hp (by omega) h.atx pO pV).mono ?_;rintro e w' ⟨rfl,l',hs,ht⟩;rw[Uy]at ht;exact⟨rfl,l',hs,h.step hs ht h.kv rfl hf⟩
theorem xV{b:Nat}{u:zm}(h:Z5 l w a I s A pend pdel ks x ab m lg ron)(hp:pend<=900)(hu:(ks .roles).length<=400)(pO:jw (im l.some w) b u)(pV:kB u)(hf:q9 {s with roles:=yO zm.name s.roles u}):
  Calls prog 268 #[ptr x,ptr b] w λe w'=>e=.returned (.tuple #[])/\∃l',zB l w l' w'/\Z5 l' w' a I {s with roles:=yO zm.name s.roles u} A (pend+1) pdel (ku ks .roles u.name) x ab m lg ron:=by
 refine(uG h.tx (h.fine.dbOk h.kv) hp (by omega) h.atx pO pV).mono ?_;rintro e w' ⟨rfl,l',hs,ht⟩;rw[Uz]at ht;exact⟨rfl,l',hs,h.step hs ht h.kv rfl hf⟩
theorem Vm{n:Bytes}(h:Z5 l w a I s A pend pdel ks x ab m lg ron)(hp:pend<=900)(Mf:pdel<=900)(hn:n.length<=1000)(hf:q9 {s with users:=yj zj.name s.users n}):
  Calls prog 263 #[ptr x,zb n] w λe w'=>e=.returned (.tuple #[])/\∃l',zB l w l' w'/\Z5 l' w' a I {s with users:=yj zj.name s.users n} A (pend+1) (pdel+1) ks x ab m lg ron:=by
 refine(Vi h.tx (h.fine.dbOk h.kv) hp Mf h.atx hn).mono ?_;rintro e w' ⟨rfl,hs,ht⟩;rw[uI]at ht;exact⟨rfl,l,hs,h.step hs ht h.kv rfl hf⟩
theorem Vn{n:Bytes}(h:Z5 l w a I s A pend pdel ks x ab m lg ron)(hp:pend<=900)(Mf:pdel<=900)(hn:n.length<=1000)(hf:q9 {s with roles:=yj zm.name s.roles n}):
  Calls prog 262 #[ptr x,zb n] w λe w'=>e=.returned (.tuple #[])/\∃l',zB l w l' w'/\Z5 l' w' a I {s with roles:=yj zm.name s.roles n} A (pend+1) (pdel+1) ks x ab m lg ron:=by
 refine(Vj h.tx (h.fine.dbOk h.kv) hp Mf h.atx hn).mono ?_;rintro e w' ⟨rfl,hs,ht⟩;rw[uJ]at ht;exact⟨rfl,l,hs,h.step hs ht h.kv rfl hf⟩
def JP(l:zu)(w:World)(a:Nat)(I:zN)(s:zA)(w':World):Prop:=∃l' I',I.same I'/\zr l w l' w'/\Zk l' w' a I' s
theorem yG{u:FrameMode}(h:Z5 l w a I s A pend pdel ks x ab m lg s.on)(hs:yA s)(hc:jS l w m s.users s.roles)(hp:pend<1000)(hr:∀b,zM (ks b)):
  CallsD prog 261 #[ptr x] u w λe u' w'=>u'=u/\(e=.returned (.tuple #[])/\JP l w a I s w'):=by
 refine(qr h.tx hp hr h.atx).mono ?_;rintro e u' w' ⟨rfl,rfl,l',I',Hi,hI,hi⟩;exact⟨rfl,rfl,l',I',hI,Hi.s,_,_,_,_,QA h hs hc Hi hI hi⟩
end
theorem xB(x:Bytes):zM [x]:=List.pairwise_singleton _ _
theorem jT{b:zF}(hb:b≠.auth)(n:Bytes):∀c,zM (vl (ku jJ b n) c):=λc=>by
 unfold vl ku jJ;by_cases h1:c=.auth
 ·subst h1;rw[if_neg λe=>hb e.symm,if_pos rfl];exact xB _
 ·rw[if_neg h1];by_cases h2:c=b
  ·rw[if_pos h2];exact xB _
  ·rw[if_neg h2];exact List.Pairwise.nil
theorem UC:∀c,zM (vl jJ c):=λc=>by
 unfold vl jJ;by_cases h1:c=.auth
 ·rw[if_pos h1];exact xB _
 ·rw[if_neg h1];exact List.Pairwise.nil
end Go.Proofs.YtbmdoinjkligiaaGreat
