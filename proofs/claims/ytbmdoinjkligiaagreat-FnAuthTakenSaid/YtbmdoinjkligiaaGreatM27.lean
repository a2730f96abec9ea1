/- Contracts and laws that the last text joins. -/
import Derived.IntWalk
import Derived.Test.YtbmdoinjkligiaaGreatM23
import Derived.Test.YtbmdoinjkligiaaGreatM25
import Derived.Test.YtbmdoinjkligiaaGreatM26
set_option maxRecDepth 100000
set_option maxHeartbeats 40000000
set_option linter.all false
namespace Go.Proofs.YtbmdoinjkligiaaGreat
open Tryz
open Lib(hid)
def zj.without(rn:Bytes)(u:zj):zj:=⟨u.name,yl u.roles rn⟩
def Zr(s:zA)(n:Bytes):zA×Nat:=
 if s.on=true/\n=zL then (s,15)
 else match s.role n with
  |none=>(s,7)
  |some _=>({s with roles:=yj zm.name s.roles n,users:=s.users.map (zj.without n),rev:=s.rev+1},0)
variable{o:zH}
theorem Ds{s:zA}(hk:o.kind=10):s.change o=Zr s o.role:=by unfold zA.change Zr;simp only[hk];rfl
def jx(s:zA)(n:Bytes)(k:Nat):zA:={s with roles:=yj zm.name s.roles n,users:=zP (zj.without n) s.users k}
theorem uW(s:zA)(n:Bytes):jx s n 0={s with roles:=yj zm.name s.roles n}:=by unfold jx;rw[Dp]
variable{u:zj}
theorem Vy(h:jv u)(n:Bytes):jv (u.without n)where
 name0:=h.name0
 name:=h.name
 roles0 r hr:=h.roles0 r ((List.mem_filter.1 hr).1)
 roles:=Nat.le_trans (Vo u.roles n) h.roles
variable{k:Nat}
theorem zac{f:zj->zj}{us:List zj}(h:u∈zP f us k):∃v∈us,u=f v\/u=v:=by
 rcases List.mem_append.1 h with h|h
 ·obtain⟨v,hv,rfl⟩:=List.mem_map.1 h;exact⟨v,List.mem_of_mem_take hv,Or.inl rfl⟩
 ·exact⟨u,List.mem_of_mem_drop h,Or.inr rfl⟩
theorem vK{s:zA}(h:q9 s)(n:Bytes):q9 {s with roles:=yj zm.name s.roles n}where
 us:=h.us
 rs:=h.rs.drop n
 uok:=h.uok
 rok r hr:=h.rok r ((je h.rs).1 hr).1
 ul:=h.ul
 rl:=Nat.le_trans (Jp _ _) h.rl
 rev:=h.rev
theorem Dt{s:zA}(h:q9 s)(n:Bytes)(hk:k<=s.users.length):q9 (jx s n k)where
 us:=by show zE zj.name _;have e:(jx s n k).users.map zj.name=s.users.map zj.name:=Vx (zj.without n) (λ_=>rfl) s.users k;unfold zE;rw[e];exact h.us
 rs:=(vK h n).rs
 uok u hu:=by
  obtain⟨v,hv,e|e⟩:=zac hu
  ·rw[e];exact Vy (h.uok v hv) n
  ·rw[e];exact h.uok v hv
 rok:=(vK h n).rok
 ul:=by show(zP _ _ k).length<=300;rw[Vw _ _ _ hk];exact h.ul
 rl:=(vK h n).rl
 rev:=h.rev
def gV(us:List zj)(n:Bytes)(k:Nat):zF->List Bytes:=λc=>if c=.users then ((us.take k).filter λu=>decide (n∈u.roles)).map (·.name)else []
theorem zad(us:List zj)(n:Bytes):gV us n 0=jJ:=by
 funext c
 unfold gV jJ;split<;>simp
theorem zbq{us:List zj}{n:Bytes}(hk:k<us.length)(h:n∈us[k].roles):ku (gV us n k) .users us[k].name=gV us n (k+1):=by
 funext c
 unfold ku gV;rw[List.take_succ_eq_append_getElem hk,List.filter_append,List.map_append];by_cases e:c=.users
 ·rw[if_pos e,if_pos e,if_pos e];simp[h]
 ·rw[if_neg e,if_neg e,if_neg e];rfl
theorem zae{us:List zj}{n:Bytes}(hk:k<us.length)(h:n∉us[k].roles):gV us n (k+1)=gV us n k:=by
 funext c
 unfold gV;rw[List.take_succ_eq_append_getElem hk,List.filter_append,List.map_append];by_cases e:c=.users
 ·rw[if_pos e,if_pos e];simp[h]
 ·rw[if_neg e,if_neg e]
theorem zbr(us:List zj)(n:Bytes)(k:Nat)(c:zF):(gV us n k c).length<=k:=by
 unfold gV;split
 ·rw[List.length_map];refine Nat.le_trans (List.length_filter_le ..) ?_;rw[List.length_take];exact Nat.min_le_left ..
 ·simp
theorem zaf{us:List zj}(h:zE zj.name us)(n:Bytes)(k:Nat):∀c,zM (vl (gV us n k) c):=λc=>by
 unfold vl gV;by_cases h1:c=.auth
 ·subst h1;rw[if_neg (by decide),if_pos rfl];exact xB _
 ·rw[if_neg h1];by_cases h2:c=.users
  ·rw[if_pos h2];have h3:(((us.take k).filter λu=>decide (n∈u.roles)).map (·.name)).Sublist (us.map zj.name):=(List.filter_sublist.trans (List.take_sublist k us)).map _;have h4:zM (((us.take k).filter λu=>decide (n∈u.roles)).map (·.name)):=List.Pairwise.sublist h3 h;simpa using h4
  ·rw[if_neg h2];exact List.Pairwise.nil
theorem zag(us:List zj)(n:Bytes)(k:Nat):(gV us n k .auth).length<=400:=by unfold gV;rw[if_neg (by decide)];simp
theorem UK{s:zA}(h:zE zj.name s.users){n:Bytes}(hk:k<s.users.length):{jx s n k with users:=yO zj.name (jx s n k).users (s.users[k].without n)}=jx s n (k+1):=by unfold jx;rw[zab (f:=zj.without n) (λ_=>rfl) h hk]
theorem uX{s:zA}{n:Bytes}(hk:k<s.users.length)(h:n∉s.users[k].roles):jx s n (k+1)=jx s n k:=by
 unfold jx;rw[Dq hk];unfold zj.without;have:yl s.users[k].roles n=s.users[k].roles:=by unfold yl;rw[List.filter_eq_self];intro a ha;have:a≠n:=λe=>h (by rw[<-e];exact ha);simp[this]
 rw[this]
theorem UL(s:zA)(n:Bytes):jx s n s.users.length={s with roles:=yj zm.name s.roles n,users:=s.users.map (zj.without n)}:=by unfold jx;rw[zaa]
def xC(s:zA)(n rn:Bytes):zA×Nat:=
 match s.user n with
 |none=>(s,5)
 |some u=>
  if rn≠zL/\s.role rn=none then (s,7)
  else if rn∈u.roles then (s,0)
  else (s.putUser ⟨u.name,vW u.roles rn⟩,0)
def vF(s:zA)(n:Bytes)(p:Option zh):zA×Nat:=
 match p with
 |none=>(s,9)
 |some p=>
  if zU p.key p.stop=false then (s,15)
  else match s.role n with
   |none=>(s,7)
   |some r=>(s.putRole ⟨r.name,y_ r.perms p⟩,0)
def QC(s:zA)(n k e:Bytes):zA×Nat:=
 match s.role n with
 |none=>(s,7)
 |some r=>if (jf r.perms k e).length=r.perms.length then (s,12)else (s.putRole ⟨r.name,jf r.perms k e⟩,0)
theorem zah{s:zA}(hk:o.kind=5):s.change o=xC s o.user o.role:=by unfold zA.change xC;simp only[hk];rfl
theorem Du{s:zA}(hk:o.kind=11):s.change o=vF s o.role (if o.noPerm then none else some ⟨o.pk.toNat,o.key,o.stop⟩):=by unfold zA.change vF;simp only[hk];cases o.noPerm<;>rfl
theorem Dv{s:zA}(hk:o.kind=12):s.change o=QC s o.role o.key o.stop:=by unfold zA.change QC;simp only[hk];rfl
theorem zbs(c:Prop)[Decidable c](x y:zA×Nat)(hx:x.2<=15)(hy:y.2<=15):(if c then x else y).2<=15:=by split<;>assumption
theorem zbt(c:Prop)[Decidable c](x y:Nat)(hx:x<=15)(hy:y<=15):(if c then x else y)<=15:=by split<;>assumption
theorem XU(s:zA)(o:zH):(s.change o).2<=15:=by
 unfold zA.change
 repeat' (first|exact Nat.le_of_ble_eq_true rfl|apply zbs|split)
theorem gW(s:zA)(o:zH):s.ask o<=15:=by
 unfold zA.ask
 repeat' (first|exact Nat.le_of_ble_eq_true rfl|apply zbt|split)
theorem kW{s:zA}(h:o.asks):s.change o=(s,0):=by unfold zH.asks at h;unfold zA.change;rw[if_neg (by omega),if_neg (by omega),if_neg (by omega),if_neg (by omega),if_neg (by omega),if_neg (by omega),if_neg (by omega),if_neg (by omega),if_neg (by omega),if_neg (by omega)]
theorem zcM{s:zA}(hk:o.kind=7):s.step o=(s,match s.user o.user with|none=>⟨5,s.rev,s.on,false,[],[]⟩|some u=>⟨0,s.rev,s.on,false,u.roles,[]⟩):=by have hc:=kW (s:=s) (show o.asks from Or.inl hk);unfold zA.step;simp only[hc];rw[if_pos hk];cases s.user o.user<;>rfl
theorem zcN{s:zA}(hk:o.kind=8):s.step o=(s,⟨0,s.rev,s.on,false,s.users.map (·.name),[]⟩):=by have hc:=kW (s:=s) (show o.asks from Or.inr (Or.inl hk));unfold zA.step;simp only[hc];rw[if_neg (by omega),if_pos hk]
theorem zbu{s:zA}(hk:o.kind=14):s.step o=(s,⟨0,s.rev,s.on,false,s.roles.map (·.name),[]⟩):=by have hc:=kW (s:=s) (show o.asks from Or.inr (Or.inr (by omega)));unfold zA.step;simp only[hc];rw[if_neg (by omega),if_neg (by omega),if_neg (by omega),if_pos hk]
theorem gX{s:zA}(hk:o.kind=15\/o.kind=16\/o.kind=17\/o.kind=18):s.step o=(s,⟨s.ask o,s.rev,s.on,false,[],[]⟩):=by have hc:=kW (s:=s) (show o.asks from Or.inr (Or.inr (by omega)));unfold zA.step;simp only[hc];rw[if_neg (by omega),if_neg (by omega),if_neg (by omega),if_neg (by omega),if_pos hk]
theorem zbv{s:zA}(hk:o.kind=19):s.step o=(s,⟨0,s.rev,s.on,match s.user o.user with|none=>false|some u=>decide (o.role∈u.roles),[],[]⟩):=by have hc:=kW (s:=s) (show o.asks from Or.inr (Or.inr (by omega)));unfold zA.step;simp only[hc];rw[if_neg (by omega),if_neg (by omega),if_neg (by omega),if_neg (by omega),if_neg (by omega),if_pos hk];cases s.user o.user<;>rfl
structure zH.runs(o:zH):Prop where
 kind:1<=o.kind/\o.kind<=21
 old:0<=o.old/\o.old<=1
 user:o.user.length<=64
 role:o.role.length<=64/\Dn o.role
 key:o.key.length<=64
 stop:o.stop.length<=64
 pk:o.kind=11->0<=o.pk/\o.pk<=2
 range:o.kind=16\/o.kind=17->zU o.key o.stop=true
 put:o.kind=15->o.key≠[]
theorem zH.runs.fits(h:o.runs):o.fits:=⟨h.user,h.role.1,h.key,h.stop,h.pk⟩
theorem zbw(h:o.user.length<=64):o.who.length<=1000:=by
 unfold zH.who;split
 ·simp
 ·omega
open Go.RowKit
def Q_(l:zu)(w:World)(x:Nat)(I:zN)(s:zA)(ec:Nat)(e:Ending)(w':World):Prop:=e=.returned (ze ec)/\∃l' I' a',I'.db=I.db/\qF l w l' w'/\Wd l' w' x I' a' s
variable{W w':World}{a ec x:Nat}{l:zu}{s':zA}
theorem VV.w{w:World}{I:zN}{s:zA}{e:Ending}(h:Wd l w x I a s)(hn:za w W)(hc:VV l W a I s' ec e w'):∃v,e=.returned (.tuple #[v,ze ec])/\(∃l' I' a',I'.db=I.db/\qF l w l' w'/\Wd l' w' x I' a' s')/\w'.cell? ⟨x,2,none⟩=some (.iface 142 (ptr a))/\∀p v,l p.block=0->W.cell? p=some v->w'.cell? p=some v:=by obtain⟨v,rfl,l',I',hI,hs,ht⟩:=hc;have hw:=(h.new hn).call hs hI ht;exact⟨v,rfl,⟨l',I',a,hI.2.2.2,(qF.new h.st.bnd hn).trans hs.w,hw⟩,(vX hw.row).2.2.1,λp v h0 hp=>hs.mod.cell (λe=>e.1 h0) hp⟩
theorem VB(a:Nat)(W:World):(method 608 142 (ptr a) "UserAdd").run prog W=.ok (171,ptr a) W:=by kernel_rfl
theorem ff{w:World}{I:zN}{s:zA}(h:Wd l w x I a s)(hk:o.kind=3)(hr:Zn s o.user=(s',ec))(hn:o.user.length<=1000)(hf:q9 s')(hs:yA s'):
  Calls prog 42 #[ptr x,o.val] w (Q_ l w x I s' ec):=by
 obtain⟨ki,us,ro,pk,ke,st,np,od,nu⟩:=o;dsimp only at hk hr hn;subst hk;unfold zH.val zH.cells;dsimp only;obtain⟨c0,c1,c2,_⟩:=vX h.row;obtain⟨sx,Ht⟩:∃sx,zb us=.string sx:=⟨_,rfl⟩;obtain⟨cc,Hc⟩:=zex (#[.int .i64 3,zb us,zb ro,.int .i64 pk,zb ke,zb st,.bool np,.int .i64 od,.bool nu]);obtain⟨w1,Hh⟩:=zex (w.alloc (.cells cc 35));have hQ:za w w1:=by rw[Hh];exact(za.refl w).alloc _
 have pI:w1.heap.size=w.heap.size+1:=by rw[Hh];exact Array.size_push ..
 have pM:w1.heap[w.heap.size]? =some (.cells cc 35 (0,0)):=by rw[Hh];exact zg w _
 have d2:=hQ.le _ _ c2;have g0:w1.cell? ⟨w.heap.size,0,none⟩=some (.int .i64 3):=by rw[cell_of_row w1 _ 0 _ _ (0,0) pM,Hc];rfl
 have g1:w1.cell? ⟨w.heap.size,1,none⟩=some (.string sx):=by rw[cell_of_row w1 _ 1 _ _ (0,0) pM,Hc,Ht];rfl
 obtain⟨w2,PO⟩:=zex (w1.alloc (.cells #[.bool true] 161));obtain⟨w3,pu⟩:=zex (w2.alloc (.cells #[.string sx,.string ⟨#[]⟩,ptr w1.heap.size,.string ⟨#[]⟩] 163));have Hj:za w1 w2:=by rw[PO];exact(za.refl w1).alloc _
 have Hg:za w2 w3:=by rw[pu];exact(za.refl w2).alloc _
 have rj:w2.heap.size=w1.heap.size+1:=by rw[PO];exact Array.size_push ..
 have pw:w3.heap[w1.heap.size]? =some (.cells #[.bool true] 161 (0,0)):=Hg.heap (by rw[PO];exact zg w1 _);have sG:w3.heap[w2.heap.size]? =some (.cells #[.string sx,.string ⟨#[]⟩,ptr w1.heap.size,.string ⟨#[]⟩] 163 (0,0)):=by rw[pu];exact zg w2 _
 have He:=(hQ.trans Hj).trans Hg;have sO:l w.heap.size=0:=by
  by_cases e:l w.heap.size=0
  ·exact e
  ·have:=h.st.bnd _ e;omega
 have PZ: ¬l.some w1.heap.size:=λe=>by have:=h.st.bnd _ e;omega
 have Cc: ¬l.some w2.heap.size:=λe=>by have:=h.st.bnd _ e;omega
 have hC:∀W,(W=w3\/W=w3.drew)->Calls prog 171 #[ptr a,ptr w2.heap.size] W λe w'=>∃v,e=.returned (.tuple #[v,ze ec])/\(∃l' I' a',I'.db=I.db/\qF l w l' w'/\Wd l' w' x I' a' s')/\w'.cell? ⟨x,2,none⟩=some (.iface 142 (ptr a))/\w'.cell? ⟨w.heap.size,1,none⟩=some (.string sx):=λW hW=>by
  have hb:W.heap=w3.heap:=by rcases hW with rfl|rfl<;>rfl
  have Pz:za w W:=by
   rcases hW with rfl|rfl
   ·exact He
   ·exact He.drew
  refine(UD (h.new Pz).st hr hn (ob:=w1.heap.size) (rb:=w2.heap.size) (zi.2 ⟨Cc,?_⟩) (zi.2 ⟨Cc,?_⟩) (zi.2 ⟨PZ,?_⟩) hf hs).mono λe w' hc=> ?_
  rotate_left 3
  ·obtain⟨v,he,Hk,k2,kp⟩:=VV.w h Pz hc;refine⟨v,he,Hk,k2,kp _ _ sO ?_⟩;have TR:W.heap[w.heap.size]? =w1.heap[w.heap.size]? :=by
    rw[hb,(Hj.trans Hg).block w.heap.size (by omega) (λe=>e)]
   rw[World.cell?_of_block TR];exact g1
  ·rw[Ht,cell_of_row W w2.heap.size 0 _ _ (0,0) (by rw[hb];exact sG)];rfl
  ·rw[cell_of_row W w2.heap.size 2 _ _ (0,0) (by rw[hb];exact sG)];rfl
  ·rw[cell_of_row W w1.heap.size 0 _ _ (0,0) (by rw[hb];exact pw)];rfl
 have Sg:=hC _ (Or.inr rfl);rw[rj,pI,pu,PO,pI]at Sg;have HC:=hid Sg;have Pr:=hid Hh;have pJ:=hid Hc;have r_:=hid Ht;have sL:=VB a;clear h Hc Ht hQ Hh Hj Hg pw sG He sO PZ Cc hC Sg rj hr hf hs pM PO pu;obtain⟨ob,p_⟩:=zex (w.heap.size);rw[<-p_]at g0 g1;have mg:=hid p_;go_enter func42,ntmps42;go_upto_region 2 with fail
 rw[<-pJ.out,<-Pr.out,<-p_];clear c0 c1 c2 p_;obtain⟨va,pR⟩:=zex (Value.agg cc);rw[<-pR];clear pR;go_wp2_with fail;go_region_held3 (λw'=>w'.cell? ⟨x,2,none⟩=some (.iface 142 (ptr a))/\w'.cell? ⟨ob,1,none⟩=some (.string sx)) (go_keep) (first|(go_at_call 171;refine HC.out.mono ?_;rintro e w9 ⟨v,rfl,Hk,k2,k1⟩;rw[<-mg.out]at k1;have Hn:=hid Hk;clear Hk))
 all_goals
  go_wp2;go_returns;exact⟨rfl,Hn.out⟩
theorem zcU{w:World}:Calls prog 43 #[ze 0] w λe w'=>e=.returned (.int .i64 0)/\w=w':=by
 have e0:∀W,(binOp .eql 86 (ze 0) (ze 0)).run prog W=.ok (.bool true) W:=λW=>by kernel_rfl
 simp only[ze]at e0⊢;go_enter func43,ntmps43;go_wp2;go_returns;exact⟨rfl,rfl⟩
theorem zcV{w:World}:Calls prog 43 #[ze 1] w λe w'=>e=.returned (.int .i64 1)/\w=w':=by
 have e0:∀W,(binOp .eql 86 (ze 1) (ze 0)).run prog W=.ok (.bool false) W:=λW=>by kernel_rfl
 have e1:∀W,(binOp .eql 86 (ze 1) (ze 1)).run prog W=.ok (.bool true) W:=λW=>by kernel_rfl
 simp only[ze]at e0 e1⊢;go_enter func43,ntmps43;go_wp2;go_returns;exact⟨rfl,rfl⟩
theorem zcW{w:World}:Calls prog 43 #[ze 2] w λe w'=>e=.returned (.int .i64 2)/\w=w':=by
 have e0:∀W,(binOp .eql 86 (ze 2) (ze 0)).run prog W=.ok (.bool false) W:=λW=>by kernel_rfl
 have e1:∀W,(binOp .eql 86 (ze 2) (ze 1)).run prog W=.ok (.bool false) W:=λW=>by kernel_rfl
 have e2:∀W,(binOp .eql 86 (ze 2) (ze 2)).run prog W=.ok (.bool true) W:=λW=>by kernel_rfl
 simp only[ze]at e0 e1 e2⊢;go_enter func43,ntmps43;go_wp2;go_returns;exact⟨rfl,rfl⟩
theorem zcX{w:World}:Calls prog 43 #[ze 3] w λe w'=>e=.returned (.int .i64 3)/\w=w':=by
 have e0:∀W,(binOp .eql 86 (ze 3) (ze 0)).run prog W=.ok (.bool false) W:=λW=>by kernel_rfl
 have e1:∀W,(binOp .eql 86 (ze 3) (ze 1)).run prog W=.ok (.bool false) W:=λW=>by kernel_rfl
 have e2:∀W,(binOp .eql 86 (ze 3) (ze 2)).run prog W=.ok (.bool false) W:=λW=>by kernel_rfl
 have e3:∀W,(binOp .eql 86 (ze 3) (ze 3)).run prog W=.ok (.bool true) W:=λW=>by kernel_rfl
 simp only[ze]at e0 e1 e2 e3⊢;go_enter func43,ntmps43;go_wp2;go_returns;exact⟨rfl,rfl⟩
theorem zcY{w:World}:Calls prog 43 #[ze 4] w λe w'=>e=.returned (.int .i64 4)/\w=w':=by
 have e0:∀W,(binOp .eql 86 (ze 4) (ze 0)).run prog W=.ok (.bool false) W:=λW=>by kernel_rfl
 have e1:∀W,(binOp .eql 86 (ze 4) (ze 1)).run prog W=.ok (.bool false) W:=λW=>by kernel_rfl
 have e2:∀W,(binOp .eql 86 (ze 4) (ze 2)).run prog W=.ok (.bool false) W:=λW=>by kernel_rfl
 have e3:∀W,(binOp .eql 86 (ze 4) (ze 3)).run prog W=.ok (.bool false) W:=λW=>by kernel_rfl
 have e4:∀W,(binOp .eql 86 (ze 4) (ze 4)).run prog W=.ok (.bool true) W:=λW=>by kernel_rfl
 simp only[ze]at e0 e1 e2 e3 e4⊢;go_enter func43,ntmps43;go_wp2;go_returns;exact⟨rfl,rfl⟩
theorem zcZ{w:World}:Calls prog 43 #[ze 5] w λe w'=>e=.returned (.int .i64 5)/\w=w':=by
 have e0:∀W,(binOp .eql 86 (ze 5) (ze 0)).run prog W=.ok (.bool false) W:=λW=>by kernel_rfl
 have e1:∀W,(binOp .eql 86 (ze 5) (ze 1)).run prog W=.ok (.bool false) W:=λW=>by kernel_rfl
 have e2:∀W,(binOp .eql 86 (ze 5) (ze 2)).run prog W=.ok (.bool false) W:=λW=>by kernel_rfl
 have e3:∀W,(binOp .eql 86 (ze 5) (ze 3)).run prog W=.ok (.bool false) W:=λW=>by kernel_rfl
 have e4:∀W,(binOp .eql 86 (ze 5) (ze 4)).run prog W=.ok (.bool false) W:=λW=>by kernel_rfl
 have e5:∀W,(binOp .eql 86 (ze 5) (ze 5)).run prog W=.ok (.bool true) W:=λW=>by kernel_rfl
 simp only[ze]at e0 e1 e2 e3 e4 e5⊢;go_enter func43,ntmps43;go_wp2;go_returns;exact⟨rfl,rfl⟩
theorem zc0{w:World}:Calls prog 43 #[ze 6] w λe w'=>e=.returned (.int .i64 6)/\w=w':=by
 have e0:∀W,(binOp .eql 86 (ze 6) (ze 0)).run prog W=.ok (.bool false) W:=λW=>by kernel_rfl
 have e1:∀W,(binOp .eql 86 (ze 6) (ze 1)).run prog W=.ok (.bool false) W:=λW=>by kernel_rfl
 have e2:∀W,(binOp .eql 86 (ze 6) (ze 2)).run prog W=.ok (.bool false) W:=λW=>by kernel_rfl
 have e3:∀W,(binOp .eql 86 (ze 6) (ze 3)).run prog W=.ok (.bool false) W:=λW=>by kernel_rfl
 have e4:∀W,(binOp .eql 86 (ze 6) (ze 4)).run prog W=.ok (.bool false) W:=λW=>by kernel_rfl
 have e5:∀W,(binOp .eql 86 (ze 6) (ze 5)).run prog W=.ok (.bool false) W:=λW=>by kernel_rfl
 have e6:∀W,(binOp .eql 86 (ze 6) (ze 6)).run prog W=.ok (.bool true) W:=λW=>by kernel_rfl
 simp only[ze]at e0 e1 e2 e3 e4 e5 e6⊢;go_enter func43,ntmps43;go_wp2;go_returns;exact⟨rfl,rfl⟩
theorem zc1{w:World}:Calls prog 43 #[ze 7] w λe w'=>e=.returned (.int .i64 7)/\w=w':=by
 have e0:∀W,(binOp .eql 86 (ze 7) (ze 0)).run prog W=.ok (.bool false) W:=λW=>by kernel_rfl
 have e1:∀W,(binOp .eql 86 (ze 7) (ze 1)).run prog W=.ok (.bool false) W:=λW=>by kernel_rfl
 have e2:∀W,(binOp .eql 86 (ze 7) (ze 2)).run prog W=.ok (.bool false) W:=λW=>by kernel_rfl
 have e3:∀W,(binOp .eql 86 (ze 7) (ze 3)).run prog W=.ok (.bool false) W:=λW=>by kernel_rfl
 have e4:∀W,(binOp .eql 86 (ze 7) (ze 4)).run prog W=.ok (.bool false) W:=λW=>by kernel_rfl
 have e5:∀W,(binOp .eql 86 (ze 7) (ze 5)).run prog W=.ok (.bool false) W:=λW=>by kernel_rfl
 have e6:∀W,(binOp .eql 86 (ze 7) (ze 6)).run prog W=.ok (.bool false) W:=λW=>by kernel_rfl
 have e7:∀W,(binOp .eql 86 (ze 7) (ze 7)).run prog W=.ok (.bool true) W:=λW=>by kernel_rfl
 simp only[ze]at e0 e1 e2 e3 e4 e5 e6 e7⊢;go_enter func43,ntmps43;go_wp2;go_returns;exact⟨rfl,rfl⟩
theorem zc2{w:World}:Calls prog 43 #[ze 8] w λe w'=>e=.returned (.int .i64 8)/\w=w':=by
 have e0:∀W,(binOp .eql 86 (ze 8) (ze 0)).run prog W=.ok (.bool false) W:=λW=>by kernel_rfl
 have e1:∀W,(binOp .eql 86 (ze 8) (ze 1)).run prog W=.ok (.bool false) W:=λW=>by kernel_rfl
 have e2:∀W,(binOp .eql 86 (ze 8) (ze 2)).run prog W=.ok (.bool false) W:=λW=>by kernel_rfl
 have e3:∀W,(binOp .eql 86 (ze 8) (ze 3)).run prog W=.ok (.bool false) W:=λW=>by kernel_rfl
 have e4:∀W,(binOp .eql 86 (ze 8) (ze 4)).run prog W=.ok (.bool false) W:=λW=>by kernel_rfl
 have e5:∀W,(binOp .eql 86 (ze 8) (ze 5)).run prog W=.ok (.bool false) W:=λW=>by kernel_rfl
 have e6:∀W,(binOp .eql 86 (ze 8) (ze 6)).run prog W=.ok (.bool false) W:=λW=>by kernel_rfl
 have e7:∀W,(binOp .eql 86 (ze 8) (ze 7)).run prog W=.ok (.bool false) W:=λW=>by kernel_rfl
 have e8:∀W,(binOp .eql 86 (ze 8) (ze 8)).run prog W=.ok (.bool true) W:=λW=>by kernel_rfl
 simp only[ze]at e0 e1 e2 e3 e4 e5 e6 e7 e8⊢;go_enter func43,ntmps43;go_wp2;go_returns;exact⟨rfl,rfl⟩
theorem zc3{w:World}:Calls prog 43 #[ze 9] w λe w'=>e=.returned (.int .i64 9)/\w=w':=by
 have e0:∀W,(binOp .eql 86 (ze 9) (ze 0)).run prog W=.ok (.bool false) W:=λW=>by kernel_rfl
 have e1:∀W,(binOp .eql 86 (ze 9) (ze 1)).run prog W=.ok (.bool false) W:=λW=>by kernel_rfl
 have e2:∀W,(binOp .eql 86 (ze 9) (ze 2)).run prog W=.ok (.bool false) W:=λW=>by kernel_rfl
 have e3:∀W,(binOp .eql 86 (ze 9) (ze 3)).run prog W=.ok (.bool false) W:=λW=>by kernel_rfl
 have e4:∀W,(binOp .eql 86 (ze 9) (ze 4)).run prog W=.ok (.bool false) W:=λW=>by kernel_rfl
 have e5:∀W,(binOp .eql 86 (ze 9) (ze 5)).run prog W=.ok (.bool false) W:=λW=>by kernel_rfl
 have e6:∀W,(binOp .eql 86 (ze 9) (ze 6)).run prog W=.ok (.bool false) W:=λW=>by kernel_rfl
 have e7:∀W,(binOp .eql 86 (ze 9) (ze 7)).run prog W=.ok (.bool false) W:=λW=>by kernel_rfl
 have e8:∀W,(binOp .eql 86 (ze 9) (ze 8)).run prog W=.ok (.bool false) W:=λW=>by kernel_rfl
 have e9:∀W,(binOp .eql 86 (ze 9) (ze 9)).run prog W=.ok (.bool true) W:=λW=>by kernel_rfl
 simp only[ze]at e0 e1 e2 e3 e4 e5 e6 e7 e8 e9⊢;go_enter func43,ntmps43;go_wp2;go_returns;exact⟨rfl,rfl⟩
theorem zbI{w:World}:Calls prog 43 #[ze 10] w λe w'=>e=.returned (.int .i64 10)/\w=w':=by
 have e0:∀W,(binOp .eql 86 (ze 10) (ze 0)).run prog W=.ok (.bool false) W:=λW=>by kernel_rfl
 have e1:∀W,(binOp .eql 86 (ze 10) (ze 1)).run prog W=.ok (.bool false) W:=λW=>by kernel_rfl
 have e2:∀W,(binOp .eql 86 (ze 10) (ze 2)).run prog W=.ok (.bool false) W:=λW=>by kernel_rfl
 have e3:∀W,(binOp .eql 86 (ze 10) (ze 3)).run prog W=.ok (.bool false) W:=λW=>by kernel_rfl
 have e4:∀W,(binOp .eql 86 (ze 10) (ze 4)).run prog W=.ok (.bool false) W:=λW=>by kernel_rfl
 have e5:∀W,(binOp .eql 86 (ze 10) (ze 5)).run prog W=.ok (.bool false) W:=λW=>by kernel_rfl
 have e6:∀W,(binOp .eql 86 (ze 10) (ze 6)).run prog W=.ok (.bool false) W:=λW=>by kernel_rfl
 have e7:∀W,(binOp .eql 86 (ze 10) (ze 7)).run prog W=.ok (.bool false) W:=λW=>by kernel_rfl
 have e8:∀W,(binOp .eql 86 (ze 10) (ze 8)).run prog W=.ok (.bool false) W:=λW=>by kernel_rfl
 have e9:∀W,(binOp .eql 86 (ze 10) (ze 9)).run prog W=.ok (.bool false) W:=λW=>by kernel_rfl
 have e10:∀W,(binOp .eql 86 (ze 10) (ze 10)).run prog W=.ok (.bool true) W:=λW=>by kernel_rfl
 simp only[ze]at e0 e1 e2 e3 e4 e5 e6 e7 e8 e9 e10⊢;go_enter func43,ntmps43;go_wp2;go_returns;exact⟨rfl,rfl⟩
theorem zbJ{w:World}:Calls prog 43 #[ze 11] w λe w'=>e=.returned (.int .i64 11)/\w=w':=by
 have e0:∀W,(binOp .eql 86 (ze 11) (ze 0)).run prog W=.ok (.bool false) W:=λW=>by kernel_rfl
 have e1:∀W,(binOp .eql 86 (ze 11) (ze 1)).run prog W=.ok (.bool false) W:=λW=>by kernel_rfl
 have e2:∀W,(binOp .eql 86 (ze 11) (ze 2)).run prog W=.ok (.bool false) W:=λW=>by kernel_rfl
 have e3:∀W,(binOp .eql 86 (ze 11) (ze 3)).run prog W=.ok (.bool false) W:=λW=>by kernel_rfl
 have e4:∀W,(binOp .eql 86 (ze 11) (ze 4)).run prog W=.ok (.bool false) W:=λW=>by kernel_rfl
 have e5:∀W,(binOp .eql 86 (ze 11) (ze 5)).run prog W=.ok (.bool false) W:=λW=>by kernel_rfl
 have e6:∀W,(binOp .eql 86 (ze 11) (ze 6)).run prog W=.ok (.bool false) W:=λW=>by kernel_rfl
 have e7:∀W,(binOp .eql 86 (ze 11) (ze 7)).run prog W=.ok (.bool false) W:=λW=>by kernel_rfl
 have e8:∀W,(binOp .eql 86 (ze 11) (ze 8)).run prog W=.ok (.bool false) W:=λW=>by kernel_rfl
 have e9:∀W,(binOp .eql 86 (ze 11) (ze 9)).run prog W=.ok (.bool false) W:=λW=>by kernel_rfl
 have e10:∀W,(binOp .eql 86 (ze 11) (ze 10)).run prog W=.ok (.bool false) W:=λW=>by kernel_rfl
 have e11:∀W,(binOp .eql 86 (ze 11) (ze 11)).run prog W=.ok (.bool true) W:=λW=>by kernel_rfl
 simp only[ze]at e0 e1 e2 e3 e4 e5 e6 e7 e8 e9 e10 e11⊢;go_enter func43,ntmps43;go_wp2;go_returns;exact⟨rfl,rfl⟩
theorem zbK{w:World}:Calls prog 43 #[ze 12] w λe w'=>e=.returned (.int .i64 12)/\w=w':=by
 have e0:∀W,(binOp .eql 86 (ze 12) (ze 0)).run prog W=.ok (.bool false) W:=λW=>by kernel_rfl
 have e1:∀W,(binOp .eql 86 (ze 12) (ze 1)).run prog W=.ok (.bool false) W:=λW=>by kernel_rfl
 have e2:∀W,(binOp .eql 86 (ze 12) (ze 2)).run prog W=.ok (.bool false) W:=λW=>by kernel_rfl
 have e3:∀W,(binOp .eql 86 (ze 12) (ze 3)).run prog W=.ok (.bool false) W:=λW=>by kernel_rfl
 have e4:∀W,(binOp .eql 86 (ze 12) (ze 4)).run prog W=.ok (.bool false) W:=λW=>by kernel_rfl
 have e5:∀W,(binOp .eql 86 (ze 12) (ze 5)).run prog W=.ok (.bool false) W:=λW=>by kernel_rfl
 have e6:∀W,(binOp .eql 86 (ze 12) (ze 6)).run prog W=.ok (.bool false) W:=λW=>by kernel_rfl
 have e7:∀W,(binOp .eql 86 (ze 12) (ze 7)).run prog W=.ok (.bool false) W:=λW=>by kernel_rfl
 have e8:∀W,(binOp .eql 86 (ze 12) (ze 8)).run prog W=.ok (.bool false) W:=λW=>by kernel_rfl
 have e9:∀W,(binOp .eql 86 (ze 12) (ze 9)).run prog W=.ok (.bool false) W:=λW=>by kernel_rfl
 have e10:∀W,(binOp .eql 86 (ze 12) (ze 10)).run prog W=.ok (.bool false) W:=λW=>by kernel_rfl
 have e11:∀W,(binOp .eql 86 (ze 12) (ze 11)).run prog W=.ok (.bool false) W:=λW=>by kernel_rfl
 have e12:∀W,(binOp .eql 86 (ze 12) (ze 12)).run prog W=.ok (.bool true) W:=λW=>by kernel_rfl
 simp only[ze]at e0 e1 e2 e3 e4 e5 e6 e7 e8 e9 e10 e11 e12⊢;go_enter func43,ntmps43;go_wp2;go_returns;exact⟨rfl,rfl⟩
theorem zbL{w:World}:Calls prog 43 #[ze 13] w λe w'=>e=.returned (.int .i64 13)/\w=w':=by
 have e0:∀W,(binOp .eql 86 (ze 13) (ze 0)).run prog W=.ok (.bool false) W:=λW=>by kernel_rfl
 have e1:∀W,(binOp .eql 86 (ze 13) (ze 1)).run prog W=.ok (.bool false) W:=λW=>by kernel_rfl
 have e2:∀W,(binOp .eql 86 (ze 13) (ze 2)).run prog W=.ok (.bool false) W:=λW=>by kernel_rfl
 have e3:∀W,(binOp .eql 86 (ze 13) (ze 3)).run prog W=.ok (.bool false) W:=λW=>by kernel_rfl
 have e4:∀W,(binOp .eql 86 (ze 13) (ze 4)).run prog W=.ok (.bool false) W:=λW=>by kernel_rfl
 have e5:∀W,(binOp .eql 86 (ze 13) (ze 5)).run prog W=.ok (.bool false) W:=λW=>by kernel_rfl
 have e6:∀W,(binOp .eql 86 (ze 13) (ze 6)).run prog W=.ok (.bool false) W:=λW=>by kernel_rfl
 have e7:∀W,(binOp .eql 86 (ze 13) (ze 7)).run prog W=.ok (.bool false) W:=λW=>by kernel_rfl
 have e8:∀W,(binOp .eql 86 (ze 13) (ze 8)).run prog W=.ok (.bool false) W:=λW=>by kernel_rfl
 have e9:∀W,(binOp .eql 86 (ze 13) (ze 9)).run prog W=.ok (.bool false) W:=λW=>by kernel_rfl
 have e10:∀W,(binOp .eql 86 (ze 13) (ze 10)).run prog W=.ok (.bool false) W:=λW=>by kernel_rfl
 have e11:∀W,(binOp .eql 86 (ze 13) (ze 11)).run prog W=.ok (.bool false) W:=λW=>by kernel_rfl
 have e12:∀W,(binOp .eql 86 (ze 13) (ze 12)).run prog W=.ok (.bool false) W:=λW=>by kernel_rfl
 have e13:∀W,(binOp .eql 86 (ze 13) (ze 13)).run prog W=.ok (.bool true) W:=λW=>by kernel_rfl
 simp only[ze]at e0 e1 e2 e3 e4 e5 e6 e7 e8 e9 e10 e11 e12 e13⊢;go_enter func43,ntmps43;go_wp2;go_returns;exact⟨rfl,rfl⟩
theorem zbM{w:World}:Calls prog 43 #[ze 14] w λe w'=>e=.returned (.int .i64 14)/\w=w':=by
 have e0:∀W,(binOp .eql 86 (ze 14) (ze 0)).run prog W=.ok (.bool false) W:=λW=>by kernel_rfl
 have e1:∀W,(binOp .eql 86 (ze 14) (ze 1)).run prog W=.ok (.bool false) W:=λW=>by kernel_rfl
 have e2:∀W,(binOp .eql 86 (ze 14) (ze 2)).run prog W=.ok (.bool false) W:=λW=>by kernel_rfl
 have e3:∀W,(binOp .eql 86 (ze 14) (ze 3)).run prog W=.ok (.bool false) W:=λW=>by kernel_rfl
 have e4:∀W,(binOp .eql 86 (ze 14) (ze 4)).run prog W=.ok (.bool false) W:=λW=>by kernel_rfl
 have e5:∀W,(binOp .eql 86 (ze 14) (ze 5)).run prog W=.ok (.bool false) W:=λW=>by kernel_rfl
 have e6:∀W,(binOp .eql 86 (ze 14) (ze 6)).run prog W=.ok (.bool false) W:=λW=>by kernel_rfl
 have e7:∀W,(binOp .eql 86 (ze 14) (ze 7)).run prog W=.ok (.bool false) W:=λW=>by kernel_rfl
 have e8:∀W,(binOp .eql 86 (ze 14) (ze 8)).run prog W=.ok (.bool false) W:=λW=>by kernel_rfl
 have e9:∀W,(binOp .eql 86 (ze 14) (ze 9)).run prog W=.ok (.bool false) W:=λW=>by kernel_rfl
 have e10:∀W,(binOp .eql 86 (ze 14) (ze 10)).run prog W=.ok (.bool false) W:=λW=>by kernel_rfl
 have e11:∀W,(binOp .eql 86 (ze 14) (ze 11)).run prog W=.ok (.bool false) W:=λW=>by kernel_rfl
 have e12:∀W,(binOp .eql 86 (ze 14) (ze 12)).run prog W=.ok (.bool false) W:=λW=>by kernel_rfl
 have e13:∀W,(binOp .eql 86 (ze 14) (ze 13)).run prog W=.ok (.bool false) W:=λW=>by kernel_rfl
 have e14:∀W,(binOp .eql 86 (ze 14) (ze 14)).run prog W=.ok (.bool true) W:=λW=>by kernel_rfl
 simp only[ze]at e0 e1 e2 e3 e4 e5 e6 e7 e8 e9 e10 e11 e12 e13 e14⊢;go_enter func43,ntmps43;go_wp2;go_returns;exact⟨rfl,rfl⟩
theorem zbN{w:World}:Calls prog 43 #[ze 15] w λe w'=>e=.returned (.int .i64 15)/\w=w':=by
 have e0:∀W,(binOp .eql 86 (ze 15) (ze 0)).run prog W=.ok (.bool false) W:=λW=>by kernel_rfl
 have e1:∀W,(binOp .eql 86 (ze 15) (ze 1)).run prog W=.ok (.bool false) W:=λW=>by kernel_rfl
 have e2:∀W,(binOp .eql 86 (ze 15) (ze 2)).run prog W=.ok (.bool false) W:=λW=>by kernel_rfl
 have e3:∀W,(binOp .eql 86 (ze 15) (ze 3)).run prog W=.ok (.bool false) W:=λW=>by kernel_rfl
 have e4:∀W,(binOp .eql 86 (ze 15) (ze 4)).run prog W=.ok (.bool false) W:=λW=>by kernel_rfl
 have e5:∀W,(binOp .eql 86 (ze 15) (ze 5)).run prog W=.ok (.bool false) W:=λW=>by kernel_rfl
 have e6:∀W,(binOp .eql 86 (ze 15) (ze 6)).run prog W=.ok (.bool false) W:=λW=>by kernel_rfl
 have e7:∀W,(binOp .eql 86 (ze 15) (ze 7)).run prog W=.ok (.bool false) W:=λW=>by kernel_rfl
 have e8:∀W,(binOp .eql 86 (ze 15) (ze 8)).run prog W=.ok (.bool false) W:=λW=>by kernel_rfl
 have e9:∀W,(binOp .eql 86 (ze 15) (ze 9)).run prog W=.ok (.bool false) W:=λW=>by kernel_rfl
 have e10:∀W,(binOp .eql 86 (ze 15) (ze 10)).run prog W=.ok (.bool false) W:=λW=>by kernel_rfl
 have e11:∀W,(binOp .eql 86 (ze 15) (ze 11)).run prog W=.ok (.bool false) W:=λW=>by kernel_rfl
 have e12:∀W,(binOp .eql 86 (ze 15) (ze 12)).run prog W=.ok (.bool false) W:=λW=>by kernel_rfl
 have e13:∀W,(binOp .eql 86 (ze 15) (ze 13)).run prog W=.ok (.bool false) W:=λW=>by kernel_rfl
 have e14:∀W,(binOp .eql 86 (ze 15) (ze 14)).run prog W=.ok (.bool false) W:=λW=>by kernel_rfl
 have e15:∀W,(binOp .eql 86 (ze 15) (ze 15)).run prog W=.ok (.bool true) W:=λW=>by kernel_rfl
 simp only[ze]at e0 e1 e2 e3 e4 e5 e6 e7 e8 e9 e10 e11 e12 e13 e14 e15⊢;go_enter func43,ntmps43;go_wp2;go_returns;exact⟨rfl,rfl⟩
variable{n:Nat}
theorem vm{w:World}(hn:n<=15):Calls prog 43 #[ze n] w λe w'=>e=.returned (.int .i64 n)/\w=w':=by
 match n,hn with
 |0,_=>exact zcU
 |1,_=>exact zcV
 |2,_=>exact zcW
 |3,_=>exact zcX
 |4,_=>exact zcY
 |5,_=>exact zcZ
 |6,_=>exact zc0
 |7,_=>exact zc1
 |8,_=>exact zc2
 |9,_=>exact zc3
 |10,_=>exact zbI
 |11,_=>exact zbJ
 |12,_=>exact zbK
 |13,_=>exact zbL
 |14,_=>exact zbM
 |15,_=>exact zbN
 |k+16,h=>exact absurd h (by omega)
theorem zaw{xs:List Bytes}(hk:k<xs.length)(hn:xs.length=n):((xs.take k).map zb++List.replicate (n-k) (Value.string ⟨#[]⟩)).toArray.setIfInBounds k (zb xs[k])=((xs.take (k+1)).map zb++List.replicate (n-(k+1)) (Value.string ⟨#[]⟩)).toArray:=by
 apply Array.toList_inj.1;rw[Array.toList_setIfInBounds];have e:List.replicate (n-k) (Value.string ⟨#[]⟩)=Value.string ⟨#[]⟩::List.replicate (n-(k+1)) (Value.string ⟨#[]⟩):=by rw[show n-k=(n-(k+1))+1 by omega,List.replicate_succ]
 have hl:((xs.take k).map zb).length=k:=by rw[List.length_map,List.length_take];omega
 show((xs.take k).map zb++List.replicate (n-k) (Value.string ⟨#[]⟩)).set k (zb xs[k])=(xs.take (k+1)).map zb++List.replicate (n-(k+1)) (Value.string ⟨#[]⟩);rw[e,List.set_append_right _ _ (by omega),hl,Nat.sub_self,List.take_succ_eq_append_getElem hk];simp only[List.map_append,List.map_cons,List.map_nil,List.append_assoc,List.singleton_append,List.set_cons_zero]
structure xh(w2 wr:World)(vb rb n:Nat)(T:TypeId)(xs:List Bytes)(k:Nat):Prop where
 new:za w2 wr
 ge:w2.heap.size<=vb
 row:wr.heap[vb]? =some (.cells ((xs.take k).map zb++List.replicate (n-k) (Value.string ⟨#[]⟩)).toArray 9 (0,0))
 resp:wr.heap[rb]? =some (.cells #[.slice (some ⟨vb,0,none⟩) n n] T (0,0))
 ne:rb≠vb
 geR:w2.heap.size<=rb
variable{vb:Nat}{w2 wr:World}
theorem xh.step{rb:Nat}{T:TypeId}{xs:List Bytes}(h:xh w2 wr vb rb n T xs k)(hn:xs.length=n)(hk:k<xs.length)(m:Nat):xh w2 ((wr.drewN m).setCell ⟨vb,k,none⟩ (zb xs[k])) vb rb n T xs (k+1):=by
 have h1:(wr.drewN m).heap[vb]? =some (.cells ((xs.take k).map zb++List.replicate (n-k) (Value.string ⟨#[]⟩)).toArray 9 (0,0)):=h.row;refine⟨zq.setCell (h.new.drewN m) (p:=⟨vb,k,none⟩) (λHb=>absurd Hb (by have:=h.ge;show ¬vb<_;omega)) _,h.ge,?_,?_,h.ne,h.geR⟩
 ·rw[heap_setCell_same _ vb k _ _ _ h1,zaw hk hn]
 ·rw[Below.heap_setCell _ _ _ _ (show rb≠vb from h.ne)];exact h.resp
theorem xh.sl{rb:Nat}{T:TypeId}{xs:List Bytes}(h:xh w2 wr vb rb n T xs n)(hn:xs.length=n)(hm:n<=9223372036854775807)(hb:∀j,l j≠0->j<w2.heap.size):Sl (im l.some wr) 1 (xs.map zb) (.slice (some ⟨vb,0,none⟩) n n):=by
 have h1:=h.row;rw[Nat.sub_self,List.replicate_zero,List.append_nil,<-hn,List.take_length]at h1;have h2:Sl wr.cell? 1 (xs.map zb) (.slice (some ⟨vb,0,none⟩) n n):=by
  have Ha:wr.ownsRow 0 9 1 (.slice (some ⟨vb,0,none⟩) n n) n (xs.map zb):=
   ⟨by rw[List.length_map,hn,Nat.mul_one],.inr ⟨vb,n,_,rfl,Nat.zero_le _,h1,Nat.le_refl _,hm,by simp[hn],by rw[Nat.mul_one,<-hn];exact List.take_of_length_le (by simp)⟩⟩
  exact Sl.of_own Ha
 refine Sl.im_of h2 λq e e2=> ?_;have e':vb=q:=by simpa[Value.ownBlock]using e
 have h3:=hb _ e2;have h4:=h.ge;omega
theorem fC{w:World}{rb:Nat}{I:zN}{s:zA}(h:Zk l w a I s):
  Calls prog 175 #[ptr a,ptr rb] w (GA l w a I s (s.users.map (·.name))):=by
 obtain⟨A,ab,m,lg,h⟩:=h;have r2:w.cell? ⟨a,2,none⟩=some (.iface 149 (ptr ab)):=by rw[cell_of_row w a 2 _ _ (0,0) h.row];rfl
 have HG:=hid (Kd h);have H:=hid h;have Bx:=hid h.fine.ul;clear h;go_enter func175,ntmps175;go_wp2_with fail;refine HG.out.mono ?_;rintro e w2 ⟨r,W1,rfl,hQ,Hi,rm,bs,g1,g2,g3⟩;obtain⟨vp,n,vc,rfl⟩:=g1.shape;have Ph:=hid ((zr.new H.out.bnd hQ).trans Hi.s);have Ll:=hid rm;have Ro:s.users.length=bs.length:=g3.length;have Li:bs.length=n:=by have:=g1.row.1;rw[List.length_map]at this;exact this
 have Hg:n<=300:=by have:=Bx.out;omega
 have H7:=hid (Ro.trans Li);have Ef:=hid Li;have Ni:=hid g1;have Hu:=hid g3;have Sr:=YP xS rfl w2 n (by omega) (by omega);obtain⟨W3,PD⟩:=zex (w2.alloc (.cells (List.replicate n (Value.string ⟨#[]⟩)).toArray 9));rw[<-PD]at Sr;obtain⟨W4,PJ⟩:=zex (W3.alloc (.cells #[.slice (some ⟨w2.heap.size,0,none⟩) n n] 102));have Pa:W3.heap.size=w2.heap.size+1:=by rw[PD];exact Array.size_push ..
 have wN:xh w2 W4 w2.heap.size W3.heap.size n 102 (s.users.map (·.name)) 0:=by
  have n3:za w2 W3:=by rw[PD];exact(za.refl w2).alloc _
  have n4:za W3 W4:=by rw[PJ];exact(za.refl W3).alloc _
  refine⟨n3.trans n4,Nat.le_refl _,?_,?_,by omega,by omega⟩
  ·rw[List.take_zero,List.map_nil,List.nil_append,Nat.sub_zero];exact n4.heap (by rw[PD];exact zg w2 _)
  ·rw[PJ];exact zg W3 _
 have Ey:=hid wN;have sQ:=hid PJ;clear hQ Hi rm g1 g2 g3 Ro Li wN PD PJ Pa;go_upto_region 3 with fail
 rw[<-sQ.out];obtain⟨rb4,Py⟩:∃q,W3.heap.size=q:=⟨_,rfl⟩;obtain⟨vb,TO⟩:∃q,w2.heap.size=q:=⟨_,rfl⟩;rw[Py,TO]at Ey;rw[Py];clear Sr Py;go_wp2;go_loopw [21] (λc wr=>∃k:Nat,k<=n/\c=.int .i64 k/\xh w2 wr vb rb4 n 102 (s.users.map (·.name)) k) (λc _=>n-(intOf c).toNat)
 case atStart=>exact⟨0,Nat.zero_le _,rfl,Ey.out⟩
 case round=>
  obtain⟨k,hk,rfl,hf⟩:=hrel;have HF:=hid hf;obtain⟨c0,f0⟩:=zau hf.resp;by_cases Hb:k<n
  ·obtain⟨pZ,NZ,tT,⟨gb,go,rfl,PQ⟩|h0⟩:=Ni.out.row
   case inr=>exact absurd h0 (by omega)
   have PX:k<bs.length:=by rw[Ef.out];exact Hb
   have P_:k<s.users.length:=by rw[H7.out];exact Hb
   have ck:=hf.new.le _ _ (PQ k (by rw[List.length_map];exact PX));rw[List.getElem_map]at ck;have Ru:=(Hu.out.get k P_ PX).2.mono (zd _ _);obtain⟨nv,u0,u1⟩:=Ru.name;clear Ru;obtain⟨np,nn,nc,rfl,O8⟩:=u1.shape;have k0:=hf.new.le _ _ u0;have rZ:Bs wr.cell? s.users[k].name (.slice np nn nc):=u1.mono hf.new.le;obtain⟨x,hx⟩:∃x,s.users[k].name=x:=⟨_,rfl⟩;rw[hx]at rZ;have SC:(s.users.map (·.name))[k]'(by rw[List.length_map];exact P_)=x:=by rw[List.getElem_map,hx]
   have Rf:∀m,(convert 75 9 (.slice np nn nc)).run prog (wr.drewN m)=.ok (.string ⟨x.toArray⟩) (wr.drewN m):=λm=>kN (w:=wr.drewN m) (show Bs (wr.drewN m).cell? x _ from rZ) 75 5 9 (by kernel_rfl) (by kernel_rfl) (by kernel_rfl);have NA:=Rf 0;have SV:=Rf 1;have h1:wr.drewN 1=wr.drew:=rfl;rw[h1]at SV;have Eg:(k:Int)<n:=by omega
   have sN:wr.cell? ⟨vb,k,none⟩=some (.string ⟨#[]⟩)/\wr.frozen? ⟨vb,k,none⟩=false:=by
    constructor
    ·rw[cell_of_row wr vb k _ _ (0,0) hf.row];have hl:((((s.users.map (·.name)).take k).map zb)).length=k:=by rw[List.length_map,List.length_take,List.length_map];omega
     have:(((s.users.map (·.name)).take k).map zb++List.replicate (n-k) (Value.string ⟨#[]⟩))[k]? =some (.string ⟨#[]⟩):=by rw[List.getElem?_append_right (by omega),hl,Nat.sub_self,List.getElem?_replicate,if_pos (by omega)]
     simpa using this
    ·simp[World.frozen?,hf.row]
   obtain⟨cv,fv⟩:=sN;have O9:=hid SC;have O_:=hid P_;clear O8 pZ PQ hf rZ Rf h1 u0 u1;go_wp2_with fail;go_region
   all_goals
    go_wp2;go_roundw
    case rel=>refine⟨k+1,by omega,by go_num,?_⟩;have Mm:=HF.out.step (by rw[List.length_map];exact H7.out) (by rw[List.length_map];exact O_.out) 1;rw[O9.out]at Mm;exact Mm
    case measure=>simp[intOf];omega
  ·have ph:k=n:=by omega
   subst ph;go_wp2;go_returns;have pw:=Ll.out.bnd;have hf:=HF.out;exact⟨_,_,l,I,rfl,zN.same_refl I,Ph.out.trans (zr.new pw hf.new),⟨_,_,_,_,Ll.out.new hf.new⟩,c0,hf.sl (by rw[List.length_map];exact H7.out) (by omega) pw⟩
variable{l':zu}
theorem Wd.cstep{w:World}{I:zN}{s:zA}(h:Wd l w x I a s)(hc:qD l w l' w')(hk:∀j,l j=12\/l j=13\/l j=15\/l j=17->w'.heap[j]? =w.heap[j]?):Wd l' w' x I a s where
 row:=by rw[hk x (Or.inr (Or.inr (Or.inr h.lab)))];exact h.row
 lab:=by rw[hc.old x (Array.getElem?_eq_some_iff.1 h.row).1];exact h.lab
 st:=h.st.keep hc λj e=>hk j (by rcases e with e|e|e<;>simp[e])
def qQ:Array Value:= #[.int .i64 0,.int .u64 0,.bool false,.bool false,.slice none 0 0,.slice none 0 0]
def xF(a:vN)(nv pv:Value):Array Value:= #[.int .i64 a.err,.int .u64 a.rev,.bool a.on,.bool a.yes,nv,pv]
def Zt(p:zh):List Value:=[.int .i64 p.kind,zb p.key,zb p.stop]
def Jt(r:Rd)(v:Value)(a:vN):Prop:=∃nv pv,v=.agg (xF a nv pv)/\Sl r 1 (a.names.map zb) nv/\Sl r 3 (a.perms.flatMap Zt) pv
def fR(l:zu)(w:World)(x:Nat)(I:zN)(t:zA×vN)(e:Ending)(w':World):Prop:=
 ∃v l' I' a',e=.returned v/\I'.db=I.db/\qF l w l' w'/\Wd l' w' x I' a' t.1/\Jt (im l'.some w') v t.2
structure yV(l:zu)(w:World)(x:Nat)(I:zN)(oc:Array Value)(l':zu)(W:World)(I':zN)(a:Nat)(s:zA)(an:vN)(nv pv:Value):Prop where
 db:I'.db=I.db
 st:qF l w l' W
 wd:Wd l' W x I' a s
 lo:l' w.heap.size=0
 lr:l' (w.heap.size+1)=14
 la:l' (w.heap.size+1+1)=14
 ro:W.heap[w.heap.size]? =some (.cells oc 35 (0,0))
 rr:W.heap[w.heap.size+1]? =some (.cells qQ 42 (0,0))
 ra:W.heap[w.heap.size+1+1]? =some (.cells (xF an nv pv) 42 (0,0))
 sn:Sl (im l'.some W) 1 (an.names.map zb) nv
 sp:Sl (im l'.some W) 3 (an.perms.flatMap Zt) pv
def Kj:vN:=⟨0,0,false,false,[],[]⟩
def ja:Value:=.slice none 0 0
theorem yV.start{w:World}{I:zN}{s:zA}(h:Wd l w x I a s)(oc:Array Value):
  ∃l',yV l w x I oc l' (((w.alloc (.cells oc 35)).alloc (.cells qQ 42)).alloc (.cells qQ 42)) I a s Kj ja ja:=by
 obtain⟨w1,Hh⟩:=zex (w.alloc (.cells oc 35));obtain⟨w2,PO⟩:=zex (w1.alloc (.cells qQ 42));obtain⟨w3,pu⟩:=zex (w2.alloc (.cells qQ 42));rw[<-Hh,<-PO,<-pu];have s1:w1.heap.size=w.heap.size+1:=by rw[Hh];exact Array.size_push ..
 have s2:w2.heap.size=w.heap.size+1+1:=by rw[PO,<-s1];exact Array.size_push ..
 have s3:w3.heap.size=w.heap.size+1+1+1:=by rw[pu,<-s2];exact Array.size_push ..
 have n1:za w w1:=by rw[Hh];exact(za.refl w).alloc _
 have n2:za w1 w2:=by rw[PO];exact(za.refl w1).alloc _
 have n3:za w2 w3:=by rw[pu];exact(za.refl w2).alloc _
 have hn:=(n1.trans n2).trans n3;have hz:∀j,w.heap.size<=j->l j=0:=λj hj=>by
  by_cases e:l j=0
  ·exact e
  ·have:=h.st.bnd _ e;omega
 have hc:=qD.own (l:=l) (F:=λj=>j=w.heap.size+1\/j=w.heap.size+1+1) (n:=14) h.st.bnd (hn.mod _) (λb hb=>Or.inr (by rcases hb with rfl|rfl<;>omega));refine⟨_,rfl,⟨hn.mod _,hc.old,hc.bnd⟩,h.cstep hc λj e=>hn.block j (h.st.bnd j (by omega)) (λe=>e),?_,?_,?_,?_,?_,?_,Sl.nil _ _,Sl.nil _ _⟩
 ·rw[zu.add_neg (by omega)];exact hz _ (Nat.le_refl _)
 ·exact zu.add_pos (Or.inl rfl) (hz _ (by omega))
 ·exact zu.add_pos (Or.inr rfl) (hz _ (by omega))
 ·exact(n2.trans n3).heap (by rw[Hh];exact zg w _)
 ·rw[<-s1];exact n3.heap (by rw[PO];exact zg w1 _)
 ·rw[<-s2,pu];exact zg w2 _
section
variable{l l1 l2:zu}{w W W1 W2:World}{x a a2:Nat}{I I1 I2:zN}{s s2:zA}{oc:Array Value}{an:vN}{nv pv:Value}
theorem yV.lt(h:yV l w x I oc l1 W I1 a s an nv pv):w.heap.size+1+1<W.heap.size:=(Array.getElem?_eq_some_iff.1 h.ra).1
theorem yV.new(h:yV l w x I oc l1 W I1 a s an nv pv)(hn:za W W1):yV l w x I oc l1 W1 I1 a s an nv pv:=
 ⟨h.db,h.st.trans (qF.new h.wd.st.bnd hn),h.wd.new hn,h.lo,h.lr,h.la,hn.heap h.ro,hn.heap h.rr,hn.heap h.ra,h.sn.mono (hn.im _),h.sp.mono (hn.im _)⟩
theorem yV.wcall(h:yV l w x I oc l1 W I1 a s an nv pv)(rE:I2.db=I1.db)(hs:qF l1 W l2 W2)(ht:Wd l2 W2 x I2 a2 s2):yV l w x I oc l2 W2 I2 a2 s2 an nv pv:=by
 have Hb:=h.lt;have e0:=hs.old w.heap.size (by omega);have e1:=hs.old (w.heap.size+1) (by omega);have e2:=hs.old (w.heap.size+1+1) (by omega);refine⟨rE.trans h.db,h.st.trans hs,ht,e0.trans h.lo,e1.trans h.lr,e2.trans h.la,?_,?_,?_,h.sn.mono hs.le,h.sp.mono hs.le⟩
 ·rw[hs.mod.block _ (by omega) (λe=>e.1 h.lo)];exact h.ro
 ·rw[hs.mod.block _ (by omega) (λe=>e.2 h.lr)];exact h.rr
 ·rw[hs.mod.block _ Hb (λe=>e.2 h.la)];exact h.ra
theorem yV.call(h:yV l w x I oc l1 W I1 a s an nv pv)(hn:za W W1)(hs:zr l1 W1 l2 W2)(hI:I1.same I2)(ht:Zk l2 W2 a I2 s2):yV l w x I oc l2 W2 I2 a s2 an nv pv:=by have h1:=h.new hn;exact h1.wcall hI.2.2.2 hs.w (h1.wd.call hs hI ht)
theorem yV.mod(h:yV l w x I oc l1 W I1 a s an nv pv){b:Nat}(hb:b=w.heap.size+1\/b=w.heap.size+1+1)(hm:zq (· =b) W W2):qF l w l1 W2/\Wd l1 W2 x I1 a s/\(im l1.some W).le (im l1.some W2):=by
 have CQ:l1 b=14:=by rcases hb with rfl|rfl;exact h.lr;exact h.la
 have hz:=h.st.mod.size;have hc:qD l1 W l1 W2:=⟨hm.mono λj _ e=>by rw[e,CQ];decide,λ_ _=>rfl,λb e=>Nat.lt_of_lt_of_le (h.wd.st.bnd b e) hm.size⟩;exact⟨⟨zq.trans h.st.mod hm λb hb e=>by omega,h.st.old,hc.bnd⟩,h.wd.cstep hc λj e=>hm.block j (h.wd.st.bnd j (by omega)) (λe2=>by rw[e2,CQ]at e;omega),hc.le⟩
theorem yV.set(h:yV l w x I oc l1 W I1 a s an nv pv){i:Nat}{v:Value}{an':vN}{nv' pv':Value}(he:(xF an nv pv).setIfInBounds i v=xF an' nv' pv')(h1:Sl (im l1.some W) 1 (an'.names.map zb) nv')(h2:Sl (im l1.some W) 3 (an'.perms.flatMap Zt) pv'):yV l w x I oc l1 (W.setCell ⟨w.heap.size+1+1,i,none⟩ v) I1 a s an' nv' pv':=by
 have hm:zq (· =w.heap.size+1+1) W (W.setCell ⟨w.heap.size+1+1,i,none⟩ v):=vx (S:=(· =w.heap.size+1+1)) (zq.refl _ _) rfl _;have Hb:=h.lt;obtain⟨Hi,Ez,hY⟩:=h.mod (Or.inr rfl) hm;refine⟨h.db,Hi,Ez,h.lo,h.lr,h.la,?_,?_,?_,h1.mono hY,h2.mono hY⟩
 ·rw[hm.block _ (by omega) (by omega)];exact h.ro
 ·rw[hm.block _ (by omega) (by omega)];exact h.rr
 ·rw[heap_setCell_same W _ i _ _ _ h.ra,he]
theorem yV.setErr(h:yV l w x I oc l1 W I1 a s an nv pv)(n:Nat):yV l w x I oc l1 (W.setCell ⟨w.heap.size+1+1,0,none⟩ (.int .i64 n)) I1 a s {an with err:=n} nv pv:=h.set rfl h.sn h.sp
theorem yV.setRev(h:yV l w x I oc l1 W I1 a s an nv pv)(n:Nat):yV l w x I oc l1 (W.setCell ⟨w.heap.size+1+1,1,none⟩ (.int .u64 n)) I1 a s {an with rev:=n} nv pv:=h.set rfl h.sn h.sp
theorem yV.setOn(h:yV l w x I oc l1 W I1 a s an nv pv)(b:Bool):yV l w x I oc l1 (W.setCell ⟨w.heap.size+1+1,2,none⟩ (.bool b)) I1 a s {an with on:=b} nv pv:=h.set rfl h.sn h.sp
theorem yV.setYes(h:yV l w x I oc l1 W I1 a s an nv pv)(b:Bool):yV l w x I oc l1 (W.setCell ⟨w.heap.size+1+1,3,none⟩ (.bool b)) I1 a s {an with yes:=b} nv pv:=h.set rfl h.sn h.sp
theorem yV.setNames(h:yV l w x I oc l1 W I1 a s an nv pv){v:Value}{ns:List Bytes}(hv:Sl (im l1.some W) 1 (ns.map zb) v):yV l w x I oc l1 (W.setCell ⟨w.heap.size+1+1,4,none⟩ v) I1 a s {an with names:=ns} v pv:=h.set rfl hv h.sp
theorem yV.cell(h:yV l w x I oc l1 W I1 a s an nv pv):W.cell? ⟨x,2,none⟩=some (.iface 142 (ptr a)):=(vX h.wd.row).2.2.1
theorem yV.ocell(h:yV l w x I oc l1 W I1 a s an nv pv)(i:Nat):W.cell? ⟨w.heap.size,i,none⟩=oc[i]? :=by rw[cell_of_row W _ i _ _ (0,0) h.ro]
theorem yV.acell(h:yV l w x I oc l1 W I1 a s an nv pv)(i:Nat):W.cell? ⟨w.heap.size+1+1,i,none⟩=(xF an nv pv)[i]? :=by rw[cell_of_row W _ i _ _ (0,0) h.ra]
theorem yV.rcell(h:yV l w x I oc l1 W I1 a s an nv pv)(i:Nat):W.cell? ⟨w.heap.size+1,i,none⟩=qQ[i]? :=by rw[cell_of_row W _ i _ _ (0,0) h.rr]
theorem yV.afree(h:yV l w x I oc l1 W I1 a s an nv pv)(i:Nat):W.frozen? ⟨w.heap.size+1+1,i,none⟩=false:=by simp[World.frozen?,h.ra]
theorem yV.rfree(h:yV l w x I oc l1 W I1 a s an nv pv)(i:Nat):W.frozen? ⟨w.heap.size+1,i,none⟩=false:=by simp[World.frozen?,h.rr]
theorem yV.rev(h:yV l w x I oc l1 W I1 a s an nv pv):Calls prog 54 #[ptr a] W λe w'=>e=.returned (.int .u64 s.rev)/\W=w':=by obtain⟨A,ab,m,lg,hp⟩:=h.wd.st;exact Vh hp.row
theorem yV.on(h:yV l w x I oc l1 W I1 a s an nv pv):Calls prog 160 #[ptr a] W λe w'=>e=.returned (.bool s.on)/\W=w':=by obtain⟨A,ab,m,lg,hp⟩:=h.wd.st;exact WJ hp.row
theorem yV.fin(h:yV l w x I oc l1 W I1 a s an nv pv)(hm:zq (· =w.heap.size+1) W W2){t:zA×vN}(ht:t=(s,an)):fR l w x I t (.returned (.agg (xF an nv pv))) W2:=by obtain⟨Hi,Ez,hY⟩:=h.mod (Or.inl rfl) hm;rw[ht];exact⟨_,l1,I1,a,rfl,h.db,Hi,Ez,nv,pv,rfl,h.sn.mono hY,h.sp.mono hY⟩
end
variable{b:Nat}
theorem U2{tmps:Array Value}{cs:Array Value}(hb:tmps.getD 4 undef=ptr b)(hr:W.heap[b]? =some (.cells cs 42 (0,0)))(hz:cs.size=6):
  (results f33 tmps).run prog W=.ok (.agg cs) W:=by
 have h1:(prog.info? 42).map (·.size)=some cs.toList.length:=by rw[Array.length_toList,hz];kernel_rfl
 have h2:=run_loadVar_mid W b 0 42 cs.toList _ (λj v hj=>by rw[Nat.zero_add,cell_of_row W b j _ _ (0,0) hr,<-hj,Array.getElem?_toList]) underlying42 (by kernel_rfl) h1;have h2:(loadVar 42 ⟨b,0,none⟩).run prog W=.ok (.agg cs) W:=h2;have hb:tmps[4]?.getD undef=ptr b:=by simpa using hb
 simp[results,results33,hb,asAddr,h2]
variable{nv pv:Value}
theorem yV.leave{l1:zu}{w:World}{I I1:zN}{s:zA}{oc:Array Value}{an:vN}(h:yV l w x I oc l1 W I1 a s an nv pv){t:zA×vN}(ht:t=(s,an)){A:Act}(hA:A.tmps.getD 4 undef=ptr (w.heap.size+1))(hd:A.defers=[]):
  bodyPost prog f33 (fR l w x I t) .ret A ((((((W.setCell ⟨w.heap.size+1,0,none⟩ (.int .i64 an.err)).setCell ⟨w.heap.size+1,1,none⟩ (.int .u64 an.rev)).setCell ⟨w.heap.size+1,2,none⟩ (.bool an.on)).setCell ⟨w.heap.size+1,3,none⟩ (.bool an.yes)).setCell ⟨w.heap.size+1,4,none⟩ nv).setCell ⟨w.heap.size+1,5,none⟩ pv):=by
 have h0:zq (· =w.heap.size+1) W W:=zq.refl _ _;refine bodyPost_ret (v:=.agg (xF an nv pv)) (U2 hA ?_ rfl) hd (h.fin ((((((h0.setCell (p:=⟨_,0,none⟩) (λ_=>rfl) _).setCell (p:=⟨_,1,none⟩) (λ_=>rfl) _).setCell (p:=⟨_,2,none⟩) (λ_=>rfl) _).setCell (p:=⟨_,3,none⟩) (λ_=>rfl) _).setCell (p:=⟨_,4,none⟩) (λ_=>rfl) _).setCell (p:=⟨_,5,none⟩) (λ_=>rfl) _) ht);exact heap_setCell_same _ _ 5 _ _ _ (heap_setCell_same _ _ 4 _ _ _ (heap_setCell_same _ _ 3 _ _ _ (heap_setCell_same _ _ 2 _ _ _ (heap_setCell_same _ _ 1 _ _ _ (heap_setCell_same _ _ 0 _ _ _ h.rr)))))
theorem qt(a:Nat)(W:World):(method 608 142 (ptr a) "IsAuthEnabled").run prog W=.ok (160,ptr a) W:=by kernel_rfl
section
variable{l l1:zu}{w W W1:World}{x a:Nat}{I I1:zN}{s:zA}{oc:Array Value}{an:vN}{nv pv:Value}{f:FuncId}{args:Array Value}
theorem yV.names(h:yV l w x I oc l1 W I1 a s an nv pv)(hn:za W W1){xs:List Bytes}(hc:Calls prog f args W1 (GA l1 W1 a I1 s xs)):
  Calls prog f args W1 λe w'=>∃b p n c,e=.returned (.tuple #[ptr b,.nilIface])/\(∃l2 I2,yV l w x I oc l2 w' I2 a s an nv pv/\Sl (im l2.some w') 1 (xs.map zb) (.slice p n c))/\w'.cell? ⟨b,0,none⟩=some (.slice p n c)/\w'.cell? ⟨w.heap.size+1+1,4,none⟩=some nv/\w'.frozen? ⟨w.heap.size+1+1,4,none⟩=false:=by
 refine hc.mono ?_;rintro e w' ⟨b,v,l2,I2,rfl,hI,hs,ht,hv,pW⟩;have hd:=h.call hn hs hI ht;obtain⟨p,n,c,rfl⟩:=pW.shape;exact⟨b,p,n,c,rfl,⟨l2,I2,hd,pW⟩,hv,hd.acell 4,hd.afree 4⟩
theorem yV.fails(h:yV l w x I oc l1 W I1 a s an nv pv)(hn:za W W1){ec:Nat}{T:Nat}{sv:Value}(M9:ze ec=.iface T sv)(hc:Calls prog f args W1 (VV l1 W1 a I1 s ec)):
  Calls prog f args W1 λe w'=>∃v,e=.returned (.tuple #[v,.iface T sv])/\∃l2 I2,yV l w x I oc l2 w' I2 a s an nv pv:=by
 refine hc.mono ?_;rintro e w' ⟨v,rfl,l2,I2,hI,hs,ht⟩;rw[M9];exact⟨v,rfl,l2,I2,h.call hn hs hI ht⟩
theorem yV.asks(h:yV l w x I oc l1 W I1 a s an nv pv)(hn:za W W1){n:Nat}(hc:Calls prog f args W1 (Qx l1 W1 a I1 s n)):
  Calls prog f args W1 λe w'=>e=.returned (ze n)/\∃l2 I2,yV l w x I oc l2 w' I2 a s an nv pv:=by
 refine hc.mono ?_;rintro e w' ⟨rfl,l2,hs,ht⟩;exact⟨rfl,l2,I1,h.call hn hs (zN.same_refl I1) ht⟩
end
theorem QH{t:Bytes}{tx:ByteArray}(ht:zb t=.string tx)(hl:t.length<=1000000):∃(fn fc:World->Nat) (fw:World->World),(∀W,(convert 9 75 (.string tx)).run prog W=.ok (.slice (some ⟨W.heap.size,0,none⟩) (fn W) (fc W)) (fw W))/\
  (∀W,za W (fw W))/\(∀W,W.heap.size<(fw W).heap.size)/\∀W,Bs (fw W).cell? t (.slice (some ⟨W.heap.size,0,none⟩) (fn W) (fc W)):=by
 have h:∀W:World,∃z:Nat×Nat×World,(convert 9 75 (.string tx)).run prog W=.ok (.slice (some ⟨W.heap.size,0,none⟩) z.1 z.2.1) z.2.2/\za W z.2.2/\W.heap.size<z.2.2.heap.size/\Bs z.2.2.cell? t (.slice (some ⟨W.heap.size,0,none⟩) z.1 z.2.1):=λW=>by obtain⟨v1,w1,h1,n1,b1,⟨an,ac,rfl⟩,l1⟩:=jO (P:=prog) W 9 75 5 (l:=t) (u:=.string) (by kernel_rfl) (by kernel_rfl) (by kernel_rfl) hl;exact⟨(an,ac,w1),by rw[<-ht];exact h1,n1,l1,b1⟩
 obtain⟨g,hg⟩:=Classical.axiomOfChoice h;exact⟨λW=>(g W).1,λW=>(g W).2.1,λW=>(g W).2.2,λW=>(hg W).1,λW=>(hg W).2.1,λW=>(hg W).2.2.1,λW=>(hg W).2.2.2⟩
variable{c:Nat}
theorem yq{W0:World}(hn:za W0 W):∀j,(Value.slice (some ⟨W.heap.size,0,none⟩) n c).ownBlock=some j->W0.heap.size<=j:=λj e=>by
 have e:W.heap.size=j:=by simpa[Value.ownBlock]using e
 have:=hn.size;omega
def zdI(o:zH):Prop:=∀{l:zu} {w:World} {x a k g:Nat} {I:zN} {s:zA},Wd l w x I a s->Ok s k->k<=98->Xc s g->g+o.g<=12->Calls prog 33 #[ptr x,o.val] w (fR l w x I (s.step o))
def gs(l:List zH):Nat:=(l.map zH.g).sum
def JS(r:Rd)(v:Value)(aa:List vN):Prop:=∃vs:List (Array Value),Sl r 6 (vs.flatMap Array.toList) v/\qz (λc a=>Jt r (.agg c) a) vs aa
variable{r r':Rd}{v:Value}
theorem Jt.mono(hr:r.le r'){a:vN}(h:Jt r v a):Jt r' v a:=by obtain⟨nv,pv,h1,h2,h3⟩:=h;exact⟨nv,pv,h1,h2.mono hr,h3.mono hr⟩
theorem Jt.size{c:Array Value}{a:vN}(h:Jt r (.agg c) a):c.size=6:=by
 obtain⟨nv,pv,h1,_⟩:=h;injection h1 with h1
 rw[h1];rfl
theorem Jt.one{c:Array Value}{a:vN}(h:Jt r (.agg c) a):∀u∈c.toList,u.oneCell'=true:=by
 obtain⟨nv,pv,h1,h2,h3⟩:=h;injection h1 with h1
 obtain⟨p,n,q,rfl⟩:=h2.shape;obtain⟨p2,n2,q2,rfl⟩:=h3.shape;rw[h1];intro u hu;simp only[xF,List.mem_cons,List.not_mem_nil,or_false]at hu;rcases hu with rfl|rfl|rfl|rfl|rfl|rfl<;>rfl
theorem DM{w:World}:Calls prog 31 #[] w λe w'=>e=.returned (ptr w.heap.size)/\w'=w.alloc (.cells #[.slice none 0 0] 79):=by go_enter func31,ntmps31;go_wp2;go_returns;exact⟨rfl,rfl⟩
theorem zaA:∀(l:List zH) {s:zA} {k g:Nat},Ok s k->Xc s g->(∀o∈l,o.runs)->Ok (s.after l) (k+l.length)/\Xc (s.after l) (g+gs l)
 |[],s,k,g,h,hf,_=>⟨h,hf⟩
 |o::l,s,k,g,h,hf,ho=>by have h1:=zbp h (ho o (by simp)).fits;have h2:=W_ h hf (ho o (by simp)).role.2;have h3:=zaA l h1 h2 λx hx=>ho x (by simp[hx]);show Ok ((s.step o).1.after l) _/\Xc ((s.step o).1.after l) _;unfold gs at h3⊢;rw[List.map_cons,List.sum_cons,List.length_cons];exact⟨h3.1.le (by omega),h3.2.le (by omega)⟩
theorem U3{l:List zH}(hk:k<l.length)(s:zA):s.after (l.take (k+1))=((s.after (l.take k)).step l[k]).1:=by unfold zA.after;rw[List.take_succ_eq_append_getElem hk,List.foldl_append];rfl
theorem zaB{l:List zH}(hk:k<l.length)(s:zA):s.run (l.take (k+1))=s.run (l.take k)++[((s.after (l.take k)).step l[k]).2]:=by rw[List.take_succ_eq_append_getElem hk,Vt];rfl
theorem zbP{l:List zH}(hk:k<l.length):gs (l.take k)+l[k].g<=gs l:=by
 have h:=List.take_append_drop k l;have h2:l.drop k=l[k]::l.drop (k+1):=List.drop_eq_getElem_cons hk;have h3:gs l=gs (l.take k)+gs (l.drop k):=by unfold gs;rw[<-List.sum_append,<-List.map_append,h]
 rw[h3,h2];show _<=_+((l[k]::l.drop (k+1)).map zH.g).sum;rw[List.map_cons,List.sum_cons];omega
structure AuS(w:World)(x:Nat)(W:World)(I:zN)(s:zA)(v:Value)(k:Nat)(aa:List vN)(l:zu)(a:Nat)(vs:List (Array Value)):Prop where
 mod:za w W
 wd:Wd l W x I a s
 old:∀j,j<w.heap.size->l j=0
 own:W.ownsRow w.heap.size 42 6 v k (vs.flatMap Array.toList)
 lab:∀b,v.ownBlock=some b->l b=14
 ans:qz (λc a=>Jt (im l.some W) (.agg c) a) vs aa
section
variable{w W W2 W5:World}{x k a a2:Nat}{I I2:zN}{s:zA}{v v5:Value}{aa:List vN}{l l2:zu}{vs:List (Array Value)}{t:zA×vN}{c:Array Value}
theorem AuS.app(h:AuS w x W I s v k aa l a vs)(hs:qF l W l2 W2)(hd:Wd l2 W2 x I2 a2 t.1)(hr:Jt (im l2.some W2) (.agg c) t.2){o:Obj}
  (ho:W5.ownsRow 0 42 6 v5 (k+1) (vs.flatMap Array.toList++c.toList))(hg:(W2.alloc o).grownBy W5 v.ownBlock)(hf:∀q,v5.ownBlock=some q->v.ownBlock=some q\/(W2.alloc o).heap.size<=q):
  ∃l5,AuS w x W5 I2 t.1 v5 (k+1) (aa++[t.2]) l5 a2 (vs++[c]):=by
 have hn:za W2 (W2.alloc o):=(za.refl W2).alloc o;have pL:(W2.alloc o).heap.size=W2.heap.size+1:=Array.size_push ..
 have P6:=zq.of_grown hg;have pD:∀q,v.ownBlock=some q->w.heap.size<=q/\q<W.heap.size:=λq hq=>World.ownsRow.lt h.own q hq;have tX:∀q,v.ownBlock=some q->l2 q=14:=λq hq=>by rw[hs.old q (pD q hq).2];exact h.lab q hq
 have pr:zq (λj=>v.ownBlock=some j) W2 W5:=zq.trans (hn.mod _) P6 λ_ _ e=>e;have lT:∀q,v5.ownBlock=some q->q<W5.heap.size:=λq hq=>(World.ownsRow.lt ho q hq).2;have hc:=qD.own (l:=l2) (F:=λj=>v5.ownBlock=some j) (n:=14) hd.st.bnd (pr.mono λj _ e=>by rw[tX j e];decide) λb hb=>by
  rcases hf b hb with e|e
  ·exact Or.inl (by rw[tX b e];decide)
  ·exact Or.inr ⟨by omega,lT b hb⟩
 have hw:w.heap.size<=W.heap.size:=h.mod.size;have PO:W.heap.size<=W2.heap.size:=hs.size;refine⟨_,?_,hd.cstep hc λj e=>pr.block j (hd.st.bnd j (by omega)) (λe2=>by rw[tX j e2]at e;omega),λj hj=> ?_,?_,λb hb=> ?_,?_⟩
 ·refine zq.trans (zq.trans h.mod hs.mod λb hb e=>e.1 (h.old b hb)) pr λb hb e=> ?_;have:=(pD b e).1;omega
 ·rw[hc.old j (by omega),hs.old j (by omega)];exact h.old j hj
 ·rw[List.flatMap_append,List.flatMap_cons,List.flatMap_nil,List.append_nil];refine⟨ho.1,?_⟩;rcases ho.2 with h3|⟨g,cap,cur,rfl,_,h5⟩
  ·exact Or.inl h3
  ·refine Or.inr ⟨g,cap,cur,rfl,?_,h5⟩;rcases hf g rfl with e|e
   ·exact(pD g e).1
   ·omega
 ·by_cases e:l2 b=0
  ·exact zu.add_pos hb e
  ·rw[zu.add_old e];rcases hf b hb with e2|e2
   ·exact tX b e2
   ·have:=hd.st.bnd b e;omega
 ·have h1:qz (λc a=>Jt (im l2.some W2) (.agg c) a) (vs++[c]) (aa++[t.2]):=(h.ans.mono λ_ _ hx=>hx.mono hs.le).append (qz.cons hr qz.nil);exact h1.mono λ_ _ hx=>hx.mono hc.le
end
variable{R:Value->World->Prop}
theorem Km{T:TypeId}{w:World}(hx:w.heap[x]? =some (.cells #[.iface T v,.pointer none] 419 (0,0)))
  (hc:Calls prog 274 #[.pointer none,.iface T v] w.drew λe w'=>∃r,e=.returned r/\R r w'):
  Calls prog 264 #[ptr x] w λe w'=>∃r,e=.returned r/\R r w':=by
 obtain⟨c0,c1,_⟩:=qS hx;have HC:=hid hc;clear hc hx;go_enter func264,ntmps264;go_wp2_with fail;go_region_with (refine HC.out.mono ?_;rintro e w1 ⟨r,rfl,hr⟩;have HR:=hid hr;clear hr)
 all_goals
  go_wp2;go_returns;exact⟨_,rfl,HR.out⟩
variable{A:yr}{pdel pend:Nat}{us:zF->List Bytes}
theorem fF{I:zN}{s:zA}{on:Bool}{rev:Nat}(hf:q9 s)(hA:ym A on rev)(h:kZ l W I (s.db A) pend pdel us)(hx:qd l W x 257 I.t 419)(Hb:∀r∈s.roles,zt r.name [255]<0):
  Calls prog 264 #[ptr x] W λe w'=>∃r,e=.returned r/\(za W w'/\fE l.some W w' s.roles r):=by
 obtain⟨C,wb,rb,e2,e4,hB,h1,h2,h3,h4⟩:=h;have hk:=hf.dbOk hA;refine Km hx.2 ((DN (S:=l.some) (lg:=.pointer none) (w:=W.drew) (us:=s.roles) (gG I.t) (Uo I.t) (λ_ _=>by kernel_rfl) hB.bnd ?_ (by have:=hf.rl;omega) hf.rok).mono ?_)
 ·intro W1 kv ev hn Sh M9;have hW:=(hB.ofNew (za.undrew hn)).2;obtain⟨bk,hj⟩:=xT h1 .roles;have Rm:=kh zF.roles;rw[<-vO h1]at Rm;refine(fD (S:=l.some) (F:=l.is 9) hW.bnd (λj e=>by show l j≠0;rw[e];decide) hW.bt hW.wtx hj Rm.1 Rm.2 (hk .roles).rise (hk .roles).ne (by have:=(hk .roles).len;omega) Sh M9 ?_).mono ?_
  ·intro p hp;obtain⟨r,hr,rfl⟩:=List.mem_map.1 hp;exact Hb r hr
  ·rintro e w' ⟨ks,vs,rfl,hn,hv⟩;refine⟨ks,vs,rfl,hn,?_⟩;have e9:((s.db A).get .roles).map (·.2)=s.roles.map zm.enc:=by
    show(VT zm.name zm.enc s.roles).map (·.2)=_;unfold VT;rw[List.map_map];rfl
   rw[<-e9];exact hv
 ·rintro e w' ⟨r,rfl,hn,hg⟩;exact⟨r,rfl,za.undrew hn,hg⟩
def zbS(l:zu)(w':World)(us:List zm)(v:Value):Prop:=
 ∃bs:List Nat,Sl (im l.some w') 1 (bs.map ptr) v/\qz (λu b=>jw (im l.some w') b u) us bs
variable{ab:Nat}{lg:Value}
theorem Kn{w:World}{I:zN}{s:zA}{m:Nat}(h:Q8 l w a I s A ab m lg)(Hb:∀r∈s.roles,zt r.name [255]<0):
  Calls prog 210 #[ptr ab] w λe w'=>∃r l' I',e=.returned r/\I.same I'/\zr l w l' w'/\Q8 l' w' a I' s A ab m lg/\zbS l' w' s.roles r:=by
 have HB:=hid (qO h.idle h.abe);have H:=hid h;have m2:=qw;have m4:=xK;have n3:=yd;have HLT:=hid Hb;clear h Hb;go_enter_defers func210,ntmps210;go_wp2_with fail;refine HB.out.mono ?_;rintro e w1 ⟨x,rfl,hQ,hx,pH⟩;have h1:=H.out.new hQ;have HL:=hid (jg h1.idle pH);have Pm:=hid (fF h1.fine h1.kv h1.idle pH HLT.out);have H1:=hid h1;have Hs:=hid hQ;have HAX:=hid pH;clear h1 hQ pH;go_wp2_with fail;refine HL.out.mono ?_;rintro e w2 ⟨rfl,rfl⟩;go_wp2_with fail;refine Pm.out.mono ?_;rintro e w2 ⟨r,rfl,Hj,H9⟩;have Pf:=hid Hj;have HG2:=hid H9;have hi:=ye x;clear Hj H9;go_wp2;refine leaves_cons (f:=261) (args:= #[ptr x]) (by simp) (hi _) ?_;have h2:=H1.out.new Pf.out;refine(qr h2.idle (by decide) qH (HAX.out.new Pf.out)).mono ?_;rintro e u' w'' ⟨rfl,rfl,l3,I3,Pa,Pc,rY⟩;obtain⟨bs,g1,g2,g3⟩:=HG2.out
 refine⟨r,results_tmp (t:=2) rfl _ _ _,r,l3,I3,rfl,Pc,(zr.new H.out.bnd (Hs.out.trans Pf.out)).trans Pa.s,h2.moved Pa Pc rY,bs,?_,?_⟩
 ·refine(Sl.im_of (S:=l.some) g1 λq e e2=> ?_).mono Pa.le;have:=g2 q e;have:=H1.out.bnd q e2;omega
 ·exact g3.mono λu b ⟨_,h9⟩=>h9.mono Pa.le
theorem fG{w:World}{rb:Nat}{I:zN}{s:zA}(h:Zk l w a I s)(Hb:∀r∈s.roles,zt r.name [255]<0):
  Calls prog 169 #[ptr a,ptr rb] w (GA l w a I s (s.roles.map (·.name))):=by
 obtain⟨A,ab,m,lg,h⟩:=h;have r2:w.cell? ⟨a,2,none⟩=some (.iface 149 (ptr ab)):=by rw[cell_of_row w a 2 _ _ (0,0) h.row];rfl
 have HG:=hid (Kn h Hb);clear Hb;have H:=hid h;have Bx:=hid h.fine.rl;clear h;go_enter func169,ntmps169;go_wp2_with fail;refine HG.out.mono ?_;rintro e w2 ⟨r,l2,I2,rfl,RY,Hi,rm,bs,g1i,g3⟩;have g1:=Sl.mono (zd _ _) g1i;obtain⟨vp,n,vc,rfl⟩:=g1.shape;have Ph:=hid Hi;have TK:=hid RY;have Ll:=hid rm;have Ro:s.roles.length=bs.length:=g3.length;have Li:bs.length=n:=by have:=g1.row.1;rw[List.length_map]at this;exact this
 have Hg:n<=300:=by have:=Bx.out;omega
 have H7:=hid (Ro.trans Li);have Ef:=hid Li;have Ni:=hid g1;have Hu:=hid g3;have Sr:=YP xS rfl w2 n (by omega) (by omega);obtain⟨W3,PD⟩:=zex (w2.alloc (.cells (List.replicate n (Value.string ⟨#[]⟩)).toArray 9));rw[<-PD]at Sr;obtain⟨W4,PJ⟩:=zex (W3.alloc (.cells #[.slice (some ⟨w2.heap.size,0,none⟩) n n] 118));have Pa:W3.heap.size=w2.heap.size+1:=by rw[PD];exact Array.size_push ..
 have wN:xh w2 W4 w2.heap.size W3.heap.size n 118 (s.roles.map (·.name)) 0:=by
  have n3:za w2 W3:=by rw[PD];exact(za.refl w2).alloc _
  have n4:za W3 W4:=by rw[PJ];exact(za.refl W3).alloc _
  refine⟨n3.trans n4,Nat.le_refl _,?_,?_,by omega,by omega⟩
  ·rw[List.take_zero,List.map_nil,List.nil_append,Nat.sub_zero];exact n4.heap (by rw[PD];exact zg w2 _)
  ·rw[PJ];exact zg W3 _
 have Ey:=hid wN;have sQ:=hid PJ;clear RY g1i Hi rm g1 g3 Ro Li wN PD PJ Pa;go_upto_region 3 with fail
 rw[<-sQ.out];obtain⟨rb4,Py⟩:∃q,W3.heap.size=q:=⟨_,rfl⟩;obtain⟨vb,TO⟩:∃q,w2.heap.size=q:=⟨_,rfl⟩;rw[Py,TO]at Ey;rw[Py];clear Sr Py;go_wp2;go_loopw [21] (λc wr=>∃k:Nat,k<=n/\c=.int .i64 k/\xh w2 wr vb rb4 n 118 (s.roles.map (·.name)) k) (λc _=>n-(intOf c).toNat)
 case atStart=>exact⟨0,Nat.zero_le _,rfl,Ey.out⟩
 case round=>
  obtain⟨k,hk,rfl,hf⟩:=hrel;have HF:=hid hf;obtain⟨c0,f0⟩:=zau hf.resp;by_cases Hb:k<n
  ·obtain⟨pZ,NZ,tT,⟨gb,go,rfl,PQ⟩|h0⟩:=Ni.out.row
   case inr=>exact absurd h0 (by omega)
   have PX:k<bs.length:=by rw[Ef.out];exact Hb
   have P_:k<s.roles.length:=by rw[H7.out];exact Hb
   have ck:=hf.new.le _ _ (PQ k (by rw[List.length_map];exact PX));rw[List.getElem_map]at ck;have Ru:=(Hu.out.get k P_ PX).mono (zd _ _);obtain⟨nv,u0,u1⟩:=Ru.name;clear Ru;obtain⟨np,nn,nc,rfl,O8⟩:=u1.shape;have k0:=hf.new.le _ _ u0;have rZ:Bs wr.cell? s.roles[k].name (.slice np nn nc):=u1.mono hf.new.le;obtain⟨x,hx⟩:∃x,s.roles[k].name=x:=⟨_,rfl⟩;rw[hx]at rZ;have SC:(s.roles.map (·.name))[k]'(by rw[List.length_map];exact P_)=x:=by rw[List.getElem_map,hx]
   have Rf:∀m,(convert 75 9 (.slice np nn nc)).run prog (wr.drewN m)=.ok (.string ⟨x.toArray⟩) (wr.drewN m):=λm=>kN (w:=wr.drewN m) (show Bs (wr.drewN m).cell? x _ from rZ) 75 5 9 (by kernel_rfl) (by kernel_rfl) (by kernel_rfl);have NA:=Rf 0;have SV:=Rf 1;have h1:wr.drewN 1=wr.drew:=rfl;rw[h1]at SV;have Eg:(k:Int)<n:=by omega
   have sN:wr.cell? ⟨vb,k,none⟩=some (.string ⟨#[]⟩)/\wr.frozen? ⟨vb,k,none⟩=false:=by
    constructor
    ·rw[cell_of_row wr vb k _ _ (0,0) hf.row];have hl:((((s.roles.map (·.name)).take k).map zb)).length=k:=by rw[List.length_map,List.length_take,List.length_map];omega
     have:(((s.roles.map (·.name)).take k).map zb++List.replicate (n-k) (Value.string ⟨#[]⟩))[k]? =some (.string ⟨#[]⟩):=by rw[List.getElem?_append_right (by omega),hl,Nat.sub_self,List.getElem?_replicate,if_pos (by omega)]
     simpa using this
    ·simp[World.frozen?,hf.row]
   obtain⟨cv,fv⟩:=sN;have O9:=hid SC;have O_:=hid P_;clear O8 pZ PQ hf rZ Rf h1 u0 u1;go_wp2_with fail;go_region
   all_goals
    go_wp2;go_roundw
    case rel=>refine⟨k+1,by omega,by go_num,?_⟩;have Mm:=HF.out.step (by rw[List.length_map];exact H7.out) (by rw[List.length_map];exact O_.out) 1;rw[O9.out]at Mm;exact Mm
    case measure=>simp[intOf];omega
  ·have ph:k=n:=by omega
   subst ph;go_wp2;go_returns;have pw:=Ll.out.bnd;have hf:=HF.out;exact⟨_,_,l2,I2,rfl,TK.out,Ph.out.trans (zr.new pw hf.new),⟨_,_,_,_,Ll.out.new hf.new⟩,c0,hf.sl (by rw[List.length_map];exact H7.out) (by omega) pw⟩
section
variable{α:Type}{nm:α->Bytes}
theorem Ju:∀{l:List α} {x:α} (_:∀y∈l,zt (nm y) (nm x)<0),yO nm l x=l++[x]
 |[],x,_=>by simp[yO,zx,zk]
 |y::l,x,h=>by rw[j9,if_pos (h y (by simp)),Ju λz hz=>h z (by simp[hz])];rfl
theorem X1:∀{l:List α} {x y:α} (_:∀z∈l,zt (nm z) (nm x)<0) (_:nm y=nm x),yO nm (l++[y]) x=l++[x]
 |[],x,y,_,e=>by show yO nm [y] x=[x];rw[j9,if_neg (by rw[e];exact zI _),if_pos e]
 |z::l,x,y,h,e=>by show yO nm (z::(l++[y])) x=z::(l++[x]);rw[j9,if_pos (h z (by simp)),X1 (λz hz=>h z (by simp[hz])) e]
theorem Jv:∀{l:List α} {y:α} {n:Bytes} (_:∀z∈l,zt (nm z) n<0) (_:nm y=n),qT nm (l++[y]) n=some y
 |[],y,n,_,e=>by show qT nm [y] n=some y;rw[j_,if_neg (by rw[e];exact zI _),if_pos e]
 |z::l,y,n,h,e=>by show qT nm (z::(l++[y])) n=some y;rw[j_,if_pos (h z (by simp)),Jv (λz hz=>h z (by simp[hz])) e]
theorem X2:∀{l:List α} {n:Bytes} (_:∀z∈l,zt (nm z) n<0),qT nm l n=none
 |[],n,_=>by simp[qT,zx,zk]
 |z::l,n,h=>by rw[j_,if_pos (h z (by simp)),X2 λz hz=>h z (by simp[hz])]
end
def uN:Bytes:=[117]
def qu(i:Nat):Bytes:=[114,111,108,101,UInt8.ofNat (97+i)]
def xt(n:Bytes):zH:=⟨3,n,[],0,[],[],false,0,false⟩
def yg(n r:Bytes):zH:=⟨5,n,r,0,[],[],false,0,false⟩
def yx(r:Bytes):zH:=⟨9,[],r,0,[],[],false,0,false⟩
def qA(r:Bytes)(p:zh):zH:=⟨11,[],r,p.kind,p.key,p.stop,false,0,false⟩
def vo:zH:=⟨1,[],[],0,[],[],false,0,false⟩
def zR(on:Bool)(rev:Nat)(ns:List Bytes)(rs:List zm):zA:=⟨on,rev,[⟨zL,[zL]⟩,⟨uN,ns⟩],rs⟩
theorem VN(on:Bool)(rev:Nat)(ns:List Bytes)(rs:List zm):(zR on rev ns rs).user zL=some ⟨zL,[zL]⟩:=by show qT zj.name [⟨zL,[zL]⟩,⟨uN,ns⟩] zL=_;rw[j_,if_neg (zI _),if_pos rfl]
theorem GC(on:Bool)(rev:Nat)(ns:List Bytes)(rs:List zm):(zR on rev ns rs).user uN=some ⟨uN,ns⟩:=by show qT zj.name [⟨zL,[zL]⟩,⟨uN,ns⟩] uN=_;rw[j_,if_pos (by show zt zL uN<0;decide),j_,if_neg (zI _),if_pos rfl]
theorem U7(on:Bool)(rev:Nat)(ns ms:List Bytes)(rs:List zm):(zR on rev ns rs).putUser ⟨uN,ms⟩=zR on (rev+1) ms rs:=by show(⟨on,rev+1,yO zj.name [⟨zL,[zL]⟩,⟨uN,ns⟩] ⟨uN,ms⟩,rs⟩:zA)=_;rw[j9,if_pos (by show zt zL uN<0;decide),j9,if_neg (zI _),if_pos rfl];rfl
variable{ns:List Bytes}{rs:List zm}
theorem dF{rev:Nat}{n:Bytes}(h0:n≠[])(h:∀r∈rs,zt r.name n<0):((zR false rev ns rs).step (yx n)).1=zR false (rev+1) ns (rs++[⟨n,[]⟩]):=by have h1:(zR false rev ns rs).role n=none:=X2 (nm:=zm.name) h;rw[yw (o:=yx n) (show ¬((9:Int)=7\/(9:Int)=8\/(13:Int)<=9/\(9:Int)<=19) by decide)];show((zR false rev ns rs).change (yx n)).1=_;have h2:(zR false rev ns rs).change (yx n)=vT (zR false rev ns rs) n:=uP rfl;rw[h2];unfold vT;rw[if_neg h0,h1];show(⟨false,rev+1,_,yO zm.name rs ⟨n,[]⟩⟩:zA)=_;rw[Ju (nm:=zm.name) (x:=⟨n,[]⟩) h];rfl
variable{p:zh}
theorem DO{rev:Nat}{n:Bytes}{ps:List zh}(h:∀r∈rs,zt r.name n<0)(hv:zU p.key p.stop=true):((zR false rev ns (rs++[⟨n,ps⟩])).step (qA n p)).1=zR false (rev+1) ns (rs++[⟨n,y_ ps p⟩]):=by
 have h1:(zR false rev ns (rs++[⟨n,ps⟩])).role n=some ⟨n,ps⟩:=Jv (nm:=zm.name) h rfl;rw[yw (o:=qA n p) (show ¬((11:Int)=7\/(11:Int)=8\/(13:Int)<=11/\(11:Int)<=19) by decide)];unfold zA.change;rw[if_neg (show ¬(qA n p).kind=1 from(by decide: ¬(11:Int)=1)),if_neg (show ¬(qA n p).kind=2 from(by decide: ¬(11:Int)=2)),if_neg (show ¬(qA n p).kind=3 from(by decide: ¬(11:Int)=3)),if_neg (show ¬(qA n p).kind=4 from(by decide: ¬(11:Int)=4)),if_neg (show ¬(qA n p).kind=5 from(by decide: ¬(11:Int)=5)),if_neg (show ¬(qA n p).kind=6 from(by decide: ¬(11:Int)=6)),if_neg (show ¬(qA n p).kind=9 from(by decide: ¬(11:Int)=9)),if_neg (show ¬(qA n p).kind=10 from(by decide: ¬(11:Int)=10)),if_pos (show(qA n p).kind=11 from rfl)]
 rw[if_neg (show ¬(qA n p).noPerm=true from(by decide: ¬false=true)),if_neg (by rw[show(qA n p).key=p.key from rfl,show(qA n p).stop=p.stop from rfl,hv];decide),show(qA n p).role=n from rfl,h1];show(⟨false,rev+1,_,yO zm.name (rs++[⟨n,ps⟩]) ⟨n,y_ ps ⟨((p.kind:Nat):Int).toNat,p.key,p.stop⟩⟩⟩:zA)=_;rw[X1 (nm:=zm.name) (x:=⟨n,y_ ps ⟨((p.kind:Nat):Int).toNat,p.key,p.stop⟩⟩) (y:=⟨n,ps⟩) h rfl];rfl
theorem fH{rev:Nat}{n:Bytes}{r:zm}(hr:qT zm.name rs n=some r)(hn:∀m∈ns,zt m n<0):((zR false rev ns rs).step (yg uN n)).1=zR false (rev+1) (ns++[n]) rs:=by rw[yw (o:=yg uN n) (show ¬((5:Int)=7\/(5:Int)=8\/(13:Int)<=5/\(5:Int)<=19) by decide)];unfold zA.change;rw[if_neg (show ¬(yg uN n).kind=1 from(by decide: ¬(5:Int)=1)),if_neg (show ¬(yg uN n).kind=2 from(by decide: ¬(5:Int)=2)),if_neg (show ¬(yg uN n).kind=3 from(by decide: ¬(5:Int)=3)),if_neg (show ¬(yg uN n).kind=4 from(by decide: ¬(5:Int)=4)),if_pos (show(yg uN n).kind=5 from rfl)];rw[show(yg uN n).user=uN from rfl,GC,show(yg uN n).role=n from rfl];have h1:(zR false rev ns rs).role n=some r:=hr;rw[h1];simp only[];rw[if_neg (λe=>by cases e.2),if_neg (λe=>zI _ (hn n e))];show(zR false rev ns rs).putUser ⟨uN,vW ns n⟩=_;have h2:vW ns n=ns++[n]:=Ju (nm:=id) hn;rw[h2,U7]
def kM(n:Bytes)(ps:List zh):List zH:=yx n::(ps.map (qA n)++[yg uN n])
theorem vq(l m:List zH)(s:zA):s.after (l++m)=(s.after l).after m:=List.foldl_append ..
theorem JT{ns:List Bytes}{rs:List zm}{n:Bytes}(h:∀r∈rs,zt r.name n<0):∀(ps qs:List zh) (rev:Nat),(∀p∈ps,zU p.key p.stop=true)->(zR false rev ns (rs++[⟨n,qs⟩])).after (ps.map (qA n))=zR false (rev+ps.length) ns (rs++[⟨n,ps.foldl y_ qs⟩])
 |[],qs,rev,_=>rfl
 |p::ps,qs,rev,hv=>by show zA.after ((zR false rev ns (rs++[⟨n,qs⟩])).step (qA n p)).1 (ps.map (qA n))=_;rw[DO h (hv p (by simp)),JT h ps (y_ qs p) (rev+1) λq hq=>hv q (by simp[hq])];rw[List.length_cons,show rev+1+ps.length=rev+(ps.length+1) by omega];rfl
theorem U8{rev:Nat}{n:Bytes}{ps:List zh}(h0:n≠[])(h:∀r∈rs,zt r.name n<0)(hn:∀m∈ns,zt m n<0)(hv:∀p∈ps,zU p.key p.stop=true):
  (zR false rev ns rs).after (kM n ps)=zR false (rev+ps.length+2) (ns++[n]) (rs++[⟨n,ps.foldl y_ []⟩]):=by
 show zA.after ((zR false rev ns rs).step (yx n)).1 (ps.map (qA n)++[yg uN n])=_;rw[dF h0 h,vq,JT h ps [] _ hv];show((zR false (rev+1+ps.length) ns (rs++[⟨n,ps.foldl y_ []⟩])).step (yg uN n)).1=_;rw[fH (Jv (nm:=zm.name) h rfl) hn,show rev+1+ps.length+1=rev+ps.length+2 by omega]
def kq:List zH:=[xt zL,yg zL zL,xt uN]
theorem VO:zA.start.after kq=zR false 4 [] []:=by
 have e1:(zA.start.step (xt zL)).1=⟨false,2,[⟨zL,[]⟩],[]⟩:=by rw[yw (by decide)];rfl
 have e2:((⟨false,2,[⟨zL,[]⟩],[]⟩:zA).step (yg zL zL)).1=⟨false,3,[⟨zL,[zL]⟩],[]⟩:=by rw[yw (by decide)];rfl
 have e3:((⟨false,3,[⟨zL,[zL]⟩],[]⟩:zA).step (xt uN)).1=zR false 4 [] []:=by rw[yw (by decide)];rfl
 unfold zA.after kq;simp only[List.foldl_cons,List.foldl_nil];rw[e1,e2,e3]
theorem JU(rev:Nat)(ns:List Bytes)(rs:List zm):(zR false rev ns rs).step vo=(zR true rev ns rs,⟨0,rev,true,false,[],[]⟩):=by rw[yw (by decide)];unfold zA.change;rw[if_pos (show vo.kind=1 from rfl),VN];rfl
variable{j:Nat}
theorem VP{i:Nat}(h:i<j)(hj:j<=3):zt (qu i) (qu j)<0:=by
 have:(i=0/\j=1)\/(i=0/\j=2)\/(i=0/\j=3)\/(i=1/\j=2)\/(i=1/\j=3)\/(i=2/\j=3):=by omega
 rcases this with⟨rfl,rfl⟩|⟨rfl,rfl⟩|⟨rfl,rfl⟩|⟨rfl,rfl⟩|⟨rfl,rfl⟩|⟨rfl,rfl⟩<;>decide
theorem zaK(i:Nat):qu i≠[]:=by unfold qu;simp
def qB:Nat->List (List zh)->List zH
 |_,[]=>[]
 |i,ps::l=>kM (qu i) ps++qB (i+1) l
def yJ(i:Nat)(l:List (List zh)):List Bytes:=match l with
 |[]=>[]
 |_::l=>qu i::yJ (i+1) l
def jk(i:Nat)(l:List (List zh)):List zm:=match l with
 |[]=>[]
 |ps::l=>⟨qu i,ps.foldl y_ []⟩::jk (i+1) l
theorem JV:∀(l:List (List zh)) (i rev:Nat) (ns:List Bytes) (rs:List zm),i+l.length<=3->(∀r∈rs,∃j,j<i/\r.name=qu j)->(∀m∈ns,∃j,j<i/\m=qu j)->(∀ps∈l,∀p∈ps,zU p.key p.stop=true)->
  ∃rev',(zR false rev ns rs).after (qB i l)=zR false rev' (ns++yJ i l) (rs++jk i l)
 |[],i,rev,ns,rs,_,_,_,_=>⟨rev,by simp[qB,yJ,jk,zA.after]⟩
 |ps::l,i,rev,ns,rs,hi,hr,hn,hv=>by
  rw[List.length_cons]at hi;have h1:∀r∈rs,zt r.name (qu i)<0:=λr h=>by obtain⟨j,hj,e⟩:=hr r h;rw[e];exact VP hj (by omega)
  have h2:∀m∈ns,zt m (qu i)<0:=λm h=>by obtain⟨j,hj,e⟩:=hn m h;rw[e];exact VP hj (by omega)
  have h3:=U8 (rev:=rev) (zaK i) h1 h2 (hv ps (by simp));obtain⟨rev',h4⟩:=JV l (i+1) (rev+ps.length+2) (ns++[qu i]) (rs++[⟨qu i,ps.foldl y_ []⟩]) (by omega) (λr h=>by
   rcases List.mem_append.1 h with h|h
   ·obtain⟨j,hj,e⟩:=hr r h;exact⟨j,by omega,e⟩
   ·rw[List.mem_singleton]at h;exact⟨i,by omega,by rw[h]⟩) (λm h=>by
   rcases List.mem_append.1 h with h|h
   ·obtain⟨j,hj,e⟩:=hn m h;exact⟨j,by omega,e⟩
   ·rw[List.mem_singleton]at h;exact⟨i,by omega,h⟩) (λqs hq=>hv qs (by simp[hq]))
  refine⟨rev',?_⟩;show(zR false rev ns rs).after (kM (qu i) ps++qB (i+1) l)=_;rw[vq,h3,h4];simp[yJ,jk]
def jE(l:List (List zh)):List zH:=kq++(qB 0 l++[vo])
theorem zcb{l:List (List zh)}(hl:l.length<=3)(hv:∀ps∈l,∀p∈ps,zU p.key p.stop=true):∃rev an,zA.start.after (jE l)=zR true rev (yJ 0 l) (jk 0 l)/\zA.start.run (jE l)=an++[⟨0,rev,true,false,[],[]⟩]:=by
 obtain⟨rev,h⟩:=JV l 0 4 [] [] (by omega) (λr h=>by cases h) (λr h=>by cases h) hv;rw[List.nil_append,List.nil_append]at h;refine⟨rev,zA.start.run (kq++qB 0 l),?_,?_⟩
 ·unfold jE;rw[vq,vq,VO,h];show((zR false rev _ _).step vo).1=_;rw[JU]
 ·unfold jE;rw[<-List.append_assoc,Vt,vq,VO,h];show _++[((zR false rev _ _).step vo).2]=_;rw[JU]
def kI(kind:Int)(u:Bytes)(k e:Bytes)(old:Int):zH:=⟨kind,u,[],0,k,e,false,old,false⟩
theorem zdK{s:zA}{kind:Int}{u k e:Bytes}{old:Int}(hk:kind=15\/kind=16\/kind=17):s.step (kI kind u k e old)=(s,⟨s.ask (kI kind u k e old),s.rev,s.on,false,[],[]⟩):=by
 have ha:(kI kind u k e old).asks:=by unfold zH.asks kI;simp only;omega
 obtain⟨h1,h2,h3⟩:=QW (s:=s) ha;have hc:s.change (kI kind u k e old)=(s,0):=by have Rk:(kI kind u k e old).kind=kind:=rfl;unfold zA.change;rw[Rk,if_neg (by omega),if_neg (by omega),if_neg (by omega),if_neg (by omega),if_neg (by omega),if_neg (by omega),if_neg (by omega),if_neg (by omega),if_neg (by omega),if_neg (by omega)]
 have Rk:(kI kind u k e old).kind=kind:=rfl;unfold zA.step;simp only[hc,Rk];rw[if_neg (by omega),if_neg (by omega),if_neg (by omega),if_neg (by omega),if_pos (by omega)]
structure zh.fine(p:zh):Prop where
 kind:p.kind<=2
 key:p.key.length<=64
 stop:p.stop.length<=64
theorem dG:Dn []:=λe=>by cases e
theorem QZ(k:Int)(hk:o.kind=k)(h1:1<=k/\k<=21)(ho:0<=o.old/\o.old<=1)(hu:o.user.length<=64)(hr:o.role.length<=64/\Dn o.role)(N7:o.key.length<=64)(hs:o.stop.length<=64)(hp:k=11->0<=o.pk/\o.pk<=2)(hg:k=16\/k=17->zU o.key o.stop=true)(hq:k=15->o.key≠[]):o.runs:=
 ⟨by rw[hk];exact h1,ho,hu,hr,N7,hs,by rw[hk];exact hp,by rw[hk];exact hg,by rw[hk];exact hq⟩
theorem fJ:(0:Int)<=0/\(0:Int)<=1:=by omega
theorem GD{n:Bytes}(h:n.length<=64):(xt n).runs:=QZ 3 rfl (by omega) fJ h ⟨Nat.zero_le _,dG⟩ (Nat.zero_le _) (Nat.zero_le _) (λe=>by omega) (λe=>by omega) (λe=>by omega)
theorem X3{n r:Bytes}(h:n.length<=64)(hr:r.length<=64/\Dn r):(yg n r).runs:=QZ 5 rfl (by omega) fJ h hr (Nat.zero_le _) (Nat.zero_le _) (λe=>by omega) (λe=>by omega) (λe=>by omega)
theorem fK{r:Bytes}(hr:r.length<=64/\Dn r):(yx r).runs:=QZ 9 rfl (by omega) fJ (Nat.zero_le _) hr (Nat.zero_le _) (Nat.zero_le _) (λe=>by omega) (λe=>by omega) (λe=>by omega)
theorem zaM{r:Bytes}(hr:r.length<=64/\Dn r)(hp:p.fine):(qA r p).runs:=QZ 11 rfl (by omega) fJ (Nat.zero_le _) hr hp.key hp.stop (λ_=>by have:=hp.kind;show(0:Int)<=(p.kind:Int)/\(p.kind:Int)<=2;omega) (λe=>by omega) (λe=>by omega)
theorem U9:vo.runs:=QZ 1 rfl (by omega) fJ (Nat.zero_le _) ⟨Nat.zero_le _,dG⟩ (Nat.zero_le _) (Nat.zero_le _) (λe=>by omega) (λe=>by omega) (λe=>by omega)
theorem zd0{kind:Int}{u k e:Bytes}{old:Int}(hk:kind=15\/kind=16\/kind=17)(ho:old=0\/old=1)(hu:u.length<=64)(pE:k.length<=64)(he:e.length<=64)(hv:zU k e=true):(kI kind u k e old).runs:=
 QZ kind rfl (by omega) (by show 0<=old/\old<=1;omega) hu ⟨Nat.zero_le _,dG⟩ pE he (λe=>by omega) (λ_=>hv) (λ_ e2=>by have e2:k=[]:=e2;rw[e2]at hv;unfold zU at hv;rw[decide_eq_true rfl]at hv;cases hv)
theorem Jw(i:Nat):(qu i).length<=64/\Dn (qu i):=⟨show 5<=64 by omega,λe=>by
 have e:some (114:UInt8)=some 255:=e;injection e with e
 exact absurd e (by decide)⟩
theorem U_(k:Int)(hk:o.kind=k)(h:k≠13):o.kind≠13:=by rw[hk];exact h
theorem DP:zL.length<=64/\Dn zL:=⟨show 4<=64 by omega,λe=>by
 have e:some (114:UInt8)=some 255:=e;injection e with e
 exact absurd e (by decide)⟩
theorem dH{i:Nat}{ps:List zh}(hp:∀p∈ps,p.fine):∀o∈kM (qu i) ps,o.runs/\o.kind≠13:=by
 intro o ho;unfold kM at ho;rcases List.mem_cons.1 ho with rfl|ho
 ·exact⟨fK (Jw i),U_ 9 rfl (by omega)⟩
 ·rcases List.mem_append.1 ho with ho|ho
  ·obtain⟨p,hpm,rfl⟩:=List.mem_map.1 ho;exact⟨zaM (Jw i) (hp p hpm),U_ 11 rfl (by omega)⟩
  ·rw[List.mem_singleton]at ho;rw[ho];exact⟨X3 (show 1<=64 by omega) (Jw i),U_ 5 rfl (by omega)⟩
theorem Z0:∀(l:List (List zh)) (i:Nat),(∀ps∈l,∀p∈ps,p.fine)->∀o∈qB i l,o.runs/\o.kind≠13
 |[],_,_,o,h=>by cases h
 |ps::l,i,hp,o,h=>by
  rcases List.mem_append.1 h with h|h
  ·exact dH (hp ps (by simp)) o h
  ·exact Z0 l (i+1) (λq hq=>hp q (by simp[hq])) o h
theorem zc5{l:List (List zh)}(hp:∀ps∈l,∀p∈ps,p.fine):∀o∈jE l,o.runs/\o.kind≠13:=by
 intro o ho;unfold jE at ho;rcases List.mem_append.1 ho with ho|ho
 ·simp only[kq,List.mem_cons,List.not_mem_nil,or_false]at ho;rcases ho with rfl|rfl|rfl
  ·exact⟨GD (show 4<=64 by omega),U_ 3 rfl (by omega)⟩
  ·exact⟨X3 (show 4<=64 by omega) DP,U_ 5 rfl (by omega)⟩
  ·exact⟨GD (show 1<=64 by omega),U_ 3 rfl (by omega)⟩
 ·rcases List.mem_append.1 ho with ho|ho
  ·exact Z0 l 0 hp o ho
  ·rw[List.mem_singleton]at ho;rw[ho];exact⟨U9,U_ 1 rfl (by omega)⟩
theorem Q0(l m:List zH):gs (l++m)=gs l+gs m:=by unfold gs;rw[List.map_append,List.sum_append]
theorem fL(r:Bytes):∀ps:List zh,gs (ps.map (qA r))=ps.length
 |[]=>rfl
 |p::ps=>by have:=fL r ps;unfold gs at this⊢;rw[List.map_cons,List.map_cons,List.sum_cons,this,List.length_cons];show 1+_=_;omega
theorem fM:∀(l:List (List zh)) (i:Nat),gs (qB i l)=l.flatten.length
 |[],_=>rfl
 |ps::l,i=>by
  show gs ((yx (qu i)::(ps.map (qA (qu i))++[yg uN (qu i)]))++qB (i+1) l)=_;rw[Q0,fM l (i+1),List.flatten_cons,List.length_append];have h1:gs (yx (qu i)::(ps.map (qA (qu i))++[yg uN (qu i)]))=gs (ps.map (qA (qu i))++[yg uN (qu i)]):=by unfold gs;rw[List.map_cons,List.sum_cons];show 0+_=_;omega
  rw[h1,Q0,fL];rfl
theorem zdN(l:List (List zh)):gs (jE l)=l.flatten.length:=by unfold jE;rw[Q0,Q0,fM];show 0+(_+0)=_;omega
def qE.m(p:qE):zh:=⟨p.kind.toNat,p.key,p.stop⟩
def zbT(r:Rd)(ls:List (List qE))(v:Value):Prop:=∃cs,Sl r 1 cs v/\qz (Y2 r) ls cs
def jz(ls:List (List qE))(i:Nat):List zH:=kq++qB 0 ((ls.take i).map λps=>ps.map qE.m)
theorem Z1:∀(l:List (List zh)) (i:Nat) (ps:List zh),qB i (l++[ps])=qB i l++kM (qu (i+l.length)) ps
 |[],i,ps=>by show kM _ ps++[]=_;rw[List.append_nil];rfl
 |q::l,i,ps=>by show kM (qu i) q++qB (i+1) (l++[ps])=(kM (qu i) q++qB (i+1) l)++_;rw[Z1 l (i+1) ps,List.append_assoc,List.length_cons,show i+1+l.length=i+(l.length+1) by omega]
theorem dI{ls:List (List qE)}{i:Nat}(hi:i<ls.length):jz ls (i+1)=jz ls i++(yx (qu i)::(ls[i].map qE.m).map (qA (qu i)))++[yg uN (qu i)]:=by unfold jz;rw[List.take_succ_eq_append_getElem hi,List.map_append,List.map_cons,List.map_nil,Z1,Nat.zero_add,List.length_map,List.length_take,Nat.min_eq_left (by omega)];unfold kM;simp
theorem QK:∀(l:List (List zh)) (i:Nat),(∀ps∈l,ps.length<=12)->(qB i l).length<=l.length*14
 |[],_,_=>Nat.zero_le _
 |ps::l,i,h=>by have h1:=QK l (i+1) λq hq=>h q (by simp[hq]);have h2:=h ps (by simp);show(kM (qu i) ps++qB (i+1) l).length<=_;unfold kM;rw[List.length_append,List.length_cons,List.length_append,List.length_map,List.length_singleton,List.length_cons,Nat.add_mul];omega
theorem fN{ls:List (List qE)}(h:∀ps∈ls,ps.length<=12)(hl:ls.length<=3)(i:Nat):(jz ls i).length<=45:=by
 unfold jz;have h1:=QK ((ls.take i).map λps=>ps.map qE.m) 0 λq hq=>by obtain⟨ps,sw,rfl⟩:=List.mem_map.1 hq;rw[List.length_map];exact h ps (List.mem_of_mem_take sw)
 rw[List.length_map,List.length_take]at h1;rw[List.length_append];show 3+_<=45;have:min i ls.length<=3:=by omega
 omega
variable{cs:List Value}{e:TypeId}{sz:Nat}
theorem zaN{w:World}(hl:cs.length=n*sz)(hn:n<=1000):(w.alloc (.cells cs.toArray e)).ownsRow w.heap.size e sz (.slice (some ⟨w.heap.size,0,none⟩) n n) n cs:=
 ⟨hl,Or.inr ⟨w.heap.size,n,cs.toArray,rfl,Nat.le_refl _,zg w _,Nat.le_refl _,by simp only[maxLen];omega,by simpa using hl,by rw[<-hl];simp⟩⟩
variable{q:Nat}
theorem Sl.made_q(w:World)(cs:List Value)(T sz n:Nat)(hq:q=w.heap.size)(h:cs.length=n*sz)(hn:n<=9223372036854775807):Sl (w.alloc (.cells cs.toArray T)).cell? sz cs (.slice (some ⟨q,0,none⟩) n n):=by rw[hq];exact Sl.made w cs T sz n h hn
theorem Q1(o:zH):∀u∈jc zH.cells [o],u.oneCell'=true:=by intro u hu;simp only[jc,List.flatMap_cons,List.flatMap_nil,List.append_nil,zH.cells,List.mem_cons,List.not_mem_nil,or_false]at hu;rcases hu with rfl|rfl|rfl|rfl|rfl|rfl|rfl|rfl|rfl<;>rfl
def E9(rx:ByteArray):List Value:=[.int .i64 9,.string ⟨#[]⟩,.string rx,.int .i64 0,.string ⟨#[]⟩,.string ⟨#[]⟩,.bool false,.int .i64 0,.bool false]
def E5(rx:ByteArray):List Value:=[.int .i64 5,.string ⟨#[117]⟩,.string rx,.int .i64 0,.string ⟨#[]⟩,.string ⟨#[]⟩,.bool false,.int .i64 0,.bool false]
def E11(rx:ByteArray)(k:Int)(kx sx:ByteArray):List Value:=[.int .i64 11,.string ⟨#[]⟩,.string rx,.int .i64 k,.string kx,.string sx,.bool false,.int .i64 0,.bool false]
def E1:List Value:=[.int .i64 1,.string ⟨#[]⟩,.string ⟨#[]⟩,.int .i64 0,.string ⟨#[]⟩,.string ⟨#[]⟩,.bool false,.int .i64 0,.bool false]
theorem zcd{n:Bytes}{rx:ByteArray}(h:zb n=.string rx):E9 rx=jc zH.cells [yx n]:=by unfold E9;rw[<-h];rfl
theorem zce{n:Bytes}{rx:ByteArray}(h:zb n=.string rx):E5 rx=jc zH.cells [yg uN n]:=by unfold E5;rw[<-h];rfl
theorem zc6{n:Bytes}{rx kx sx:ByteArray}{p:qE}(h:zb n=.string rx)(hk:zb p.key=.string kx)(hs:zb p.stop=.string sx)(h0:0<=p.kind):E11 rx p.kind kx sx=jc zH.cells [qA n p.m]:=by unfold E11;rw[<-h,<-hk,<-hs];have:((p.kind.toNat:Nat):Int)=p.kind:=Int.toNat_of_nonneg h0;show _=[Value.int .i64 11,zb [],zb n,.int .i64 ((p.kind.toNat:Nat):Int),zb p.key,zb p.stop,.bool false,.int .i64 0,.bool false];rw[this];rfl
theorem zcf:E1=jc zH.cells [vo]:=rfl
theorem Jb(l:List zH)(o:zH):jc zH.cells l++jc zH.cells [o]=jc zH.cells (l++[o]):=(gS _ _ _).symm
theorem Q2{l:List zH}(h:l.length<=99):((jc zH.cells l).length+9)*(104+1)<=140737488355328:=by rw[xq Y1];omega
theorem DR(ls:List (List qE)):jz ls ls.length++[vo]=jE (ls.map λps=>ps.map qE.m):=by unfold jz jE;rw[List.take_length,List.append_assoc]
theorem zdl{w:World}{ls:List (List qE)}(h:zbT w.cell? ls v)(hl:ls.length<=3)(hs:∀ps∈ls,ps.length<=12/\∀p∈ps,0<=p.kind):
  Calls prog 26 #[.string ⟨#[117]⟩,v] w λe w'=>∃v' n,e=.returned v'/\za w w'/\w'.ownsRow w.heap.size 35 9 v' n (jc zH.cells (jE (ls.map λps=>ps.map qE.m))):=by
 obtain⟨cs,pW,He⟩:=h;have h_:=He.length;obtain⟨p,n,c,rfl⟩:=pW.shape;have hn:n=ls.length:=by obtain⟨p',n',c',e,hl',_⟩:=pW;simp only[Value.slice.injEq]at e;obtain⟨_,rfl,_⟩:=e;omega
 obtain⟨W0,py⟩:=zex (w.alloc (.cells (jc zH.cells kq).toArray 35));have PK:za w W0:=by rw[py];exact(za.refl w).alloc _
 have CE:W0.ownsRow w.heap.size 35 9 (.slice (some ⟨w.heap.size,0,none⟩) 3 3) 3 (jc zH.cells (jz ls 0)):=by rw[py];exact zaN (cs:=jc zH.cells kq) (by decide) (by decide)
 simp[jc,kq,xt,yg,zH.cells,zb,zL,uN]at py;have Ni:=hid pW;have Hu:=hid He;have H7:=hid h_;have HN:=hid hn;have rR:=hid py;have S_:=hid PK;have EF:=hid CE;have HS:=hid hs;have Bx:=hid (fN (ls:=ls) (λps hp=>(hs ps hp).1) hl);have Hg:n<=3:=by omega
 clear pW He h_ hn py PK CE hs hl;go_enter func26,ntmps26;go_upto_region 2 with fail
 rw[<-rR.out];go_wp2;go_loopw [5,18] (λz i wr=>∃k m:Nat,k<=n/\i=.int .i64 k/\za w wr/\wr.ownsRow w.heap.size 35 9 z m (jc zH.cells (jz ls k))) (λ_ i _=>n-(intOf i).toNat)
 case atStart=>exact⟨0,3,Nat.zero_le _,rfl,S_.out,EF.out⟩
 case round=>
  obtain⟨k,m,hk,rfl,sS,Ha⟩:=hrel;obtain⟨zp,zn,zc,rfl⟩:=(Sl.of_own Ha).shape;by_cases Hb:k<n
  ·have pE:k<ls.length:=by rw[<-HN.out];exact Hb
   have sD:k<cs.length:=by rw[<-H7.out];exact pE
   obtain⟨gb,go,rfl,cI⟩:∃gb go,p=some ⟨gb,go,none⟩/\w.cell? ⟨gb,go+k,none⟩=some cs[k]:=by
    obtain⟨p',n',c',e,_,_,_,_,h5⟩:=Ni.out;simp only[Value.slice.injEq]at e;obtain⟨rfl,rfl,rfl⟩:=e;rcases h5 with h5|⟨gb,go,rfl,Hc⟩
    ·rw[h5]at sD;cases sD
    ·exact⟨gb,go,rfl,Hc k sD⟩
   have Sq:=Hu.out.get k pE sD;obtain⟨ps,sw⟩:=zex (ls[k]);rw[<-sw]at Sq;obtain⟨pS,N9⟩:=HS.out _ (List.getElem_mem pE);rw[<-sw]at pS N9;obtain⟨q,c2,RO,haC,Nj,hq⟩:=kw.shape yP (by decide) Sq;rw[RO]at cI Sq;have d0:=sS.le _ _ cI;obtain⟨n2,Hj⟩:=zex (ps.length);rw[<-Hj]at d0 haC pS;have LF:=Bx.out k;have TE:=hid sS;have Px:=hid Ha;have HPS:=hid sw;have bZ:=hid Sq;have HQ:=hid hq;have lQ:=hid N9;have Pf:=hid Hj;obtain⟨wo,CC⟩:=zex (wr);rw[<-CC]at TE Px d0⊢;clear sS Ha sw Sq hq N9 cI RO Hj CC;go_upto_region 5 with fail
   obtain⟨rx,Pj⟩:∃z,zb (qu k)=.string z:=⟨_,rfl⟩;have LU:=hid Pj;clear Pj;go_cut [8] (λc wx=>wo=wx/\c=.string rx)
   case first=>
    have Pj:=LU.out;rcases(by omega:k=0\/k=1\/k=2)with rfl|rfl|rfl
    all_goals
     unfold zb qu at Pj;simp at Pj;subst Pj;go_wp2;go_meet;exact⟨rfl,rfl⟩
   case rest=>
    obtain⟨rfl,rfl⟩:=hcut;have HE9:=hid (zcd LU.out);have HO9:=hid (show∀u∈E9 rx,u.oneCell'=true by rw[zcd LU.out];exact Q1 _);have HB9:=hid (Q2 (l:=jz ls k) (by omega));go_wp2_with (at_builtin;refine qy gT rfl rfl (TE.out.alloc _) (World.ownsRow.alloc Px.out _) rfl rfl (Sl.made _ (E9 rx) _ 9 1 rfl (by decide)) HO9.out HB9.out ?_;intro v5 w5 m5 pr ho pz hg pC;obtain⟨p7,n7,c7,rfl⟩:=pC.shape;rw[HE9.out,Jb]at ho;have aq:=hid pz;have haD:=hid ho;clear ho pz hg pC pr);go_loopw [5,35] (λz j wr=>∃q m:Nat,q<=n2/\j=.int .i64 q/\za w wr/\wr.ownsRow w.heap.size 35 9 z m (jc zH.cells ((jz ls k++[yx (qu k)])++((ps.map qE.m).take q).map (qA (qu k))))) (λ_ j _=>n2-(intOf j).toNat)
    case atStart=>exact⟨0,_,Nat.zero_le _,rfl,aq.out,by rw[List.take_zero,List.map_nil,List.append_nil];exact haD.out⟩
    case round=>
     obtain⟨j,m,hj,rfl,sS,Ha⟩:=hrel;obtain⟨yp,yn,yc,rfl⟩:=(Sl.of_own Ha).shape;by_cases rC:j<n2
     ·have iF:j<ps.length:=by rw[<-Pf.out];exact rC
      have aT:j<(ps.map qE.m).length:=by rw[List.length_map];exact iF
      obtain⟨gb2,go2,rfl⟩:=HQ.out (xr iF);obtain⟨g0,g1,g2⟩:=Vv (kw.range yP (bZ.out.mono sS.le) iF);obtain⟨kx,rH⟩:∃z,zb ps[j].key=.string z:=⟨_,rfl⟩;obtain⟨sx,Ht⟩:∃z,zb ps[j].stop=.string z:=⟨_,rfl⟩;have HE:=hid (zc6 LU.out rH Ht (lQ.out _ (List.getElem_mem iF)));have HO:=hid (show∀u∈E11 rx ps[j].kind kx sx,u.oneCell'=true by rw[HE.out];exact Q1 _);have HB:=hid (Q2 (l:=(jz ls k++[yx (qu k)])++((ps.map qE.m).take j).map (qA (qu k))) (by
       rw[List.length_append,List.length_append,List.length_map,List.length_take,List.length_singleton,List.length_map];have:min j ps.length<=12:=by omega
       omega))
      have HT:=hid (show((ps.map qE.m).take (j+1)).map (qA (qu k))=((ps.map qE.m).take j).map (qA (qu k))++[qA (qu k) ps[j].m] by rw[List.take_succ_eq_append_getElem aT,List.map_append,List.getElem_map];rfl)
      rw[rH]at g1;rw[Ht]at g2;have LV:=hid sS;have EG:=hid Ha;clear rH Ht sS Ha;go_wp2_with (at_builtin;refine qy gT rfl rfl ((LV.out.alloc _).alloc _) (World.ownsRow.alloc (World.ownsRow.alloc EG.out _) _) rfl rfl (Sl.made_q (q:=wr.heap.size+1) _ (E11 rx ps[j].kind kx sx) _ 9 1 (Array.size_push ..).symm rfl (by decide)) HO.out HB.out ?_;intro v6 w6 m6 PP ho tZ hg PC;obtain⟨p8,n8,c8,rfl⟩:=PC.shape;rw[HE.out,Jb]at ho;have EH:=hid tZ;have Ls:=hid ho;clear ho tZ hg PC PP);go_roundw
      case rel=>exact⟨j+1,_,by omega,by go_num,EH.out,by rw[HT.out,<-List.append_assoc];exact Ls.out⟩
      case measure=>simp[intOf];omega
     ·have Mw:j=n2:=by omega
      have HT:=hid (show(ps.map qE.m).take j=ps.map qE.m from List.take_of_length_le (by rw[List.length_map,<-Pf.out];omega));have HE:=hid (zce LU.out);have HO:=hid (show∀u∈E5 rx,u.oneCell'=true by rw[zce LU.out];exact Q1 _);have HB:=hid (Q2 (l:=(jz ls k++[yx (qu k)])++((ps.map qE.m).take j).map (qA (qu k))) (by
       rw[List.length_append,List.length_append,List.length_map,List.length_take,List.length_singleton,List.length_map];have:min j ps.length<=12:=by have:=Pf.out;omega
       omega))
      have LV:=hid sS;have EG:=hid Ha;have Pm:=hid (dI pE);have hgQ:=HPS;clear sS Ha;go_wp2_with (at_builtin;refine qy gT rfl rfl (LV.out.alloc _) (World.ownsRow.alloc EG.out _) rfl rfl (Sl.made _ (E5 rx) _ 9 1 rfl (by decide)) HO.out HB.out ?_;intro v6 w6 m6 PP ho tZ hg PC;obtain⟨p8,n8,c8,rfl⟩:=PC.shape;rw[HE.out,Jb,HT.out,HPS.out]at ho;have EH:=hid tZ;have Ls:=hid ho;clear ho tZ hg PC PP);go_roundw
      case rel=>exact⟨k+1,_,by omega,by go_num,EH.out,by rw[Pm.out];simpa using Ls.out⟩
      case measure=>simp[intOf];omega
  ·have ph:k=n:=by omega
   have pE:k=ls.length:=ph.trans HN.out;have HE:=hid zcf;have HO:=hid (show∀u∈E1,u.oneCell'=true by rw[zcf];exact Q1 _);have HB:=hid (Q2 (l:=jz ls k) (by have:=Bx.out k;omega));have Hn:=hid (show jz ls k++[vo]=jE (ls.map λps=>ps.map qE.m) by rw[pE];exact DR ls);have LV:=hid sS;have EG:=hid Ha;clear sS Ha;go_wp2_with (at_builtin;refine qy gT rfl rfl (LV.out.alloc _) (World.ownsRow.alloc EG.out _) rfl rfl (Sl.made _ E1 _ 9 1 rfl (by decide)) HO.out HB.out ?_;intro v6 w6 m6 PP ho tZ hg PC;obtain⟨p8,n8,c8,rfl⟩:=PC.shape;rw[HE.out,Jb,Hn.out]at ho;have EH:=hid tZ;have Ls:=hid ho;clear ho tZ hg PC PP);go_returns;exact⟨_,_,rfl,EH.out,Ls.out⟩
def JW(w:World):zu:=λj=>if j=w.heap.size then 4 else if j=w.heap.size+1 then 17 else 0
def stZ:zA:=⟨false,0,[],[]⟩
theorem zc7:q9 stZ:=⟨List.Pairwise.nil,List.Pairwise.nil,λu h=>(by cases h),λr h=>(by cases h),by decide,by decide,by decide⟩
theorem zed:ym [] stZ.on stZ.rev:=⟨rfl,rfl,List.Pairwise.nil,λp h=>(by cases h)⟩
theorem zaR{w W0:World}(py:W0=(w.alloc (.cells #[.slice none 0 0] 79)).alloc (.cells #[ptr w.heap.size,.nilIface,.nilIface] 63)):
  Calls prog 32 #[ptr (w.heap.size+1)] W0 λe w'=>e=.returned (.tuple #[])/\∃l I a,AuS w (w.heap.size+1) w' I zA.start (.slice none 0 0) 0 [] l a []:=by
 obtain⟨w1,Hh⟩:=zex (w.alloc (.cells #[.slice none 0 0] 79));rw[<-Hh]at py;have s1:w1.heap.size=w.heap.size+1:=by rw[Hh];exact Array.size_push ..
 have s2:W0.heap.size=w.heap.size+1+1:=by rw[py,<-s1];exact Array.size_push ..
 have n1:za w w1:=by rw[Hh];exact(za.refl w).alloc _
 have n2:za w1 W0:=by rw[py];exact(za.refl w1).alloc _
 have hb:∀j,JW w j≠0->j<W0.heap.size:=λj e=>by
  unfold JW at e;by_cases h1:j=w.heap.size
  ·omega
  ·by_cases h2:j=w.heap.size+1
   ·omega
   ·rw[if_neg h1,if_neg h2]at e;exact absurd rfl e
 have hx:JW w (w.heap.size+1)=17:=by unfold JW;rw[if_neg (by omega),if_pos rfl]
 have Sv:JW w w.heap.size=4:=by unfold JW;rw[if_pos rfl]
 have hZ:W0.heap[w.heap.size+1]? =some (.cells #[ptr w.heap.size,.nilIface,.nilIface] 63 (0,0)):=by rw[<-s1,py];exact zg w1 _
 have hd:W0.heap[w.heap.size]? =some (.cells #[.slice none 0 0] 79 (0,0)):=n2.heap (by rw[Hh];exact zg w _);refine(Gx (s:=stZ) (A:=[]) (C:=[]) hb hx hZ Sv hd ⟨[],Sl.nil _ _,qz.nil⟩ (Nat.zero_le _) zaj zed zc7 Ok.start.sane).mono ?_;rintro e w' ⟨rfl,l,I,a,rE,hs,Ez⟩;refine⟨rfl,l,I,a,?_,Ez,λj hj=> ?_,World.ownsRow_nil _ _ _ _,λb hb=>(by cases hb),qz.nil⟩
 ·refine zq.trans (za.trans n1 n2) hs.mod λb hb e=>e.1 ?_;unfold JW;rw[if_neg (by omega),if_neg (by omega)]
 ·rw[hs.old j (by omega)];unfold JW;rw[if_neg (by omega),if_neg (by omega)]
theorem zdP{w:World}{l:List zH}(h:zb6 w.cell? l v)(ho:∀o∈l,o.runs)(hd:∀o∈l,zdI o)(hl:l.length<=99)(hg:gs l<=12):
  Calls prog 14 #[v] w λe w'=>∃v',e=.returned v'/\za w w'/\JS w'.cell? v' (zA.start.run l):=by
 obtain⟨p,c,rfl,mO,hc,hp⟩:=kw.shape Y1 (by decide) h;obtain⟨W0,py⟩:=zex ((w.alloc (.cells #[.slice none 0 0] 79)).alloc (.cells #[ptr w.heap.size,.nilIface,.nilIface] 63));have s1:(w.alloc (.cells #[.slice none 0 0] 79)).heap.size=w.heap.size+1:=Array.size_push ..
 have O7:=hid (zaR py);have rR:=hid py;have HP:=hid hp;have H:=hid h;have HO:=hid ho;have HD:=hid hd;have HG:=hid hg;obtain⟨n,hn⟩:=zex (l.length);rw[<-hn]at mO hl⊢;have HN:=hid hn;clear h hp hn ho hd hg py s1;go_enter func14,ntmps14;go_wp2_with fail;refine DM.mono ?_;rintro e w1 ⟨rfl,rfl⟩;go_upto_region 2 with fail
 rw[<-rR.out];go_wp2_with fail;refine O7.out.mono ?_;rintro e w2 ⟨rfl,l2,I,a,ha⟩;have HA:=hid ha;clear ha;go_wp2;go_loopw [4,5] (λz i wr=>∃k I a vs l',k<=n/\i=.int .i64 (k:Nat)/\AuS w (w.heap.size+1) wr I (zA.start.after (l.take k)) z k (zA.start.run (l.take k)) l' a vs) (λ_ i _=>n-(intOf i).toNat)
 case atStart=>exact⟨0,I,a,[],l2,Nat.zero_le _,rfl,HA.out⟩
 case round=>
  obtain⟨k,I,a,vs,l',hk,rfl,ct⟩:=hrel;obtain⟨zp,zn,zc,rfl⟩:=(Sl.of_own ct.own).shape;by_cases Hb:k<n
  ·have pE:k<l.length:=by rw[<-HN.out];exact Hb
   obtain⟨b,o,rfl⟩:=HP.out (xr pE);obtain⟨d0,d1,d2,d3,d4,d5,d6,d7,d8⟩:=WZ (kw.range Y1 (H.out.mono ct.mod.le) pE);obtain⟨us,ro,ke,st,e1,e2,e4,e5⟩:=zH.shape l[k];obtain⟨pV,Sp⟩:=zaA (l.take k) Ok.start Xc.start λx hx=>HO.out x (List.mem_of_mem_take hx);have t_:=zbP pE;rw[List.length_take,Nat.zero_add,Nat.min_eq_left (by omega)]at pV;rw[Nat.zero_add]at Sp;have EI:=HD.out _ (List.getElem_mem pE) ct.wd pV (by omega) Sp (by have:=HG.out;omega);unfold zH.val zH.cells at EI;rw[e1,e2,e4,e5]at EI;rw[e1]at d1;rw[e2]at d2;rw[e4]at d4;rw[e5]at d5;obtain⟨tt,htt⟩:=zex ((zA.start.after (l.take k)).step l[k]);rw[<-htt]at EI;have HDO:=hid EI;have CF:=hid ct;have HTT:=hid htt;have nX:(vs.flatMap Array.toList).length<=600:=by have:=ct.own.1;omega
   have SR:Hid (((vs.flatMap Array.toList).length+6)*(72+1)<=140737488355328):=hid (by omega);clear EI ct htt pV Sp e1 e2 e4 e5 t_ nX;go_wp2_with fail;refine HDO.out.mono ?_;rintro e w5 ⟨va,l5,I5,a5,rfl,haH,pC,hd5,n_⟩;obtain⟨nv,pv,rfl,pz,hp5⟩:=id n_;obtain⟨p1,n1,c1,rfl⟩:=pz.shape;obtain⟨p2,n2,c2,rfl⟩:=hp5.shape;have P8:=hid pC;have HD5:=hid hd5;have L5:=hid n_;have HOW:=hid (qJ (zS CF.out.own (λq hq=>pC.mod.block q (World.ownsRow.lt CF.out.own q hq).2 λe=>e.2 (CF.out.lab q hq))) 0 (Nat.zero_le _));have TX:=hid (Jt.one n_);clear pC hd5 n_ pz hp5 haH d0 d1 d2 d3 d4 d5 d6 d7 d8;unfold xF
   go_wp2_with (at_builtin;refine qM zcK rfl rfl (World.ownsRow.alloc HOW.out _) rfl rfl (news:=(xF tt.2 (.slice p1 n1 c1) (.slice p2 n2 c2)).toList) (Sl.made w5 (xF tt.2 (.slice p1 n1 c1) (.slice p2 n2 c2)).toList _ 6 1 rfl (by decide)) TX.out SR.out ?_;intro v7 w7 how EQ oO;obtain⟨p7,n7,c7,rfl⟩:=(Sl.of_own how).shape;obtain⟨l7,EJ⟩:=AuS.app CF.out P8.out HD5.out L5.out how EQ oO;have haJ:=hid EJ;clear how EQ oO EJ);go_roundw
   case rel=>exact⟨k+1,I5,a5,_,l7,by omega,by go_num,by rw[U3 pE,zaB pE,<-HTT.out];exact haJ.out⟩
   case measure=>simp[intOf];omega
  ·have ph:k=n:=by omega
   have ht:l.take k=l:=List.take_of_length_le (by rw[<-HN.out];omega);rw[ht]at ct;have CF:=hid ct;clear ct;go_wp2;go_returns;exact⟨_,rfl,CF.out.mod,vs,Sl.of_own CF.out.own,CF.out.ans.mono λ_ _ hx=>hx.mono (zd _ _)⟩
theorem VR{α:Type}{f:α->List Value}{n:Nat}:∀{l:List α},(∀x∈l,(f x).length=n)->(l.flatMap f).length=l.length*n
 |[],_=>by simp
 |x::l,h=>by rw[List.flatMap_cons,List.length_append,h x (by simp),VR λy hy=>h y (by simp[hy]),List.length_cons,Nat.add_mul,Nat.one_mul,Nat.add_comm]
theorem GF{α:Type}{f:α->List Value}{n:Nat}:∀{l:List α},(∀x∈l,(f x).length=n)->∀(k:Nat) (hk:k<l.length) (j:Nat) (v:Value),(f l[k])[j]? =some v->(l.flatMap f)[k*n+j]? =some v
 |x::l,_,0,_,j,v,hv=>by have hj:j<(f x).length:=(List.getElem?_eq_some_iff.1 hv).1;rw[List.flatMap_cons,Nat.zero_mul,Nat.zero_add,List.getElem?_append_left hj];exact hv
 |x::l,h,k+1,hk,j,v,hv=>by have ih:=GF (λy hy=>h y (by simp[hy])) k (by simpa using hk) j v hv;rw[List.flatMap_cons,List.getElem?_append_right (by rw[h x (by simp),Nat.add_mul];omega),h x (by simp)];rw[show(k+1)*n+j-n=k*n+j by rw[Nat.add_mul];omega];exact ih
variable{α β:Type}
theorem qz.left{R:α->β->Prop}{l:List α}{m:List β}(h:qz R l m):∀x∈l,∃y,R x y:=by
 induction h with
 |nil=>intro x hx;cases hx
 |cons h0 _ ih=>
  intro x hx;rcases List.mem_cons.1 hx with rfl|hx
  ·exact⟨_,h0⟩
  ·exact ih x hx
structure zee(r:Rd)(b q:Nat)(a:vN)(nv pv:Value):Prop where
 err:r ⟨b,q,none⟩=some (.int .i64 a.err)
 rev:r ⟨b,q+1,none⟩=some (.int .u64 a.rev)
 on:r ⟨b,q+2,none⟩=some (.bool a.on)
 yes:r ⟨b,q+3,none⟩=some (.bool a.yes)
 cn:r ⟨b,q+4,none⟩=some nv
 cp:r ⟨b,q+5,none⟩=some pv
 sn:Sl r 1 (a.names.map zb) nv
 sp:Sl r 3 (a.perms.flatMap Zt) pv
theorem JS.shape{aa:List vN}(h:JS r v aa):∃p c,v=.slice p aa.length c/\aa.length<=c/\c<=9223372036854775807/\(0<aa.length->∃b o,p=some ⟨b,o,none⟩):=by
 obtain⟨vs,⟨p,m,c,rfl,hl,hm,hc,_,h5⟩,He⟩:=h;have hz:∀x∈vs,x.toList.length=6:=λx hx=>by obtain⟨a,ha⟩:=He.left x hx;rw[Array.length_toList];exact ha.size
 have h_:=VR hz;have hv:=He.length;have e:m=aa.length:=by omega
 subst e;refine⟨p,c,rfl,hm,hc,λh0=> ?_⟩;rcases h5 with h5|⟨b,o,rfl,_⟩
 ·rw[h5]at hl;simp at hl;omega
 ·exact⟨b,o,rfl⟩
theorem JS.cells{o m:Nat}{aa:List vN}(h:JS r (.slice (some ⟨b,o,none⟩) m c) aa){i:Nat}(hi:i<aa.length):∃nv pv,zee r b (o+i*6) aa[i] nv pv:=by
 obtain⟨vs,⟨p,m',c',e,hl,hm,hc,_,h5⟩,He⟩:=h;simp only[Value.slice.injEq]at e;obtain⟨rfl,rfl,rfl⟩:=e;have hz:∀x∈vs,x.toList.length=6:=λx hx=>by obtain⟨a,ha⟩:=He.left x hx;rw[Array.length_toList];exact ha.size
 have h_:=VR hz;have hv:=He.length;have AO:i<vs.length:=by omega
 obtain⟨nv,pv,e1,h1,h2⟩:=He.get i AO hi;injection e1 with e1
 rcases h5 with h5|⟨b',o',e,Hc⟩
 ·rw[h5]at h_;simp at h_;omega
 ·simp only[Option.some.injEq,Addr.mk.injEq,and_true]at e;obtain⟨rfl,rfl⟩:=e;have Hw:∀j x,(xF aa[i] nv pv).toList[j]? =some x->r ⟨b,o+i*6+j,none⟩=some x:=λj x hx=>by
   have h9:=GF hz i AO j x (by rw[e1];exact hx);obtain⟨Hb,e9⟩:=List.getElem?_eq_some_iff.1 h9;rw[Nat.add_assoc,Hc _ Hb,e9]
  exact⟨nv,pv,Hw 0 _ rfl,Hw 1 _ rfl,Hw 2 _ rfl,Hw 3 _ rfl,Hw 4 _ rfl,Hw 5 _ rfl,h1,h2⟩
theorem JS.mono(hr:r.le r'){aa:List vN}(h:JS r v aa):JS r' v aa:=by obtain⟨vs,h1,h2⟩:=h;exact⟨vs,h1.mono hr,h2.mono λ_ _ hx=>hx.mono hr⟩
end Go.Proofs.YtbmdoinjkligiaaGreat
