/- Contracts and laws that the last text joins. -/
import Derived.IntWalk
import Derived.Test.YtbmdoinjkligiaaGreatM20
import Derived.Test.YtbmdoinjkligiaaGreatM22
import Derived.Test.YtbmdoinjkligiaaGreatM23
set_option maxRecDepth 100000
set_option maxHeartbeats 40000000
set_option linter.all false
namespace Go.Proofs.YtbmdoinjkligiaaGreat
open Tryz
open Lib(hid)
def zj.without(rn:Bytes)(u:zj):zj:=⟨u.name,yo u.roles rn⟩
def Zu(s:zA)(n:Bytes):zA×Nat:=
 if s.on=true/\n=zL then (s,15)
 else match s.role n with
  |none=>(s,7)
  |some _=>({s with roles:=ym zm.name s.roles n,users:=s.users.map (zj.without n),rev:=s.rev+1},0)
variable{o:zH}
theorem DH{s:zA}(hk:o.kind=10):s.change o=Zu s o.role:=by unfold zA.change Zu;simp only[hk];rfl
def jA(s:zA)(n:Bytes)(k:Nat):zA:={s with roles:=ym zm.name s.roles n,users:=zQ (zj.without n) s.users k}
theorem fe(s:zA)(n:Bytes):jA s n 0={s with roles:=ym zm.name s.roles n}:=by unfold jA;rw[DF]
variable{u:zj}
theorem VC(h:jy u)(n:Bytes):jy (u.without n)where
 name0:=h.name0
 name:=h.name
 roles0 r hr:=h.roles0 r ((List.mem_filter.1 hr).1)
 roles:=Nat.le_trans (Vt u.roles n) h.roles
variable{k:Nat}
theorem zay{f:zj->zj}{us:List zj}(h:u∈zQ f us k):∃v∈us,u=f v\/u=v:=by
 rcases List.mem_append.1 h with h|h
 ·obtain⟨v,hv,rfl⟩:=List.mem_map.1 h;exact⟨v,List.mem_of_mem_take hv,Or.inl rfl⟩
 ·exact⟨u,List.mem_of_mem_drop h,Or.inr rfl⟩
theorem vN{s:zA}(h:ya s)(n:Bytes):ya {s with roles:=ym zm.name s.roles n}where
 us:=h.us
 rs:=h.rs.drop n
 uok:=h.uok
 rok r hr:=h.rok r ((ji h.rs).1 hr).1
 ul:=h.ul
 rl:=Nat.le_trans (Jt _ _) h.rl
 rev:=h.rev
theorem DI{s:zA}(h:ya s)(n:Bytes)(hk:k<=s.users.length):ya (jA s n k)where
 us:=by show zE zj.name _;have e:(jA s n k).users.map zj.name=s.users.map zj.name:=VB (zj.without n) (λ_=>rfl) s.users k;unfold zE;rw[e];exact h.us
 rs:=(vN h n).rs
 uok u hu:=by
  obtain⟨v,hv,e|e⟩:=zay hu
  ·rw[e];exact VC (h.uok v hv) n
  ·rw[e];exact h.uok v hv
 rok:=(vN h n).rok
 ul:=by show(zQ _ _ k).length<=300;rw[VA _ _ _ hk];exact h.ul
 rl:=(vN h n).rl
 rev:=h.rev
def gZ(us:List zj)(n:Bytes)(k:Nat):zF->List Bytes:=λc=>if c=.users then ((us.take k).filter λu=>decide (n∈u.roles)).map (·.name)else []
theorem zaz(us:List zj)(n:Bytes):gZ us n 0=jL:=by
 funext c
 unfold gZ jL;split<;>simp
theorem zbT{us:List zj}{n:Bytes}(hk:k<us.length)(h:n∈us[k].roles):kB (gZ us n k) .users us[k].name=gZ us n (k+1):=by
 funext c
 unfold kB gZ;rw[List.take_succ_eq_append_getElem hk,List.filter_append,List.map_append];by_cases e:c=.users
 ·rw[if_pos e,if_pos e,if_pos e];simp[h]
 ·rw[if_neg e,if_neg e,if_neg e];rfl
theorem zaA{us:List zj}{n:Bytes}(hk:k<us.length)(h:n∉us[k].roles):gZ us n (k+1)=gZ us n k:=by
 funext c
 unfold gZ;rw[List.take_succ_eq_append_getElem hk,List.filter_append,List.map_append];by_cases e:c=.users
 ·rw[if_pos e,if_pos e];simp[h]
 ·rw[if_neg e,if_neg e]
theorem zbU(us:List zj)(n:Bytes)(k:Nat)(c:zF):(gZ us n k c).length<=k:=by
 unfold gZ;split
 ·rw[List.length_map];refine Nat.le_trans (List.length_filter_le ..) ?_;rw[List.length_take];exact Nat.min_le_left ..
 ·simp
theorem zaB{us:List zj}(h:zE zj.name us)(n:Bytes)(k:Nat):∀c,zM (vo (gZ us n k) c):=λc=>by
 unfold vo gZ;by_cases h1:c=.auth
 ·subst h1;rw[if_neg (by decide),if_pos rfl];exact xD _
 ·rw[if_neg h1];by_cases h2:c=.users
  ·rw[if_pos h2];have h3:(((us.take k).filter λu=>decide (n∈u.roles)).map (·.name)).Sublist (us.map zj.name):=(List.filter_sublist.trans (List.take_sublist k us)).map _;have h4:zM (((us.take k).filter λu=>decide (n∈u.roles)).map (·.name)):=List.Pairwise.sublist h3 h;simpa using h4
  ·rw[if_neg h2];exact List.Pairwise.nil
theorem zaC(us:List zj)(n:Bytes)(k:Nat):(gZ us n k .auth).length<=400:=by unfold gZ;rw[if_neg (by decide)];simp
theorem UV{s:zA}(h:zE zj.name s.users){n:Bytes}(hk:k<s.users.length):{jA s n k with users:=yT zj.name (jA s n k).users (s.users[k].without n)}=jA s n (k+1):=by unfold jA;rw[zax (f:=zj.without n) (λ_=>rfl) h hk]
theorem ff{s:zA}{n:Bytes}(hk:k<s.users.length)(h:n∉s.users[k].roles):jA s n (k+1)=jA s n k:=by
 unfold jA;rw[DG hk];unfold zj.without;have:yo s.users[k].roles n=s.users[k].roles:=by unfold yo;rw[List.filter_eq_self];intro a ha;have:a≠n:=λe=>h (by rw[<-e];exact ha);simp[this]
 rw[this]
theorem UW(s:zA)(n:Bytes):jA s n s.users.length={s with roles:=ym zm.name s.roles n,users:=s.users.map (zj.without n)}:=by unfold jA;rw[zaw]
def xE(s:zA)(n rn:Bytes):zA×Nat:=
 match s.user n with
 |none=>(s,5)
 |some u=>
  if rn≠zL/\s.role rn=none then (s,7)
  else if rn∈u.roles then (s,0)
  else (s.putUser ⟨u.name,vY u.roles rn⟩,0)
def vI(s:zA)(n:Bytes)(p:Option zh):zA×Nat:=
 match p with
 |none=>(s,9)
 |some p=>
  if zT p.key p.stop=false then (s,15)
  else match s.role n with
   |none=>(s,7)
   |some r=>(s.putRole ⟨r.name,je r.perms p⟩,0)
def QJ(s:zA)(n k e:Bytes):zA×Nat:=
 match s.role n with
 |none=>(s,7)
 |some r=>if (jj r.perms k e).length=r.perms.length then (s,12)else (s.putRole ⟨r.name,jj r.perms k e⟩,0)
theorem zaD{s:zA}(hk:o.kind=5):s.change o=xE s o.user o.role:=by unfold zA.change xE;simp only[hk];rfl
theorem DJ{s:zA}(hk:o.kind=11):s.change o=vI s o.role (if o.noPerm then none else some ⟨o.pk.toNat,o.key,o.stop⟩):=by unfold zA.change vI;simp only[hk];cases o.noPerm<;>rfl
theorem DK{s:zA}(hk:o.kind=12):s.change o=QJ s o.role o.key o.stop:=by unfold zA.change QJ;simp only[hk];rfl
theorem zbV(c:Prop)[Decidable c](x y:zA×Nat)(hx:x.2<=15)(hy:y.2<=15):(if c then x else y).2<=15:=by split<;>assumption
theorem zbW(c:Prop)[Decidable c](x y:Nat)(hx:x<=15)(hy:y<=15):(if c then x else y)<=15:=by split<;>assumption
theorem XY(s:zA)(o:zH):(s.change o).2<=15:=by
 unfold zA.change
 repeat' (first|exact Nat.le_of_ble_eq_true rfl|apply zbV|split)
theorem g_(s:zA)(o:zH):s.ask o<=15:=by
 unfold zA.ask
 repeat' (first|exact Nat.le_of_ble_eq_true rfl|apply zbW|split)
theorem kY{s:zA}(h:o.asks):s.change o=(s,0):=by unfold zH.asks at h;unfold zA.change;rw[if_neg (by omega),if_neg (by omega),if_neg (by omega),if_neg (by omega),if_neg (by omega),if_neg (by omega),if_neg (by omega),if_neg (by omega),if_neg (by omega),if_neg (by omega)]
theorem zdh{s:zA}(hk:o.kind=7):s.step o=(s,match s.user o.user with|none=>⟨5,s.rev,s.on,false,[],[]⟩|some u=>⟨0,s.rev,s.on,false,u.roles,[]⟩):=by have hc:=kY (s:=s) (show o.asks from Or.inl hk);unfold zA.step;simp only[hc];rw[if_pos hk];cases s.user o.user<;>rfl
theorem zdi{s:zA}(hk:o.kind=8):s.step o=(s,⟨0,s.rev,s.on,false,s.users.map (·.name),[]⟩):=by have hc:=kY (s:=s) (show o.asks from Or.inr (Or.inl hk));unfold zA.step;simp only[hc];rw[if_neg (by omega),if_pos hk]
theorem zbX{s:zA}(hk:o.kind=14):s.step o=(s,⟨0,s.rev,s.on,false,s.roles.map (·.name),[]⟩):=by have hc:=kY (s:=s) (show o.asks from Or.inr (Or.inr (by omega)));unfold zA.step;simp only[hc];rw[if_neg (by omega),if_neg (by omega),if_neg (by omega),if_pos hk]
theorem da{s:zA}(hk:o.kind=15\/o.kind=16\/o.kind=17\/o.kind=18):s.step o=(s,⟨s.ask o,s.rev,s.on,false,[],[]⟩):=by have hc:=kY (s:=s) (show o.asks from Or.inr (Or.inr (by omega)));unfold zA.step;simp only[hc];rw[if_neg (by omega),if_neg (by omega),if_neg (by omega),if_neg (by omega),if_pos hk]
theorem zbY{s:zA}(hk:o.kind=19):s.step o=(s,⟨0,s.rev,s.on,match s.user o.user with|none=>false|some u=>decide (o.role∈u.roles),[],[]⟩):=by have hc:=kY (s:=s) (show o.asks from Or.inr (Or.inr (by omega)));unfold zA.step;simp only[hc];rw[if_neg (by omega),if_neg (by omega),if_neg (by omega),if_neg (by omega),if_neg (by omega),if_pos hk];cases s.user o.user<;>rfl
structure zH.runs(o:zH):Prop where
 kind:1<=o.kind/\o.kind<=21
 old:0<=o.old/\o.old<=1
 user:o.user.length<=64
 role:o.role.length<=64/\DD o.role
 key:o.key.length<=64
 stop:o.stop.length<=64
 pk:o.kind=11->0<=o.pk/\o.pk<=2
 range:o.kind=16\/o.kind=17->zT o.key o.stop=true
 put:o.kind=15->o.key≠[]
theorem zH.runs.fits(h:o.runs):o.fits:=⟨h.user,h.role.1,h.key,h.stop,h.pk⟩
theorem zbZ(h:o.user.length<=64):o.who.length<=1000:=by
 unfold zH.who;split
 ·simp
 ·omega
open Go.RowKit
def Yd(l:zu)(w:World)(x:Nat)(I:zN)(s:zA)(ec:Nat)(e:Ending)(w':World):Prop:=e=.returned (ze ec)/\∃l' I' a',I'.db=I.db/\qG l w l' w'/\Wd l' w' x I' a' s
variable{W w':World}{a ec x:Nat}{l:zu}{s':zA}
theorem VZ.w{w:World}{I:zN}{s:zA}{e:Ending}(h:Wd l w x I a s)(hn:za w W)(hc:VZ l W a I s' ec e w'):∃v,e=.returned (.tuple #[v,ze ec])/\(∃l' I' a',I'.db=I.db/\qG l w l' w'/\Wd l' w' x I' a' s')/\w'.cell? ⟨x,2,none⟩=some (.iface 142 (ptr a))/\∀p v,l p.block=0->W.cell? p=some v->w'.cell? p=some v:=by obtain⟨v,rfl,l',I',hI,hs,ht⟩:=hc;have hw:=(h.new hn).call hs hI ht;exact⟨v,rfl,⟨l',I',a,hI.2.2.2,(qG.new h.st.bnd hn).trans hs.w,hw⟩,(vZ hw.row).2.2.1,λp v h0 hp=>hs.mod.cell (λe=>e.1 h0) hp⟩
theorem VF(a:Nat)(W:World):(method 608 142 (ptr a) "UserAdd").run prog W=.ok (171,ptr a) W:=by kernel_rfl
theorem fq{w:World}{I:zN}{s:zA}(h:Wd l w x I a s)(hk:o.kind=3)(hr:Zq s o.user=(s',ec))(hn:o.user.length<=1000)(hf:ya s')(hs:yD s'):
  Calls prog 42 #[ptr x,o.val] w (Yd l w x I s' ec):=by
 obtain⟨ki,us,ro,pk,ke,st,np,od,nu⟩:=o;dsimp only at hk hr hn;subst hk;unfold zH.val zH.cells;dsimp only;obtain⟨c0,c1,c2,_⟩:=vZ h.row;obtain⟨sx,hsx⟩:∃sx,zb us=.string sx:=⟨_,rfl⟩;obtain⟨cc,hcc⟩:=zex (#[.int .i64 3,zb us,zb ro,.int .i64 pk,zb ke,zb st,.bool np,.int .i64 od,.bool nu]);obtain⟨w1,hw1⟩:=zex (w.alloc (.cells cc 35));have hn1:za w w1:=by rw[hw1];exact(za.refl w).alloc _
 have hs1:w1.heap.size=w.heap.size+1:=by rw[hw1];exact Array.size_push ..
 have hb0:w1.heap[w.heap.size]? =some (.cells cc 35 (0,0)):=by rw[hw1];exact zg w _
 have d2:=hn1.le _ _ c2;have g0:w1.cell? ⟨w.heap.size,0,none⟩=some (.int .i64 3):=by rw[cell_of_row w1 _ 0 _ _ (0,0) hb0,hcc];rfl
 have g1:w1.cell? ⟨w.heap.size,1,none⟩=some (.string sx):=by rw[cell_of_row w1 _ 1 _ _ (0,0) hb0,hcc,hsx];rfl
 obtain⟨w2,hw2⟩:=zex (w1.alloc (.cells #[.bool true] 161));obtain⟨w3,hw3⟩:=zex (w2.alloc (.cells #[.string sx,.string ⟨#[]⟩,ptr w1.heap.size,.string ⟨#[]⟩] 163));have hn2:za w1 w2:=by rw[hw2];exact(za.refl w1).alloc _
 have hn3:za w2 w3:=by rw[hw3];exact(za.refl w2).alloc _
 have hs2:w2.heap.size=w1.heap.size+1:=by rw[hw2];exact Array.size_push ..
 have hb2:w3.heap[w1.heap.size]? =some (.cells #[.bool true] 161 (0,0)):=hn3.heap (by rw[hw2];exact zg w1 _);have hb3:w3.heap[w2.heap.size]? =some (.cells #[.string sx,.string ⟨#[]⟩,ptr w1.heap.size,.string ⟨#[]⟩] 163 (0,0)):=by rw[hw3];exact zg w2 _
 have hall:=(hn1.trans hn2).trans hn3;have hz0:l w.heap.size=0:=by
  by_cases e:l w.heap.size=0
  ·exact e
  ·have:=h.st.bnd _ e;omega
 have hz1: ¬l.some w1.heap.size:=λe=>by have:=h.st.bnd _ e;omega
 have hz2: ¬l.some w2.heap.size:=λe=>by have:=h.st.bnd _ e;omega
 have hC:∀W,(W=w3\/W=w3.drew)->Calls prog 171 #[ptr a,ptr w2.heap.size] W λe w'=>∃v,e=.returned (.tuple #[v,ze ec])/\(∃l' I' a',I'.db=I.db/\qG l w l' w'/\Wd l' w' x I' a' s')/\w'.cell? ⟨x,2,none⟩=some (.iface 142 (ptr a))/\w'.cell? ⟨w.heap.size,1,none⟩=some (.string sx):=λW hW=>by
  have hb:W.heap=w3.heap:=by rcases hW with rfl|rfl<;>rfl
  have hnW:za w W:=by
   rcases hW with rfl|rfl
   ·exact hall
   ·exact hall.drew
  refine(UO (h.new hnW).st hr hn (ob:=w1.heap.size) (rb:=w2.heap.size) (zi.2 ⟨hz2,?_⟩) (zi.2 ⟨hz2,?_⟩) (zi.2 ⟨hz1,?_⟩) hf hs).mono λe w' hc=> ?_
  rotate_left 3
  ·obtain⟨v,he,hend,k2,kp⟩:=VZ.w h hnW hc;refine⟨v,he,hend,k2,kp _ _ hz0 ?_⟩;have hb9:W.heap[w.heap.size]? =w1.heap[w.heap.size]? :=by
    rw[hb,(hn2.trans hn3).block w.heap.size (by omega) (λe=>e)]
   rw[World.cell?_of_block hb9];exact g1
  ·rw[hsx,cell_of_row W w2.heap.size 0 _ _ (0,0) (by rw[hb];exact hb3)];rfl
  ·rw[cell_of_row W w2.heap.size 2 _ _ (0,0) (by rw[hb];exact hb3)];rfl
  ·rw[cell_of_row W w1.heap.size 0 _ _ (0,0) (by rw[hb];exact hb2)];rfl
 have hC2:=hC _ (Or.inr rfl);rw[hs2,hs1,hw3,hw2,hs1]at hC2;have HC:=hid hC2;have HW1:=hid hw1;have HCC:=hid hcc;have HSX:=hid hsx;have hme:=VF a;clear h hcc hsx hn1 hw1 hn2 hn3 hb2 hb3 hall hz0 hz1 hz2 hC hC2 hs2 hr hf hs hb0 hw2 hw3;obtain⟨ob,hob⟩:=zex (w.heap.size);rw[<-hob]at g0 g1;have HOB:=hid hob;go_enter func42,ntmps42;go_upto_region 2 with fail
 rw[<-HCC.out,<-HW1.out,<-hob];clear c0 c1 c2 hob;obtain⟨va,hva⟩:=zex (Value.agg cc);rw[<-hva];clear hva;go_wp2_with fail;go_region_held3 (λw'=>w'.cell? ⟨x,2,none⟩=some (.iface 142 (ptr a))/\w'.cell? ⟨ob,1,none⟩=some (.string sx)) (go_keep) (first|(go_at_call 171;refine HC.out.mono ?_;rintro e w9 ⟨v,rfl,hend,k2,k1⟩;rw[<-HOB.out]at k1;have HEND:=hid hend;clear hend))
 all_goals
  go_wp2;go_returns;exact⟨rfl,HEND.out⟩
theorem zdp{w:World}:Calls prog 43 #[ze 0] w λe w'=>e=.returned (.int .i64 0)/\w=w':=by
 have e0:∀W,(binOp .eql 86 (ze 0) (ze 0)).run prog W=.ok (.bool true) W:=λW=>by kernel_rfl
 simp only[ze]at e0⊢;go_enter func43,ntmps43;go_wp2;go_returns;exact⟨rfl,rfl⟩
theorem zdq{w:World}:Calls prog 43 #[ze 1] w λe w'=>e=.returned (.int .i64 1)/\w=w':=by
 have e0:∀W,(binOp .eql 86 (ze 1) (ze 0)).run prog W=.ok (.bool false) W:=λW=>by kernel_rfl
 have e1:∀W,(binOp .eql 86 (ze 1) (ze 1)).run prog W=.ok (.bool true) W:=λW=>by kernel_rfl
 simp only[ze]at e0 e1⊢;go_enter func43,ntmps43;go_wp2;go_returns;exact⟨rfl,rfl⟩
theorem zdr{w:World}:Calls prog 43 #[ze 2] w λe w'=>e=.returned (.int .i64 2)/\w=w':=by
 have e0:∀W,(binOp .eql 86 (ze 2) (ze 0)).run prog W=.ok (.bool false) W:=λW=>by kernel_rfl
 have e1:∀W,(binOp .eql 86 (ze 2) (ze 1)).run prog W=.ok (.bool false) W:=λW=>by kernel_rfl
 have e2:∀W,(binOp .eql 86 (ze 2) (ze 2)).run prog W=.ok (.bool true) W:=λW=>by kernel_rfl
 simp only[ze]at e0 e1 e2⊢;go_enter func43,ntmps43;go_wp2;go_returns;exact⟨rfl,rfl⟩
theorem zds{w:World}:Calls prog 43 #[ze 3] w λe w'=>e=.returned (.int .i64 3)/\w=w':=by
 have e0:∀W,(binOp .eql 86 (ze 3) (ze 0)).run prog W=.ok (.bool false) W:=λW=>by kernel_rfl
 have e1:∀W,(binOp .eql 86 (ze 3) (ze 1)).run prog W=.ok (.bool false) W:=λW=>by kernel_rfl
 have e2:∀W,(binOp .eql 86 (ze 3) (ze 2)).run prog W=.ok (.bool false) W:=λW=>by kernel_rfl
 have e3:∀W,(binOp .eql 86 (ze 3) (ze 3)).run prog W=.ok (.bool true) W:=λW=>by kernel_rfl
 simp only[ze]at e0 e1 e2 e3⊢;go_enter func43,ntmps43;go_wp2;go_returns;exact⟨rfl,rfl⟩
theorem zdt{w:World}:Calls prog 43 #[ze 4] w λe w'=>e=.returned (.int .i64 4)/\w=w':=by
 have e0:∀W,(binOp .eql 86 (ze 4) (ze 0)).run prog W=.ok (.bool false) W:=λW=>by kernel_rfl
 have e1:∀W,(binOp .eql 86 (ze 4) (ze 1)).run prog W=.ok (.bool false) W:=λW=>by kernel_rfl
 have e2:∀W,(binOp .eql 86 (ze 4) (ze 2)).run prog W=.ok (.bool false) W:=λW=>by kernel_rfl
 have e3:∀W,(binOp .eql 86 (ze 4) (ze 3)).run prog W=.ok (.bool false) W:=λW=>by kernel_rfl
 have e4:∀W,(binOp .eql 86 (ze 4) (ze 4)).run prog W=.ok (.bool true) W:=λW=>by kernel_rfl
 simp only[ze]at e0 e1 e2 e3 e4⊢;go_enter func43,ntmps43;go_wp2;go_returns;exact⟨rfl,rfl⟩
theorem zdu{w:World}:Calls prog 43 #[ze 5] w λe w'=>e=.returned (.int .i64 5)/\w=w':=by
 have e0:∀W,(binOp .eql 86 (ze 5) (ze 0)).run prog W=.ok (.bool false) W:=λW=>by kernel_rfl
 have e1:∀W,(binOp .eql 86 (ze 5) (ze 1)).run prog W=.ok (.bool false) W:=λW=>by kernel_rfl
 have e2:∀W,(binOp .eql 86 (ze 5) (ze 2)).run prog W=.ok (.bool false) W:=λW=>by kernel_rfl
 have e3:∀W,(binOp .eql 86 (ze 5) (ze 3)).run prog W=.ok (.bool false) W:=λW=>by kernel_rfl
 have e4:∀W,(binOp .eql 86 (ze 5) (ze 4)).run prog W=.ok (.bool false) W:=λW=>by kernel_rfl
 have e5:∀W,(binOp .eql 86 (ze 5) (ze 5)).run prog W=.ok (.bool true) W:=λW=>by kernel_rfl
 simp only[ze]at e0 e1 e2 e3 e4 e5⊢;go_enter func43,ntmps43;go_wp2;go_returns;exact⟨rfl,rfl⟩
theorem zdv{w:World}:Calls prog 43 #[ze 6] w λe w'=>e=.returned (.int .i64 6)/\w=w':=by
 have e0:∀W,(binOp .eql 86 (ze 6) (ze 0)).run prog W=.ok (.bool false) W:=λW=>by kernel_rfl
 have e1:∀W,(binOp .eql 86 (ze 6) (ze 1)).run prog W=.ok (.bool false) W:=λW=>by kernel_rfl
 have e2:∀W,(binOp .eql 86 (ze 6) (ze 2)).run prog W=.ok (.bool false) W:=λW=>by kernel_rfl
 have e3:∀W,(binOp .eql 86 (ze 6) (ze 3)).run prog W=.ok (.bool false) W:=λW=>by kernel_rfl
 have e4:∀W,(binOp .eql 86 (ze 6) (ze 4)).run prog W=.ok (.bool false) W:=λW=>by kernel_rfl
 have e5:∀W,(binOp .eql 86 (ze 6) (ze 5)).run prog W=.ok (.bool false) W:=λW=>by kernel_rfl
 have e6:∀W,(binOp .eql 86 (ze 6) (ze 6)).run prog W=.ok (.bool true) W:=λW=>by kernel_rfl
 simp only[ze]at e0 e1 e2 e3 e4 e5 e6⊢;go_enter func43,ntmps43;go_wp2;go_returns;exact⟨rfl,rfl⟩
theorem zdw{w:World}:Calls prog 43 #[ze 7] w λe w'=>e=.returned (.int .i64 7)/\w=w':=by
 have e0:∀W,(binOp .eql 86 (ze 7) (ze 0)).run prog W=.ok (.bool false) W:=λW=>by kernel_rfl
 have e1:∀W,(binOp .eql 86 (ze 7) (ze 1)).run prog W=.ok (.bool false) W:=λW=>by kernel_rfl
 have e2:∀W,(binOp .eql 86 (ze 7) (ze 2)).run prog W=.ok (.bool false) W:=λW=>by kernel_rfl
 have e3:∀W,(binOp .eql 86 (ze 7) (ze 3)).run prog W=.ok (.bool false) W:=λW=>by kernel_rfl
 have e4:∀W,(binOp .eql 86 (ze 7) (ze 4)).run prog W=.ok (.bool false) W:=λW=>by kernel_rfl
 have e5:∀W,(binOp .eql 86 (ze 7) (ze 5)).run prog W=.ok (.bool false) W:=λW=>by kernel_rfl
 have e6:∀W,(binOp .eql 86 (ze 7) (ze 6)).run prog W=.ok (.bool false) W:=λW=>by kernel_rfl
 have e7:∀W,(binOp .eql 86 (ze 7) (ze 7)).run prog W=.ok (.bool true) W:=λW=>by kernel_rfl
 simp only[ze]at e0 e1 e2 e3 e4 e5 e6 e7⊢;go_enter func43,ntmps43;go_wp2;go_returns;exact⟨rfl,rfl⟩
theorem zdx{w:World}:Calls prog 43 #[ze 8] w λe w'=>e=.returned (.int .i64 8)/\w=w':=by
 have e0:∀W,(binOp .eql 86 (ze 8) (ze 0)).run prog W=.ok (.bool false) W:=λW=>by kernel_rfl
 have e1:∀W,(binOp .eql 86 (ze 8) (ze 1)).run prog W=.ok (.bool false) W:=λW=>by kernel_rfl
 have e2:∀W,(binOp .eql 86 (ze 8) (ze 2)).run prog W=.ok (.bool false) W:=λW=>by kernel_rfl
 have e3:∀W,(binOp .eql 86 (ze 8) (ze 3)).run prog W=.ok (.bool false) W:=λW=>by kernel_rfl
 have e4:∀W,(binOp .eql 86 (ze 8) (ze 4)).run prog W=.ok (.bool false) W:=λW=>by kernel_rfl
 have e5:∀W,(binOp .eql 86 (ze 8) (ze 5)).run prog W=.ok (.bool false) W:=λW=>by kernel_rfl
 have e6:∀W,(binOp .eql 86 (ze 8) (ze 6)).run prog W=.ok (.bool false) W:=λW=>by kernel_rfl
 have e7:∀W,(binOp .eql 86 (ze 8) (ze 7)).run prog W=.ok (.bool false) W:=λW=>by kernel_rfl
 have e8:∀W,(binOp .eql 86 (ze 8) (ze 8)).run prog W=.ok (.bool true) W:=λW=>by kernel_rfl
 simp only[ze]at e0 e1 e2 e3 e4 e5 e6 e7 e8⊢;go_enter func43,ntmps43;go_wp2;go_returns;exact⟨rfl,rfl⟩
theorem zdy{w:World}:Calls prog 43 #[ze 9] w λe w'=>e=.returned (.int .i64 9)/\w=w':=by
 have e0:∀W,(binOp .eql 86 (ze 9) (ze 0)).run prog W=.ok (.bool false) W:=λW=>by kernel_rfl
 have e1:∀W,(binOp .eql 86 (ze 9) (ze 1)).run prog W=.ok (.bool false) W:=λW=>by kernel_rfl
 have e2:∀W,(binOp .eql 86 (ze 9) (ze 2)).run prog W=.ok (.bool false) W:=λW=>by kernel_rfl
 have e3:∀W,(binOp .eql 86 (ze 9) (ze 3)).run prog W=.ok (.bool false) W:=λW=>by kernel_rfl
 have e4:∀W,(binOp .eql 86 (ze 9) (ze 4)).run prog W=.ok (.bool false) W:=λW=>by kernel_rfl
 have e5:∀W,(binOp .eql 86 (ze 9) (ze 5)).run prog W=.ok (.bool false) W:=λW=>by kernel_rfl
 have e6:∀W,(binOp .eql 86 (ze 9) (ze 6)).run prog W=.ok (.bool false) W:=λW=>by kernel_rfl
 have e7:∀W,(binOp .eql 86 (ze 9) (ze 7)).run prog W=.ok (.bool false) W:=λW=>by kernel_rfl
 have e8:∀W,(binOp .eql 86 (ze 9) (ze 8)).run prog W=.ok (.bool false) W:=λW=>by kernel_rfl
 have e9:∀W,(binOp .eql 86 (ze 9) (ze 9)).run prog W=.ok (.bool true) W:=λW=>by kernel_rfl
 simp only[ze]at e0 e1 e2 e3 e4 e5 e6 e7 e8 e9⊢;go_enter func43,ntmps43;go_wp2;go_returns;exact⟨rfl,rfl⟩
theorem zcb{w:World}:Calls prog 43 #[ze 10] w λe w'=>e=.returned (.int .i64 10)/\w=w':=by
 have e0:∀W,(binOp .eql 86 (ze 10) (ze 0)).run prog W=.ok (.bool false) W:=λW=>by kernel_rfl
 have e1:∀W,(binOp .eql 86 (ze 10) (ze 1)).run prog W=.ok (.bool false) W:=λW=>by kernel_rfl
 have e2:∀W,(binOp .eql 86 (ze 10) (ze 2)).run prog W=.ok (.bool false) W:=λW=>by kernel_rfl
 have e3:∀W,(binOp .eql 86 (ze 10) (ze 3)).run prog W=.ok (.bool false) W:=λW=>by kernel_rfl
 have e4:∀W,(binOp .eql 86 (ze 10) (ze 4)).run prog W=.ok (.bool false) W:=λW=>by kernel_rfl
 have e5:∀W,(binOp .eql 86 (ze 10) (ze 5)).run prog W=.ok (.bool false) W:=λW=>by kernel_rfl
 have e6:∀W,(binOp .eql 86 (ze 10) (ze 6)).run prog W=.ok (.bool false) W:=λW=>by kernel_rfl
 have e7:∀W,(binOp .eql 86 (ze 10) (ze 7)).run prog W=.ok (.bool false) W:=λW=>by kernel_rfl
 have e8:∀W,(binOp .eql 86 (ze 10) (ze 8)).run prog W=.ok (.bool false) W:=λW=>by kernel_rfl
 have e9:∀W,(binOp .eql 86 (ze 10) (ze 9)).run prog W=.ok (.bool false) W:=λW=>by kernel_rfl
 have e10:∀W,(binOp .eql 86 (ze 10) (ze 10)).run prog W=.ok (.bool true) W:=λW=>by kernel_rfl
 simp only[ze]at e0 e1 e2 e3 e4 e5 e6 e7 e8 e9 e10⊢;go_enter func43,ntmps43;go_wp2;go_returns;exact⟨rfl,rfl⟩
theorem zcc{w:World}:Calls prog 43 #[ze 11] w λe w'=>e=.returned (.int .i64 11)/\w=w':=by
 have e0:∀W,(binOp .eql 86 (ze 11) (ze 0)).run prog W=.ok (.bool false) W:=λW=>by kernel_rfl
 have e1:∀W,(binOp .eql 86 (ze 11) (ze 1)).run prog W=.ok (.bool false) W:=λW=>by kernel_rfl
 have e2:∀W,(binOp .eql 86 (ze 11) (ze 2)).run prog W=.ok (.bool false) W:=λW=>by kernel_rfl
 have e3:∀W,(binOp .eql 86 (ze 11) (ze 3)).run prog W=.ok (.bool false) W:=λW=>by kernel_rfl
 have e4:∀W,(binOp .eql 86 (ze 11) (ze 4)).run prog W=.ok (.bool false) W:=λW=>by kernel_rfl
 have e5:∀W,(binOp .eql 86 (ze 11) (ze 5)).run prog W=.ok (.bool false) W:=λW=>by kernel_rfl
 have e6:∀W,(binOp .eql 86 (ze 11) (ze 6)).run prog W=.ok (.bool false) W:=λW=>by kernel_rfl
 have e7:∀W,(binOp .eql 86 (ze 11) (ze 7)).run prog W=.ok (.bool false) W:=λW=>by kernel_rfl
 have e8:∀W,(binOp .eql 86 (ze 11) (ze 8)).run prog W=.ok (.bool false) W:=λW=>by kernel_rfl
 have e9:∀W,(binOp .eql 86 (ze 11) (ze 9)).run prog W=.ok (.bool false) W:=λW=>by kernel_rfl
 have e10:∀W,(binOp .eql 86 (ze 11) (ze 10)).run prog W=.ok (.bool false) W:=λW=>by kernel_rfl
 have e11:∀W,(binOp .eql 86 (ze 11) (ze 11)).run prog W=.ok (.bool true) W:=λW=>by kernel_rfl
 simp only[ze]at e0 e1 e2 e3 e4 e5 e6 e7 e8 e9 e10 e11⊢;go_enter func43,ntmps43;go_wp2;go_returns;exact⟨rfl,rfl⟩
theorem zcd{w:World}:Calls prog 43 #[ze 12] w λe w'=>e=.returned (.int .i64 12)/\w=w':=by
 have e0:∀W,(binOp .eql 86 (ze 12) (ze 0)).run prog W=.ok (.bool false) W:=λW=>by kernel_rfl
 have e1:∀W,(binOp .eql 86 (ze 12) (ze 1)).run prog W=.ok (.bool false) W:=λW=>by kernel_rfl
 have e2:∀W,(binOp .eql 86 (ze 12) (ze 2)).run prog W=.ok (.bool false) W:=λW=>by kernel_rfl
 have e3:∀W,(binOp .eql 86 (ze 12) (ze 3)).run prog W=.ok (.bool false) W:=λW=>by kernel_rfl
 have e4:∀W,(binOp .eql 86 (ze 12) (ze 4)).run prog W=.ok (.bool false) W:=λW=>by kernel_rfl
 have e5:∀W,(binOp .eql 86 (ze 12) (ze 5)).run prog W=.ok (.bool false) W:=λW=>by kernel_rfl
 have e6:∀W,(binOp .eql 86 (ze 12) (ze 6)).run prog W=.ok (.bool false) W:=λW=>by kernel_rfl
 have e7:∀W,(binOp .eql 86 (ze 12) (ze 7)).run prog W=.ok (.bool false) W:=λW=>by kernel_rfl
 have e8:∀W,(binOp .eql 86 (ze 12) (ze 8)).run prog W=.ok (.bool false) W:=λW=>by kernel_rfl
 have e9:∀W,(binOp .eql 86 (ze 12) (ze 9)).run prog W=.ok (.bool false) W:=λW=>by kernel_rfl
 have e10:∀W,(binOp .eql 86 (ze 12) (ze 10)).run prog W=.ok (.bool false) W:=λW=>by kernel_rfl
 have e11:∀W,(binOp .eql 86 (ze 12) (ze 11)).run prog W=.ok (.bool false) W:=λW=>by kernel_rfl
 have e12:∀W,(binOp .eql 86 (ze 12) (ze 12)).run prog W=.ok (.bool true) W:=λW=>by kernel_rfl
 simp only[ze]at e0 e1 e2 e3 e4 e5 e6 e7 e8 e9 e10 e11 e12⊢;go_enter func43,ntmps43;go_wp2;go_returns;exact⟨rfl,rfl⟩
theorem zce{w:World}:Calls prog 43 #[ze 13] w λe w'=>e=.returned (.int .i64 13)/\w=w':=by
 have e0:∀W,(binOp .eql 86 (ze 13) (ze 0)).run prog W=.ok (.bool false) W:=λW=>by kernel_rfl
 have e1:∀W,(binOp .eql 86 (ze 13) (ze 1)).run prog W=.ok (.bool false) W:=λW=>by kernel_rfl
 have e2:∀W,(binOp .eql 86 (ze 13) (ze 2)).run prog W=.ok (.bool false) W:=λW=>by kernel_rfl
 have e3:∀W,(binOp .eql 86 (ze 13) (ze 3)).run prog W=.ok (.bool false) W:=λW=>by kernel_rfl
 have e4:∀W,(binOp .eql 86 (ze 13) (ze 4)).run prog W=.ok (.bool false) W:=λW=>by kernel_rfl
 have e5:∀W,(binOp .eql 86 (ze 13) (ze 5)).run prog W=.ok (.bool false) W:=λW=>by kernel_rfl
 have e6:∀W,(binOp .eql 86 (ze 13) (ze 6)).run prog W=.ok (.bool false) W:=λW=>by kernel_rfl
 have e7:∀W,(binOp .eql 86 (ze 13) (ze 7)).run prog W=.ok (.bool false) W:=λW=>by kernel_rfl
 have e8:∀W,(binOp .eql 86 (ze 13) (ze 8)).run prog W=.ok (.bool false) W:=λW=>by kernel_rfl
 have e9:∀W,(binOp .eql 86 (ze 13) (ze 9)).run prog W=.ok (.bool false) W:=λW=>by kernel_rfl
 have e10:∀W,(binOp .eql 86 (ze 13) (ze 10)).run prog W=.ok (.bool false) W:=λW=>by kernel_rfl
 have e11:∀W,(binOp .eql 86 (ze 13) (ze 11)).run prog W=.ok (.bool false) W:=λW=>by kernel_rfl
 have e12:∀W,(binOp .eql 86 (ze 13) (ze 12)).run prog W=.ok (.bool false) W:=λW=>by kernel_rfl
 have e13:∀W,(binOp .eql 86 (ze 13) (ze 13)).run prog W=.ok (.bool true) W:=λW=>by kernel_rfl
 simp only[ze]at e0 e1 e2 e3 e4 e5 e6 e7 e8 e9 e10 e11 e12 e13⊢;go_enter func43,ntmps43;go_wp2;go_returns;exact⟨rfl,rfl⟩
theorem zcf{w:World}:Calls prog 43 #[ze 14] w λe w'=>e=.returned (.int .i64 14)/\w=w':=by
 have e0:∀W,(binOp .eql 86 (ze 14) (ze 0)).run prog W=.ok (.bool false) W:=λW=>by kernel_rfl
 have e1:∀W,(binOp .eql 86 (ze 14) (ze 1)).run prog W=.ok (.bool false) W:=λW=>by kernel_rfl
 have e2:∀W,(binOp .eql 86 (ze 14) (ze 2)).run prog W=.ok (.bool false) W:=λW=>by kernel_rfl
 have e3:∀W,(binOp .eql 86 (ze 14) (ze 3)).run prog W=.ok (.bool false) W:=λW=>by kernel_rfl
 have e4:∀W,(binOp .eql 86 (ze 14) (ze 4)).run prog W=.ok (.bool false) W:=λW=>by kernel_rfl
 have e5:∀W,(binOp .eql 86 (ze 14) (ze 5)).run prog W=.ok (.bool false) W:=λW=>by kernel_rfl
 have e6:∀W,(binOp .eql 86 (ze 14) (ze 6)).run prog W=.ok (.bool false) W:=λW=>by kernel_rfl
 have e7:∀W,(binOp .eql 86 (ze 14) (ze 7)).run prog W=.ok (.bool false) W:=λW=>by kernel_rfl
 have e8:∀W,(binOp .eql 86 (ze 14) (ze 8)).run prog W=.ok (.bool false) W:=λW=>by kernel_rfl
 have e9:∀W,(binOp .eql 86 (ze 14) (ze 9)).run prog W=.ok (.bool false) W:=λW=>by kernel_rfl
 have e10:∀W,(binOp .eql 86 (ze 14) (ze 10)).run prog W=.ok (.bool false) W:=λW=>by kernel_rfl
 have e11:∀W,(binOp .eql 86 (ze 14) (ze 11)).run prog W=.ok (.bool false) W:=λW=>by kernel_rfl
 have e12:∀W,(binOp .eql 86 (ze 14) (ze 12)).run prog W=.ok (.bool false) W:=λW=>by kernel_rfl
 have e13:∀W,(binOp .eql 86 (ze 14) (ze 13)).run prog W=.ok (.bool false) W:=λW=>by kernel_rfl
 have e14:∀W,(binOp .eql 86 (ze 14) (ze 14)).run prog W=.ok (.bool true) W:=λW=>by kernel_rfl
 simp only[ze]at e0 e1 e2 e3 e4 e5 e6 e7 e8 e9 e10 e11 e12 e13 e14⊢;go_enter func43,ntmps43;go_wp2;go_returns;exact⟨rfl,rfl⟩
theorem zcg{w:World}:Calls prog 43 #[ze 15] w λe w'=>e=.returned (.int .i64 15)/\w=w':=by
 have e0:∀W,(binOp .eql 86 (ze 15) (ze 0)).run prog W=.ok (.bool false) W:=λW=>by kernel_rfl
 have e1:∀W,(binOp .eql 86 (ze 15) (ze 1)).run prog W=.ok (.bool false) W:=λW=>by kernel_rfl
 have e2:∀W,(binOp .eql 86 (ze 15) (ze 2)).run prog W=.ok (.bool false) W:=λW=>by kernel_rfl
 have e3:∀W,(binOp .eql 86 (ze 15) (ze 3)).run prog W=.ok (.bool false) W:=λW=>by kernel_rfl
 have e4:∀W,(binOp .eql 86 (ze 15) (ze 4)).run prog W=.ok (.bool false) W:=λW=>by kernel_rfl
 have e5:∀W,(binOp .eql 86 (ze 15) (ze 5)).run prog W=.ok (.bool false) W:=λW=>by kernel_rfl
 have e6:∀W,(binOp .eql 86 (ze 15) (ze 6)).run prog W=.ok (.bool false) W:=λW=>by kernel_rfl
 have e7:∀W,(binOp .eql 86 (ze 15) (ze 7)).run prog W=.ok (.bool false) W:=λW=>by kernel_rfl
 have e8:∀W,(binOp .eql 86 (ze 15) (ze 8)).run prog W=.ok (.bool false) W:=λW=>by kernel_rfl
 have e9:∀W,(binOp .eql 86 (ze 15) (ze 9)).run prog W=.ok (.bool false) W:=λW=>by kernel_rfl
 have e10:∀W,(binOp .eql 86 (ze 15) (ze 10)).run prog W=.ok (.bool false) W:=λW=>by kernel_rfl
 have e11:∀W,(binOp .eql 86 (ze 15) (ze 11)).run prog W=.ok (.bool false) W:=λW=>by kernel_rfl
 have e12:∀W,(binOp .eql 86 (ze 15) (ze 12)).run prog W=.ok (.bool false) W:=λW=>by kernel_rfl
 have e13:∀W,(binOp .eql 86 (ze 15) (ze 13)).run prog W=.ok (.bool false) W:=λW=>by kernel_rfl
 have e14:∀W,(binOp .eql 86 (ze 15) (ze 14)).run prog W=.ok (.bool false) W:=λW=>by kernel_rfl
 have e15:∀W,(binOp .eql 86 (ze 15) (ze 15)).run prog W=.ok (.bool true) W:=λW=>by kernel_rfl
 simp only[ze]at e0 e1 e2 e3 e4 e5 e6 e7 e8 e9 e10 e11 e12 e13 e14 e15⊢;go_enter func43,ntmps43;go_wp2;go_returns;exact⟨rfl,rfl⟩
variable{n:Nat}
theorem vq{w:World}(hn:n<=15):Calls prog 43 #[ze n] w λe w'=>e=.returned (.int .i64 n)/\w=w':=by
 match n,hn with
 |0,_=>exact zdp
 |1,_=>exact zdq
 |2,_=>exact zdr
 |3,_=>exact zds
 |4,_=>exact zdt
 |5,_=>exact zdu
 |6,_=>exact zdv
 |7,_=>exact zdw
 |8,_=>exact zdx
 |9,_=>exact zdy
 |10,_=>exact zcb
 |11,_=>exact zcc
 |12,_=>exact zcd
 |13,_=>exact zce
 |14,_=>exact zcf
 |15,_=>exact zcg
 |k+16,h=>exact absurd h (by omega)
theorem zaS{xs:List Bytes}(hk:k<xs.length)(hn:xs.length=n):((xs.take k).map zb++List.replicate (n-k) (Value.string ⟨#[]⟩)).toArray.setIfInBounds k (zb xs[k])=((xs.take (k+1)).map zb++List.replicate (n-(k+1)) (Value.string ⟨#[]⟩)).toArray:=by
 apply Array.toList_inj.1;rw[Array.toList_setIfInBounds];have e:List.replicate (n-k) (Value.string ⟨#[]⟩)=Value.string ⟨#[]⟩::List.replicate (n-(k+1)) (Value.string ⟨#[]⟩):=by rw[show n-k=(n-(k+1))+1 by omega,List.replicate_succ]
 have hl:((xs.take k).map zb).length=k:=by rw[List.length_map,List.length_take];omega
 show((xs.take k).map zb++List.replicate (n-k) (Value.string ⟨#[]⟩)).set k (zb xs[k])=(xs.take (k+1)).map zb++List.replicate (n-(k+1)) (Value.string ⟨#[]⟩);rw[e,List.set_append_right _ _ (by omega),hl,Nat.sub_self,List.take_succ_eq_append_getElem hk];simp only[List.map_append,List.map_cons,List.map_nil,List.append_assoc,List.singleton_append,List.set_cons_zero]
structure xj(w2 wr:World)(vb rb n:Nat)(T:TypeId)(xs:List Bytes)(k:Nat):Prop where
 new:za w2 wr
 ge:w2.heap.size<=vb
 row:wr.heap[vb]? =some (.cells ((xs.take k).map zb++List.replicate (n-k) (Value.string ⟨#[]⟩)).toArray 9 (0,0))
 resp:wr.heap[rb]? =some (.cells #[.slice (some ⟨vb,0,none⟩) n n] T (0,0))
 ne:rb≠vb
 geR:w2.heap.size<=rb
variable{vb:Nat}{w2 wr:World}
theorem xj.step{rb:Nat}{T:TypeId}{xs:List Bytes}(h:xj w2 wr vb rb n T xs k)(hn:xs.length=n)(hk:k<xs.length)(m:Nat):xj w2 ((wr.drewN m).setCell ⟨vb,k,none⟩ (zb xs[k])) vb rb n T xs (k+1):=by
 have h1:(wr.drewN m).heap[vb]? =some (.cells ((xs.take k).map zb++List.replicate (n-k) (Value.string ⟨#[]⟩)).toArray 9 (0,0)):=h.row;refine⟨zo.setCell (h.new.drewN m) (p:=⟨vb,k,none⟩) (λhlt=>absurd hlt (by have:=h.ge;show ¬vb<_;omega)) _,h.ge,?_,?_,h.ne,h.geR⟩
 ·rw[heap_setCell_same _ vb k _ _ _ h1,zaS hk hn]
 ·rw[Below.heap_setCell _ _ _ _ (show rb≠vb from h.ne)];exact h.resp
theorem xj.sl{rb:Nat}{T:TypeId}{xs:List Bytes}(h:xj w2 wr vb rb n T xs n)(hn:xs.length=n)(hm:n<=9223372036854775807)(hb:∀j,l j≠0->j<w2.heap.size):Sl (im l.some wr) 1 (xs.map zb) (.slice (some ⟨vb,0,none⟩) n n):=by
 have h1:=h.row;rw[Nat.sub_self,List.replicate_zero,List.append_nil,<-hn,List.take_length]at h1;have h2:Sl wr.cell? 1 (xs.map zb) (.slice (some ⟨vb,0,none⟩) n n):=by
  have hown:wr.ownsRow 0 9 1 (.slice (some ⟨vb,0,none⟩) n n) n (xs.map zb):=
   ⟨by rw[List.length_map,hn,Nat.mul_one],.inr ⟨vb,n,_,rfl,Nat.zero_le _,h1,Nat.le_refl _,hm,by simp[hn],by rw[Nat.mul_one,<-hn];exact List.take_of_length_le (by simp)⟩⟩
  exact Sl.of_own hown
 refine Sl.im_of h2 λq e e2=> ?_;have e':vb=q:=by simpa[Value.ownBlock]using e
 have h3:=hb _ e2;have h4:=h.ge;omega
theorem fJ{w:World}{rb:Nat}{I:zN}{s:zA}(h:Zn l w a I s):
  Calls prog 175 #[ptr a,ptr rb] w (GN l w a I s (s.users.map (·.name))):=by
 obtain⟨A,ab,m,lg,h⟩:=h;have r2:w.cell? ⟨a,2,none⟩=some (.iface 149 (ptr ab)):=by rw[cell_of_row w a 2 _ _ (0,0) h.row];rfl
 have HG:=hid (Ki h);have H:=hid h;have HUL:=hid h.fine.ul;clear h;go_enter func175,ntmps175;go_wp2_with fail;refine HG.out.mono ?_;rintro e w2 ⟨r,W1,rfl,hn1,hst,hp2,bs,g1,g2,g3⟩;obtain⟨vp,n,vc,rfl⟩:=g1.shape;have HS2:=hid ((zr.new H.out.bnd hn1).trans hst.s);have HP2:=hid hp2;have hbl:s.users.length=bs.length:=g3.length;have hvn:bs.length=n:=by have:=g1.row.1;rw[List.length_map]at this;exact this
 have hn3:n<=300:=by have:=HUL.out;omega
 have HLEN:=hid (hbl.trans hvn);have HBL:=hid hvn;have HSL:=hid g1;have HALL:=hid g3;have hmk:=YU xV rfl w2 n (by omega) (by omega);obtain⟨W3,hW3⟩:=zex (w2.alloc (.cells (List.replicate n (Value.string ⟨#[]⟩)).toArray 9));rw[<-hW3]at hmk;obtain⟨W4,hW4⟩:=zex (W3.alloc (.cells #[.slice (some ⟨w2.heap.size,0,none⟩) n n] 102));have hs3:W3.heap.size=w2.heap.size+1:=by rw[hW3];exact Array.size_push ..
 have hf0:xj w2 W4 w2.heap.size W3.heap.size n 102 (s.users.map (·.name)) 0:=by
  have n3:za w2 W3:=by rw[hW3];exact(za.refl w2).alloc _
  have n4:za W3 W4:=by rw[hW4];exact(za.refl W3).alloc _
  refine⟨n3.trans n4,Nat.le_refl _,?_,?_,by omega,by omega⟩
  ·rw[List.take_zero,List.map_nil,List.nil_append,Nat.sub_zero];exact n4.heap (by rw[hW3];exact zg w2 _)
  ·rw[hW4];exact zg W3 _
 have HF0:=hid hf0;have HW4:=hid hW4;clear hn1 hst hp2 g1 g2 g3 hbl hvn hf0 hW3 hW4 hs3;go_upto_region 3 with fail
 rw[<-HW4.out];obtain⟨rb4,hrb⟩:∃q,W3.heap.size=q:=⟨_,rfl⟩;obtain⟨vb,hvb⟩:∃q,w2.heap.size=q:=⟨_,rfl⟩;rw[hrb,hvb]at HF0;rw[hrb];clear hmk hrb;go_wp2;go_loopw [21] (λc wr=>∃k:Nat,k<=n/\c=.int .i64 k/\xj w2 wr vb rb4 n 102 (s.users.map (·.name)) k) (λc _=>n-(intOf c).toNat)
 case atStart=>exact⟨0,Nat.zero_le _,rfl,HF0.out⟩
 case round=>
  obtain⟨k,hk,rfl,hf⟩:=hrel;have HF:=hid hf;obtain⟨c0,f0⟩:=zaQ hf.resp;by_cases hlt:k<n
  ·obtain⟨hrl,hrc,hrm,⟨gb,go,rfl,hce⟩|h0⟩:=HSL.out.row
   case inr=>exact absurd h0 (by omega)
   have hkb:k<bs.length:=by rw[HBL.out];exact hlt
   have hku:k<s.users.length:=by rw[HLEN.out];exact hlt
   have ck:=hf.new.le _ _ (hce k (by rw[List.length_map];exact hkb));rw[List.getElem_map]at ck;have hua:=(HALL.out.get k hku hkb).2.mono (zd _ _);obtain⟨nv,u0,u1⟩:=hua.name;clear hua;obtain⟨np,nn,nc,rfl,hl9⟩:=u1.shape;have k0:=hf.new.le _ _ u0;have hbs:Bs wr.cell? s.users[k].name (.slice np nn nc):=u1.mono hf.new.le;obtain⟨x,hx⟩:∃x,s.users[k].name=x:=⟨_,rfl⟩;rw[hx]at hbs;have hxk:(s.users.map (·.name))[k]'(by rw[List.length_map];exact hku)=x:=by rw[List.getElem_map,hx]
   have hconv:∀m,(convert 75 9 (.slice np nn nc)).run prog (wr.drewN m)=.ok (.string ⟨x.toArray⟩) (wr.drewN m):=λm=>kO (w:=wr.drewN m) (show Bs (wr.drewN m).cell? x _ from hbs) 75 5 9 (by kernel_rfl) (by kernel_rfl) (by kernel_rfl);have hconv0:=hconv 0;have hconv1:=hconv 1;have h1:wr.drewN 1=wr.drew:=rfl;rw[h1]at hconv1;have hkz:(k:Int)<n:=by omega
   have hcv:wr.cell? ⟨vb,k,none⟩=some (.string ⟨#[]⟩)/\wr.frozen? ⟨vb,k,none⟩=false:=by
    constructor
    ·rw[cell_of_row wr vb k _ _ (0,0) hf.row];have hl:((((s.users.map (·.name)).take k).map zb)).length=k:=by rw[List.length_map,List.length_take,List.length_map];omega
     have:(((s.users.map (·.name)).take k).map zb++List.replicate (n-k) (Value.string ⟨#[]⟩))[k]? =some (.string ⟨#[]⟩):=by rw[List.getElem?_append_right (by omega),hl,Nat.sub_self,List.getElem?_replicate,if_pos (by omega)]
     simpa using this
    ·simp[World.frozen?,hf.row]
   obtain⟨cv,fv⟩:=hcv;have HXK:=hid hxk;have HKU:=hid hku;clear hl9 hrl hce hf hbs hconv h1 u0 u1;go_wp2_with fail;go_region
   all_goals
    go_wp2;go_roundw
    case rel=>refine⟨k+1,by omega,by go_num,?_⟩;have hs9:=HF.out.step (by rw[List.length_map];exact HLEN.out) (by rw[List.length_map];exact HKU.out) 1;rw[HXK.out]at hs9;exact hs9
    case measure=>simp[intOf];omega
  ·have hkn:k=n:=by omega
   subst hkn;go_wp2;go_returns;have hb2:=HP2.out.bnd;have hf:=HF.out;exact⟨_,_,l,I,rfl,zN.same_refl I,HS2.out.trans (zr.new hb2 hf.new),⟨_,_,_,_,HP2.out.new hf.new⟩,c0,hf.sl (by rw[List.length_map];exact HLEN.out) (by omega) hb2⟩
variable{l':zu}
theorem Wd.cstep{w:World}{I:zN}{s:zA}(h:Wd l w x I a s)(hc:qF l w l' w')(hk:∀j,l j=12\/l j=13\/l j=15\/l j=17->w'.heap[j]? =w.heap[j]?):Wd l' w' x I a s where
 row:=by rw[hk x (Or.inr (Or.inr (Or.inr h.lab)))];exact h.row
 lab:=by rw[hc.old x (Array.getElem?_eq_some_iff.1 h.row).1];exact h.lab
 st:=h.st.keep hc λj e=>hk j (by rcases e with e|e|e<;>simp[e])
def qR:Array Value:= #[.int .i64 0,.int .u64 0,.bool false,.bool false,.slice none 0 0,.slice none 0 0]
def xH(a:vE)(nv pv:Value):Array Value:= #[.int .i64 a.err,.int .u64 a.rev,.bool a.on,.bool a.yes,nv,pv]
def Zw(p:zh):List Value:=[.int .i64 p.kind,zb p.key,zb p.stop]
def Jy(r:Rd)(v:Value)(a:vE):Prop:=∃nv pv,v=.agg (xH a nv pv)/\Sl r 1 (a.names.map zb) nv/\Sl r 3 (a.perms.flatMap Zw) pv
def fZ(l:zu)(w:World)(x:Nat)(I:zN)(t:zA×vE)(e:Ending)(w':World):Prop:=
 ∃v l' I' a',e=.returned v/\I'.db=I.db/\qG l w l' w'/\Wd l' w' x I' a' t.1/\Jy (im l'.some w') v t.2
structure yZ(l:zu)(w:World)(x:Nat)(I:zN)(oc:Array Value)(l':zu)(W:World)(I':zN)(a:Nat)(s:zA)(an:vE)(nv pv:Value):Prop where
 db:I'.db=I.db
 st:qG l w l' W
 wd:Wd l' W x I' a s
 lo:l' w.heap.size=0
 lr:l' (w.heap.size+1)=14
 la:l' (w.heap.size+1+1)=14
 ro:W.heap[w.heap.size]? =some (.cells oc 35 (0,0))
 rr:W.heap[w.heap.size+1]? =some (.cells qR 42 (0,0))
 ra:W.heap[w.heap.size+1+1]? =some (.cells (xH an nv pv) 42 (0,0))
 sn:Sl (im l'.some W) 1 (an.names.map zb) nv
 sp:Sl (im l'.some W) 3 (an.perms.flatMap Zw) pv
def Ko:vE:=⟨0,0,false,false,[],[]⟩
def jf:Value:=.slice none 0 0
theorem yZ.start{w:World}{I:zN}{s:zA}(h:Wd l w x I a s)(oc:Array Value):
  ∃l',yZ l w x I oc l' (((w.alloc (.cells oc 35)).alloc (.cells qR 42)).alloc (.cells qR 42)) I a s Ko jf jf:=by
 obtain⟨w1,hw1⟩:=zex (w.alloc (.cells oc 35));obtain⟨w2,hw2⟩:=zex (w1.alloc (.cells qR 42));obtain⟨w3,hw3⟩:=zex (w2.alloc (.cells qR 42));rw[<-hw1,<-hw2,<-hw3];have s1:w1.heap.size=w.heap.size+1:=by rw[hw1];exact Array.size_push ..
 have s2:w2.heap.size=w.heap.size+1+1:=by rw[hw2,<-s1];exact Array.size_push ..
 have s3:w3.heap.size=w.heap.size+1+1+1:=by rw[hw3,<-s2];exact Array.size_push ..
 have n1:za w w1:=by rw[hw1];exact(za.refl w).alloc _
 have n2:za w1 w2:=by rw[hw2];exact(za.refl w1).alloc _
 have n3:za w2 w3:=by rw[hw3];exact(za.refl w2).alloc _
 have hn:=(n1.trans n2).trans n3;have hz:∀j,w.heap.size<=j->l j=0:=λj hj=>by
  by_cases e:l j=0
  ·exact e
  ·have:=h.st.bnd _ e;omega
 have hc:=qF.own (l:=l) (F:=λj=>j=w.heap.size+1\/j=w.heap.size+1+1) (n:=14) h.st.bnd (hn.mod _) (λb hb=>Or.inr (by rcases hb with rfl|rfl<;>omega));refine⟨_,rfl,⟨hn.mod _,hc.old,hc.bnd⟩,h.cstep hc λj e=>hn.block j (h.st.bnd j (by omega)) (λe=>e),?_,?_,?_,?_,?_,?_,Sl.nil _ _,Sl.nil _ _⟩
 ·rw[zu.add_neg (by omega)];exact hz _ (Nat.le_refl _)
 ·exact zu.add_pos (Or.inl rfl) (hz _ (by omega))
 ·exact zu.add_pos (Or.inr rfl) (hz _ (by omega))
 ·exact(n2.trans n3).heap (by rw[hw1];exact zg w _)
 ·rw[<-s1];exact n3.heap (by rw[hw2];exact zg w1 _)
 ·rw[<-s2,hw3];exact zg w2 _
section
variable{l l1 l2:zu}{w W W1 W2:World}{x a a2:Nat}{I I1 I2:zN}{s s2:zA}{oc:Array Value}{an:vE}{nv pv:Value}
theorem yZ.lt(h:yZ l w x I oc l1 W I1 a s an nv pv):w.heap.size+1+1<W.heap.size:=(Array.getElem?_eq_some_iff.1 h.ra).1
theorem yZ.new(h:yZ l w x I oc l1 W I1 a s an nv pv)(hn:za W W1):yZ l w x I oc l1 W1 I1 a s an nv pv:=
 ⟨h.db,h.st.trans (qG.new h.wd.st.bnd hn),h.wd.new hn,h.lo,h.lr,h.la,hn.heap h.ro,hn.heap h.rr,hn.heap h.ra,h.sn.mono (hn.im _),h.sp.mono (hn.im _)⟩
theorem yZ.wcall(h:yZ l w x I oc l1 W I1 a s an nv pv)(hdb:I2.db=I1.db)(hs:qG l1 W l2 W2)(ht:Wd l2 W2 x I2 a2 s2):yZ l w x I oc l2 W2 I2 a2 s2 an nv pv:=by
 have hlt:=h.lt;have e0:=hs.old w.heap.size (by omega);have e1:=hs.old (w.heap.size+1) (by omega);have e2:=hs.old (w.heap.size+1+1) (by omega);refine⟨hdb.trans h.db,h.st.trans hs,ht,e0.trans h.lo,e1.trans h.lr,e2.trans h.la,?_,?_,?_,h.sn.mono hs.le,h.sp.mono hs.le⟩
 ·rw[hs.mod.block _ (by omega) (λe=>e.1 h.lo)];exact h.ro
 ·rw[hs.mod.block _ (by omega) (λe=>e.2 h.lr)];exact h.rr
 ·rw[hs.mod.block _ hlt (λe=>e.2 h.la)];exact h.ra
theorem yZ.call(h:yZ l w x I oc l1 W I1 a s an nv pv)(hn:za W W1)(hs:zr l1 W1 l2 W2)(hI:I1.same I2)(ht:Zn l2 W2 a I2 s2):yZ l w x I oc l2 W2 I2 a s2 an nv pv:=by have h1:=h.new hn;exact h1.wcall hI.2.2.2 hs.w (h1.wd.call hs hI ht)
theorem yZ.mod(h:yZ l w x I oc l1 W I1 a s an nv pv){b:Nat}(hb:b=w.heap.size+1\/b=w.heap.size+1+1)(hm:zo (· =b) W W2):qG l w l1 W2/\Wd l1 W2 x I1 a s/\(im l1.some W).le (im l1.some W2):=by
 have hlb:l1 b=14:=by rcases hb with rfl|rfl;exact h.lr;exact h.la
 have hz:=h.st.mod.size;have hc:qF l1 W l1 W2:=⟨hm.mono λj _ e=>by rw[e,hlb];decide,λ_ _=>rfl,λb e=>Nat.lt_of_lt_of_le (h.wd.st.bnd b e) hm.size⟩;exact⟨⟨zo.trans h.st.mod hm λb hb e=>by omega,h.st.old,hc.bnd⟩,h.wd.cstep hc λj e=>hm.block j (h.wd.st.bnd j (by omega)) (λe2=>by rw[e2,hlb]at e;omega),hc.le⟩
theorem yZ.set(h:yZ l w x I oc l1 W I1 a s an nv pv){i:Nat}{v:Value}{an':vE}{nv' pv':Value}(he:(xH an nv pv).setIfInBounds i v=xH an' nv' pv')(h1:Sl (im l1.some W) 1 (an'.names.map zb) nv')(h2:Sl (im l1.some W) 3 (an'.perms.flatMap Zw) pv'):yZ l w x I oc l1 (W.setCell ⟨w.heap.size+1+1,i,none⟩ v) I1 a s an' nv' pv':=by
 have hm:zo (· =w.heap.size+1+1) W (W.setCell ⟨w.heap.size+1+1,i,none⟩ v):=vA (S:=(· =w.heap.size+1+1)) (zo.refl _ _) rfl _;have hlt:=h.lt;obtain⟨hst,hwd,hle⟩:=h.mod (Or.inr rfl) hm;refine⟨h.db,hst,hwd,h.lo,h.lr,h.la,?_,?_,?_,h1.mono hle,h2.mono hle⟩
 ·rw[hm.block _ (by omega) (by omega)];exact h.ro
 ·rw[hm.block _ (by omega) (by omega)];exact h.rr
 ·rw[heap_setCell_same W _ i _ _ _ h.ra,he]
theorem yZ.setErr(h:yZ l w x I oc l1 W I1 a s an nv pv)(n:Nat):yZ l w x I oc l1 (W.setCell ⟨w.heap.size+1+1,0,none⟩ (.int .i64 n)) I1 a s {an with err:=n} nv pv:=h.set rfl h.sn h.sp
theorem yZ.setRev(h:yZ l w x I oc l1 W I1 a s an nv pv)(n:Nat):yZ l w x I oc l1 (W.setCell ⟨w.heap.size+1+1,1,none⟩ (.int .u64 n)) I1 a s {an with rev:=n} nv pv:=h.set rfl h.sn h.sp
theorem yZ.setOn(h:yZ l w x I oc l1 W I1 a s an nv pv)(b:Bool):yZ l w x I oc l1 (W.setCell ⟨w.heap.size+1+1,2,none⟩ (.bool b)) I1 a s {an with on:=b} nv pv:=h.set rfl h.sn h.sp
theorem yZ.setYes(h:yZ l w x I oc l1 W I1 a s an nv pv)(b:Bool):yZ l w x I oc l1 (W.setCell ⟨w.heap.size+1+1,3,none⟩ (.bool b)) I1 a s {an with yes:=b} nv pv:=h.set rfl h.sn h.sp
theorem yZ.setNames(h:yZ l w x I oc l1 W I1 a s an nv pv){v:Value}{ns:List Bytes}(hv:Sl (im l1.some W) 1 (ns.map zb) v):yZ l w x I oc l1 (W.setCell ⟨w.heap.size+1+1,4,none⟩ v) I1 a s {an with names:=ns} v pv:=h.set rfl hv h.sp
theorem yZ.cell(h:yZ l w x I oc l1 W I1 a s an nv pv):W.cell? ⟨x,2,none⟩=some (.iface 142 (ptr a)):=(vZ h.wd.row).2.2.1
theorem yZ.ocell(h:yZ l w x I oc l1 W I1 a s an nv pv)(i:Nat):W.cell? ⟨w.heap.size,i,none⟩=oc[i]? :=by rw[cell_of_row W _ i _ _ (0,0) h.ro]
theorem yZ.acell(h:yZ l w x I oc l1 W I1 a s an nv pv)(i:Nat):W.cell? ⟨w.heap.size+1+1,i,none⟩=(xH an nv pv)[i]? :=by rw[cell_of_row W _ i _ _ (0,0) h.ra]
theorem yZ.rcell(h:yZ l w x I oc l1 W I1 a s an nv pv)(i:Nat):W.cell? ⟨w.heap.size+1,i,none⟩=qR[i]? :=by rw[cell_of_row W _ i _ _ (0,0) h.rr]
theorem yZ.afree(h:yZ l w x I oc l1 W I1 a s an nv pv)(i:Nat):W.frozen? ⟨w.heap.size+1+1,i,none⟩=false:=by simp[World.frozen?,h.ra]
theorem yZ.rfree(h:yZ l w x I oc l1 W I1 a s an nv pv)(i:Nat):W.frozen? ⟨w.heap.size+1,i,none⟩=false:=by simp[World.frozen?,h.rr]
theorem yZ.rev(h:yZ l w x I oc l1 W I1 a s an nv pv):Calls prog 54 #[ptr a] W λe w'=>e=.returned (.int .u64 s.rev)/\W=w':=by obtain⟨A,ab,m,lg,hp⟩:=h.wd.st;exact Vm hp.row
theorem yZ.on(h:yZ l w x I oc l1 W I1 a s an nv pv):Calls prog 160 #[ptr a] W λe w'=>e=.returned (.bool s.on)/\W=w':=by obtain⟨A,ab,m,lg,hp⟩:=h.wd.st;exact zad hp.row
theorem yZ.fin(h:yZ l w x I oc l1 W I1 a s an nv pv)(hm:zo (· =w.heap.size+1) W W2){t:zA×vE}(ht:t=(s,an)):fZ l w x I t (.returned (.agg (xH an nv pv))) W2:=by obtain⟨hst,hwd,hle⟩:=h.mod (Or.inl rfl) hm;rw[ht];exact⟨_,l1,I1,a,rfl,h.db,hst,hwd,nv,pv,rfl,h.sn.mono hle,h.sp.mono hle⟩
end
variable{b:Nat}
theorem Gc{tmps:Array Value}{cs:Array Value}(hb:tmps.getD 4 undef=ptr b)(hr:W.heap[b]? =some (.cells cs 42 (0,0)))(hz:cs.size=6):
  (results f33 tmps).run prog W=.ok (.agg cs) W:=by
 have h1:(prog.info? 42).map (·.size)=some cs.toList.length:=by rw[Array.length_toList,hz];kernel_rfl
 have h2:=run_loadVar_mid W b 0 42 cs.toList _ (λj v hj=>by rw[Nat.zero_add,cell_of_row W b j _ _ (0,0) hr,<-hj,Array.getElem?_toList]) underlying42 (by kernel_rfl) h1;have h2:(loadVar 42 ⟨b,0,none⟩).run prog W=.ok (.agg cs) W:=h2;have hb:tmps[4]?.getD undef=ptr b:=by simpa using hb
 simp[results,results33,hb,asAddr,h2]
variable{nv pv:Value}
theorem yZ.leave{l1:zu}{w:World}{I I1:zN}{s:zA}{oc:Array Value}{an:vE}(h:yZ l w x I oc l1 W I1 a s an nv pv){t:zA×vE}(ht:t=(s,an)){A:Act}(hA:A.tmps.getD 4 undef=ptr (w.heap.size+1))(hd:A.defers=[]):
  bodyPost prog f33 (fZ l w x I t) .ret A ((((((W.setCell ⟨w.heap.size+1,0,none⟩ (.int .i64 an.err)).setCell ⟨w.heap.size+1,1,none⟩ (.int .u64 an.rev)).setCell ⟨w.heap.size+1,2,none⟩ (.bool an.on)).setCell ⟨w.heap.size+1,3,none⟩ (.bool an.yes)).setCell ⟨w.heap.size+1,4,none⟩ nv).setCell ⟨w.heap.size+1,5,none⟩ pv):=by
 have h0:zo (· =w.heap.size+1) W W:=zo.refl _ _;refine bodyPost_ret (v:=.agg (xH an nv pv)) (Gc hA ?_ rfl) hd (h.fin ((((((h0.setCell (p:=⟨_,0,none⟩) (λ_=>rfl) _).setCell (p:=⟨_,1,none⟩) (λ_=>rfl) _).setCell (p:=⟨_,2,none⟩) (λ_=>rfl) _).setCell (p:=⟨_,3,none⟩) (λ_=>rfl) _).setCell (p:=⟨_,4,none⟩) (λ_=>rfl) _).setCell (p:=⟨_,5,none⟩) (λ_=>rfl) _) ht);exact heap_setCell_same _ _ 5 _ _ _ (heap_setCell_same _ _ 4 _ _ _ (heap_setCell_same _ _ 3 _ _ _ (heap_setCell_same _ _ 2 _ _ _ (heap_setCell_same _ _ 1 _ _ _ (heap_setCell_same _ _ 0 _ _ _ h.rr)))))
theorem qw(a:Nat)(W:World):(method 608 142 (ptr a) "IsAuthEnabled").run prog W=.ok (160,ptr a) W:=by kernel_rfl
section
variable{l l1:zu}{w W W1:World}{x a:Nat}{I I1:zN}{s:zA}{oc:Array Value}{an:vE}{nv pv:Value}{f:FuncId}{args:Array Value}
theorem yZ.names(h:yZ l w x I oc l1 W I1 a s an nv pv)(hn:za W W1){xs:List Bytes}(hc:Calls prog f args W1 (GN l1 W1 a I1 s xs)):
  Calls prog f args W1 λe w'=>∃b p n c,e=.returned (.tuple #[ptr b,.nilIface])/\(∃l2 I2,yZ l w x I oc l2 w' I2 a s an nv pv/\Sl (im l2.some w') 1 (xs.map zb) (.slice p n c))/\w'.cell? ⟨b,0,none⟩=some (.slice p n c)/\w'.cell? ⟨w.heap.size+1+1,4,none⟩=some nv/\w'.frozen? ⟨w.heap.size+1+1,4,none⟩=false:=by
 refine hc.mono ?_;rintro e w' ⟨b,v,l2,I2,rfl,hI,hs,ht,hv,hsl⟩;have hd:=h.call hn hs hI ht;obtain⟨p,n,c,rfl⟩:=hsl.shape;exact⟨b,p,n,c,rfl,⟨l2,I2,hd,hsl⟩,hv,hd.acell 4,hd.afree 4⟩
theorem yZ.fails(h:yZ l w x I oc l1 W I1 a s an nv pv)(hn:za W W1){ec:Nat}{T:Nat}{sv:Value}(hev:ze ec=.iface T sv)(hc:Calls prog f args W1 (VZ l1 W1 a I1 s ec)):
  Calls prog f args W1 λe w'=>∃v,e=.returned (.tuple #[v,.iface T sv])/\∃l2 I2,yZ l w x I oc l2 w' I2 a s an nv pv:=by
 refine hc.mono ?_;rintro e w' ⟨v,rfl,l2,I2,hI,hs,ht⟩;rw[hev];exact⟨v,rfl,l2,I2,h.call hn hs hI ht⟩
theorem yZ.asks(h:yZ l w x I oc l1 W I1 a s an nv pv)(hn:za W W1){n:Nat}(hc:Calls prog f args W1 (QE l1 W1 a I1 s n)):
  Calls prog f args W1 λe w'=>e=.returned (ze n)/\∃l2 I2,yZ l w x I oc l2 w' I2 a s an nv pv:=by
 refine hc.mono ?_;rintro e w' ⟨rfl,l2,hs,ht⟩;exact⟨rfl,l2,I1,h.call hn hs (zN.same_refl I1) ht⟩
end
theorem QO{t:Bytes}{tx:ByteArray}(ht:zb t=.string tx)(hl:t.length<=1000000):∃(fn fc:World->Nat) (fw:World->World),(∀W,(convert 9 75 (.string tx)).run prog W=.ok (.slice (some ⟨W.heap.size,0,none⟩) (fn W) (fc W)) (fw W))/\
  (∀W,za W (fw W))/\(∀W,W.heap.size<(fw W).heap.size)/\∀W,Bs (fw W).cell? t (.slice (some ⟨W.heap.size,0,none⟩) (fn W) (fc W)):=by
 have h:∀W:World,∃z:Nat×Nat×World,(convert 9 75 (.string tx)).run prog W=.ok (.slice (some ⟨W.heap.size,0,none⟩) z.1 z.2.1) z.2.2/\za W z.2.2/\W.heap.size<z.2.2.heap.size/\Bs z.2.2.cell? t (.slice (some ⟨W.heap.size,0,none⟩) z.1 z.2.1):=λW=>by obtain⟨v1,w1,h1,n1,b1,⟨an,ac,rfl⟩,l1⟩:=jQ (P:=prog) W 9 75 5 (l:=t) (u:=.string) (by kernel_rfl) (by kernel_rfl) (by kernel_rfl) hl;exact⟨(an,ac,w1),by rw[<-ht];exact h1,n1,l1,b1⟩
 obtain⟨g,hg⟩:=Classical.axiomOfChoice h;exact⟨λW=>(g W).1,λW=>(g W).2.1,λW=>(g W).2.2,λW=>(hg W).1,λW=>(hg W).2.1,λW=>(hg W).2.2.1,λW=>(hg W).2.2.2⟩
variable{c:Nat}
theorem yt{W0:World}(hn:za W0 W):∀j,(Value.slice (some ⟨W.heap.size,0,none⟩) n c).ownBlock=some j->W0.heap.size<=j:=λj e=>by
 have e:W.heap.size=j:=by simpa[Value.ownBlock]using e
 have:=hn.size;omega
def zdz(o:zH):Prop:=∀{l:zu} {w:World} {x a k g:Nat} {I:zN} {s:zA},Wd l w x I a s->Ok s k->k<=98->Xg s g->g+o.g<=12->Calls prog 33 #[ptr x,o.val] w (fZ l w x I (s.step o))
def gs(l:List zH):Nat:=(l.map zH.g).sum
def JX(r:Rd)(v:Value)(aa:List vE):Prop:=∃vs:List (Array Value),Sl r 6 (vs.flatMap Array.toList) v/\qy (λc a=>Jy r (.agg c) a) vs aa
variable{r r':Rd}{v:Value}
theorem Jy.mono(hr:r.le r'){a:vE}(h:Jy r v a):Jy r' v a:=by obtain⟨nv,pv,h1,h2,h3⟩:=h;exact⟨nv,pv,h1,h2.mono hr,h3.mono hr⟩
theorem Jy.size{c:Array Value}{a:vE}(h:Jy r (.agg c) a):c.size=6:=by
 obtain⟨nv,pv,h1,_⟩:=h;injection h1 with h1
 rw[h1];rfl
theorem Jy.one{c:Array Value}{a:vE}(h:Jy r (.agg c) a):∀u∈c.toList,u.oneCell'=true:=by
 obtain⟨nv,pv,h1,h2,h3⟩:=h;injection h1 with h1
 obtain⟨p,n,q,rfl⟩:=h2.shape;obtain⟨p2,n2,q2,rfl⟩:=h3.shape;rw[h1];intro u hu;simp only[xH,List.mem_cons,List.not_mem_nil,or_false]at hu;rcases hu with rfl|rfl|rfl|rfl|rfl|rfl<;>rfl
theorem D4{w:World}:Calls prog 31 #[] w λe w'=>e=.returned (ptr w.heap.size)/\w'=w.alloc (.cells #[.slice none 0 0] 79):=by go_enter func31,ntmps31;go_wp2;go_returns;exact⟨rfl,rfl⟩
theorem zaW:∀(l:List zH) {s:zA} {k g:Nat},Ok s k->Xg s g->(∀o∈l,o.runs)->Ok (s.after l) (k+l.length)/\Xg (s.after l) (g+gs l)
 |[],s,k,g,h,hf,_=>⟨h,hf⟩
 |o::l,s,k,g,h,hf,ho=>by have h1:=zbR h (ho o (by simp)).fits;have h2:=zav h hf (ho o (by simp)).role.2;have h3:=zaW l h1 h2 λx hx=>ho x (by simp[hx]);show Ok ((s.step o).1.after l) _/\Xg ((s.step o).1.after l) _;unfold gs at h3⊢;rw[List.map_cons,List.sum_cons,List.length_cons];exact⟨h3.1.le (by omega),h3.2.le (by omega)⟩
theorem Gd{l:List zH}(hk:k<l.length)(s:zA):s.after (l.take (k+1))=((s.after (l.take k)).step l[k]).1:=by unfold zA.after;rw[List.take_succ_eq_append_getElem hk,List.foldl_append];rfl
theorem zaX{l:List zH}(hk:k<l.length)(s:zA):s.run (l.take (k+1))=s.run (l.take k)++[((s.after (l.take k)).step l[k]).2]:=by rw[List.take_succ_eq_append_getElem hk,YD];rfl
theorem zci{l:List zH}(hk:k<l.length):gs (l.take k)+l[k].g<=gs l:=by
 have h:=List.take_append_drop k l;have h2:l.drop k=l[k]::l.drop (k+1):=List.drop_eq_getElem_cons hk;have h3:gs l=gs (l.take k)+gs (l.drop k):=by unfold gs;rw[<-List.sum_append,<-List.map_append,h]
 rw[h3,h2];show _<=_+((l[k]::l.drop (k+1)).map zH.g).sum;rw[List.map_cons,List.sum_cons];omega
structure AuS(w:World)(x:Nat)(W:World)(I:zN)(s:zA)(v:Value)(k:Nat)(aa:List vE)(l:zu)(a:Nat)(vs:List (Array Value)):Prop where
 mod:za w W
 wd:Wd l W x I a s
 old:∀j,j<w.heap.size->l j=0
 own:W.ownsRow w.heap.size 42 6 v k (vs.flatMap Array.toList)
 lab:∀b,v.ownBlock=some b->l b=14
 ans:qy (λc a=>Jy (im l.some W) (.agg c) a) vs aa
section
variable{w W W2 W5:World}{x k a a2:Nat}{I I2:zN}{s:zA}{v v5:Value}{aa:List vE}{l l2:zu}{vs:List (Array Value)}{t:zA×vE}{c:Array Value}
theorem AuS.app(h:AuS w x W I s v k aa l a vs)(hs:qG l W l2 W2)(hd:Wd l2 W2 x I2 a2 t.1)(hr:Jy (im l2.some W2) (.agg c) t.2){o:Obj}
  (ho:W5.ownsRow 0 42 6 v5 (k+1) (vs.flatMap Array.toList++c.toList))(hg:(W2.alloc o).grownBy W5 v.ownBlock)(hf:∀q,v5.ownBlock=some q->v.ownBlock=some q\/(W2.alloc o).heap.size<=q):
  ∃l5,AuS w x W5 I2 t.1 v5 (k+1) (aa++[t.2]) l5 a2 (vs++[c]):=by
 have hn:za W2 (W2.alloc o):=(za.refl W2).alloc o;have hsz:(W2.alloc o).heap.size=W2.heap.size+1:=Array.size_push ..
 have hg5:=zo.of_grown hg;have hge:∀q,v.ownBlock=some q->w.heap.size<=q/\q<W.heap.size:=λq hq=>World.ownsRow.lt h.own q hq;have hl2:∀q,v.ownBlock=some q->l2 q=14:=λq hq=>by rw[hs.old q (hge q hq).2];exact h.lab q hq
 have hm5:zo (λj=>v.ownBlock=some j) W2 W5:=zo.trans (hn.mod _) hg5 λ_ _ e=>e;have hlt5:∀q,v5.ownBlock=some q->q<W5.heap.size:=λq hq=>(World.ownsRow.lt ho q hq).2;have hc:=qF.own (l:=l2) (F:=λj=>v5.ownBlock=some j) (n:=14) hd.st.bnd (hm5.mono λj _ e=>by rw[hl2 j e];decide) λb hb=>by
  rcases hf b hb with e|e
  ·exact Or.inl (by rw[hl2 b e];decide)
  ·exact Or.inr ⟨by omega,hlt5 b hb⟩
 have hw:w.heap.size<=W.heap.size:=h.mod.size;have hw2:W.heap.size<=W2.heap.size:=hs.size;refine⟨_,?_,hd.cstep hc λj e=>hm5.block j (hd.st.bnd j (by omega)) (λe2=>by rw[hl2 j e2]at e;omega),λj hj=> ?_,?_,λb hb=> ?_,?_⟩
 ·refine zo.trans (zo.trans h.mod hs.mod λb hb e=>e.1 (h.old b hb)) hm5 λb hb e=> ?_;have:=(hge b e).1;omega
 ·rw[hc.old j (by omega),hs.old j (by omega)];exact h.old j hj
 ·rw[List.flatMap_append,List.flatMap_cons,List.flatMap_nil,List.append_nil];refine⟨ho.1,?_⟩;rcases ho.2 with h3|⟨g,cap,cur,rfl,_,h5⟩
  ·exact Or.inl h3
  ·refine Or.inr ⟨g,cap,cur,rfl,?_,h5⟩;rcases hf g rfl with e|e
   ·exact(hge g e).1
   ·omega
 ·by_cases e:l2 b=0
  ·exact zu.add_pos hb e
  ·rw[zu.add_old e];rcases hf b hb with e2|e2
   ·exact hl2 b e2
   ·have:=hd.st.bnd b e;omega
 ·have h1:qy (λc a=>Jy (im l2.some W2) (.agg c) a) (vs++[c]) (aa++[t.2]):=(h.ans.mono λ_ _ hx=>hx.mono hs.le).append (qy.cons hr qy.nil);exact h1.mono λ_ _ hx=>hx.mono hc.le
end
variable{R:Value->World->Prop}
theorem Kr{T:TypeId}{w:World}(hx:w.heap[x]? =some (.cells #[.iface T v,.pointer none] 419 (0,0)))
  (hc:Calls prog 274 #[.pointer none,.iface T v] w.drew λe w'=>∃r,e=.returned r/\R r w'):
  Calls prog 264 #[ptr x] w λe w'=>∃r,e=.returned r/\R r w':=by
 obtain⟨c0,c1,_⟩:=qT hx;have HC:=hid hc;clear hc hx;go_enter func264,ntmps264;go_wp2_with fail;go_region_with (refine HC.out.mono ?_;rintro e w1 ⟨r,rfl,hr⟩;have HR:=hid hr;clear hr)
 all_goals
  go_wp2;go_returns;exact⟨_,rfl,HR.out⟩
variable{A:yu}{pdel pend:Nat}{us:zF->List Bytes}
theorem fM{I:zN}{s:zA}{on:Bool}{rev:Nat}(hf:ya s)(hA:yq A on rev)(h:k7 l W I (s.db A) pend pdel us)(hx:qe l W x 257 I.t 419)(hlt:∀r∈s.roles,zt r.name [255]<0):
  Calls prog 264 #[ptr x] W λe w'=>∃r,e=.returned r/\(za W w'/\fL l.some W w' s.roles r):=by
 obtain⟨C,wb,rb,e2,e4,hB,h1,h2,h3,h4⟩:=h;have hk:=hf.dbOk hA;refine Kr hx.2 ((D5 (S:=l.some) (lg:=.pointer none) (w:=W.drew) (us:=s.roles) (gL I.t) (Uz I.t) (λ_ _=>by kernel_rfl) hB.bnd ?_ (by have:=hf.rl;omega) hf.rok).mono ?_)
 ·intro W1 kv ev hn hkv hev;have hW:=(hB.ofNew (za.undrew hn)).2;obtain⟨bk,hj⟩:=xW h1 .roles;have hnm:=kr zF.roles;rw[<-vQ h1]at hnm;refine(fK (S:=l.some) (F:=l.is 9) hW.bnd (λj e=>by show l j≠0;rw[e];decide) hW.bt hW.wtx hj hnm.1 hnm.2 (hk .roles).rise (hk .roles).ne (by have:=(hk .roles).len;omega) hkv hev ?_).mono ?_
  ·intro p hp;obtain⟨r,hr,rfl⟩:=List.mem_map.1 hp;exact hlt r hr
  ·rintro e w' ⟨ks,vs,rfl,hn,hv⟩;refine⟨ks,vs,rfl,hn,?_⟩;have e9:((s.db A).get .roles).map (·.2)=s.roles.map zm.enc:=by
    show(VX zm.name zm.enc s.roles).map (·.2)=_;unfold VX;rw[List.map_map];rfl
   rw[<-e9];exact hv
 ·rintro e w' ⟨r,rfl,hn,hg⟩;exact⟨r,rfl,za.undrew hn,hg⟩
def zcl(l:zu)(w':World)(us:List zm)(v:Value):Prop:=
 ∃bs:List Nat,Sl (im l.some w') 1 (bs.map ptr) v/\qy (λu b=>jz (im l.some w') b u) us bs
variable{ab:Nat}{lg:Value}
theorem Ks{w:World}{I:zN}{s:zA}{m:Nat}(h:Yb l w a I s A ab m lg)(hlt:∀r∈s.roles,zt r.name [255]<0):
  Calls prog 210 #[ptr ab] w λe w'=>∃r l' I',e=.returned r/\I.same I'/\zr l w l' w'/\Yb l' w' a I' s A ab m lg/\zcl l' w' s.roles r:=by
 have HB:=hid (qP h.idle h.abe);have H:=hid h;have m2:=qA;have m4:=xN;have n3:=yg;have HLT:=hid hlt;clear h hlt;go_enter_defers func210,ntmps210;go_wp2_with fail;refine HB.out.mono ?_;rintro e w1 ⟨x,rfl,hn1,hx,hax⟩;have h1:=H.out.new hn1;have HL:=hid (jk h1.idle hax);have HUS:=hid (fM h1.fine h1.kv h1.idle hax HLT.out);have H1:=hid h1;have HN1:=hid hn1;have HAX:=hid hax;clear h1 hn1 hax;go_wp2_with fail;refine HL.out.mono ?_;rintro e w2 ⟨rfl,rfl⟩;go_wp2_with fail;refine HUS.out.mono ?_;rintro e w2 ⟨r,rfl,hn2,hg2⟩;have HN2:=hid hn2;have HG2:=hid hg2;have hi:=yh x;clear hn2 hg2;go_wp2;refine leaves_cons (f:=261) (args:= #[ptr x]) (by simp) (hi _) ?_;have h2:=H1.out.new HN2.out;refine(qv h2.idle (by decide) qI (HAX.out.new HN2.out)).mono ?_;rintro e u' w'' ⟨rfl,rfl,l3,I3,hs3,hI3,hi3⟩;obtain⟨bs,g1,g2,g3⟩:=HG2.out
 refine⟨r,results_tmp (t:=2) rfl _ _ _,r,l3,I3,rfl,hI3,(zr.new H.out.bnd (HN1.out.trans HN2.out)).trans hs3.s,h2.moved hs3 hI3 hi3,bs,?_,?_⟩
 ·refine(Sl.im_of (S:=l.some) g1 λq e e2=> ?_).mono hs3.le;have:=g2 q e;have:=H1.out.bnd q e2;omega
 ·exact g3.mono λu b ⟨_,h9⟩=>h9.mono hs3.le
theorem fN{w:World}{rb:Nat}{I:zN}{s:zA}(h:Zn l w a I s)(hlt:∀r∈s.roles,zt r.name [255]<0):
  Calls prog 169 #[ptr a,ptr rb] w (GN l w a I s (s.roles.map (·.name))):=by
 obtain⟨A,ab,m,lg,h⟩:=h;have r2:w.cell? ⟨a,2,none⟩=some (.iface 149 (ptr ab)):=by rw[cell_of_row w a 2 _ _ (0,0) h.row];rfl
 have HG:=hid (Ks h hlt);clear hlt;have H:=hid h;have HUL:=hid h.fine.rl;clear h;go_enter func169,ntmps169;go_wp2_with fail;refine HG.out.mono ?_;rintro e w2 ⟨r,l2,I2,rfl,hI2,hst,hp2,bs,g1i,g3⟩;have g1:=Sl.mono (zd _ _) g1i;obtain⟨vp,n,vc,rfl⟩:=g1.shape;have HS2:=hid hst;have HI2:=hid hI2;have HP2:=hid hp2;have hbl:s.roles.length=bs.length:=g3.length;have hvn:bs.length=n:=by have:=g1.row.1;rw[List.length_map]at this;exact this
 have hn3:n<=300:=by have:=HUL.out;omega
 have HLEN:=hid (hbl.trans hvn);have HBL:=hid hvn;have HSL:=hid g1;have HALL:=hid g3;have hmk:=YU xV rfl w2 n (by omega) (by omega);obtain⟨W3,hW3⟩:=zex (w2.alloc (.cells (List.replicate n (Value.string ⟨#[]⟩)).toArray 9));rw[<-hW3]at hmk;obtain⟨W4,hW4⟩:=zex (W3.alloc (.cells #[.slice (some ⟨w2.heap.size,0,none⟩) n n] 118));have hs3:W3.heap.size=w2.heap.size+1:=by rw[hW3];exact Array.size_push ..
 have hf0:xj w2 W4 w2.heap.size W3.heap.size n 118 (s.roles.map (·.name)) 0:=by
  have n3:za w2 W3:=by rw[hW3];exact(za.refl w2).alloc _
  have n4:za W3 W4:=by rw[hW4];exact(za.refl W3).alloc _
  refine⟨n3.trans n4,Nat.le_refl _,?_,?_,by omega,by omega⟩
  ·rw[List.take_zero,List.map_nil,List.nil_append,Nat.sub_zero];exact n4.heap (by rw[hW3];exact zg w2 _)
  ·rw[hW4];exact zg W3 _
 have HF0:=hid hf0;have HW4:=hid hW4;clear hI2 g1i hst hp2 g1 g3 hbl hvn hf0 hW3 hW4 hs3;go_upto_region 3 with fail
 rw[<-HW4.out];obtain⟨rb4,hrb⟩:∃q,W3.heap.size=q:=⟨_,rfl⟩;obtain⟨vb,hvb⟩:∃q,w2.heap.size=q:=⟨_,rfl⟩;rw[hrb,hvb]at HF0;rw[hrb];clear hmk hrb;go_wp2;go_loopw [21] (λc wr=>∃k:Nat,k<=n/\c=.int .i64 k/\xj w2 wr vb rb4 n 118 (s.roles.map (·.name)) k) (λc _=>n-(intOf c).toNat)
 case atStart=>exact⟨0,Nat.zero_le _,rfl,HF0.out⟩
 case round=>
  obtain⟨k,hk,rfl,hf⟩:=hrel;have HF:=hid hf;obtain⟨c0,f0⟩:=zaQ hf.resp;by_cases hlt:k<n
  ·obtain⟨hrl,hrc,hrm,⟨gb,go,rfl,hce⟩|h0⟩:=HSL.out.row
   case inr=>exact absurd h0 (by omega)
   have hkb:k<bs.length:=by rw[HBL.out];exact hlt
   have hku:k<s.roles.length:=by rw[HLEN.out];exact hlt
   have ck:=hf.new.le _ _ (hce k (by rw[List.length_map];exact hkb));rw[List.getElem_map]at ck;have hua:=(HALL.out.get k hku hkb).mono (zd _ _);obtain⟨nv,u0,u1⟩:=hua.name;clear hua;obtain⟨np,nn,nc,rfl,hl9⟩:=u1.shape;have k0:=hf.new.le _ _ u0;have hbs:Bs wr.cell? s.roles[k].name (.slice np nn nc):=u1.mono hf.new.le;obtain⟨x,hx⟩:∃x,s.roles[k].name=x:=⟨_,rfl⟩;rw[hx]at hbs;have hxk:(s.roles.map (·.name))[k]'(by rw[List.length_map];exact hku)=x:=by rw[List.getElem_map,hx]
   have hconv:∀m,(convert 75 9 (.slice np nn nc)).run prog (wr.drewN m)=.ok (.string ⟨x.toArray⟩) (wr.drewN m):=λm=>kO (w:=wr.drewN m) (show Bs (wr.drewN m).cell? x _ from hbs) 75 5 9 (by kernel_rfl) (by kernel_rfl) (by kernel_rfl);have hconv0:=hconv 0;have hconv1:=hconv 1;have h1:wr.drewN 1=wr.drew:=rfl;rw[h1]at hconv1;have hkz:(k:Int)<n:=by omega
   have hcv:wr.cell? ⟨vb,k,none⟩=some (.string ⟨#[]⟩)/\wr.frozen? ⟨vb,k,none⟩=false:=by
    constructor
    ·rw[cell_of_row wr vb k _ _ (0,0) hf.row];have hl:((((s.roles.map (·.name)).take k).map zb)).length=k:=by rw[List.length_map,List.length_take,List.length_map];omega
     have:(((s.roles.map (·.name)).take k).map zb++List.replicate (n-k) (Value.string ⟨#[]⟩))[k]? =some (.string ⟨#[]⟩):=by rw[List.getElem?_append_right (by omega),hl,Nat.sub_self,List.getElem?_replicate,if_pos (by omega)]
     simpa using this
    ·simp[World.frozen?,hf.row]
   obtain⟨cv,fv⟩:=hcv;have HXK:=hid hxk;have HKU:=hid hku;clear hl9 hrl hce hf hbs hconv h1 u0 u1;go_wp2_with fail;go_region
   all_goals
    go_wp2;go_roundw
    case rel=>refine⟨k+1,by omega,by go_num,?_⟩;have hs9:=HF.out.step (by rw[List.length_map];exact HLEN.out) (by rw[List.length_map];exact HKU.out) 1;rw[HXK.out]at hs9;exact hs9
    case measure=>simp[intOf];omega
  ·have hkn:k=n:=by omega
   subst hkn;go_wp2;go_returns;have hb2:=HP2.out.bnd;have hf:=HF.out;exact⟨_,_,l2,I2,rfl,HI2.out,HS2.out.trans (zr.new hb2 hf.new),⟨_,_,_,_,HP2.out.new hf.new⟩,c0,hf.sl (by rw[List.length_map];exact HLEN.out) (by omega) hb2⟩
section
variable{α:Type}{nm:α->Bytes}
theorem Jz:∀{l:List α} {x:α} (_:∀y∈l,zt (nm y) (nm x)<0),yT nm l x=l++[x]
 |[],x,_=>by simp[yT,zx,zk]
 |y::l,x,h=>by rw[kh,if_pos (h y (by simp)),Jz λz hz=>h z (by simp[hz])];rfl
theorem X5:∀{l:List α} {x y:α} (_:∀z∈l,zt (nm z) (nm x)<0) (_:nm y=nm x),yT nm (l++[y]) x=l++[x]
 |[],x,y,_,e=>by show yT nm [y] x=[x];rw[kh,if_neg (by rw[e];exact zI _),if_pos e]
 |z::l,x,y,h,e=>by show yT nm (z::(l++[y])) x=z::(l++[x]);rw[kh,if_pos (h z (by simp)),X5 (λz hz=>h z (by simp[hz])) e]
theorem JA:∀{l:List α} {y:α} {n:Bytes} (_:∀z∈l,zt (nm z) n<0) (_:nm y=n),qU nm (l++[y]) n=some y
 |[],y,n,_,e=>by show qU nm [y] n=some y;rw[km,if_neg (by rw[e];exact zI _),if_pos e]
 |z::l,y,n,h,e=>by show qU nm (z::(l++[y])) n=some y;rw[km,if_pos (h z (by simp)),JA (λz hz=>h z (by simp[hz])) e]
theorem X6:∀{l:List α} {n:Bytes} (_:∀z∈l,zt (nm z) n<0),qU nm l n=none
 |[],n,_=>by simp[qU,zx,zk]
 |z::l,n,h=>by rw[km,if_pos (h z (by simp)),X6 λz hz=>h z (by simp[hz])]
end
def uN:Bytes:=[117]
def qx(i:Nat):Bytes:=[114,111,108,101,UInt8.ofNat (97+i)]
def xu(n:Bytes):zH:=⟨3,n,[],0,[],[],false,0,false⟩
def yi(n r:Bytes):zH:=⟨5,n,r,0,[],[],false,0,false⟩
def yz(r:Bytes):zH:=⟨9,[],r,0,[],[],false,0,false⟩
def qC(r:Bytes)(p:zh):zH:=⟨11,[],r,p.kind,p.key,p.stop,false,0,false⟩
def vr:zH:=⟨1,[],[],0,[],[],false,0,false⟩
def zO(on:Bool)(rev:Nat)(ns:List Bytes)(rs:List zm):zA:=⟨on,rev,[⟨zL,[zL]⟩,⟨uN,ns⟩],rs⟩
theorem VR(on:Bool)(rev:Nat)(ns:List Bytes)(rs:List zm):(zO on rev ns rs).user zL=some ⟨zL,[zL]⟩:=by show qU zj.name [⟨zL,[zL]⟩,⟨uN,ns⟩] zL=_;rw[km,if_neg (zI _),if_pos rfl]
theorem GP(on:Bool)(rev:Nat)(ns:List Bytes)(rs:List zm):(zO on rev ns rs).user uN=some ⟨uN,ns⟩:=by show qU zj.name [⟨zL,[zL]⟩,⟨uN,ns⟩] uN=_;rw[km,if_pos (by show zt zL uN<0;decide),km,if_neg (zI _),if_pos rfl]
theorem Gh(on:Bool)(rev:Nat)(ns ms:List Bytes)(rs:List zm):(zO on rev ns rs).putUser ⟨uN,ms⟩=zO on (rev+1) ms rs:=by show(⟨on,rev+1,yT zj.name [⟨zL,[zL]⟩,⟨uN,ns⟩] ⟨uN,ms⟩,rs⟩:zA)=_;rw[kh,if_pos (by show zt zL uN<0;decide),kh,if_neg (zI _),if_pos rfl];rfl
variable{ns:List Bytes}{rs:List zm}
theorem dJ{rev:Nat}{n:Bytes}(h0:n≠[])(h:∀r∈rs,zt r.name n<0):((zO false rev ns rs).step (yz n)).1=zO false (rev+1) ns (rs++[⟨n,[]⟩]):=by have h1:(zO false rev ns rs).role n=none:=X6 (nm:=zm.name) h;rw[yy (o:=yz n) (show ¬((9:Int)=7\/(9:Int)=8\/(13:Int)<=9/\(9:Int)<=19) by decide)];show((zO false rev ns rs).change (yz n)).1=_;have h2:(zO false rev ns rs).change (yz n)=vV (zO false rev ns rs) n:=uW rfl;rw[h2];unfold vV;rw[if_neg h0,h1];show(⟨false,rev+1,_,yT zm.name rs ⟨n,[]⟩⟩:zA)=_;rw[Jz (nm:=zm.name) (x:=⟨n,[]⟩) h];rfl
variable{p:zh}
theorem D7{rev:Nat}{n:Bytes}{ps:List zh}(h:∀r∈rs,zt r.name n<0)(hv:zT p.key p.stop=true):((zO false rev ns (rs++[⟨n,ps⟩])).step (qC n p)).1=zO false (rev+1) ns (rs++[⟨n,je ps p⟩]):=by
 have h1:(zO false rev ns (rs++[⟨n,ps⟩])).role n=some ⟨n,ps⟩:=JA (nm:=zm.name) h rfl;rw[yy (o:=qC n p) (show ¬((11:Int)=7\/(11:Int)=8\/(13:Int)<=11/\(11:Int)<=19) by decide)];unfold zA.change;rw[if_neg (show ¬(qC n p).kind=1 from(by decide: ¬(11:Int)=1)),if_neg (show ¬(qC n p).kind=2 from(by decide: ¬(11:Int)=2)),if_neg (show ¬(qC n p).kind=3 from(by decide: ¬(11:Int)=3)),if_neg (show ¬(qC n p).kind=4 from(by decide: ¬(11:Int)=4)),if_neg (show ¬(qC n p).kind=5 from(by decide: ¬(11:Int)=5)),if_neg (show ¬(qC n p).kind=6 from(by decide: ¬(11:Int)=6)),if_neg (show ¬(qC n p).kind=9 from(by decide: ¬(11:Int)=9)),if_neg (show ¬(qC n p).kind=10 from(by decide: ¬(11:Int)=10)),if_pos (show(qC n p).kind=11 from rfl)]
 rw[if_neg (show ¬(qC n p).noPerm=true from(by decide: ¬false=true)),if_neg (by rw[show(qC n p).key=p.key from rfl,show(qC n p).stop=p.stop from rfl,hv];decide),show(qC n p).role=n from rfl,h1];show(⟨false,rev+1,_,yT zm.name (rs++[⟨n,ps⟩]) ⟨n,je ps ⟨((p.kind:Nat):Int).toNat,p.key,p.stop⟩⟩⟩:zA)=_;rw[X5 (nm:=zm.name) (x:=⟨n,je ps ⟨((p.kind:Nat):Int).toNat,p.key,p.stop⟩⟩) (y:=⟨n,ps⟩) h rfl];rfl
theorem fO{rev:Nat}{n:Bytes}{r:zm}(hr:qU zm.name rs n=some r)(hn:∀m∈ns,zt m n<0):((zO false rev ns rs).step (yi uN n)).1=zO false (rev+1) (ns++[n]) rs:=by rw[yy (o:=yi uN n) (show ¬((5:Int)=7\/(5:Int)=8\/(13:Int)<=5/\(5:Int)<=19) by decide)];unfold zA.change;rw[if_neg (show ¬(yi uN n).kind=1 from(by decide: ¬(5:Int)=1)),if_neg (show ¬(yi uN n).kind=2 from(by decide: ¬(5:Int)=2)),if_neg (show ¬(yi uN n).kind=3 from(by decide: ¬(5:Int)=3)),if_neg (show ¬(yi uN n).kind=4 from(by decide: ¬(5:Int)=4)),if_pos (show(yi uN n).kind=5 from rfl)];rw[show(yi uN n).user=uN from rfl,GP,show(yi uN n).role=n from rfl];have h1:(zO false rev ns rs).role n=some r:=hr;rw[h1];simp only[];rw[if_neg (λe=>by cases e.2),if_neg (λe=>zI _ (hn n e))];show(zO false rev ns rs).putUser ⟨uN,vY ns n⟩=_;have h2:vY ns n=ns++[n]:=Jz (nm:=id) hn;rw[h2,Gh]
def kN(n:Bytes)(ps:List zh):List zH:=yz n::(ps.map (qC n)++[yi uN n])
theorem vt(l m:List zH)(s:zA):s.after (l++m)=(s.after l).after m:=List.foldl_append ..
theorem JY{ns:List Bytes}{rs:List zm}{n:Bytes}(h:∀r∈rs,zt r.name n<0):∀(ps qs:List zh) (rev:Nat),(∀p∈ps,zT p.key p.stop=true)->(zO false rev ns (rs++[⟨n,qs⟩])).after (ps.map (qC n))=zO false (rev+ps.length) ns (rs++[⟨n,ps.foldl je qs⟩])
 |[],qs,rev,_=>rfl
 |p::ps,qs,rev,hv=>by show zA.after ((zO false rev ns (rs++[⟨n,qs⟩])).step (qC n p)).1 (ps.map (qC n))=_;rw[D7 h (hv p (by simp)),JY h ps (je qs p) (rev+1) λq hq=>hv q (by simp[hq])];rw[List.length_cons,show rev+1+ps.length=rev+(ps.length+1) by omega];rfl
theorem Gi{rev:Nat}{n:Bytes}{ps:List zh}(h0:n≠[])(h:∀r∈rs,zt r.name n<0)(hn:∀m∈ns,zt m n<0)(hv:∀p∈ps,zT p.key p.stop=true):
  (zO false rev ns rs).after (kN n ps)=zO false (rev+ps.length+2) (ns++[n]) (rs++[⟨n,ps.foldl je []⟩]):=by
 show zA.after ((zO false rev ns rs).step (yz n)).1 (ps.map (qC n)++[yi uN n])=_;rw[dJ h0 h,vt,JY h ps [] _ hv];show((zO false (rev+1+ps.length) ns (rs++[⟨n,ps.foldl je []⟩])).step (yi uN n)).1=_;rw[fO (JA (nm:=zm.name) h rfl) hn,show rev+1+ps.length+1=rev+ps.length+2 by omega]
def ku:List zH:=[xu zL,yi zL zL,xu uN]
theorem VS:zA.start.after ku=zO false 4 [] []:=by
 have e1:(zA.start.step (xu zL)).1=⟨false,2,[⟨zL,[]⟩],[]⟩:=by rw[yy (by decide)];rfl
 have e2:((⟨false,2,[⟨zL,[]⟩],[]⟩:zA).step (yi zL zL)).1=⟨false,3,[⟨zL,[zL]⟩],[]⟩:=by rw[yy (by decide)];rfl
 have e3:((⟨false,3,[⟨zL,[zL]⟩],[]⟩:zA).step (xu uN)).1=zO false 4 [] []:=by rw[yy (by decide)];rfl
 unfold zA.after ku;simp only[List.foldl_cons,List.foldl_nil];rw[e1,e2,e3]
theorem JZ(rev:Nat)(ns:List Bytes)(rs:List zm):(zO false rev ns rs).step vr=(zO true rev ns rs,⟨0,rev,true,false,[],[]⟩):=by rw[yy (by decide)];unfold zA.change;rw[if_pos (show vr.kind=1 from rfl),VR];rfl
variable{j:Nat}
theorem VT{i:Nat}(h:i<j)(hj:j<=3):zt (qx i) (qx j)<0:=by
 have:(i=0/\j=1)\/(i=0/\j=2)\/(i=0/\j=3)\/(i=1/\j=2)\/(i=1/\j=3)\/(i=2/\j=3):=by omega
 rcases this with⟨rfl,rfl⟩|⟨rfl,rfl⟩|⟨rfl,rfl⟩|⟨rfl,rfl⟩|⟨rfl,rfl⟩|⟨rfl,rfl⟩<;>decide
theorem za6(i:Nat):qx i≠[]:=by unfold qx;simp
def qD:Nat->List (List zh)->List zH
 |_,[]=>[]
 |i,ps::l=>kN (qx i) ps++qD (i+1) l
def qV(i:Nat)(l:List (List zh)):List Bytes:=match l with
 |[]=>[]
 |_::l=>qx i::qV (i+1) l
def yA(i:Nat)(l:List (List zh)):List zm:=match l with
 |[]=>[]
 |ps::l=>⟨qx i,ps.foldl je []⟩::yA (i+1) l
theorem J0:∀(l:List (List zh)) (i rev:Nat) (ns:List Bytes) (rs:List zm),i+l.length<=3->(∀r∈rs,∃j,j<i/\r.name=qx j)->(∀m∈ns,∃j,j<i/\m=qx j)->(∀ps∈l,∀p∈ps,zT p.key p.stop=true)->
  ∃rev',(zO false rev ns rs).after (qD i l)=zO false rev' (ns++qV i l) (rs++yA i l)
 |[],i,rev,ns,rs,_,_,_,_=>⟨rev,by simp[qD,qV,yA,zA.after]⟩
 |ps::l,i,rev,ns,rs,hi,hr,hn,hv=>by
  rw[List.length_cons]at hi;have h1:∀r∈rs,zt r.name (qx i)<0:=λr h=>by obtain⟨j,hj,e⟩:=hr r h;rw[e];exact VT hj (by omega)
  have h2:∀m∈ns,zt m (qx i)<0:=λm h=>by obtain⟨j,hj,e⟩:=hn m h;rw[e];exact VT hj (by omega)
  have h3:=Gi (rev:=rev) (za6 i) h1 h2 (hv ps (by simp));obtain⟨rev',h4⟩:=J0 l (i+1) (rev+ps.length+2) (ns++[qx i]) (rs++[⟨qx i,ps.foldl je []⟩]) (by omega) (λr h=>by
   rcases List.mem_append.1 h with h|h
   ·obtain⟨j,hj,e⟩:=hr r h;exact⟨j,by omega,e⟩
   ·rw[List.mem_singleton]at h;exact⟨i,by omega,by rw[h]⟩) (λm h=>by
   rcases List.mem_append.1 h with h|h
   ·obtain⟨j,hj,e⟩:=hn m h;exact⟨j,by omega,e⟩
   ·rw[List.mem_singleton]at h;exact⟨i,by omega,h⟩) (λqs hq=>hv qs (by simp[hq]))
  refine⟨rev',?_⟩;show(zO false rev ns rs).after (kN (qx i) ps++qD (i+1) l)=_;rw[vt,h3,h4];simp[qV,yA]
def qg(l:List (List zh)):List zH:=ku++(qD 0 l++[vr])
theorem fP{l:List (List zh)}(hl:l.length<=3)(hv:∀ps∈l,∀p∈ps,zT p.key p.stop=true):∃rev an,zA.start.after (qg l)=zO true rev (qV 0 l) (yA 0 l)/\zA.start.run (qg l)=an++[⟨0,rev,true,false,[],[]⟩]:=by
 obtain⟨rev,h⟩:=J0 l 0 4 [] [] (by omega) (λr h=>by cases h) (λr h=>by cases h) hv;rw[List.nil_append,List.nil_append]at h;refine⟨rev,zA.start.run (ku++qD 0 l),?_,?_⟩
 ·unfold qg;rw[vt,vt,VS,h];show((zO false rev _ _).step vr).1=_;rw[JZ]
 ·unfold qg;rw[<-List.append_assoc,YD,vt,VS,h];show _++[((zO false rev _ _).step vr).2]=_;rw[JZ]
def yQ(kind:Int)(u:Bytes)(k e:Bytes)(old:Int):zH:=⟨kind,u,[],0,k,e,false,old,false⟩
theorem fQ{s:zA}{kind:Int}{u k e:Bytes}{old:Int}(hk:kind=15\/kind=16\/kind=17):s.step (yQ kind u k e old)=(s,⟨s.ask (yQ kind u k e old),s.rev,s.on,false,[],[]⟩):=by
 have ha:(yQ kind u k e old).asks:=by unfold zH.asks yQ;simp only;omega
 obtain⟨h1,h2,h3⟩:=Q2 (s:=s) ha;have hc:s.change (yQ kind u k e old)=(s,0):=by have hkk:(yQ kind u k e old).kind=kind:=rfl;unfold zA.change;rw[hkk,if_neg (by omega),if_neg (by omega),if_neg (by omega),if_neg (by omega),if_neg (by omega),if_neg (by omega),if_neg (by omega),if_neg (by omega),if_neg (by omega),if_neg (by omega)]
 have hkk:(yQ kind u k e old).kind=kind:=rfl;unfold zA.step;simp only[hc,hkk];rw[if_neg (by omega),if_neg (by omega),if_neg (by omega),if_neg (by omega),if_pos (by omega)]
theorem zcm{rev:Nat}{kind:Int}{u k e:Bytes}(hk:kind=15\/kind=16\/kind=17):(zO true rev ns rs).ask (yQ kind u k e 1)=14:=by have hkk:(yQ kind u k e 1).kind=kind:=rfl;unfold zA.ask;rw[if_neg (by show ¬true=false;decide),if_neg (by rw[hkk];rintro(h|h)<;>first|(cases h;done)|omega),if_neg (by rw[hkk];omega),if_pos (by show(0:Int)<1;decide)]
theorem za7(X:Prop)[Decidable X]:(if X then 0 else 10)≠14:=by split<;>decide
theorem zcn{s:zA}{kind:Int}{u k e:Bytes}(hk:kind=15\/kind=16\/kind=17):s.ask (yQ kind u k e 0)≠14:=by
 have hkk:(yQ kind u k e 0).kind=kind:=rfl;unfold zA.ask;split
 ·decide
 ·split
  ·decide
  ·rw[if_neg (by rw[hkk];omega),if_neg (by show ¬(0:Int)<0;decide)];split
   ·decide
   ·split
    ·decide
    ·exact za7 _
structure zh.fine(p:zh):Prop where
 kind:p.kind<=2
 key:p.key.length<=64
 stop:p.stop.length<=64
theorem dK:DD []:=λe=>by cases e
theorem Q6(k:Int)(hk:o.kind=k)(h1:1<=k/\k<=21)(ho:0<=o.old/\o.old<=1)(hu:o.user.length<=64)(hr:o.role.length<=64/\DD o.role)(hke:o.key.length<=64)(hs:o.stop.length<=64)(hp:k=11->0<=o.pk/\o.pk<=2)(hg:k=16\/k=17->zT o.key o.stop=true)(hq:k=15->o.key≠[]):o.runs:=
 ⟨by rw[hk];exact h1,ho,hu,hr,hke,hs,by rw[hk];exact hp,by rw[hk];exact hg,by rw[hk];exact hq⟩
theorem fS:(0:Int)<=0/\(0:Int)<=1:=by omega
theorem GQ{n:Bytes}(h:n.length<=64):(xu n).runs:=Q6 3 rfl (by omega) fS h ⟨Nat.zero_le _,dK⟩ (Nat.zero_le _) (Nat.zero_le _) (λe=>by omega) (λe=>by omega) (λe=>by omega)
theorem X7{n r:Bytes}(h:n.length<=64)(hr:r.length<=64/\DD r):(yi n r).runs:=Q6 5 rfl (by omega) fS h hr (Nat.zero_le _) (Nat.zero_le _) (λe=>by omega) (λe=>by omega) (λe=>by omega)
theorem fT{r:Bytes}(hr:r.length<=64/\DD r):(yz r).runs:=Q6 9 rfl (by omega) fS (Nat.zero_le _) hr (Nat.zero_le _) (Nat.zero_le _) (λe=>by omega) (λe=>by omega) (λe=>by omega)
theorem za8{r:Bytes}(hr:r.length<=64/\DD r)(hp:p.fine):(qC r p).runs:=Q6 11 rfl (by omega) fS (Nat.zero_le _) hr hp.key hp.stop (λ_=>by have:=hp.kind;show(0:Int)<=(p.kind:Int)/\(p.kind:Int)<=2;omega) (λe=>by omega) (λe=>by omega)
theorem Gj:vr.runs:=Q6 1 rfl (by omega) fS (Nat.zero_le _) ⟨Nat.zero_le _,dK⟩ (Nat.zero_le _) (Nat.zero_le _) (λe=>by omega) (λe=>by omega) (λe=>by omega)
theorem GR{kind:Int}{u k e:Bytes}{old:Int}(hk:kind=15\/kind=16\/kind=17)(ho:old=0\/old=1)(hu:u.length<=64)(hkl:k.length<=64)(he:e.length<=64)(hv:zT k e=true):(yQ kind u k e old).runs:=
 Q6 kind rfl (by omega) (by show 0<=old/\old<=1;omega) hu ⟨Nat.zero_le _,dK⟩ hkl he (λe=>by omega) (λ_=>hv) (λ_ e2=>by have e2:k=[]:=e2;rw[e2]at hv;unfold zT at hv;rw[decide_eq_true rfl]at hv;cases hv)
theorem JB(i:Nat):(qx i).length<=64/\DD (qx i):=⟨show 5<=64 by omega,λe=>by
 have e:some (114:UInt8)=some 255:=e;injection e with e
 exact absurd e (by decide)⟩
theorem dL(k:Int)(hk:o.kind=k)(h:k≠13):o.kind≠13:=by rw[hk];exact h
theorem D8:zL.length<=64/\DD zL:=⟨show 4<=64 by omega,λe=>by
 have e:some (114:UInt8)=some 255:=e;injection e with e
 exact absurd e (by decide)⟩
theorem dM{i:Nat}{ps:List zh}(hp:∀p∈ps,p.fine):∀o∈kN (qx i) ps,o.runs/\o.kind≠13:=by
 intro o ho;unfold kN at ho;rcases List.mem_cons.1 ho with rfl|ho
 ·exact⟨fT (JB i),dL 9 rfl (by omega)⟩
 ·rcases List.mem_append.1 ho with ho|ho
  ·obtain⟨p,hpm,rfl⟩:=List.mem_map.1 ho;exact⟨za8 (JB i) (hp p hpm),dL 11 rfl (by omega)⟩
  ·rw[List.mem_singleton]at ho;rw[ho];exact⟨X7 (show 1<=64 by omega) (JB i),dL 5 rfl (by omega)⟩
theorem Z7:∀(l:List (List zh)) (i:Nat),(∀ps∈l,∀p∈ps,p.fine)->∀o∈qD i l,o.runs/\o.kind≠13
 |[],_,_,o,h=>by cases h
 |ps::l,i,hp,o,h=>by
  rcases List.mem_append.1 h with h|h
  ·exact dM (hp ps (by simp)) o h
  ·exact Z7 l (i+1) (λq hq=>hp q (by simp[hq])) o h
theorem Gk{l:List (List zh)}(hp:∀ps∈l,∀p∈ps,p.fine):∀o∈qg l,o.runs/\o.kind≠13:=by
 intro o ho;unfold qg at ho;rcases List.mem_append.1 ho with ho|ho
 ·simp only[ku,List.mem_cons,List.not_mem_nil,or_false]at ho;rcases ho with rfl|rfl|rfl
  ·exact⟨GQ (show 4<=64 by omega),dL 3 rfl (by omega)⟩
  ·exact⟨X7 (show 4<=64 by omega) D8,dL 5 rfl (by omega)⟩
  ·exact⟨GQ (show 1<=64 by omega),dL 3 rfl (by omega)⟩
 ·rcases List.mem_append.1 ho with ho|ho
  ·exact Z7 l 0 hp o ho
  ·rw[List.mem_singleton]at ho;rw[ho];exact⟨Gj,dL 1 rfl (by omega)⟩
theorem ZA(l m:List zH):gs (l++m)=gs l+gs m:=by unfold gs;rw[List.map_append,List.sum_append]
theorem fU(r:Bytes):∀ps:List zh,gs (ps.map (qC r))=ps.length
 |[]=>rfl
 |p::ps=>by have:=fU r ps;unfold gs at this⊢;rw[List.map_cons,List.map_cons,List.sum_cons,this,List.length_cons];show 1+_=_;omega
theorem fV:∀(l:List (List zh)) (i:Nat),gs (qD i l)=l.flatten.length
 |[],_=>rfl
 |ps::l,i=>by
  show gs ((yz (qx i)::(ps.map (qC (qx i))++[yi uN (qx i)]))++qD (i+1) l)=_;rw[ZA,fV l (i+1),List.flatten_cons,List.length_append];have h1:gs (yz (qx i)::(ps.map (qC (qx i))++[yi uN (qx i)]))=gs (ps.map (qC (qx i))++[yi uN (qx i)]):=by unfold gs;rw[List.map_cons,List.sum_cons];show 0+_=_;omega
  rw[h1,ZA,fU];rfl
theorem za9(l:List (List zh)):gs (qg l)=l.flatten.length:=by unfold qg;rw[ZA,ZA,fV];show 0+(_+0)=_;omega
def zS.m(p:zS):zh:=⟨p.kind.toNat,p.key,p.stop⟩
def GS(r:Rd)(ls:List (List zS))(v:Value):Prop:=∃cs,Sl r 1 cs v/\qy (Q4 r) ls cs
def jC(ls:List (List zS))(i:Nat):List zH:=ku++qD 0 ((ls.take i).map λps=>ps.map zS.m)
theorem Z8:∀(l:List (List zh)) (i:Nat) (ps:List zh),qD i (l++[ps])=qD i l++kN (qx (i+l.length)) ps
 |[],i,ps=>by show kN _ ps++[]=_;rw[List.append_nil];rfl
 |q::l,i,ps=>by show kN (qx i) q++qD (i+1) (l++[ps])=(kN (qx i) q++qD (i+1) l)++_;rw[Z8 l (i+1) ps,List.append_assoc,List.length_cons,show i+1+l.length=i+(l.length+1) by omega]
theorem dN{ls:List (List zS)}{i:Nat}(hi:i<ls.length):jC ls (i+1)=jC ls i++(yz (qx i)::(ls[i].map zS.m).map (qC (qx i)))++[yi uN (qx i)]:=by unfold jC;rw[List.take_succ_eq_append_getElem hi,List.map_append,List.map_cons,List.map_nil,Z8,Nat.zero_add,List.length_map,List.length_take,Nat.min_eq_left (by omega)];unfold kN;simp
theorem xJ:∀(l:List (List zh)) (i:Nat),(∀ps∈l,ps.length<=12)->(qD i l).length<=l.length*14
 |[],_,_=>Nat.zero_le _
 |ps::l,i,h=>by have h1:=xJ l (i+1) λq hq=>h q (by simp[hq]);have h2:=h ps (by simp);show(kN (qx i) ps++qD (i+1) l).length<=_;unfold kN;rw[List.length_append,List.length_cons,List.length_append,List.length_map,List.length_singleton,List.length_cons,Nat.add_mul];omega
theorem fW{ls:List (List zS)}(h:∀ps∈ls,ps.length<=12)(hl:ls.length<=3)(i:Nat):(jC ls i).length<=45:=by
 unfold jC;have h1:=xJ ((ls.take i).map λps=>ps.map zS.m) 0 λq hq=>by obtain⟨ps,hps,rfl⟩:=List.mem_map.1 hq;rw[List.length_map];exact h ps (List.mem_of_mem_take hps)
 rw[List.length_map,List.length_take]at h1;rw[List.length_append];show 3+_<=45;have:min i ls.length<=3:=by omega
 omega
variable{cs:List Value}{e:TypeId}{sz:Nat}
theorem zba{w:World}(hl:cs.length=n*sz)(hn:n<=1000):(w.alloc (.cells cs.toArray e)).ownsRow w.heap.size e sz (.slice (some ⟨w.heap.size,0,none⟩) n n) n cs:=
 ⟨hl,Or.inr ⟨w.heap.size,n,cs.toArray,rfl,Nat.le_refl _,zg w _,Nat.le_refl _,by simp only[maxLen];omega,by simpa using hl,by rw[<-hl];simp⟩⟩
variable{q:Nat}
theorem Sl.made_q(w:World)(cs:List Value)(T sz n:Nat)(hq:q=w.heap.size)(h:cs.length=n*sz)(hn:n<=9223372036854775807):Sl (w.alloc (.cells cs.toArray T)).cell? sz cs (.slice (some ⟨q,0,none⟩) n n):=by rw[hq];exact Sl.made w cs T sz n h hn
theorem xw(o:zH):∀u∈yP zH.cells [o],u.oneCell'=true:=by intro u hu;simp only[yP,List.flatMap_cons,List.flatMap_nil,List.append_nil,zH.cells,List.mem_cons,List.not_mem_nil,or_false]at hu;rcases hu with rfl|rfl|rfl|rfl|rfl|rfl|rfl|rfl|rfl<;>rfl
def E9(rx:ByteArray):List Value:=[.int .i64 9,.string ⟨#[]⟩,.string rx,.int .i64 0,.string ⟨#[]⟩,.string ⟨#[]⟩,.bool false,.int .i64 0,.bool false]
def E5(rx:ByteArray):List Value:=[.int .i64 5,.string ⟨#[117]⟩,.string rx,.int .i64 0,.string ⟨#[]⟩,.string ⟨#[]⟩,.bool false,.int .i64 0,.bool false]
def E11(rx:ByteArray)(k:Int)(kx sx:ByteArray):List Value:=[.int .i64 11,.string ⟨#[]⟩,.string rx,.int .i64 k,.string kx,.string sx,.bool false,.int .i64 0,.bool false]
def E1:List Value:=[.int .i64 1,.string ⟨#[]⟩,.string ⟨#[]⟩,.int .i64 0,.string ⟨#[]⟩,.string ⟨#[]⟩,.bool false,.int .i64 0,.bool false]
theorem zcH{n:Bytes}{rx:ByteArray}(h:zb n=.string rx):E9 rx=yP zH.cells [yz n]:=by unfold E9;rw[<-h];rfl
theorem zcI{n:Bytes}{rx:ByteArray}(h:zb n=.string rx):E5 rx=yP zH.cells [yi uN n]:=by unfold E5;rw[<-h];rfl
theorem zdB{n:Bytes}{rx kx sx:ByteArray}{p:zS}(h:zb n=.string rx)(hk:zb p.key=.string kx)(hs:zb p.stop=.string sx)(h0:0<=p.kind):E11 rx p.kind kx sx=yP zH.cells [qC n p.m]:=by unfold E11;rw[<-h,<-hk,<-hs];have:((p.kind.toNat:Nat):Int)=p.kind:=Int.toNat_of_nonneg h0;show _=[Value.int .i64 11,zb [],zb n,.int .i64 ((p.kind.toNat:Nat):Int),zb p.key,zb p.stop,.bool false,.int .i64 0,.bool false];rw[this];rfl
theorem zcJ:E1=yP zH.cells [vr]:=rfl
theorem ZB(l:List zH)(o:zH):yP zH.cells l++yP zH.cells [o]=yP zH.cells (l++[o]):=(gY _ _ _).symm
theorem ZC{l:List zH}(h:l.length<=99):((yP zH.cells l).length+9)*(104+1)<=140737488355328:=by rw[kX ZW];omega
theorem D9(ls:List (List zS)):jC ls ls.length++[vr]=qg (ls.map λps=>ps.map zS.m):=by unfold jC qg;rw[List.take_length,List.append_assoc]
theorem D_{w:World}{ls:List (List zS)}(h:GS w.cell? ls v)(hl:ls.length<=3)(hs:∀ps∈ls,ps.length<=12/\∀p∈ps,0<=p.kind):
  Calls prog 26 #[.string ⟨#[117]⟩,v] w λe w'=>∃v' n,e=.returned v'/\za w w'/\w'.ownsRow w.heap.size 35 9 v' n (yP zH.cells (qg (ls.map λps=>ps.map zS.m))):=by
 obtain⟨cs,hsl,hall⟩:=h;have hlen:=hall.length;obtain⟨p,n,c,rfl⟩:=hsl.shape;have hn:n=ls.length:=by obtain⟨p',n',c',e,hl',_⟩:=hsl;simp only[Value.slice.injEq]at e;obtain⟨_,rfl,_⟩:=e;omega
 obtain⟨W0,hW0⟩:=zex (w.alloc (.cells (yP zH.cells ku).toArray 35));have hn0:za w W0:=by rw[hW0];exact(za.refl w).alloc _
 have hown0:W0.ownsRow w.heap.size 35 9 (.slice (some ⟨w.heap.size,0,none⟩) 3 3) 3 (yP zH.cells (jC ls 0)):=by rw[hW0];exact zba (cs:=yP zH.cells ku) (by decide) (by decide)
 simp[yP,ku,xu,yi,zH.cells,zb,zL,uN]at hW0;have HSL:=hid hsl;have HALL:=hid hall;have HLEN:=hid hlen;have HN:=hid hn;have HW0:=hid hW0;have HN0:=hid hn0;have HOWN0:=hid hown0;have HS:=hid hs;have HUL:=hid (fW (ls:=ls) (λps hp=>(hs ps hp).1) hl);have hn3:n<=3:=by omega
 clear hsl hall hlen hn hW0 hn0 hown0 hs hl;go_enter func26,ntmps26;go_upto_region 2 with fail
 rw[<-HW0.out];go_wp2;go_loopw [5,18] (λz i wr=>∃k m:Nat,k<=n/\i=.int .i64 k/\za w wr/\wr.ownsRow w.heap.size 35 9 z m (yP zH.cells (jC ls k))) (λ_ i _=>n-(intOf i).toNat)
 case atStart=>exact⟨0,3,Nat.zero_le _,rfl,HN0.out,HOWN0.out⟩
 case round=>
  obtain⟨k,m,hk,rfl,hnr,hown⟩:=hrel;obtain⟨zp,zn,zc,rfl⟩:=(Sl.of_own hown).shape;by_cases hlt:k<n
  ·have hkl:k<ls.length:=by rw[<-HN.out];exact hlt
   have hkc:k<cs.length:=by rw[<-HLEN.out];exact hkl
   obtain⟨gb,go,rfl,hel⟩:∃gb go,p=some ⟨gb,go,none⟩/\w.cell? ⟨gb,go+k,none⟩=some cs[k]:=by
    obtain⟨p',n',c',e,_,_,_,_,h5⟩:=HSL.out;simp only[Value.slice.injEq]at e;obtain⟨rfl,rfl,rfl⟩:=e;rcases h5 with h5|⟨gb,go,rfl,hcc⟩
    ·rw[h5]at hkc;cases hkc
    ·exact⟨gb,go,rfl,hcc k hkc⟩
   have hpk:=HALL.out.get k hkl hkc;obtain⟨ps,hps⟩:=zex (ls[k]);rw[<-hps]at hpk;obtain⟨hpl,hpo⟩:=HS.out _ (List.getElem_mem hkl);rw[<-hps]at hpl hpo;obtain⟨q,c2,hcs,hlc2,hc2,hq⟩:=jW.shape yM (by decide) hpk;rw[hcs]at hel hpk;have d0:=hnr.le _ _ hel;obtain⟨n2,hn2⟩:=zex (ps.length);rw[<-hn2]at d0 hlc2 hpl;have hul:=HUL.out k;have HNR:=hid hnr;have HOWN:=hid hown;have HPS:=hid hps;have HPK:=hid hpk;have HQ:=hid hq;have HPO:=hid hpo;have HN2:=hid hn2;obtain⟨wo,hwo⟩:=zex (wr);rw[<-hwo]at HNR HOWN d0⊢;clear hnr hown hps hpk hq hpo hel hcs hn2 hwo;go_upto_region 5 with fail
   obtain⟨rx,hrx⟩:∃z,zb (qx k)=.string z:=⟨_,rfl⟩;have HRX:=hid hrx;clear hrx;go_cut [8] (λc wx=>wo=wx/\c=.string rx)
   case first=>
    have hrx:=HRX.out;rcases(by omega:k=0\/k=1\/k=2)with rfl|rfl|rfl
    all_goals
     unfold zb qx at hrx;simp at hrx;subst hrx;go_wp2;go_meet;exact⟨rfl,rfl⟩
   case rest=>
    obtain⟨rfl,rfl⟩:=hcut;have HE9:=hid (zcH HRX.out);have HO9:=hid (show∀u∈E9 rx,u.oneCell'=true by rw[zcH HRX.out];exact xw _);have HB9:=hid (ZC (l:=jC ls k) (by omega));go_wp2_with (at_builtin;refine ql Ju rfl rfl (HNR.out.alloc _) (World.ownsRow.alloc HOWN.out _) rfl rfl (Sl.made _ (E9 rx) _ 9 1 rfl (by decide)) HO9.out HB9.out ?_;intro v5 w5 m5 hm5 ho hn5 hg hs5;obtain⟨p7,n7,c7,rfl⟩:=hs5.shape;rw[HE9.out,ZB]at ho;have HN5:=hid hn5;have HOW5:=hid ho;clear ho hn5 hg hs5 hm5);go_loopw [5,35] (λz j wr=>∃q m:Nat,q<=n2/\j=.int .i64 q/\za w wr/\wr.ownsRow w.heap.size 35 9 z m (yP zH.cells ((jC ls k++[yz (qx k)])++((ps.map zS.m).take q).map (qC (qx k))))) (λ_ j _=>n2-(intOf j).toNat)
    case atStart=>exact⟨0,_,Nat.zero_le _,rfl,HN5.out,by rw[List.take_zero,List.map_nil,List.append_nil];exact HOW5.out⟩
    case round=>
     obtain⟨j,m,hj,rfl,hnr,hown⟩:=hrel;obtain⟨yp,yn,yc,rfl⟩:=(Sl.of_own hown).shape;by_cases hjl:j<n2
     ·have hjp:j<ps.length:=by rw[<-HN2.out];exact hjl
      have hjm:j<(ps.map zS.m).length:=by rw[List.length_map];exact hjp
      obtain⟨gb2,go2,rfl⟩:=HQ.out (xt hjp);obtain⟨g0,g1,g2⟩:=Vz (jW.range yM (HPK.out.mono hnr.le) hjp);obtain⟨kx,hkx⟩:∃z,zb ps[j].key=.string z:=⟨_,rfl⟩;obtain⟨sx,hsx⟩:∃z,zb ps[j].stop=.string z:=⟨_,rfl⟩;have HE:=hid (zdB HRX.out hkx hsx (HPO.out _ (List.getElem_mem hjp)));have HO:=hid (show∀u∈E11 rx ps[j].kind kx sx,u.oneCell'=true by rw[HE.out];exact xw _);have HB:=hid (ZC (l:=(jC ls k++[yz (qx k)])++((ps.map zS.m).take j).map (qC (qx k))) (by
       rw[List.length_append,List.length_append,List.length_map,List.length_take,List.length_singleton,List.length_map];have:min j ps.length<=12:=by omega
       omega))
      have HT:=hid (show((ps.map zS.m).take (j+1)).map (qC (qx k))=((ps.map zS.m).take j).map (qC (qx k))++[qC (qx k) ps[j].m] by rw[List.take_succ_eq_append_getElem hjm,List.map_append,List.getElem_map];rfl)
      rw[hkx]at g1;rw[hsx]at g2;have HNQ:=hid hnr;have HOQ:=hid hown;clear hkx hsx hnr hown;go_wp2_with (at_builtin;refine ql Ju rfl rfl ((HNQ.out.alloc _).alloc _) (World.ownsRow.alloc (World.ownsRow.alloc HOQ.out _) _) rfl rfl (Sl.made_q (q:=wr.heap.size+1) _ (E11 rx ps[j].kind kx sx) _ 9 1 (Array.size_push ..).symm rfl (by decide)) HO.out HB.out ?_;intro v6 w6 m6 hm6 ho hn6 hg hs6;obtain⟨p8,n8,c8,rfl⟩:=hs6.shape;rw[HE.out,ZB]at ho;have HN6:=hid hn6;have HOW6:=hid ho;clear ho hn6 hg hs6 hm6);go_roundw
      case rel=>exact⟨j+1,_,by omega,by go_num,HN6.out,by rw[HT.out,<-List.append_assoc];exact HOW6.out⟩
      case measure=>simp[intOf];omega
     ·have hjn:j=n2:=by omega
      have HT:=hid (show(ps.map zS.m).take j=ps.map zS.m from List.take_of_length_le (by rw[List.length_map,<-HN2.out];omega));have HE:=hid (zcI HRX.out);have HO:=hid (show∀u∈E5 rx,u.oneCell'=true by rw[zcI HRX.out];exact xw _);have HB:=hid (ZC (l:=(jC ls k++[yz (qx k)])++((ps.map zS.m).take j).map (qC (qx k))) (by
       rw[List.length_append,List.length_append,List.length_map,List.length_take,List.length_singleton,List.length_map];have:min j ps.length<=12:=by have:=HN2.out;omega
       omega))
      have HNQ:=hid hnr;have HOQ:=hid hown;have HUS:=hid (dN hkl);have HPSX:=HPS;clear hnr hown;go_wp2_with (at_builtin;refine ql Ju rfl rfl (HNQ.out.alloc _) (World.ownsRow.alloc HOQ.out _) rfl rfl (Sl.made _ (E5 rx) _ 9 1 rfl (by decide)) HO.out HB.out ?_;intro v6 w6 m6 hm6 ho hn6 hg hs6;obtain⟨p8,n8,c8,rfl⟩:=hs6.shape;rw[HE.out,ZB,HT.out,HPS.out]at ho;have HN6:=hid hn6;have HOW6:=hid ho;clear ho hn6 hg hs6 hm6);go_roundw
      case rel=>exact⟨k+1,_,by omega,by go_num,HN6.out,by rw[HUS.out];simpa using HOW6.out⟩
      case measure=>simp[intOf];omega
  ·have hkn:k=n:=by omega
   have hkl:k=ls.length:=hkn.trans HN.out;have HE:=hid zcJ;have HO:=hid (show∀u∈E1,u.oneCell'=true by rw[zcJ];exact xw _);have HB:=hid (ZC (l:=jC ls k) (by have:=HUL.out k;omega));have HEND:=hid (show jC ls k++[vr]=qg (ls.map λps=>ps.map zS.m) by rw[hkl];exact D9 ls);have HNQ:=hid hnr;have HOQ:=hid hown;clear hnr hown;go_wp2_with (at_builtin;refine ql Ju rfl rfl (HNQ.out.alloc _) (World.ownsRow.alloc HOQ.out _) rfl rfl (Sl.made _ E1 _ 9 1 rfl (by decide)) HO.out HB.out ?_;intro v6 w6 m6 hm6 ho hn6 hg hs6;obtain⟨p8,n8,c8,rfl⟩:=hs6.shape;rw[HE.out,ZB,HEND.out]at ho;have HN6:=hid hn6;have HOW6:=hid ho;clear ho hn6 hg hs6 hm6);go_returns;exact⟨_,_,rfl,HN6.out,HOW6.out⟩
def J1(w:World):zu:=λj=>if j=w.heap.size then 4 else if j=w.heap.size+1 then 17 else 0
def stZ:zA:=⟨false,0,[],[]⟩
theorem zdC:ya stZ:=⟨List.Pairwise.nil,List.Pairwise.nil,λu h=>(by cases h),λr h=>(by cases h),by decide,by decide,by decide⟩
theorem zew:yq [] stZ.on stZ.rev:=⟨rfl,rfl,List.Pairwise.nil,λp h=>(by cases h)⟩
theorem zbd{w W0:World}(hW0:W0=(w.alloc (.cells #[.slice none 0 0] 79)).alloc (.cells #[ptr w.heap.size,.nilIface,.nilIface] 63)):
  Calls prog 32 #[ptr (w.heap.size+1)] W0 λe w'=>e=.returned (.tuple #[])/\∃l I a,AuS w (w.heap.size+1) w' I zA.start (.slice none 0 0) 0 [] l a []:=by
 obtain⟨w1,hw1⟩:=zex (w.alloc (.cells #[.slice none 0 0] 79));rw[<-hw1]at hW0;have s1:w1.heap.size=w.heap.size+1:=by rw[hw1];exact Array.size_push ..
 have s2:W0.heap.size=w.heap.size+1+1:=by rw[hW0,<-s1];exact Array.size_push ..
 have n1:za w w1:=by rw[hw1];exact(za.refl w).alloc _
 have n2:za w1 W0:=by rw[hW0];exact(za.refl w1).alloc _
 have hb:∀j,J1 w j≠0->j<W0.heap.size:=λj e=>by
  unfold J1 at e;by_cases h1:j=w.heap.size
  ·omega
  ·by_cases h2:j=w.heap.size+1
   ·omega
   ·rw[if_neg h1,if_neg h2]at e;exact absurd rfl e
 have hx:J1 w (w.heap.size+1)=17:=by unfold J1;rw[if_neg (by omega),if_pos rfl]
 have hd4:J1 w w.heap.size=4:=by unfold J1;rw[if_pos rfl]
 have hrow:W0.heap[w.heap.size+1]? =some (.cells #[ptr w.heap.size,.nilIface,.nilIface] 63 (0,0)):=by rw[<-s1,hW0];exact zg w1 _
 have hd:W0.heap[w.heap.size]? =some (.cells #[.slice none 0 0] 79 (0,0)):=n2.heap (by rw[hw1];exact zg w _);refine(GK (s:=stZ) (A:=[]) (C:=[]) hb hx hrow hd4 hd ⟨[],Sl.nil _ _,qy.nil⟩ (Nat.zero_le _) zaF zew zdC Ok.start.sane).mono ?_;rintro e w' ⟨rfl,l,I,a,hdb,hs,hwd⟩;refine⟨rfl,l,I,a,?_,hwd,λj hj=> ?_,World.ownsRow_nil _ _ _ _,λb hb=>(by cases hb),qy.nil⟩
 ·refine zo.trans (za.trans n1 n2) hs.mod λb hb e=>e.1 ?_;unfold J1;rw[if_neg (by omega),if_neg (by omega)]
 ·rw[hs.old j (by omega)];unfold J1;rw[if_neg (by omega),if_neg (by omega)]
theorem zbe{w:World}{l:List zH}(h:zcB w.cell? l v)(ho:∀o∈l,o.runs)(hd:∀o∈l,zdz o)(hl:l.length<=99)(hg:gs l<=12):
  Calls prog 14 #[v] w λe w'=>∃v',e=.returned v'/\za w w'/\JX w'.cell? v' (zA.start.run l):=by
 obtain⟨p,c,rfl,hlc,hc,hp⟩:=jW.shape ZW (by decide) h;obtain⟨W0,hW0⟩:=zex ((w.alloc (.cells #[.slice none 0 0] 79)).alloc (.cells #[ptr w.heap.size,.nilIface,.nilIface] 63));have s1:(w.alloc (.cells #[.slice none 0 0] 79)).heap.size=w.heap.size+1:=Array.size_push ..
 have HOP:=hid (zbd hW0);have HW0:=hid hW0;have HP:=hid hp;have H:=hid h;have HO:=hid ho;have HD:=hid hd;have HG:=hid hg;obtain⟨n,hn⟩:=zex (l.length);rw[<-hn]at hlc hl⊢;have HN:=hid hn;clear h hp hn ho hd hg hW0 s1;go_enter func14,ntmps14;go_wp2_with fail;refine D4.mono ?_;rintro e w1 ⟨rfl,rfl⟩;go_upto_region 2 with fail
 rw[<-HW0.out];go_wp2_with fail;refine HOP.out.mono ?_;rintro e w2 ⟨rfl,l2,I,a,ha⟩;have HA:=hid ha;clear ha;go_wp2;go_loopw [4,5] (λz i wr=>∃k I a vs l',k<=n/\i=.int .i64 (k:Nat)/\AuS w (w.heap.size+1) wr I (zA.start.after (l.take k)) z k (zA.start.run (l.take k)) l' a vs) (λ_ i _=>n-(intOf i).toNat)
 case atStart=>exact⟨0,I,a,[],l2,Nat.zero_le _,rfl,HA.out⟩
 case round=>
  obtain⟨k,I,a,vs,l',hk,rfl,hau⟩:=hrel;obtain⟨zp,zn,zc,rfl⟩:=(Sl.of_own hau.own).shape;by_cases hlt:k<n
  ·have hkl:k<l.length:=by rw[<-HN.out];exact hlt
   obtain⟨b,o,rfl⟩:=HP.out (xt hkl);obtain⟨d0,d1,d2,d3,d4,d5,d6,d7,d8⟩:=zat (jW.range ZW (H.out.mono hau.mod.le) hkl);obtain⟨us,ro,ke,st,e1,e2,e4,e5⟩:=zH.shape l[k];obtain⟨hok,hfew⟩:=zaW (l.take k) Ok.start Xg.start λx hx=>HO.out x (List.mem_of_mem_take hx);have hgk:=zci hkl;rw[List.length_take,Nat.zero_add,Nat.min_eq_left (by omega)]at hok;rw[Nat.zero_add]at hfew;have hdo:=HD.out _ (List.getElem_mem hkl) hau.wd hok (by omega) hfew (by have:=HG.out;omega);unfold zH.val zH.cells at hdo;rw[e1,e2,e4,e5]at hdo;rw[e1]at d1;rw[e2]at d2;rw[e4]at d4;rw[e5]at d5;obtain⟨tt,htt⟩:=zex ((zA.start.after (l.take k)).step l[k]);rw[<-htt]at hdo;have HDO:=hid hdo;have HAU:=hid hau;have HTT:=hid htt;have hvl:(vs.flatMap Array.toList).length<=600:=by have:=hau.own.1;omega
   have HBD:Hid (((vs.flatMap Array.toList).length+6)*(72+1)<=140737488355328):=hid (by omega);clear hdo hau htt hok hfew e1 e2 e4 e5 hgk hvl;go_wp2_with fail;refine HDO.out.mono ?_;rintro e w5 ⟨va,l5,I5,a5,rfl,hdb5,hs5,hd5,hr5⟩;obtain⟨nv,pv,rfl,hn5,hp5⟩:=id hr5;obtain⟨p1,n1,c1,rfl⟩:=hn5.shape;obtain⟨p2,n2,c2,rfl⟩:=hp5.shape;have HS5:=hid hs5;have HD5:=hid hd5;have HR5:=hid hr5;have HOW:=hid (qK (zU HAU.out.own (λq hq=>hs5.mod.block q (World.ownsRow.lt HAU.out.own q hq).2 λe=>e.2 (HAU.out.lab q hq))) 0 (Nat.zero_le _));have HONE:=hid (Jy.one hr5);clear hs5 hd5 hr5 hn5 hp5 hdb5 d0 d1 d2 d3 d4 d5 d6 d7 d8;unfold xH
   go_wp2_with (at_builtin;refine qN zdf rfl rfl (World.ownsRow.alloc HOW.out _) rfl rfl (news:=(xH tt.2 (.slice p1 n1 c1) (.slice p2 n2 c2)).toList) (Sl.made w5 (xH tt.2 (.slice p1 n1 c1) (.slice p2 n2 c2)).toList _ 6 1 rfl (by decide)) HONE.out HBD.out ?_;intro v7 w7 how hg7 hf7;obtain⟨p7,n7,c7,rfl⟩:=(Sl.of_own how).shape;obtain⟨l7,hau7⟩:=AuS.app HAU.out HS5.out HD5.out HR5.out how hg7 hf7;have HAU7:=hid hau7;clear how hg7 hf7 hau7);go_roundw
   case rel=>exact⟨k+1,I5,a5,_,l7,by omega,by go_num,by rw[Gd hkl,zaX hkl,<-HTT.out];exact HAU7.out⟩
   case measure=>simp[intOf];omega
  ·have hkn:k=n:=by omega
   have ht:l.take k=l:=List.take_of_length_le (by rw[<-HN.out];omega);rw[ht]at hau;have HAU:=hid hau;clear hau;go_wp2;go_returns;exact⟨_,rfl,HAU.out.mod,vs,Sl.of_own HAU.out.own,HAU.out.ans.mono λ_ _ hx=>hx.mono (zd _ _)⟩
theorem VV{α:Type}{f:α->List Value}{n:Nat}:∀{l:List α},(∀x∈l,(f x).length=n)->(l.flatMap f).length=l.length*n
 |[],_=>by simp
 |x::l,h=>by rw[List.flatMap_cons,List.length_append,h x (by simp),VV λy hy=>h y (by simp[hy]),List.length_cons,Nat.add_mul,Nat.one_mul,Nat.add_comm]
theorem GU{α:Type}{f:α->List Value}{n:Nat}:∀{l:List α},(∀x∈l,(f x).length=n)->∀(k:Nat) (hk:k<l.length) (j:Nat) (v:Value),(f l[k])[j]? =some v->(l.flatMap f)[k*n+j]? =some v
 |x::l,_,0,_,j,v,hv=>by have hj:j<(f x).length:=(List.getElem?_eq_some_iff.1 hv).1;rw[List.flatMap_cons,Nat.zero_mul,Nat.zero_add,List.getElem?_append_left hj];exact hv
 |x::l,h,k+1,hk,j,v,hv=>by have ih:=GU (λy hy=>h y (by simp[hy])) k (by simpa using hk) j v hv;rw[List.flatMap_cons,List.getElem?_append_right (by rw[h x (by simp),Nat.add_mul];omega),h x (by simp)];rw[show(k+1)*n+j-n=k*n+j by rw[Nat.add_mul];omega];exact ih
variable{α β:Type}
theorem qy.left{R:α->β->Prop}{l:List α}{m:List β}(h:qy R l m):∀x∈l,∃y,R x y:=by
 induction h with
 |nil=>intro x hx;cases hx
 |cons h0 _ ih=>
  intro x hx;rcases List.mem_cons.1 hx with rfl|hx
  ·exact⟨_,h0⟩
  ·exact ih x hx
structure zfX(r:Rd)(b q:Nat)(a:vE)(nv pv:Value):Prop where
 err:r ⟨b,q,none⟩=some (.int .i64 a.err)
 rev:r ⟨b,q+1,none⟩=some (.int .u64 a.rev)
 on:r ⟨b,q+2,none⟩=some (.bool a.on)
 yes:r ⟨b,q+3,none⟩=some (.bool a.yes)
 cn:r ⟨b,q+4,none⟩=some nv
 cp:r ⟨b,q+5,none⟩=some pv
 sn:Sl r 1 (a.names.map zb) nv
 sp:Sl r 3 (a.perms.flatMap Zw) pv
theorem JX.shape{aa:List vE}(h:JX r v aa):∃p c,v=.slice p aa.length c/\aa.length<=c/\c<=9223372036854775807/\(0<aa.length->∃b o,p=some ⟨b,o,none⟩):=by
 obtain⟨vs,⟨p,m,c,rfl,hl,hm,hc,_,h5⟩,hall⟩:=h;have hz:∀x∈vs,x.toList.length=6:=λx hx=>by obtain⟨a,ha⟩:=hall.left x hx;rw[Array.length_toList];exact ha.size
 have hlen:=VV hz;have hv:=hall.length;have e:m=aa.length:=by omega
 subst e;refine⟨p,c,rfl,hm,hc,λh0=> ?_⟩;rcases h5 with h5|⟨b,o,rfl,_⟩
 ·rw[h5]at hl;simp at hl;omega
 ·exact⟨b,o,rfl⟩
theorem JX.cells{o m:Nat}{aa:List vE}(h:JX r (.slice (some ⟨b,o,none⟩) m c) aa){i:Nat}(hi:i<aa.length):∃nv pv,zfX r b (o+i*6) aa[i] nv pv:=by
 obtain⟨vs,⟨p,m',c',e,hl,hm,hc,_,h5⟩,hall⟩:=h;simp only[Value.slice.injEq]at e;obtain⟨rfl,rfl,rfl⟩:=e;have hz:∀x∈vs,x.toList.length=6:=λx hx=>by obtain⟨a,ha⟩:=hall.left x hx;rw[Array.length_toList];exact ha.size
 have hlen:=VV hz;have hv:=hall.length;have hiv:i<vs.length:=by omega
 obtain⟨nv,pv,e1,h1,h2⟩:=hall.get i hiv hi;injection e1 with e1
 rcases h5 with h5|⟨b',o',e,hcc⟩
 ·rw[h5]at hlen;simp at hlen;omega
 ·simp only[Option.some.injEq,Addr.mk.injEq,and_true]at e;obtain⟨rfl,rfl⟩:=e;have hcell:∀j x,(xH aa[i] nv pv).toList[j]? =some x->r ⟨b,o+i*6+j,none⟩=some x:=λj x hx=>by
   have h9:=GU hz i hiv j x (by rw[e1];exact hx);obtain⟨hlt,e9⟩:=List.getElem?_eq_some_iff.1 h9;rw[Nat.add_assoc,hcc _ hlt,e9]
  exact⟨nv,pv,hcell 0 _ rfl,hcell 1 _ rfl,hcell 2 _ rfl,hcell 3 _ rfl,hcell 4 _ rfl,hcell 5 _ rfl,h1,h2⟩
theorem JX.mono(hr:r.le r'){aa:List vE}(h:JX r v aa):JX r' v aa:=by obtain⟨vs,h1,h2⟩:=h;exact⟨vs,h1.mono hr,h2.mono λ_ _ hx=>hx.mono hr⟩
end Go.Proofs.YtbmdoinjkligiaaGreat
