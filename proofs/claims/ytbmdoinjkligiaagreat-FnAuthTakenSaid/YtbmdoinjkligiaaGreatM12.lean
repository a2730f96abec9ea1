/- Contracts and laws that the last text joins. -/
import Derived.Laws.OwnMore
import Derived.Lib.SlBytesConst
import Derived.Test.YtbmdoinjkligiaaGreatM07
import Derived.Test.YtbmdoinjkligiaaGreatM11
set_option maxRecDepth 100000
set_option maxHeartbeats 40000000
set_option linter.all false
namespace Go.Proofs.YtbmdoinjkligiaaGreat
open Tryz
open Lib(hid)
open Go.RowKit
structure jw(r:Rd)(b:Nat)(u:zm):Prop where
 name:∃v,r ⟨b,0,none⟩=some v/\Bs r u.name v
 perms:∃v ids,r ⟨b,1,none⟩=some v/\Sl r 1 (ids.map ptr) v/\qz (ju r) ids u.perms
variable{b:Nat}{r r':Rd}
theorem jw.mono{u:zm}(h:jw r b u)(hr:r.le r'):jw r' b u:=by obtain⟨⟨v,h1,h2⟩,y,ids,h5,h6,h7⟩:=h;exact⟨⟨v,hr _ _ h1,h2.mono hr⟩,y,ids,hr _ _ h5,h6.mono hr,qz.mono (λ_ _ h=>h.mono hr) h7⟩
structure kB(u:zm):Prop where
 name0:u.name≠[]
 name:u.name.length<=1000
 perms0:∀p∈u.perms,Jm p
 perms:u.perms.length<=100
variable{p:zh}
theorem XG(h:Jm p):p.enc≠[]:=by intro e;have:=Qm.1 e;unfold zh.flds fB at this;rw[if_neg h.key0]at this;simp at this
theorem xd(h:Jm p):p.enc.length<=3012:=by
 have h1:∀f∈p.flds,f.enc.length<=1004:=by
  intro f hf;unfold zh.flds fB at hf;simp only[List.mem_append]at hf;rcases hf with hf|hf|hf
  ·split at hf
   ·simp at hf
   ·rw[List.mem_singleton]at hf;rw[hf];have:=XE 1 p.kind;omega
  ·split at hf
   ·simp at hf
   ·rw[List.mem_singleton]at hf;rw[hf];have:=j4 2 p.key;have:=h.key;omega
  ·split at hf
   ·simp at hf
   ·rw[List.mem_singleton]at hf;rw[hf];have:=j4 3 p.stop;have:=h.stop;omega
 have h2:=Yw h1;have h3:p.flds.length<=3:=by
  unfold zh.flds fB;simp only[List.length_append];have e1:(if p.kind=0 then []else [jl.I 1 p.kind]).length<=1:=by split<;>simp
  have e2:(if p.key=[]then []else [jl.B 2 p.key]).length<=1:=by split<;>simp
  have e3:(if p.stop=[]then []else [jl.B 3 p.stop]).length<=1:=by split<;>simp
  omega
 have:=Nat.mul_le_mul_right 1004 h3;show(zV p.flds).length<=_;omega
theorem JG{fs:List jl}(h:∀f∈fs,f.enc.length<=3016):(zV fs).length<=fs.length*3016:=by
 induction fs with
 |nil=>simp[zV]
 |cons f fs ih=>rw[kV,List.length_append,List.length_cons];have h1:=h f (by simp);have h2:=ih λg hg=>h g (by simp[hg]);omega
theorem Ws{w:World}{u:zm}(h:jw w.cell? b u)(pV:kB u):
  Calls prog 220 #[ptr b] w λe w'=>∃v',e=.returned v'/\yS w w' v' u.enc:=by
 obtain⟨⟨nv,h0,rV⟩,rv,ids,h2,Py,He⟩:=h;obtain⟨nb,no,nn,nc,rfl,My,_⟩:=rV.at pV.name0;have oI:(0:Int)<nn:=by have:=List.length_pos_iff.2 pV.name0;omega
 obtain⟨rp,rn,rc,rfl⟩:=Py.shape;have Sz:=He.length;have pZ:rn=u.perms.length:=by have:=Py.addr.1;rw[<-Sz];simpa using this.symm
 subst pZ;have B9:=hid rV;have Rr:=hid Py;have Sk:=hid pV;have Hu:=hid He;have bW:Hid ((jl.B 1 u.name).enc.length<=1004):=hid (by have:=j4 1 u.name;have:=pV.name;omega);have ig:Hid (∀k,([]++(jl.B 1 u.name).enc++zV ((u.perms.take k).map λp:zh=>jl.B 2 p.enc)).length<=400000):=hid λk=>by
  have h1:=JG (fs:=(u.perms.take k).map λp:zh=>jl.B 2 p.enc) (by intro f hf;obtain⟨x,hx,rfl⟩:=List.mem_map.1 hf;have:=j4 2 x.enc;have:=xd (Sk.out.perms0 x (List.mem_of_mem_take hx));omega)
  have h2:=bW.out;have h3:=Sk.out.perms;rw[List.length_map,List.length_take]at h1;rw[List.length_append,List.nil_append];have:min k u.perms.length<=100:=by omega
  have:=Nat.mul_le_mul_right 3016 this;omega
 have pZ:(u.perms.length:Int)<=100:=by have:=pV.perms;omega
 clear rV Py pV He;go_enter func220,ntmps220;go_wp2_with fail;refine(jD (by decide) Sk.out.name0 (by have:=Sk.out.name;omega) (by simp) (yS.nil w) B9.out).mono ?_;rintro e w1 ⟨v1,rfl,f1⟩;obtain⟨p1,n1,c1,rfl⟩:=f1.own.shape;have F1:=hid f1;have HC:=hid h2;clear f1 h0 h2;go_wp2;go_loopw [3,4] (λv i wr=>∃k:Nat,k<=u.perms.length/\i=.int .i64 k/\yS w wr v ([]++(jl.B 1 u.name).enc++zV ((u.perms.take k).map λp:zh=>jl.B 2 p.enc))) (λ_ i _=>u.perms.length-(intOf i).toNat)
 case atStart=>exact⟨0,Nat.zero_le _,rfl,by simpa[zV]using F1.out⟩
 case round=>
  obtain⟨k,hk,rfl,hf⟩:=hrel;have g2:wr.cell? ⟨b,1,none⟩=some (.slice rp u.perms.length rc):=hf.new.le _ _ HC.out;obtain⟨qp,qn,qc,rfl⟩:=hf.own.shape;by_cases Hb:k<u.perms.length
  ·have AY:k<ids.length:=by omega
   have pE:k<(ids.map ptr).length:=by rw[List.length_map];exact AY
   obtain⟨ob,oo,rfl⟩:=Rr.out.addr.2 (by intro e;rw[e]at pE;simp at pE);have Hw:wr.cell? ⟨ob,oo+k,none⟩=some (ptr ids[k]):=by have:=hf.new.le _ _ (Rr.out.cellAt k pE);rw[this];simp
   have RG:=Hu.out.get k AY Hb;have N9:=Sk.out.perms0 _ (List.getElem_mem Hb);have tA:=hid (show(u.perms.take (k+1)).map (λp:zh=>jl.B 2 p.enc)=(u.perms.take k).map (λp:zh=>jl.B 2 p.enc)++[jl.B 2 (u.perms[k]).enc] by rw[List.take_succ_eq_append_getElem Hb,List.map_append];rfl);generalize u.perms[k]=x at RG N9 tA;generalize ids[k]=id at Hw RG;have Lw:(k:Int)<(u.perms.length:Int):=by omega
   have HP:=hid (Wq (RG.mono hf.new.le) N9);have lQ:=hid N9;have HF:=hid hf;clear hf RG N9;go_wp2_with fail;refine HP.out.mono ?_;rintro e w4 ⟨v4,rfl,f4⟩;have LM:=hid (QS (f:=2) (by decide) (XG lQ.out) (by have:=xd lQ.out;omega) (by have:=ig.out k;omega) (HF.out.more f4.new).own f4.own.bs (by intro q hq e;have:=HF.out.lt _ e;have:=f4.ge _ hq;omega));obtain⟨p4,n4,c4,rfl⟩:=f4.own.shape;have F4:=hid f4;clear f4;go_wp2_with fail;refine LM.out.mono ?_;rintro e w5 ⟨v5,rfl,g5,g6⟩;obtain⟨p5,n5,c5,rfl⟩:=g5.shape;have F5:=hid ((HF.out.more F4.out.new).grew g5 g6);clear g5 g6;go_wp2;go_roundw
   case rel=>exact⟨k+1,by omega,by go_num,by rw[tA.out,y8];have:=F5.out;simpa[zV]using this⟩
   case measure=>simp[intOf];omega
  ·have ph:k=u.perms.length:=by omega
   have HF:=hid hf;clear hf;go_wp2;go_returns;refine⟨_,rfl,?_⟩;have:=HF.out;rw[ph,List.take_length]at this;unfold zm.enc zm.flds fB;rw[if_neg Sk.out.name0,y8];simpa[zV]using this
theorem KU:yy prog 71 72 (.pointer none) 1 8:=⟨by kernel_rfl,by kernel_rfl,rfl,by decide⟩
inductive RF where
 |N(x:Bytes)
 |P(p:zh)
def RF.fld:RF->jl
 |.N x=>.B 1 x
 |.P p=>.B 2 p.enc
def RF.ok:RF->Prop
 |.N x=>x≠[]/\x.length<16384
 |.P p=>Jm p
def JH(u:Bytes×List zh):RF->Bytes×List zh
 |.N x=>(x,u.2)
 |.P p=>(u.1,u.2++[p])
theorem RF.fok{f:RF}(h:f.ok):uk f.fld:=by
 cases f with
 |N x=>exact⟨by decide,by decide,h.1,h.2⟩
 |P p=>exact⟨by decide,by decide,XG h,by have:=xd h;omega⟩
theorem Da(h:Jm p):(∀f∈p.flds,G7 f)/\p.flds.foldl Zh ⟨0,[],[]⟩=p:=by
 constructor
 ·intro f hf;unfold zh.flds fB at hf;simp only[List.mem_append]at hf;rcases hf with hf|hf|hf
  ·split at hf
   ·simp at hf
   ·rw[List.mem_singleton]at hf;rw[hf];exact⟨rfl,h.kind⟩
  ·split at hf
   ·simp at hf
   ·rw[List.mem_singleton]at hf;rw[hf];exact⟨Or.inl rfl,h.key0,by have:=h.key;omega⟩
  ·split at hf
   ·simp at hf
   ·rename_i hs;rw[List.mem_singleton]at hf;rw[hf];exact⟨Or.inr rfl,hs,by have:=h.stop;omega⟩
 ·obtain⟨k,a,s⟩:=p;have h0:a≠[]:=h.key0;unfold zh.flds fB;simp only;by_cases hk:k=0<;>by_cases hs:s=[]<;>simp[hk,hs,h0,Zh]
def vi(r:Rd)(w:World)(q:Nat)(p:zh):Prop:=∃kv ev,w.heap[q]? =some (.cells #[.int .i32 p.kind,kv,ev] 112 (0,0))/\Bs r p.key kv/\Bs r p.stop ev
variable{q:Nat}
theorem vi.at{w:World}(h:vi r w q p)(hr:r.le w.cell?):ju w.cell? q p:=by obtain⟨kv,ev,h1,h2,h3⟩:=h;obtain⟨c0,c1,c2,_⟩:=Um h1;exact⟨c0,⟨kv,c1,h2.mono hr⟩,ev,c2,h3.mono hr⟩
variable{w':World}
theorem vi.step{w:World}(h:vi r w q p)(hr:r.le r')(hq:w'.heap[q]? =w.heap[q]?):vi r' w' q p:=by obtain⟨kv,ev,h1,h2,h3⟩:=h;exact⟨kv,ev,hq.trans h1,h2.mono hr,h3.mono hr⟩
theorem vi.lt{w:World}(h:vi r w q p):q<w.heap.size:=by obtain⟨kv,ev,h1,_⟩:=h;exact(Array.getElem?_eq_some_iff.1 h1).1
def RB(n b:Nat)(rv:Value)(ids:List Nat)(X:Nat->Prop):Nat->Prop:=λj=>UB n b rv j\/j∈ids\/X j
structure Z3(X:Nat->Prop)(w w':World)(b:Nat)(u:Bytes×List zh)(nv rv:Value)(ids:List Nat):Prop where
 mod:zq (λj=>j=b) w w'
 row:w'.heap[b]? =some (.cells #[nv,rv] 226 (0,0))
 own:w'.ownsRow w.heap.size 72 1 rv u.2.length (ids.map ptr)
 name:Bs (im (RB w.heap.size b rv ids X) w') u.1 nv
 perms:qz (vi (im (RB w.heap.size b rv ids X) w') w') ids u.2
 nodup:ids.Nodup
 fresh:∀q∈ids,w.heap.size<=q/\rv.ownBlock≠some q
variable{α β:Type}
theorem qz.all{R R':α->β->Prop}{l:List α}{m:List β}(h:qz R l m)(hr:∀a∈l,∀b,R a b->R' a b):qz R' l m:=by
 induction h with
 |nil=>exact .nil
 |cons h1 _ ih=>exact .cons (hr _ (by simp) _ h1) (ih λa ha b hb=>hr a (by simp[ha]) b hb)
variable{S:Nat->Prop}
theorem zbc{w:World}{X:Nat->Prop}(hn:za w w')(hX:∀j,X j->w.heap.size<=j):(im S w).le (im (λj=>S j\/X j) w'):=λa y ha=>by
 obtain⟨h1,h2⟩:=zi.1 ha;refine zi.2 ⟨?_,hn.le _ _ h2⟩;rintro(e|e)
 ·exact h1 e
 ·have:=World.block_lt_of_cell? _ a h2;have:=hX _ e;omega
variable{nv:Value}{w1 w2:World}
theorem Z3.newX{w:World}{u:Bytes×List zh}{rv:Value}{ids:List Nat}{X:Nat->Prop}(h:Z3 (λ_=>False) w w1 b u nv rv ids)(hn:za w1 w2)(hX:∀j,X j->w1.heap.size<=j):Z3 X w w2 b u nv rv ids:=by
 have hY:(im (RB w.heap.size b rv ids λ_=>False) w1).le (im (RB w.heap.size b rv ids X) w2):=(zbc hn hX).le_trans (jn λj e=>by
  rcases e with e|e|e
  ·exact Or.inl (Or.inl e)
  ·exact Or.inl (Or.inr (Or.inl e))
  ·exact Or.inr e)
 exact⟨zq.trans h.mod hn λ_ _ e=>e.elim,hn.heap h.row,zS h.own (λb hb=>hn.block b (World.ownsRow.lt h.own b hb).2 (λe=>e)),h.name.mono hY,h.perms.all λq _ p hp=>hp.step hY (hn.block q hp.lt λe=>e),h.nodup,h.fresh⟩
theorem Z3.new{w:World}{u:Bytes×List zh}{rv:Value}{ids:List Nat}(h:Z3 (λ_=>False) w w1 b u nv rv ids)(hn:za w1 w2):Z3 (λ_=>False) w w2 b u nv rv ids:=h.newX hn λ_ e=>e.elim
theorem Z3.bne{X:Nat->Prop}{w:World}{u:Bytes×List zh}{rv:Value}{ids:List Nat}(h:Z3 X w w1 b u nv rv ids)(hb:b<w.heap.size):∀q,rv.ownBlock=some q->q≠b:=λq hq e=>by have:=(World.ownsRow.lt h.own q hq).1;omega
variable{xv:Value}
theorem Z3.set0{X:Nat->Prop}{w:World}{u:Bytes×List zh}{rv:Value}{ids:List Nat}(h:Z3 X w w1 b u nv rv ids)(hb:b<w.heap.size){x:Bytes}(hx:Bs (im (RB w.heap.size b rv ids X) w1) x xv):Z3 X w (w1.setCell ⟨b,0,none⟩ xv) b (x,u.2) xv rv ids:=by have hs:=kP (RB w.heap.size b rv ids X) w1 ⟨b,0,none⟩ (Or.inl (Or.inl (Or.inl rfl))) xv;exact⟨h.mod.setCell (λ_=>rfl) _,heap_setCell_same w1 b 0 _ _ _ h.row,j6 h.own (h.bne hb),hx.mono hs,h.perms.all λq hq p hp=>hp.step hs (Below.heap_setCell _ _ _ _ (show q≠b by have:=(h.fresh q hq).1;omega)),h.nodup,h.fresh⟩
theorem Z3.lt{w:World}{u:Bytes×List zh}{rv:Value}{ids:List Nat}(h:Z3 (λ_=>False) w w1 b u nv rv ids)(hb:b<w.heap.size):∀j,RB w.heap.size b rv ids (λ_=>False) j->j<w1.heap.size:=by
 rintro j ((e|e)|e|e)
 ·have:=h.mod.size;omega
 ·exact(World.ownsRow.lt h.own j e).2
 ·obtain⟨i,hi,rfl⟩:=List.mem_iff_getElem.1 e;exact(h.perms.get i hi (by rw[<-h.perms.length];exact hi)).lt
 ·exact e.elim
variable{v5:Value}{w5:World}
theorem Z3.app{w:World}{u:Bytes×List zh}{rv:Value}{ids:List Nat}{o:Obj}(h:Z3 (λj=>j=q) w w1 b u nv rv ids)(hb:b<w.heap.size)(hp:vi (im (RB w.heap.size b rv ids λj=>j=q) w1) w1 q p)(hq:q∉ids)(hqw:w.heap.size<=q)(B_:rv.ownBlock≠some q)
  (ho:w5.ownsRow 0 72 1 v5 (u.2.length+1) (ids.map ptr++[ptr q]))(hg:(w1.alloc o).grownBy w5 rv.ownBlock)(hf:∀q,v5.ownBlock=some q->rv.ownBlock=some q\/w1.heap.size+1<=q):
  w5.heap[b]? =some (.cells #[nv,rv] 226 (0,0))/\Z3 (λ_=>False) w (w5.setCell ⟨b,1,none⟩ v5) b (u.1,u.2++[p]) nv v5 (ids++[q]):=by
 have pL:(w1.alloc o).heap.size=w1.heap.size+1:=Array.size_push ..
 have hQ:za w1 (w1.alloc o):=(za.refl w1).alloc o;have P6:=zq.of_grown hg;have wR:zq (λj=>rv.ownBlock=some j) w1 w5:=zq.trans (hQ.mod _) P6 λ_ _ e=>e;have Pb:b<w1.heap.size:=Nat.lt_of_lt_of_le hb h.mod.size;have Ho:=h.bne hb;have hZ:w5.heap[b]? =some (.cells #[nv,rv] 226 (0,0)):=by rw[wR.block b Pb (λe=>Ho b e rfl)];exact h.row
 have hY:(im (RB w.heap.size b rv ids λj=>j=q) w1).le (im (RB w.heap.size b rv ids λj=>j=q) w5):=(wR.mono (S':=RB w.heap.size b rv ids λj=>j=q) λ_ _ e=>Or.inl (Or.inr e)).im λ_ _ e=>e;have S9:(im (RB w.heap.size b rv ids λj=>j=q) w1).le (im (RB w.heap.size b v5 (ids++[q]) λ_=>False) w5):=λa y ha=>by
  have h2:=zi.1 (hY _ _ ha);refine zi.2 ⟨λe=> ?_,h2.2⟩;rcases e with(e|e)|e|e
  ·exact h2.1 (Or.inl (Or.inl e))
  ·rcases hf _ e with e2|e2
   ·exact h2.1 (Or.inl (Or.inr e2))
   ·have:=World.block_lt_of_cell? _ a (zi.1 ha).2;omega
  ·rcases List.mem_append.1 e with e|e
   ·exact h2.1 (Or.inr (Or.inl e))
   ·exact h2.1 (Or.inr (Or.inr (List.mem_singleton.1 e)))
  ·exact e
 have hs:=kP (RB w.heap.size b v5 (ids++[q]) λ_=>False) w5 ⟨b,1,none⟩ (Or.inl (Or.inl (Or.inl rfl))) v5;have SU:∀q,v5.ownBlock=some q->w.heap.size<=q:=λq hq=>by
  rcases hf q hq with e|e
  ·exact(World.ownsRow.lt h.own q e).1
  ·have:=h.mod.size;omega
 have MO:=hp.lt;have sT:∀c x,vi (im (RB w.heap.size b rv ids λj=>j=q) w1) w1 c x->rv.ownBlock≠some c->w.heap.size<=c->vi (im (RB w.heap.size b v5 (ids++[q]) λ_=>False) (w5.setCell ⟨b,1,none⟩ v5)) (w5.setCell ⟨b,1,none⟩ v5) c x:=λc x hx hc hcw=>
  (hx.step S9 (wR.block c hx.lt hc)).step hs (Below.heap_setCell _ _ _ _ (show c≠b by omega))
 refine⟨hZ,(zq.trans h.mod wR λj hj e=>by have:=(World.ownsRow.lt h.own j e).1;omega).setCell (λ_=>rfl) _,heap_setCell_same w5 b 1 _ _ _ hZ,?_,(h.name.mono S9).mono hs,?_,?_,?_⟩
 ·have:=j6 (b:=b) (i:=1) (u:=v5) (vB (base:=w.heap.size) ho SU) (λq hq e=>by have:=SU q hq;omega);simpa using this
 ·exact(h.perms.all λc hc x hx=>sT c x hx (h.fresh c hc).2 (h.fresh c hc).1).append (.cons (sT q p hp B_ hqw) .nil)
 ·exact List.nodup_append.2 ⟨h.nodup,by simp,by intro x hx y hy e;rw[List.mem_singleton]at hy;subst hy;subst e;exact hq hx⟩
 ·intro c hc;rcases List.mem_append.1 hc with hc|hc
  ·refine⟨(h.fresh c hc).1,λe=> ?_⟩;rcases hf c e with e2|e2
   ·exact(h.fresh c hc).2 e2
   ·obtain⟨i,hi,rfl⟩:=List.mem_iff_getElem.1 hc;have:=(h.perms.get i hi (by rw[<-h.perms.length];exact hi)).lt;omega
  ·rw[List.mem_singleton]at hc;subst hc;refine⟨hqw,λe=> ?_⟩;rcases hf c e with e2|e2
   ·exact B_ e2
   ·omega
theorem qS{w:World}{T:Nat}{x y:Value}(h:w.heap[b]? =some (.cells #[x,y] T (0,0))):
  w.cell? ⟨b,0,none⟩=some x/\w.cell? ⟨b,1,none⟩=some y/\w.frozen? ⟨b,0,none⟩=false/\w.frozen? ⟨b,1,none⟩=false:=
 ⟨by rw[cell_of_row w b 0 _ _ (0,0) h];rfl,by rw[cell_of_row w b 1 _ _ (0,0) h];rfl,by simp[World.frozen?,h],by simp[World.frozen?,h]⟩
theorem XF.in{w:World}(h:XF w w' q p)(hS:∀j,S j->j<w.heap.size):vi (im S w') w' q p:=by obtain⟨_,kv,ev,hZ,hk,he,hf⟩:=h;exact⟨kv,ev,hZ,(hk.mono (zd _ _)).im_of λj hj e=>by have:=hf j (Or.inl hj);have:=hS j e;omega,(he.mono (zd _ _)).im_of λj hj e=>by have:=hf j (Or.inr hj);have:=hS j e;omega⟩
theorem gB:∀u∈[ptr q],u.oneCell'=true:=by intro u hu;rw[List.mem_singleton]at hu;rw[hu];rfl
theorem Wt{w:World}:XF (w.alloc (.cells #[.int .i32 0,.slice none 0 0,.slice none 0 0] 112)) (w.alloc (.cells #[.int .i32 0,.slice none 0 0,.slice none 0 0] 112)) w.heap.size ⟨0,[],[]⟩:=
 ⟨zq.refl _ _,_,_,zg w _,Bs.nil _,Bs.nil _,λj e=>by rcases e with e|e<;>cases e⟩
variable{v:Value}
theorem Db{w:World}{nv0 rv0:Value}{ids0:List Nat}{u0:Bytes×List zh}{fs:List RF}(h0:Z3 (λ_=>False) w w b u0 nv0 rv0 ids0)(hb:b<w.heap.size)(hr:r.le (im (λj=>j=b) w))(lM:∀f∈fs,RF.ok f)(h_:u0.2.length+fs.length<=1000)(hv:Bs r (zV (fs.map RF.fld)) v):
  Calls prog 311 #[ptr b,v] w λe w'=>e=.returned (.bool true)/\∃nv rv ids,Z3 (λ_=>False) w w' b (fs.foldl JH u0) nv rv ids:=by
 obtain⟨vp,vn,vc,rfl,_⟩:=hv.shape;have HR:=hid hr;clear hr;have H0:=hid h0;clear h0;have HV:=hid hv;clear hv;go_enter func311,ntmps311;go_wp2;go_loopg [1] (fs.length+1) (λgg zv wr=>∃(rest:List RF) (u1:Bytes×List zh) (nv rv:Value) (ids:List Nat),Bs r (zV (rest.map RF.fld)) zv/\(∀f∈rest,RF.ok f)/\Z3 (λ_=>False) w wr b u1 nv rv ids/\rest.foldl JH u1=fs.foldl JH u0/\rest.length<gg/\u1.2.length+rest.length<=1000)
 case atStart=>exact⟨fs,u0,_,_,_,HV.out,lM,H0.out,rfl,by omega,h_⟩
 case round=>
  obtain⟨rest,u1,nv,rv,ids,Rx,Pw,nG,rf,lO,AX⟩:=hrel;cases rest with
  |nil=>obtain⟨zp,zn,zc,rfl,TQ⟩:=Rx.shape;have hz:zn=0:=TQ.symm;subst hz;have Nh:=hid nG;have HF:=hid rf;clear nG rf Pw lM;go_wp2;go_returns;exact⟨rfl,nv,rv,ids,by have:=Nh.out;rw[show u1=fs.foldl JH u0 from HF.out]at this;exact this⟩
  |cons f rest=>
   have hP:=Pw f (by simp);have nH:∀g∈rest,RF.ok g:=λg hg=>Pw g (by simp[hg]);rw[List.map_cons,kV]at Rx;have HT:=hid (KT (w:=wr) (HR.out.le_trans ((nG.mod.im λ_ _ e=>e).le_trans (zd (λj=>j=b) wr))) (RF.fok hP) Rx);obtain⟨zp,zn,zc,rfl,TQ⟩:=Rx.shape;have hz:(0:Int)<zn:=by have:=Ks f.fld;rw[<-TQ,List.length_append];omega
   have Nh:=hid nG;have HF:=hid rf;have Rl:=hid nH;have HP:=hid hP;have Ck:=hid (show u1.2.length+rest.length+1<=1000 by simpa[Nat.add_assoc]using AX);clear nG rf Pw lM nH hP Rx TQ AX;go_wp2_with fail;refine HT.out.mono ?_;rintro e w1 ⟨u,v1,rfl,hQ,g1,g2⟩;obtain⟨a,bb,d,px,nx,cx,rfl⟩:=g2.shape;obtain⟨p5,n5,c5,rfl,_⟩:=g1.shape;have G1:=hid g1;have PT1:=hid (Nh.out.new hQ);have oL:wr.heap.size<=w1.heap.size:=hQ.size;clear g1 hQ;go_upto_region 6 with fail
   obtain⟨W,hW⟩:=zex (w1.alloc (.cells #[.int .i64 a,.bool bb,.int .i64 d,.slice px nx cx] 488));rw[<-hW];have Pz:za w1 W:=by rw[hW];exact(za.refl w1).alloc _
   have sK:W.heap[w1.heap.size]? =some (.cells #[.int .i64 a,.bool bb,.int .i64 d,.slice px nx cx] 488 (0,0)):=by rw[hW];exact zg w1 _
   obtain⟨z0,z1,z2,z3,_⟩:=kX sK;have PTW:=hid (PT1.out.new Pz);have hZ:=PTW.out.row;obtain⟨x0,x1,y0,y1⟩:=qS hZ;have GW:=hid (g2.mono (Nat.le_refl _) Pz);clear hW Pz hZ g2 PT1;cases f with
   |N x=>
    obtain⟨rfl,rfl,rfl,SS,sF⟩:=Yv.B (k:=1) (x:=x) GW.out;have ST:Bs (im (RB w.heap.size b rv ids λ_=>False) W) x (.slice px nx cx):=SS.im_of λj hj e=>by have h1:=sF j hj;have h2:=Nh.out.lt hb j e;omega
    have B8:=hid ST;clear SS sF ST sK;go_wp2_with fail;go_roundg (gk-1)
    case rel=>exact⟨rest,_,_,_,_,G1.out,Rl.out,PTW.out.set0 hb B8.out,HF.out,by simp at lO;omega,by have:=Ck.out;simp only;omega⟩
    case measure=>simp at lO;omega
   |P p=>
    obtain⟨rfl,rfl,rfl,SS,sF⟩:=Yv.B (k:=2) (x:=p.enc) GW.out;have cG:=Da HP.out;have bZ:=hid (G8 (w:=W.alloc (.cells #[.int .i32 0,.slice none 0 0,.slice none 0 0] 112)) (r:=W.cell?) (p0:=⟨0,[],[]⟩) (fs:=p.flds) (v:=.slice px nx cx) Wt (by simp) (λa y ha=>zi.2 ⟨λe=>by have:=World.block_lt_of_cell? _ a ha;have e:a.block=W.heap.size:=e;omega,(za.le ((za.refl W).alloc _)) _ _ ha⟩) cG.1 SS);have Ii:=hid cG.2;have z3':∀o,(W.alloc o).cell? ⟨w1.heap.size,3,none⟩=some (.slice px nx cx):=λo=>(za.le ((za.refl W).alloc o)) _ _ z3;clear SS sF sK cG;go_wp2_with fail;refine bZ.out.mono ?_;rintro e w4 ⟨rfl,wS⟩;rw[Ii.out]at wS;have Rh:za W w4:=zq.trans ((za.refl W).alloc _) wS.1 (λj hj e=>by omega);have PT4:=hid (PTW.out.newX (X:=λj=>j=W.heap.size) Rh (λj e=>Nat.le_of_eq e.symm));have RG:=wS.in (S:=RB w.heap.size b rv ids λj=>j=W.heap.size) (λj e=>by
     have h1:(W.alloc (.cells #[.int .i32 0,.slice none 0 0,.slice none 0 0] 112)).heap.size=W.heap.size+1:=Array.size_push ..
     rcases e with e|e|e
     ·have:=PTW.out.lt hb j (Or.inl e);omega
     ·have:=PTW.out.lt hb j (Or.inr (Or.inl e));omega
     ·omega)
    have HQ:=hid (show W.heap.size∉ids/\w.heap.size<=W.heap.size/\rv.ownBlock≠some W.heap.size from⟨λe=>Nat.lt_irrefl _ (PTW.out.lt hb _ (Or.inr (Or.inl e))),PTW.out.mod.size,λe=>Nat.lt_irrefl _ (PTW.out.lt hb _ (Or.inl (Or.inr e)))⟩);have ae:=hid RG;obtain⟨sp,sn,sc,rfl⟩:=(Sl.of_own PTW.out.own).shape;obtain⟨_,k1,_,l1⟩:=qS PT4.out.row;have mw:((ids.map ptr).length+[ptr W.heap.size].length)*(8+1)<=140737488355328:=by have h1:=PT4.out.own.1;have h2:=Ck.out;rw[h1,List.length_singleton];omega
    have SR:=hid mw;clear wS Rh RG mw x0 x1 y0 y1 z0 z1 z2 z3 z3';go_wp2_with (at_builtin;go_must (refine qM KU rfl rfl (World.ownsRow.alloc (qJ PT4.out.own 0 (Nat.zero_le _)) _) rfl rfl (news:=[ptr W.heap.size]) (Sl.made w4 [ptr W.heap.size] _ 1 1 rfl (by omega)) gB SR.out ?_));intro v5 w5 ho hg PU;obtain⟨p7,n7,c7,rfl⟩:=(Sl.of_own ho).shape;obtain⟨pe,nI⟩:=PT4.out.app hb ae.out HQ.out.1 HQ.out.2.1 HQ.out.2.2 ho hg PU;obtain⟨_,x2',_,y2'⟩:=qS pe;have tI:=hid nI;clear ho hg PU pe nI;go_wp2;go_roundg (gk-1)
    case rel=>exact⟨rest,_,_,_,_,G1.out,Rl.out,tI.out,HF.out,by simp at lO;omega,by have:=Ck.out;simp;omega⟩
    case measure=>simp at lO;omega
theorem Z3.at{w:World}{n:Bytes}{ps:List zh}{rv:Value}{ids:List Nat}(h:Z3 (λ_=>False) w w' b (n,ps) nv rv ids)(hS:∀j,S j->j<w.heap.size/\j≠b):jw (im S w') b ⟨n,ps⟩:=by
 obtain⟨x0,x1,_⟩:=qS h.row;have hb: ¬S b:=λe=>(hS b e).2 rfl;have hY:(im (RB w.heap.size b rv ids λ_=>False) w').le (im S w'):=jn λj e=>Or.inl (Or.inl (Or.inr (hS j e).1));refine⟨⟨nv,zi.2 ⟨hb,x0⟩,h.name.mono hY⟩,rv,ids,zi.2 ⟨hb,x1⟩,?_,?_⟩
 ·obtain⟨p,m,c,rfl,hl,hm,hc,hp,H_⟩:=Sl.of_own h.own;refine⟨p,m,c,rfl,hl,hm,hc,hp,?_⟩;rcases H_ with e|⟨g,o',rfl,Hc⟩
  ·exact Or.inl e
  ·refine Or.inr ⟨g,o',rfl,λi hi=>zi.2 ⟨λe=> ?_,Hc i hi⟩⟩;have h3:=(World.ownsRow.lt h.own g rfl).1;have:=(hS g e).1;omega
 ·refine h.perms.all λq hq p hp=> ?_;obtain⟨kv,ev,h1,h2,h3⟩:=hp;obtain⟨c0,c1,c2,_⟩:=Um h1;have pY: ¬S q:=λe=>by have:=(hS q e).1;have:=(h.fresh q hq).1;omega
  exact⟨zi.2 ⟨pY,c0⟩,⟨kv,zi.2 ⟨pY,c1⟩,h2.mono hY⟩,ev,zi.2 ⟨pY,c2⟩,h3.mono hY⟩
variable{u:zj}
theorem Dc(h:jv u):(∀f∈u.flds,G9 f)/\u.flds.foldl YL ([],[],false)=(u.name,u.roles,true):=by
 constructor
 ·intro f hf;unfold zj.flds fB at hf;rw[if_neg h.name0]at hf;simp only[List.mem_append,List.mem_singleton,List.mem_map]at hf;rcases hf with rfl|⟨x,hx,rfl⟩|rfl
  ·exact⟨Or.inl rfl,h.name0,by have:=h.name;omega⟩
  ·exact⟨Or.inr (Or.inl rfl),(h.roles0 x hx).1,by have:=(h.roles0 x hx).2;omega⟩
  ·exact⟨Or.inr (Or.inr rfl),by simp,by simp⟩
 ·have key:∀(l:List Bytes) (n:Bytes) (a:List Bytes),(l.map (jl.B 3)).foldl YL (n,a,false)=(n,a++l,false):=by
   intro l
   induction l with
   |nil=>intro n a;simp
   |cons x l ih=>intro n a;rw[List.map_cons,List.foldl_cons,show YL (n,a,false) (jl.B 3 x)=(n,a++[x],false)from rfl,ih];simp
  unfold zj.flds fB;rw[if_neg h.name0,List.foldl_append,List.foldl_append];show([jl.B 4 [8,1]]).foldl YL ((u.roles.map (jl.B 3)).foldl YL (u.name,[],false))=_;rw[key];rfl
theorem Yf(u:zj):u.flds.length<=u.roles.length+2:=by unfold zj.flds fB;split<;>simp
def zm.rfs(r:zm):List RF:=.N r.name::r.perms.map .P
theorem Dd{u:zm}(h:kB u):u.enc=zV (u.rfs.map RF.fld)/\(∀f∈u.rfs,RF.ok f)/\u.rfs.foldl JH ([],[])=(u.name,u.perms):=by
 refine⟨?_,?_,?_⟩
 ·unfold zm.enc zm.flds fB zm.rfs;rw[if_neg h.name0,List.map_cons,List.map_map];rfl
 ·intro f hf;unfold zm.rfs at hf;rcases List.mem_cons.1 hf with rfl|hf
  ·exact⟨h.name0,by have:=h.name;omega⟩
  ·obtain⟨p,hp,rfl⟩:=List.mem_map.1 hf;exact h.perms0 p hp
 ·have key:∀(l:List zh) (n:Bytes) (a:List zh),(l.map RF.P).foldl JH (n,a)=(n,a++l):=by
   intro l
   induction l with
   |nil=>intro n a;simp
   |cons x l ih=>intro n a;simp only[List.map_cons,List.foldl_cons,JH];rw[ih];simp
  unfold zm.rfs;rw[List.foldl_cons];show(u.perms.map RF.P).foldl JH (u.name,[])=_;rw[key];simp
theorem gC{w:World}(h:y9 w.cell? b u)(pV:jv u):
  Calls prog 278 #[.iface 216 (ptr b)] w λe w'=>∃v',e=.returned (.tuple #[v',.nilIface])/\yS w w' v' u.enc:=by
 have H:=hid (Wr h pV);clear h pV;go_enter func278,ntmps278;go_wp2_with fail;refine H.out.mono ?_;rintro e w1 ⟨v1,rfl,f1⟩;obtain⟨p1,n1,c1,rfl⟩:=f1.own.shape;have F1:=hid f1;clear f1 H;go_wp2;go_returns;exact⟨_,rfl,F1.out⟩
theorem gD{w:World}{u:zm}(h:jw w.cell? b u)(pV:kB u):
  Calls prog 278 #[.iface 223 (ptr b)] w λe w'=>∃v',e=.returned (.tuple #[v',.nilIface])/\yS w w' v' u.enc:=by
 have H:=hid (Ws h pV);clear h pV;go_enter func278,ntmps278;go_wp2_with fail;refine H.out.mono ?_;rintro e w1 ⟨v1,rfl,f1⟩;obtain⟨p1,n1,c1,rfl⟩:=f1.own.shape;have F1:=hid f1;clear f1 H;go_wp2;go_returns;exact⟨_,rfl,F1.out⟩
def JI:Obj:=.cells #[.slice none 0 0,.slice none 0 0,.slice none 0 0,.pointer none] 222 (0,0)
def JJ:Obj:=.cells #[.slice none 0 0,.slice none 0 0] 226 (0,0)
theorem Wu{w:World}(h:w.heap[b]? =some JI):Ye w w b ([],[],false) (.slice none 0 0) (.slice none 0 0) (.pointer none):=
 ⟨zq.refl _ _,h,World.ownsRow_nil _ _ _ _,Bs.nil _,rfl⟩
theorem Wv{w:World}(h:w.heap[b]? =some JJ):Z3 (λ_=>False) w w b ([],[]) (.slice none 0 0) (.slice none 0 0) []:=
 ⟨zq.refl _ _,h,World.ownsRow_nil _ _ _ _,Bs.nil _,.nil,List.nodup_nil,λ_ h=>by cases h⟩
theorem Qo{w:World}(h0:w.heap[b]? =some JI)(hr:r.le (im (λj=>j=b) w))(pV:jv u)(hv:Bs r u.enc v):
  Calls prog 284 #[v,.iface 216 (ptr b)] w λe w'=>e=.returned .nilIface/\∃nv rv ov,Ye w w' b (u.name,u.roles,true) nv rv ov:=by
 have hb:b<w.heap.size:=(Array.getElem?_eq_some_iff.1 h0).1;have hf:=Dc pV;have H:=hid (G_ (Wu h0) hb hr hf.1 (by have:=Yf u;have:=pV.roles;simp;omega) hv);rw[hf.2]at H;obtain⟨p,n,c,rfl,_⟩:=hv.shape;clear h0 hr pV hv hb hf;go_enter func284,ntmps284;go_wp2_with fail;refine H.out.mono ?_;rintro e w1 ⟨rfl,h1⟩;have H1:=hid h1;clear h1 H;go_wp2;go_returns;exact⟨rfl,H1.out⟩
theorem Qp{w:World}{u:zm}(h0:w.heap[b]? =some JJ)(hr:r.le (im (λj=>j=b) w))(pV:kB u)(hv:Bs r u.enc v):
  Calls prog 284 #[v,.iface 223 (ptr b)] w λe w'=>e=.returned .nilIface/\∃nv rv ids,Z3 (λ_=>False) w w' b (u.name,u.perms) nv rv ids:=by
 have hb:b<w.heap.size:=(Array.getElem?_eq_some_iff.1 h0).1;have hf:=Dd pV;rw[hf.1]at hv;have H:=hid (Db (Wv h0) hb hr hf.2.1 (by have:=pV.perms;simp[zm.rfs];omega) hv);rw[hf.2.2]at H;obtain⟨p,n,c,rfl,_⟩:=hv.shape;clear h0 hr pV hv hb hf;go_enter func284,ntmps284;go_wp2_with fail;refine H.out.mono ?_;rintro e w1 ⟨rfl,h1⟩;have H1:=hid h1;clear h1 H;go_wp2;go_returns;exact⟨rfl,H1.out⟩
variable{it:Nat}
theorem Un{w:World}{s:Nat}{c:Array Value}{T:TypeId}(hs:w.heap[s]? =some (.cells c T (0,0)))(hi:w.heap[it]? =some (.cells #[ptr s,.int .i64 0,ptr s] 282 (0,0)))(Ho:s≠it):q7 r w (λj=>j=s\/j=it) s it []where
 ex:=⟨λ_=>zcr,s,.nil,0,λi hi=>by simp[Tr.ids]at hi,hi,λi hi=>by simp[Tr.ids]at hi,⟨rfl,trivial,⟨rfl,rfl⟩,trivial,by simp[Tr.ids,zC],by simp[Tr.ids,zC]⟩,λh=>absurd rfl h,⟨by simp[vf,zK,Tr.ids],by simp[zK,Tr.ids]⟩,by simp[zK,Tr.ids],λi hi=>by simp[Tr.ids]at hi,by simp[Tr.ids]⟩
 cs:=⟨_,_,hs⟩
 fs:=Or.inl rfl
 fi:=Or.inr rfl
 ne:=Ho
theorem uo{w:World}:
  Calls prog 64 #[] w λe w'=>∃s it,e=.returned (.iface 280 (ptr it))/\za w w'/\w.heap.size<=s/\w.heap.size<=it/\s<w'.heap.size/\it<w'.heap.size/\q7 r w' (λj=>j=s\/j=it) s it []:=by
 go_enter func64,ntmps64;go_wp2;go_returns;have h1:za w (w.alloc (.cells #[.nilIface,.nilIface,.nilIface,.nilIface,.pointer none,.pointer none,.pointer none,.int .i64 0] 279)):=(za.refl w).alloc _;have pI:(w.alloc (.cells #[.nilIface,.nilIface,.nilIface,.nilIface,.pointer none,.pointer none,.pointer none,.int .i64 0] 279)).heap.size=w.heap.size+1:=Array.size_push ..
 have Pv:=zg w (.cells #[.nilIface,.nilIface,.nilIface,.nilIface,.pointer none,.pointer none,.pointer none,.int .i64 0] 279);generalize w.alloc (.cells #[.nilIface,.nilIface,.nilIface,.nilIface,.pointer none,.pointer none,.pointer none,.int .i64 0] 279)=w1 at h1 pI Pv⊢;have h2:za w1 (w1.alloc (.cells #[ptr w.heap.size,.int .i64 0,ptr w.heap.size] 282)):=(za.refl w1).alloc _;have ry:=zg w1 (.cells #[ptr w.heap.size,.int .i64 0,ptr w.heap.size] 282);have rj:(w1.alloc (.cells #[ptr w.heap.size,.int .i64 0,ptr w.heap.size] 282)).heap.size=w1.heap.size+1:=Array.size_push ..
 have e1:=Nat.le_of_eq rj.symm;rw[pI]at e1;rw[pI]at ry;exact⟨w.heap.size,w.heap.size+1,rfl,h1.trans h2,Nat.le_refl _,by omega,Nat.lt_of_lt_of_le (by omega) e1,Nat.lt_of_lt_of_le (by omega) e1,Un (h2.heap Pv) ry (by omega)⟩
variable{c n:Nat}
theorem xe{w:World}{p q:Option Addr}{m d:Nat}:
  Calls prog 65 #[.slice p n c,.slice q m d] w λe w'=>e=.returned (.agg #[.iface 283 (.slice p n c),.iface 283 (.slice q m d)])/\za w w':=by
 go_enter func65,ntmps65;go_wp2;obtain⟨w1,Hh⟩:=zex (w.alloc (.cells #[.iface 283 (.slice p n c),.iface 283 (.slice q m d)] 230));rw[<-Hh];have hn:za w w1:=by rw[Hh];exact(za.refl w).alloc _
 have Pv:w1.heap[w.heap.size]? =some (.cells #[.iface 283 (.slice p n c),.iface 283 (.slice q m d)] 230 (0,0)):=by rw[Hh];exact zg w _
 obtain⟨r0,r1,_⟩:=qS Pv;refine bodyPost_ret (by simp[results,results65,go_sem,r0,r1];try rfl) rfl ?_;exact⟨rfl,hn⟩
theorem Ww{w:World}{T:Nat}{l:Bytes}(h:w.heap[b]? =some (.cells (l.map ql).toArray T (0,0)))(hl:l.length=n)(hn:n<=9223372036854775807):Bs w.cell? l (.slice (some ⟨b,0,none⟩) n n):=by refine Bs.of_sl ⟨_,_,_,rfl,by simp[hl],Nat.le_refl _,hn,(λh=>by cases h),Or.inr ⟨_,_,rfl,λi hi=> ?_⟩⟩;rw[cell_of_row w _ _ _ _ (0,0) h,Nat.zero_add,List.getElem?_toArray,List.getElem?_eq_getElem hi]
theorem KV(w:World)(n:Nat)(hn:n<=1000001):(Instr.makeSlice 75 (.int .i64 n) (.int .i64 n)).run prog w=.ok (.slice (some ⟨w.heap.size,0,none⟩) n n) (w.alloc (.cells (List.replicate n (Value.int .u8 0)).toArray 5)):=by
 obtain⟨i,hi,hz,pL,TF⟩:=info_parts jA.info;have h:=run_make (P:=prog) w 75 5 i _ jA.under hi hz .i64 .i64 n n (by omega) (by omega) (by rw[TF];omega) (by omega);rw[pL]at h;have e:madeCells (Value.int .u8 0).cells (n*1)=(List.replicate n (Value.int .u8 0)).toArray:=by rw[Nat.mul_one];apply Array.toList_inj.1;show(madeCells #[Value.int .u8 0] n).toList=_;rw[toList_madeCells_one]
 simp only[Int.toNat_natCast]at h;rw[h,e]
theorem XH{w:World}{l:Bytes}(h:Bs w.cell? l v)(hl:l.length<=1000000):
  Calls prog 66 #[v] w λe w'=>∃u,e=.returned (.agg #[.iface 283 v,.iface 283 u])/\za w w'/\Bs w'.cell? (l++[0]) u/\∀j,u.ownBlock=some j->w.heap.size<=j:=by
 obtain⟨p,n,c,rfl,hn⟩:=h.shape;have H:=hid h;have Sr:=KV (w.alloc (.cells #[.nilIface,.nilIface] 230)) (n+1) (by omega);rw[show((n+1:Nat):Int)=(n:Int)+1 by omega]at Sr;have St:(w.alloc (.cells #[.nilIface,.nilIface] 230)).heap.size=w.heap.size+1:=Array.size_push ..
 rw[St]at Sr;obtain⟨W1,PW⟩:=zex ((w.alloc (.cells #[.nilIface,.nilIface] 230)).alloc (.cells (List.replicate (n+1) (Value.int .u8 0)).toArray 5));rw[<-PW]at Sr;have AZ:za w W1:=by rw[PW];exact((za.refl w).alloc _).alloc _
 have R8:W1.heap[w.heap.size]? =some (.cells #[.nilIface,.nilIface] 230 (0,0)):=by rw[PW];exact za.heap ((za.refl _).alloc _) (zg w _)
 have Ps:W1.heap[w.heap.size+1]? =some (.cells (List.replicate (n+1) (Value.int .u8 0)).toArray 5 (0,0)):=by rw[PW,<-St];exact zg _ _
 have hD:Sl W1.cell? 1 (List.replicate (n+1) (Value.int .u8 0)) (.slice (some ⟨w.heap.size+1,0,none⟩) (n+1) (n+1)):=by rw[PW,<-St];exact Sl.made _ _ _ 1 (n+1) (by simp) (by omega)
 have HD:=hid hD;have wP:=hid R8;have tD:=hid Ps;have Hs:=hid AZ;have Pr:=hid PW;clear hD R8 Ps AZ PW St;have oN:Hid (0+min (l.map ql).length (List.replicate (n+1) (Value.int .u8 0)).length<=(List.replicate (n+1) (Value.int .u8 0)).length):=hid (by rw[List.length_replicate];omega);go_enter func66,ntmps66;go_wp2_with (refine Xp jA rfl rfl rfl rfl HD.out (Bs.sl (H.out.mono (za.le Hs.out))) (jF l) (cur:=List.replicate (n+1) (Value.int .u8 0)) tD.out (λ_=>⟨_,_,rfl⟩) oN.out ?_);intro w7 A2 rk;have Pq:w7.heap[w.heap.size+1]? =some (.cells ((l++[0]).map ql).toArray 5 (0,0)):=by
  rw[A2.out];have e1:(l.map ql).take (n+1)=l.map ql:=List.take_of_length_le (by simp;omega);rw[e1];unfold splice;rw[List.take_zero,List.nil_append,List.length_map,hn,Nat.zero_add,List.drop_replicate,List.map_append];have e2:n+1-n=1:=by omega
  rw[e2];rfl
 have hn7:w7.heap[w.heap.size]? =some (.cells #[.nilIface,.nilIface] 230 (0,0)):=by rw[rk.block _ ((Array.getElem?_eq_some_iff.1 wP.out).1) (by omega)];exact wP.out
 have wT:w7.cell? ⟨w.heap.size+1,n,none⟩=some (.int .u8 0):=by rw[cell_of_row w7 _ n _ _ (0,0) Pq];simp[<-hn]
 have oO:w7.frozen? ⟨w.heap.size+1,n,none⟩=false:=by simp[World.frozen?,Pq]
 have lR:(w7.setCell ⟨w.heap.size+1,n,none⟩ (.int .u8 0)).heap[w.heap.size+1]? =some (.cells ((l++[0]).map ql).toArray 5 (0,0)):=by
  rw[heap_setCell_same w7 _ n _ _ _ Pq];have e3:((l++[0]).map ql).toArray.setIfInBounds n (Value.int .u8 0)=((l++[0]).map ql).toArray:=by apply Array.toList_inj.1;simp[<-hn]
  rw[e3]
 have r9:(w7.setCell ⟨w.heap.size+1,n,none⟩ (.int .u8 0)).heap[w.heap.size]? =some (.cells #[.nilIface,.nilIface] 230 (0,0)):=by rw[Below.heap_setCell _ _ _ _ (by simp)];exact hn7
 have hN8:za w (w7.setCell ⟨w.heap.size+1,n,none⟩ (.int .u8 0)):=zq.setCell (zq.trans Hs.out rk λj hj e=>by omega) (λh=>by simp only at h;omega) _;have A3:=hid lR;have HN8:=hid hN8;have oP:=hid r9;clear lR hN8 r9 A2 rk Pq hn7;obtain⟨w8,lL⟩:=zex (w7.setCell ⟨w.heap.size+1,n,none⟩ (.int .u8 0));rw[<-lL]at A3 HN8 oP;have af:=hid lL;clear lL;go_wp2_with fail;rw[<-af.out];refine xe.mono ?_;rintro e w9 ⟨rfl,R0⟩;obtain⟨r0,r1,f0,f1⟩:=qS (R0.heap oP.out);have wU:=hid R0;have HR9:=hid (R0.heap oP.out);clear R0;go_wp2_with fail;obtain⟨w6,Sc⟩:=zex ((w9.setCell ⟨w.heap.size,0,none⟩ (.iface 283 (.slice p n c))).setCell ⟨w.heap.size,1,none⟩ (.iface 283 (.slice (some ⟨w.heap.size+1,0,none⟩) (n+1) (n+1))));rw[<-Sc];have hr6:w6.heap[w.heap.size]? =some (.cells #[.iface 283 (.slice p n c),.iface 283 (.slice (some ⟨w.heap.size+1,0,none⟩) (n+1) (n+1))] 230 (0,0)):=by
  rw[Sc];exact heap_setCell_same _ _ 1 _ _ _ (heap_setCell_same _ _ 0 _ _ _ HR9.out)
 have PP:zq (λj=>j=w.heap.size) w9 w6:=by rw[Sc];exact((zq.refl (λj=>j=w.heap.size) w9).setCell (p:=⟨w.heap.size,0,none⟩) (λ_=>rfl) _).setCell (p:=⟨w.heap.size,1,none⟩) (λ_=>rfl) _
 obtain⟨k0,k1,_⟩:=qS hr6;refine bodyPost_ret (by simp[results,results66,go_sem,k0,k1];try rfl) rfl ?_;have R0:za w w9:=za.trans HN8.out wU.out;have aJ:w6.heap[w.heap.size+1]? =some (.cells ((l++[0]).map ql).toArray 5 (0,0)):=by rw[PP.block _ (Nat.lt_of_lt_of_le (Array.getElem?_eq_some_iff.1 A3.out).1 (za.mod wU.out (λ_=>False)).size) (by omega)];exact za.heap wU.out A3.out
 refine⟨_,rfl,zq.trans R0 PP (λj hj e=>by omega),?_,λj hj=> ?_⟩
 ·exact Ww aJ (by simp[hn]) (by omega)
 ·simp only[Value.ownBlock,Option.some.injEq]at hj;omega
structure De(Q:World->Prop)(S:Nat->Prop)(T:TypeId)(v:Value)(f:FuncId)(rc:Value)(C:zF->yr):Prop where
 new:∀W W',Q W->za W W'->Q W'
 lt:∀W,Q W->∀j,S j->j<W.heap.size
 meth:∀W,(method 608 T v "UnsafeRange").run prog W=.ok (f,rc) W
 nil:∀W,(nilAhead 608 T v "UnsafeRange").run prog W=.ok (some false) W
 enter:∀args W,(callFunc f args).run prog W=.ok (.enter f args) W
 range:∀(b:zF) (W:World) (k:Bytes) (kv:Value) (lim:Int),Q W->Bs (im S W) k kv->Calls prog f #[rc,b.val,kv,.slice none 0 0,.int .i64 lim] W λe w'=>∃ks vs,e=.returned (.tuple #[ks,vs])/\Q w'/\zq S W w'/\qP (im S w') (qX (C b) k).toList vs
theorem Gs(S:Nat->Prop)(w:World)(o:Obj):(im S w).le (im (λj=>j=w.heap.size) (w.alloc o)):=λa y ha=>by have h1:=(zi.1 ha).2;refine zi.2 ⟨λe=> ?_,za.le ((za.refl w).alloc o) _ _ h1⟩;have:=World.block_lt_of_cell? _ a h1;have e:a.block=w.heap.size:=e;omega
def j8(w w':World)(e:Ending):Option zj->Prop
 |none=>e=.returned (.pointer none)
 |some u=>∃b wm nv rv ov,e=.returned (ptr b)/\w.heap.size<=b/\b<wm.heap.size/\Ye wm w' b (u.name,u.roles,true) nv rv ov
variable{lg rc:Value}
theorem KW{Q:World->Prop}{T:TypeId}{f:FuncId}{C:zF->yr}{w:World}{n:Bytes}{o:Option zj}(h:De Q S T v f rc C)(hq:Q w)(hn:n.length<=1000)(hg:qX (C .users) n=o.map zj.enc)(ho:∀u,o=some u->jv u):
  Calls prog 277 #[lg,.iface T v,zb n] w λe w'=>Q w'/\zq S w w'/\j8 w w' e o:=by
 obtain⟨kv,wc,pQ,P5,sV,⟨kn,kc,rfl⟩,Hb⟩:=jO (P:=prog) w.drew 9 75 5 (l:=n) (u:=.string) (by kernel_rfl) (by kernel_rfl) (by kernel_rfl) (by omega);have lN:=hid (show za w wc from za.trans ((za.refl w).drew) P5);have A4:=h.new _ _ hq lN.out;have PA:Bs (im S wc) n (.slice (some ⟨w.heap.size,0,none⟩) kn kc):=sV.im_of λj hj e=>by have:=h.lt _ hq j e;simp only[Value.ownBlock,Option.some.injEq]at hj;have e2:w.drew.heap.size=w.heap.size:=rfl;omega
 have NB:=hid (h.range .users wc n _ 0 A4 PA);have Hm:=h.meth;have PT:=h.nil;have PN:=h.enter;have HA:=hid (λW=>kD W);have H:=hid h;have HG:=hid hg;have HO:=hid ho;have e0:w.drew.heap.size=w.heap.size:=rfl;rw[e0]at pQ;unfold zb;generalize(⟨n.toArray⟩:ByteArray)=sx at pQ⊢;clear sV Hb P5 A4 PA h hq hg ho;go_enter func277,ntmps277;go_upto_region 1 with fail
 go_cut [8]from 11 to 22 (λc wx=>Q wx/\zq S w wx/\qP (im S wx) (qX (C .users) n).toList c)
 case first=>
  go_region_with (first|(go_at_call 216;refine(HA.out _).mono ?_;rintro e w1 ⟨rfl,rfl⟩)|(refine NB.out.mono ?_;rintro e w1 ⟨ks,vs,rfl,pY,Hl,rG⟩))
  all_goals(
   have Na:=hid (And.intro pY (And.intro Hl rG));clear pY Hl rG;go_wp2_with fail;go_meet;exact⟨Na.out.1,zq.trans (lN.out.mod S) Na.out.2.1 λ_ _ e=>e,Na.out.2.2⟩)
 case rest=>
  obtain⟨pY,Hl,rG⟩:=hcut;rw[HG.out]at rG;have HQ:=hid pY;have HM:=hid Hl;clear pY Hl HG pQ Hm PT PN NB HA;cases o with
  |none=>obtain⟨cs,hs,ha⟩:=rG;cases ha;obtain⟨p,n8,c8,rfl⟩:=hs.shape;have r9:=hs.addr.1;have r9:n8=0:=r9.symm;subst r9;clear hs;go_wp2;go_returns;exact⟨HQ.out,HM.out,rfl⟩
  |some u=>
   obtain⟨cs,hs,ha⟩:=rG;cases ha with
   |cons hb Pi=>
    cases Pi;rename_i vv;obtain⟨p,n8,c8,rfl⟩:=hs.shape;have r9:n8=1:=hs.addr.1.symm;subst r9;obtain⟨ob,oo,rfl⟩:=hs.addr.2 (by simp);have Hw:=zd _ _ _ _ (hs.cellAt 0 (by simp));simp only[Nat.add_zero,List.getElem_cons_zero]at Hw;obtain⟨vp,vn,vc,rfl,_⟩:=hb.shape;have b8:∀ob',(wc.alloc ob').cell? ⟨ob,oo,none⟩=some (.slice vp vn vc):=λob'=>za.le ((za.refl wc).alloc ob') _ _ Hw;have HU:=hid (Qo (w:=wc.alloc JI) (r:=im S wc) (b:=wc.heap.size) (zg wc _) (Gs S wc _) (HO.out u rfl) hb);unfold JI at HU;have b_:w.heap.size<=wc.heap.size:=HM.out.size;clear hs hb Hw;go_wp2_with fail;refine HU.out.mono ?_;rintro e w5 ⟨rfl,nv,rv,ov,hu⟩;have tI:=hid hu;clear hu HU;go_wp2;go_returns;have pz:za wc w5:=zq.trans ((za.refl wc).alloc _) tI.out.mod λj hj e=>by omega
    have Ba:(wc.alloc (.cells #[.slice none 0 0,.slice none 0 0,.slice none 0 0,.pointer none] 222)).heap.size=wc.heap.size+1:=Array.size_push ..
    exact⟨H.out.new _ _ HQ.out pz,zq.trans HM.out (pz.mod S) λ_ _ e=>e,_,_,nv,rv,ov,rfl,b_,by rw[Ba];omega,tI.out⟩
def jL(w w':World)(e:Ending):Option zm->Prop
 |none=>e=.returned (.pointer none)
 |some u=>∃b wm nv rv ids,e=.returned (ptr b)/\w.heap.size<=b/\b<wm.heap.size/\Z3 (λ_=>False) wm w' b (u.name,u.perms) nv rv ids
theorem KX{Q:World->Prop}{T:TypeId}{f:FuncId}{C:zF->yr}{w:World}{n:Bytes}{o:Option zm}(h:De Q S T v f rc C)(hq:Q w)(hn:n.length<=1000)(hg:qX (C .roles) n=o.map zm.enc)(ho:∀u,o=some u->kB u):
  Calls prog 276 #[lg,.iface T v,zb n] w λe w'=>Q w'/\zq S w w'/\jL w w' e o:=by
 obtain⟨kv,wc,pQ,P5,sV,⟨kn,kc,rfl⟩,Hb⟩:=jO (P:=prog) w.drew 9 75 5 (l:=n) (u:=.string) (by kernel_rfl) (by kernel_rfl) (by kernel_rfl) (by omega);have lN:=hid (show za w wc from za.trans ((za.refl w).drew) P5);have A4:=h.new _ _ hq lN.out;have PA:Bs (im S wc) n (.slice (some ⟨w.heap.size,0,none⟩) kn kc):=sV.im_of λj hj e=>by have:=h.lt _ hq j e;simp only[Value.ownBlock,Option.some.injEq]at hj;have e2:w.drew.heap.size=w.heap.size:=rfl;omega
 have NB:=hid (h.range .roles wc n _ 0 A4 PA);have Hm:=h.meth;have PT:=h.nil;have PN:=h.enter;have HA:=hid (λW=>kE W);have H:=hid h;have HG:=hid hg;have HO:=hid ho;have e0:w.drew.heap.size=w.heap.size:=rfl;rw[e0]at pQ;unfold zb;generalize(⟨n.toArray⟩:ByteArray)=sx at pQ⊢;clear sV Hb P5 A4 PA h hq hg ho;go_enter func276,ntmps276;go_upto_region 1 with fail
 go_cut [8]from 11 to 22 (λc wx=>Q wx/\zq S w wx/\qP (im S wx) (qX (C .roles) n).toList c)
 case first=>
  go_region_with (first|(go_at_call 217;refine(HA.out _).mono ?_;rintro e w1 ⟨rfl,rfl⟩)|(refine NB.out.mono ?_;rintro e w1 ⟨ks,vs,rfl,pY,Hl,rG⟩))
  all_goals(
   have Na:=hid (And.intro pY (And.intro Hl rG));clear pY Hl rG;go_wp2_with fail;go_meet;exact⟨Na.out.1,zq.trans (lN.out.mod S) Na.out.2.1 λ_ _ e=>e,Na.out.2.2⟩)
 case rest=>
  obtain⟨pY,Hl,rG⟩:=hcut;rw[HG.out]at rG;have HQ:=hid pY;have HM:=hid Hl;clear pY Hl HG pQ Hm PT PN NB HA;cases o with
  |none=>obtain⟨cs,hs,ha⟩:=rG;cases ha;obtain⟨p,n8,c8,rfl⟩:=hs.shape;have r9:=hs.addr.1;have r9:n8=0:=r9.symm;subst r9;clear hs;go_wp2;go_returns;exact⟨HQ.out,HM.out,rfl⟩
  |some u=>
   obtain⟨cs,hs,ha⟩:=rG;cases ha with
   |cons hb Pi=>
    cases Pi;rename_i vv;obtain⟨p,n8,c8,rfl⟩:=hs.shape;have r9:n8=1:=hs.addr.1.symm;subst r9;obtain⟨ob,oo,rfl⟩:=hs.addr.2 (by simp);have Hw:=zd _ _ _ _ (hs.cellAt 0 (by simp));simp only[Nat.add_zero,List.getElem_cons_zero]at Hw;obtain⟨vp,vn,vc,rfl,_⟩:=hb.shape;have b8:∀ob',(wc.alloc ob').cell? ⟨ob,oo,none⟩=some (.slice vp vn vc):=λob'=>za.le ((za.refl wc).alloc ob') _ _ Hw;have HU:=hid (Qp (w:=wc.alloc JJ) (r:=im S wc) (b:=wc.heap.size) (zg wc _) (Gs S wc _) (HO.out u rfl) hb);unfold JJ at HU;have b_:w.heap.size<=wc.heap.size:=HM.out.size;clear hs hb Hw;go_wp2_with fail;refine HU.out.mono ?_;rintro e w5 ⟨rfl,nv,rv,ids,hu⟩;have tI:=hid hu;clear hu HU;go_wp2;go_returns;have pz:za wc w5:=zq.trans ((za.refl wc).alloc _) tI.out.mod λj hj e=>by omega
    have Ba:(wc.alloc (.cells #[.slice none 0 0,.slice none 0 0] 226)).heap.size=wc.heap.size+1:=Array.size_push ..
    exact⟨H.out.new _ _ HQ.out pz,zq.trans HM.out (pz.mod S) λ_ _ e=>e,_,_,nv,rv,ids,rfl,b_,by rw[Ba];omega,tI.out⟩
def Qq:Bytes:=[97,117,116,104,69,110,97,98,108,101,100]
def xH:Bytes:=[97,117,116,104,82,101,118,105,115,105,111,110]
theorem xg{w:World}{T:Nat}{fr:Nat×Nat}{l:Bytes}(hl:l.length=n)(hn:n<=9223372036854775807):Bs (w.alloc (.cells (l.map ql).toArray T fr)).cell? l (.slice (some ⟨w.heap.size,0,none⟩) n n):=by refine Bs.of_sl ⟨_,_,_,rfl,by simp[hl],Nat.le_refl _,hn,(λh=>by cases h),Or.inr ⟨_,_,rfl,λi hi=> ?_⟩⟩;rw[World.cell?_alloc_mark,Nat.zero_add,List.getElem?_toArray,List.getElem?_eq_getElem hi]
theorem JK{w:World}:Calls prog 281 #[] w λe w'=>∃v,e=.returned v/\za w w'/\Bs w'.cell? Qq v/\∀j,v.ownBlock=some j->w.heap.size<=j:=by
 have kc:=λ(w:World) (C:Array Value) (n c:Nat)=>Lib.run_convert_bytes_const (P:=prog) w 75 5 C n c (by kernel_rfl) (by kernel_rfl);go_enter func281,ntmps281;go_wp2;go_returns;refine⟨_,rfl,(za.refl w).alloc _,?_,λj hj=> ?_⟩
 ·exact xg (l:=Qq) (n:=11) rfl (by decide)
 ·exact Nat.le_of_eq (Option.some.inj hj)
theorem YN{w:World}:Calls prog 283 #[] w λe w'=>∃v,e=.returned v/\za w w'/\Bs w'.cell? xH v/\∀j,v.ownBlock=some j->w.heap.size<=j:=by
 have kc:=λ(w:World) (C:Array Value) (n c:Nat)=>Lib.run_convert_bytes_const (P:=prog) w 75 5 C n c (by kernel_rfl) (by kernel_rfl);go_enter func283,ntmps283;go_wp2;go_returns;refine⟨_,rfl,(za.refl w).alloc _,?_,λj hj=> ?_⟩
 ·exact xg (l:=xH) (n:=12) rfl (by decide)
 ·exact Nat.le_of_eq (Option.some.inj hj)
def Wx:Option Bytes->Bool
 |some x=>x==[1]
 |none=>false
theorem YO{Q:World->Prop}{T:TypeId}{f:FuncId}{C:zF->yr}{w:World}(h:De Q S T v f rc C)(hq:Q w):
  Calls prog 279 #[.iface T v] w λe w'=>e=.returned (.bool (Wx (qX (C .auth) Qq)))/\Q w'/\zq S w w':=by
 have NB:Hid (∀W kv,za w W->Bs W.cell? Qq kv->(∀j,kv.ownBlock=some j->w.heap.size<=j)->Calls prog f #[rc,zF.val .auth,kv,.slice none 0 0,.int .i64 0] W λe w'=>∃ks vs,e=.returned (.tuple #[ks,vs])/\Q w'/\zq S W w'/\qP (im S w') (qX (C .auth) Qq).toList vs):=hid λW kv hn hk hf=>
  h.range .auth W Qq kv 0 (h.new _ _ hq hn) (hk.im_of λj hj e=>by have:=h.lt _ hq j e;have:=hf j hj;omega)
 have Hm:=h.meth;have PT:=h.nil;have PN:=h.enter;have HA:=hid (λW=>Qc W);have HK:Hid (∀W,za w W->Calls prog 281 #[] W λe w'=>∃kv,e=.returned kv/\za w w'/\Bs w'.cell? Qq kv/\∀j,kv.ownBlock=some j->w.heap.size<=j):=hid λW hW=>JK.mono λe w' ⟨kv,h1,h2,h3,h4⟩=>⟨kv,h1,hW.trans h2,h3,λj hj=>Nat.le_trans (za.mod hW (λ_=>False)).size (h4 j hj)⟩;have H:=hid h;clear h hq;go_enter func279,ntmps279;go_upto_region 1 with fail
 go_cut [4]from 5 to 15 (λc wx=>Q wx/\zq S w wx/\qP (im S wx) (qX (C .auth) Qq).toList c)
 case first=>
  go_region_with (first|(go_at_call 215;refine(HA.out _).mono ?_;rintro e w1 ⟨rfl,rfl⟩)|(go_at_call 281;refine(HK.out _ ((za.refl w).drew)).mono ?_;rintro e w2 ⟨kv,rfl,ph,PX,Mj⟩)|(refine(NB.out _ _ ph PX Mj).mono ?_;rintro e w3 ⟨ks,vs,rfl,pY,Hl,rG⟩))
  all_goals(
   have Na:=hid (And.intro pY (And.intro (zq.trans (ph.mod S) Hl λ_ _ e=>e) rG));clear pY Hl rG;go_wp2_with fail;go_meet;exact Na.out)
 case rest=>
  obtain⟨pY,Hl,rG⟩:=hcut;obtain⟨o,ho⟩:∃o,qX (C .auth) Qq=o:=⟨_,rfl⟩;rw[ho]at rG;have HO:=hid ho;clear ho;have HQ:=hid pY;have HM:=hid Hl;clear pY Hl Hm PT PN NB HA HK;cases o with
  |none=>obtain⟨cs,hs,ha⟩:=rG;cases ha;obtain⟨p,n8,c8,rfl⟩:=hs.shape;have r9:n8=0:=hs.addr.1.symm;subst r9;clear hs;go_wp2;go_returns;exact⟨by rw[HO.out];rfl,HQ.out,HM.out⟩
  |some x=>
   obtain⟨cs,hs,ha⟩:=rG;cases ha with
   |cons hb Pi=>
    cases Pi;obtain⟨p,n8,c8,rfl⟩:=hs.shape;have r9:n8=1:=hs.addr.1.symm;subst r9;obtain⟨ob,oo,rfl⟩:=hs.addr.2 (by simp);have Hw:=zd _ _ _ _ (hs.cellAt 0 (by simp));simp only[Nat.add_zero,List.getElem_cons_zero]at Hw;obtain⟨vp,vn,vc,rfl,_⟩:=hb.shape;have hQ:za wc (wc.alloc (.cells (([1]:Bytes).map ql).toArray 5)):=(za.refl wc).alloc _;have HE:=hid (qe (w:=wc.alloc (.cells (([1]:Bytes).map ql).toArray 5)) ((hb.mono (zd _ _)).mono (za.le hQ)) (xg (w:=wc) (l:=[1]) (n:=1) rfl (by decide)));have Hs:=hid hQ;clear hs hb hQ;go_wp2_with fail;refine HE.out.mono ?_;rintro e w5 ⟨rfl,rfl⟩;by_cases hx:(x==[1])=true
    ·rw[hx];go_wp2;go_returns;exact⟨by rw[HO.out,show Wx (some x)=(x==[1])from rfl,hx];rfl,H.out.new _ _ HQ.out Hs.out,zq.trans HM.out (za.mod Hs.out S) λ_ _ e=>e⟩
    ·have hx:(x==[1])=false:=by simpa using hx
     rw[hx];go_wp2;go_returns;exact⟨by rw[HO.out,show Wx (some x)=(x==[1])from rfl,hx];rfl,H.out.new _ _ HQ.out Hs.out,zq.trans HM.out (za.mod Hs.out S) λ_ _ e=>e⟩
def VS(n:Nat):Bytes:=[0,0,0,0,0,0,0,UInt8.ofNat n]
theorem Wy{w:World}(hn:n<256)(h:Bs w.cell? (VS n) v):
  Calls prog 288 #[v] w λe w'=>e=.returned (.int .u64 n)/\w=w':=by
 obtain⟨b,o,m,c,rfl,hm,_⟩:=h.at (by simp[VS]);have A7:m=8:=hm.symm;subst A7;have c0:=h.cellAt 0 (by simp[VS]);have c1:=h.cellAt 1 (by simp[VS]);have c2:=h.cellAt 2 (by simp[VS]);have c3:=h.cellAt 3 (by simp[VS]);have c4:=h.cellAt 4 (by simp[VS]);have c5:=h.cellAt 5 (by simp[VS]);have c6:=h.cellAt 6 (by simp[VS]);have c7:=h.cellAt 7 (by simp[VS]);have hb:ql (UInt8.ofNat n)=.int .u8 n:=by show Value.int .u8 ((UInt8.ofNat n).toNat:Int)=_;rw[UInt8.toNat_ofNat',Nat.mod_eq_of_lt (by omega)]
 have hz:ql 0=.int .u8 0:=rfl;simp only[VS,List.getElem_cons_zero,List.getElem_cons_succ,hz,hb,Nat.add_zero]at c0 c1 c2 c3 c4 c5 c6 c7;have ho:bits .or .u64 0 (n:Int)=n:=by have:=bits_or_u64_nat 0 n (by decide) (by omega);rw[Nat.zero_or]at this;exact this
 have ho0:bits .or .u64 0 0=0:=by have:=bits_or_u64_nat 0 0 (by decide) (by decide);exact this
 clear h;go_enter func288,ntmps288;go_wp2;refine wp_loop_rounds 9 ?_;rw[rounds_succ];go_wp2;rw[rounds_succ];go_wp2;rw[rounds_succ];go_wp2;rw[rounds_succ];go_wp2;rw[rounds_succ];go_wp2;rw[rounds_succ];go_wp2;rw[rounds_succ];go_wp2;rw[rounds_succ];go_wp2;rw[rounds_succ];go_wp2;go_returns;exact⟨rfl,rfl⟩
def Wz(n:Nat):Option Bytes:=if n=0 then none else some (VS n)
theorem x8{Q:World->Prop}{T:TypeId}{f:FuncId}{C:zF->yr}{w:World}(h:De Q S T v f rc C)(hq:Q w)(hn:n<256)(wV:qX (C .auth) xH=Wz n):
  Calls prog 280 #[.iface T v] w λe w'=>e=.returned (.int .u64 n)/\Q w'/\zq S w w':=by
 have NB:Hid (∀W kv,za w W->Bs W.cell? xH kv->(∀j,kv.ownBlock=some j->w.heap.size<=j)->Calls prog f #[rc,zF.val .auth,kv,.slice none 0 0,.int .i64 0] W λe w'=>∃ks vs,e=.returned (.tuple #[ks,vs])/\Q w'/\zq S W w'/\qP (im S w') (qX (C .auth) xH).toList vs):=hid λW kv hn hk hf=>
  h.range .auth W xH kv 0 (h.new _ _ hq hn) (hk.im_of λj hj e=>by have:=h.lt _ hq j e;have:=hf j hj;omega)
 have Hm:=h.meth;have PT:=h.nil;have PN:=h.enter;have HA:=hid (λW=>Qc W);have HK:Hid (∀W,za w W->Calls prog 283 #[] W λe w'=>∃kv,e=.returned kv/\za w w'/\Bs w'.cell? xH kv/\∀j,kv.ownBlock=some j->w.heap.size<=j):=hid λW hW=>YN.mono λe w' ⟨kv,h1,h2,h3,h4⟩=>⟨kv,h1,hW.trans h2,h3,λj hj=>Nat.le_trans (za.mod hW (λ_=>False)).size (h4 j hj)⟩;have H:=hid h;clear h hq;go_enter func280,ntmps280;go_upto_region 1 with fail
 go_cut [4]from 5 to 15 (λc wx=>Q wx/\zq S w wx/\qP (im S wx) (qX (C .auth) xH).toList c)
 case first=>
  go_region_with (first|(go_at_call 215;refine(HA.out _).mono ?_;rintro e w1 ⟨rfl,rfl⟩)|(go_at_call 283;refine(HK.out _ ((za.refl w).drew)).mono ?_;rintro e w2 ⟨kv,rfl,ph,PX,Mj⟩)|(refine(NB.out _ _ ph PX Mj).mono ?_;rintro e w3 ⟨ks,vs,rfl,pY,Hl,rG⟩))
  all_goals(
   have Na:=hid (And.intro pY (And.intro (zq.trans (ph.mod S) Hl λ_ _ e=>e) rG));clear pY Hl rG;go_wp2_with fail;go_meet;exact Na.out)
 case rest=>
  obtain⟨pY,Hl,rG⟩:=hcut;rw[wV]at rG;have HQ:=hid pY;have HM:=hid Hl;clear pY Hl Hm PT PN NB HA HK;unfold Wz at rG;by_cases h0:n=0
  ·rw[if_pos h0]at rG;obtain⟨cs,hs,ha⟩:=rG;cases ha;obtain⟨p,n8,c8,rfl⟩:=hs.shape;have r9:n8=0:=hs.addr.1.symm;subst r9;subst h0;clear hs;go_wp2;go_returns;exact⟨rfl,HQ.out,HM.out⟩
  ·rw[if_neg h0]at rG;obtain⟨cs,hs,ha⟩:=rG;cases ha with
   |cons hb Pi=>cases Pi;obtain⟨p,n8,c8,rfl⟩:=hs.shape;have r9:n8=1:=hs.addr.1.symm;subst r9;obtain⟨ob,oo,rfl⟩:=hs.addr.2 (by simp);have Hw:=zd _ _ _ _ (hs.cellAt 0 (by simp));simp only[Nat.add_zero,List.getElem_cons_zero]at Hw;obtain⟨vp,vn,vc,rfl,_⟩:=hb.shape;have HU:=hid (Wy hn (hb.mono (zd _ _)));clear hs hb;go_wp2_with fail;refine HU.out.mono ?_;rintro e w5 ⟨rfl,rfl⟩;go_wp2;go_returns;exact⟨rfl,HQ.out,HM.out⟩
theorem zbd{w:World}{g:Nat}(hn:n<256)(h:w.heap[g]? =some (.cells (List.replicate 8 (Value.int .u8 0)).toArray 5 (0,0))):
  Calls prog 282 #[.slice (some ⟨g,0,none⟩) 8 8,.int .u64 n] w λe w'=>e=.returned (.tuple #[])/\zq (λj=>j=g) w w'/\w'.heap[g]? =some (.cells ((VS n).map ql).toArray 5 (0,0)):=by
 have hf:∀i,w.frozen? ⟨g,i,none⟩=false:=λi=>by simp[World.frozen?,h]
 have c0:w.cell? ⟨g,0,none⟩=some (.int .u8 0):=by rw[cell_of_row w g 0 _ _ (0,0) h];rfl
 have c1:w.cell? ⟨g,1,none⟩=some (.int .u8 0):=by rw[cell_of_row w g 1 _ _ (0,0) h];rfl
 have c2:w.cell? ⟨g,2,none⟩=some (.int .u8 0):=by rw[cell_of_row w g 2 _ _ (0,0) h];rfl
 have c3:w.cell? ⟨g,3,none⟩=some (.int .u8 0):=by rw[cell_of_row w g 3 _ _ (0,0) h];rfl
 have c4:w.cell? ⟨g,4,none⟩=some (.int .u8 0):=by rw[cell_of_row w g 4 _ _ (0,0) h];rfl
 have c5:w.cell? ⟨g,5,none⟩=some (.int .u8 0):=by rw[cell_of_row w g 5 _ _ (0,0) h];rfl
 have c6:w.cell? ⟨g,6,none⟩=some (.int .u8 0):=by rw[cell_of_row w g 6 _ _ (0,0) h];rfl
 have c7:w.cell? ⟨g,7,none⟩=some (.int .u8 0):=by rw[cell_of_row w g 7 _ _ (0,0) h];rfl
 have H:=hid h;clear h;have PK:(0:Int)<=n:=by omega
 have hQ:(n:Int)<=255:=by omega
 have e1:(n:Int)/256=0:=by omega
 have e2:(n:Int)/65536=0:=by omega
 have e3:(n:Int)/16777216=0:=by omega
 have e4:(n:Int)/4294967296=0:=by omega
 have e5:(n:Int)/1099511627776=0:=by omega
 have e6:(n:Int)/281474976710656=0:=by omega
 have e7:(n:Int)/72057594037927936=0:=by omega
 go_enter func282,ntmps282;go_wp2;refine wp_loop_rounds 9 ?_;rw[rounds_succ];go_wp2;rw[rounds_succ];go_wp2;rw[rounds_succ];go_wp2;rw[rounds_succ];go_wp2;rw[rounds_succ];go_wp2;rw[rounds_succ];go_wp2;rw[rounds_succ];go_wp2;rw[rounds_succ];go_wp2;rw[rounds_succ];go_wp2;go_returns;have h1:=heap_setCell_same w g 0 _ _ (.int .u8 0) H.out;have h2:=heap_setCell_same _ g 1 _ _ (.int .u8 0) h1;have h3:=heap_setCell_same _ g 2 _ _ (.int .u8 0) h2;have h4:=heap_setCell_same _ g 3 _ _ (.int .u8 0) h3;have h5:=heap_setCell_same _ g 4 _ _ (.int .u8 0) h4;have h6:=heap_setCell_same _ g 5 _ _ (.int .u8 0) h5;have h7:=heap_setCell_same _ g 6 _ _ (.int .u8 0) h6;have h8:=heap_setCell_same _ g 7 _ _ (.int .u8 n) h7;have m0:=zq.refl (λj=>j=g) w;have m1:=m0.setCell (p:=⟨g,0,none⟩) (λ_=>rfl) (.int .u8 0);have m2:=m1.setCell (p:=⟨g,1,none⟩) (λ_=>rfl) (.int .u8 0)
 have m3:=m2.setCell (p:=⟨g,2,none⟩) (λ_=>rfl) (.int .u8 0);have m4:=m3.setCell (p:=⟨g,3,none⟩) (λ_=>rfl) (.int .u8 0);have m5:=m4.setCell (p:=⟨g,4,none⟩) (λ_=>rfl) (.int .u8 0);have m6:=m5.setCell (p:=⟨g,5,none⟩) (λ_=>rfl) (.int .u8 0);have m7:=m6.setCell (p:=⟨g,6,none⟩) (λ_=>rfl) (.int .u8 0);have m8:=m7.setCell (p:=⟨g,7,none⟩) (λ_=>rfl) (.int .u8 n);have hb:ql (UInt8.ofNat n)=.int .u8 n:=by show Value.int .u8 ((UInt8.ofNat n).toNat:Int)=_;rw[UInt8.toNat_ofNat',Nat.mod_eq_of_lt (by omega)]
 refine⟨rfl,m8,h8.trans ?_⟩;unfold VS;simp only[List.map_cons,List.map_nil,hb];rfl
end Go.Proofs.YtbmdoinjkligiaaGreat
