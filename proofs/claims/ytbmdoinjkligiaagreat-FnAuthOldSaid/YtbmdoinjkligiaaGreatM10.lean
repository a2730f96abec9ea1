/- Contracts and laws that the last text joins. -/
import Derived.Laws.OwnMore
import Derived.Lib.SlBytesConst
import Derived.Test.YtbmdoinjkligiaaGreatM05
import Derived.Test.YtbmdoinjkligiaaGreatM09
set_option maxRecDepth 100000
set_option maxHeartbeats 40000000
set_option linter.all false
namespace Go.Proofs.YtbmdoinjkligiaaGreat
open Tryz
open Lib(hid)
open Go.RowKit
structure jz(r:Rd)(b:Nat)(u:zm):Prop where
 name:∃v,r ⟨b,0,none⟩=some v/\Bs r u.name v
 perms:∃v ids,r ⟨b,1,none⟩=some v/\Sl r 1 (ids.map ptr) v/\qy (jx r) ids u.perms
variable{b:Nat}{r r':Rd}
theorem jz.mono{u:zm}(h:jz r b u)(hr:r.le r'):jz r' b u:=by obtain⟨⟨v,h1,h2⟩,y,ids,h5,h6,h7⟩:=h;exact⟨⟨v,hr _ _ h1,h2.mono hr⟩,y,ids,hr _ _ h5,h6.mono hr,qy.mono (λ_ _ h=>h.mono hr) h7⟩
structure kD(u:zm):Prop where
 name0:u.name≠[]
 name:u.name.length<=1000
 perms0:∀p∈u.perms,Jq p
 perms:u.perms.length<=100
variable{p:zh}
theorem XK(h:Jq p):p.enc≠[]:=by intro e;have:=Qt.1 e;unfold zh.flds fB at this;rw[if_neg h.key0]at this;simp at this
theorem xg(h:Jq p):p.enc.length<=3012:=by
 have h1:∀f∈p.flds,f.enc.length<=1004:=by
  intro f hf;unfold zh.flds fB at hf;simp only[List.mem_append]at hf;rcases hf with hf|hf|hf
  ·split at hf
   ·simp at hf
   ·rw[List.mem_singleton]at hf;rw[hf];have:=XI 1 p.kind;omega
  ·split at hf
   ·simp at hf
   ·rw[List.mem_singleton]at hf;rw[hf];have:=j9 2 p.key;have:=h.key;omega
  ·split at hf
   ·simp at hf
   ·rw[List.mem_singleton]at hf;rw[hf];have:=j9 3 p.stop;have:=h.stop;omega
 have h2:=YA h1;have h3:p.flds.length<=3:=by
  unfold zh.flds fB;simp only[List.length_append];have e1:(if p.kind=0 then []else [jo.I 1 p.kind]).length<=1:=by split<;>simp
  have e2:(if p.key=[]then []else [jo.B 2 p.key]).length<=1:=by split<;>simp
  have e3:(if p.stop=[]then []else [jo.B 3 p.stop]).length<=1:=by split<;>simp
  omega
 have:=Nat.mul_le_mul_right 1004 h3;show(zW p.flds).length<=_;omega
theorem JL{fs:List jo}(h:∀f∈fs,f.enc.length<=3016):(zW fs).length<=fs.length*3016:=by
 induction fs with
 |nil=>simp[zW]
 |cons f fs ih=>rw[kW,List.length_append,List.length_cons];have h1:=h f (by simp);have h2:=ih λg hg=>h g (by simp[hg]);omega
theorem WO{w:World}{u:zm}(h:jz w.cell? b u)(hok:kD u):
  Calls prog 220 #[ptr b] w λe w'=>∃v',e=.returned v'/\yW w w' v' u.enc:=by
 obtain⟨⟨nv,h0,hnb⟩,rv,ids,h2,hrb,hall⟩:=h;obtain⟨nb,no,nn,nc,rfl,hnn,_⟩:=hnb.at hok.name0;have hnn1:(0:Int)<nn:=by have:=List.length_pos_iff.2 hok.name0;omega
 obtain⟨rp,rn,rc,rfl⟩:=hrb.shape;have hil:=hall.length;have hrl:rn=u.perms.length:=by have:=hrb.addr.1;rw[<-hil];simpa using this.symm
 subst hrl;have HNB:=hid hnb;have HRB:=hid hrb;have HOK:=hid hok;have HALL:=hid hall;have HL0:Hid ((jo.B 1 u.name).enc.length<=1004):=hid (by have:=j9 1 u.name;have:=hok.name;omega);have HLN:Hid (∀k,([]++(jo.B 1 u.name).enc++zW ((u.perms.take k).map λp:zh=>jo.B 2 p.enc)).length<=400000):=hid λk=>by
  have h1:=JL (fs:=(u.perms.take k).map λp:zh=>jo.B 2 p.enc) (by intro f hf;obtain⟨x,hx,rfl⟩:=List.mem_map.1 hf;have:=j9 2 x.enc;have:=xg (HOK.out.perms0 x (List.mem_of_mem_take hx));omega)
  have h2:=HL0.out;have h3:=HOK.out.perms;rw[List.length_map,List.length_take]at h1;rw[List.length_append,List.nil_append];have:min k u.perms.length<=100:=by omega
  have:=Nat.mul_le_mul_right 3016 this;omega
 have hrl:(u.perms.length:Int)<=100:=by have:=hok.perms;omega
 clear hnb hrb hok hall;go_enter func220,ntmps220;go_wp2_with fail;refine(jG (by decide) HOK.out.name0 (by have:=HOK.out.name;omega) (by simp) (yW.nil w) HNB.out).mono ?_;rintro e w1 ⟨v1,rfl,f1⟩;obtain⟨p1,n1,c1,rfl⟩:=f1.own.shape;have F1:=hid f1;have HC:=hid h2;clear f1 h0 h2;go_wp2;go_loopw [3,4] (λv i wr=>∃k:Nat,k<=u.perms.length/\i=.int .i64 k/\yW w wr v ([]++(jo.B 1 u.name).enc++zW ((u.perms.take k).map λp:zh=>jo.B 2 p.enc))) (λ_ i _=>u.perms.length-(intOf i).toNat)
 case atStart=>exact⟨0,Nat.zero_le _,rfl,by simpa[zW]using F1.out⟩
 case round=>
  obtain⟨k,hk,rfl,hf⟩:=hrel;have g2:wr.cell? ⟨b,1,none⟩=some (.slice rp u.perms.length rc):=hf.new.le _ _ HC.out;obtain⟨qp,qn,qc,rfl⟩:=hf.own.shape;by_cases hlt:k<u.perms.length
  ·have hki2:k<ids.length:=by omega
   have hkl:k<(ids.map ptr).length:=by rw[List.length_map];exact hki2
   obtain⟨ob,oo,rfl⟩:=HRB.out.addr.2 (by intro e;rw[e]at hkl;simp at hkl);have hcell:wr.cell? ⟨ob,oo+k,none⟩=some (ptr ids[k]):=by have:=hf.new.le _ _ (HRB.out.cellAt k hkl);rw[this];simp
   have hpa:=HALL.out.get k hki2 hlt;have hpo:=HOK.out.perms0 _ (List.getElem_mem hlt);have HTK:=hid (show(u.perms.take (k+1)).map (λp:zh=>jo.B 2 p.enc)=(u.perms.take k).map (λp:zh=>jo.B 2 p.enc)++[jo.B 2 (u.perms[k]).enc] by rw[List.take_succ_eq_append_getElem hlt,List.map_append];rfl);generalize u.perms[k]=x at hpa hpo HTK;generalize ids[k]=id at hcell hpa;have hki:(k:Int)<(u.perms.length:Int):=by omega
   have HP:=hid (WM (hpa.mono hf.new.le) hpo);have HPO:=hid hpo;have HF:=hid hf;clear hf hpa hpo;go_wp2_with fail;refine HP.out.mono ?_;rintro e w4 ⟨v4,rfl,f4⟩;have HPB:=hid (QY (f:=2) (by decide) (XK HPO.out) (by have:=xg HPO.out;omega) (by have:=HLN.out k;omega) (HF.out.more f4.new).own f4.own.bs (by intro q hq e;have:=HF.out.lt _ e;have:=f4.ge _ hq;omega));obtain⟨p4,n4,c4,rfl⟩:=f4.own.shape;have F4:=hid f4;clear f4;go_wp2_with fail;refine HPB.out.mono ?_;rintro e w5 ⟨v5,rfl,g5,g6⟩;obtain⟨p5,n5,c5,rfl⟩:=g5.shape;have F5:=hid ((HF.out.more F4.out.new).grew g5 g6);clear g5 g6;go_wp2;go_roundw
   case rel=>exact⟨k+1,by omega,by go_num,by rw[HTK.out,jc];have:=F5.out;simpa[zW]using this⟩
   case measure=>simp[intOf];omega
  ·have hkn:k=u.perms.length:=by omega
   have HF:=hid hf;clear hf;go_wp2;go_returns;refine⟨_,rfl,?_⟩;have:=HF.out;rw[hkn,List.take_length]at this;unfold zm.enc zm.flds fB;rw[if_neg HOK.out.name0,jc];simpa[zW]using this
theorem KZ:yB prog 71 72 (.pointer none) 1 8:=⟨by kernel_rfl,by kernel_rfl,rfl,by decide⟩
inductive RF where
 |N(x:Bytes)
 |P(p:zh)
def RF.fld:RF->jo
 |.N x=>.B 1 x
 |.P p=>.B 2 p.enc
def RF.ok:RF->Prop
 |.N x=>x≠[]/\x.length<16384
 |.P p=>Jq p
def JM(u:Bytes×List zh):RF->Bytes×List zh
 |.N x=>(x,u.2)
 |.P p=>(u.1,u.2++[p])
theorem RF.fok{f:RF}(h:f.ok):uy f.fld:=by
 cases f with
 |N x=>exact⟨by decide,by decide,h.1,h.2⟩
 |P p=>exact⟨by decide,by decide,XK h,by have:=xg h;omega⟩
theorem Dp(h:Jq p):(∀f∈p.flds,Dl f)/\p.flds.foldl Zk ⟨0,[],[]⟩=p:=by
 constructor
 ·intro f hf;unfold zh.flds fB at hf;simp only[List.mem_append]at hf;rcases hf with hf|hf|hf
  ·split at hf
   ·simp at hf
   ·rw[List.mem_singleton]at hf;rw[hf];exact⟨rfl,h.kind⟩
  ·split at hf
   ·simp at hf
   ·rw[List.mem_singleton]at hf;rw[hf];exact⟨Or.inl rfl,h.key0,by have:=h.key;omega⟩
  ·split at hf
   ·simp at hf
   ·rename_i hs;rw[List.mem_singleton]at hf;rw[hf];exact⟨Or.inr rfl,hs,by have:=h.stop;omega⟩
 ·obtain⟨k,a,s⟩:=p;have h0:a≠[]:=h.key0;unfold zh.flds fB;simp only;by_cases hk:k=0<;>by_cases hs:s=[]<;>simp[hk,hs,h0,Zk]
def vk(r:Rd)(w:World)(q:Nat)(p:zh):Prop:=∃kv ev,w.heap[q]? =some (.cells #[.int .i32 p.kind,kv,ev] 112 (0,0))/\Bs r p.key kv/\Bs r p.stop ev
variable{q:Nat}
theorem vk.at{w:World}(h:vk r w q p)(hr:r.le w.cell?):jx w.cell? q p:=by obtain⟨kv,ev,h1,h2,h3⟩:=h;obtain⟨c0,c1,c2,_⟩:=Ux h1;exact⟨c0,⟨kv,c1,h2.mono hr⟩,ev,c2,h3.mono hr⟩
variable{w':World}
theorem vk.step{w:World}(h:vk r w q p)(hr:r.le r')(hq:w'.heap[q]? =w.heap[q]?):vk r' w' q p:=by obtain⟨kv,ev,h1,h2,h3⟩:=h;exact⟨kv,ev,hq.trans h1,h2.mono hr,h3.mono hr⟩
theorem vk.lt{w:World}(h:vk r w q p):q<w.heap.size:=by obtain⟨kv,ev,h1,_⟩:=h;exact(Array.getElem?_eq_some_iff.1 h1).1
def RB(n b:Nat)(rv:Value)(ids:List Nat)(X:Nat->Prop):Nat->Prop:=λj=>UB n b rv j\/j∈ids\/X j
structure Z_(X:Nat->Prop)(w w':World)(b:Nat)(u:Bytes×List zh)(nv rv:Value)(ids:List Nat):Prop where
 mod:zo (λj=>j=b) w w'
 row:w'.heap[b]? =some (.cells #[nv,rv] 226 (0,0))
 own:w'.ownsRow w.heap.size 72 1 rv u.2.length (ids.map ptr)
 name:Bs (im (RB w.heap.size b rv ids X) w') u.1 nv
 perms:qy (vk (im (RB w.heap.size b rv ids X) w') w') ids u.2
 nodup:ids.Nodup
 fresh:∀q∈ids,w.heap.size<=q/\rv.ownBlock≠some q
variable{α β:Type}
theorem qy.all{R R':α->β->Prop}{l:List α}{m:List β}(h:qy R l m)(hr:∀a∈l,∀b,R a b->R' a b):qy R' l m:=by
 induction h with
 |nil=>exact .nil
 |cons h1 _ ih=>exact .cons (hr _ (by simp) _ h1) (ih λa ha b hb=>hr a (by simp[ha]) b hb)
variable{S:Nat->Prop}
theorem zbE{w:World}{X:Nat->Prop}(hn:za w w')(hX:∀j,X j->w.heap.size<=j):(im S w).le (im (λj=>S j\/X j) w'):=λa y ha=>by
 obtain⟨h1,h2⟩:=zi.1 ha;refine zi.2 ⟨?_,hn.le _ _ h2⟩;rintro(e|e)
 ·exact h1 e
 ·have:=World.block_lt_of_cell? _ a h2;have:=hX _ e;omega
variable{nv:Value}{w1 w2:World}
theorem Z_.newX{w:World}{u:Bytes×List zh}{rv:Value}{ids:List Nat}{X:Nat->Prop}(h:Z_ (λ_=>False) w w1 b u nv rv ids)(hn:za w1 w2)(hX:∀j,X j->w1.heap.size<=j):Z_ X w w2 b u nv rv ids:=by
 have hle:(im (RB w.heap.size b rv ids λ_=>False) w1).le (im (RB w.heap.size b rv ids X) w2):=(zbE hn hX).le_trans (jq λj e=>by
  rcases e with e|e|e
  ·exact Or.inl (Or.inl e)
  ·exact Or.inl (Or.inr (Or.inl e))
  ·exact Or.inr e)
 exact⟨zo.trans h.mod hn λ_ _ e=>e.elim,hn.heap h.row,zU h.own (λb hb=>hn.block b (World.ownsRow.lt h.own b hb).2 (λe=>e)),h.name.mono hle,h.perms.all λq _ p hp=>hp.step hle (hn.block q hp.lt λe=>e),h.nodup,h.fresh⟩
theorem Z_.new{w:World}{u:Bytes×List zh}{rv:Value}{ids:List Nat}(h:Z_ (λ_=>False) w w1 b u nv rv ids)(hn:za w1 w2):Z_ (λ_=>False) w w2 b u nv rv ids:=h.newX hn λ_ e=>e.elim
theorem Z_.bne{X:Nat->Prop}{w:World}{u:Bytes×List zh}{rv:Value}{ids:List Nat}(h:Z_ X w w1 b u nv rv ids)(hb:b<w.heap.size):∀q,rv.ownBlock=some q->q≠b:=λq hq e=>by have:=(World.ownsRow.lt h.own q hq).1;omega
variable{xv:Value}
theorem Z_.set0{X:Nat->Prop}{w:World}{u:Bytes×List zh}{rv:Value}{ids:List Nat}(h:Z_ X w w1 b u nv rv ids)(hb:b<w.heap.size){x:Bytes}(hx:Bs (im (RB w.heap.size b rv ids X) w1) x xv):Z_ X w (w1.setCell ⟨b,0,none⟩ xv) b (x,u.2) xv rv ids:=by have hs:=kQ (RB w.heap.size b rv ids X) w1 ⟨b,0,none⟩ (Or.inl (Or.inl (Or.inl rfl))) xv;exact⟨h.mod.setCell (λ_=>rfl) _,heap_setCell_same w1 b 0 _ _ _ h.row,j_ h.own (h.bne hb),hx.mono hs,h.perms.all λq hq p hp=>hp.step hs (Below.heap_setCell _ _ _ _ (show q≠b by have:=(h.fresh q hq).1;omega)),h.nodup,h.fresh⟩
theorem Z_.lt{w:World}{u:Bytes×List zh}{rv:Value}{ids:List Nat}(h:Z_ (λ_=>False) w w1 b u nv rv ids)(hb:b<w.heap.size):∀j,RB w.heap.size b rv ids (λ_=>False) j->j<w1.heap.size:=by
 rintro j ((e|e)|e|e)
 ·have:=h.mod.size;omega
 ·exact(World.ownsRow.lt h.own j e).2
 ·obtain⟨i,hi,rfl⟩:=List.mem_iff_getElem.1 e;exact(h.perms.get i hi (by rw[<-h.perms.length];exact hi)).lt
 ·exact e.elim
variable{v5:Value}{w5:World}
theorem Z_.app{w:World}{u:Bytes×List zh}{rv:Value}{ids:List Nat}{o:Obj}(h:Z_ (λj=>j=q) w w1 b u nv rv ids)(hb:b<w.heap.size)(hp:vk (im (RB w.heap.size b rv ids λj=>j=q) w1) w1 q p)(hq:q∉ids)(hqw:w.heap.size<=q)(hqr:rv.ownBlock≠some q)
  (ho:w5.ownsRow 0 72 1 v5 (u.2.length+1) (ids.map ptr++[ptr q]))(hg:(w1.alloc o).grownBy w5 rv.ownBlock)(hf:∀q,v5.ownBlock=some q->rv.ownBlock=some q\/w1.heap.size+1<=q):
  w5.heap[b]? =some (.cells #[nv,rv] 226 (0,0))/\Z_ (λ_=>False) w (w5.setCell ⟨b,1,none⟩ v5) b (u.1,u.2++[p]) nv v5 (ids++[q]):=by
 have hsz:(w1.alloc o).heap.size=w1.heap.size+1:=Array.size_push ..
 have hn1:za w1 (w1.alloc o):=(za.refl w1).alloc o;have hg5:=zo.of_grown hg;have hm15:zo (λj=>rv.ownBlock=some j) w1 w5:=zo.trans (hn1.mod _) hg5 λ_ _ e=>e;have hb1:b<w1.heap.size:=Nat.lt_of_lt_of_le hb h.mod.size;have hne:=h.bne hb;have hrow:w5.heap[b]? =some (.cells #[nv,rv] 226 (0,0)):=by rw[hm15.block b hb1 (λe=>hne b e rfl)];exact h.row
 have hle:(im (RB w.heap.size b rv ids λj=>j=q) w1).le (im (RB w.heap.size b rv ids λj=>j=q) w5):=(hm15.mono (S':=RB w.heap.size b rv ids λj=>j=q) λ_ _ e=>Or.inl (Or.inr e)).im λ_ _ e=>e;have hup:(im (RB w.heap.size b rv ids λj=>j=q) w1).le (im (RB w.heap.size b v5 (ids++[q]) λ_=>False) w5):=λa y ha=>by
  have h2:=zi.1 (hle _ _ ha);refine zi.2 ⟨λe=> ?_,h2.2⟩;rcases e with(e|e)|e|e
  ·exact h2.1 (Or.inl (Or.inl e))
  ·rcases hf _ e with e2|e2
   ·exact h2.1 (Or.inl (Or.inr e2))
   ·have:=World.block_lt_of_cell? _ a (zi.1 ha).2;omega
  ·rcases List.mem_append.1 e with e|e
   ·exact h2.1 (Or.inr (Or.inl e))
   ·exact h2.1 (Or.inr (Or.inr (List.mem_singleton.1 e)))
  ·exact e
 have hs:=kQ (RB w.heap.size b v5 (ids++[q]) λ_=>False) w5 ⟨b,1,none⟩ (Or.inl (Or.inl (Or.inl rfl))) v5;have hbase:∀q,v5.ownBlock=some q->w.heap.size<=q:=λq hq=>by
  rcases hf q hq with e|e
  ·exact(World.ownsRow.lt h.own q e).1
  ·have:=h.mod.size;omega
 have hql:=hp.lt;have hstep:∀c x,vk (im (RB w.heap.size b rv ids λj=>j=q) w1) w1 c x->rv.ownBlock≠some c->w.heap.size<=c->vk (im (RB w.heap.size b v5 (ids++[q]) λ_=>False) (w5.setCell ⟨b,1,none⟩ v5)) (w5.setCell ⟨b,1,none⟩ v5) c x:=λc x hx hc hcw=>
  (hx.step hup (hm15.block c hx.lt hc)).step hs (Below.heap_setCell _ _ _ _ (show c≠b by omega))
 refine⟨hrow,(zo.trans h.mod hm15 λj hj e=>by have:=(World.ownsRow.lt h.own j e).1;omega).setCell (λ_=>rfl) _,heap_setCell_same w5 b 1 _ _ _ hrow,?_,(h.name.mono hup).mono hs,?_,?_,?_⟩
 ·have:=j_ (b:=b) (i:=1) (u:=v5) (vD (base:=w.heap.size) ho hbase) (λq hq e=>by have:=hbase q hq;omega);simpa using this
 ·exact(h.perms.all λc hc x hx=>hstep c x hx (h.fresh c hc).2 (h.fresh c hc).1).append (.cons (hstep q p hp hqr hqw) .nil)
 ·exact List.nodup_append.2 ⟨h.nodup,by simp,by intro x hx y hy e;rw[List.mem_singleton]at hy;subst hy;subst e;exact hq hx⟩
 ·intro c hc;rcases List.mem_append.1 hc with hc|hc
  ·refine⟨(h.fresh c hc).1,λe=> ?_⟩;rcases hf c e with e2|e2
   ·exact(h.fresh c hc).2 e2
   ·obtain⟨i,hi,rfl⟩:=List.mem_iff_getElem.1 hc;have:=(h.perms.get i hi (by rw[<-h.perms.length];exact hi)).lt;omega
  ·rw[List.mem_singleton]at hc;subst hc;refine⟨hqw,λe=> ?_⟩;rcases hf c e with e2|e2
   ·exact hqr e2
   ·omega
theorem qT{w:World}{T:Nat}{x y:Value}(h:w.heap[b]? =some (.cells #[x,y] T (0,0))):
  w.cell? ⟨b,0,none⟩=some x/\w.cell? ⟨b,1,none⟩=some y/\w.frozen? ⟨b,0,none⟩=false/\w.frozen? ⟨b,1,none⟩=false:=
 ⟨by rw[cell_of_row w b 0 _ _ (0,0) h];rfl,by rw[cell_of_row w b 1 _ _ (0,0) h];rfl,by simp[World.frozen?,h],by simp[World.frozen?,h]⟩
theorem XJ.in{w:World}(h:XJ w w' q p)(hS:∀j,S j->j<w.heap.size):vk (im S w') w' q p:=by obtain⟨_,kv,ev,hrow,hk,he,hf⟩:=h;exact⟨kv,ev,hrow,(hk.mono (zd _ _)).im_of λj hj e=>by have:=hf j (Or.inl hj);have:=hS j e;omega,(he.mono (zd _ _)).im_of λj hj e=>by have:=hf j (Or.inr hj);have:=hS j e;omega⟩
theorem gG:∀u∈[ptr q],u.oneCell'=true:=by intro u hu;rw[List.mem_singleton]at hu;rw[hu];rfl
theorem WP{w:World}:XJ (w.alloc (.cells #[.int .i32 0,.slice none 0 0,.slice none 0 0] 112)) (w.alloc (.cells #[.int .i32 0,.slice none 0 0,.slice none 0 0] 112)) w.heap.size ⟨0,[],[]⟩:=
 ⟨zo.refl _ _,_,_,zg w _,Bs.nil _,Bs.nil _,λj e=>by rcases e with e|e<;>cases e⟩
variable{v:Value}
theorem Dq{w:World}{nv0 rv0:Value}{ids0:List Nat}{u0:Bytes×List zh}{fs:List RF}(h0:Z_ (λ_=>False) w w b u0 nv0 rv0 ids0)(hb:b<w.heap.size)(hr:r.le (im (λj=>j=b) w))(hfs:∀f∈fs,RF.ok f)(hlen:u0.2.length+fs.length<=1000)(hv:Bs r (zW (fs.map RF.fld)) v):
  Calls prog 311 #[ptr b,v] w λe w'=>e=.returned (.bool true)/\∃nv rv ids,Z_ (λ_=>False) w w' b (fs.foldl JM u0) nv rv ids:=by
 obtain⟨vp,vn,vc,rfl,_⟩:=hv.shape;have HR:=hid hr;clear hr;have H0:=hid h0;clear h0;have HV:=hid hv;clear hv;go_enter func311,ntmps311;go_wp2;go_loopg [1] (fs.length+1) (λgg zv wr=>∃(rest:List RF) (u1:Bytes×List zh) (nv rv:Value) (ids:List Nat),Bs r (zW (rest.map RF.fld)) zv/\(∀f∈rest,RF.ok f)/\Z_ (λ_=>False) w wr b u1 nv rv ids/\rest.foldl JM u1=fs.foldl JM u0/\rest.length<gg/\u1.2.length+rest.length<=1000)
 case atStart=>exact⟨fs,u0,_,_,_,HV.out,hfs,H0.out,rfl,by omega,hlen⟩
 case round=>
  obtain⟨rest,u1,nv,rv,ids,hbr,hfr,hpt,hfold,hlr,hlu⟩:=hrel;cases rest with
  |nil=>obtain⟨zp,zn,zc,rfl,hzn⟩:=hbr.shape;have hz:zn=0:=hzn.symm;subst hz;have HPT:=hid hpt;have HF:=hid hfold;clear hpt hfold hfr hfs;go_wp2;go_returns;exact⟨rfl,nv,rv,ids,by have:=HPT.out;rw[show u1=fs.foldl JM u0 from HF.out]at this;exact this⟩
  |cons f rest=>
   have hP:=hfr f (by simp);have hfr':∀g∈rest,RF.ok g:=λg hg=>hfr g (by simp[hg]);rw[List.map_cons,kW]at hbr;have HT:=hid (KY (w:=wr) (HR.out.le_trans ((hpt.mod.im λ_ _ e=>e).le_trans (zd (λj=>j=b) wr))) (RF.fok hP) hbr);obtain⟨zp,zn,zc,rfl,hzn⟩:=hbr.shape;have hz:(0:Int)<zn:=by have:=Kx f.fld;rw[<-hzn,List.length_append];omega
   have HPT:=hid hpt;have HF:=hid hfold;have HFR:=hid hfr';have HP:=hid hP;have HLU:=hid (show u1.2.length+rest.length+1<=1000 by simpa[Nat.add_assoc]using hlu);clear hpt hfold hfr hfs hfr' hP hbr hzn hlu;go_wp2_with fail;refine HT.out.mono ?_;rintro e w1 ⟨u,v1,rfl,hn1,g1,g2⟩;obtain⟨a,bb,d,px,nx,cx,rfl⟩:=g2.shape;obtain⟨p5,n5,c5,rfl,_⟩:=g1.shape;have G1:=hid g1;have PT1:=hid (HPT.out.new hn1);have hszr:wr.heap.size<=w1.heap.size:=hn1.size;clear g1 hn1;go_upto_region 6 with fail
   obtain⟨W,hW⟩:=zex (w1.alloc (.cells #[.int .i64 a,.bool bb,.int .i64 d,.slice px nx cx] 488));rw[<-hW];have hnW:za w1 W:=by rw[hW];exact(za.refl w1).alloc _
   have hrq:W.heap[w1.heap.size]? =some (.cells #[.int .i64 a,.bool bb,.int .i64 d,.slice px nx cx] 488 (0,0)):=by rw[hW];exact zg w1 _
   obtain⟨z0,z1,z2,z3,_⟩:=kZ hrq;have PTW:=hid (PT1.out.new hnW);have hrow:=PTW.out.row;obtain⟨x0,x1,y0,y1⟩:=qT hrow;have GW:=hid (g2.mono (Nat.le_refl _) hnW);clear hW hnW hrow g2 PT1;cases f with
   |N x=>
    obtain⟨rfl,rfl,rfl,hbx,hfx⟩:=Yz.B (k:=1) (x:=x) GW.out;have hbx':Bs (im (RB w.heap.size b rv ids λ_=>False) W) x (.slice px nx cx):=hbx.im_of λj hj e=>by have h1:=hfx j hj;have h2:=HPT.out.lt hb j e;omega
    have HBX:=hid hbx';clear hbx hfx hbx' hrq;go_wp2_with fail;go_roundg (gk-1)
    case rel=>exact⟨rest,_,_,_,_,G1.out,HFR.out,PTW.out.set0 hb HBX.out,HF.out,by simp at hlr;omega,by have:=HLU.out;simp only;omega⟩
    case measure=>simp at hlr;omega
   |P p=>
    obtain⟨rfl,rfl,rfl,hbx,hfx⟩:=Yz.B (k:=2) (x:=p.enc) GW.out;have hfl:=Dp HP.out;have HPK:=hid (Dm (w:=W.alloc (.cells #[.int .i32 0,.slice none 0 0,.slice none 0 0] 112)) (r:=W.cell?) (p0:=⟨0,[],[]⟩) (fs:=p.flds) (v:=.slice px nx cx) WP (by simp) (λa y ha=>zi.2 ⟨λe=>by have:=World.block_lt_of_cell? _ a ha;have e:a.block=W.heap.size:=e;omega,(za.le ((za.refl W).alloc _)) _ _ ha⟩) hfl.1 hbx);have HFL:=hid hfl.2;have z3':∀o,(W.alloc o).cell? ⟨w1.heap.size,3,none⟩=some (.slice px nx cx):=λo=>(za.le ((za.refl W).alloc o)) _ _ z3;clear hbx hfx hrq hfl;go_wp2_with fail;refine HPK.out.mono ?_;rintro e w4 ⟨rfl,hp4⟩;rw[HFL.out]at hp4;have hn4:za W w4:=zo.trans ((za.refl W).alloc _) hp4.1 (λj hj e=>by omega);have PT4:=hid (PTW.out.newX (X:=λj=>j=W.heap.size) hn4 (λj e=>Nat.le_of_eq e.symm));have hpa:=hp4.in (S:=RB w.heap.size b rv ids λj=>j=W.heap.size) (λj e=>by
     have h1:(W.alloc (.cells #[.int .i32 0,.slice none 0 0,.slice none 0 0] 112)).heap.size=W.heap.size+1:=Array.size_push ..
     rcases e with e|e|e
     ·have:=PTW.out.lt hb j (Or.inl e);omega
     ·have:=PTW.out.lt hb j (Or.inr (Or.inl e));omega
     ·omega)
    have HQ:=hid (show W.heap.size∉ids/\w.heap.size<=W.heap.size/\rv.ownBlock≠some W.heap.size from⟨λe=>Nat.lt_irrefl _ (PTW.out.lt hb _ (Or.inr (Or.inl e))),PTW.out.mod.size,λe=>Nat.lt_irrefl _ (PTW.out.lt hb _ (Or.inl (Or.inr e)))⟩);have HPA:=hid hpa;obtain⟨sp,sn,sc,rfl⟩:=(Sl.of_own PTW.out.own).shape;obtain⟨_,k1,_,l1⟩:=qT PT4.out.row;have hbd:((ids.map ptr).length+[ptr W.heap.size].length)*(8+1)<=140737488355328:=by have h1:=PT4.out.own.1;have h2:=HLU.out;rw[h1,List.length_singleton];omega
    have HBD:=hid hbd;clear hp4 hn4 hpa hbd x0 x1 y0 y1 z0 z1 z2 z3 z3';go_wp2_with (at_builtin;go_must (refine qN KZ rfl rfl (World.ownsRow.alloc (qK PT4.out.own 0 (Nat.zero_le _)) _) rfl rfl (news:=[ptr W.heap.size]) (Sl.made w4 [ptr W.heap.size] _ 1 1 rfl (by omega)) gG HBD.out ?_));intro v5 w5 ho hg hf5;obtain⟨p7,n7,c7,rfl⟩:=(Sl.of_own ho).shape;obtain⟨hrow5,hut⟩:=PT4.out.app hb HPA.out HQ.out.1 HQ.out.2.1 HQ.out.2.2 ho hg hf5;obtain⟨_,x2',_,y2'⟩:=qT hrow5;have HUT:=hid hut;clear ho hg hf5 hrow5 hut;go_wp2;go_roundg (gk-1)
    case rel=>exact⟨rest,_,_,_,_,G1.out,HFR.out,HUT.out,HF.out,by simp at hlr;omega,by have:=HLU.out;simp;omega⟩
    case measure=>simp at hlr;omega
theorem Z_.at{w:World}{n:Bytes}{ps:List zh}{rv:Value}{ids:List Nat}(h:Z_ (λ_=>False) w w' b (n,ps) nv rv ids)(hS:∀j,S j->j<w.heap.size/\j≠b):jz (im S w') b ⟨n,ps⟩:=by
 obtain⟨x0,x1,_⟩:=qT h.row;have hb: ¬S b:=λe=>(hS b e).2 rfl;have hle:(im (RB w.heap.size b rv ids λ_=>False) w').le (im S w'):=jq λj e=>Or.inl (Or.inl (Or.inr (hS j e).1));refine⟨⟨nv,zi.2 ⟨hb,x0⟩,h.name.mono hle⟩,rv,ids,zi.2 ⟨hb,x1⟩,?_,?_⟩
 ·obtain⟨p,m,c,rfl,hl,hm,hc,hp,hcells⟩:=Sl.of_own h.own;refine⟨p,m,c,rfl,hl,hm,hc,hp,?_⟩;rcases hcells with e|⟨g,o',rfl,hcc⟩
  ·exact Or.inl e
  ·refine Or.inr ⟨g,o',rfl,λi hi=>zi.2 ⟨λe=> ?_,hcc i hi⟩⟩;have h3:=(World.ownsRow.lt h.own g rfl).1;have:=(hS g e).1;omega
 ·refine h.perms.all λq hq p hp=> ?_;obtain⟨kv,ev,h1,h2,h3⟩:=hp;obtain⟨c0,c1,c2,_⟩:=Ux h1;have hq1: ¬S q:=λe=>by have:=(hS q e).1;have:=(h.fresh q hq).1;omega
  exact⟨zi.2 ⟨hq1,c0⟩,⟨kv,zi.2 ⟨hq1,c1⟩,h2.mono hle⟩,ev,zi.2 ⟨hq1,c2⟩,h3.mono hle⟩
variable{u:zj}
theorem Ds(h:jy u):(∀f∈u.flds,Dn f)/\u.flds.foldl YQ ([],[],false)=(u.name,u.roles,true):=by
 constructor
 ·intro f hf;unfold zj.flds fB at hf;rw[if_neg h.name0]at hf;simp only[List.mem_append,List.mem_singleton,List.mem_map]at hf;rcases hf with rfl|⟨x,hx,rfl⟩|rfl
  ·exact⟨Or.inl rfl,h.name0,by have:=h.name;omega⟩
  ·exact⟨Or.inr (Or.inl rfl),(h.roles0 x hx).1,by have:=(h.roles0 x hx).2;omega⟩
  ·exact⟨Or.inr (Or.inr rfl),by simp,by simp⟩
 ·have key:∀(l:List Bytes) (n:Bytes) (a:List Bytes),(l.map (jo.B 3)).foldl YQ (n,a,false)=(n,a++l,false):=by
   intro l
   induction l with
   |nil=>intro n a;simp
   |cons x l ih=>intro n a;rw[List.map_cons,List.foldl_cons,show YQ (n,a,false) (jo.B 3 x)=(n,a++[x],false)from rfl,ih];simp
  unfold zj.flds fB;rw[if_neg h.name0,List.foldl_append,List.foldl_append];show([jo.B 4 [8,1]]).foldl YQ ((u.roles.map (jo.B 3)).foldl YQ (u.name,[],false))=_;rw[key];rfl
theorem Yj(u:zj):u.flds.length<=u.roles.length+2:=by unfold zj.flds fB;split<;>simp
def zm.rfs(r:zm):List RF:=.N r.name::r.perms.map .P
theorem Dt{u:zm}(h:kD u):u.enc=zW (u.rfs.map RF.fld)/\(∀f∈u.rfs,RF.ok f)/\u.rfs.foldl JM ([],[])=(u.name,u.perms):=by
 refine⟨?_,?_,?_⟩
 ·unfold zm.enc zm.flds fB zm.rfs;rw[if_neg h.name0,List.map_cons,List.map_map];rfl
 ·intro f hf;unfold zm.rfs at hf;rcases List.mem_cons.1 hf with rfl|hf
  ·exact⟨h.name0,by have:=h.name;omega⟩
  ·obtain⟨p,hp,rfl⟩:=List.mem_map.1 hf;exact h.perms0 p hp
 ·have key:∀(l:List zh) (n:Bytes) (a:List zh),(l.map RF.P).foldl JM (n,a)=(n,a++l):=by
   intro l
   induction l with
   |nil=>intro n a;simp
   |cons x l ih=>intro n a;simp only[List.map_cons,List.foldl_cons,JM];rw[ih];simp
  unfold zm.rfs;rw[List.foldl_cons];show(u.perms.map RF.P).foldl JM (u.name,[])=_;rw[key];simp
theorem gH{w:World}(h:jd w.cell? b u)(hok:jy u):
  Calls prog 278 #[.iface 216 (ptr b)] w λe w'=>∃v',e=.returned (.tuple #[v',.nilIface])/\yW w w' v' u.enc:=by
 have H:=hid (WN h hok);clear h hok;go_enter func278,ntmps278;go_wp2_with fail;refine H.out.mono ?_;rintro e w1 ⟨v1,rfl,f1⟩;obtain⟨p1,n1,c1,rfl⟩:=f1.own.shape;have F1:=hid f1;clear f1 H;go_wp2;go_returns;exact⟨_,rfl,F1.out⟩
theorem gI{w:World}{u:zm}(h:jz w.cell? b u)(hok:kD u):
  Calls prog 278 #[.iface 223 (ptr b)] w λe w'=>∃v',e=.returned (.tuple #[v',.nilIface])/\yW w w' v' u.enc:=by
 have H:=hid (WO h hok);clear h hok;go_enter func278,ntmps278;go_wp2_with fail;refine H.out.mono ?_;rintro e w1 ⟨v1,rfl,f1⟩;obtain⟨p1,n1,c1,rfl⟩:=f1.own.shape;have F1:=hid f1;clear f1 H;go_wp2;go_returns;exact⟨_,rfl,F1.out⟩
def JN:Obj:=.cells #[.slice none 0 0,.slice none 0 0,.slice none 0 0,.pointer none] 222 (0,0)
def JO:Obj:=.cells #[.slice none 0 0,.slice none 0 0] 226 (0,0)
theorem WQ{w:World}(h:w.heap[b]? =some JN):Yi w w b ([],[],false) (.slice none 0 0) (.slice none 0 0) (.pointer none):=
 ⟨zo.refl _ _,h,World.ownsRow_nil _ _ _ _,Bs.nil _,rfl⟩
theorem WR{w:World}(h:w.heap[b]? =some JO):Z_ (λ_=>False) w w b ([],[]) (.slice none 0 0) (.slice none 0 0) []:=
 ⟨zo.refl _ _,h,World.ownsRow_nil _ _ _ _,Bs.nil _,.nil,List.nodup_nil,λ_ h=>by cases h⟩
theorem Qv{w:World}(h0:w.heap[b]? =some JN)(hr:r.le (im (λj=>j=b) w))(hok:jy u)(hv:Bs r u.enc v):
  Calls prog 284 #[v,.iface 216 (ptr b)] w λe w'=>e=.returned .nilIface/\∃nv rv ov,Yi w w' b (u.name,u.roles,true) nv rv ov:=by
 have hb:b<w.heap.size:=(Array.getElem?_eq_some_iff.1 h0).1;have hf:=Ds hok;have H:=hid (Do (WQ h0) hb hr hf.1 (by have:=Yj u;have:=hok.roles;simp;omega) hv);rw[hf.2]at H;obtain⟨p,n,c,rfl,_⟩:=hv.shape;clear h0 hr hok hv hb hf;go_enter func284,ntmps284;go_wp2_with fail;refine H.out.mono ?_;rintro e w1 ⟨rfl,h1⟩;have H1:=hid h1;clear h1 H;go_wp2;go_returns;exact⟨rfl,H1.out⟩
theorem Qw{w:World}{u:zm}(h0:w.heap[b]? =some JO)(hr:r.le (im (λj=>j=b) w))(hok:kD u)(hv:Bs r u.enc v):
  Calls prog 284 #[v,.iface 223 (ptr b)] w λe w'=>e=.returned .nilIface/\∃nv rv ids,Z_ (λ_=>False) w w' b (u.name,u.perms) nv rv ids:=by
 have hb:b<w.heap.size:=(Array.getElem?_eq_some_iff.1 h0).1;have hf:=Dt hok;rw[hf.1]at hv;have H:=hid (Dq (WR h0) hb hr hf.2.1 (by have:=hok.perms;simp[zm.rfs];omega) hv);rw[hf.2.2]at H;obtain⟨p,n,c,rfl,_⟩:=hv.shape;clear h0 hr hok hv hb hf;go_enter func284,ntmps284;go_wp2_with fail;refine H.out.mono ?_;rintro e w1 ⟨rfl,h1⟩;have H1:=hid h1;clear h1 H;go_wp2;go_returns;exact⟨rfl,H1.out⟩
variable{it:Nat}
theorem Uy{w:World}{s:Nat}{c:Array Value}{T:TypeId}(hs:w.heap[s]? =some (.cells c T (0,0)))(hi:w.heap[it]? =some (.cells #[ptr s,.int .i64 0,ptr s] 282 (0,0)))(hne:s≠it):q_ r w (λj=>j=s\/j=it) s it []where
 ex:=⟨λ_=>zcW,s,.nil,0,λi hi=>by simp[Tr.ids]at hi,hi,λi hi=>by simp[Tr.ids]at hi,⟨rfl,trivial,⟨rfl,rfl⟩,trivial,by simp[Tr.ids,zC],by simp[Tr.ids,zC]⟩,λh=>absurd rfl h,⟨by simp[vh,zK,Tr.ids],by simp[zK,Tr.ids]⟩,by simp[zK,Tr.ids],λi hi=>by simp[Tr.ids]at hi,by simp[Tr.ids]⟩
 cs:=⟨_,_,hs⟩
 fs:=Or.inl rfl
 fi:=Or.inr rfl
 ne:=hne
theorem uA{w:World}:
  Calls prog 64 #[] w λe w'=>∃s it,e=.returned (.iface 280 (ptr it))/\za w w'/\w.heap.size<=s/\w.heap.size<=it/\s<w'.heap.size/\it<w'.heap.size/\q_ r w' (λj=>j=s\/j=it) s it []:=by
 go_enter func64,ntmps64;go_wp2;go_returns;have h1:za w (w.alloc (.cells #[.nilIface,.nilIface,.nilIface,.nilIface,.pointer none,.pointer none,.pointer none,.int .i64 0] 279)):=(za.refl w).alloc _;have hs1:(w.alloc (.cells #[.nilIface,.nilIface,.nilIface,.nilIface,.pointer none,.pointer none,.pointer none,.int .i64 0] 279)).heap.size=w.heap.size+1:=Array.size_push ..
 have hr1:=zg w (.cells #[.nilIface,.nilIface,.nilIface,.nilIface,.pointer none,.pointer none,.pointer none,.int .i64 0] 279);generalize w.alloc (.cells #[.nilIface,.nilIface,.nilIface,.nilIface,.pointer none,.pointer none,.pointer none,.int .i64 0] 279)=w1 at h1 hs1 hr1⊢;have h2:za w1 (w1.alloc (.cells #[ptr w.heap.size,.int .i64 0,ptr w.heap.size] 282)):=(za.refl w1).alloc _;have hr2:=zg w1 (.cells #[ptr w.heap.size,.int .i64 0,ptr w.heap.size] 282);have hs2:(w1.alloc (.cells #[ptr w.heap.size,.int .i64 0,ptr w.heap.size] 282)).heap.size=w1.heap.size+1:=Array.size_push ..
 have e1:=Nat.le_of_eq hs2.symm;rw[hs1]at e1;rw[hs1]at hr2;exact⟨w.heap.size,w.heap.size+1,rfl,h1.trans h2,Nat.le_refl _,by omega,Nat.lt_of_lt_of_le (by omega) e1,Nat.lt_of_lt_of_le (by omega) e1,Uy (h2.heap hr1) hr2 (by omega)⟩
variable{c n:Nat}
theorem xh{w:World}{p q:Option Addr}{m d:Nat}:
  Calls prog 65 #[.slice p n c,.slice q m d] w λe w'=>e=.returned (.agg #[.iface 283 (.slice p n c),.iface 283 (.slice q m d)])/\za w w':=by
 go_enter func65,ntmps65;go_wp2;obtain⟨w1,hw1⟩:=zex (w.alloc (.cells #[.iface 283 (.slice p n c),.iface 283 (.slice q m d)] 230));rw[<-hw1];have hn:za w w1:=by rw[hw1];exact(za.refl w).alloc _
 have hr1:w1.heap[w.heap.size]? =some (.cells #[.iface 283 (.slice p n c),.iface 283 (.slice q m d)] 230 (0,0)):=by rw[hw1];exact zg w _
 obtain⟨r0,r1,_⟩:=qT hr1;refine bodyPost_ret (by simp[results,results65,go_sem,r0,r1];try rfl) rfl ?_;exact⟨rfl,hn⟩
theorem WS{w:World}{T:Nat}{l:Bytes}(h:w.heap[b]? =some (.cells (l.map qr).toArray T (0,0)))(hl:l.length=n)(hn:n<=9223372036854775807):Bs w.cell? l (.slice (some ⟨b,0,none⟩) n n):=by refine Bs.of_sl ⟨_,_,_,rfl,by simp[hl],Nat.le_refl _,hn,(λh=>by cases h),Or.inr ⟨_,_,rfl,λi hi=> ?_⟩⟩;rw[cell_of_row w _ _ _ _ (0,0) h,Nat.zero_add,List.getElem?_toArray,List.getElem?_eq_getElem hi]
theorem K0(w:World)(n:Nat)(hn:n<=1000001):(Instr.makeSlice 75 (.int .i64 n) (.int .i64 n)).run prog w=.ok (.slice (some ⟨w.heap.size,0,none⟩) n n) (w.alloc (.cells (List.replicate n (Value.int .u8 0)).toArray 5)):=by
 obtain⟨i,hi,hz,hsz,hby⟩:=info_parts jD.info;have h:=run_make (P:=prog) w 75 5 i _ jD.under hi hz .i64 .i64 n n (by omega) (by omega) (by rw[hby];omega) (by omega);rw[hsz]at h;have e:madeCells (Value.int .u8 0).cells (n*1)=(List.replicate n (Value.int .u8 0)).toArray:=by rw[Nat.mul_one];apply Array.toList_inj.1;show(madeCells #[Value.int .u8 0] n).toList=_;rw[toList_madeCells_one]
 simp only[Int.toNat_natCast]at h;rw[h,e]
theorem XL{w:World}{l:Bytes}(h:Bs w.cell? l v)(hl:l.length<=1000000):
  Calls prog 66 #[v] w λe w'=>∃u,e=.returned (.agg #[.iface 283 v,.iface 283 u])/\za w w'/\Bs w'.cell? (l++[0]) u/\∀j,u.ownBlock=some j->w.heap.size<=j:=by
 obtain⟨p,n,c,rfl,hn⟩:=h.shape;have H:=hid h;have hmk:=K0 (w.alloc (.cells #[.nilIface,.nilIface] 230)) (n+1) (by omega);rw[show((n+1:Nat):Int)=(n:Int)+1 by omega]at hmk;have hs0:(w.alloc (.cells #[.nilIface,.nilIface] 230)).heap.size=w.heap.size+1:=Array.size_push ..
 rw[hs0]at hmk;obtain⟨W1,hW1⟩:=zex ((w.alloc (.cells #[.nilIface,.nilIface] 230)).alloc (.cells (List.replicate (n+1) (Value.int .u8 0)).toArray 5));rw[<-hW1]at hmk;have hN1:za w W1:=by rw[hW1];exact((za.refl w).alloc _).alloc _
 have hrow0:W1.heap[w.heap.size]? =some (.cells #[.nilIface,.nilIface] 230 (0,0)):=by rw[hW1];exact za.heap ((za.refl _).alloc _) (zg w _)
 have hrow1:W1.heap[w.heap.size+1]? =some (.cells (List.replicate (n+1) (Value.int .u8 0)).toArray 5 (0,0)):=by rw[hW1,<-hs0];exact zg _ _
 have hD:Sl W1.cell? 1 (List.replicate (n+1) (Value.int .u8 0)) (.slice (some ⟨w.heap.size+1,0,none⟩) (n+1) (n+1)):=by rw[hW1,<-hs0];exact Sl.made _ _ _ 1 (n+1) (by simp) (by omega)
 have HD:=hid hD;have HR0:=hid hrow0;have HR1:=hid hrow1;have HN1:=hid hN1;have HW1:=hid hW1;clear hD hrow0 hrow1 hN1 hW1 hs0;have HFIT:Hid (0+min (l.map qr).length (List.replicate (n+1) (Value.int .u8 0)).length<=(List.replicate (n+1) (Value.int .u8 0)).length):=hid (by rw[List.length_replicate];omega);go_enter func66,ntmps66;go_wp2_with (refine Xt jD rfl rfl rfl rfl HD.out (Bs.sl (H.out.mono (za.le HN1.out))) (jH l) (cur:=List.replicate (n+1) (Value.int .u8 0)) HR1.out (λ_=>⟨_,_,rfl⟩) HFIT.out ?_);intro w7 hr7 hm7;have hrow7:w7.heap[w.heap.size+1]? =some (.cells ((l++[0]).map qr).toArray 5 (0,0)):=by
  rw[hr7.out];have e1:(l.map qr).take (n+1)=l.map qr:=List.take_of_length_le (by simp;omega);rw[e1];unfold splice;rw[List.take_zero,List.nil_append,List.length_map,hn,Nat.zero_add,List.drop_replicate,List.map_append];have e2:n+1-n=1:=by omega
  rw[e2];rfl
 have hn7:w7.heap[w.heap.size]? =some (.cells #[.nilIface,.nilIface] 230 (0,0)):=by rw[hm7.block _ ((Array.getElem?_eq_some_iff.1 HR0.out).1) (by omega)];exact HR0.out
 have hc7:w7.cell? ⟨w.heap.size+1,n,none⟩=some (.int .u8 0):=by rw[cell_of_row w7 _ n _ _ (0,0) hrow7];simp[<-hn]
 have hf7:w7.frozen? ⟨w.heap.size+1,n,none⟩=false:=by simp[World.frozen?,hrow7]
 have hc8:(w7.setCell ⟨w.heap.size+1,n,none⟩ (.int .u8 0)).heap[w.heap.size+1]? =some (.cells ((l++[0]).map qr).toArray 5 (0,0)):=by
  rw[heap_setCell_same w7 _ n _ _ _ hrow7];have e3:((l++[0]).map qr).toArray.setIfInBounds n (Value.int .u8 0)=((l++[0]).map qr).toArray:=by apply Array.toList_inj.1;simp[<-hn]
  rw[e3]
 have hn8:(w7.setCell ⟨w.heap.size+1,n,none⟩ (.int .u8 0)).heap[w.heap.size]? =some (.cells #[.nilIface,.nilIface] 230 (0,0)):=by rw[Below.heap_setCell _ _ _ _ (by simp)];exact hn7
 have hN8:za w (w7.setCell ⟨w.heap.size+1,n,none⟩ (.int .u8 0)):=zo.setCell (zo.trans HN1.out hm7 λj hj e=>by omega) (λh=>by simp only at h;omega) _;have HC8:=hid hc8;have HN8:=hid hN8;have HH8:=hid hn8;clear hc8 hN8 hn8 hr7 hm7 hrow7 hn7;obtain⟨w8,hw8⟩:=zex (w7.setCell ⟨w.heap.size+1,n,none⟩ (.int .u8 0));rw[<-hw8]at HC8 HN8 HH8;have HW8:=hid hw8;clear hw8;go_wp2_with fail;rw[<-HW8.out];refine xh.mono ?_;rintro e w9 ⟨rfl,hn9⟩;obtain⟨r0,r1,f0,f1⟩:=qT (hn9.heap HH8.out);have HN9:=hid hn9;have HR9:=hid (hn9.heap HH8.out);clear hn9;go_wp2_with fail;obtain⟨w6,hw6⟩:=zex ((w9.setCell ⟨w.heap.size,0,none⟩ (.iface 283 (.slice p n c))).setCell ⟨w.heap.size,1,none⟩ (.iface 283 (.slice (some ⟨w.heap.size+1,0,none⟩) (n+1) (n+1))));rw[<-hw6];have hr6:w6.heap[w.heap.size]? =some (.cells #[.iface 283 (.slice p n c),.iface 283 (.slice (some ⟨w.heap.size+1,0,none⟩) (n+1) (n+1))] 230 (0,0)):=by
  rw[hw6];exact heap_setCell_same _ _ 1 _ _ _ (heap_setCell_same _ _ 0 _ _ _ HR9.out)
 have hm6:zo (λj=>j=w.heap.size) w9 w6:=by rw[hw6];exact((zo.refl (λj=>j=w.heap.size) w9).setCell (p:=⟨w.heap.size,0,none⟩) (λ_=>rfl) _).setCell (p:=⟨w.heap.size,1,none⟩) (λ_=>rfl) _
 obtain⟨k0,k1,_⟩:=qT hr6;refine bodyPost_ret (by simp[results,results66,go_sem,k0,k1];try rfl) rfl ?_;have hn9:za w w9:=za.trans HN8.out HN9.out;have hb6:w6.heap[w.heap.size+1]? =some (.cells ((l++[0]).map qr).toArray 5 (0,0)):=by rw[hm6.block _ (Nat.lt_of_lt_of_le (Array.getElem?_eq_some_iff.1 HC8.out).1 (za.mod HN9.out (λ_=>False)).size) (by omega)];exact za.heap HN9.out HC8.out
 refine⟨_,rfl,zo.trans hn9 hm6 (λj hj e=>by omega),?_,λj hj=> ?_⟩
 ·exact WS hb6 (by simp[hn]) (by omega)
 ·simp only[Value.ownBlock,Option.some.injEq]at hj;omega
structure Du(Q:World->Prop)(S:Nat->Prop)(T:TypeId)(v:Value)(f:FuncId)(rc:Value)(C:zF->yu):Prop where
 new:∀W W',Q W->za W W'->Q W'
 lt:∀W,Q W->∀j,S j->j<W.heap.size
 meth:∀W,(method 608 T v "UnsafeRange").run prog W=.ok (f,rc) W
 nil:∀W,(nilAhead 608 T v "UnsafeRange").run prog W=.ok (some false) W
 enter:∀args W,(callFunc f args).run prog W=.ok (.enter f args) W
 range:∀(b:zF) (W:World) (k:Bytes) (kv:Value) (lim:Int),Q W->Bs (im S W) k kv->Calls prog f #[rc,b.val,kv,.slice none 0 0,.int .i64 lim] W λe w'=>∃ks vs,e=.returned (.tuple #[ks,vs])/\Q w'/\zo S W w'/\qQ (im S w') (qZ (C b) k).toList vs
theorem GF(S:Nat->Prop)(w:World)(o:Obj):(im S w).le (im (λj=>j=w.heap.size) (w.alloc o)):=λa y ha=>by have h1:=(zi.1 ha).2;refine zi.2 ⟨λe=> ?_,za.le ((za.refl w).alloc o) _ _ h1⟩;have:=World.block_lt_of_cell? _ a h1;have e:a.block=w.heap.size:=e;omega
def kg(w w':World)(e:Ending):Option zj->Prop
 |none=>e=.returned (.pointer none)
 |some u=>∃b wm nv rv ov,e=.returned (ptr b)/\w.heap.size<=b/\b<wm.heap.size/\Yi wm w' b (u.name,u.roles,true) nv rv ov
variable{lg rc:Value}
theorem K5{Q:World->Prop}{T:TypeId}{f:FuncId}{C:zF->yu}{w:World}{n:Bytes}{o:Option zj}(h:Du Q S T v f rc C)(hq:Q w)(hn:n.length<=1000)(hg:qZ (C .users) n=o.map zj.enc)(ho:∀u,o=some u->jy u):
  Calls prog 277 #[lg,.iface T v,zb n] w λe w'=>Q w'/\zo S w w'/\kg w w' e o:=by
 obtain⟨kv,wc,hrun,hnc,hbc,⟨kn,kc,rfl⟩,hlt⟩:=jQ (P:=prog) w.drew 9 75 5 (l:=n) (u:=.string) (by kernel_rfl) (by kernel_rfl) (by kernel_rfl) (by omega);have HNC:=hid (show za w wc from za.trans ((za.refl w).drew) hnc);have hqc:=h.new _ _ hq HNC.out;have hbk:Bs (im S wc) n (.slice (some ⟨w.heap.size,0,none⟩) kn kc):=hbc.im_of λj hj e=>by have:=h.lt _ hq j e;simp only[Value.ownBlock,Option.some.injEq]at hj;have e2:w.drew.heap.size=w.heap.size:=rfl;omega
 have HRG:=hid (h.range .users wc n _ 0 hqc hbk);have hmeth:=h.meth;have hnil:=h.nil;have hent:=h.enter;have HA:=hid (λW=>kF W);have H:=hid h;have HG:=hid hg;have HO:=hid ho;have e0:w.drew.heap.size=w.heap.size:=rfl;rw[e0]at hrun;unfold zb;generalize(⟨n.toArray⟩:ByteArray)=sx at hrun⊢;clear hbc hlt hnc hqc hbk h hq hg ho;go_enter func277,ntmps277;go_upto_region 1 with fail
 go_cut [8]from 11 to 22 (λc wx=>Q wx/\zo S w wx/\qQ (im S wx) (qZ (C .users) n).toList c)
 case first=>
  go_region_with (first|(go_at_call 216;refine(HA.out _).mono ?_;rintro e w1 ⟨rfl,rfl⟩)|(refine HRG.out.mono ?_;rintro e w1 ⟨ks,vs,rfl,hq1,hm1,hl1⟩))
  all_goals(
   have HQ1:=hid (And.intro hq1 (And.intro hm1 hl1));clear hq1 hm1 hl1;go_wp2_with fail;go_meet;exact⟨HQ1.out.1,zo.trans (HNC.out.mod S) HQ1.out.2.1 λ_ _ e=>e,HQ1.out.2.2⟩)
 case rest=>
  obtain⟨hq1,hm1,hl1⟩:=hcut;rw[HG.out]at hl1;have HQ:=hid hq1;have HM:=hid hm1;clear hq1 hm1 HG hrun hmeth hnil hent HRG HA;cases o with
  |none=>obtain⟨cs,hs,ha⟩:=hl1;cases ha;obtain⟨p,n8,c8,rfl⟩:=hs.shape;have hn8:=hs.addr.1;have hn8:n8=0:=hn8.symm;subst hn8;clear hs;go_wp2;go_returns;exact⟨HQ.out,HM.out,rfl⟩
  |some u=>
   obtain⟨cs,hs,ha⟩:=hl1;cases ha with
   |cons hb hrest=>
    cases hrest;rename_i vv;obtain⟨p,n8,c8,rfl⟩:=hs.shape;have hn8:n8=1:=hs.addr.1.symm;subst hn8;obtain⟨ob,oo,rfl⟩:=hs.addr.2 (by simp);have hcell:=zd _ _ _ _ (hs.cellAt 0 (by simp));simp only[Nat.add_zero,List.getElem_cons_zero]at hcell;obtain⟨vp,vn,vc,rfl,_⟩:=hb.shape;have hcell':∀ob',(wc.alloc ob').cell? ⟨ob,oo,none⟩=some (.slice vp vn vc):=λob'=>za.le ((za.refl wc).alloc ob') _ _ hcell;have HU:=hid (Qv (w:=wc.alloc JN) (r:=im S wc) (b:=wc.heap.size) (zg wc _) (GF S wc _) (HO.out u rfl) hb);unfold JN at HU;have hszc:w.heap.size<=wc.heap.size:=HM.out.size;clear hs hb hcell;go_wp2_with fail;refine HU.out.mono ?_;rintro e w5 ⟨rfl,nv,rv,ov,hu⟩;have HUT:=hid hu;clear hu HU;go_wp2;go_returns;have hn5:za wc w5:=zo.trans ((za.refl wc).alloc _) HUT.out.mod λj hj e=>by omega
    have hszn:(wc.alloc (.cells #[.slice none 0 0,.slice none 0 0,.slice none 0 0,.pointer none] 222)).heap.size=wc.heap.size+1:=Array.size_push ..
    exact⟨H.out.new _ _ HQ.out hn5,zo.trans HM.out (hn5.mod S) λ_ _ e=>e,_,_,nv,rv,ov,rfl,hszc,by rw[hszn];omega,HUT.out⟩
def jN(w w':World)(e:Ending):Option zm->Prop
 |none=>e=.returned (.pointer none)
 |some u=>∃b wm nv rv ids,e=.returned (ptr b)/\w.heap.size<=b/\b<wm.heap.size/\Z_ (λ_=>False) wm w' b (u.name,u.perms) nv rv ids
theorem K6{Q:World->Prop}{T:TypeId}{f:FuncId}{C:zF->yu}{w:World}{n:Bytes}{o:Option zm}(h:Du Q S T v f rc C)(hq:Q w)(hn:n.length<=1000)(hg:qZ (C .roles) n=o.map zm.enc)(ho:∀u,o=some u->kD u):
  Calls prog 276 #[lg,.iface T v,zb n] w λe w'=>Q w'/\zo S w w'/\jN w w' e o:=by
 obtain⟨kv,wc,hrun,hnc,hbc,⟨kn,kc,rfl⟩,hlt⟩:=jQ (P:=prog) w.drew 9 75 5 (l:=n) (u:=.string) (by kernel_rfl) (by kernel_rfl) (by kernel_rfl) (by omega);have HNC:=hid (show za w wc from za.trans ((za.refl w).drew) hnc);have hqc:=h.new _ _ hq HNC.out;have hbk:Bs (im S wc) n (.slice (some ⟨w.heap.size,0,none⟩) kn kc):=hbc.im_of λj hj e=>by have:=h.lt _ hq j e;simp only[Value.ownBlock,Option.some.injEq]at hj;have e2:w.drew.heap.size=w.heap.size:=rfl;omega
 have HRG:=hid (h.range .roles wc n _ 0 hqc hbk);have hmeth:=h.meth;have hnil:=h.nil;have hent:=h.enter;have HA:=hid (λW=>kG W);have H:=hid h;have HG:=hid hg;have HO:=hid ho;have e0:w.drew.heap.size=w.heap.size:=rfl;rw[e0]at hrun;unfold zb;generalize(⟨n.toArray⟩:ByteArray)=sx at hrun⊢;clear hbc hlt hnc hqc hbk h hq hg ho;go_enter func276,ntmps276;go_upto_region 1 with fail
 go_cut [8]from 11 to 22 (λc wx=>Q wx/\zo S w wx/\qQ (im S wx) (qZ (C .roles) n).toList c)
 case first=>
  go_region_with (first|(go_at_call 217;refine(HA.out _).mono ?_;rintro e w1 ⟨rfl,rfl⟩)|(refine HRG.out.mono ?_;rintro e w1 ⟨ks,vs,rfl,hq1,hm1,hl1⟩))
  all_goals(
   have HQ1:=hid (And.intro hq1 (And.intro hm1 hl1));clear hq1 hm1 hl1;go_wp2_with fail;go_meet;exact⟨HQ1.out.1,zo.trans (HNC.out.mod S) HQ1.out.2.1 λ_ _ e=>e,HQ1.out.2.2⟩)
 case rest=>
  obtain⟨hq1,hm1,hl1⟩:=hcut;rw[HG.out]at hl1;have HQ:=hid hq1;have HM:=hid hm1;clear hq1 hm1 HG hrun hmeth hnil hent HRG HA;cases o with
  |none=>obtain⟨cs,hs,ha⟩:=hl1;cases ha;obtain⟨p,n8,c8,rfl⟩:=hs.shape;have hn8:=hs.addr.1;have hn8:n8=0:=hn8.symm;subst hn8;clear hs;go_wp2;go_returns;exact⟨HQ.out,HM.out,rfl⟩
  |some u=>
   obtain⟨cs,hs,ha⟩:=hl1;cases ha with
   |cons hb hrest=>
    cases hrest;rename_i vv;obtain⟨p,n8,c8,rfl⟩:=hs.shape;have hn8:n8=1:=hs.addr.1.symm;subst hn8;obtain⟨ob,oo,rfl⟩:=hs.addr.2 (by simp);have hcell:=zd _ _ _ _ (hs.cellAt 0 (by simp));simp only[Nat.add_zero,List.getElem_cons_zero]at hcell;obtain⟨vp,vn,vc,rfl,_⟩:=hb.shape;have hcell':∀ob',(wc.alloc ob').cell? ⟨ob,oo,none⟩=some (.slice vp vn vc):=λob'=>za.le ((za.refl wc).alloc ob') _ _ hcell;have HU:=hid (Qw (w:=wc.alloc JO) (r:=im S wc) (b:=wc.heap.size) (zg wc _) (GF S wc _) (HO.out u rfl) hb);unfold JO at HU;have hszc:w.heap.size<=wc.heap.size:=HM.out.size;clear hs hb hcell;go_wp2_with fail;refine HU.out.mono ?_;rintro e w5 ⟨rfl,nv,rv,ids,hu⟩;have HUT:=hid hu;clear hu HU;go_wp2;go_returns;have hn5:za wc w5:=zo.trans ((za.refl wc).alloc _) HUT.out.mod λj hj e=>by omega
    have hszn:(wc.alloc (.cells #[.slice none 0 0,.slice none 0 0] 226)).heap.size=wc.heap.size+1:=Array.size_push ..
    exact⟨H.out.new _ _ HQ.out hn5,zo.trans HM.out (hn5.mod S) λ_ _ e=>e,_,_,nv,rv,ids,rfl,hszc,by rw[hszn];omega,HUT.out⟩
def Qx:Bytes:=[97,117,116,104,69,110,97,98,108,101,100]
def xK:Bytes:=[97,117,116,104,82,101,118,105,115,105,111,110]
theorem xi{w:World}{T:Nat}{fr:Nat×Nat}{l:Bytes}(hl:l.length=n)(hn:n<=9223372036854775807):Bs (w.alloc (.cells (l.map qr).toArray T fr)).cell? l (.slice (some ⟨w.heap.size,0,none⟩) n n):=by refine Bs.of_sl ⟨_,_,_,rfl,by simp[hl],Nat.le_refl _,hn,(λh=>by cases h),Or.inr ⟨_,_,rfl,λi hi=> ?_⟩⟩;rw[World.cell?_alloc_mark,Nat.zero_add,List.getElem?_toArray,List.getElem?_eq_getElem hi]
theorem JP{w:World}:Calls prog 281 #[] w λe w'=>∃v,e=.returned v/\za w w'/\Bs w'.cell? Qx v/\∀j,v.ownBlock=some j->w.heap.size<=j:=by
 have kc:=λ(w:World) (C:Array Value) (n c:Nat)=>Lib.run_convert_bytes_const (P:=prog) w 75 5 C n c (by kernel_rfl) (by kernel_rfl);go_enter func281,ntmps281;go_wp2;go_returns;refine⟨_,rfl,(za.refl w).alloc _,?_,λj hj=> ?_⟩
 ·exact xi (l:=Qx) (n:=11) rfl (by decide)
 ·exact Nat.le_of_eq (Option.some.inj hj)
theorem YS{w:World}:Calls prog 283 #[] w λe w'=>∃v,e=.returned v/\za w w'/\Bs w'.cell? xK v/\∀j,v.ownBlock=some j->w.heap.size<=j:=by
 have kc:=λ(w:World) (C:Array Value) (n c:Nat)=>Lib.run_convert_bytes_const (P:=prog) w 75 5 C n c (by kernel_rfl) (by kernel_rfl);go_enter func283,ntmps283;go_wp2;go_returns;refine⟨_,rfl,(za.refl w).alloc _,?_,λj hj=> ?_⟩
 ·exact xi (l:=xK) (n:=12) rfl (by decide)
 ·exact Nat.le_of_eq (Option.some.inj hj)
def WT:Option Bytes->Bool
 |some x=>x==[1]
 |none=>false
theorem YT{Q:World->Prop}{T:TypeId}{f:FuncId}{C:zF->yu}{w:World}(h:Du Q S T v f rc C)(hq:Q w):
  Calls prog 279 #[.iface T v] w λe w'=>e=.returned (.bool (WT (qZ (C .auth) Qx)))/\Q w'/\zo S w w':=by
 have HRG:Hid (∀W kv,za w W->Bs W.cell? Qx kv->(∀j,kv.ownBlock=some j->w.heap.size<=j)->Calls prog f #[rc,zF.val .auth,kv,.slice none 0 0,.int .i64 0] W λe w'=>∃ks vs,e=.returned (.tuple #[ks,vs])/\Q w'/\zo S W w'/\qQ (im S w') (qZ (C .auth) Qx).toList vs):=hid λW kv hn hk hf=>
  h.range .auth W Qx kv 0 (h.new _ _ hq hn) (hk.im_of λj hj e=>by have:=h.lt _ hq j e;have:=hf j hj;omega)
 have hmeth:=h.meth;have hnil:=h.nil;have hent:=h.enter;have HA:=hid (λW=>Qj W);have HK:Hid (∀W,za w W->Calls prog 281 #[] W λe w'=>∃kv,e=.returned kv/\za w w'/\Bs w'.cell? Qx kv/\∀j,kv.ownBlock=some j->w.heap.size<=j):=hid λW hW=>JP.mono λe w' ⟨kv,h1,h2,h3,h4⟩=>⟨kv,h1,hW.trans h2,h3,λj hj=>Nat.le_trans (za.mod hW (λ_=>False)).size (h4 j hj)⟩;have H:=hid h;clear h hq;go_enter func279,ntmps279;go_upto_region 1 with fail
 go_cut [4]from 5 to 15 (λc wx=>Q wx/\zo S w wx/\qQ (im S wx) (qZ (C .auth) Qx).toList c)
 case first=>
  go_region_with (first|(go_at_call 215;refine(HA.out _).mono ?_;rintro e w1 ⟨rfl,rfl⟩)|(go_at_call 281;refine(HK.out _ ((za.refl w).drew)).mono ?_;rintro e w2 ⟨kv,rfl,hkn,hkb,hkf⟩)|(refine(HRG.out _ _ hkn hkb hkf).mono ?_;rintro e w3 ⟨ks,vs,rfl,hq1,hm1,hl1⟩))
  all_goals(
   have HQ1:=hid (And.intro hq1 (And.intro (zo.trans (hkn.mod S) hm1 λ_ _ e=>e) hl1));clear hq1 hm1 hl1;go_wp2_with fail;go_meet;exact HQ1.out)
 case rest=>
  obtain⟨hq1,hm1,hl1⟩:=hcut;obtain⟨o,ho⟩:∃o,qZ (C .auth) Qx=o:=⟨_,rfl⟩;rw[ho]at hl1;have HO:=hid ho;clear ho;have HQ:=hid hq1;have HM:=hid hm1;clear hq1 hm1 hmeth hnil hent HRG HA HK;cases o with
  |none=>obtain⟨cs,hs,ha⟩:=hl1;cases ha;obtain⟨p,n8,c8,rfl⟩:=hs.shape;have hn8:n8=0:=hs.addr.1.symm;subst hn8;clear hs;go_wp2;go_returns;exact⟨by rw[HO.out];rfl,HQ.out,HM.out⟩
  |some x=>
   obtain⟨cs,hs,ha⟩:=hl1;cases ha with
   |cons hb hrest=>
    cases hrest;obtain⟨p,n8,c8,rfl⟩:=hs.shape;have hn8:n8=1:=hs.addr.1.symm;subst hn8;obtain⟨ob,oo,rfl⟩:=hs.addr.2 (by simp);have hcell:=zd _ _ _ _ (hs.cellAt 0 (by simp));simp only[Nat.add_zero,List.getElem_cons_zero]at hcell;obtain⟨vp,vn,vc,rfl,_⟩:=hb.shape;have hn1:za wc (wc.alloc (.cells (([1]:Bytes).map qr).toArray 5)):=(za.refl wc).alloc _;have HE:=hid (qh (w:=wc.alloc (.cells (([1]:Bytes).map qr).toArray 5)) ((hb.mono (zd _ _)).mono (za.le hn1)) (xi (w:=wc) (l:=[1]) (n:=1) rfl (by decide)));have HN1:=hid hn1;clear hs hb hn1;go_wp2_with fail;refine HE.out.mono ?_;rintro e w5 ⟨rfl,rfl⟩;by_cases hx:(x==[1])=true
    ·rw[hx];go_wp2;go_returns;exact⟨by rw[HO.out,show WT (some x)=(x==[1])from rfl,hx];rfl,H.out.new _ _ HQ.out HN1.out,zo.trans HM.out (za.mod HN1.out S) λ_ _ e=>e⟩
    ·have hx:(x==[1])=false:=by simpa using hx
     rw[hx];go_wp2;go_returns;exact⟨by rw[HO.out,show WT (some x)=(x==[1])from rfl,hx];rfl,H.out.new _ _ HQ.out HN1.out,zo.trans HM.out (za.mod HN1.out S) λ_ _ e=>e⟩
def VW(n:Nat):Bytes:=[0,0,0,0,0,0,0,UInt8.ofNat n]
theorem WU{w:World}(hn:n<256)(h:Bs w.cell? (VW n) v):
  Calls prog 288 #[v] w λe w'=>e=.returned (.int .u64 n)/\w=w':=by
 obtain⟨b,o,m,c,rfl,hm,_⟩:=h.at (by simp[VW]);have hm8:m=8:=hm.symm;subst hm8;have c0:=h.cellAt 0 (by simp[VW]);have c1:=h.cellAt 1 (by simp[VW]);have c2:=h.cellAt 2 (by simp[VW]);have c3:=h.cellAt 3 (by simp[VW]);have c4:=h.cellAt 4 (by simp[VW]);have c5:=h.cellAt 5 (by simp[VW]);have c6:=h.cellAt 6 (by simp[VW]);have c7:=h.cellAt 7 (by simp[VW]);have hb:qr (UInt8.ofNat n)=.int .u8 n:=by show Value.int .u8 ((UInt8.ofNat n).toNat:Int)=_;rw[UInt8.toNat_ofNat',Nat.mod_eq_of_lt (by omega)]
 have hz:qr 0=.int .u8 0:=rfl;simp only[VW,List.getElem_cons_zero,List.getElem_cons_succ,hz,hb,Nat.add_zero]at c0 c1 c2 c3 c4 c5 c6 c7;have ho:bits .or .u64 0 (n:Int)=n:=by have:=bits_or_u64_nat 0 n (by decide) (by omega);rw[Nat.zero_or]at this;exact this
 have ho0:bits .or .u64 0 0=0:=by have:=bits_or_u64_nat 0 0 (by decide) (by decide);exact this
 clear h;go_enter func288,ntmps288;go_wp2;refine wp_loop_rounds 9 ?_;rw[rounds_succ];go_wp2;rw[rounds_succ];go_wp2;rw[rounds_succ];go_wp2;rw[rounds_succ];go_wp2;rw[rounds_succ];go_wp2;rw[rounds_succ];go_wp2;rw[rounds_succ];go_wp2;rw[rounds_succ];go_wp2;rw[rounds_succ];go_wp2;go_returns;exact⟨rfl,rfl⟩
def WV(n:Nat):Option Bytes:=if n=0 then none else some (VW n)
theorem Za{Q:World->Prop}{T:TypeId}{f:FuncId}{C:zF->yu}{w:World}(h:Du Q S T v f rc C)(hq:Q w)(hn:n<256)(hrev:qZ (C .auth) xK=WV n):
  Calls prog 280 #[.iface T v] w λe w'=>e=.returned (.int .u64 n)/\Q w'/\zo S w w':=by
 have HRG:Hid (∀W kv,za w W->Bs W.cell? xK kv->(∀j,kv.ownBlock=some j->w.heap.size<=j)->Calls prog f #[rc,zF.val .auth,kv,.slice none 0 0,.int .i64 0] W λe w'=>∃ks vs,e=.returned (.tuple #[ks,vs])/\Q w'/\zo S W w'/\qQ (im S w') (qZ (C .auth) xK).toList vs):=hid λW kv hn hk hf=>
  h.range .auth W xK kv 0 (h.new _ _ hq hn) (hk.im_of λj hj e=>by have:=h.lt _ hq j e;have:=hf j hj;omega)
 have hmeth:=h.meth;have hnil:=h.nil;have hent:=h.enter;have HA:=hid (λW=>Qj W);have HK:Hid (∀W,za w W->Calls prog 283 #[] W λe w'=>∃kv,e=.returned kv/\za w w'/\Bs w'.cell? xK kv/\∀j,kv.ownBlock=some j->w.heap.size<=j):=hid λW hW=>YS.mono λe w' ⟨kv,h1,h2,h3,h4⟩=>⟨kv,h1,hW.trans h2,h3,λj hj=>Nat.le_trans (za.mod hW (λ_=>False)).size (h4 j hj)⟩;have H:=hid h;clear h hq;go_enter func280,ntmps280;go_upto_region 1 with fail
 go_cut [4]from 5 to 15 (λc wx=>Q wx/\zo S w wx/\qQ (im S wx) (qZ (C .auth) xK).toList c)
 case first=>
  go_region_with (first|(go_at_call 215;refine(HA.out _).mono ?_;rintro e w1 ⟨rfl,rfl⟩)|(go_at_call 283;refine(HK.out _ ((za.refl w).drew)).mono ?_;rintro e w2 ⟨kv,rfl,hkn,hkb,hkf⟩)|(refine(HRG.out _ _ hkn hkb hkf).mono ?_;rintro e w3 ⟨ks,vs,rfl,hq1,hm1,hl1⟩))
  all_goals(
   have HQ1:=hid (And.intro hq1 (And.intro (zo.trans (hkn.mod S) hm1 λ_ _ e=>e) hl1));clear hq1 hm1 hl1;go_wp2_with fail;go_meet;exact HQ1.out)
 case rest=>
  obtain⟨hq1,hm1,hl1⟩:=hcut;rw[hrev]at hl1;have HQ:=hid hq1;have HM:=hid hm1;clear hq1 hm1 hmeth hnil hent HRG HA HK;unfold WV at hl1;by_cases h0:n=0
  ·rw[if_pos h0]at hl1;obtain⟨cs,hs,ha⟩:=hl1;cases ha;obtain⟨p,n8,c8,rfl⟩:=hs.shape;have hn8:n8=0:=hs.addr.1.symm;subst hn8;subst h0;clear hs;go_wp2;go_returns;exact⟨rfl,HQ.out,HM.out⟩
  ·rw[if_neg h0]at hl1;obtain⟨cs,hs,ha⟩:=hl1;cases ha with
   |cons hb hrest=>cases hrest;obtain⟨p,n8,c8,rfl⟩:=hs.shape;have hn8:n8=1:=hs.addr.1.symm;subst hn8;obtain⟨ob,oo,rfl⟩:=hs.addr.2 (by simp);have hcell:=zd _ _ _ _ (hs.cellAt 0 (by simp));simp only[Nat.add_zero,List.getElem_cons_zero]at hcell;obtain⟨vp,vn,vc,rfl,_⟩:=hb.shape;have HU:=hid (WU hn (hb.mono (zd _ _)));clear hs hb;go_wp2_with fail;refine HU.out.mono ?_;rintro e w5 ⟨rfl,rfl⟩;go_wp2;go_returns;exact⟨rfl,HQ.out,HM.out⟩
theorem zbF{w:World}{g:Nat}(hn:n<256)(h:w.heap[g]? =some (.cells (List.replicate 8 (Value.int .u8 0)).toArray 5 (0,0))):
  Calls prog 282 #[.slice (some ⟨g,0,none⟩) 8 8,.int .u64 n] w λe w'=>e=.returned (.tuple #[])/\zo (λj=>j=g) w w'/\w'.heap[g]? =some (.cells ((VW n).map qr).toArray 5 (0,0)):=by
 have hf:∀i,w.frozen? ⟨g,i,none⟩=false:=λi=>by simp[World.frozen?,h]
 have c0:w.cell? ⟨g,0,none⟩=some (.int .u8 0):=by rw[cell_of_row w g 0 _ _ (0,0) h];rfl
 have c1:w.cell? ⟨g,1,none⟩=some (.int .u8 0):=by rw[cell_of_row w g 1 _ _ (0,0) h];rfl
 have c2:w.cell? ⟨g,2,none⟩=some (.int .u8 0):=by rw[cell_of_row w g 2 _ _ (0,0) h];rfl
 have c3:w.cell? ⟨g,3,none⟩=some (.int .u8 0):=by rw[cell_of_row w g 3 _ _ (0,0) h];rfl
 have c4:w.cell? ⟨g,4,none⟩=some (.int .u8 0):=by rw[cell_of_row w g 4 _ _ (0,0) h];rfl
 have c5:w.cell? ⟨g,5,none⟩=some (.int .u8 0):=by rw[cell_of_row w g 5 _ _ (0,0) h];rfl
 have c6:w.cell? ⟨g,6,none⟩=some (.int .u8 0):=by rw[cell_of_row w g 6 _ _ (0,0) h];rfl
 have c7:w.cell? ⟨g,7,none⟩=some (.int .u8 0):=by rw[cell_of_row w g 7 _ _ (0,0) h];rfl
 have H:=hid h;clear h;have hn0:(0:Int)<=n:=by omega
 have hn1:(n:Int)<=255:=by omega
 have e1:(n:Int)/256=0:=by omega
 have e2:(n:Int)/65536=0:=by omega
 have e3:(n:Int)/16777216=0:=by omega
 have e4:(n:Int)/4294967296=0:=by omega
 have e5:(n:Int)/1099511627776=0:=by omega
 have e6:(n:Int)/281474976710656=0:=by omega
 have e7:(n:Int)/72057594037927936=0:=by omega
 go_enter func282,ntmps282;go_wp2;refine wp_loop_rounds 9 ?_;rw[rounds_succ];go_wp2;rw[rounds_succ];go_wp2;rw[rounds_succ];go_wp2;rw[rounds_succ];go_wp2;rw[rounds_succ];go_wp2;rw[rounds_succ];go_wp2;rw[rounds_succ];go_wp2;rw[rounds_succ];go_wp2;rw[rounds_succ];go_wp2;go_returns;have h1:=heap_setCell_same w g 0 _ _ (.int .u8 0) H.out;have h2:=heap_setCell_same _ g 1 _ _ (.int .u8 0) h1;have h3:=heap_setCell_same _ g 2 _ _ (.int .u8 0) h2;have h4:=heap_setCell_same _ g 3 _ _ (.int .u8 0) h3;have h5:=heap_setCell_same _ g 4 _ _ (.int .u8 0) h4;have h6:=heap_setCell_same _ g 5 _ _ (.int .u8 0) h5;have h7:=heap_setCell_same _ g 6 _ _ (.int .u8 0) h6;have h8:=heap_setCell_same _ g 7 _ _ (.int .u8 n) h7;have m0:=zo.refl (λj=>j=g) w;have m1:=m0.setCell (p:=⟨g,0,none⟩) (λ_=>rfl) (.int .u8 0);have m2:=m1.setCell (p:=⟨g,1,none⟩) (λ_=>rfl) (.int .u8 0)
 have m3:=m2.setCell (p:=⟨g,2,none⟩) (λ_=>rfl) (.int .u8 0);have m4:=m3.setCell (p:=⟨g,3,none⟩) (λ_=>rfl) (.int .u8 0);have m5:=m4.setCell (p:=⟨g,4,none⟩) (λ_=>rfl) (.int .u8 0);have m6:=m5.setCell (p:=⟨g,5,none⟩) (λ_=>rfl) (.int .u8 0);have m7:=m6.setCell (p:=⟨g,6,none⟩) (λ_=>rfl) (.int .u8 0);have m8:=m7.setCell (p:=⟨g,7,none⟩) (λ_=>rfl) (.int .u8 n);have hb:qr (UInt8.ofNat n)=.int .u8 n:=by show Value.int .u8 ((UInt8.ofNat n).toNat:Int)=_;rw[UInt8.toNat_ofNat',Nat.mod_eq_of_lt (by omega)]
 refine⟨rfl,m8,h8.trans ?_⟩;unfold VW;simp only[List.map_cons,List.map_nil,hb];rfl
end Go.Proofs.YtbmdoinjkligiaaGreat
