/- Contracts and laws that the last text joins. -/
import Derived.StringKeys
import Derived.Test.YtbmdoinjkligiaaGreatM07
set_option maxRecDepth 100000
set_option maxHeartbeats 40000000
set_option linter.all false
namespace Go.Proofs.YtbmdoinjkligiaaGreat
open Tryz
open Lib(hid)
open Go.RowKit
variable{be pdel pend t wtx:Nat}
theorem Uc{w:World}{m sm:Nat}{b:zF}{fid:FuncId}{cap:Array Value}{R:World->Prop}(Pd:qU w t wtx be pend m sm pdel)
  (hf:Calls prog 317 #[ptr wtx,b.val,.func (.func fid) #[] cap] w λe w'=>e=.returned .nilIface/\R w'):
  Calls prog 334 #[ptr t,b.val,.func (.func fid) #[] cap] w λe w'=>e=.returned .nilIface/\R w':=by
 have c0:=Pd.cells.1;have HF:=hid hf;clear hf;unfold zF.val at HF⊢;generalize zF.raw b=raw at*
 go_enter func334,ntmps334;go_wp2_with (go_at_call 317;go_must (refine HF.out.mono ?_);rintro e w1 ⟨rfl,hr⟩;have HR:=hid hr;clear hr);go_returns;exact⟨rfl,HR.out⟩
abbrev Wc:={l:Bytes//l.length<=1000}
def Gh(x:Wc):Value:=.string ⟨x.1.toArray⟩
theorem zcn:YF prog 9 Gh:=by
 have hu:prog.underlying 9=some .string:=by kernel_rfl
 refine⟨Maps.string_keyed hu,λx=>⟨_,WideMaps.keyOf_string_mk hu (by have:=x.2;simp only[maxLen];show x.1.toArray.size<=_;simp;omega)⟩,λx y h=> ?_⟩;unfold Gh at h;simp only[Value.string.injEq,ByteArray.mk.injEq]at h;exact Subtype.ext (by simpa using h)
theorem d9(args:Array Value)(w:World):(callFunc 315 args).run prog w=.ok (.enter 315 args) w:=by kernel_rfl
variable{kv vv:Value}{vb:Nat}
theorem d_{w:World}{db vb2 dm:Nat}{k:Bytes}{P:World->Prop}(hd:w.cell? ⟨db,0,none⟩=some (.map (some dm)))(hm:zD Gh w dm [])(hv:w.cell? ⟨vb2,0,none⟩=some (.func (.func 285) #[] #[ptr vb]))
  (hk:Bs w.cell? k kv)(pE:k.length<=1000)(mY:∃p n c,vv=.slice p n c)(hs:∀w1,za w w1->Calls prog 285 #[kv,vv,ptr vb] w1 λe w'=>e=.returned .nilIface/\P w'):
  Calls prog 315 #[kv,vv,ptr db,ptr vb2] w λe w'=>e=.returned .nilIface/\P w':=by
 have Hi:=kN hk 75 5 9 (by kernel_rfl) (by kernel_rfl) (by kernel_rfl);have lm:=λ(w':World) (e:w'.heap[dm]? =w.heap[dm]?)=>zD.look (P:=prog) (t:=495) (e:=99) zcn (by kernel_rfl) (z:=.agg #[]) (by kernel_rfl) (hm.frame e) ⟨k,pE⟩ true;have IJ:=lm w rfl;simp only[jq,List.find?_nil,Option.map_none,if_true,Gh]at IJ;obtain⟨kp,kn,kc,rfl,_⟩:=hk.shape;obtain⟨vp,vn,vc,rfl⟩:=mY;have HS:=hid hs;clear hs;have nX:=World.block_lt_of_cell? w _ hv;clear hk lm hm;have PN:=JE;go_enter func315,ntmps315;go_wp2_with fail;refine(HS.out _ ((za.refl w).alloc _)).mono ?_;rintro e w1 ⟨rfl,hp⟩;have HP:=hid hp;clear hp;go_wp2;go_returns;exact⟨rfl,HP.out⟩
def yI(S:Nat->Prop)(W w':World)(vb:Nat)(ps:yr):Prop:=
 zq (· =vb) W w'/\∃v cs,w'.heap[vb]? =some (.cells #[v] 469 (0,0))/\w'.ownsRow W.heap.size 75 1 v ps.length cs/\qz (λ(p:Bytes×Bytes) c=>Bs (im (λj=>S j\/j=vb) w') p.2 c) ps cs
variable{S:Nat->Prop}{W w':World}{ps:yr}
theorem YG.done{w0:World}(hn:za W w0)(h:YG (λj=>S j\/j=vb) w0 w' vb ps ps.length):yI S W w' vb ps:=by obtain⟨hm,v,cs,h1,h2,h3⟩:=h;rw[List.take_length]at h3;refine⟨zq.trans (za.mod hn _) hm λ_ _ e=>e,v,cs,h1,qJ h2 _ hn.size,h3.mono λa b hb=>hb.mono λx y hx=> ?_⟩;obtain⟨x1,x2⟩:=zi.1 hx;exact zi.2 ⟨x1,hm.cell (λe=>x1 (Or.inr e)) x2⟩
variable{w1 w2:World}
theorem yI.new(h:yI S W w1 vb ps)(hn:za w1 w2):yI S W w2 vb ps:=by obtain⟨hm,v,cs,h1,h2,h3⟩:=h;exact⟨zq.trans hm (za.mod hn _) λ_ _ e=>e,v,cs,hn.heap h1,zS h2 (λb hb=>hn.block b (World.ownsRow.lt h2 b hb).2 (λe=>e)),h3.mono λa b hb=>hb.mono (za.im hn _)⟩
theorem gp(w:World):(binOp .neq 86 .nilIface .nilIface).run prog w=.ok (.bool false) w:=by kernel_rfl
variable{m4 rt:Nat}
theorem J3{w:World}{mu rtx:Nat}{b:zF}{P:World->Prop}(r0:∀w',za w w'->(∀fid cap,Calls prog 316 #[ptr rt,b.val,.func (.func fid) #[] cap] w' λe w2=>e=.returned .nilIface/\za w' w2))
  (r2:w.cell? ⟨rt,2,none⟩=some (ptr mu))(r3:w.cell? ⟨rt,3,none⟩=some (ptr rtx))(pP:w.cell? ⟨rt,0,none⟩=some (.map (some m4)))
  (hv:∀w' db vb2 dm,za w w'->w'.cell? ⟨db,0,none⟩=some (.map (some dm))->zD Gh w' dm []->w'.cell? ⟨vb2,0,none⟩=some (.func (.func 285) #[] #[ptr vb])->db≠vb->vb2≠vb->dm≠vb->
   Calls prog 317 #[ptr rtx,b.val,.func (.func 315) #[] #[ptr db,ptr vb2]] w' λe w2=>e=.returned .nilIface/\P w2/\w2.cell? ⟨rt,2,none⟩=some (ptr mu)/\w2.cell? ⟨vb2,0,none⟩=some (.func (.func 285) #[] #[ptr vb])/\
    ∀w2',za w2 w2'->∀fid cap,Calls prog 316 #[ptr rt,b.val,.func (.func fid) #[] cap] w2' λe w3=>e=.returned .nilIface/\P w3)(TO:vb<w.heap.size):
  Calls prog 312 #[ptr rt,b.val,.func (.func 285) #[] #[ptr vb]] w λe w'=>e=.returned .nilIface/\P w':=by
 have HR:=hid r0;clear r0;have HV:=hid hv;clear hv;have pZ:=World.block_lt_of_cell? w _ r2;have My:=gp;have Su:= @run_makeMap prog;obtain⟨W0,py⟩:=zex (((w.alloc (.cells #[.func (.func 285) #[] #[ptr vb]] 472)).alloc (.map #[] 0)).alloc (.cells #[.map (some (w.heap.size+1))] 495));have PK:za w W0:=by rw[py];exact(((za.refl w).alloc _).alloc _).alloc _
 have s1:(w.alloc (.cells #[.func (.func 285) #[] #[ptr vb]] 472)).heap.size=w.heap.size+1:=Array.size_push ..
 have s2:((w.alloc (.cells #[.func (.func 285) #[] #[ptr vb]] 472)).alloc (.map #[] 0)).heap.size=w.heap.size+2:=(Array.size_push ..).trans (by rw[s1]);have q1:W0.cell? ⟨w.heap.size,0,none⟩=some (.func (.func 285) #[] #[ptr vb]):=by
  have:W0.heap[w.heap.size]? =some (.cells #[.func (.func 285) #[] #[ptr vb]] 472 (0,0)):=by rw[py];exact za.heap (((za.refl _).alloc _).alloc _) (zg w _)
  rw[cell_of_row W0 _ 0 _ _ (0,0) this];rfl
 have q2:zD Gh W0 (w.heap.size+1) []:=by have h1:=zD.made Gh (w.alloc (.cells #[.func (.func 285) #[] #[ptr vb]] 472));rw[s1]at h1;refine h1.frame ?_;rw[py];exact Below.heap_alloc _ _ _ (by rw[s2];omega)
 have q3:W0.cell? ⟨w.heap.size+2,0,none⟩=some (.map (some (w.heap.size+1))):=by
  have:W0.heap[w.heap.size+2]? =some (.cells #[.map (some (w.heap.size+1))] 495 (0,0)):=by have:=zg ((w.alloc (.cells #[.func (.func 285) #[] #[ptr vb]] 472)).alloc (.map #[] 0)) (.cells #[.map (some (w.heap.size+1))] 495);rw[s2]at this;rw[py];exact this
  rw[cell_of_row W0 _ 0 _ _ (0,0) this];rfl
 have S_:=hid PK;clear PK;have Na:=hid q1;clear q1;have Nq:=hid q2;clear q2;have HQ3:=hid q3;clear q3;have rR:=hid py;clear py s1 s2;unfold zF.val at*
 generalize zF.raw b=raw at*
 go_enter func312,ntmps312;go_wp2_with fail;rw[<-rR.out];refine(HR.out _ S_.out _ _).mono ?_;rintro e w1 ⟨rfl,hQ⟩;have wA:za w w1:=za.trans S_.out hQ;have d2:w1.cell? ⟨rt,2,none⟩=some (ptr mu):=wA.le _ _ r2;have d3:w1.cell? ⟨rt,3,none⟩=some (ptr rtx):=wA.le _ _ r3;have HF:=hid (HV.out w1 (w.heap.size+2) w.heap.size (w.heap.size+1) wA (hQ.le _ _ HQ3.out) (Nq.out.frame (hQ.block _ Nq.out.lt (λe=>e))) (hQ.le _ _ Na.out) (by omega) (by omega) (by omega));clear hQ wA;go_wp2_with (go_at_call 69;go_must (refine(vY _ _).mono ?_);rintro e w9 ⟨rfl,rfl⟩);refine HF.out.mono ?_;rintro e w2 ⟨rfl,rm,k2,k4,MS⟩;have IG:=hid MS;clear MS rm;go_wp2_with (go_at_call 70;go_must (refine(QQ _ _).mono ?_);rintro e w9 ⟨rfl,rfl⟩);go_region_with (go_at_call 316;refine(IG.out _ ((za.refl w2).drew) _ _).mono ?_;rintro e w3 ⟨rfl,Av⟩;have sX:=hid Av;clear Av)
 all_goals
  go_wp2;go_returns;exact⟨rfl,sX.out⟩
variable{C:List zZ}{bk j:Nat}{e2 e4:zY}{l:zu}{rb wb:List (Nat×zZ)}
theorem za2{w:World}{I:zN}(h:jX l w I C wb rb pend pdel e2 e4)(hz:∀e∈e4,e.2.2.2=[]){b:zF}
  (hj:rb[j]? =some (bk,(b.name,ps)))(pS:zk (zG rb) b.name=j)(RI:zx (zG rb) b.name=true)(Hx:ps.length<=1000000)(bu:∀p∈ps,p.1.length<=1000)(hn:za w W)(TO:w.heap.size<=vb)(tq:W.heap[vb]? =some (.cells #[.slice none 0 0] 469 (0,0))):
  Calls prog 312 #[ptr I.rt,b.val,.func (.func 285) #[] #[ptr vb]] W λe w'=>e=.returned .nilIface/\yI l.some W w' vb ps:=by
 obtain⟨cs,hC,RO⟩:=h.toC;obtain⟨n,mu,wg,PF⟩:=hC.rt;have pZ:I.rt<w.heap.size:=h.bnd _ (by rw[h.lab.2.2.1];decide);have nX:vb<W.heap.size:=(Array.getElem?_eq_some_iff.1 tq).1;have IK:=hn.heap PF;have r0:W.cell? ⟨I.rt,0,none⟩=some (.map (some I.m4)):=by rw[cell_of_row W I.rt 0 _ _ (0,0) IK];rfl
 have r2:W.cell? ⟨I.rt,2,none⟩=some (ptr mu):=by rw[cell_of_row W I.rt 2 _ _ (0,0) IK];rfl
 have r3:W.cell? ⟨I.rt,3,none⟩=some (ptr I.rtx):=by rw[cell_of_row W I.rt 3 _ _ (0,0) IK];rfl
 have buf:∀w',zq (· =vb) w w'->∀fid cap,Calls prog 316 #[ptr I.rt,b.val,.func (.func fid) #[] cap] w' λe w2=>e=.returned .nilIface/\za w' w2:=λw' hm fid cap=>by
  have Ho:∀j,l.own j->j≠vb:=λj hj e=>by have:=h.bnd j hj.1;omega
  have S4:zQ (im l.some w') w' (l.is 11) I.m4 e4:=h.buf4.mod hm (λe=>by have:=h.buf4.map.lt;omega) (λx hx=>Ho x ⟨by rw[hx];decide,by rw[hx];decide⟩) (λa y ha=>by obtain⟨a1,a2⟩:=zi.1 ha;exact zi.2 ⟨a1,hm.cell (λe=>by have:=World.block_lt_of_cell? w a a2;omega) a2⟩)
  exact Ua S4 hz (hm.cell (λe=>by have e:I.rt=vb:=e;omega) (by rw[cell_of_row w I.rt 0 _ _ (0,0) PF];rfl))
 refine J3 (m4:=I.m4) (P:=λw'=>yI l.some W w' vb ps) (λw' T9 fid cap=>buf w' (za.mod (hn.trans T9) _) fid cap) r2 r3 r0 ?_ nX;intro w' db vb2 dm T9 hd hm nY n1 n2 n3;have pq:=hn.trans T9;obtain⟨hs,hB⟩:=h.ofNew pq;obtain⟨_,nv,pv,fp,g1,g2,g3⟩:=h.rtx.hb _ (List.mem_of_getElem? hj);have II:vb<w'.heap.size:=Nat.lt_of_lt_of_le nX T9.size;have MS:∀w1,za w' w1->Calls prog 322 #[ptr bk,.func (.func 315) #[] #[ptr db,ptr vb2]] w1 λe w2=>e=.returned .nilIface/\∃w1,za w' w1/\YG (λj=>l.some j\/j=vb) w1 w2 vb ps ps.length:=λw1 hQ=>by
  have Pb:=(pq.trans hQ).heap g1;have hY:=xw (S:=l.some) (pq.trans hQ) TO;have IL:vb<w1.heap.size:=Nat.lt_of_lt_of_le II hQ.size;refine(JY (r:=im (λj=>l.some j\/j=vb) w1) (ps:=ps) (pv:=pv) (λk w2=>YG (λj=>l.some j\/j=vb) w1 w2 vb ps k) d9 (by rw[cell_of_row w1 bk 2 _ _ (0,0) Pb];rfl) (g3.mono hY) Hx ?_ (λk w' m h=>h.drewN m) ?_ ?_).mono λe w2 ⟨he,hc⟩=>⟨he,w1,hQ,hc⟩
  ·exact⟨zq.refl _ _,_,[],za.heap (T9.trans hQ) tq,World.ownsRow_nil _ _ _ _,.nil⟩
  ·intro k w2 hc a v ha;obtain⟨h1,h2⟩:=zi.1 ha;exact hc.mod.cell (λe=>h1 (Or.inr e)) h2
  ·intro k hk kv vv w2 hc Sh mY;have Hq:=hc.mod;refine d_ (k:=ps[k].1) (Hq.cell (λe=>n1 e) (hQ.le _ _ hd)) ((hm.frame (hQ.block _ hm.lt (λe=>e))).frame (Hq.block _ (Nat.lt_of_lt_of_le hm.lt hQ.size) (λe=>n3 e))) (Hq.cell (λe=>n2 e) (hQ.le _ _ nY)) (Sh.mono λa y ha=> ?_) (bu _ (List.getElem_mem hk)) ?_ λw3 Hg=> ?_
   ·obtain⟨h1,h2⟩:=zi.1 ha;exact Hq.cell (λe=>h1 (Or.inr e)) h2
   ·obtain⟨p,n,c,e,_⟩:=mY.shape;exact⟨p,n,c,e⟩
   ·refine JD IL Hx hk ⟨zq.trans Hq (za.mod Hg _) λ_ _ e=>e,?_⟩ mY;obtain⟨_,v,cs,q1,q2,q3⟩:=hc;exact⟨v,cs,Hg.heap q1,zS q2 (λb hb=>Hg.block b (World.ownsRow.lt q2 b hb).2 (λe=>e)),q3⟩
 refine(KI (S:=l.some) hs.bnd (λq e=>by show l q≠0;rw[e];decide) hB.rtx hj pS RI MS).mono ?_;rintro e w2 ⟨rfl,w1,hQ,hc⟩;have Hq:zq (· =vb) w' w2:=zq.trans (za.mod hQ _) hc.mod λ_ _ e=>e;refine⟨rfl,YG.done (T9.trans hQ) hc,Hq.cell (λe=>by have e:I.rt=vb:=e;omega) (T9.le _ _ r2),Hq.cell n2 nY,λw3 Hg fid cap=> ?_⟩;refine(buf w3 (zq.trans (zq.trans (za.mod pq _) Hq λ_ _ e=>e) (za.mod Hg _) λ_ _ e=>e) fid cap).mono ?_;rintro e w4 ⟨rfl,Rh⟩;exact⟨rfl,(YG.done (T9.trans hQ) hc).new (Hg.trans Rh)⟩
structure ZY(w:World)(t be db rt m sm m4 cm mu wg:Nat)(wv rv bv:Value):Prop where
 bt:w.heap[t]? =some (.cells #[wv,ptr be,.int .i64 0,.map (some m),.map (some sm),.int .i64 0] 290 (0,0))
 be:w.heap[be]? =some (.cells #[.int .i64 0,ptr db,.int .i64 1000,bv,ptr rt,.pointer none,.int .u64 0,.nilIface,.nilFunc,.pointer none] 261 (0,0))
 rt:w.heap[rt]? =some (.cells #[.map (some m4),.int .u64 0,ptr mu,rv,.map (some cm),ptr wg] 252 (0,0))
section
variable{w w':World}{t be db rt m sm m4 cm mu wg:Nat}{wv rv bv:Value}
theorem ZY.new(h:ZY w t be db rt m sm m4 cm mu wg wv rv bv)(hn:za w w'):ZY w' t be db rt m sm m4 cm mu wg wv rv bv:=⟨hn.heap h.bt,hn.heap h.be,hn.heap h.rt⟩
theorem ZY.drewN(h:ZY w t be db rt m sm m4 cm mu wg wv rv bv)(n:Nat):ZY (w.drewN n) t be db rt m sm m4 cm mu wg wv rv bv:=⟨h.bt,h.be,h.rt⟩
theorem ZY.tb(h:ZY w t be db rt m sm m4 cm mu wg wv rv bv):t≠be:=λe=>by have:=h.bt;rw[e,h.be]at this;cases this
theorem ZY.tr(h:ZY w t be db rt m sm m4 cm mu wg wv rv bv):t≠rt:=λe=>by have:=h.bt;rw[e,h.rt]at this;cases this
theorem ZY.br(h:ZY w t be db rt m sm m4 cm mu wg wv rv bv):be≠rt:=λe=>by have:=h.be;rw[e,h.rt]at this;cases this
theorem ZY.setW(h:ZY w t be db rt m sm m4 cm mu wg wv rv bv)(v:Value):ZY (w.setCell ⟨t,0,none⟩ v) t be db rt m sm m4 cm mu wg v rv bv:=
 ⟨heap_setCell_same w t 0 _ _ _ h.bt,by rw[Below.heap_setCell _ _ _ _ (show be≠t from h.tb.symm)];exact h.be,by rw[Below.heap_setCell _ _ _ _ (show rt≠t from h.tr.symm)];exact h.rt⟩
theorem ZY.setP(h:ZY w t be db rt m sm m4 cm mu wg wv rv bv):ZY (w.setCell ⟨t,5,none⟩ (.int .i64 0)) t be db rt m sm m4 cm mu wg wv rv bv:=
 ⟨heap_setCell_same w t 5 _ _ _ h.bt,by rw[Below.heap_setCell _ _ _ _ (show be≠t from h.tb.symm)];exact h.be,by rw[Below.heap_setCell _ _ _ _ (show rt≠t from h.tr.symm)];exact h.rt⟩
theorem ZY.setR(h:ZY w t be db rt m sm m4 cm mu wg wv rv bv)(v:Value):ZY (w.setCell ⟨rt,3,none⟩ v) t be db rt m sm m4 cm mu wg wv v bv:=
 ⟨by rw[Below.heap_setCell _ _ _ _ (show t≠rt from h.tr)];exact h.bt,by rw[Below.heap_setCell _ _ _ _ (show be≠rt from h.br)];exact h.be,heap_setCell_same w rt 3 _ _ _ h.rt⟩
theorem ZY.cells(h:ZY w t be db rt m sm m4 cm mu wg wv rv bv):w.cell? ⟨t,0,none⟩=some wv/\w.cell? ⟨t,1,none⟩=some (ptr be)/\w.cell? ⟨t,2,none⟩=some (.int .i64 0)/\w.frozen? ⟨t,0,none⟩=false/\w.frozen? ⟨t,5,none⟩=false/\w.cell? ⟨t,5,none⟩=some (.int .i64 0)/\
  w.cell? ⟨be,1,none⟩=some (ptr db)/\w.cell? ⟨be,2,none⟩=some (.int .i64 1000)/\w.cell? ⟨be,4,none⟩=some (ptr rt)/\w.cell? ⟨be,7,none⟩=some .nilIface/\w.cell? ⟨rt,3,none⟩=some rv/\w.frozen? ⟨rt,3,none⟩=false:=
 ⟨by rw[cell_of_row w t 0 _ _ (0,0) h.bt];rfl,by rw[cell_of_row w t 1 _ _ (0,0) h.bt];rfl,by rw[cell_of_row w t 2 _ _ (0,0) h.bt];rfl,by simp[World.frozen?,h.bt],by simp[World.frozen?,h.bt],by rw[cell_of_row w t 5 _ _ (0,0) h.bt];rfl,
  by rw[cell_of_row w be 1 _ _ (0,0) h.be];rfl,by rw[cell_of_row w be 2 _ _ (0,0) h.be];rfl,by rw[cell_of_row w be 4 _ _ (0,0) h.be];rfl,by rw[cell_of_row w be 7 _ _ (0,0) h.be];rfl,by rw[cell_of_row w rt 3 _ _ (0,0) h.rt];rfl,by simp[World.frozen?,h.rt]⟩
end
def Gv(S:Nat->Prop)(w w1:World)(tx db:Nat)(wt:Bool)(C:List zZ):Prop:=za w w1/\∃bs,kr (im S w) w1 (λb=>w.heap.size<=b/\b<w1.heap.size) tx db wt bs/\bs.map (·.2)=C
section
variable{S:Nat->Prop}{w:World}{t be db rt m sm m4 cm mu wg:Nat}{wv rv bv dv:Value}{C:List zZ}
theorem XV{wt:Bool}(hS:∀b,S b->b<w.heap.size)(h:ZY w t be db rt m sm m4 cm mu wg wv rv bv)(hd:w.cell? ⟨db,0,none⟩=some dv)(hD:jN (im S w) C dv)(Hx:C.length<=1000):
  Calls prog 88 #[ptr be,.bool wt] w λe w'=>∃tx,e=.returned (ptr tx)/\Gv S w w' tx db wt C:=by
 refine(KE hS ⟨_,h.be⟩ h.cells.2.2.2.2.2.2.1 hd hD Hx).mono ?_;rintro e w' ⟨tx,rfl,hn,bs,h1,h2⟩;exact⟨tx,rfl,hn,bs,h1,h2⟩
theorem Xd(hS:∀b,S b->b<w.heap.size)(h:ZY w t be db rt m sm m4 cm mu wg (.pointer none) rv bv)(hd:w.cell? ⟨db,0,none⟩=some dv)(hD:jN (im S w) C dv)(Hx:C.length<=1000):
  Calls prog 87 #[ptr t,.bool false] w λe w'=>e=.returned (.tuple #[])/\∃tx w1,Gv S w w1 tx db true C/\w'=w1.setCell ⟨t,0,none⟩ (ptr tx):=by
 obtain⟨c0,c1,_,_,_,_,c6,_⟩:=h.cells;have HB:=hid (XV (wt:=true) hS h hd hD Hx);have H:=hid h;clear h hS hd hD;go_enter func87,ntmps87;go_wp2_with fail;refine HB.out.mono ?_;rintro e w1 ⟨tx,rfl,hb⟩;have h1:=H.out.new hb.1;obtain⟨k0,_,_,kf,_⟩:=h1.cells;have Am:=hid hb;clear hb h1;go_wp2;go_returns;exact⟨rfl,tx,w1,Am.out,rfl⟩
def Vz(S:Nat->Prop)(w:World)(t rt db:Nat)(C:List zZ)(w':World):Prop:=
 ∃tx1 w1 k w2 tx2,Gv S w w1 tx1 db true C/\Gv (λj=>S j\/w.heap.size<=j/\j<w1.heap.size) (((w1.setCell ⟨t,0,none⟩ (ptr tx1)).setCell ⟨t,5,none⟩ (.int .i64 0)).drewN k) w2 tx2 db false C/\w'=w2.setCell ⟨rt,3,none⟩ (ptr tx2)
theorem Jq(hS:∀b,S b->b<w.heap.size)(SE:S t)(rE:db≠t)(h:ZY w t be db rt m sm m4 cm mu wg (.pointer none) (.pointer none) bv)(hd:w.cell? ⟨db,0,none⟩=some dv)(hD:jN (im S w) C dv)(Hx:C.length<=1000):
  Calls prog 81 #[ptr t,.bool false] w λe w'=>e=.returned (.tuple #[])/\Vz S w t rt db C w'/\∃tx1 tx2,ZY w' t be db rt m sm m4 cm mu wg (ptr tx1) (ptr tx2) bv:=by
 obtain⟨_,c1,_,_,_,_,c6,_,c8,c9,c10,c11⟩:=h.cells;have HC:=hid (Xd hS h hd hD Hx);have H:=hid h;have HD:=hid hD;have HS:=hid hS;have ww:=hid hd;clear h hS hD hd;go_enter func81,ntmps81;go_wp2_with fail;refine HC.out.mono ?_;rintro e w1' ⟨rfl,tx1,w1,Pb,rfl⟩;have h1:=(H.out.new Pb.1).setW (ptr tx1);obtain⟨_,k1,_,_,k5f,k5,_,_,k8,k9,k10,k11⟩:=h1.cells;have Rq:=hid Pb;have H1:=hid h1;clear Pb h1 c1 c6 c8 c9 c10 c11;go_upto_region 8 with fail
 obtain⟨W,hW⟩:=zex ((w1.setCell ⟨t,0,none⟩ (ptr tx1)).setCell ⟨t,5,none⟩ (.int .i64 0));rw[<-hW];have h2:ZY W t be db rt m sm m4 cm mu wg (ptr tx1) (.pointer none) bv:=by rw[hW];exact H1.out.setP
 have hY:(im S w).le (im S W):=by rw[hW];exact((Rq.out.1.im S).le_trans (kP S w1 ⟨t,0,none⟩ SE _)).le_trans (kP S _ ⟨t,5,none⟩ SE _)
 have pL:w.heap.size<=W.heap.size:=by rw[hW];simpa[World.setCell]using Rq.out.1.size
 have Pe:W.cell? ⟨db,0,none⟩=some dv:=by
  rw[hW];have e1:=Rq.out.1.le _ _ ww.out;have e2:((w1.setCell ⟨t,0,none⟩ (ptr tx1)).setCell ⟨t,5,none⟩ (.int .i64 0)).heap[(⟨db,0,none⟩:Addr).block]? =w1.heap[(⟨db,0,none⟩:Addr).block]? :=by rw[Below.heap_setCell _ _ _ _ (show db≠t from rE),Below.heap_setCell _ _ _ _ (show db≠t from rE)]
  rw[World.cell?_of_block e2];exact e1
 have MB:W.heap.size=w1.heap.size:=by rw[hW];simp[World.setCell]
 have eW:(im S w).le (im (λj=>S j\/w.heap.size<=j/\j<w1.heap.size) W):=λp v hp=>by
  have g1:=zi.1 hp;have g2:=World.block_lt_of_cell? _ p g1.2;refine zi.2 ⟨?_,(zi.1 (hY _ _ hp)).2⟩;rintro(e|e)
  ·exact g1.1 e
  ·omega
 have SB:=hid (λk=>XV (w:=W.drewN k) (wt:=false) (S:=λj=>S j\/w.heap.size<=j/\j<w1.heap.size) (λb hb=>by
  rcases hb with hb|hb
  ·exact Nat.lt_of_lt_of_le (HS.out b hb) pL
  ·show b<W.heap.size;rw[MB];exact hb.2) (h2.drewN k) Pe (HD.out.mono eW) Hx)
 obtain⟨_,q1,_,_,_,_,_,_,q8,_,q10,q11⟩:=h2.cells;have H2:=hid h2;have HW:=hid hW;clear k1 k5f k5 k8 k9 k10 k11 hW h2 hY eW pL MB Pe;go_region_with (go_at_call 88;refine(SB.out 1).mono ?_;rintro e w2 ⟨tx2,rfl,pw⟩;have h3:=(H2.out.drewN 1).new pw.1;obtain⟨_,z1,_,_,_,_,_,_,z8,_,z10,z11⟩:=h3.cells;have H3:=hid h3;have SD:=hid pw;clear h3 pw)
 all_goals
  go_wp2;go_returns;refine⟨rfl,⟨tx1,w1,1,w2,tx2,Rq.out,?_,rfl⟩,tx1,tx2,H3.out.setR _⟩;have:=SD.out;rw[HW.out]at this;exact this
theorem UM(hS:∀b,S b->b<w.heap.size)(SE:S t)(rE:db≠t)(h:ZY w t be db rt m sm m4 cm mu wg (.pointer none) (.pointer none) bv)(hd:w.cell? ⟨db,0,none⟩=some dv)(hD:jN (im S w) C dv)(Hx:C.length<=1000):
  Calls prog 77 #[ptr t,.bool false] w λe w'=>e=.returned (.tuple #[])/\Vz S w t rt db C w'/\∃tx1 tx2,ZY w' t be db rt m sm m4 cm mu wg (ptr tx1) (ptr tx2) bv:=by
 obtain⟨_,a1,_,_,_,_,_,_,a4,_,_,_⟩:=h.cells;have HL:=hid (Kq h.rt);have HU:=hid (Jq hS SE rE h hd hD Hx);clear h hS hd hD;go_enter func77,ntmps77;go_wp2_with (go_at_call 80;go_must (refine HL.out.mono ?_);rintro e w1 ⟨rfl,rfl⟩);refine HU.out.mono ?_;rintro e w1 ⟨rfl,hb,tx1,tx2,h1⟩;obtain⟨_,b1,_,_,_,_,_,_,b4,_,_,_⟩:=h1.cells;have HK:=hid (QO h1.rt);have HB:=hid hb;have H1:=hid h1;clear hb h1;go_wp2_with (go_at_call 82;go_must (refine HK.out.mono ?_);rintro e w2 ⟨rfl,rfl⟩);go_returns;exact⟨rfl,HB.out,tx1,tx2,H1.out⟩
theorem gY(h:ZY w t be db rt m sm m4 cm mu wg wv rv bv):Calls prog 84 #[ptr t] w λe w'=>e=.returned (.tuple #[])/\∃n,w'=w.drewN n:=by
 obtain⟨_,c1,c2,_,_,_,_,c8,_⟩:=h.cells;have pD:decide ((1000:Int)<=0)=false:=by decide
 have RG:∀n:Nat,∃A,(partAt ⟨t,0,none⟩ 0 0).run prog (w.drewN n)=.ok A (w.drewN n):=λn=>QN (w:=w.drewN n) h.bt;have HP:=hid RG;clear RG h;go_enter func84,ntmps84;go_wp2;go_quiet (fail);obtain⟨A,hA⟩:=HP.out nq;go_wp2;go_returns;exact⟨rfl,_,rfl⟩
theorem UN(h:ZY w t be db rt m sm m4 cm mu wg wv rv bv):Calls prog 78 #[ptr t] w λe w'=>e=.returned (.tuple #[])/\∃n,w'=w.drewN n:=by obtain⟨_,_,c2,_⟩:=h.cells;have HU:=hid (gY h);clear h;go_enter func78,ntmps78;go_wp2_with (go_at_call 84;go_must (refine HU.out.mono ?_);rintro e w1 ⟨rfl,n,rfl⟩);go_returns;exact⟨rfl,_,rfl⟩
theorem UO(hS:∀b,S b->b<w.heap.size)(SE:S t)(rE:db≠t)(h:ZY w t be db rt m sm m4 cm mu wg (.pointer none) (.pointer none) bv)(hd:w.cell? ⟨db,0,none⟩=some dv)(hD:jN (im S w) C dv)(Hx:C.length<=1000):
  Calls prog 74 #[ptr t] w λe w'=>e=.returned (.tuple #[])/\∃w1 n,w'=w1.drewN n/\Vz S w t rt db C w1/\∃tx1 tx2,ZY w1 t be db rt m sm m4 cm mu wg (ptr tx1) (ptr tx2) bv:=by
 have HL:=hid (Gf h.bt);have HU:=hid (UM hS SE rE h hd hD Hx);clear h hS hd hD;go_enter func74,ntmps74;go_wp2_with (go_at_call 76;go_must (refine HL.out.mono ?_);rintro e w1 ⟨rfl,rfl⟩);refine HU.out.mono ?_;rintro e w1 ⟨rfl,hb,tx1,tx2,h1⟩;have HK:=hid (UN h1);have HB:=hid hb;have H1:=hid h1;clear hb h1;go_wp2_with (go_at_call 78;go_must (refine HK.out.mono ?_);rintro e w2 ⟨rfl,n,rfl⟩);go_returns;exact⟨rfl,w1,_,rfl,HB.out,tx1,tx2,H1.out⟩
end
structure gZ(w W:World)(be:Nat):Prop where
 new:za w W
 size:W.heap.size=w.heap.size+3
 m:zD kY W w.heap.size []
 sm:zD kY W (w.heap.size+1) []
 bt:W.heap[w.heap.size+2]? =some (.cells #[.pointer none,ptr be,.int .i64 0,.map (some w.heap.size),.map (some (w.heap.size+1)),.int .i64 0] 290 (0,0))
theorem zbx(w:World)(be:Nat):gZ w (((w.alloc (.map #[] 0)).alloc (.map #[] 0)).alloc (.cells #[.pointer none,ptr be,.int .i64 0,.map (some w.heap.size),.map (some (w.heap.size+1)),.int .i64 0] 290)) be:=by
 have s1:(w.alloc (.map #[] 0)).heap.size=w.heap.size+1:=Array.size_push ..
 have s2:((w.alloc (.map #[] 0)).alloc (.map #[] 0)).heap.size=w.heap.size+2:=(Array.size_push ..).trans (by rw[s1]);have s3:(((w.alloc (.map #[] 0)).alloc (.map #[] 0)).alloc (.cells #[.pointer none,ptr be,.int .i64 0,.map (some w.heap.size),.map (some (w.heap.size+1)),.int .i64 0] 290)).heap.size=w.heap.size+3:=(Array.size_push ..).trans (by rw[s2]);have n1:za w (w.alloc (.map #[] 0)):=(za.refl w).alloc _;have n2:za (w.alloc (.map #[] 0)) ((w.alloc (.map #[] 0)).alloc (.map #[] 0)):=(za.refl _).alloc _;have n3:za ((w.alloc (.map #[] 0)).alloc (.map #[] 0)) (((w.alloc (.map #[] 0)).alloc (.map #[] 0)).alloc (.cells #[.pointer none,ptr be,.int .i64 0,.map (some w.heap.size),.map (some (w.heap.size+1)),.int .i64 0] 290)):=(za.refl _).alloc _;refine⟨(n1.trans n2).trans n3,s3,?_,?_,?_⟩
 ·exact(zD.made kY w).frame ((n2.trans n3).block _ (by omega) λe=>e)
 ·have h:=zD.made kY (w.alloc (.map #[] 0));rw[s1]at h;exact h.frame (n3.block _ (by omega) λe=>e)
 ·have h:=zg ((w.alloc (.map #[] 0)).alloc (.map #[] 0)) (.cells #[.pointer none,ptr be,.int .i64 0,.map (some w.heap.size),.map (some (w.heap.size+1)),.int .i64 0] 290);rw[s2]at h;exact h
variable{dv:Value}
theorem zcO{w:World}{db cm mu wg:Nat}(hS:∀b,S b->b<w.heap.size)
  (pU:w.heap[be]? =some (.cells #[.int .i64 0,ptr db,.int .i64 1000,.pointer none,ptr rt,.pointer none,.int .u64 0,.nilIface,.nilFunc,.pointer none] 261 (0,0)))
  (PF:w.heap[rt]? =some (.cells #[.map (some m4),.int .u64 0,ptr mu,.pointer none,.map (some cm),ptr wg] 252 (0,0)))(hd:w.cell? ⟨db,0,none⟩=some dv)(hD:jN (im S w) C dv)(Hx:C.length<=1000):
  Calls prog 68 #[ptr be] w λe w'=>e=.returned (ptr (w.heap.size+2))/\∃W w1 n,gZ w W be/\w'=w1.drewN n/\Vz (λj=>S j\/w.heap.size<=j/\j<W.heap.size) W (w.heap.size+2) rt db C w1/\
   ∃tx1 tx2,ZY w1 (w.heap.size+2) be db rt w.heap.size (w.heap.size+1) m4 cm mu wg (ptr tx1) (ptr tx2) (.pointer none):=by
 have Su:= @run_makeMap prog;obtain⟨W,hW⟩:=zex ((((w.alloc (.map #[] 0)).alloc (.map #[] 0)).alloc (.cells #[.pointer none,ptr be,.int .i64 0,.map (some w.heap.size),.map (some (w.heap.size+1)),.int .i64 0] 290)));have hM:gZ w W be:=by rw[hW];exact zbx w be
 have eX:ZY W (w.heap.size+2) be db rt w.heap.size (w.heap.size+1) m4 cm mu wg (.pointer none) (.pointer none) (.pointer none):=⟨hM.bt,hM.new.heap pU,hM.new.heap PF⟩;have cg:=World.block_lt_of_cell? _ _ hd;have hY:(im S w).le (im (λj=>S j\/w.heap.size<=j/\j<W.heap.size) W):=λa v ha=>by
  have h1:=zi.1 ha;have h2:=World.block_lt_of_cell? _ a h1.2;refine zi.2 ⟨?_,hM.new.le _ _ h1.2⟩;rintro(e|e)
  ·exact h1.1 e
  ·omega
 have HC:=hid (UO (w:=W) (S:=λj=>S j\/w.heap.size<=j/\j<W.heap.size) (λb hb=>by
  have:=hM.new.size;rcases hb with hb|hb
  ·have:=hS b hb;omega
  ·exact hb.2) (Or.inr (by have:=hM.size;omega)) (λe=>by have:db<w.heap.size:=cg;omega) eX (hM.new.le _ _ hd) (hD.mono hY) Hx)
 have HM:=hid hM;have HW:=hid hW;clear pU PF hd hD hS hM eX hY cg hW;go_enter func68,ntmps68;go_upto_region 2 with fail
 rw[show w.heap.size+1+1=w.heap.size+2 from rfl,<-HW.out];go_wp2_with fail;refine HC.out.mono ?_;rintro e w' ⟨rfl,w1,n,rfl,hb,tx1,tx2,h1⟩;have HB:=hid (And.intro hb h1);clear hb h1;go_wp2;go_returns;exact⟨rfl,W,w1,n,HM.out,rfl,HB.out.1,tx1,tx2,HB.out.2⟩
structure UP(w W:World)(d:Nat):Prop where
 new:za w W
 size:W.heap.size=w.heap.size+6
 m4:zD kY W w.heap.size []
 cm:zD kY W (w.heap.size+1) []
 rt:W.heap[w.heap.size+4]? =some (.cells #[.map (some w.heap.size),.int .u64 0,ptr (w.heap.size+3),.pointer none,.map (some (w.heap.size+1)),ptr (w.heap.size+2)] 252 (0,0))
 be:W.heap[w.heap.size+5]? =some (.cells #[.int .i64 0,ptr d,.int .i64 1000,.pointer none,ptr (w.heap.size+4),.pointer none,.int .u64 0,.nilIface,.nilFunc,.pointer none] 261 (0,0))
theorem zby(w:World)(d:Nat):UP w ((((((w.alloc (.map #[] 0)).alloc (.map #[] 0)).alloc (.cells #[] 246)).alloc (.cells #[] 144)).alloc (.cells #[.map (some w.heap.size),.int .u64 0,ptr (w.heap.size+3),.pointer none,.map (some (w.heap.size+1)),ptr (w.heap.size+2)] 252)).alloc (.cells #[.int .i64 0,ptr d,.int .i64 1000,.pointer none,ptr (w.heap.size+4),.pointer none,.int .u64 0,.nilIface,.nilFunc,.pointer none] 261)) d:=by
 obtain⟨w1,h1⟩:=zex (w.alloc (.map #[] 0));obtain⟨w2,h2⟩:=zex (w1.alloc (.map #[] 0));obtain⟨w3,h3⟩:=zex (w2.alloc (.cells #[] 246));obtain⟨w4,h4⟩:=zex (w3.alloc (.cells #[] 144));obtain⟨w5,h5⟩:=zex (w4.alloc (.cells #[.map (some w.heap.size),.int .u64 0,ptr (w.heap.size+3),.pointer none,.map (some (w.heap.size+1)),ptr (w.heap.size+2)] 252));obtain⟨w6,h6⟩:=zex (w5.alloc (.cells #[.int .i64 0,ptr d,.int .i64 1000,.pointer none,ptr (w.heap.size+4),.pointer none,.int .u64 0,.nilIface,.nilFunc,.pointer none] 261));rw[<-h1,<-h2,<-h3,<-h4,<-h5,<-h6];have s1:w1.heap.size=w.heap.size+1:=by rw[h1];exact Array.size_push ..
 have s2:w2.heap.size=w.heap.size+2:=by rw[h2];exact(Array.size_push ..).trans (by rw[s1])
 have s3:w3.heap.size=w.heap.size+3:=by rw[h3];exact(Array.size_push ..).trans (by rw[s2])
 have s4:w4.heap.size=w.heap.size+4:=by rw[h4];exact(Array.size_push ..).trans (by rw[s3])
 have s5:w5.heap.size=w.heap.size+5:=by rw[h5];exact(Array.size_push ..).trans (by rw[s4])
 have s6:w6.heap.size=w.heap.size+6:=by rw[h6];exact(Array.size_push ..).trans (by rw[s5])
 have n1:za w w1:=by rw[h1];exact(za.refl _).alloc _
 have n2:za w1 w2:=by rw[h2];exact(za.refl _).alloc _
 have n3:za w2 w3:=by rw[h3];exact(za.refl _).alloc _
 have n4:za w3 w4:=by rw[h4];exact(za.refl _).alloc _
 have n5:za w4 w5:=by rw[h5];exact(za.refl _).alloc _
 have n6:za w5 w6:=by rw[h6];exact(za.refl _).alloc _
 have n26:za w2 w6:=((n3.trans n4).trans n5).trans n6;refine⟨(n1.trans n2).trans n26,s6,?_,?_,?_,?_⟩
 ·have h:=zD.made kY w;rw[<-h1]at h;exact h.frame ((n2.trans n26).block _ (by omega) λe=>e)
 ·have h:=zD.made kY w1;rw[<-h2,s1]at h;exact h.frame (n26.block _ (by omega) λe=>e)
 ·have h:=zg w4 (.cells #[.map (some w.heap.size),.int .u64 0,ptr (w.heap.size+3),.pointer none,.map (some (w.heap.size+1)),ptr (w.heap.size+2)] 252);rw[<-h5,s4]at h;exact n6.heap h
 ·have h:=zg w5 (.cells #[.int .i64 0,ptr d,.int .i64 1000,.pointer none,ptr (w.heap.size+4),.pointer none,.int .u64 0,.nilIface,.nilFunc,.pointer none] 261);rw[<-h6,s5]at h;exact h
theorem zcP{w:World}{d:Nat}(hS:∀b,S b->b<w.heap.size)(hd:w.cell? ⟨d,0,none⟩=some dv)(hD:jN (im S w) C dv)(Hx:C.length<=1000):
  Calls prog 53 #[ptr d,.int .i64 1000] w λe w'=>e=.returned (ptr (w.heap.size+5))/\∃W0 W w1 n,UP w W0 d/\gZ W0 W (w.heap.size+5)/\w'=(w1.drewN n).setCell ⟨w.heap.size+5,3,none⟩ (ptr (W0.heap.size+2))/\Vz (λj=>S j\/w.heap.size<=j/\j<W.heap.size) W (W0.heap.size+2) (w.heap.size+4) d C w1/\
   ∃tx1 tx2,ZY w1 (W0.heap.size+2) (w.heap.size+5) d (w.heap.size+4) W0.heap.size (W0.heap.size+1) w.heap.size (w.heap.size+1) (w.heap.size+3) (w.heap.size+2) (ptr tx1) (ptr tx2) (.pointer none):=by
 have Su:= @run_makeMap prog;obtain⟨W0,py⟩:=zex (((((((w.alloc (.map #[] 0)).alloc (.map #[] 0)).alloc (.cells #[] 246)).alloc (.cells #[] 144)).alloc (.cells #[.map (some w.heap.size),.int .u64 0,ptr (w.heap.size+3),.pointer none,.map (some (w.heap.size+1)),ptr (w.heap.size+2)] 252)).alloc (.cells #[.int .i64 0,ptr d,.int .i64 1000,.pointer none,ptr (w.heap.size+4),.pointer none,.int .u64 0,.nilIface,.nilFunc,.pointer none] 261)));have hM:UP w W0 d:=by rw[py];exact zby w d
 have hY:(im S w).le (im (λj=>S j\/w.heap.size<=j/\j<W0.heap.size) W0):=λa v ha=>by
  have h1:=zi.1 ha;have h2:=World.block_lt_of_cell? _ a h1.2;refine zi.2 ⟨?_,hM.new.le _ _ h1.2⟩;rintro(e|e)
  ·exact h1.1 e
  ·omega
 have HC:=hid (zcO (w:=W0) (S:=λj=>S j\/w.heap.size<=j/\j<W0.heap.size) (λb hb=>by
  have:=hM.new.size;rcases hb with hb|hb
  ·have:=hS b hb;omega
  ·exact hb.2) hM.be hM.rt (hM.new.le _ _ hd) (hD.mono hY) Hx)
 have HM:=hid hM;have HW:=hid py;have Hi:∀W1:World,(∃t m sm m4 cm mu wg wv rv,ZY W1 t (w.heap.size+5) d (w.heap.size+4) m sm m4 cm mu wg wv rv (.pointer none))->W1.cell? ⟨w.heap.size+5,3,none⟩=some (.pointer none)/\W1.frozen? ⟨w.heap.size+5,3,none⟩=false:=by rintro W1 ⟨t,m,sm,m4,cm,mu,wg,wv,rv,h⟩;exact⟨by rw[cell_of_row W1 _ 3 _ _ (0,0) h.be];rfl,by simp[World.frozen?,h.be]⟩
 have Tu:=hid Hi;clear hd hD hS hM hY py Hi;go_enter func53,ntmps53;go_upto_region 2 with fail
 change Code.wp _ _ _ _ ((((((w.alloc (.map #[] 0)).alloc (.map #[] 0)).alloc (.cells #[] 246)).alloc (.cells #[] 144)).alloc (.cells #[.map (some w.heap.size),.int .u64 0,ptr (w.heap.size+3),.pointer none,.map (some (w.heap.size+1)),ptr (w.heap.size+2)] 252)).alloc (.cells #[.int .i64 0,ptr d,.int .i64 1000,.pointer none,ptr (w.heap.size+4),.pointer none,.int .u64 0,.nilIface,.nilFunc,.pointer none] 261));rw[<-HW.out];go_wp2_with fail;refine HC.out.mono ?_;rintro e w' ⟨rfl,W,w1,n,N1,rfl,pw,tx1,tx2,Pv⟩;obtain⟨z1,z2⟩:=Tu.out (w1.drewN n) ⟨_,_,_,_,_,_,_,_,_,Pv.drewN n⟩;have Hu:=hid (And.intro N1 (And.intro pw Pv));clear N1 pw Pv;go_wp2;go_returns;obtain⟨N1,pw,Pv⟩:=Hu.out;refine⟨rfl,W0,W,w1,n,HM.out,N1,rfl,?_,tx1,tx2,Pv⟩;have Se:(λj=>(S j\/w.heap.size<=j/\j<W0.heap.size)\/W0.heap.size<=j/\j<W.heap.size)=λj=>S j\/w.heap.size<=j/\j<W.heap.size:=by
  funext j
  have h1:=HM.out.size;have h2:=N1.size;apply propext;constructor
  ·rintro((e|e)|e)
   ·exact Or.inl e
   ·exact Or.inr (by omega)
   ·exact Or.inr (by omega)
  ·rintro(e|e)
   ·exact Or.inl (Or.inl e)
   ·by_cases h:j<W0.heap.size
    ·exact Or.inl (Or.inr ⟨e.1,h⟩)
    ·exact Or.inr (by omega)
 rw[<-Se];exact pw
def qk(k:zu)(n a b:Nat):zu:=λj=>
 if j<n then k j else if j=n then 7 else if j=n+1 then 8 else if j=n+4 then 3 else if j=n+5 then 1 else if j=n+6 then 5 else if j=n+7 then 6 else if j=n+8 then 2 else if j<n+9 then 0 else if j<a then 9 else if j<b then 10 else 0
variable{a b n:Nat}
theorem uY{k:zu}(h:j<n):qk k n a b j=k j:=by unfold qk;rw[if_pos h]
theorem g_{k:zu}(h:n+9<=j)(h2:j<a):qk k n a b j=9:=by unfold qk;rw[if_neg (by omega),if_neg (by omega),if_neg (by omega),if_neg (by omega),if_neg (by omega),if_neg (by omega),if_neg (by omega),if_neg (by omega),if_neg (by omega),if_pos h2]
theorem uZ{k:zu}(h0:n+9<=a)(h:a<=j)(h2:j<b):qk k n a b j=10:=by unfold qk;rw[if_neg (by omega),if_neg (by omega),if_neg (by omega),if_neg (by omega),if_neg (by omega),if_neg (by omega),if_neg (by omega),if_neg (by omega),if_neg (by omega),if_neg (by omega),if_pos h2]
theorem UQ{k:zu}(hk:∀j,k j≠0->j<n)(h0:n+9<=a)(h1:a<=b)(h:qk k n a b j≠0):j<b:=by
 rcases Nat.lt_or_ge j b with e|e
 ·exact e
 ·exfalso;apply h;unfold qk;rw[if_neg (by omega),if_neg (by omega),if_neg (by omega),if_neg (by omega),if_neg (by omega),if_neg (by omega),if_neg (by omega),if_neg (by omega),if_neg (by omega),if_neg (by omega),if_neg (by omega)]
theorem zcQ{k:zu}{w:World}{d:Nat}(hk:∀j,k j≠0->j<w.heap.size)(LT:k d=4)(hd:w.heap[d]? =some (.cells #[dv] 79 (0,0)))(hD:jN (im k.some w) C dv)(Hx:C.length<=1000):
  Calls prog 53 #[ptr d,.int .i64 1000] w λe w'=>∃l' I wb rb,e=.returned (ptr I.be)/\za w w'/\(∀b,b<w.heap.size->l' b=k b)/\I.db=d/\jX l' w' I C wb rb 0 0 [] []/\wb.map (·.2)=C/\rb.map (·.2)=C:=by
 have cg:d<w.heap.size:=(Array.getElem?_eq_some_iff.1 hd).1;refine(zcP (S:=k.some) hk (by rw[cell_of_row w d 0 _ _ (0,0) hd];rfl) hD Hx).mono ?_;rintro e w' ⟨rfl,W0,W,w1,n,hM,hT,rfl,⟨tx1,v1,kk,v2,tx2,⟨n1,bs1,Pb,r8⟩,⟨n2,bs2,pw,Nj⟩,rfl⟩,_⟩;have s0:=hM.size;have s1:=hT.size;obtain⟨N,hN⟩:∃N,w.heap.size=N:=⟨_,rfl⟩;have mn:=hM.new;have m4:=hM.m4;have mc:=hM.cm;have mr:=hM.rt;have mb:=hM.be;have tn:=hT.new;have tm:=hT.m;have ts:=hT.sm;have tb:=hT.bt;clear hM hT;rw[hN]at m4 mc mr mb s0 Pb pw cg tb⊢;rw[s0]at tm ts tb s1 n2 pw⊢;have a1:=n1.size;obtain⟨w3,pu⟩:=zex (((v1.setCell ⟨N+6+2,0,none⟩ (ptr tx1)).setCell ⟨N+6+2,5,none⟩ (.int .i64 0)).drewN kk);rw[<-pu]at n2 pw;have s3:w3.heap.size=v1.heap.size:=by rw[pu];simp[World.drewN,World.setCell]
 have a2:=n2.size;obtain⟨w',Mn⟩:∃w',w'=((v2.setCell ⟨N+4,3,none⟩ (ptr tx2)).drewN n).setCell ⟨N+5,3,none⟩ (ptr (N+6+2)):=⟨_,rfl⟩;rw[<-Mn];have s4:w'.heap.size=v2.heap.size:=by rw[Mn];simp[World.drewN,World.setCell]
 have h3:∀j,j≠N+8->w3.heap[j]? =v1.heap[j]? :=λj hj=>by rw[pu];show((v1.setCell ⟨N+6+2,0,none⟩ (ptr tx1)).setCell ⟨N+6+2,5,none⟩ (.int .i64 0)).heap[j]? =_;rw[Below.heap_setCell _ _ _ _ (show j≠N+6+2 from hj),Below.heap_setCell _ _ _ _ (show j≠N+6+2 from hj)]
 have h4:∀j,j≠N+4->j≠N+5->w'.heap[j]? =v2.heap[j]? :=λj hj ET=>by rw[Mn,Below.heap_setCell _ _ _ _ (show j≠N+5 from ET)];show(v2.setCell ⟨N+4,3,none⟩ (ptr tx2)).heap[j]? =_;rw[Below.heap_setCell _ _ _ _ (show j≠N+4 from hj)]
 have hW:∀j,j<N+9->j≠N+8->j≠N+4->j≠N+5->w'.heap[j]? =W.heap[j]? :=λj hj h8 hj4 ET=>by rw[h4 j hj4 ET,n2.block j (by omega) (λe=>e),h3 j h8,n1.block j (by omega) (λe=>e)]
 have py:∀j,j<N+6->W.heap[j]? =W0.heap[j]? :=λj hj=>tn.block j (by omega) (λe=>e);have pF:∀j,j<N->w'.heap[j]? =w.heap[j]? :=λj hj=>by rw[hW j (by omega) (by omega) (by omega) (by omega),py j (by omega),mn.block j (by omega) (λe=>e)]
 have hn:za w w':=by
  have q1:za w v1:=(mn.trans tn).trans n1;have q2:za w w3:=by rw[pu];exact(zq.setCell (zq.setCell q1 (p:=⟨N+6+2,0,none⟩) (λHb=>absurd Hb (by show ¬N+6+2<_;omega)) _) (p:=⟨N+6+2,5,none⟩) (λHb=>absurd Hb (by show ¬N+6+2<_;omega)) _).drewN kk
  have q3:=q2.trans n2;rw[Mn];exact zq.setCell ((zq.setCell q3 (p:=⟨N+4,3,none⟩) (λHb=>absurd Hb (by show ¬N+4<_;omega)) _).drewN n) (p:=⟨N+5,3,none⟩) (λHb=>absurd Hb (by show ¬N+5<_;omega)) _
 have lm:∀j,j<N->qk k N v1.heap.size v2.heap.size j=k j:=λj hj=>uY hj;have Bt:∀X:World,(∀j,j<N->X.heap[j]? =w.heap[j]?)->X.heap.size<=v2.heap.size->∀p v,¬(k.some p.block\/N<=p.block/\p.block<N+9)->p.block<N+9->X.cell? p=some v->im (qk k N v1.heap.size v2.heap.size).some w' p=some v:=λX hX pL p v hp Hb hc=>by
  have OE:p.block<N:=by
   rcases Nat.lt_or_ge p.block N with e|e
   ·exact e
   ·exact absurd (Or.inr ⟨e,Hb⟩) hp
  refine zi.2 ⟨λe=>hp (Or.inl ?_),?_⟩
  ·have:=lm _ OE;show k p.block≠0;rw[<-this];exact e
  ·rw[World.cell?_of_block ((pF _ OE).trans (hX _ OE).symm)];exact hc
 have hXW:∀j,j<N->W.heap[j]? =w.heap[j]? :=λj hj=>by rw[py j (by omega),mn.block j (by omega) (λe=>e)]
 have hX3:∀j,j<N->w3.heap[j]? =w.heap[j]? :=λj hj=>by rw[h3 j (by omega),n1.block j (by omega) (λe=>e),hXW j hj]
 have rbe:w'.heap[N+5]? =some (.cells #[.int .i64 0,ptr d,.int .i64 1000,ptr (N+8),ptr (N+4),.pointer none,.int .u64 0,.nilIface,.nilFunc,.pointer none] 261 (0,0)):=by have r:=n1.heap (tn.heap mb);rw[<-h3 _ (by omega)]at r;have r2:=n2.heap r;have r3:((v2.setCell ⟨N+4,3,none⟩ (ptr tx2)).drewN n).heap[N+5]? =_:=(Below.heap_setCell v2 ⟨N+4,3,none⟩ (ptr tx2) (N+5) (show N+5≠N+4 by omega)).trans r2;rw[Mn];exact heap_setCell_same _ (N+5) 3 _ _ _ r3
 have rrt:w'.heap[N+4]? =some (.cells #[.map (some N),.int .u64 0,ptr (N+3),ptr tx2,.map (some (N+1)),ptr (N+2)] 252 (0,0)):=by have r:=n1.heap (tn.heap mr);rw[<-h3 _ (by omega)]at r;have r2:=n2.heap r;rw[Mn,Below.heap_setCell _ _ _ _ (show N+4≠N+5 by omega)];exact heap_setCell_same v2 (N+4) 3 _ _ _ r2
 have rbt:w'.heap[N+8]? =some (.cells #[ptr tx1,ptr (N+5),.int .i64 0,.map (some (N+6)),.map (some (N+6+1)),.int .i64 0] 290 (0,0)):=by have r:=n1.heap tb;have r1:=heap_setCell_same v1 (N+6+2) 0 _ _ (ptr tx1) r;have r2:=heap_setCell_same _ (N+6+2) 5 _ _ (.int .i64 0) r1;rw[h4 _ (by omega) (by omega)];refine n2.heap ?_;rw[pu];exact r2
 have mj:∀j,qk k N v1.heap.size v2.heap.size j≠0->j<w'.heap.size:=λj e=>by rw[s4];exact UQ (λj e=>by have:=hk j e;omega) (by omega) (by omega) e
 have hY:(im k.some w).le (im (qk k N v1.heap.size v2.heap.size).some w'):=λp v hp=>by
  have h9:=zi.1 hp;have Hb:=World.block_lt_of_cell? _ p h9.2;exact Bt w (λ_ _=>rfl) (by omega) p v (λe=>by
   rcases e with e|e
   ·exact h9.1 e
   ·omega) (by omega) h9.2
 refine⟨qk k N v1.heap.size v2.heap.size,⟨N+5,N+8,N+4,d,tx1,tx2,N+6,N+7,N,N+1⟩,bs1,bs2,rfl,hn,λb hb=>lm b hb,rfl,⟨mj,?_,⟨0,rbe⟩,rbt,⟨0,N+3,N+2,rrt⟩,⟨dv,?_,hD.mono hY⟩,?_,?_,⟨?_,by simp,by simp⟩,⟨?_,by simp,by simp⟩,by simp,⟨[],?_,by simp⟩,⟨[],?_,by simp⟩⟩,r8,Nj⟩
 ·refine⟨?_,?_,?_,?_,?_,?_,?_,?_⟩
  ·show qk k N _ _ (N+5)=1;unfold qk;simp;try exact λh=>absurd h (by omega)
  ·show qk k N _ _ (N+8)=2;unfold qk;simp;try exact λh=>absurd h (by omega)
  ·show qk k N _ _ (N+4)=3;unfold qk;simp;try exact λh=>absurd h (by omega)
  ·show qk k N _ _ d=4;rw[lm d cg];exact LT
  ·show qk k N _ _ (N+6)=5;unfold qk;simp;try exact λh=>absurd h (by omega)
  ·show qk k N _ _ (N+7)=6;unfold qk;simp;try exact λh=>absurd h (by omega)
  ·show qk k N _ _ N=7;unfold qk;simp;try exact λh=>absurd h (by omega)
  ·show qk k N _ _ (N+1)=8;unfold qk;simp;try exact λh=>absurd h (by omega)
 ·rw[pF d cg];exact hd
 ·refine(kr.frame (w':=w') Pb (λb hb=> ?_) (λp v hp=> ?_)).mono λb hb=>g_ (by have:=hb.1;omega) hb.2
  ·have:=hb.1;have:=hb.2;rw[h4 b (by omega) (by omega),n2.block b (by omega) (λe=>e),h3 b (by omega)]
  ·have h9:=zi.1 hp;have Hb:=World.block_lt_of_cell? _ p h9.2;exact Bt W hXW (by omega) p v (λe=>h9.1 (by
    rcases e with e|e
    ·exact Or.inl e
    ·exact Or.inr (by omega))) (by omega) h9.2
 ·refine(kr.frame (w':=w') pw (λb hb=> ?_) (λp v hp=> ?_)).mono λb hb=>uZ (by omega) (by have:=hb.1;omega) hb.2
  ·have:=hb.1;have:=hb.2;rw[h4 b (by omega) (by omega)]
  ·have h9:=zi.1 hp;have Hb:=World.block_lt_of_cell? _ p h9.2;refine Bt w3 hX3 (by omega) p v (λe=>h9.1 (by
    rcases e with e|e
    ·exact Or.inl (Or.inl e)
    ·exact Or.inl (Or.inr (by omega)))) ?_ h9.2
   rcases Nat.lt_or_ge p.block (N+9)with e|e
   ·exact e
   ·exact absurd (Or.inr ⟨by omega,by omega⟩) h9.1
 ·exact tm.frame (hW _ (by omega) (by omega) (by omega) (by omega))
 ·exact m4.frame ((hW _ (by omega) (by omega) (by omega) (by omega)).trans (py _ (by omega)))
 ·exact ts.frame (hW _ (by omega) (by omega) (by omega) (by omega))
 ·exact mc.frame ((hW _ (by omega) (by omega) (by omega) (by omega)).trans (py _ (by omega)))
end Go.Proofs.YtbmdoinjkligiaaGreat
