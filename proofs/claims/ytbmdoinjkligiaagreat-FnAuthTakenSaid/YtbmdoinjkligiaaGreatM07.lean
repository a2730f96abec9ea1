/- Contracts and laws that the last text joins. -/
import Derived.Test.YtbmdoinjkligiaaGreatM04
import Derived.Test.YtbmdoinjkligiaaGreatM06
set_option maxRecDepth 100000
set_option maxHeartbeats 40000000
set_option linter.all false
namespace Go.Proofs.YtbmdoinjkligiaaGreat
open Tryz
open Lib(hid)
open Go.RowKit
variable{α β:Type}
theorem Wa(f:α->β){l:List α}(hn:(l.map f).Nodup){x y:α}(hx:x∈l)(hy:y∈l)(h:f x=f y):x=y:=by
 induction l with
 |nil=>cases hx
 |cons z l ih=>
  simp only[List.map_cons,List.nodup_cons]at hn;rcases List.mem_cons.1 hx with e1|hx
  ·rcases List.mem_cons.1 hy with f1|hy
   ·rw[e1,f1]
   ·exact absurd (List.mem_map.2 ⟨y,hy,by rw[<-h,e1]⟩) hn.1
  ·rcases List.mem_cons.1 hy with f1|hy
   ·exact absurd (List.mem_map.2 ⟨x,hx,by rw[h,f1]⟩) hn.1
   ·exact ih hn.2 hx hy
variable{r:Rd}{v:Value}
theorem Bs.shape'{l:List UInt8}(h:Bs r l v):∃p n c,v=.slice p n c:=by obtain⟨p,n,c,rfl,_⟩:=h;exact⟨p,n,c,rfl⟩
theorem gm(w:World):(binOp .eql 75 (.slice none 0 0) (.slice none 0 0)).run prog w=.ok (.bool true) w:=by kernel_rfl
variable{C:List zZ}{e2 e4:zY}{l:zu}{pdel pend:Nat}{rb wb:List (Nat×zZ)}{w':World}
theorem jX.ofNew{w:World}{I:zN}(h:jX l w I C wb rb pend pdel e2 e4)(hn:za w w'):zB l w l w'/\jX l w' I C wb rb pend pdel e2 e4:=
 ⟨zB.ofNew h.bnd hn,h.frame (λb e=>Nat.lt_of_lt_of_le (h.bnd b e) hn.size) (λb e=>⟨rfl,hn.block b (h.bnd b e.1) (λe=>e)⟩) (za.im hn l.some)⟩
theorem jX.cached{w:World}{I:zN}(h:jX l w I C wb rb pend pdel e2 e4){cs:List (zF×Value)}(hm:zq (· =I.cm) w w')(T_:zD kY w' I.cm cs)
  (RO:∀c∈cs,∃x∈rb,x.2.1=c.1.name/\c.2=ptr x.1):zB l w l w'/\jX l w' I C wb rb pend pdel e2 e4:=by
 obtain⟨cs0,hC,_⟩:=h.toC;have l8:=h.lab.2.2.2.2.2.2.2;have hs:zB l w l w':=zB.ofMod h.bnd (hm.mono λj _ e=>⟨by rw[e,l8];decide,by rw[e,l8];decide⟩);have k:=hC.kept hs (· =8) λj ho=>by
  by_cases e:j=I.cm
  ·exact Or.inl (by rw[e];exact l8)
  ·exact Or.inr (hm.block j (h.bnd j ho.1) e)
 refine⟨hs,Z9.toS ⟨k.bnd,k.lab,k.be (by decide),k.bt (by decide),k.rt (by decide),k.db (by decide),k.wtx (by decide),k.buf2 (by decide) (by decide),k.buf4 (by decide) (by decide),h.apart,k.sq (by decide),T_⟩ ?_ RO⟩;exact h.rtx.frame (λj e=>hm.block j (h.bnd j (by rw[e];decide)) (λe2=>by subst e2;unfold zu.is at e;rw[l8]at e;cases e)) hs.le
variable{bk j:Nat}{kv:Value}{ps:yr}
theorem Wb{w:World}{I:zN}(h:jX l w I C wb rb pend pdel e2 e4)(hz:∀e∈e4,e.2.2.2=[]){b:zF}{k:Bytes}{lim:Int}
  (hj:rb[j]? =some (bk,(b.name,ps)))(pS:zk (zG rb) b.name=j)(RI:zx (zG rb) b.name=true)(My:(zG rb).Nodup)(rJ:zM (zJ ps))(Ho:∀p∈ps,p.1≠[])(Hx:ps.length<=1000000)(hk:Bs (im l.some w) k kv):
  Calls prog 313 #[ptr I.rt,b.val,kv,.slice none 0 0,.int .i64 lim] w λe w'=>∃ks vs,e=.returned (.tuple #[ks,vs])/\zB l w l w'/\jX l w' I C wb rb pend pdel e2 e4/\qP (im l.some w') (qX ps k).toList vs:=by
 obtain⟨cs,hC,RO⟩:=h.toC;obtain⟨n,mu,wg,PF⟩:=hC.rt;have l8:=h.lab.2.2.2.2.2.2.2;have l3:=h.lab.2.2.1;have r0:w.cell? ⟨I.rt,0,none⟩=some (.map (some I.m4)):=by rw[cell_of_row w I.rt 0 _ _ (0,0) PF];rfl
 have r2:w.cell? ⟨I.rt,2,none⟩=some (ptr mu):=by rw[cell_of_row w I.rt 2 _ _ (0,0) PF];rfl
 have r3:w.cell? ⟨I.rt,3,none⟩=some (ptr I.rtx):=by rw[cell_of_row w I.rt 3 _ _ (0,0) PF];rfl
 have r4:w.cell? ⟨I.rt,4,none⟩=some (.map (some I.cm)):=by rw[cell_of_row w I.rt 4 _ _ (0,0) PF];rfl
 have NZ:I.rt≠I.cm:=λe=>by rw[e,l8]at l3;cases l3
 have Hf:(bk,(b.name,ps))∈rb:=List.mem_of_getElem? hj;have ld:jq cs b=none\/jq cs b=some (ptr bk):=by
  cases hg:jq cs b with
  |none=>exact Or.inl rfl
  |some y=>obtain⟨x,hx,pB,rU⟩:=RO _ (Qb hg);simp only at pB rU;have:x=(bk,(b.name,ps)):=Wa (λy:Nat×zZ=>y.2.1) My hx Hf pB;rw[rU,this];exact Or.inr rfl
 have cY:=λ(w':World) (e:w'.heap[I.cm]? =w.heap[I.cm]?)=>zD.look (P:=prog) (t:=244) (e:=329) Zd (by kernel_rfl) (z:=.pointer none) (by kernel_rfl) (hC.cm.frame e) b true;have Ar:=hC.cm.lt;have BU:=hid (D_ (b:=b) (kv:=kv) (ev:=.slice none 0 0) (lim:=.int .i64 1) h.buf4 hz hk.shape' ⟨_,_,_,rfl⟩ ⟨_,rfl⟩ r0);have nh:∀w1,zq (· =I.cm) w w1->Calls prog 255 #[ptr bk] w1 λe w2=>e=.returned (ptr w1.heap.size)/\za w1 w2/\
   (∀lim:Int,Calls prog 320 #[ptr w1.heap.size,kv,.slice none 0 0,.int .i64 lim] w2 λe w3=>∃ks vs,e=.returned (.tuple #[ks,vs])/\za w1 w3/\Plain ks/\qP (im l.some w3) (qX ps k).toList vs):=λw1 hm=>by
  have hs:zB l w l w1:=zB.ofMod h.bnd (hm.mono λj _ e=>⟨by rw[e,l8];decide,by rw[e,l8];decide⟩);exact gj (S:=l.some) hs.bnd (h.rtx.frame (w':=w1) (λj e=>hm.block j (h.bnd j (by rw[e];decide)) (λe2=>by subst e2;unfold zu.is at e;rw[l8]at e;cases e)) hs.le) hj rJ Ho Hx (hk.mono hs.le)
 have lh:∀w1,za w w1->∀xv,Bs w1.cell? b.name xv->(∀q,xv.ownBlock=some q->w.heap.size<=q)->Calls prog 319 #[ptr I.rtx,xv] w1 λe w'=>e=.returned (ptr bk)/\w1=w':=λw1 hn xv hx Pw=>by obtain⟨hs,hB⟩:=h.ofNew hn;exact JC hB.rtx hj pS RI (Bs.im_of (S:=l.some) (w:=w1) hx λq hq e=>by have:=Pw q hq;have:=h.bnd q e;omega)
 have pi:∀w1,za w w1->∃w2,(Instr.mapUpdate 244 (.map (some I.cm)) (kY b) (ptr bk)).run prog w1=.ok () w2/\zq (· =I.cm) w w2/\zB l w l w2/\jX l w2 I C wb rb pend pdel e2 e4:=λw1 hn=>by
  obtain⟨hs,hB⟩:=h.ofNew hn;have h_:=X_ _ hC.cm.nodup;obtain⟨w2,pQ,RZ,hm⟩:=zD.put (P:=prog) (t:=244) (e:=329) Zd (by kernel_rfl) (hC.cm.frame (hn.block _ Ar (λe=>e))) (by simp only[List.length_map]at h_;simp only[maxLen];omega) b (ptr bk);obtain⟨rj,wz⟩:=hB.cached hm RZ λc hc=>by
   unfold xu at hc;split at hc
   ·obtain⟨f,hf,rfl⟩:=List.mem_map.1 hc;by_cases e:f.1=b
    ·rw[if_pos e];exact⟨_,Hf,rfl,rfl⟩
    ·rw[if_neg e];exact RO f hf
   ·rcases List.mem_append.1 hc with hc|hc
    ·exact RO c hc
    ·simp only[List.mem_singleton]at hc;subst hc;exact⟨_,Hf,rfl,rfl⟩
  exact⟨w2,pQ,zq.trans (za.mod hn _) hm λ_ _ e=>e,hs.trans rj,wz⟩
 have Hv:∀w1 w3,zB l w l w1->jX l w1 I C wb rb pend pdel e2 e4->za w1 w3->zB l w l w3/\jX l w3 I C wb rb pend pdel e2 e4:=λw1 w3 hs hB hn=>⟨hs.trans (hB.ofNew hn).1,(hB.ofNew hn).2⟩;have pZ:=World.block_lt_of_cell? w _ r0;obtain⟨kp,kn,kc,rfl⟩:=hk.shape';have NU:=xi b;have Ti:=jP b;have Hm:=QM b.raw;have li:=vy b.raw;have cZ:∀w1,za w w1->zB l w l w1/\jX l w1 I C wb rb pend pdel e2 e4:=λw1 hn=>h.ofNew hn;have N0:=hid cZ;clear cZ;have HL:=hid cY;clear cY;have mF:=hid nh;clear nh;have ID:=hid lh;clear lh;have rK:=hid pi;clear pi;have pj:=hid Hv;clear Hv;have HCA:=hid ld;clear ld;have HNF:=hid (show∀w1 (o:Obj),za w w1->za w (w1.alloc o)from λw1 o hn=>zq.alloc hn o);clear h hz hj pS RI My rJ Ho Hx hk hC RO PF Hf r0;unfold zF.val at BU⊢;generalize zF.raw b=raw at*
 have RW:=gm w;go_enter func313,ntmps313;go_wp2_with fail;refine BU.out.mono ?_;rintro e w1 ⟨rfl,hQ⟩;have Hs:=hid hQ;clear hQ;go_wp2_with fail;refine(NU _).mono ?_;rintro e w2 ⟨rfl,PO⟩;have Hj:za w w2:=by rw[PO];exact HNF.out _ _ Hs.out
 have q2:w2.cell? ⟨I.rt,2,none⟩=some (ptr mu):=Hj.le _ _ r2;have q3:w2.cell? ⟨I.rt,3,none⟩=some (ptr I.rtx):=Hj.le _ _ r3;have q4:w2.cell? ⟨I.rt,4,none⟩=some (.map (some I.cm)):=Hj.le _ _ r4;have tX:=HL.out w2 (Hj.block _ Ar (λe=>e));have Pf:=hid Hj;clear Hj;have lj:=hid PO;clear PO;rcases HCA.out with hg|hg
 ·rw[hg]at tX;simp only[if_true]at tX;go_wp2_with (first|(go_at_call 96;go_must (refine(Qk _ _).mono ?_);rintro e w9 ⟨rfl,rfl⟩)|(go_at_call 98;go_must (refine(KH _ _).mono ?_);rintro e w9 ⟨rfl,rfl⟩)|(go_at_call 69;go_must (refine(vY _ _).mono ?_);rintro e w9 ⟨rfl,rfl⟩));clear tX;go_region_with (first|(go_at_call 300;refine(Ti _).mono ?_;rintro e w3 ⟨xv,rfl,Hg,tY,Au⟩;have d3:w3.cell? ⟨I.rt,3,none⟩=some (ptr I.rtx):=Hg.le _ _ q3;have d2:w3.cell? ⟨I.rt,2,none⟩=some (ptr mu):=Hg.le _ _ q2;have d4:w3.cell? ⟨I.rt,4,none⟩=some (.map (some I.cm)):=Hg.le _ _ q4;obtain⟨xp,xn,xc,rfl,_⟩:=tY.shape;have E2:=hid tY;have IE:=hid Au;have Rb:=hid (za.trans Pf.out (za.undrew Hg));clear tY Au Hg)|(go_at_call 319;refine(ID.out _ Rb.out _ E2.out (λq hq=>Nat.le_trans Pf.out.size (IE.out q hq))).mono ?_;rintro e w9 ⟨rfl,rfl⟩))
  all_goals
   obtain⟨w5,pi,pr,pC,hB5⟩:=rK.out w3 Rb.out;have f2:w5.cell? ⟨I.rt,2,none⟩=some (ptr mu):=pr.cell NZ r2;have tF:=hid (mF.out w5 pr);have P8:=hid pC;clear pC;have E3:=hid hB5;clear hB5;clear pr q2 q3 q4;go_wp2_with fail;refine tF.out.mono ?_;rintro e w6 ⟨rfl,tZ,mG⟩;have q2':w6.cell? ⟨I.rt,2,none⟩=some (ptr mu):=tZ.le _ _ f2;have C7:=hid mG;clear mG;clear tZ pi f2 d2 d3 d4;go_wp2_with (go_at_call 70;go_must (refine(QQ _ _).mono ?_);rintro e w9 ⟨rfl,rfl⟩);refine(C7.out _).mono ?_;rintro e w4 ⟨ks,vs,rfl,Rh,Sq,L3⟩;obtain⟨vp,vn,vc,rfl,TZ,nY⟩:=L3.plain;obtain⟨qp,qn,qc,rfl,pY,PL⟩:=Sq;have IF:=hid L3;clear L3;have Te:=hid Rh;clear Rh;have Nq:=hid PL;clear PL;have CM:=hid nY;clear nY;go_wp2_with (at_builtin;first|(refine vd jV rfl rfl rfl rfl pY Nq.out ?_)|(refine vd jV rfl rfl rfl rfl TZ CM.out ?_));go_returns
   exact⟨_,_,rfl,((pj.out w5 w4 P8.out E3.out Te.out).1),((pj.out w5 w4 P8.out E3.out Te.out).2),IF.out⟩
 ·rw[hg]at tX;simp only[if_true]at tX;obtain HC2:=hid (mF.out w2 (za.mod Pf.out _));go_wp2_with (first|(go_at_call 96;go_must (refine(Qk _ _).mono ?_);rintro e w9 ⟨rfl,rfl⟩)|(go_at_call 98;go_must (refine(KH _ _).mono ?_);rintro e w9 ⟨rfl,rfl⟩)|(go_at_call 69;go_must (refine(vY _ _).mono ?_);rintro e w9 ⟨rfl,rfl⟩));refine HC2.out.mono ?_;rintro e w3 ⟨rfl,Hg,mG⟩;have q2':w3.cell? ⟨I.rt,2,none⟩=some (ptr mu):=Hg.le _ _ q2;have C7:=hid mG;clear mG;clear Hg tX q4 q3;go_wp2_with (go_at_call 70;go_must (refine(QQ _ _).mono ?_);rintro e w9 ⟨rfl,rfl⟩);refine(C7.out _).mono ?_;rintro e w4 ⟨ks,vs,rfl,Rh,Sq,L3⟩;obtain⟨vp,vn,vc,rfl,TZ,nY⟩:=L3.plain;obtain⟨qp,qn,qc,rfl,pY,PL⟩:=Sq;have IF:=hid L3;clear L3;have Te:=hid Rh;clear Rh;have Nq:=hid PL;clear PL;have CM:=hid nY;clear nY;go_wp2_with (at_builtin;first|(refine vd jV rfl rfl rfl rfl pY Nq.out ?_)|(refine vd jV rfl rfl rfl rfl TZ CM.out ?_))
  go_returns;exact⟨_,_,rfl,((pj.out w2 w4 (N0.out w2 Pf.out).1 (N0.out w2 Pf.out).2 Te.out).1),((pj.out w2 w4 (N0.out w2 Pf.out).1 (N0.out w2 Pf.out).2 Te.out).2),IF.out⟩
variable{F:Nat->Prop}{es:zY}{q:Nat}
theorem Ua{w:World}{m:Nat}{b:zF}{fid:FuncId}{cap:Array Value}(h:zQ r w F m es)(hz:∀e∈es,e.2.2.2=[])(hq:w.cell? ⟨q,0,none⟩=some (.map (some m))):
  Calls prog 316 #[ptr q,b.val,.func (.func fid) #[] cap] w λe w'=>e=.returned .nilIface/\za w w':=by
 have wy:=h.map.lt;have MO:=World.block_lt_of_cell? w _ hq;have NU:=xi b;have Hm:=QM b.raw;have hD:zq (λ_=>False) w ((w.alloc (.cells #[.int .i64 b.num,.string ⟨b.name.toArray⟩,.bool false] 428)).drew):=((za.refl w).alloc _).drew;rcases Xu h hz b with hl|⟨bb,Ro,IC,hl⟩
 ·have S7:=hl ((w.alloc (.cells #[.int .i64 b.num,.string ⟨b.name.toArray⟩,.bool false] 428)).drew) (hD.block _ wy (λe=>e));have HD:=hid hD;clear hD;clear hl h hz;unfold zF.val;generalize zF.raw b=raw at*
  go_enter func316,ntmps316;go_wp2;go_region_with (go_at_call 298;refine(NU _).mono ?_;rintro e w1 ⟨rfl,rfl⟩)
  all_goals
   go_wp2;go_returns;exact⟨rfl,HD.out⟩
 ·have S7:=hl ((w.alloc (.cells #[.int .i64 b.num,.string ⟨b.name.toArray⟩,.bool false] 428)).drew) (hD.block _ wy (λe=>e));have BU:=hid (dZ (fv:=.func (.func fid) #[] cap) (za.le hD _ _ IC));have HD:=hid hD;clear hD;clear hl h hz;unfold zF.val;generalize zF.raw b=raw at*
  go_enter func316,ntmps316;go_wp2;go_region_with (go_at_call 298;refine(NU _).mono ?_;rintro e w1 ⟨rfl,rfl⟩)
  all_goals
   go_wp2_with (go_at_call 321;go_must (refine BU.out.mono ?_);rintro e w2 ⟨rfl,rfl⟩);go_returns;exact⟨rfl,HD.out⟩
variable{S:Nat->Prop}{tx:Nat}{wt:Bool}
theorem KI{w:World}{db:Nat}{b:zF}{bs:List (Nat×zZ)}{fid:FuncId}{cap:Array Value}{R:World->Prop}(hS:∀b,S b->b<w.heap.size)(pG:∀b,F b->S b)
  (h:kr (im S w) w F tx db wt bs)(hj:bs[j]? =some (bk,(b.name,ps)))(pS:zk (zG bs) b.name=j)(RI:zx (zG bs) b.name=true)
  (MS:∀w1,za w w1->Calls prog 322 #[ptr bk,.func (.func fid) #[] cap] w1 λe w'=>e=.returned .nilIface/\R w'):
  Calls prog 317 #[ptr tx,b.val,.func (.func fid) #[] cap] w λe w'=>e=.returned .nilIface/\R w':=by
 have lh:∀w1,za w w1->∀xv,Bs w1.cell? b.name xv->(∀q,xv.ownBlock=some q->w.heap.size<=q)->Calls prog 319 #[ptr tx,xv] w1 λe w'=>e=.returned (ptr bk)/\w1=w':=λw1 hn xv hx Pw=>
  JC (S:=S) (h.frame (λq hq=>hn.block q (hS q (pG q hq)) (λe=>e)) (za.im hn S)) hj pS RI (Bs.im_of (S:=S) (w:=w1) hx λq hq e=>by have:=Pw q hq;have:=hS q e;omega)
 have Ti:=jP b;have Hm:=vy b.raw;have ID:=hid lh;clear lh;have IG:=hid MS;clear MS;clear h hj pS RI hS pG;unfold zF.val;generalize zF.raw b=raw at*
 go_enter func317,ntmps317;go_wp2_with fail;refine(Ti _).mono ?_;rintro e w1 ⟨xv,rfl,hQ,pB,rz⟩;obtain⟨xp,xn,xc,rfl,_⟩:=pB.shape;have HT:=hid (ID.out w1 hQ _ pB rz);have HF:=hid (IG.out w1 hQ);clear hQ pB rz;go_wp2_with (first|(go_at_call 319;go_must (refine HT.out.mono ?_);rintro e w9 ⟨rfl,rfl⟩)|(go_at_call 322;go_must (refine HF.out.mono ?_);rintro e w2 ⟨rfl,hr⟩;have HR:=hid hr;clear hr));go_returns;exact⟨rfl,HR.out⟩
structure YG(S:Nat->Prop)(w0 w:World)(vb:Nat)(ps:yr)(k:Nat):Prop where
 mod:zq (· =vb) w0 w
 own:∃v cs,w.heap[vb]? =some (.cells #[v] 469 (0,0))/\w.ownsRow w0.heap.size 75 1 v k cs/\qz (λ(p:Bytes×Bytes) c=>Bs (im S w0) p.2 c) (ps.take k) cs
variable{k vb:Nat}
theorem YG.drewN{w0 w:World}(h:YG S w0 w vb ps k)(n:Nat):YG S w0 (w.drewN n) vb ps k:=by obtain⟨h1,v,cs,h2,h3,h4⟩:=h;exact⟨h1.drewN n,v,cs,h2,zS h3 (λ_ _=>rfl),h4⟩
variable{base n sz:Nat}{e:TypeId}{xs:List Value}
theorem vB{w:World}{b0:Nat}(h:w.ownsRow b0 e sz v n xs)(hb:∀b,v.ownBlock=some b->base<=b):w.ownsRow base e sz v n xs:=by
 refine⟨h.1,?_⟩;rcases h.2 with h2|⟨g,cap,cur,rfl,h2,h3⟩
 ·exact Or.inl h2
 ·exact Or.inr ⟨g,cap,cur,rfl,hb g rfl,h3⟩
variable{vv:Value}
theorem JD{w0 w:World}(TO:vb<w0.heap.size)(Hx:ps.length<=1000000)(hk:k<ps.length)(h:YG S w0 w vb ps k)(hv:Bs (im S w0) ps[k].2 vv):
  Calls prog 285 #[kv,vv,ptr vb] w λe w'=>e=.returned .nilIface/\YG S w0 w' vb ps (k+1):=by
 obtain⟨hm,v,cs,hb,ho,He⟩:=h;obtain⟨vp,vn,vc,rfl,_⟩:=hv.shape;obtain⟨xp,xn,xc,rfl⟩:=(Sl.of_own ho).shape;have c0:w.cell? ⟨vb,0,none⟩=some (.slice xp xn xc):=by rw[cell_of_row w vb 0 _ _ (0,0) hb];rfl
 have ll:=He.append (.cons hv .nil:qz (λ(p:Bytes×Bytes) c=>Bs (im S w0) p.2 c) [ps[k]] [Value.slice vp vn vc]);rw[<-List.take_succ_eq_append_getElem hk]at ll;have h_:=ho.1;have rD:=He.length;have HM:=hid hm;clear hm;have HB:=hid hb;clear hb;have Hu:=hid ll;clear ll He;have mw:(cs.length+1)*(24+1)<=140737488355328:=by
  have:cs.length=min k ps.length:=by rw[<-rD];simp
  omega
 have St:w0.heap.size<=w.heap.size:=HM.out.size;clear rD h_;go_enter func285,ntmps285;go_wp2_with (at_builtin;go_must (refine qM jV rfl rfl (World.ownsRow.alloc (qJ ho 0 (Nat.zero_le _)) _) rfl rfl (news:=[.slice vp vn vc]) (Sl.made w [.slice vp vn vc] _ 1 1 rfl (by omega)) (by intro u hu;rw[List.mem_singleton]at hu;rw[hu];rfl) (by simpa using mw) ?_));intro v5 w5 RH P6 PU;have Ho:∀b,(Value.slice xp xn xc).ownBlock=some b->b≠vb:=λb hb e=>by have:=(World.ownsRow.lt ho b hb).1;omega
 have II:vb<w.heap.size:=by omega
 have nk:w5.heap[vb]? =some (.cells #[.slice xp xn xc] 469 (0,0)):=by rw[P6.block vb (by simp;omega) (λe=>Ho vb e.symm rfl),Below.heap_alloc _ _ _ II];exact HB.out
 have d0:w5.cell? ⟨vb,0,none⟩=some (.slice xp xn xc):=by rw[cell_of_row w5 vb 0 _ _ (0,0) nk];rfl
 have d0f:w5.frozen? ⟨vb,0,none⟩=false:=by simp[World.frozen?,nk]
 have S9:=vB (base:=w0.heap.size) RH (λb hb=>by
  rcases PU b hb with e|e
  ·exact(World.ownsRow.lt ho b e).1
  ·omega)
 have pr:zq (· =vb) w0 w5:=zq.trans (HM.out.alloc _) ⟨P6.os,P6.tape,P6.output,P6.size,λj hj hn=>P6.block j hj (λe=>hn e.symm)⟩ (S':=λj=>(Value.slice xp xn xc).ownBlock=some j) (λj hj e=>by have:=(World.ownsRow.lt ho j e).1;omega);have c_:∀b,v5.ownBlock=some b->b≠vb:=λb hb e=>by
  rcases PU b hb with e2|e2
  ·exact Ho b e2 e
  ·omega
 obtain⟨p5,n5,c5,rfl⟩:=(Sl.of_own RH).shape;have Nr:=hid S9;clear S9;have t8:=hid pr;clear pr;have E3:=hid nk;clear nk;have nZ:=hid c_;clear c_;clear RH P6 PU Ho ho;go_wp2;go_returns;refine⟨rfl,vx (S:=(· =vb)) t8.out rfl _,_,_,heap_setCell_same w5 vb 0 _ _ _ E3.out,zS Nr.out (λb hb=>Below.heap_setCell _ _ _ _ (nZ.out b hb)),Hu.out⟩
theorem JE(args:Array Value)(w:World):(callFunc 285 args).run prog w=.ok (.enter 285 args) w:=by kernel_rfl
variable{nv pv:Value}
theorem Ub{w w0:World}{fp:Value}(hn:za w w0)(TO:w.heap.size<=vb)(nX:vb<w0.heap.size)(tq:w0.heap[vb]? =some (.cells #[.slice none 0 0] 469 (0,0)))
  (hb:w0.heap[bk]? =some (.cells #[ptr tx,nv,pv,fp] 328 (0,0)))(hp:yR (im S w) ps pv)(Hx:ps.length<=1000000):
  Calls prog 322 #[ptr bk,.func (.func 285) #[] #[ptr vb]] w0 λe w'=>e=.returned .nilIface/\YG (λj=>S j\/j=vb) w0 w' vb ps ps.length:=by
 have hY:=xw (S:=S) hn TO;refine Ky (r:=im (λj=>S j\/j=vb) w0) (ps:=ps) (pv:=pv) (λk w'=>YG (λj=>S j\/j=vb) w0 w' vb ps k) JE (by rw[cell_of_row w0 bk 2 _ _ (0,0) hb];rfl) (hp.mono hY) Hx ?_ (λk w' m h=>h.drewN m) ?_ ?_
 ·exact⟨zq.refl _ _,_,[],tq,World.ownsRow_nil _ _ _ _,.nil⟩
 ·intro k w' h a v ha;obtain⟨h1,h2⟩:=zi.1 ha;exact h.mod.cell (λe=>h1 (Or.inr e)) h2
 ·intro k hk kv vv w' h _ hv;exact JD nX Hx hk h hv
theorem xS:yy prog 28 9 (.string ⟨#[]⟩) 1 16:=⟨by kernel_rfl,by kernel_rfl,rfl,by decide⟩
def YL(u:Bytes×List Bytes×Bool):jl->Bytes×List Bytes×Bool
 |.I _ _=>u
 |.B k x=>if k=1 then (x,u.2)else if k=3 then (u.1,u.2.1++[x],u.2.2)else (u.1,u.2.1,true)
def G9:jl->Prop
 |.I _ _=>False
 |.B k x=>(k=1\/k=3\/k=4)/\x≠[]/\x.length<16384
theorem G9.ok{f:jl}(h:G9 f):uk f:=by
 cases f with
 |I k n=>exact h.elim
 |B k x=>obtain⟨h1,h2,h3⟩:=h;rcases h1 with rfl|rfl|rfl<;>exact⟨by decide,by decide,h2,h3⟩
def UB(n b:Nat)(rv:Value):Nat->Prop:=λj=>(j=b\/j<n)\/rv.ownBlock=some j
structure Ye(w w':World)(b:Nat)(u:Bytes×List Bytes×Bool)(nv rv ov:Value):Prop where
 mod:zq (λj=>j=b) w w'
 row:w'.heap[b]? =some (.cells #[nv,.slice none 0 0,rv,ov] 222 (0,0))
 own:w'.ownsRow w.heap.size 9 1 rv u.2.1.length (u.2.1.map zb)
 name:Bs (im (UB w.heap.size b rv) w') u.1 nv
 opts:if u.2.2 then∃o,ov=ptr o/\im (UB w.heap.size b rv) w' ⟨o,0,none⟩=some (.bool true)else ov=.pointer none
variable{b:Nat}{ov:Value}{w1 w2:World}
theorem Ye.new{w:World}{u:Bytes×List Bytes×Bool}{rv:Value}(h:Ye w w1 b u nv rv ov)(hn:za w1 w2):Ye w w2 b u nv rv ov:=by
 obtain⟨hm,hr,ho,h1,h2⟩:=h;refine⟨zq.trans hm hn λ_ _ e=>e.elim,hn.heap hr,zS ho (λb hb=>hn.block b (World.ownsRow.lt ho b hb).2 (λe=>e)),h1.mono (hn.im _),?_⟩;split
 ·rename_i h0;rw[if_pos h0]at h2;obtain⟨o,e,h2⟩:=h2;exact⟨o,e,hn.im _ _ _ h2⟩
 ·rename_i h0;rw[if_neg h0]at h2;exact h2
theorem kP(S:Nat->Prop)(w:World)(p:Addr)(hp:S p.block)(u:Value):(im S w).le (im S (w.setCell p u)):=
 (zq.setCell (zq.refl S w) (p:=p) (λ_=>hp) u).im λ_ _ e=>e
theorem Ye.bne{w:World}{u:Bytes×List Bytes×Bool}{rv:Value}(h:Ye w w1 b u nv rv ov)(hb:b<w.heap.size):∀q,rv.ownBlock=some q->q≠b:=λq hq e=>by have:=(World.ownsRow.lt h.own q hq).1;omega
theorem j6{w:World}{i:Nat}{u:Value}(h:w.ownsRow base e sz v n xs)(hb:∀q,v.ownBlock=some q->q≠b):(w.setCell ⟨b,i,none⟩ u).ownsRow base e sz v n xs:=
 zS h (λq hq=>Below.heap_setCell _ _ _ _ (hb q hq))
variable{xv:Value}
theorem Ye.set0{w:World}{u:Bytes×List Bytes×Bool}{rv:Value}(h:Ye w w1 b u nv rv ov)(hb:b<w.heap.size){x:Bytes}(hx:Bs (im (UB w.heap.size b rv) w1) x xv):Ye w (w1.setCell ⟨b,0,none⟩ xv) b (x,u.2) xv rv ov:=by
 have hs:=kP (UB w.heap.size b rv) w1 ⟨b,0,none⟩ (Or.inl (Or.inl rfl)) xv;refine⟨h.mod.setCell (λ_=>rfl) _,heap_setCell_same w1 b 0 _ _ _ h.row,j6 h.own (h.bne hb),hx.mono hs,?_⟩;have h2:=h.opts;show if u.2.2 then _ else _;split
 ·rename_i h0;rw[if_pos h0]at h2;obtain⟨o,e,h2⟩:=h2;exact⟨o,e,hs _ _ h2⟩
 ·rename_i h0;rw[if_neg h0]at h2;exact h2
theorem Ye.set3{w:World}{u:Bytes×List Bytes×Bool}{rv:Value}(h:Ye w w1 b u nv rv ov)(hb:b<w.heap.size)(hq:im (UB w.heap.size b rv) w1 ⟨q,0,none⟩=some (.bool true)):Ye w (w1.setCell ⟨b,3,none⟩ (ptr q)) b (u.1,u.2.1,true) nv rv (ptr q):=by have hs:=kP (UB w.heap.size b rv) w1 ⟨b,3,none⟩ (Or.inl (Or.inl rfl)) (ptr q);refine⟨h.mod.setCell (λ_=>rfl) _,heap_setCell_same w1 b 3 _ _ _ h.row,j6 h.own (h.bne hb),h.name.mono hs,?_⟩;show if true=true then _ else _;rw[if_pos rfl];exact⟨q,rfl,hs _ _ hq⟩
variable{v5:Value}{w5:World}
theorem Ye.app{w:World}{u:Bytes×List Bytes×Bool}{rv:Value}{o:Obj}{x:Bytes}(h:Ye w w1 b u nv rv ov)(hb:b<w.heap.size)
  (ho:w5.ownsRow 0 9 1 v5 (u.2.1.length+1) (u.2.1.map zb++[zb x]))(hg:(w1.alloc o).drew.grownBy w5 rv.ownBlock)(hf:∀q,v5.ownBlock=some q->rv.ownBlock=some q\/(w1.alloc o).drew.heap.size<=q):
  w5.heap[b]? =some (.cells #[nv,.slice none 0 0,rv,ov] 222 (0,0))/\Ye w (w5.setCell ⟨b,2,none⟩ v5) b (u.1,u.2.1++[x],u.2.2) nv v5 ov:=by
 have pL:(w1.alloc o).drew.heap.size=w1.heap.size+1:=Array.size_push ..
 have hQ:za w1 (w1.alloc o).drew:=((za.refl w1).alloc o).drew;have h1:=h.new hQ;have P6:=zq.of_grown hg;have Pb:b<w1.heap.size:=Nat.lt_of_lt_of_le hb h.mod.size;have Ho:=h.bne hb;have hZ:w5.heap[b]? =some (.cells #[nv,.slice none 0 0,rv,ov] 222 (0,0)):=by rw[P6.block b (by omega) (λe=>Ho b e rfl)];exact h1.row
 have hY:(im (UB w.heap.size b rv) (w1.alloc o).drew).le (im (UB w.heap.size b rv) w5):=(P6.mono (S':=UB w.heap.size b rv) λ_ _ e=>Or.inr e).im λ_ _ e=>e;have S9:∀a y,im (UB w.heap.size b rv) (w1.alloc o).drew a=some y->im (UB w.heap.size b v5) w5 a=some y:=λa y ha=>by
  have h2:=zi.1 (hY _ _ ha);refine zi.2 ⟨λe=> ?_,h2.2⟩;rcases e with e|e
  ·exact h2.1 (Or.inl e)
  ·rcases hf _ e with e2|e2
   ·exact h2.1 (Or.inr e2)
   ·have:=World.block_lt_of_cell? _ a (zi.1 ha).2;omega
 have hs:=kP (UB w.heap.size b v5) w5 ⟨b,2,none⟩ (Or.inl (Or.inl rfl)) v5;have SU:∀q,v5.ownBlock=some q->w.heap.size<=q:=λq hq=>by
  rcases hf q hq with e|e
  ·exact(World.ownsRow.lt h.own q e).1
  ·have:=h.mod.size;omega
 refine⟨hZ,(zq.trans h1.mod P6 (S':=λj=>rv.ownBlock=some j) λj hj e=>by have:=(World.ownsRow.lt h.own j e).1;omega).setCell (λ_=>rfl) _,heap_setCell_same w5 b 2 _ _ _ hZ,?_,?_,?_⟩
 ·have:=j6 (b:=b) (i:=2) (u:=v5) (vB (base:=w.heap.size) ho SU) (λq hq e=>by have:=SU q hq;omega);simpa using this
 ·exact(h1.name.mono S9).mono hs
 ·have h2:=h1.opts;show if u.2.2 then _ else _;split
  ·rename_i h0;rw[if_pos h0]at h2;obtain⟨o',e,h2⟩:=h2;exact⟨o',e,hs _ _ (S9 _ _ h2)⟩
  ·rename_i h0;rw[if_neg h0]at h2;exact h2
theorem YM{s:ByteArray}:∀u∈[Value.string s],u.oneCell'=true:=by intro u hu;rw[List.mem_singleton]at hu;rw[hu];rfl
theorem G_{w:World}{nv0 rv0 ov0:Value}{u0:Bytes×List Bytes×Bool}{fs:List jl}(h0:Ye w w b u0 nv0 rv0 ov0)(hb:b<w.heap.size)(hr:r.le (im (λj=>j=b) w))(lM:∀f∈fs,G9 f)(h_:u0.2.1.length+fs.length<=1000)(hv:Bs r (zV fs) v):
  Calls prog 310 #[ptr b,v] w λe w'=>e=.returned (.bool true)/\∃nv rv ov,Ye w w' b (fs.foldl YL u0) nv rv ov:=by
 obtain⟨vp,vn,vc,rfl,_⟩:=hv.shape;have HR:=hid hr;clear hr;have H0:=hid h0;clear h0;have HV:=hid hv;clear hv;go_enter func310,ntmps310;go_wp2;go_loopg [1] (fs.length+1) (λgg zv wr=>∃rest u1 nv rv ov,Bs r (zV rest) zv/\(∀f∈rest,G9 f)/\Ye w wr b u1 nv rv ov/\rest.foldl YL u1=fs.foldl YL u0/\rest.length<gg/\u1.2.1.length+rest.length<=1000)
 case atStart=>exact⟨fs,u0,_,_,_,HV.out,lM,H0.out,rfl,by omega,h_⟩
 case round=>
  obtain⟨rest,u1,nv,rv,ov,Rx,Pw,nG,rf,lO,AX⟩:=hrel;cases rest with
  |nil=>obtain⟨zp,zn,zc,rfl,TQ⟩:=Rx.shape;have hz:zn=0:=TQ.symm;subst hz;have Nh:=hid nG;have HF:=hid rf;clear nG rf Pw lM;go_wp2;go_returns;exact⟨rfl,nv,rv,ov,by have:=Nh.out;rw[show u1=fs.foldl YL u0 from HF.out]at this;exact this⟩
  |cons f rest=>
   have hP:=Pw f (by simp);have nH:∀g∈rest,G9 g:=λg hg=>Pw g (by simp[hg]);rw[kV]at Rx;have HT:=hid (KT (w:=wr) (HR.out.le_trans ((nG.mod.im λ_ _ e=>e).le_trans (zd (λj=>j=b) wr))) hP.ok Rx);obtain⟨zp,zn,zc,rfl,TQ⟩:=Rx.shape;have hz:(0:Int)<zn:=by have:=Ks f;rw[<-TQ,List.length_append];omega
   have Nh:=hid nG;have HF:=hid rf;have Rl:=hid nH;have HP:=hid hP;have Ck:=hid (show u1.2.1.length+rest.length+1<=1000 by simpa[Nat.add_assoc]using AX);clear nG rf Pw lM nH hP Rx TQ AX;go_wp2_with fail;refine HT.out.mono ?_;rintro e w1 ⟨u,v1,rfl,hQ,g1,g2⟩;obtain⟨a,bb,d,px,nx,cx,rfl⟩:=g2.shape;obtain⟨p5,n5,c5,rfl,_⟩:=g1.shape;have G1:=hid g1;have PT1:=hid (Nh.out.new hQ);have oL:wr.heap.size<=w1.heap.size:=hQ.size;clear g1 hQ;go_upto_region 6 with fail
   obtain⟨W,hW⟩:=zex (w1.alloc (.cells #[.int .i64 a,.bool bb,.int .i64 d,.slice px nx cx] 488));rw[<-hW];have Pz:za w1 W:=by rw[hW];exact(za.refl w1).alloc _
   have sK:W.heap[w1.heap.size]? =some (.cells #[.int .i64 a,.bool bb,.int .i64 d,.slice px nx cx] 488 (0,0)):=by rw[hW];exact zg w1 _
   obtain⟨z0,z1,z2,z3,_⟩:=kX sK;have PTW:=hid (PT1.out.new Pz);have hZ:=PTW.out.row;obtain⟨x0,x1,x2,x3,y0,y1,y2,y3⟩:=kX hZ;have GW:=hid (g2.mono (Nat.le_refl _) Pz);clear hW Pz hZ g2 PT1;cases f with
   |I k n=>exact HP.out.elim
   |B k x=>
    obtain⟨rfl,rfl,rfl,SS,sF⟩:=GW.out.B;have ST:Bs (im (UB w.heap.size b rv) W) x (.slice px nx cx):=SS.im_of λj hj e=>by
     have h1:=sF j hj;have h2:=Nh.out.mod.size;rcases e with e|e
     ·omega
     ·have:=(World.ownsRow.lt Nh.out.own j e).2;omega
    have B8:=hid ST;have HBY:=hid SS;have RE:(0:Int)<nx:=by have h1:=List.length_pos_iff.2 HP.out.2.1;obtain⟨_,_,_,e,hl,_⟩:=SS;simp only[Value.slice.injEq]at e;obtain⟨_,rfl,_⟩:=e;omega
    rcases HP.out.1 with rfl|rfl|rfl
    ·clear SS sF ST sK;go_wp2_with fail;go_roundg (gk-1)
     case rel=>exact⟨rest,_,_,_,_,G1.out,Rl.out,PTW.out.set0 hb B8.out,HF.out,by simp at lO;omega,by have:=Ck.out;simp only;omega⟩
     case measure=>simp at lO;omega
    ·obtain⟨sp,sn,sc,rfl⟩:=(Sl.of_own PTW.out.own).shape;have Rf:∀m,(convert 75 9 (.slice px nx cx)).run prog (W.drewN m)=.ok (.string ⟨x.toArray⟩) (W.drewN m):=λm=>kN (w:=W.drewN m) (show Bs (W.drewN m).cell? x _ from SS) 75 5 9 (by kernel_rfl) (by kernel_rfl) (by kernel_rfl);have NA:=Rf 0;have SV:=Rf 1;have h1:W.drewN 1=W.drew:=rfl;rw[h1]at SV;have lP:b<W.heap.size:=Nat.lt_of_lt_of_le hb PTW.out.mod.size;have pZ:(u1.2.1.map zb).length+1<=1001:=by have:=Ck.out;rw[List.length_map];omega
     clear SS sF ST sK Rf NA h1;go_wp2_with fail;have SR:Hid (((u1.2.1.map zb).length+[Value.string ⟨x.toArray⟩].length)*(16+1)<=140737488355328):=hid (by rw[List.length_singleton];omega);go_region_law (refine Zg xS rfl rfl (Zb (World.ownsRow.alloc (qJ PTW.out.own 0 (Nat.zero_le _)) _)) rfl rfl (news:=[.string ⟨x.toArray⟩]) (Sl.drew (Sl.made W [.string ⟨x.toArray⟩] _ 1 1 rfl (by decide))) YM SR.out ?_;intro v5 w5 ho hg PU;obtain⟨p7,n7,c7,rfl⟩:=(Sl.of_own ho).shape;obtain⟨pe,nI⟩:=PTW.out.app hb ho hg PU;obtain⟨_,_,x2',_,_,_,y2',_⟩:=kX pe;have tI:=hid nI;clear ho hg PU pe nI)
     all_goals(
      go_wp2;go_roundg (gk-1)
      case rel=>exact⟨rest,_,_,_,_,G1.out,Rl.out,tI.out,HF.out,by simp at lO;omega,by have:=Ck.out;simp;omega⟩
      case measure=>simp at lO;omega)
    ·have ng:∀o,(W.alloc o).cell? ⟨b,3,none⟩=some ov/\(W.alloc o).frozen? ⟨b,3,none⟩=false:=λo=>by
      have h9:=(PTW.out.new ((za.refl W).alloc o)).row;obtain⟨_,_,_,k1,_,_,_,k2⟩:=kX h9;exact⟨k1,k2⟩
     have hfE:∀o,(W.alloc o).cell? ⟨b,3,none⟩=some ov:=λo=>(ng o).1;have hfF:∀o,(W.alloc o).frozen? ⟨b,3,none⟩=false:=λo=>(ng o).2;have oM:0<nx:=by omega
     have hdx:decide (0<nx)=true:=decide_eq_true oM;clear SS sF ST sK ng;go_wp2_with fail;go_roundg (gk-1)
     case rel=>exact⟨rest,_,_,_,_,G1.out,Rl.out,(PTW.out.new ((za.refl W).alloc _)).set3 hb (zi.2 ⟨by rintro(e|e);(have:=PTW.out.mod.size;simp only at e;omega);(have:=(World.ownsRow.lt PTW.out.own _ e).2;simp only at this;omega),by rw[World.cell?_alloc_new];rfl⟩),HF.out,by simp at lO;omega,by have:=Ck.out;simp only;omega⟩
     case measure=>simp at lO;omega
theorem Ye.at{w:World}{n:Bytes}{rs:List Bytes}{rv:Value}(h:Ye w w' b (n,rs,true) nv rv ov)(hS:∀j,S j->j<w.heap.size/\j≠b):y9 (im S w') b ⟨n,rs⟩:=by
 obtain⟨x0,x1,x2,x3,_⟩:=kX h.row;have hb: ¬S b:=λe=>(hS b e).2 rfl;have hY:(im (UB w.heap.size b rv) w').le (im S w'):=jn λj e=>Or.inl (Or.inr (hS j e).1);have h2:=h.opts;rw[if_pos rfl]at h2;obtain⟨o,rfl,ho⟩:=h2;refine⟨⟨nv,zi.2 ⟨hb,x0⟩,h.name.mono hY⟩,⟨_,zi.2 ⟨hb,x1⟩,Bs.nil _⟩,⟨rv,zi.2 ⟨hb,x2⟩,?_⟩,o,zi.2 ⟨hb,x3⟩,hY _ _ ho⟩;obtain⟨p,m,c,rfl,hl,hm,hc,hp,H_⟩:=Sl.of_own h.own;refine⟨p,m,c,rfl,hl,hm,hc,hp,?_⟩;rcases H_ with e|⟨g,o',rfl,Hc⟩
 ·exact Or.inl e
 ·refine Or.inr ⟨g,o',rfl,λi hi=>zi.2 ⟨λe=> ?_,Hc i hi⟩⟩;have h3:=(World.ownsRow.lt h.own g rfl).1;have:=(hS g e).1;omega
end Go.Proofs.YtbmdoinjkligiaaGreat
