/- Contracts and laws that the last text joins. -/
import Derived.Test.YtbmdoinjkligiaaGreatM03
import Derived.Test.YtbmdoinjkligiaaGreatM04
set_option maxRecDepth 100000
set_option maxHeartbeats 40000000
set_option linter.all false
namespace Go.Proofs.YtbmdoinjkligiaaGreat
open Tryz
open Lib(hid)
open Go.RowKit
variable{α β:Type}
theorem Wx(f:α->β){l:List α}(hn:(l.map f).Nodup){x y:α}(hx:x∈l)(hy:y∈l)(h:f x=f y):x=y:=by
 induction l with
 |nil=>cases hx
 |cons z l ih=>
  simp only[List.map_cons,List.nodup_cons]at hn;rcases List.mem_cons.1 hx with e1|hx
  ·rcases List.mem_cons.1 hy with f1|hy
   ·rw[e1,f1]
   ·exact absurd (List.mem_map.2 ⟨y,hy,by rw[<-h,e1]⟩) hn.1
  ·rcases List.mem_cons.1 hy with f1|hy
   ·exact absurd (List.mem_map.2 ⟨x,hx,by rw[h,f1]⟩) hn.1
   ·exact ih hn.2 hx hy
variable{r:Rd}{v:Value}
theorem Bs.shape'{l:List UInt8}(h:Bs r l v):∃p n c,v=.slice p n c:=by obtain⟨p,n,c,rfl,_⟩:=h;exact⟨p,n,c,rfl⟩
theorem gu(w:World):(binOp .eql 75 (.slice none 0 0) (.slice none 0 0)).run prog w=.ok (.bool true) w:=by kernel_rfl
variable{C:List z_}{e2 e4:zZ}{l:zu}{pdel pend:Nat}{rb wb:List (Nat×z_)}{w':World}
theorem j4.ofNew{w:World}{I:zN}(h:j4 l w I C wb rb pend pdel e2 e4)(hn:za w w'):zB l w l w'/\j4 l w' I C wb rb pend pdel e2 e4:=
 ⟨zB.ofNew h.bnd hn,h.frame (λb e=>Nat.lt_of_lt_of_le (h.bnd b e) hn.size) (λb e=>⟨rfl,hn.block b (h.bnd b e.1) (λe=>e)⟩) (za.im hn l.some)⟩
theorem j4.cached{w:World}{I:zN}(h:j4 l w I C wb rb pend pdel e2 e4){cs:List (zF×Value)}(hm:zo (· =I.cm) w w')(hcm:zD k6 w' I.cm cs)
  (hcs:∀c∈cs,∃x∈rb,x.2.1=c.1.name/\c.2=ptr x.1):zB l w l w'/\j4 l w' I C wb rb pend pdel e2 e4:=by
 obtain⟨cs0,hC,_⟩:=h.toC;have l8:=h.lab.2.2.2.2.2.2.2;have hs:zB l w l w':=zB.ofMod h.bnd (hm.mono λj _ e=>⟨by rw[e,l8];decide,by rw[e,l8];decide⟩);have k:=hC.kept hs (· =8) λj ho=>by
  by_cases e:j=I.cm
  ·exact Or.inl (by rw[e];exact l8)
  ·exact Or.inr (hm.block j (h.bnd j ho.1) e)
 refine⟨hs,Qf.toS ⟨k.bnd,k.lab,k.be (by decide),k.bt (by decide),k.rt (by decide),k.db (by decide),k.wtx (by decide),k.buf2 (by decide) (by decide),k.buf4 (by decide) (by decide),h.apart,k.sq (by decide),hcm⟩ ?_ hcs⟩;exact h.rtx.frame (λj e=>hm.block j (h.bnd j (by rw[e];decide)) (λe2=>by subst e2;unfold zu.is at e;rw[l8]at e;cases e)) hs.le
variable{bk j:Nat}{kv:Value}{ps:yu}
theorem Wy{w:World}{I:zN}(h:j4 l w I C wb rb pend pdel e2 e4)(hz:∀e∈e4,e.2.2.2=[]){b:zF}{k:Bytes}{lim:Int}
  (hj:rb[j]? =some (bk,(b.name,ps)))(hpl:zk (zG rb) b.name=j)(hfd:zx (zG rb) b.name=true)(hnn:(zG rb).Nodup)(hri:zM (zJ ps))(hne:∀p∈ps,p.1≠[])(hsm:ps.length<=1000000)(hk:Bs (im l.some w) k kv):
  Calls prog 313 #[ptr I.rt,b.val,kv,.slice none 0 0,.int .i64 lim] w λe w'=>∃ks vs,e=.returned (.tuple #[ks,vs])/\zB l w l w'/\j4 l w' I C wb rb pend pdel e2 e4/\qQ (im l.some w') (qZ ps k).toList vs:=by
 obtain⟨cs,hC,hcs⟩:=h.toC;obtain⟨n,mu,wg,hrt⟩:=hC.rt;have l8:=h.lab.2.2.2.2.2.2.2;have l3:=h.lab.2.2.1;have r0:w.cell? ⟨I.rt,0,none⟩=some (.map (some I.m4)):=by rw[cell_of_row w I.rt 0 _ _ (0,0) hrt];rfl
 have r2:w.cell? ⟨I.rt,2,none⟩=some (ptr mu):=by rw[cell_of_row w I.rt 2 _ _ (0,0) hrt];rfl
 have r3:w.cell? ⟨I.rt,3,none⟩=some (ptr I.rtx):=by rw[cell_of_row w I.rt 3 _ _ (0,0) hrt];rfl
 have r4:w.cell? ⟨I.rt,4,none⟩=some (.map (some I.cm)):=by rw[cell_of_row w I.rt 4 _ _ (0,0) hrt];rfl
 have hrc:I.rt≠I.cm:=λe=>by rw[e,l8]at l3;cases l3
 have hmem:(bk,(b.name,ps))∈rb:=List.mem_of_getElem? hj;have hcache:jt cs b=none\/jt cs b=some (ptr bk):=by
  cases hg:jt cs b with
  |none=>exact Or.inl rfl
  |some y=>obtain⟨x,hx,hx1,hx2⟩:=hcs _ (Qi hg);simp only at hx1 hx2;have:x=(bk,(b.name,ps)):=Wx (λy:Nat×z_=>y.2.1) hnn hx hmem hx1;rw[hx2,this];exact Or.inr rfl
 have hlkup:=λ(w':World) (e:w'.heap[I.cm]? =w.heap[I.cm]?)=>zD.look (P:=prog) (t:=244) (e:=329) Zg (by kernel_rfl) (z:=.pointer none) (by kernel_rfl) (hC.cm.frame e) b true;have hcml:=hC.cm.lt;have HBR:=hid (Ww (b:=b) (kv:=kv) (ev:=.slice none 0 0) (lim:=.int .i64 1) h.buf4 hz hk.shape' ⟨_,_,_,rfl⟩ ⟨_,rfl⟩ r0);have hcur:∀w1,zo (· =I.cm) w w1->Calls prog 255 #[ptr bk] w1 λe w2=>e=.returned (ptr w1.heap.size)/\za w1 w2/\
   (∀lim:Int,Calls prog 320 #[ptr w1.heap.size,kv,.slice none 0 0,.int .i64 lim] w2 λe w3=>∃ks vs,e=.returned (.tuple #[ks,vs])/\za w1 w3/\Plain ks/\qQ (im l.some w3) (qZ ps k).toList vs):=λw1 hm=>by
  have hs:zB l w l w1:=zB.ofMod h.bnd (hm.mono λj _ e=>⟨by rw[e,l8];decide,by rw[e,l8];decide⟩);exact gt (S:=l.some) hs.bnd (h.rtx.frame (w':=w1) (λj e=>hm.block j (h.bnd j (by rw[e];decide)) (λe2=>by subst e2;unfold zu.is at e;rw[l8]at e;cases e)) hs.le) hj hri hne hsm (hk.mono hs.le)
 have htxb:∀w1,za w w1->∀xv,Bs w1.cell? b.name xv->(∀q,xv.ownBlock=some q->w.heap.size<=q)->Calls prog 319 #[ptr I.rtx,xv] w1 λe w'=>e=.returned (ptr bk)/\w1=w':=λw1 hn xv hx hfr=>by obtain⟨hs,hB⟩:=h.ofNew hn;exact JH hB.rtx hj hpl hfd (Bs.im_of (S:=l.some) (w:=w1) hx λq hq e=>by have:=hfr q hq;have:=h.bnd q e;omega)
 have hput:∀w1,za w w1->∃w2,(Instr.mapUpdate 244 (.map (some I.cm)) (k6 b) (ptr bk)).run prog w1=.ok () w2/\zo (· =I.cm) w w2/\zB l w l w2/\j4 l w2 I C wb rb pend pdel e2 e4:=λw1 hn=>by
  obtain⟨hs,hB⟩:=h.ofNew hn;have hlen:=gj _ hC.cm.nodup;obtain⟨w2,hrun,hmap,hm⟩:=zD.put (P:=prog) (t:=244) (e:=329) Zg (by kernel_rfl) (hC.cm.frame (hn.block _ hcml (λe=>e))) (by simp only[List.length_map]at hlen;simp only[maxLen];omega) b (ptr bk);obtain⟨hs2,hB2⟩:=hB.cached hm hmap λc hc=>by
   unfold xx at hc;split at hc
   ·obtain⟨f,hf,rfl⟩:=List.mem_map.1 hc;by_cases e:f.1=b
    ·rw[if_pos e];exact⟨_,hmem,rfl,rfl⟩
    ·rw[if_neg e];exact hcs f hf
   ·rcases List.mem_append.1 hc with hc|hc
    ·exact hcs c hc
    ·simp only[List.mem_singleton]at hc;subst hc;exact⟨_,hmem,rfl,rfl⟩
  exact⟨w2,hrun,zo.trans (za.mod hn _) hm λ_ _ e=>e,hs.trans hs2,hB2⟩
 have hfin:∀w1 w3,zB l w l w1->j4 l w1 I C wb rb pend pdel e2 e4->za w1 w3->zB l w l w3/\j4 l w3 I C wb rb pend pdel e2 e4:=λw1 w3 hs hB hn=>⟨hs.trans (hB.ofNew hn).1,(hB.ofNew hn).2⟩;have hrl:=World.block_lt_of_cell? w _ r0;obtain⟨kp,kn,kc,rfl⟩:=hk.shape';have HID:=xl b;have HNM:=jR b;have hmeth:=QS b.raw;have hmeth2:=vB b.raw;have hboth:∀w1,za w w1->zB l w l w1/\j4 l w1 I C wb rb pend pdel e2 e4:=λw1 hn=>h.ofNew hn;have HBOTH:=hid hboth;clear hboth;have HL:=hid hlkup;clear hlkup;have HCUR:=hid hcur;clear hcur;have HTX:=hid htxb;clear htxb;have HPUT:=hid hput;clear hput;have HFIN:=hid hfin;clear hfin;have HCA:=hid hcache;clear hcache;have HNF:=hid (show∀w1 (o:Obj),za w w1->za w (w1.alloc o)from λw1 o hn=>zo.alloc hn o);clear h hz hj hpl hfd hnn hri hne hsm hk hC hcs hrt hmem r0;unfold zF.val at HBR⊢;generalize zF.raw b=raw at*
 have hsn:=gu w;go_enter func313,ntmps313;go_wp2_with fail;refine HBR.out.mono ?_;rintro e w1 ⟨rfl,hn1⟩;have HN1:=hid hn1;clear hn1;go_wp2_with fail;refine(HID _).mono ?_;rintro e w2 ⟨rfl,hw2⟩;have hn2:za w w2:=by rw[hw2];exact HNF.out _ _ HN1.out
 have q2:w2.cell? ⟨I.rt,2,none⟩=some (ptr mu):=hn2.le _ _ r2;have q3:w2.cell? ⟨I.rt,3,none⟩=some (ptr I.rtx):=hn2.le _ _ r3;have q4:w2.cell? ⟨I.rt,4,none⟩=some (.map (some I.cm)):=hn2.le _ _ r4;have hl2:=HL.out w2 (hn2.block _ hcml (λe=>e));have HN2:=hid hn2;clear hn2;have HW2:=hid hw2;clear hw2;rcases HCA.out with hg|hg
 ·rw[hg]at hl2;simp only[if_true]at hl2;go_wp2_with (first|(go_at_call 96;go_must (refine(Qr _ _).mono ?_);rintro e w9 ⟨rfl,rfl⟩)|(go_at_call 98;go_must (refine(KN _ _).mono ?_);rintro e w9 ⟨rfl,rfl⟩)|(go_at_call 69;go_must (refine(v_ _ _).mono ?_);rintro e w9 ⟨rfl,rfl⟩));clear hl2;go_region_with (first|(go_at_call 300;refine(HNM _).mono ?_;rintro e w3 ⟨xv,rfl,hn3,hx3,hfr3⟩;have d3:w3.cell? ⟨I.rt,3,none⟩=some (ptr I.rtx):=hn3.le _ _ q3;have d2:w3.cell? ⟨I.rt,2,none⟩=some (ptr mu):=hn3.le _ _ q2;have d4:w3.cell? ⟨I.rt,4,none⟩=some (.map (some I.cm)):=hn3.le _ _ q4;obtain⟨xp,xn,xc,rfl,_⟩:=hx3.shape;have HX3:=hid hx3;have HFR3:=hid hfr3;have HN3:=hid (za.trans HN2.out (za.undrew hn3));clear hx3 hfr3 hn3)|(go_at_call 319;refine(HTX.out _ HN3.out _ HX3.out (λq hq=>Nat.le_trans HN2.out.size (HFR3.out q hq))).mono ?_;rintro e w9 ⟨rfl,rfl⟩))
  all_goals
   obtain⟨w5,hput,hm5,hs5,hB5⟩:=HPUT.out w3 HN3.out;have f2:w5.cell? ⟨I.rt,2,none⟩=some (ptr mu):=hm5.cell hrc r2;have HC5:=hid (HCUR.out w5 hm5);have HS5:=hid hs5;clear hs5;have HB5:=hid hB5;clear hB5;clear hm5 q2 q3 q4;go_wp2_with fail;refine HC5.out.mono ?_;rintro e w6 ⟨rfl,hn6,hur⟩;have q2':w6.cell? ⟨I.rt,2,none⟩=some (ptr mu):=hn6.le _ _ f2;have HUR:=hid hur;clear hur;clear hn6 hput f2 d2 d3 d4;go_wp2_with (go_at_call 70;go_must (refine(QW _ _).mono ?_);rintro e w9 ⟨rfl,rfl⟩);refine(HUR.out _).mono ?_;rintro e w4 ⟨ks,vs,rfl,hn4,hpk,hv4⟩;obtain⟨vp,vn,vc,rfl,hv1,hv2⟩:=hv4.plain;obtain⟨qp,qn,qc,rfl,hq1,hq2⟩:=hpk;have HV4:=hid hv4;clear hv4;have HN4:=hid hn4;clear hn4;have HQ2:=hid hq2;clear hq2;have HV2:=hid hv2;clear hv2;go_wp2_with (at_builtin;first|(refine vg jY rfl rfl rfl rfl hq1 HQ2.out ?_)|(refine vg jY rfl rfl rfl rfl hv1 HV2.out ?_));go_returns
   exact⟨_,_,rfl,((HFIN.out w5 w4 HS5.out HB5.out HN4.out).1),((HFIN.out w5 w4 HS5.out HB5.out HN4.out).2),HV4.out⟩
 ·rw[hg]at hl2;simp only[if_true]at hl2;obtain HC2:=hid (HCUR.out w2 (za.mod HN2.out _));go_wp2_with (first|(go_at_call 96;go_must (refine(Qr _ _).mono ?_);rintro e w9 ⟨rfl,rfl⟩)|(go_at_call 98;go_must (refine(KN _ _).mono ?_);rintro e w9 ⟨rfl,rfl⟩)|(go_at_call 69;go_must (refine(v_ _ _).mono ?_);rintro e w9 ⟨rfl,rfl⟩));refine HC2.out.mono ?_;rintro e w3 ⟨rfl,hn3,hur⟩;have q2':w3.cell? ⟨I.rt,2,none⟩=some (ptr mu):=hn3.le _ _ q2;have HUR:=hid hur;clear hur;clear hn3 hl2 q4 q3;go_wp2_with (go_at_call 70;go_must (refine(QW _ _).mono ?_);rintro e w9 ⟨rfl,rfl⟩);refine(HUR.out _).mono ?_;rintro e w4 ⟨ks,vs,rfl,hn4,hpk,hv4⟩;obtain⟨vp,vn,vc,rfl,hv1,hv2⟩:=hv4.plain;obtain⟨qp,qn,qc,rfl,hq1,hq2⟩:=hpk;have HV4:=hid hv4;clear hv4;have HN4:=hid hn4;clear hn4;have HQ2:=hid hq2;clear hq2;have HV2:=hid hv2;clear hv2
  go_wp2_with (at_builtin;first|(refine vg jY rfl rfl rfl rfl hq1 HQ2.out ?_)|(refine vg jY rfl rfl rfl rfl hv1 HV2.out ?_));go_returns;exact⟨_,_,rfl,((HFIN.out w2 w4 (HBOTH.out w2 HN2.out).1 (HBOTH.out w2 HN2.out).2 HN4.out).1),((HFIN.out w2 w4 (HBOTH.out w2 HN2.out).1 (HBOTH.out w2 HN2.out).2 HN4.out).2),HV4.out⟩
variable{F:Nat->Prop}{es:zZ}{q:Nat}
theorem Ul{w:World}{m:Nat}{b:zF}{fid:FuncId}{cap:Array Value}(h:zR r w F m es)(hz:∀e∈es,e.2.2.2=[])(hq:w.cell? ⟨q,0,none⟩=some (.map (some m))):
  Calls prog 316 #[ptr q,b.val,.func (.func fid) #[] cap] w λe w'=>e=.returned .nilIface/\za w w':=by
 have hml:=h.map.lt;have hql:=World.block_lt_of_cell? w _ hq;have HID:=xl b;have hmeth:=QS b.raw;have hD:zo (λ_=>False) w ((w.alloc (.cells #[.int .i64 b.num,.string ⟨b.name.toArray⟩,.bool false] 428)).drew):=((za.refl w).alloc _).drew;rcases Xy h hz b with hl|⟨bb,hbl,hbu,hl⟩
 ·have hl0:=hl ((w.alloc (.cells #[.int .i64 b.num,.string ⟨b.name.toArray⟩,.bool false] 428)).drew) (hD.block _ hml (λe=>e));have HD:=hid hD;clear hD;clear hl h hz;unfold zF.val;generalize zF.raw b=raw at*
  go_enter func316,ntmps316;go_wp2;go_region_with (go_at_call 298;refine(HID _).mono ?_;rintro e w1 ⟨rfl,rfl⟩)
  all_goals
   go_wp2;go_returns;exact⟨rfl,HD.out⟩
 ·have hl0:=hl ((w.alloc (.cells #[.int .i64 b.num,.string ⟨b.name.toArray⟩,.bool false] 428)).drew) (hD.block _ hml (λe=>e));have HBR:=hid (uf (fv:=.func (.func fid) #[] cap) (za.le hD _ _ hbu));have HD:=hid hD;clear hD;clear hl h hz;unfold zF.val;generalize zF.raw b=raw at*
  go_enter func316,ntmps316;go_wp2;go_region_with (go_at_call 298;refine(HID _).mono ?_;rintro e w1 ⟨rfl,rfl⟩)
  all_goals
   go_wp2_with (go_at_call 321;go_must (refine HBR.out.mono ?_);rintro e w2 ⟨rfl,rfl⟩);go_returns;exact⟨rfl,HD.out⟩
variable{S:Nat->Prop}{tx:Nat}{wt:Bool}
theorem KO{w:World}{db:Nat}{b:zF}{bs:List (Nat×z_)}{fid:FuncId}{cap:Array Value}{R:World->Prop}(hS:∀b,S b->b<w.heap.size)(hFS:∀b,F b->S b)
  (h:kw (im S w) w F tx db wt bs)(hj:bs[j]? =some (bk,(b.name,ps)))(hpl:zk (zG bs) b.name=j)(hfd:zx (zG bs) b.name=true)
  (hfe:∀w1,za w w1->Calls prog 322 #[ptr bk,.func (.func fid) #[] cap] w1 λe w'=>e=.returned .nilIface/\R w'):
  Calls prog 317 #[ptr tx,b.val,.func (.func fid) #[] cap] w λe w'=>e=.returned .nilIface/\R w':=by
 have htxb:∀w1,za w w1->∀xv,Bs w1.cell? b.name xv->(∀q,xv.ownBlock=some q->w.heap.size<=q)->Calls prog 319 #[ptr tx,xv] w1 λe w'=>e=.returned (ptr bk)/\w1=w':=λw1 hn xv hx hfr=>
  JH (S:=S) (h.frame (λq hq=>hn.block q (hS q (hFS q hq)) (λe=>e)) (za.im hn S)) hj hpl hfd (Bs.im_of (S:=S) (w:=w1) hx λq hq e=>by have:=hfr q hq;have:=hS q e;omega)
 have HNM:=jR b;have hmeth:=vB b.raw;have HTX:=hid htxb;clear htxb;have HFE:=hid hfe;clear hfe;clear h hj hpl hfd hS hFS;unfold zF.val;generalize zF.raw b=raw at*
 go_enter func317,ntmps317;go_wp2_with fail;refine(HNM _).mono ?_;rintro e w1 ⟨xv,rfl,hn1,hx1,hfr1⟩;obtain⟨xp,xn,xc,rfl,_⟩:=hx1.shape;have HT:=hid (HTX.out w1 hn1 _ hx1 hfr1);have HF:=hid (HFE.out w1 hn1);clear hn1 hx1 hfr1;go_wp2_with (first|(go_at_call 319;go_must (refine HT.out.mono ?_);rintro e w9 ⟨rfl,rfl⟩)|(go_at_call 322;go_must (refine HF.out.mono ?_);rintro e w2 ⟨rfl,hr⟩;have HR:=hid hr;clear hr));go_returns;exact⟨rfl,HR.out⟩
structure YL(S:Nat->Prop)(w0 w:World)(vb:Nat)(ps:yu)(k:Nat):Prop where
 mod:zo (· =vb) w0 w
 own:∃v cs,w.heap[vb]? =some (.cells #[v] 469 (0,0))/\w.ownsRow w0.heap.size 75 1 v k cs/\qy (λ(p:Bytes×Bytes) c=>Bs (im S w0) p.2 c) (ps.take k) cs
variable{k vb:Nat}
theorem YL.drewN{w0 w:World}(h:YL S w0 w vb ps k)(n:Nat):YL S w0 (w.drewN n) vb ps k:=by obtain⟨h1,v,cs,h2,h3,h4⟩:=h;exact⟨h1.drewN n,v,cs,h2,zU h3 (λ_ _=>rfl),h4⟩
variable{base n sz:Nat}{e:TypeId}{xs:List Value}
theorem vD{w:World}{b0:Nat}(h:w.ownsRow b0 e sz v n xs)(hb:∀b,v.ownBlock=some b->base<=b):w.ownsRow base e sz v n xs:=by
 refine⟨h.1,?_⟩;rcases h.2 with h2|⟨g,cap,cur,rfl,h2,h3⟩
 ·exact Or.inl h2
 ·exact Or.inr ⟨g,cap,cur,rfl,hb g rfl,h3⟩
variable{vv:Value}
theorem JI{w0 w:World}(hvb:vb<w0.heap.size)(hsm:ps.length<=1000000)(hk:k<ps.length)(h:YL S w0 w vb ps k)(hv:Bs (im S w0) ps[k].2 vv):
  Calls prog 285 #[kv,vv,ptr vb] w λe w'=>e=.returned .nilIface/\YL S w0 w' vb ps (k+1):=by
 obtain⟨hm,v,cs,hb,ho,hall⟩:=h;obtain⟨vp,vn,vc,rfl,_⟩:=hv.shape;obtain⟨xp,xn,xc,rfl⟩:=(Sl.of_own ho).shape;have c0:w.cell? ⟨vb,0,none⟩=some (.slice xp xn xc):=by rw[cell_of_row w vb 0 _ _ (0,0) hb];rfl
 have hall':=hall.append (.cons hv .nil:qy (λ(p:Bytes×Bytes) c=>Bs (im S w0) p.2 c) [ps[k]] [Value.slice vp vn vc]);rw[<-List.take_succ_eq_append_getElem hk]at hall';have hlen:=ho.1;have hcl:=hall.length;have HM:=hid hm;clear hm;have HB:=hid hb;clear hb;have HALL:=hid hall';clear hall' hall;have hbd:(cs.length+1)*(24+1)<=140737488355328:=by
  have:cs.length=min k ps.length:=by rw[<-hcl];simp
  omega
 have hs0:w0.heap.size<=w.heap.size:=HM.out.size;clear hcl hlen;go_enter func285,ntmps285;go_wp2_with (at_builtin;go_must (refine qN jY rfl rfl (World.ownsRow.alloc (qK ho 0 (Nat.zero_le _)) _) rfl rfl (news:=[.slice vp vn vc]) (Sl.made w [.slice vp vn vc] _ 1 1 rfl (by omega)) (by intro u hu;rw[List.mem_singleton]at hu;rw[hu];rfl) (by simpa using hbd) ?_));intro v5 w5 ho5 hg5 hf5;have hne:∀b,(Value.slice xp xn xc).ownBlock=some b->b≠vb:=λb hb e=>by have:=(World.ownsRow.lt ho b hb).1;omega
 have hvw:vb<w.heap.size:=by omega
 have hb5:w5.heap[vb]? =some (.cells #[.slice xp xn xc] 469 (0,0)):=by rw[hg5.block vb (by simp;omega) (λe=>hne vb e.symm rfl),Below.heap_alloc _ _ _ hvw];exact HB.out
 have d0:w5.cell? ⟨vb,0,none⟩=some (.slice xp xn xc):=by rw[cell_of_row w5 vb 0 _ _ (0,0) hb5];rfl
 have d0f:w5.frozen? ⟨vb,0,none⟩=false:=by simp[World.frozen?,hb5]
 have hup:=vD (base:=w0.heap.size) ho5 (λb hb=>by
  rcases hf5 b hb with e|e
  ·exact(World.ownsRow.lt ho b e).1
  ·omega)
 have hm5:zo (· =vb) w0 w5:=zo.trans (HM.out.alloc _) ⟨hg5.os,hg5.tape,hg5.output,hg5.size,λj hj hn=>hg5.block j hj (λe=>hn e.symm)⟩ (S':=λj=>(Value.slice xp xn xc).ownBlock=some j) (λj hj e=>by have:=(World.ownsRow.lt ho j e).1;omega);have hb5ne:∀b,v5.ownBlock=some b->b≠vb:=λb hb e=>by
  rcases hf5 b hb with e2|e2
  ·exact hne b e2 e
  ·omega
 obtain⟨p5,n5,c5,rfl⟩:=(Sl.of_own ho5).shape;have HUP:=hid hup;clear hup;have HM5:=hid hm5;clear hm5;have HB5:=hid hb5;clear hb5;have HNE:=hid hb5ne;clear hb5ne;clear ho5 hg5 hf5 hne ho;go_wp2;go_returns;refine⟨rfl,vA (S:=(· =vb)) HM5.out rfl _,_,_,heap_setCell_same w5 vb 0 _ _ _ HB5.out,zU HUP.out (λb hb=>Below.heap_setCell _ _ _ _ (HNE.out b hb)),HALL.out⟩
theorem JJ(args:Array Value)(w:World):(callFunc 285 args).run prog w=.ok (.enter 285 args) w:=by kernel_rfl
variable{nv pv:Value}
theorem Um{w w0:World}{fp:Value}(hn:za w w0)(hvb:w.heap.size<=vb)(hvl:vb<w0.heap.size)(hv0:w0.heap[vb]? =some (.cells #[.slice none 0 0] 469 (0,0)))
  (hb:w0.heap[bk]? =some (.cells #[ptr tx,nv,pv,fp] 328 (0,0)))(hp:yV (im S w) ps pv)(hsm:ps.length<=1000000):
  Calls prog 322 #[ptr bk,.func (.func 285) #[] #[ptr vb]] w0 λe w'=>e=.returned .nilIface/\YL (λj=>S j\/j=vb) w0 w' vb ps ps.length:=by
 have hle:=xz (S:=S) hn hvb;refine KD (r:=im (λj=>S j\/j=vb) w0) (ps:=ps) (pv:=pv) (λk w'=>YL (λj=>S j\/j=vb) w0 w' vb ps k) JJ (by rw[cell_of_row w0 bk 2 _ _ (0,0) hb];rfl) (hp.mono hle) hsm ?_ (λk w' m h=>h.drewN m) ?_ ?_
 ·exact⟨zo.refl _ _,_,[],hv0,World.ownsRow_nil _ _ _ _,.nil⟩
 ·intro k w' h a v ha;obtain⟨h1,h2⟩:=zi.1 ha;exact h.mod.cell (λe=>h1 (Or.inr e)) h2
 ·intro k hk kv vv w' h _ hv;exact JI hvl hsm hk h hv
theorem xV:yB prog 28 9 (.string ⟨#[]⟩) 1 16:=⟨by kernel_rfl,by kernel_rfl,rfl,by decide⟩
def YQ(u:Bytes×List Bytes×Bool):jo->Bytes×List Bytes×Bool
 |.I _ _=>u
 |.B k x=>if k=1 then (x,u.2)else if k=3 then (u.1,u.2.1++[x],u.2.2)else (u.1,u.2.1,true)
def Dn:jo->Prop
 |.I _ _=>False
 |.B k x=>(k=1\/k=3\/k=4)/\x≠[]/\x.length<16384
theorem Dn.ok{f:jo}(h:Dn f):uy f:=by
 cases f with
 |I k n=>exact h.elim
 |B k x=>obtain⟨h1,h2,h3⟩:=h;rcases h1 with rfl|rfl|rfl<;>exact⟨by decide,by decide,h2,h3⟩
def UB(n b:Nat)(rv:Value):Nat->Prop:=λj=>(j=b\/j<n)\/rv.ownBlock=some j
structure Yi(w w':World)(b:Nat)(u:Bytes×List Bytes×Bool)(nv rv ov:Value):Prop where
 mod:zo (λj=>j=b) w w'
 row:w'.heap[b]? =some (.cells #[nv,.slice none 0 0,rv,ov] 222 (0,0))
 own:w'.ownsRow w.heap.size 9 1 rv u.2.1.length (u.2.1.map zb)
 name:Bs (im (UB w.heap.size b rv) w') u.1 nv
 opts:if u.2.2 then∃o,ov=ptr o/\im (UB w.heap.size b rv) w' ⟨o,0,none⟩=some (.bool true)else ov=.pointer none
variable{b:Nat}{ov:Value}{w1 w2:World}
theorem Yi.new{w:World}{u:Bytes×List Bytes×Bool}{rv:Value}(h:Yi w w1 b u nv rv ov)(hn:za w1 w2):Yi w w2 b u nv rv ov:=by
 obtain⟨hm,hr,ho,h1,h2⟩:=h;refine⟨zo.trans hm hn λ_ _ e=>e.elim,hn.heap hr,zU ho (λb hb=>hn.block b (World.ownsRow.lt ho b hb).2 (λe=>e)),h1.mono (hn.im _),?_⟩;split
 ·rename_i h0;rw[if_pos h0]at h2;obtain⟨o,e,h2⟩:=h2;exact⟨o,e,hn.im _ _ _ h2⟩
 ·rename_i h0;rw[if_neg h0]at h2;exact h2
theorem kQ(S:Nat->Prop)(w:World)(p:Addr)(hp:S p.block)(u:Value):(im S w).le (im S (w.setCell p u)):=
 (zo.setCell (zo.refl S w) (p:=p) (λ_=>hp) u).im λ_ _ e=>e
theorem Yi.bne{w:World}{u:Bytes×List Bytes×Bool}{rv:Value}(h:Yi w w1 b u nv rv ov)(hb:b<w.heap.size):∀q,rv.ownBlock=some q->q≠b:=λq hq e=>by have:=(World.ownsRow.lt h.own q hq).1;omega
theorem j_{w:World}{i:Nat}{u:Value}(h:w.ownsRow base e sz v n xs)(hb:∀q,v.ownBlock=some q->q≠b):(w.setCell ⟨b,i,none⟩ u).ownsRow base e sz v n xs:=
 zU h (λq hq=>Below.heap_setCell _ _ _ _ (hb q hq))
variable{xv:Value}
theorem Yi.set0{w:World}{u:Bytes×List Bytes×Bool}{rv:Value}(h:Yi w w1 b u nv rv ov)(hb:b<w.heap.size){x:Bytes}(hx:Bs (im (UB w.heap.size b rv) w1) x xv):Yi w (w1.setCell ⟨b,0,none⟩ xv) b (x,u.2) xv rv ov:=by
 have hs:=kQ (UB w.heap.size b rv) w1 ⟨b,0,none⟩ (Or.inl (Or.inl rfl)) xv;refine⟨h.mod.setCell (λ_=>rfl) _,heap_setCell_same w1 b 0 _ _ _ h.row,j_ h.own (h.bne hb),hx.mono hs,?_⟩;have h2:=h.opts;show if u.2.2 then _ else _;split
 ·rename_i h0;rw[if_pos h0]at h2;obtain⟨o,e,h2⟩:=h2;exact⟨o,e,hs _ _ h2⟩
 ·rename_i h0;rw[if_neg h0]at h2;exact h2
theorem Yi.set3{w:World}{u:Bytes×List Bytes×Bool}{rv:Value}(h:Yi w w1 b u nv rv ov)(hb:b<w.heap.size)(hq:im (UB w.heap.size b rv) w1 ⟨q,0,none⟩=some (.bool true)):Yi w (w1.setCell ⟨b,3,none⟩ (ptr q)) b (u.1,u.2.1,true) nv rv (ptr q):=by have hs:=kQ (UB w.heap.size b rv) w1 ⟨b,3,none⟩ (Or.inl (Or.inl rfl)) (ptr q);refine⟨h.mod.setCell (λ_=>rfl) _,heap_setCell_same w1 b 3 _ _ _ h.row,j_ h.own (h.bne hb),h.name.mono hs,?_⟩;show if true=true then _ else _;rw[if_pos rfl];exact⟨q,rfl,hs _ _ hq⟩
variable{v5:Value}{w5:World}
theorem Yi.app{w:World}{u:Bytes×List Bytes×Bool}{rv:Value}{o:Obj}{x:Bytes}(h:Yi w w1 b u nv rv ov)(hb:b<w.heap.size)
  (ho:w5.ownsRow 0 9 1 v5 (u.2.1.length+1) (u.2.1.map zb++[zb x]))(hg:(w1.alloc o).drew.grownBy w5 rv.ownBlock)(hf:∀q,v5.ownBlock=some q->rv.ownBlock=some q\/(w1.alloc o).drew.heap.size<=q):
  w5.heap[b]? =some (.cells #[nv,.slice none 0 0,rv,ov] 222 (0,0))/\Yi w (w5.setCell ⟨b,2,none⟩ v5) b (u.1,u.2.1++[x],u.2.2) nv v5 ov:=by
 have hsz:(w1.alloc o).drew.heap.size=w1.heap.size+1:=Array.size_push ..
 have hn1:za w1 (w1.alloc o).drew:=((za.refl w1).alloc o).drew;have h1:=h.new hn1;have hg5:=zo.of_grown hg;have hb1:b<w1.heap.size:=Nat.lt_of_lt_of_le hb h.mod.size;have hne:=h.bne hb;have hrow:w5.heap[b]? =some (.cells #[nv,.slice none 0 0,rv,ov] 222 (0,0)):=by rw[hg5.block b (by omega) (λe=>hne b e rfl)];exact h1.row
 have hle:(im (UB w.heap.size b rv) (w1.alloc o).drew).le (im (UB w.heap.size b rv) w5):=(hg5.mono (S':=UB w.heap.size b rv) λ_ _ e=>Or.inr e).im λ_ _ e=>e;have hup:∀a y,im (UB w.heap.size b rv) (w1.alloc o).drew a=some y->im (UB w.heap.size b v5) w5 a=some y:=λa y ha=>by
  have h2:=zi.1 (hle _ _ ha);refine zi.2 ⟨λe=> ?_,h2.2⟩;rcases e with e|e
  ·exact h2.1 (Or.inl e)
  ·rcases hf _ e with e2|e2
   ·exact h2.1 (Or.inr e2)
   ·have:=World.block_lt_of_cell? _ a (zi.1 ha).2;omega
 have hs:=kQ (UB w.heap.size b v5) w5 ⟨b,2,none⟩ (Or.inl (Or.inl rfl)) v5;have hbase:∀q,v5.ownBlock=some q->w.heap.size<=q:=λq hq=>by
  rcases hf q hq with e|e
  ·exact(World.ownsRow.lt h.own q e).1
  ·have:=h.mod.size;omega
 refine⟨hrow,(zo.trans h1.mod hg5 (S':=λj=>rv.ownBlock=some j) λj hj e=>by have:=(World.ownsRow.lt h.own j e).1;omega).setCell (λ_=>rfl) _,heap_setCell_same w5 b 2 _ _ _ hrow,?_,?_,?_⟩
 ·have:=j_ (b:=b) (i:=2) (u:=v5) (vD (base:=w.heap.size) ho hbase) (λq hq e=>by have:=hbase q hq;omega);simpa using this
 ·exact(h1.name.mono hup).mono hs
 ·have h2:=h1.opts;show if u.2.2 then _ else _;split
  ·rename_i h0;rw[if_pos h0]at h2;obtain⟨o',e,h2⟩:=h2;exact⟨o',e,hs _ _ (hup _ _ h2)⟩
  ·rename_i h0;rw[if_neg h0]at h2;exact h2
theorem YR{s:ByteArray}:∀u∈[Value.string s],u.oneCell'=true:=by intro u hu;rw[List.mem_singleton]at hu;rw[hu];rfl
theorem Do{w:World}{nv0 rv0 ov0:Value}{u0:Bytes×List Bytes×Bool}{fs:List jo}(h0:Yi w w b u0 nv0 rv0 ov0)(hb:b<w.heap.size)(hr:r.le (im (λj=>j=b) w))(hfs:∀f∈fs,Dn f)(hlen:u0.2.1.length+fs.length<=1000)(hv:Bs r (zW fs) v):
  Calls prog 310 #[ptr b,v] w λe w'=>e=.returned (.bool true)/\∃nv rv ov,Yi w w' b (fs.foldl YQ u0) nv rv ov:=by
 obtain⟨vp,vn,vc,rfl,_⟩:=hv.shape;have HR:=hid hr;clear hr;have H0:=hid h0;clear h0;have HV:=hid hv;clear hv;go_enter func310,ntmps310;go_wp2;go_loopg [1] (fs.length+1) (λgg zv wr=>∃rest u1 nv rv ov,Bs r (zW rest) zv/\(∀f∈rest,Dn f)/\Yi w wr b u1 nv rv ov/\rest.foldl YQ u1=fs.foldl YQ u0/\rest.length<gg/\u1.2.1.length+rest.length<=1000)
 case atStart=>exact⟨fs,u0,_,_,_,HV.out,hfs,H0.out,rfl,by omega,hlen⟩
 case round=>
  obtain⟨rest,u1,nv,rv,ov,hbr,hfr,hpt,hfold,hlr,hlu⟩:=hrel;cases rest with
  |nil=>obtain⟨zp,zn,zc,rfl,hzn⟩:=hbr.shape;have hz:zn=0:=hzn.symm;subst hz;have HPT:=hid hpt;have HF:=hid hfold;clear hpt hfold hfr hfs;go_wp2;go_returns;exact⟨rfl,nv,rv,ov,by have:=HPT.out;rw[show u1=fs.foldl YQ u0 from HF.out]at this;exact this⟩
  |cons f rest=>
   have hP:=hfr f (by simp);have hfr':∀g∈rest,Dn g:=λg hg=>hfr g (by simp[hg]);rw[kW]at hbr;have HT:=hid (KY (w:=wr) (HR.out.le_trans ((hpt.mod.im λ_ _ e=>e).le_trans (zd (λj=>j=b) wr))) hP.ok hbr);obtain⟨zp,zn,zc,rfl,hzn⟩:=hbr.shape;have hz:(0:Int)<zn:=by have:=Kx f;rw[<-hzn,List.length_append];omega
   have HPT:=hid hpt;have HF:=hid hfold;have HFR:=hid hfr';have HP:=hid hP;have HLU:=hid (show u1.2.1.length+rest.length+1<=1000 by simpa[Nat.add_assoc]using hlu);clear hpt hfold hfr hfs hfr' hP hbr hzn hlu;go_wp2_with fail;refine HT.out.mono ?_;rintro e w1 ⟨u,v1,rfl,hn1,g1,g2⟩;obtain⟨a,bb,d,px,nx,cx,rfl⟩:=g2.shape;obtain⟨p5,n5,c5,rfl,_⟩:=g1.shape;have G1:=hid g1;have PT1:=hid (HPT.out.new hn1);have hszr:wr.heap.size<=w1.heap.size:=hn1.size;clear g1 hn1;go_upto_region 6 with fail
   obtain⟨W,hW⟩:=zex (w1.alloc (.cells #[.int .i64 a,.bool bb,.int .i64 d,.slice px nx cx] 488));rw[<-hW];have hnW:za w1 W:=by rw[hW];exact(za.refl w1).alloc _
   have hrq:W.heap[w1.heap.size]? =some (.cells #[.int .i64 a,.bool bb,.int .i64 d,.slice px nx cx] 488 (0,0)):=by rw[hW];exact zg w1 _
   obtain⟨z0,z1,z2,z3,_⟩:=kZ hrq;have PTW:=hid (PT1.out.new hnW);have hrow:=PTW.out.row;obtain⟨x0,x1,x2,x3,y0,y1,y2,y3⟩:=kZ hrow;have GW:=hid (g2.mono (Nat.le_refl _) hnW);clear hW hnW hrow g2 PT1;cases f with
   |I k n=>exact HP.out.elim
   |B k x=>
    obtain⟨rfl,rfl,rfl,hbx,hfx⟩:=GW.out.B;have hbx':Bs (im (UB w.heap.size b rv) W) x (.slice px nx cx):=hbx.im_of λj hj e=>by
     have h1:=hfx j hj;have h2:=HPT.out.mod.size;rcases e with e|e
     ·omega
     ·have:=(World.ownsRow.lt HPT.out.own j e).2;omega
    have HBX:=hid hbx';have HBY:=hid hbx;have hnx:(0:Int)<nx:=by have h1:=List.length_pos_iff.2 HP.out.2.1;obtain⟨_,_,_,e,hl,_⟩:=hbx;simp only[Value.slice.injEq]at e;obtain⟨_,rfl,_⟩:=e;omega
    rcases HP.out.1 with rfl|rfl|rfl
    ·clear hbx hfx hbx' hrq;go_wp2_with fail;go_roundg (gk-1)
     case rel=>exact⟨rest,_,_,_,_,G1.out,HFR.out,PTW.out.set0 hb HBX.out,HF.out,by simp at hlr;omega,by have:=HLU.out;simp only;omega⟩
     case measure=>simp at hlr;omega
    ·obtain⟨sp,sn,sc,rfl⟩:=(Sl.of_own PTW.out.own).shape;have hconv:∀m,(convert 75 9 (.slice px nx cx)).run prog (W.drewN m)=.ok (.string ⟨x.toArray⟩) (W.drewN m):=λm=>kO (w:=W.drewN m) (show Bs (W.drewN m).cell? x _ from hbx) 75 5 9 (by kernel_rfl) (by kernel_rfl) (by kernel_rfl);have hconv0:=hconv 0;have hconv1:=hconv 1;have h1:W.drewN 1=W.drew:=rfl;rw[h1]at hconv1;have hbw:b<W.heap.size:=Nat.lt_of_lt_of_le hb PTW.out.mod.size;have hrl:(u1.2.1.map zb).length+1<=1001:=by have:=HLU.out;rw[List.length_map];omega
     clear hbx hfx hbx' hrq hconv hconv0 h1;go_wp2_with fail;have HBD:Hid (((u1.2.1.map zb).length+[Value.string ⟨x.toArray⟩].length)*(16+1)<=140737488355328):=hid (by rw[List.length_singleton];omega);go_region_law (refine Zj xV rfl rfl (Ze (World.ownsRow.alloc (qK PTW.out.own 0 (Nat.zero_le _)) _)) rfl rfl (news:=[.string ⟨x.toArray⟩]) (Sl.drew (Sl.made W [.string ⟨x.toArray⟩] _ 1 1 rfl (by decide))) YR HBD.out ?_;intro v5 w5 ho hg hf5;obtain⟨p7,n7,c7,rfl⟩:=(Sl.of_own ho).shape;obtain⟨hrow5,hut⟩:=PTW.out.app hb ho hg hf5;obtain⟨_,_,x2',_,_,_,y2',_⟩:=kZ hrow5;have HUT:=hid hut;clear ho hg hf5 hrow5 hut)
     all_goals(
      go_wp2;go_roundg (gk-1)
      case rel=>exact⟨rest,_,_,_,_,G1.out,HFR.out,HUT.out,HF.out,by simp at hlr;omega,by have:=HLU.out;simp;omega⟩
      case measure=>simp at hlr;omega)
    ·have hal:∀o,(W.alloc o).cell? ⟨b,3,none⟩=some ov/\(W.alloc o).frozen? ⟨b,3,none⟩=false:=λo=>by
      have h9:=(PTW.out.new ((za.refl W).alloc o)).row;obtain⟨_,_,_,k1,_,_,_,k2⟩:=kZ h9;exact⟨k1,k2⟩
     have hal1:∀o,(W.alloc o).cell? ⟨b,3,none⟩=some ov:=λo=>(hal o).1;have hal2:∀o,(W.alloc o).frozen? ⟨b,3,none⟩=false:=λo=>(hal o).2;have hnx2:0<nx:=by omega
     have hdx:decide (0<nx)=true:=decide_eq_true hnx2;clear hbx hfx hbx' hrq hal;go_wp2_with fail;go_roundg (gk-1)
     case rel=>exact⟨rest,_,_,_,_,G1.out,HFR.out,(PTW.out.new ((za.refl W).alloc _)).set3 hb (zi.2 ⟨by rintro(e|e);(have:=PTW.out.mod.size;simp only at e;omega);(have:=(World.ownsRow.lt PTW.out.own _ e).2;simp only at this;omega),by rw[World.cell?_alloc_new];rfl⟩),HF.out,by simp at hlr;omega,by have:=HLU.out;simp only;omega⟩
     case measure=>simp at hlr;omega
theorem Yi.at{w:World}{n:Bytes}{rs:List Bytes}{rv:Value}(h:Yi w w' b (n,rs,true) nv rv ov)(hS:∀j,S j->j<w.heap.size/\j≠b):jd (im S w') b ⟨n,rs⟩:=by
 obtain⟨x0,x1,x2,x3,_⟩:=kZ h.row;have hb: ¬S b:=λe=>(hS b e).2 rfl;have hle:(im (UB w.heap.size b rv) w').le (im S w'):=jq λj e=>Or.inl (Or.inr (hS j e).1);have h2:=h.opts;rw[if_pos rfl]at h2;obtain⟨o,rfl,ho⟩:=h2;refine⟨⟨nv,zi.2 ⟨hb,x0⟩,h.name.mono hle⟩,⟨_,zi.2 ⟨hb,x1⟩,Bs.nil _⟩,⟨rv,zi.2 ⟨hb,x2⟩,?_⟩,o,zi.2 ⟨hb,x3⟩,hle _ _ ho⟩;obtain⟨p,m,c,rfl,hl,hm,hc,hp,hcells⟩:=Sl.of_own h.own;refine⟨p,m,c,rfl,hl,hm,hc,hp,?_⟩;rcases hcells with e|⟨g,o',rfl,hcc⟩
 ·exact Or.inl e
 ·refine Or.inr ⟨g,o',rfl,λi hi=>zi.2 ⟨λe=> ?_,hcc i hi⟩⟩;have h3:=(World.ownsRow.lt h.own g rfl).1;have:=(hS g e).1;omega
end Go.Proofs.YtbmdoinjkligiaaGreat
