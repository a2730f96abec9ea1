/- Contracts and laws that the last text joins. -/
import Derived.Sort.OwnSorted
import Derived.Lib.OwnBridge
import Derived.Sort.Defs
import Derived.Test.YtbmdoinjkligiaaGreatM18
set_option maxRecDepth 100000
set_option maxHeartbeats 40000000
set_option linter.all false
namespace Go.Proofs.YtbmdoinjkligiaaGreat
open Tryz
open Lib(hid)
open Go.RowKit
theorem xL(x:Nat)(W:World):(method 608 424 (ptr x) "UnsafeGetAllUsers").run prog W=.ok (293,ptr x) W:=by kernel_rfl
variable{A:yr}{a ab:Nat}{l:zu}{lg:Value}
theorem JQ{w:World}{I:zN}{s:zA}{m:Nat}{n:Bytes}(h:Q8 l w a I s A ab m lg)(hn:n.length<=1000):
  Calls prog 213 #[ptr ab,zb n] w λe w'=>∃r W,e=.returned r/\za w W/\zB l W l w'/\Q8 l w' a I s A ab m lg/\j8 W w' (.returned r) (s.user n):=by
 have HB:=hid (vD h.idle h.abe);have H:=hid h;have m2:=km;have m3:=ji;have m4:=YY;have n3:=kG;clear h;obtain⟨sx,Ht⟩:=zex ((⟨n.toArray⟩:ByteArray));unfold zb;rw[<-Ht];have r_:=hid Ht;clear Ht;go_enter_defers func213,ntmps213;go_wp2_with fail;refine HB.out.mono ?_;rintro e w1 ⟨x,rfl,hQ,hx,pH⟩;have h1:=H.out.new hQ;have HL:=hid (xm h1.idle pH);have Pm:=hid ((QT (x:=x) (I:=I) h1.fine h1.kv).user l w1 n ⟨h1.idle,pH⟩ hn);have H1:=hid h1;have Hs:=hid hQ;unfold zb at Pm;rw[<-r_.out]at Pm;clear h1 hQ pH;go_wp2_with fail;refine HL.out.mono ?_;rintro e w2 ⟨rfl,rfl⟩;go_wp2_with fail;refine Pm.out.mono ?_;rintro e w2 ⟨r,rfl,⟨Pn,po⟩,Hq,H9⟩;have pm:=zB.own H1.out.bnd Hq;have h2:=H1.out.moved pm (zN.same_refl I) Pn;have Hu:=hid (And.intro pm (And.intro h2 (And.intro po H9)));have hi:=kH x;clear Pn Hq H9 pm h2 po;go_wp2;refine leaves_cons (f:=291) (args:= #[ptr x]) (by simp) (hi _) ?_
 refine(yb Hu.out.2.1.idle Hu.out.2.2.1).mono ?_;rintro e u' w'' ⟨rfl,rfl,rfl⟩;exact⟨r,results_tmp (t:=4) rfl _ _ _,r,w1,rfl,Hs.out,Hu.out.1,Hu.out.2.1,Hu.out.2.2.2⟩
theorem Kd{w:World}{I:zN}{s:zA}{m:Nat}(h:Q8 l w a I s A ab m lg):
  Calls prog 211 #[ptr ab] w λe w'=>∃r W,e=.returned r/\za w W/\zB l W l w'/\Q8 l w' a I s A ab m lg/\KY l.some W w' s.users r:=by
 have HB:=hid (vD h.idle h.abe);have H:=hid h;have m2:=km;have m3:=ji;have m4:=xL;have n3:=kG;clear h;go_enter_defers func211,ntmps211;go_wp2_with fail;refine HB.out.mono ?_;rintro e w1 ⟨x,rfl,hQ,hx,pH⟩;have h1:=H.out.new hQ;have HL:=hid (xm h1.idle pH);have Pm:=hid ((QT (x:=x) (I:=I) h1.fine h1.kv).all l w1 ⟨h1.idle,pH⟩);have H1:=hid h1;have Hs:=hid hQ;clear h1 hQ pH;go_wp2_with fail;refine HL.out.mono ?_;rintro e w2 ⟨rfl,rfl⟩;go_wp2_with fail;refine Pm.out.mono ?_;rintro e w2 ⟨r,rfl,⟨Pn,po⟩,Hq,H9⟩;have pm:=zB.own H1.out.bnd Hq;have h2:=H1.out.moved pm (zN.same_refl I) Pn;have Hu:=hid (And.intro pm (And.intro h2 (And.intro po H9)));have hi:=kH x;clear Pn Hq H9 pm h2 po;go_wp2;refine leaves_cons (f:=291) (args:= #[ptr x]) (by simp) (hi _) ?_;refine(yb Hu.out.2.1.idle Hu.out.2.2.1).mono ?_;rintro e u' w'' ⟨rfl,rfl,rfl⟩
 exact⟨r,results_tmp (t:=2) rfl _ _ _,r,w1,rfl,Hs.out,Hu.out.1,Hu.out.2.1,Hu.out.2.2.2⟩
structure V9(w0 w:World)(ub:Nat)(nv pv ov:Value)(xs:List Bytes):Prop where
 new:za w0 w
 ge:w0.heap.size<=ub
 ex:∃rv n,w.heap[ub]? =some (.cells #[nv,pv,rv,ov] 222 (0,0))/\w.ownsRow 0 9 1 rv n (xs.map zb)/\∀b,rv.ownBlock=some b->w0.heap.size<=b/\b≠ub
variable{nv ov pv:Value}{ub:Nat}{w':World}
theorem V9.app{w0 w:World}{rv v':Value}{m:Nat}{xs:List Bytes}{x:Bytes}(h:za w0 w)(pD:w0.heap.size<=ub)(hZ:w.heap[ub]? =some (.cells #[nv,pv,rv,ov] 222 (0,0)))(hf:∀b,rv.ownBlock=some b->w0.heap.size<=b/\b≠ub)
  (ho:w'.ownsRow 0 9 1 v' m (xs.map zb++[zb x]))(hg:w.grownBy w' rv.ownBlock)(PU:∀b,v'.ownBlock=some b->rv.ownBlock=some b\/w.heap.size<=b):
  w'.heap[ub]? =some (.cells #[nv,pv,rv,ov] 222 (0,0))/\V9 w0 (w'.setCell ⟨ub,2,none⟩ v') ub nv pv ov (xs++[x]):=by
 have LF:ub<w.heap.size:=(Array.getElem?_eq_some_iff.1 hZ).1;have Ho:some ub≠rv.ownBlock:=λe=>(hf ub e.symm).2 rfl;have nM:=(hg.block ub LF Ho).trans hZ;have T9:za w0 w':=za.of_grown h hg λk e=>(hf k e).1;have eE:∀b,v'.ownBlock=some b->w0.heap.size<=b/\b≠ub:=λb e=>by
  rcases PU b e with e1|e1
  ·exact hf b e1
  ·exact⟨Nat.le_trans h.size e1,by omega⟩
 refine⟨nM,zq.setCell T9 (p:=⟨ub,2,none⟩) (λHb=>absurd Hb (by show ¬ub<_;omega)) _,pD,v',m,heap_setCell_same _ _ _ _ _ _ nM,?_,eE⟩;rw[List.map_append];exact j6 ho λq e=>(eE q e).2
variable{S:Nat->Prop}
theorem V9.user{w0 w:World}{ob:Nat}{xs:List Bytes}{n:Bytes}(h:V9 w0 w ub nv pv (ptr ob) xs)(hS:∀j,S j->j<w0.heap.size)(hn:Bs (im S w0) n nv)(hp:Bs (im S w0) [] pv)(ho:im S w0 ⟨ob,0,none⟩=some (.bool true)):y9 (im S w) ub ⟨n,xs⟩:=by
 obtain⟨Hp,pD,rv,k,hZ,Ha,hf⟩:=h;have hu: ¬S ub:=λe=>by have:=hS ub e;omega
 obtain⟨x0,x1,x2,x3,_⟩:=kX hZ;exact⟨⟨_,zi.2 ⟨hu,x0⟩,hn.mono (Hp.im S)⟩,⟨_,zi.2 ⟨hu,x1⟩,hp.mono (Hp.im S)⟩,⟨_,zi.2 ⟨hu,x2⟩,Sl.im_of (Sl.of_own Ha) λb e e2=>by have:=(hf b e).1;have:=hS b e2;omega⟩,ob,zi.2 ⟨hu,x3⟩,Hp.im S _ _ ho⟩
theorem ZN(xs:List Bytes)(y x:Bytes):yl (xs++[y]) x=if y=x then yl xs x else yl xs x++[y]:=by
 unfold yl;rw[List.filter_append];by_cases e:y=x
 ·rw[if_pos e];simp[e]
 ·rw[if_neg e];simp[e]
theorem QU(xs:List Bytes)(x:Bytes):(yl xs x).length=xs.length↔x∉xs:=by
 unfold yl;rw[List.length_filter_eq_length_iff];constructor
 ·intro h hx;have:=h x hx;simp at this
 ·intro h a ha;have:a≠x:=λe=>h (by rw[<-e];exact ha);simp[this]
theorem Vo(xs:List Bytes)(x:Bytes):(yl xs x).length<=xs.length:=List.length_filter_le ..
section
open Go.RowKit Go.Sort
variable{C:List zZ}{e2 e4:zY}{pdel pend:Nat}{rb wb:List (Nat×zZ)}
theorem QY{w:World}{I:zN}{D:vr}(hB:jX l w I C wb rb pend pdel e2 e4)(hD:wb.map (·.2)=D.bkts)(hk:D.ok):
  De (λW=>za w W) l.some 257 (ptr I.t) 336 (ptr I.t) D.get where
 new W W' h hn:=h.trans hn
 lt W h j hj:=Nat.lt_of_lt_of_le (hB.bnd j hj) h.size
 meth:=gG I.t
 nil:=Uo I.t
 enter _ _:=by kernel_rfl
 range b W k kv lim h Sh:=by have hW:=(hB.ofNew h).2;obtain⟨bk,hj⟩:=xT hD b;have Rm:=kh b;rw[<-vO hD]at Rm;refine(dP (S:=l.some) (F:=l.is 9) hW.bnd (λj e=>by show l j≠0;rw[e];decide) hW.bt hW.wtx hj Rm.1 Rm.2 (hk b).rise (hk b).ne (by have:=(hk b).len;omega) Sh).mono ?_;rintro e w' ⟨ks,vs,rfl,hn,hv⟩;exact⟨ks,vs,rfl,h.trans hn,hn.mod _,hv⟩
variable{W:World}{us:zF->List Bytes}{x:Nat}
theorem UT{I:zN}{s:zA}{on:Bool}{rev:Nat}{n:Bytes}(hf:q9 s)(hA:ym A on rev)(h:kZ l W I (s.db A) pend pdel us)(hx:qd l W x 257 I.t 419)(hn:n.length<=1000):
  Calls prog 267 #[ptr x,zb n] W λe w'=>∃r,e=.returned r/\(za W w'/\j8 W w' (.returned r) (qT zj.name s.users n)):=by
 obtain⟨C,wb,rb,e2,e4,hB,h1,h2,h3,h4⟩:=h;have R:=QY hB h1 (hf.dbOk hA);refine JL hx.2 ((KW (lg:=.pointer none) R (w:=W.drew) (n:=n) (za.refl W).drew hn (zcB A n) (λu hu=>hf.uok u (qg hf.us hu))).mono ?_);rintro e w' ⟨hs,hm,hg⟩;obtain⟨r,rfl,hg⟩:=hg.ret;exact⟨r,rfl,hs,hg.undrew⟩
theorem ZQ{I:zN}{s:zA}{on:Bool}{rev:Nat}{n:Bytes}(hf:q9 s)(hA:ym A on rev)(h:kZ l W I (s.db A) pend pdel us)(hx:qd l W x 257 I.t 419)(hn:n.length<=1000):
  Calls prog 266 #[ptr x,zb n] W λe w'=>∃r,e=.returned r/\(za W w'/\jL W w' (.returned r) (qT zm.name s.roles n)):=by
 obtain⟨C,wb,rb,e2,e4,hB,h1,h2,h3,h4⟩:=h;have R:=QY hB h1 (hf.dbOk hA);refine JM hx.2 ((KX (lg:=.pointer none) R (w:=W.drew) (n:=n) (za.refl W).drew hn (zcC A n) (λu hu=>hf.rok u (qg hf.rs hu))).mono ?_);rintro e w' ⟨hs,hm,hg⟩;obtain⟨r,rfl,hg⟩:=hg.ret;exact⟨r,rfl,hs,hg.undrew⟩
variable{b n:Nat}{nm:Bytes}{wm:World}
theorem Ye.sorted{g cap:Nat}{rs ys:List Bytes}{op:Bool}{os:Array Obj}(h:Ye wm W b (nm,rs,op) nv (.slice (some ⟨g,0,none⟩) rs.length cap) ov)(hb:b<wm.heap.size)(hy:ys.length=rs.length):
  Ye wm (grow (putRow encStr (Sort.ahead W n) g 0 ys.toArray) os) b (nm,ys,op) nv (.slice (some ⟨g,0,none⟩) rs.length cap) ov:=by
 have hm:=zq.of_grown (grownBy_sorted (w:=W) (g:=g) (n:=n) (os:=os) ys.toArray);have hg:=World.ownsRow.lt h.own g rfl;have hY:(im (UB wm.heap.size b (.slice (some ⟨g,0,none⟩) rs.length cap)) W).le (im (UB wm.heap.size b (.slice (some ⟨g,0,none⟩) rs.length cap)) (grow (putRow encStr (Sort.ahead W n) g 0 ys.toArray) os)):=(hm.mono (S':=UB wm.heap.size b (.slice (some ⟨g,0,none⟩) rs.length cap)) λ_ _ e=>Or.inr e).im λ_ _ e=>e;refine⟨zq.trans h.mod hm λj hj e=> ?_,?_,?_,h.name.mono hY,?_⟩
 ·cases e;omega
 ·rw[hm.block b (by have:=h.mod.size;omega) (λe=>by cases e;omega)];exact h.row
 ·rcases h.own.2 with⟨e0,_⟩|⟨g',cap',cur,e0,Ry,cA,T9,C5,MM,ht'⟩
  ·cases e0
  ·injection e0 with e1 _ e3
   injection e1 with e1
   injection e1 with e1
   subst e1;subst e3;have:=ownsRow_sorted (n:=n) (os:=os) (ss:=rs) (ts:=ys) hy Ry cA T9 C5 (by simpa using MM);show World.ownsRow _ _ _ _ _ ys.length _;rw[hy];exact this
 ·have h2:=h.opts;show if op then _ else _;split
  ·rename_i h0;rw[if_pos h0]at h2;obtain⟨o',e,h2⟩:=h2;exact⟨o',e,hY _ _ h2⟩
  ·rename_i h0;rw[if_neg h0]at h2;exact h2
variable{W' w1 w2:World}
theorem zq.back(h1:za w1 w2)(h2:zq (λj=>j=b) wm w2)(h3:zq (λj=>j=b) wm W')(pD:w1.heap.size<=b)(hb:b<wm.heap.size):za w1 W':=
 ⟨(h3.os.trans h2.os.symm).trans h1.os,(h3.tape.trans h2.tape.symm).trans h1.tape,(h3.output.trans h2.output.symm).trans h1.output,by have:=h3.size;omega,λk hk _=>by rw[h3.block k (by omega) (by omega),<-h2.block k (by omega) (by omega)];exact h1.block k hk λe=>e⟩
end
theorem fh(a b:Bytes):zt a b<0↔a<b:=by
 have h:=(jh a b).symm.trans (Go.Proofs.bytesLess_eq a b);constructor
 ·intro h1;rw[decide_eq_true h1]at h;exact of_decide_eq_true h.symm
 ·intro h1;rw[decide_eq_true h1]at h;exact of_decide_eq_true h
theorem ZR(a b:Bytes):a<=b↔¬zt b a<0:=by rw[fh];exact List.not_lt.symm
theorem DE{l:List Bytes}{x:Bytes}(h:zx l x=false):(vW l x).Perm (l++[x]):=by
 unfold vW yO;rw[List.map_id];rw[show id x=x from rfl,h];simp only[Bool.false_eq_true,if_false,Nat.add_zero];have h1:(l.take (zk l x)++[x]++l.drop (zk l x)).Perm (x::(l.take (zk l x)++l.drop (zk l x))):=by rw[List.append_assoc];exact List.perm_middle
 rw[List.take_append_drop]at h1;exact h1.trans (List.perm_append_singleton x l).symm
theorem QD{l:List Bytes}{x:Bytes}(hl:zM l)(hx:x∉l):(l++[x]).mergeSort (λa b=>decide (a<=b))=vW l x:=by
 have hf:zx l x=false:=by
  cases e:zx l x
  ·rfl
  ·exact absurd ((kT hl x).1 e) hx
 have hs:zE id l:=by unfold zE;rw[List.map_id];exact hl
 have h2:=hs.put x;unfold zE at h2;rw[List.map_id]at h2;have h3:(yO id l x).Pairwise λa b=>decide (a<=b)=true:=h2.imp λ{a b} e=>decide_eq_true ((ZR a b).2 λe2=>yW e e2);have h4:((l++[x]).mergeSort (λa b=>decide (a<=b))).Pairwise λa b=>decide (a<=b)=true:=
  List.pairwise_mergeSort (λa b c h1 h2=>decide_eq_true ((ZR a c).2 λh3=>by
   have h1:=(ZR a b).1 (of_decide_eq_true h1);have h2:=(ZR b c).1 (of_decide_eq_true h2);rcases qI a b with e|e|e
   ·exact h2 (qL h3 e)
   ·subst e;exact h2 h3
   ·exact h1 e)) (λa b=>by
   rcases qI a b with e|e|e
   ·have:a<=b:=(ZR a b).2 (yW e);simp[this]
   ·subst e;have:a<=a:=(ZR a a).2 (zI a);simp[this]
   ·have:b<=a:=(ZR b a).2 (yW e);simp[this]) _
 exact((List.mergeSort_perm _ _).trans (DE hf).symm).eq_of_pairwise (λa b _ _ h1 h2=>by
  have h1:=(ZR a b).1 (of_decide_eq_true h1);have h2:=(ZR b a).1 (of_decide_eq_true h2);rcases qI a b with e|e|e
  ·exact absurd e h2
  ·exact e
  ·exact absurd e h1) h4 h3
section
open Go.RowKit Go.Sort
variable{W wm:World}{b n:Nat}{nm:Bytes}
theorem XX{m:Nat}{rs:List Bytes}{x:Bytes}{p:Option Addr}(h:Ye wm W b (nm,rs++[x],true) nv (.slice p n m) ov)(hb:b<wm.heap.size)(Pt:zM rs)(hx:x∉rs)(Hx:rs.length<=1000):
  Calls prog 185 #[.slice p n m] W λe w'=>e=.returned (.tuple #[])/\Ye wm w' b (nm,vW rs x,true) nv (.slice p n m) ov:=by
 have ho:=h.own;have Ho:(Value.slice p n m)≠.slice none 0 0:=λe=>by have h1:=(Sl.of_own ho).row.1;cases e;simp at h1
 have N8:W.ownsRow wm.heap.size 9 1 (.slice p n m) (rs++[x]).length ((rs++[x]).map encStr):=ho;obtain⟨g,cap,e0,h1,h2,h3,h4,h5,hH⟩:=Go.Lib.holds_of_ownsRow N8 Ho;cases e0;refine(sort_Strings g 0 m (rs++[x]) W hH h2 (by rw[List.length_append,List.length_singleton];omega)).mono ?_;rintro e w' ⟨rfl,q,os,rfl⟩;refine⟨rfl,?_⟩;rw[QD Pt hx];refine Ye.sorted h hb ?_;rw[<-QD Pt hx,List.length_mergeSort]
end
section
open Go.Sort
variable{j:Nat}{α:Type}
theorem DF{l:List α}(h:l.Nodup){i:Nat}(hi:i<l.length)(hj:j<l.length)(e:l[i]=l[j]):i=j:=by
 rcases Nat.lt_trichotomy i j with c|c|c
 ·exact absurd e (List.pairwise_iff_getElem.1 h i j hi hj c)
 ·exact c
 ·exact absurd e.symm (List.pairwise_iff_getElem.1 h j i hj hi c)
section
variable{α:Type}[Inhabited α](f:α->Bytes)
def DZ(a b:α):Bool:=decide (zt (f a) (f b)<0)
def kA(x:α):List α->List α
 |[]=>[x]
 |q::l=>if zt (f x) (f q)<0 then x::q::l else q::kA x l
def Ya(l:List α):Prop:=l.Pairwise λa b=> ¬zt (f b) (f a)<0
variable{f}
theorem VD{x y:α}:∀{l:List α} (_:Ya f (l++[y])),kA f x (l++[y])=if zt (f x) (f y)<0 then kA f x l++[y]else l++[y,x]
 |[],_=>by show(if zt (f x) (f y)<0 then [x,y]else y::[x])=_;rfl
 |q::l,h=>by
  have h1:Ya f (l++[y]):=(List.pairwise_cons.1 h).2;have h2: ¬zt (f y) (f q)<0:=(List.pairwise_cons.1 h).1 y (by simp);have ih:=VD (x:=x) h1;show(if zt (f x) (f q)<0 then x::q::(l++[y])else q::kA f x (l++[y]))=_;rw[ih];by_cases e1:zt (f x) (f q)<0
  ·have e2:zt (f x) (f y)<0:=by
    rcases qI (f q) (f y)with e|e|e
    ·exact qL e1 e
    ·rw[<-e];exact e1
    ·exact absurd e h2
   rw[if_pos e1,if_pos e2];show _=(if zt (f x) (f q)<0 then x::q::l else q::kA f x l)++[y];rw[if_pos e1];rfl
  ·rw[if_neg e1];by_cases e2:zt (f x) (f y)<0
   ·rw[if_pos e2,if_pos e2];show _=(if zt (f x) (f q)<0 then x::q::l else q::kA f x l)++[y];rw[if_neg e1];rfl
   ·rw[if_neg e2,if_neg e2];rfl
theorem zak(l l2:List α)(x y:α):swp (l++y::x::l2).toArray (l.length+1) l.length=(l++x::y::l2).toArray:=by
 unfold swp;have e1:(l++y::x::l2).toArray[l.length]! =y:=by simp[List.getElem!_eq_getElem?_getD]
 have e2:(l++y::x::l2).toArray[l.length+1]! =x:=by
  have:(l++y::x::l2)[l.length+1]? =some x:=by rw[List.getElem?_append_right (by omega),show l.length+1-l.length=1 by omega];rfl
  simp[List.getElem!_eq_getElem?_getD,this]
 rw[e1,e2];simp[List.set_append]
theorem Yi{x:α}:∀(n:Nat) {l1:List α} (_:l1.length=n) (l2:List α) (_:Ya f l1),insInner (DZ f) 0 n (l1++x::l2).toArray=(kA f x l1++l2).toArray
 |0,l1,hn,l2,_=>by obtain rfl:l1=[]:=List.eq_nil_of_length_eq_zero hn;rfl
 |n+1,l1,hn,l2,h=>by
  obtain⟨l,y,rfl⟩:∃l y,l1=l++[y]:=⟨l1.dropLast,l1.getLast (by intro e;rw[e]at hn;simp at hn),(List.dropLast_concat_getLast _).symm⟩;have hl:l.length=n:=by simpa using hn
  have h1:Ya f l:=(List.pairwise_append.1 h).1;have e1:(l++[y]++x::l2).toArray[n]! =y:=by
   have:(l++[y]++x::l2)[n]? =some y:=by rw[List.append_assoc,List.getElem?_append_right (by omega),hl,Nat.sub_self];rfl
   simp only[List.getElem!_toArray,List.getElem!_eq_getElem?_getD,this,Option.getD_some]
  have e2:(l++[y]++x::l2).toArray[n+1]! =x:=by
   have:(l++[y]++x::l2)[n+1]? =some x:=by rw[List.append_assoc,List.getElem?_append_right (by omega),show n+1-l.length=1 by omega];rfl
   simp only[List.getElem!_toArray,List.getElem!_eq_getElem?_getD,this,Option.getD_some]
  rw[insInner,e1,e2,VD h];by_cases e:zt (f x) (f y)<0
  ·have e3:DZ f x y=true:=decide_eq_true e;rw[e3,if_pos (by simp),if_pos e];have hsw:=zak l l2 x y;rw[hl]at hsw;rw[show l++[y]++x::l2=l++y::x::l2 by simp,hsw,Yi n hl (y::l2) h1];simp
  ·have e3:DZ f x y=false:=decide_eq_false e;rw[e3,if_neg (by simp),if_neg e];simp
theorem VE{i:Nat}{l:List α}{x:α}(h:Ya f l)(hi:i<l.length):insInner (DZ f) 0 i (l++[x]).toArray=(l++[x]).toArray:=by
 cases i with
 |zero=>rfl
 |succ j=>
  have hj:j<l.length:=by omega
  have h1: ¬zt (f l[j+1]) (f l[j])<0:=List.pairwise_iff_getElem.1 h j (j+1) hj hi (by omega);have e1:(l++[x]).toArray[j+1]! =l[j+1]:=by
   have:(l++[x])[j+1]? =some l[j+1]:=by rw[List.getElem?_append_left hi,List.getElem?_eq_getElem hi]
   simp only[List.getElem!_toArray,List.getElem!_eq_getElem?_getD,this,Option.getD_some]
  have e2:(l++[x]).toArray[j]! =l[j]:=by
   have:(l++[x])[j]? =some l[j]:=by rw[List.getElem?_append_left hj,List.getElem?_eq_getElem hj]
   simp only[List.getElem!_toArray,List.getElem!_eq_getElem?_getD,this,Option.getD_some]
  rw[insInner,e1,e2,show DZ f l[j+1] l[j]=false from decide_eq_false h1,if_neg (by simp)]
theorem Yj{l:List α}{x:α}(h:Ya f l):∀(k i:Nat) (_:l.length-i=k) (_:i<=l.length),insOuter (DZ f) 0 (l.length+1) i (l++[x]).toArray=(kA f x l).toArray
 |0,i,hk,hi=>by
  have hi:i=l.length:=by omega
  subst hi;rw[insOuter,if_pos (by omega),insOuter,if_neg (by omega),Yi l.length rfl [] h,List.append_nil]
 |k+1,i,hk,hi=>by rw[insOuter,if_pos (by omega),VE h (by omega),Yj h k (i+1) (by omega) (by omega)]
theorem zal{l:List α}{x:α}(h:Ya f l)(hn:l.length<=11)(h1:1<=l.length)(lim:Nat):pdq (DZ f) (l++[x]).toArray 0 (l.length+1) lim true true=(kA f x l).toArray:=by rw[pdq,if_pos (by omega),insertionSort,Yj h (l.length-1) 1 rfl h1]
end
theorem dw(p:zh):∀l:List zh,Z4 p l=kA zh.key p l
 |[]=>rfl
 |q::l=>by show(if _ then _ else _)=(if _ then _ else _);rw[dw p l]
theorem Jr{α β:Type}(g:α->β)(f:α->Bytes)(f':β->Bytes)(x:α):∀(l:List α) (_:f' (g x)=f x) (_:∀a∈l,f' (g a)=f a),kA f' (g x) (l.map g)=(kA f x l).map g
 |[],_,_=>rfl
 |q::l,hx,hl=>by show(if zt (f' (g x)) (f' (g q))<0 then g x::g q::l.map g else g q::kA f' (g x) (l.map g))=_;rw[hx,hl q (by simp),Jr g f f' x l hx λa ha=>hl a (by simp[ha])];show _=(if zt (f x) (f q)<0 then x::q::l else q::kA f x l).map g;split<;>rfl
theorem ZS{α:Type}(f:α->Bytes)(x:α):∀l:List α,(kA f x l).Perm (x::l)
 |[]=>.refl _
 |q::l=>by
  show(if zt (f x) (f q)<0 then x::q::l else q::kA f x l).Perm _;split
  ·exact .refl _
  ·exact((ZS f x l).cons q).trans (.swap x q l)
end
section
open Go.RowKit Go.Sort
theorem jy{α β:Type}{R:α->β->Prop}:∀{L:List (α×β)},qz R (L.map (·.1)) (L.map (·.2))↔∀p∈L,R p.1 p.2
 |[]=>⟨λ_ _ hp=>(by cases hp),λ_=>.nil⟩
 |x::l=>by
  constructor
  ·intro h p hp;cases h with
   |cons a c=>
    rcases List.mem_cons.1 hp with rfl|hp
    ·exact a
    ·exact jy.1 c p hp
  ·intro h;exact .cons (h x (by simp)) (jy.2 λp hp=>h p (by simp[hp]))
variable{α β:Type}
theorem zam{R:α->β->Prop}{l:List α}{m:List β}(h:qz R l m):(l.zip m).map (·.1)=l/\(l.zip m).map (·.2)=m:=by
 induction h with
 |nil=>exact⟨rfl,rfl⟩
 |cons _ _ ih=>exact⟨by simp[ih.1],by simp[ih.2]⟩
def EX(S:Nat->Prop)(b:Nat)(rv:Value):Nat->Prop:=λj=>S j\/j=b\/rv.ownBlock=some j
structure xE(S:Nat->Prop)(w1 W:World)(b:Nat)(nm:Bytes)(ps:List zh)(nv rv:Value)(ids:List Nat):Prop where
 new:za w1 W
 ge:w1.heap.size<=b
 row:W.heap[b]? =some (.cells #[nv,rv] 226 (0,0))
 own:W.ownsRow w1.heap.size 72 1 rv ids.length (ids.map ptr)
 ne:rv.ownBlock≠some b
 name:Bs (im (EX S b rv) W) nm nv
 perms:qz (ju (im (EX S b rv) W)) ids ps
variable{W w1:World}{b:Nat}{nm:Bytes}
theorem xE.bne{ps:List zh}{rv:Value}{ids:List Nat}(h:xE S w1 W b nm ps nv rv ids):∀q,rv.ownBlock=some q->q≠b:=λq hq e=>h.ne (by rw[<-e];exact hq)
variable{W':World}
theorem xE.next{ps:List zh}{rv:Value}{ids:List Nat}(h:xE S w1 W b nm ps nv rv ids)(hn:za W W'):xE S w1 W' b nm ps nv rv ids:=
 ⟨h.new.trans hn,h.ge,hn.heap h.row,zS h.own (λb hb=>hn.block b (World.ownsRow.lt h.own b hb).2 (λe=>e)),h.ne,h.name.mono (hn.im _),h.perms.mono λ_ _ e=>e.mono (hn.im _)⟩
variable{wm:World}
theorem Z3.rolX{ps:List zh}{rv:Value}{ids:List Nat}(h:Z3 (λ_=>False) wm W b (nm,ps) nv rv ids)(hn:za w1 W)(pD:w1.heap.size<=b)(hb:b<wm.heap.size)(hS:∀j,S j->j<w1.heap.size):xE S w1 W b nm ps nv rv ids:=by
 have hl:ps.length=ids.length:=h.perms.length.symm;have hY:(im (RB wm.heap.size b rv ids λ_=>False) W).le (im (EX S b rv) W):=jn λj e=>by
  rcases e with e|e|e
  ·exact Or.inl (Or.inl (Or.inr (by have:=hS j e;omega)))
  ·exact Or.inl (Or.inl (Or.inl e))
  ·exact Or.inl (Or.inr e)
 refine⟨hn,pD,h.row,?_,λe=>h.bne hb _ e rfl,h.name.mono hY,h.perms.all λq hq p hp=> ?_⟩
 ·have:=qJ h.own w1.heap.size (by omega);rw[<-hl];exact this
 ·obtain⟨kv,ev,h1,h2,h3⟩:=hp;obtain⟨c0,c1,c2,_⟩:=Um h1;have hf:=h.fresh q hq;have NT: ¬EX S b rv q:=by
   rintro(e|e|e)
   ·have:=hS q e;omega
   ·omega
   ·exact hf.2 e
  exact⟨zi.2 ⟨NT,c0⟩,⟨kv,zi.2 ⟨NT,c1⟩,h2.mono hY⟩,ev,zi.2 ⟨NT,c2⟩,h3.mono hY⟩
theorem xE.role{ps:List zh}{rv:Value}{ids:List Nat}(h:xE S w1 W b nm ps nv rv ids)(hS:∀j,S j->j<w1.heap.size):jw (im S W) b ⟨nm,ps⟩:=by
 obtain⟨x0,x1,_⟩:=qS h.row;have hb: ¬S b:=λe=>by have:=hS b e;have:=h.ge;omega
 have hY:(im (EX S b rv) W).le (im S W):=jn λj e=>Or.inl e;exact⟨⟨nv,zi.2 ⟨hb,x0⟩,h.name.mono hY⟩,rv,ids,zi.2 ⟨hb,x1⟩,Sl.im_of (Sl.of_own h.own) λq e e2=>by have:=(World.ownsRow.lt h.own q e).1;have:=hS q e2;omega,h.perms.mono λ_ _ e=>e.mono hY⟩
variable{p:zh}{q:Nat}{v5:Value}{w5:World}
theorem xE.app{W2:World}{ps:List zh}{rv:Value}{ids:List Nat}(h:xE S w1 W b nm ps nv rv ids)(h2:za W W2)(hp:ju (im (EX S b rv) W2) q p)
  (ho:w5.ownsRow 0 72 1 v5 (ids.length+1) (ids.map ptr++[ptr q]))(hg:W2.grownBy w5 rv.ownBlock)(hf:∀j,v5.ownBlock=some j->rv.ownBlock=some j\/W2.heap.size<=j):
  w5.heap[b]? =some (.cells #[nv,rv] 226 (0,0))/\xE S w1 (w5.setCell ⟨b,1,none⟩ v5) b nm (ps++[p]) nv v5 (ids++[q]):=by
 have h3:=h.next h2;have hm:=zq.of_grown hg;have Ro:b<W2.heap.size:=(Array.getElem?_eq_some_iff.1 h3.row).1;have hZ:w5.heap[b]? =some (.cells #[nv,rv] 226 (0,0)):=by rw[hm.block b Ro (λe=>h.bne b e rfl)];exact h3.row
 have pz:za w1 w5:=za.of_grown h3.new hg λk e=>(World.ownsRow.lt h3.own k e).1;have SU:∀j,v5.ownBlock=some j->w1.heap.size<=j:=λj hj=>by
  rcases hf j hj with e|e
  ·exact(World.ownsRow.lt h.own j e).1
  ·have:=h3.new.size;omega
 have Ho:v5.ownBlock≠some b:=λe=>by
  rcases hf b e with e2|e2
  ·exact h.ne e2
  ·omega
 have S9:(im (EX S b rv) W2).le (im (EX S b v5) w5):=λa y ha=>by
  have h6:=zi.1 ha;have h7:=zi.1 (((hm.mono (S':=EX S b rv) λ_ _ e=>Or.inr (Or.inr e)).im λ_ _ e=>e) _ _ ha);refine zi.2 ⟨?_,h7.2⟩;rintro(e|e|e)
  ·exact h6.1 (Or.inl e)
  ·exact h6.1 (Or.inr (Or.inl e))
  ·rcases hf _ e with e2|e2
   ·exact h6.1 (Or.inr (Or.inr e2))
   ·have:=World.block_lt_of_cell? _ a h6.2;omega
 have hs:=kP (EX S b v5) w5 ⟨b,1,none⟩ (Or.inr (Or.inl rfl)) v5;have hY:=S9.le_trans hs;refine⟨hZ,zq.setCell pz (p:=⟨b,1,none⟩) (λHb=>absurd Hb (by have:=h.ge;show ¬b<_;omega)) _,h.ge,heap_setCell_same w5 b 1 _ _ _ hZ,?_,Ho,h3.name.mono hY,(h3.perms.mono λ_ _ e=>e.mono hY).append (.cons (hp.mono hY) .nil)⟩;have:=j6 (b:=b) (i:=1) (u:=v5) (vB (base:=w1.heap.size) ho SU) (λj hj e=>Ho (by rw[<-e];exact hj));simpa using this
section
variable{α:Type}[Inhabited α](enc:α->Value)
theorem fo{w:World}{g n:Nat}{os:Array Obj}(d:Array α):w.grownBy (grow (putRow enc (Sort.ahead w n) g 0 d) os) (some g):=by refine⟨rfl,rfl,rfl,by simp,λk hk Ho=> ?_⟩;rw[heap_grow_old _ _ (by simpa using hk)];have:g≠k:=λe=>Ho (by rw[e]);simp[putRow,mapBlock,Sort.ahead,Array.getElem?_modify,this]
theorem dA{w:World}{g n:Nat}{os:Array Obj}(d:Array α):zq (λj=>some g=some j) w (grow (putRow enc (Sort.ahead w n) g 0 d) os):=zq.of_grown (fo enc d)
theorem zbD{w:World}{base:Nat}{e:TypeId}{g n cap q:Nat}{os:Array Obj}{zs ys:List α}(h:w.ownsRow base e 1 (.slice (some ⟨g,0,none⟩) n cap) n (zs.map enc))(hy:ys.length=n):
  (grow (putRow enc (Sort.ahead w q) g 0 ys.toArray) os).ownsRow base e 1 (.slice (some ⟨g,0,none⟩) n cap) n (ys.map enc):=by
 have h1:=Go.Lib.ownsRow_putRow (q:=q) h hy (Nat.le_refl n);rw[List.take_of_length_le (by omega)]at h1;refine zS h1 λb hb=>heap_grow_old _ _ ?_;have:=(World.ownsRow.lt h1 b hb).2;exact this
theorem xE.sorted{S:Nat->Prop}{w1 W:World}{b g cap n:Nat}{nm:Bytes}{nv:Value}{L L':List (Nat×zh)}{os:Array Obj}{zs ys:List α}(h:xE S w1 W b nm (L.map (·.2)) nv (.slice (some ⟨g,0,none⟩) L.length cap) (L.map (·.1)))(hL:L'.Perm L)
  (hz:zs.map enc=L.map λp=>ptr p.1)(hy:ys.map enc=L'.map λp=>ptr p.1):
  xE S w1 (grow (putRow enc (Sort.ahead W n) g 0 ys.toArray) os) b nm (L'.map (·.2)) nv (.slice (some ⟨g,0,none⟩) L.length cap) (L'.map (·.1)):=by
 have hm:=dA (w:=W) (g:=g) (n:=n) (os:=os) enc ys.toArray;have hg:=World.ownsRow.lt h.own g rfl;have hY:(im (EX S b (.slice (some ⟨g,0,none⟩) L.length cap)) W).le (im (EX S b (.slice (some ⟨g,0,none⟩) L.length cap)) (grow (putRow enc (Sort.ahead W n) g 0 ys.toArray) os)):=(hm.mono (S':=EX S b (.slice (some ⟨g,0,none⟩) L.length cap)) λ_ _ e=>Or.inr (Or.inr e)).im λ_ _ e=>e;have NQ:b≠g:=λe=>h.ne (by rw[e];rfl);have N2:ys.length=L.length:=by have:=congrArg List.length hy;rw[List.length_map,List.length_map,hL.length_eq]at this;exact this
 refine⟨zq.trans h.new hm λj hj e=> ?_,h.ge,?_,?_,h.ne,h.name.mono hY,?_⟩
 ·cases e;omega
 ·rw[hm.block b (Array.getElem?_eq_some_iff.1 h.row).1 (λe=>by cases e;exact NQ rfl)];exact h.row
 ·have h1:=h.own;rw[List.length_map,show(L.map (·.1)).map ptr=L.map λp=>ptr p.1 by rw[List.map_map];rfl,<-hz]at h1;have h2:=zbD enc (q:=n) (os:=os) h1 N2;rw[hy]at h2;rw[List.length_map,hL.length_eq,List.map_map];exact h2
 ·exact jy.2 λp hp=>(jy.1 h.perms p (hL.mem_iff.1 hp)).mono hY
end
end
section
open Go.RowKit Go.Sort Go.Shelf Go.Lib
variable{W:World}{c n:Nat}
theorem zan{p:Option Addr}:Calls prog 257 #[.slice p n c] W λe w'=>e=.returned (.int .i64 n)/\∃q,w'=W.drewN q:=by go_enter func257,ntmps257;go_wp2;go_returns;exact⟨rfl,0,rfl⟩
variable{j:Nat}
theorem zbE{g o i qi qj:Nat}{a b:Bytes}{ka kb:Value}(hi:i<n)(hj:j<n)(ci:W.cell? ⟨g,o+i,none⟩=some (ptr qi))(cj:W.cell? ⟨g,o+j,none⟩=some (ptr qj))(ki:W.cell? ⟨qi,1,none⟩=some ka)(kj:W.cell? ⟨qj,1,none⟩=some kb)(ba:Bs W.cell? a ka)(bb:Bs W.cell? b kb):
  Calls prog 258 #[.slice (some ⟨g,o,none⟩) n c,.int .i64 i,.int .i64 j] W λe w'=>e=.returned (.bool (decide (zt a b<0)))/\∃q,w'=W.drewN q:=by
 obtain⟨p1,n1,c1,rfl,_⟩:=ba.shape;obtain⟨p2,n2,c2,rfl,_⟩:=bb.shape;have B1:=hid ba;have B2:=hid bb;clear ba bb;have Pn:(i:Int)<n:=by omega
 have IR:(j:Int)<n:=by omega
 go_enter func258,ntmps258;go_wp2;go_quiet ((go_at_call 104;exact zw (q_ (by exact B1.out) (by exact B2.out))));go_wp2;go_returns;exact⟨rfl,nq,rfl⟩
theorem zbF{g o i qi qj:Nat}(hi:i<n)(hj:j<n)(ci:W.cell? ⟨g,o+i,none⟩=some (ptr qi))(cj:W.cell? ⟨g,o+j,none⟩=some (ptr qj))(fi:W.frozen? ⟨g,o+i,none⟩=false)(fj:W.frozen? ⟨g,o+j,none⟩=false):
  Calls prog 259 #[.slice (some ⟨g,o,none⟩) n c,.int .i64 i,.int .i64 j] W λe w'=>e=.returned (.tuple #[])/\∃q,w'=((W.setCell ⟨g,o+i,none⟩ (ptr qj)).setCell ⟨g,o+j,none⟩ (ptr qi)).drewN q:=by
 have Pn:(i:Int)<n:=by omega
 have IR:(j:Int)<n:=by omega
 obtain⟨v',hy'⟩:=cell?_setCell_some (w:=W) (p:=⟨g,o+i,none⟩) (x:=ptr qj) (q:=⟨g,o+j,none⟩) cj;go_enter func259,ntmps259;go_wp2;go_region
 all_goals(try go_wp2)
 all_goals go_end0
 all_goals exact⟨rfl,1,rfl⟩
theorem QF(p:Option Addr)(n c:Nat):Reaches prog 391 (.slice p n c) "Len" 257:=⟨λ_=>by kernel_rfl,enters_of func257 (by kernel_rfl) rfl⟩
theorem Ke(p:Option Addr)(n c:Nat):Reaches prog 391 (.slice p n c) "Less" 258:=⟨λ_=>by kernel_rfl,enters_of func258 (by kernel_rfl) rfl⟩
theorem Kf(p:Option Addr)(n c:Nat):Reaches prog 391 (.slice p n c) "Swap" 259:=⟨λ_=>by kernel_rfl,enters_of func259 (by kernel_rfl) rfl⟩
variable{α:Type}
theorem zbG[Inhabited α](f:α->Bytes):SWO (DZ f)where
 irrefl a:=decide_eq_false (zI _)
 trans a b c h1 h2:=decide_eq_true (qL (of_decide_eq_true h1) (of_decide_eq_true h2))
 ntrans a b c h1 h2:=decide_eq_false λh3=>by
  have h1: ¬zt (f a) (f b)<0:=of_decide_eq_false h1;have h2: ¬zt (f b) (f c)<0:=of_decide_eq_false h2;rcases qI (f a) (f b)with e|e|e
  ·exact h1 e
  ·rw[e]at h3;exact h2 h3
  ·exact h2 (qL e h3)
variable{b:Nat}{p:zh}{r:Rd}
theorem fq(h:ju r b p)(hr:r.le W.cell?):∃kv,W.cell? ⟨b,1,none⟩=some kv/\Bs W.cell? p.key kv:=by obtain⟨_,⟨v,h1,h2⟩,_⟩:=h;exact⟨v,hr _ _ h1,h2.mono hr⟩
variable{nm:Bytes}{w1:World}
theorem UW{g cap:Nat}{L0:List (Nat×zh)}{x:Nat×zh}(h:xE S w1 W b nm ((L0++[x]).map (·.2)) nv (.slice (some ⟨g,0,none⟩) (L0.length+1) cap) ((L0++[x]).map (·.1)))(hw:Ya zh.key (L0.map (·.2)))(hn:L0.length<=11):
  Calls prog 90 #[.iface 391 (.slice (some ⟨g,0,none⟩) (L0.length+1) cap)] W λe w'=>e=.returned (.tuple #[])/\zq (λj=>some g=some j) W w'/\∃ids',xE S w1 w' b nm (Z4 x.2 (L0.map (·.2))) nv (.slice (some ⟨g,0,none⟩) (L0.length+1) cap) ids':=by
 by_cases h0:L0=[]
 ·subst h0;refine(Any.sort_Sort_tiny laysGt11 391 _ 257 (QF _ _ _) 1 (Nat.le_refl _) W zan).mono ?_;rintro e w' ⟨rfl,q,rfl⟩;exact⟨rfl,za.mod ((za.refl W).drewN q) _,_,h.next ((za.refl W).drewN q)⟩
 ·have rG:1<=L0.length:=by
   cases L0 with
   |nil=>exact absurd rfl h0
   |cons _ _=>simp
  let α:={p:Nat×zh//p∈L0++[x]}
  letI:Inhabited α:=⟨⟨x,by simp⟩⟩
  let enc:α->Value:=λp=>ptr p.1.1
  let key:α->Bytes:=λp=>p.1.2.key
  let xs:α:=⟨x,by simp⟩
  obtain⟨zs,wH⟩:∃zs:List α,zs.map (·.1)=L0:=⟨L0.attach.map λp=>⟨p.1,by simp[p.2]⟩,by rw[List.map_map];exact List.attach_map_subtype_val L0⟩;have AM:zs.length=L0.length:=by rw[<-wH,List.length_map]
  have hze:(zs++[xs]).map enc=(L0++[x]).map λp=>ptr p.1:=by rw[List.map_append,List.map_append,<-wH,List.map_map];rfl
  have LL:Ya key zs:=by have h1:=hw;rw[<-wH,List.map_map]at h1;exact List.pairwise_map.1 h1
  have EN:(zs++[xs]).toArray.size=L0.length+1:=by simp[AM]
  have p_:=h.own;have h_:((L0++[x]).map (·.1)).length=L0.length+1:=by simp
  rw[h_,show((L0++[x]).map (·.1)).map ptr=(L0++[x]).map λp=>ptr p.1 by rw[List.map_map];rfl,<-hze]at p_;have hH:Holds enc W g 0 (zs++[xs]).toArray:=by obtain⟨g',cap',e0,_,_,_,_,_,hH⟩:=Go.Lib.holds_of_ownsRow p_ (λe=>by cases e);cases e0;exact hH
  have hgl:g<W.heap.size:=(World.ownsRow.lt h.own g rfl).2;have pD:w1.heap.size<=g:=(World.ownsRow.lt h.own g rfl).1;have MV:LessM prog 258 (.slice (some ⟨g,0,none⟩) (L0.length+1) cap) enc (DZ key) g 0 (zs++[xs]).toArray.size W:=by intro m os dk Si i j hi hj;have hm:=dA (w:=W) (g:=g) (n:=m) (os:=os) enc dk;have hY:(im (EX S b (.slice (some ⟨g,0,none⟩) (L0.length+1) cap)) W).le (sortWorld enc W g 0 m dk os).cell? :=((hm.mono (S':=EX S b (.slice (some ⟨g,0,none⟩) (L0.length+1) cap)) λ_ _ e=>Or.inr (Or.inr e)).im λ_ _ e=>e).le_trans (zd _ _);have hHd:=holds_sortWorld enc W g 0 m (zs++[xs]).toArray dk os hgl hH Si;obtain⟨ka,k1,k2⟩:=fq (jy.1 h.perms dk[i]!.1 dk[i]!.2) hY;obtain⟨kb,k3,k4⟩:=fq (jy.1 h.perms dk[j]!.1 dk[j]!.2) hY;exact zbE (by omega) (by omega) (hHd i (by omega)).1 (hHd j (by omega)).1 k1 k3 k2 k4
  have MW:SwapM prog 259 (.slice (some ⟨g,0,none⟩) (L0.length+1) cap) enc g 0 (zs++[xs]).toArray.size:=λW' dk hH' Si i j hi hj=>
   zbF (by omega) (by omega) (hH' i (by omega)).1 (hH' j (by omega)).1 (hH' i (by omega)).2 (hH' j (by omega)).2
  have Eh:LenM prog 257 (.slice (some ⟨g,0,none⟩) (L0.length+1) cap) (zs++[xs]).toArray.size W:=by rw[EN];exact zan
  refine(sort_Sort_eq 391 _ 257 258 259 (QF _ _ _) (Ke _ _ _) (Kf _ _ _) enc (DZ key) (zbG key) g 0 (zs++[xs]).toArray (by omega) (by omega) W Eh MV MW hH hgl).mono ?_;rintro e w' ⟨rfl,n,os,rfl⟩;refine⟨rfl,dA enc _,?_⟩;rw[EN,<-AM,zal LL (by omega) (by omega),AM];have RZ:kA (λp:Nat×zh=>p.2.key) x L0=(kA key xs zs).map (·.1):=by have:=Jr (g:=λp:α=>p.1) (f:=key) (f':=λp:Nat×zh=>p.2.key) xs zs rfl λ_ _=>rfl;rw[wH]at this;exact this
  have sw:Z4 x.2 (L0.map (·.2))=(kA (λp:Nat×zh=>p.2.key) x L0).map (·.2):=by rw[dw];exact Jr (g:=λp:Nat×zh=>p.2) (f:=λp:Nat×zh=>p.2.key) (f':=zh.key) x L0 rfl λ_ _=>rfl
  have Ei:(kA (λp:Nat×zh=>p.2.key) x L0).Perm (L0++[x]):=(ZS _ _ _).trans (List.perm_append_singleton x L0).symm;have hll:(L0++[x]).length=L0.length+1:=by simp
  rw[<-hll]at h⊢;rw[sw];exact⟨_,xE.sorted enc h Ei hze (by rw[RZ,List.map_map];rfl)⟩
end
section
open Go.RowKit Go.Sort
variable{k:Nat}
theorem UX{xs:List Bytes}{x:Bytes}(h:zbk xs.length (λi=> !decide (zt (xs.getD i []) x<0)) k):k=zk xs x:=by
 obtain⟨rh,se,M_⟩:=h;by_cases h1:k<zk xs x
 ·have rH:k<xs.length:=Nat.lt_of_lt_of_le h1 (jo xs x);have h2:=M_ k (Nat.le_refl _) rH;have h3:=vw rH h1;simp[List.getD_eq_getElem?_getD,List.getElem?_eq_getElem rH,h3]at h2
 ·by_cases h4:zk xs x<k
  ·have h5:=se _ h4;have sk:zk xs x<xs.length:=by omega
   have h6:=jU sk;simp[List.getD_eq_getElem?_getD,List.getElem?_eq_getElem sk,h6]at h5
  ·omega
variable{W:World}{b:Nat}
theorem zdD{w:World}{rv:Value}(h:(im S w).le (im S W))(hb:w.heap.size<=b)(hr:∀q,rv.ownBlock=some q->w.heap.size<=q):(im S w).le (im (EX S b rv) W):=λa v ha=>by
 have h1:=zi.1 ha;have h2:=zi.1 (h _ _ ha);have h3:=World.block_lt_of_cell? _ a h1.2;refine zi.2 ⟨?_,h2.2⟩;rintro(e|e|e)
 ·exact h2.1 e
 ·omega
 ·have:=hr _ e;omega
theorem Gy{α β:Type}{R:α->β->Prop}:∀{l:List α} {m:List β} (_:l.length=m.length) (_:∀i (h1:i<l.length) (h2:i<m.length),R l[i] m[i]),qz R l m
 |[],[],_,_=>.nil
 |[],_::_,h,_=>by cases h
 |_::_,[],h,_=>by cases h
 |_::l,_::m,h,hr=>.cons (hr 0 (Nat.zero_lt_succ _) (Nat.zero_lt_succ _)) (Gy (by simpa using h) λi h1 h2=>hr (i+1) (Nat.succ_lt_succ h1) (Nat.succ_lt_succ h2))
variable{nm:Bytes}{p:zh}{q:Nat}{w1:World}
theorem Z3.setKind{w:World}{ps:List zh}{rv:Value}{ids:List Nat}{kind:Nat}(h:Z3 (λ_=>False) w w1 b (nm,ps) nv rv ids)(hb:b<w.heap.size)(hi:ids[k]? =some q)(hp:ps[k]? =some p):
  Z3 (λ_=>False) w (w1.setCell ⟨q,0,none⟩ (.int .i32 kind)) b (nm,ps.set k {p with kind:=kind}) nv rv ids:=by
 have hq:q∈ids:=List.mem_of_getElem? hi;have hf:=h.fresh q hq;have hs:=kP (RB w.heap.size b rv ids λ_=>False) w1 ⟨q,0,none⟩ (Or.inr (Or.inl hq)) (.int .i32 kind);refine⟨h.mod.setCell (λHb=>absurd Hb (by show ¬q<_;omega)) _,?_,?_,h.name.mono hs,?_,h.nodup,h.fresh⟩
 ·rw[Below.heap_setCell _ _ _ _ (show b≠q by omega)];exact h.row
 ·have:=j6 (b:=q) (i:=0) (u:=.int .i32 kind) h.own λr hr e=>hf.2 (by rw[<-e];exact hr);show World.ownsRow _ _ _ _ _ (ps.set k _).length _;rw[List.length_set];exact this
 ·have hl:=h.perms.length;have L4:=h.perms.get;show qz _ ids (ps.set k {p with kind:=kind});obtain⟨Lw,n0⟩:=List.getElem?_eq_some_iff.1 hi;obtain⟨BH,Sq⟩:=List.getElem?_eq_some_iff.1 hp;refine Gy (by rw[List.length_set];exact hl) λi h1 h2=> ?_;rw[List.length_set]at h2;have h3:=L4 i h1 h2;rw[List.getElem_set];split
  ·rename_i e;subst e;rw[n0]at h3⊢;have h3:vi _ _ q ps[k]:=h3;rw[Sq]at h3;obtain⟨kv,ev,r1,r2,r3⟩:=h3;exact⟨kv,ev,by rw[heap_setCell_same _ q 0 _ _ _ r1];rfl,r2.mono hs,r3.mono hs⟩
  ·rename_i e;refine vi.step h3 hs (Below.heap_setCell _ _ _ _ ?_);show ids[i]≠q;intro e2;exact e (DF h.nodup h1 Lw (by rw[e2,n0])).symm
variable{c n:Nat}
theorem Xi{cr cq rb pb gb go i:Nat}{x y:Bytes}{kx ky:Value}(hi:i<n)(c0:W.cell? ⟨cr,0,none⟩=some (ptr b))(c1:W.cell? ⟨b,1,none⟩=some (.slice (some ⟨gb,go,none⟩) n c))(c2:W.cell? ⟨gb,go+i,none⟩=some (ptr q))(c3:W.cell? ⟨q,1,none⟩=some kx)(c4:W.cell? ⟨cq,0,none⟩=some (ptr rb))(c5:W.cell? ⟨rb,1,none⟩=some (ptr pb))(c6:W.cell? ⟨pb,1,none⟩=some ky)(hx:Bs W.cell? x kx)(hy:Bs W.cell? y ky):
  Calls prog 183 #[.int .i64 i,ptr cr,ptr cq] W λe w'=>e=.returned (.bool (!decide (zt x y<0)))/\za W w':=by
 obtain⟨p1,n1,c1',rfl,_⟩:=hx.shape;obtain⟨p2,n2,c2',rfl,_⟩:=hy.shape;have B1:=hid hx;have B2:=hid hy;have B0:(i:Int)<n:=by omega
 have pD:∀z:Int,decide (z>=0)= !decide (z<0):=λz=>by
  by_cases h:z<0
  ·rw[decide_eq_true h,decide_eq_false (by omega)];rfl
  ·rw[decide_eq_false h,decide_eq_true (by omega)];rfl
 have HG:=hid (pD (zt x y));have Nj:=c2;clear hx hy pD;go_enter func183,ntmps183;go_wp2;go_quiet ((go_at_call 104;exact zw (q_ (by exact B1.out) (by exact B2.out))));go_wp2;go_returns;exact⟨by first|exact congrArg (λb=>Ending.returned (.bool b)) HG.out|rfl|simp,(za.refl W).drewN nq⟩
variable{v:Value}
theorem YA{w:World}{p:Addr}(h:w'.heap[p.block]? =w.heap[p.block]?):(w'.setCell p v).heap[p.block]? =(w.setCell p v).heap[p.block]? :=by simp[World.setCell,Array.getElem?_modify,h]
variable{wm:World}
theorem Z3.setLow{X:Nat->Prop}{cr:Nat}{u:Bytes×List zh}{rv:Value}{ids:List Nat}(h:Z3 X wm W b u nv rv ids)(hc:cr<wm.heap.size)(Lu:cr≠b):Z3 X (wm.setCell ⟨cr,0,none⟩ v) (W.setCell ⟨cr,0,none⟩ v) b u nv rv ids:=by
 have pL:(wm.setCell ⟨cr,0,none⟩ v).heap.size=wm.heap.size:=by simp[World.setCell]
 have hsW:(W.setCell ⟨cr,0,none⟩ v).heap.size=W.heap.size:=by simp[World.setCell]
 have hs:(im (RB wm.heap.size b rv ids X) W).le (im (RB wm.heap.size b rv ids X) (W.setCell ⟨cr,0,none⟩ v)):=kP _ W ⟨cr,0,none⟩ (Or.inl (Or.inl (Or.inr hc))) v;refine⟨⟨h.mod.os,h.mod.tape,h.mod.output,by rw[pL,hsW];exact h.mod.size,λk hk hn=> ?_⟩,?_,?_,?_,?_,h.nodup,?_⟩
 ·rw[pL]at hk;by_cases e:k=cr
  ·subst e;exact YA (p:=⟨k,0,none⟩) (h.mod.block k hk hn)
  ·rw[Below.heap_setCell _ _ _ _ (show k≠cr from e),Below.heap_setCell _ _ _ _ (show k≠cr from e)];exact h.mod.block k hk hn
 ·rw[Below.heap_setCell _ _ _ _ (show b≠cr from λe=>Lu e.symm)];exact h.row
 ·rw[pL];exact j6 (b:=cr) (i:=0) (u:=v) h.own λq hq e=>by have:=(World.ownsRow.lt h.own q hq).1;omega
 ·rw[pL];exact h.name.mono hs
 ·rw[pL];exact h.perms.all λq hq p hp=>hp.step hs (Below.heap_setCell _ _ _ _ (show q≠cr by have:=(h.fresh q hq).1;omega))
 ·rw[pL];exact h.fresh
def zao(w1:World)(c:Value)(wx:World)(u:zm):Prop:=
 ∃cr b wm nv rv ids,c=ptr cr/\wx.heap[cr]? =some (.cells #[ptr b] 223 (0,0))/\za w1 wx/\w1.heap.size<=cr/\w1.heap.size<=b/\b<wm.heap.size/\Z3 (λ_=>False) wm wx b (u.name,u.perms) nv rv ids/\cr≠b/\cr∉ids/\rv.ownBlock≠some cr
variable{W' w2:World}
theorem zdE{u:zm}{rv:Value}{ids:List Nat}(hw:za w1 W')(Hj:za W' w2)(pD:W'.heap.size<=b)(rO:b<wm.heap.size)(rF:Z3 (λ_=>False) wm w2 b (u.name,u.perms) nv rv ids):
  zao w1 (ptr w2.heap.size) (w2.alloc (.cells #[ptr b] 223)) u:=by
 have Hg:za w2 (w2.alloc (.cells #[ptr b] 223)):=(za.refl w2).alloc _;have h1:=hw.size;have h2:=Hj.size;have Ro:b<w2.heap.size:=(Array.getElem?_eq_some_iff.1 rF.row).1;refine⟨_,b,wm,nv,rv,ids,rfl,zg w2 _,(hw.trans Hj).trans Hg,by omega,by omega,rO,rF.new Hg,by omega,λe=> ?_,λe=> ?_⟩
 ·have:=rF.lt rO _ (Or.inr (Or.inl e));omega
 ·have:=(World.ownsRow.lt rF.own _ e).2;omega
theorem zdF{u:zm}{cr:Nat}{rv:Value}{ids:List Nat}(hw:za w1 W')(mM:W'.heap[cr]? =some (.cells #[.pointer none] 223 (0,0)))(r8:w1.heap.size<=cr)(Hj:za W' w2)(pD:W'.heap.size<=b)(rO:b<wm.heap.size)(rF:Z3 (λ_=>False) wm w2 b (u.name,u.perms) nv rv ids):
  zao w1 (ptr cr) (w2.setCell ⟨cr,0,none⟩ (ptr b)) u:=by
 have rD:cr<W'.heap.size:=(Array.getElem?_eq_some_iff.1 mM).1;have h1:=hw.size;refine⟨cr,b,wm.setCell ⟨cr,0,none⟩ (ptr b),nv,rv,ids,rfl,heap_setCell_same w2 cr 0 _ _ _ (Hj.heap mM),zq.setCell (hw.trans Hj) (p:=⟨cr,0,none⟩) (λHb=>absurd Hb (by show ¬cr<_;omega)) _,r8,by omega,by simp only[World.setCell,Array.size_modify];exact rO,rF.setLow (by omega) (by omega),by omega,λe=> ?_,λe=> ?_⟩
 ·have:=(rF.fresh _ e).1;omega
 ·have:=(World.ownsRow.lt rF.own _ e).1;omega
def zap(w1:World)(c:Value)(wx:World):Prop:=∃cr,c=ptr cr/\wx.cell? ⟨cr,0,none⟩=some (.pointer none)/\za w1 wx
theorem zdG(hw:za w1 W')(Hj:za W' w2):zap w1 (ptr w2.heap.size) (w2.alloc (.cells #[.pointer none] 223)):=by refine⟨_,rfl,?_,(hw.trans Hj).trans ((za.refl w2).alloc _)⟩;rw[cell_of_row _ _ 0 _ _ (0,0) (zg w2 _)];rfl
theorem zdH{cr:Nat}(hw:za w1 W')(mM:W'.heap[cr]? =some (.cells #[.pointer none] 223 (0,0)))(r8:w1.heap.size<=cr)(Hj:za W' w2):zap w1 (ptr cr) (w2.setCell ⟨cr,0,none⟩ (.pointer none)):=by refine⟨_,rfl,?_,zq.setCell (hw.trans Hj) (p:=⟨cr,0,none⟩) (λHb=>absurd Hb (by show ¬cr<_;omega)) _⟩;have h:(w2.setCell ⟨cr,0,none⟩ (.pointer none)).heap[cr]? =some (.cells #[.pointer none] 223 (0,0)):=heap_setCell_same w2 cr 0 _ _ _ (Hj.heap mM);rw[cell_of_row _ _ 0 _ _ (0,0) h];rfl
end
section
open Go.RowKit Go.Sort
variable{k:Nat}{p:zh}
theorem zaq{l:List zh}{q:zh}(hk:ZL l p=k)(hq:l[k]? =some q)(h1:q.key=p.key)(h2:q.stop=p.stop):y_ l p=l.set k {q with kind:=p.kind}:=by unfold y_;rw[hk,hq];exact if_pos ⟨h1,h2⟩
theorem DG{l:List zh}(hk:ZL l p=k)(h:∀q,l[k]? =some q->¬(q.key=p.key/\q.stop=p.stop)):y_ l p=Z4 p l:=by
 unfold y_;rw[hk];cases e:l[k]? with
 |none=>rfl
 |some q=>exact if_neg (h q e)
def Js(l:List zh)(p:zh)(k:Nat):Bool:=match l[k]? with|some q=>decide (q.key=p.key) && decide (q.stop=p.stop)|none=>false
theorem XY{l:List zh}(hk:k<l.length):Js l p k=(decide (l[k].key=p.key) && decide (l[k].stop=p.stop)):=by unfold Js;rw[List.getElem?_eq_getElem hk]
theorem XZ{l:List zh}(hk: ¬k<l.length):Js l p k=false:=by unfold Js;rw[List.getElem?_eq_none (by omega)]
theorem zbH{l:List zh}(hk:ZL l p=k)(h:Js l p k=true):∃h:k<l.length,l[k].key=p.key/\y_ l p=l.set k {l[k]with kind:=p.kind}:=by
 by_cases Hb:k<l.length
 ·rw[XY Hb,Bool.and_eq_true]at h;exact⟨Hb,of_decide_eq_true h.1,zaq hk (List.getElem?_eq_getElem Hb) (of_decide_eq_true h.1) (of_decide_eq_true h.2)⟩
 ·rw[XZ Hb]at h;cases h
theorem zar{l:List zh}(hk:ZL l p=k)(h:Js l p k=false):y_ l p=Z4 p l:=by refine DG hk λq hq e=> ?_;unfold Js at h;rw[hq]at h;simp[e.1,e.2]at h
theorem DH{ps:List zh}(h:Ya zh.key ps)(x:Bytes)(a b:Nat)(th:a<=b)(hb:b<ps.length)(hp:(!decide (zt ((ps.map (·.key)).getD a []) x<0))=true):(!decide (zt ((ps.map (·.key)).getD b []) x<0))=true:=by
 have ha:a<ps.length:=by omega
 simp only[Bool.not_eq_true',decide_eq_false_iff_not,List.getD_eq_getElem?_getD,List.getElem?_map,List.getElem?_eq_getElem ha,List.getElem?_eq_getElem hb,Option.map_some,Option.getD_some]at hp⊢;by_cases e:a=b
 ·subst e;exact hp
 ·have h1: ¬zt ps[b].key ps[a].key<0:=List.pairwise_iff_getElem.1 h a b ha hb (by omega);intro h2;rcases qI ps[a].key ps[b].key with c|c|c
  ·exact hp (qL c h2)
  ·rw[c]at hp;exact hp h2
  ·exact h1 c
variable{n:Nat}
theorem DI{ps:List zh}(hn:ps.length=n)(h:zbk n (λi=> !decide (zt ((ps.map (·.key)).getD i []) p.key<0)) k):ZL ps p=k:=by
 have h':zbk (ps.map (·.key)).length (λi=> !decide (zt ((ps.map (·.key)).getD i []) p.key<0)) k:=by rw[List.length_map,hn];exact h
 exact(UX h').symm
theorem ft(args:Array Value)(w:World):(callFunc 183 args).run prog w=.ok (.enter 183 args) w:=by kernel_rfl
variable{W w1:World}{b q:Nat}{nm:Bytes}
theorem UY{n7 c7:Nat}{p7:Option Addr}{ps:List zh}{ids:List Nat}(h:xE S w1 W b nm (ps++[p]) nv (.slice p7 n7 c7) (ids++[q]))(hl:ids.length=ps.length)(hw:Ya zh.key ps)(hn:ps.length<=11):
  Calls prog 90 #[.iface 391 (.slice p7 n7 c7)] W λe w'=>e=.returned (.tuple #[])/\zq (λj=>(Value.slice p7 n7 c7).ownBlock=some j) W w'/\∃ids',xE S w1 w' b nm (Z4 p ps) nv (.slice p7 n7 c7) ids':=by
 have e1:(ids.zip ps).map (·.1)=ids:=List.map_fst_zip (by omega);have e2:(ids.zip ps).map (·.2)=ps:=List.map_snd_zip (by omega);have e3:(ids.zip ps).length=ps.length:=by rw[List.length_zip];omega
 have Lj:(ids++[q]).length=ps.length+1:=by rw[List.length_append,List.length_singleton,hl]
 have ho:=h.own;have Ho:(Value.slice p7 n7 c7)≠.slice none 0 0:=λe=>by have h1:=(Sl.of_own ho).row.1;cases e;rw[List.length_map,Lj]at h1;omega
 have N8:W.ownsRow w1.heap.size 72 1 (.slice p7 n7 c7) (ids++[q]).length ((ids++[q]).map ptr):=ho;obtain⟨g,cap,e0,h1,h2,h3,h4,h5,hH⟩:=Go.Lib.holds_of_ownsRow N8 Ho;rw[Lj]at e0;cases e0;have h9:xE S w1 W b nm ((ids.zip ps++[(q,p)]).map (·.2)) nv (.slice (some ⟨g,0,none⟩) ((ids.zip ps).length+1) c7) ((ids.zip ps++[(q,p)]).map (·.1)):=by rw[List.map_append,List.map_append,e1,e2,e3];exact h
 have:=UW h9 (by rw[e2];exact hw) (by omega);rw[e2,e3]at this;exact this
end
structure QG(w0 w:World)(ub:Nat)(nv:Value)(bs:List Nat):Prop where
 new:za w0 w
 ge:w0.heap.size<=ub
 ex:∃rv n,w.heap[ub]? =some (.cells #[nv,rv] 226 (0,0))/\w.ownsRow 0 72 1 rv n (bs.map ptr)/\∀b,rv.ownBlock=some b->w0.heap.size<=b/\b≠ub
variable{x:Nat}
theorem QG.app{w0 w:World}{rv v':Value}{m:Nat}{bs:List Nat}(h:za w0 w)(pD:w0.heap.size<=ub)(hZ:w.heap[ub]? =some (.cells #[nv,rv] 226 (0,0)))(hf:∀b,rv.ownBlock=some b->w0.heap.size<=b/\b≠ub)
  (ho:w'.ownsRow 0 72 1 v' m (bs.map ptr++[ptr x]))(hg:w.grownBy w' rv.ownBlock)(PU:∀b,v'.ownBlock=some b->rv.ownBlock=some b\/w.heap.size<=b):
  w'.heap[ub]? =some (.cells #[nv,rv] 226 (0,0))/\QG w0 (w'.setCell ⟨ub,1,none⟩ v') ub nv (bs++[x]):=by
 have LF:ub<w.heap.size:=(Array.getElem?_eq_some_iff.1 hZ).1;have Ho:some ub≠rv.ownBlock:=λe=>(hf ub e.symm).2 rfl;have nM:=(hg.block ub LF Ho).trans hZ;have T9:za w0 w':=za.of_grown h hg λk e=>(hf k e).1;have eE:∀b,v'.ownBlock=some b->w0.heap.size<=b/\b≠ub:=λb e=>by
  rcases PU b e with e1|e1
  ·exact hf b e1
  ·exact⟨Nat.le_trans h.size e1,by omega⟩
 refine⟨nM,zq.setCell T9 (p:=⟨ub,1,none⟩) (λHb=>absurd Hb (by show ¬ub<_;omega)) _,pD,v',m,heap_setCell_same _ _ _ _ _ _ nM,?_,eE⟩;rw[List.map_append];exact j6 ho λq e=>(eE q e).2
theorem QG.role{w0 w:World}{bs:List Nat}{ps:List zh}{n:Bytes}(h:QG w0 w ub nv bs)(hS:∀j,S j->j<w0.heap.size)(hn:Bs (im S w0) n nv)(hp:qz (ju (im S w0)) bs ps):jw (im S w) ub ⟨n,ps⟩:=by
 obtain⟨Hp,pD,rv,k,hZ,Ha,hf⟩:=h;have hu: ¬S ub:=λe=>by have:=hS ub e;omega
 obtain⟨x0,x1,_⟩:=qS hZ;exact⟨⟨_,zi.2 ⟨hu,x0⟩,hn.mono (Hp.im S)⟩,_,bs,zi.2 ⟨hu,x1⟩,Sl.im_of (Sl.of_own Ha) λb e e2=>by have:=(hf b e).1;have:=hS b e2;omega,hp.mono λ_ _ e=>e.mono (Hp.im S)⟩
variable{b:Nat}
theorem zau{w:World}{T:Nat}{x:Value}(h:w.heap[b]? =some (.cells #[x] T (0,0))):w.cell? ⟨b,0,none⟩=some x/\w.frozen? ⟨b,0,none⟩=false:=
 ⟨by rw[cell_of_row w b 0 _ _ (0,0) h];rfl,by simp[World.frozen?,h]⟩
def GA(l:zu)(w:World)(a:Nat)(I:zN)(s:zA)(xs:List Bytes)(e:Ending)(w':World):Prop:=
 ∃b v l' I',e=.returned (.tuple #[ptr b,ze 0])/\I.same I'/\zr l w l' w'/\Zk l' w' a I' s/\w'.cell? ⟨b,0,none⟩=some v/\Sl (im l'.some w') 1 (xs.map zb) v
theorem zav(xs:List Bytes):∀u∈xs.map zb,u.oneCell'=true:=by intro u hu;obtain⟨x,_,rfl⟩:=List.mem_map.1 hu;rfl
variable{e:TypeId}{n:Nat}{v5:Value}{w2 w5:World}{xs:List Value}
theorem U1{T:TypeId}(hb:∀j,l j≠0->j<w2.heap.size)(hT:e≠T)
  (ho:w5.ownsRow w2.heap.size e 1 v5 n xs)(hn:za w2 w5)(hr:w5.heap[w2.heap.size]? =some (.cells #[.slice none 0 0] T (0,0))):
  za w2 (w5.setCell ⟨w2.heap.size,0,none⟩ v5)/\im l.some (w5.setCell ⟨w2.heap.size,0,none⟩ v5) ⟨w2.heap.size,0,none⟩=some v5/\Sl (im l.some (w5.setCell ⟨w2.heap.size,0,none⟩ v5)) 1 xs v5:=by
 have hf:v5.ownBlock≠some w2.heap.size:=λe9=>by
  rcases ho.2 with⟨rfl,_⟩|⟨g,cap,cur,rfl,_,hg,_⟩
  ·cases e9
  ·have e8:g=w2.heap.size:=by simpa[Value.ownBlock]using e9
   rw[e8,hr]at hg;cases hg;exact hT rfl
 have S7: ¬l.some w2.heap.size:=λe=>by have:=hb _ e;omega
 have hZ:(w5.setCell ⟨w2.heap.size,0,none⟩ v5).heap[w2.heap.size]? =some (.cells #[v5] T (0,0)):=heap_setCell_same w5 w2.heap.size 0 _ _ _ hr;have N8:=j6 (b:=w2.heap.size) (i:=0) (u:=v5) ho λq hq e=>hf (by rw[<-e];exact hq);refine⟨zq.setCell hn (p:=⟨w2.heap.size,0,none⟩) (λHb=>absurd Hb (Nat.lt_irrefl _)) _,zi.2 ⟨S7,(zau hZ).1⟩,Sl.im_of (Sl.of_own N8) λq e e2=> ?_⟩;have:=(World.ownsRow.lt ho q e).1;have:=hb q e2;omega
theorem Kh{w:World}{rb:Nat}{I:zN}{s:zA}{n:Bytes}(h:Zk l w a I s)(hu:s.user n=none)(hn:n.length<=1000)(h0:im l.some w ⟨rb,0,none⟩=some (zb n)):
  Calls prog 173 #[ptr a,ptr rb] w (VV l w a I s 5):=by
 obtain⟨A,ab,m,lg,h⟩:=h;have r2:w.cell? ⟨a,2,none⟩=some (.iface 149 (ptr ab)):=by rw[cell_of_row w a 2 _ _ (0,0) h.row];rfl
 have d0:=zd _ _ _ _ h0;have hd:za w w.drew:=(za.refl w).drew;have HG:=hid (JQ (n:=n) (h.new hd) hn);rw[hu]at HG;have H:=hid h;clear h h0;obtain⟨sx,Ht⟩:=zex ((⟨n.toArray⟩:ByteArray));unfold zb at d0 HG;rw[<-Ht]at d0 HG;clear Ht hd;go_enter func173,ntmps173;go_wp2_with fail;go_region_with (refine HG.out.mono ?_;rintro e w2 ⟨r,W1,rfl,hQ,Hi,rm,H9⟩;have Hu:=hid (And.intro hQ (And.intro Hi (And.intro rm H9)));clear hQ Hi rm H9)
 all_goals
  obtain⟨hQ,Hi,rm,H9⟩:=Hu.out;cases H9;have Ph:=hid ((zr.new H.out.bnd (za.trans (za.refl w).drew hQ)).trans Hi.s);have Ll:=hid rm;clear hQ Hi rm;go_wp2;go_returns;exact⟨_,rfl,l,I,zN.same_refl I,Ph.out,_,_,_,_,Ll.out⟩
variable{u:zj}
theorem Ki{w:World}{rb:Nat}{I:zN}{s:zA}{n:Bytes}(h:Zk l w a I s)(hu:s.user n=some u)(hn:n.length<=1000)(h0:im l.some w ⟨rb,0,none⟩=some (zb n)):
  Calls prog 173 #[ptr a,ptr rb] w (GA l w a I s u.roles):=by
 obtain⟨A,ab,m,lg,h⟩:=h;have r2:w.cell? ⟨a,2,none⟩=some (.iface 149 (ptr ab)):=by rw[cell_of_row w a 2 _ _ (0,0) h.row];rfl
 have d0:=zd _ _ _ _ h0;have hd:za w w.drew:=(za.refl w).drew;have HG:=hid (JQ (n:=n) (h.new hd) hn);rw[hu]at HG;have md:=hid (h.fine.uok u (qg h.fine.us hu));have H:=hid h;clear h h0 hu;obtain⟨sx,Ht⟩:=zex ((⟨n.toArray⟩:ByteArray));unfold zb at d0 HG;rw[<-Ht]at d0 HG;clear Ht hd;go_enter func173,ntmps173;go_wp2_with fail;go_region_with (refine HG.out.mono ?_;rintro e w2 ⟨r,W1,rfl,hQ,Hi,rm,H9⟩;have Hu:=hid (And.intro hQ (And.intro Hi (And.intro rm H9)));clear hQ Hi rm H9)
 all_goals
  obtain⟨hQ,Hi,rm,H9⟩:=Hu.out;obtain⟨b,rfl,lP,Ru⟩:=H9.at (l:=l) λj hj=>Nat.lt_of_lt_of_le (H.out.bnd j hj) hQ.size;have Ph:=hid ((zr.new H.out.bnd (za.trans (za.refl w).drew hQ)).trans Hi.s);have Ll:=hid rm;obtain⟨_,_,⟨yv,u4,u5⟩,_⟩:=Ru;have k2:=zd _ _ _ _ u4;have RT:=hid (u5.mono (zd _ _));obtain⟨yp,n8,c8,rfl⟩:=u5.shape;have RL:u.roles.length=n8:=by have:=u5.row.1;rw[List.length_map]at this;exact this
  have RM:=hid RL;have hW:=zg w2 (.cells #[.slice none 0 0] 94);obtain⟨c0,f0⟩:=zau hW;have HW:=hid hW;have k2a:(w2.alloc (.cells #[.slice none 0 0] 94)).cell? ⟨b,2,none⟩=some (.slice yp n8 c8):=za.le ((za.refl w2).alloc _) _ _ k2;have SR:Hid ((([]:List Value).length+(u.roles.map zb).length)*(16+1)<=140737488355328):=hid (by have:=md.out.roles;rw[List.length_map,List.length_nil];omega);clear hQ Hi rm H9 lP u4 u5 RL hW;go_wp2_with fail;have T1:=hid (show za w2 (w2.alloc (.cells #[.slice none 0 0] 94)).drew from((za.refl w2).alloc _).drew);have T2:=hid (show(w2.alloc (.cells #[.slice none 0 0] 94)).drew.ownsRow w2.heap.size 9 1 (.slice none 0 0) 0 []from World.ownsRow_nil _ _ _ _);have T3:=hid (show Sl (w2.alloc (.cells #[.slice none 0 0] 94)).drew.cell? 1 (u.roles.map zb) (.slice yp n8 c8)from RT.out.mono (za.le T1.out));have T4:=hid (zav u.roles)
  go_region_law (refine dK (w0:=w2) xS rfl rfl T1.out T2.out rfl rfl T3.out T4.out SR.out ?_;intro v5 w5 m hm ho pz hg pC;obtain⟨p7,n7,c7,rfl⟩:=(Sl.of_own ho).shape;have n_:w5.heap[w2.heap.size]? =some (.cells #[.slice none 0 0] 94 (0,0)):=((zq.of_grown hg).block w2.heap.size (Array.getElem?_eq_some_iff.1 HW.out).1 (λe=>by cases e)).trans HW.out;obtain⟨c5,f5⟩:=zau n_;have Lh:=hid (And.intro ho (And.intro pz (And.intro hg n_)));clear hm ho pz hg pC n_)
  all_goals
   obtain⟨ho,pz,hg,n_⟩:=Lh.out;obtain⟨q1,q2,q3⟩:=U1 (l:=l) Ll.out.bnd (by decide) ho pz n_;have HQ:=hid (And.intro q1 (And.intro q2 q3));clear ho pz hg n_ q1 q2 q3;go_wp2;go_returns;obtain⟨q1,q2,q3⟩:=HQ.out;exact⟨_,_,l,I,rfl,zN.same_refl I,Ph.out.trans (zr.new Ll.out.bnd q1),⟨_,_,_,_,Ll.out.new q1⟩,zd _ _ _ _ q2,by simpa using q3⟩
end Go.Proofs.YtbmdoinjkligiaaGreat
