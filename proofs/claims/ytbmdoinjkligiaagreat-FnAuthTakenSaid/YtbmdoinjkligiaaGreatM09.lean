/- Contracts and laws that the last text joins. -/
import Derived.Test.YtbmdoinjkligiaaGreatM06
set_option maxRecDepth 100000
set_option maxHeartbeats 40000000
set_option linter.all false
namespace Go.Proofs.YtbmdoinjkligiaaGreat
open Tryz
open Lib(hid)
open Go.RowKit
variable{D S:Nat->Prop}{T:NM}{it z:Nat}{w0:qV}
theorem QR{w:World}{s root p g:Nat}{n:Int}{k:List Fr}(hw:TI S w0 w D T s it root n)(h:Kin T s z p g D k):
  w.cell? ⟨z,6,none⟩=some (ptr p)/\w.cell? ⟨p,6,none⟩=some (ptr g)/\w.cell? ⟨p,7,none⟩=some (J5 (T p).c)/\w.cell? ⟨g,7,none⟩=some (J5 (T g).c)/\w.frozen? ⟨p,7,none⟩=false/\w.frozen? ⟨g,7,none⟩=false/\w.cell? ⟨it,2,none⟩=some (ptr s)/\
   z≠p/\z≠g/\p≠g/\p≠z/\g≠z/\g≠p/\it≠p/\it≠g/\p≠it/\g≠it:=by
 obtain⟨dz,dp,dg⟩:=h.d;obtain⟨n1,n2,n3,_,_,_⟩:=h.ne;have i1:it≠p:=λe=>hw.nd (by rw[e];exact dp);have i2:it≠g:=λe=>hw.nd (by rw[e];exact dg);refine⟨?_,?_,(hw.tw.cells dp).2.2.2.2.2.2,(hw.tw.cells dg).2.2.2.2.2.2,hw.tw.frozen dp 7,hw.tw.frozen dg 7,hw.cells.2.2.1,n1,n2,n3,Ne.symm n1,Ne.symm n2,Ne.symm n3,i1,i2,Ne.symm i1,Ne.symm i2⟩
 ·rw[(hw.tw.cells dz).2.2.2.2.2.1,h.zp]
 ·rw[(hw.tw.cells dp).2.2.2.2.2.1,h.pg]
variable{x:Nat}
theorem TI.col{w:World}{s root:Nat}{n:Int}(hw:TI S w0 w D T s it root n)(hx:x=s\/D x){c:Bool}(hc:yM T s x=c)(m:Nat):
  Calls prog 247 #[ptr x,ptr s] (w.drewN m) λe w'=>e=.returned (J5 c)/\w.drewN m=w':=by
 rw[<-hc];exact Yr (hw.drewN m).tw x hx
theorem TI.col0{w:World}{s root:Nat}{n:Int}(hw:TI S w0 w D T s it root n)(hx:x=s\/D x)(hc:yM T s x=false)(m:Nat):
  Calls prog 247 #[ptr x,ptr s] (w.drewN m) λe w'=>e=.returned (.int .i64 0)/\w.drewN m=w':=hw.col hx hc m
theorem TI.col1{w:World}{s root:Nat}{n:Int}(hw:TI S w0 w D T s it root n)(hx:x=s\/D x)(hc:yM T s x=true)(m:Nat):
  Calls prog 247 #[ptr x,ptr s] (w.drewN m) λe w'=>e=.returned (.int .i64 1)/\w.drewN m=w':=hw.col hx hc m
theorem TI.cal0{w:World}{s root:Nat}{n:Int}(hw:TI S w0 w D T s it root n)(hx:x=s\/D x)(hc:yM T s x=false):
  Calls prog 247 #[ptr x,ptr s] w λe w'=>e=.returned (.int .i64 0)/\w=w':=by
 have:=Yr hw.tw x hx;rw[hc]at this;exact this
theorem TI.cal1{w:World}{s root:Nat}{n:Int}(hw:TI S w0 w D T s it root n)(hx:x=s\/D x)(hc:yM T s x=true):
  Calls prog 247 #[ptr x,ptr s] w λe w'=>e=.returned (.int .i64 1)/\w=w':=by
 have:=Yr hw.tw x hx;rw[hc]at this;exact this
theorem TI.set2{w:World}{s root p g:Nat}{n:Int}(hw:TI S w0 w D T s it root n)(dp:D p)(dg:D g)(Ho:p≠g):
  TI S w0 ((w.setCell ⟨p,7,none⟩ (.int .i64 0)).setCell ⟨g,7,none⟩ (.int .i64 1)) D ((T.set p ((T p).sc false)).set g ((T g).sc true)) s it root n:=by
 have h1:=(hw.setC dp false).setC dg true;rw[NM.set_ne _ _ (Ne.symm Ho)]at h1;exact h1
theorem TI.set3{w:World}{s root u p g:Nat}{n:Int}(hw:TI S w0 w D T s it root n)(du:D u)(dp:D p)(dg:D g)(h1:p≠u)(h2:g≠u)(h3:p≠g):
  TI S w0 (((w.setCell ⟨u,7,none⟩ (.int .i64 0)).setCell ⟨p,7,none⟩ (.int .i64 0)).setCell ⟨g,7,none⟩ (.int .i64 1)) D (((T.set u ((T u).sc false)).set p ((T p).sc false)).set g ((T g).sc true)) s it root n:=by
 have h:=((hw.setC du false).setC dp false).setC dg true;rw[NM.set_ne _ _ h1,NM.set_ne _ _ (Ne.symm h3),NM.set_ne _ _ h2]at h;exact h
theorem Wh(T:NM){p g:Nat}(h:p≠g):xx T ((T.set p ((T p).sc false)).set g ((T g).sc true)):=by have h1:=((xx.refl T).set p false).set g true;rw[NM.set_ne _ _ (Ne.symm h)]at h1;exact h1
theorem Wi(T:NM){u p g:Nat}(h1:p≠u)(h2:g≠u)(h3:p≠g):xx T (((T.set u ((T u).sc false)).set p ((T p).sc false)).set g ((T g).sc true)):=by have h:=(((xx.refl T).set u false).set p false).set g true;rw[NM.set_ne _ _ h1,NM.set_ne _ _ (Ne.symm h3),NM.set_ne _ _ h2]at h;exact h
variable{q:Nat}
theorem Xz{w:World}{s root p g:Nat}{n:Int}{k:List Fr}{l r b u:Tr}(hw:TI S w0 w D T s it root n)(h:TG T s root q z D (.L p b::.L g u::k) (.node z l r))(Py:(T root).c=false):
  Calls prog 249 #[ptr it,ptr g] ((w.setCell ⟨p,7,none⟩ (.int .i64 0)).setCell ⟨g,7,none⟩ (.int .i64 1)) λe w'=>e=.returned (.tuple #[])/\∃T' root',TI S w0 w' D T' s it root' n/\FX T' s root' z D (.L p (.node g b u)::k) l r/\qR T T':=by
 have kin:Kin T s z p g D k:=h.kin;obtain⟨dz,dp,dg⟩:=kin.d;have hc:=Wh T kin.ne.2.2.1;have hg:=(h.up.2.up.2).onlyC hc;refine(YJ (hw.set2 dp dg kin.ne.2.2.1) hg).mono λ_ _ ⟨h1,T',root',h2,h3,h4⟩=>⟨h1,T',root',h2,h.turnR Py rfl h3 h4,(qR.onlyC hc).trans (qR.bec h4)⟩
theorem XA{w:World}{s root p g:Nat}{n:Int}{k:List Fr}{l r b u:Tr}(hw:TI S w0 w D T s it root n)(h:TG T s root q z D (.R p b::.R g u::k) (.node z l r))(Py:(T root).c=false):
  Calls prog 248 #[ptr it,ptr g] ((w.setCell ⟨p,7,none⟩ (.int .i64 0)).setCell ⟨g,7,none⟩ (.int .i64 1)) λe w'=>e=.returned (.tuple #[])/\∃T' root',TI S w0 w' D T' s it root' n/\FX T' s root' z D (.R p (.node g u b)::k) l r/\qR T T':=by
 have kin:Kin T s z p g D k:=h.kin;obtain⟨dz,dp,dg⟩:=kin.d;have hc:=Wh T kin.ne.2.2.1;have hg:=(h.up.2.up.2).onlyC hc;refine(YI (hw.set2 dp dg kin.ne.2.2.1) hg).mono λ_ _ ⟨h1,T',root',h2,h3,h4⟩=>⟨h1,T',root',h2,h.turnL Py rfl h3 h4,(qR.onlyC hc).trans (qR.bec h4)⟩
theorem za8{w:World}{s root p g:Nat}{n:Int}{k:List Fr}{l r a u:Tr}(hw:TI S w0 w D T s it root n)(h:TG T s root q z D (.R p a::.L g u::k) (.node z l r))(Py:(T root).c=false):
  Calls prog 248 #[ptr it,ptr p] w λe w'=>e=.returned (.tuple #[])/\∃T' root' q',TI S w0 w' D T' s it root' n/\TG T' s root' q' p D (.L z r::.L g u::k) (.node p a l)/\(T' root').c=false/\qR T T':=by
 refine(YI hw h.up.2).mono λ_ _ ⟨h1,T',root',h2,h3,h4⟩=> ?_;obtain⟨_,hd⟩:=h3.downL;have hz:=hd.is.1;rw[hz]at hd;have hr:=h.up.2.cx.root_eq h3.cx (by simp);exact⟨h1,T',root',_,h2,hd,by rw[(h4 root').2.2,hr];exact Py,qR.bec h4⟩
theorem za9{w:World}{s root p g:Nat}{n:Int}{k:List Fr}{l r a u:Tr}(hw:TI S w0 w D T s it root n)(h:TG T s root q z D (.L p a::.R g u::k) (.node z l r))(Py:(T root).c=false):
  Calls prog 249 #[ptr it,ptr p] w λe w'=>e=.returned (.tuple #[])/\∃T' root' q',TI S w0 w' D T' s it root' n/\TG T' s root' q' p D (.R z l::.R g u::k) (.node p r a)/\(T' root').c=false/\qR T T':=by
 refine(YJ hw h.up.2).mono λ_ _ ⟨h1,T',root',h2,h3,h4⟩=> ?_;obtain⟨_,hd⟩:=h3.downR;have hz:=hd.is.1;rw[hz]at hd;have hr:=h.up.2.cx.root_eq h3.cx (by simp);exact⟨h1,T',root',_,h2,hd,by rw[(h4 root').2.2,hr];exact Py,qR.bec h4⟩
def zb2(S:Nat->Prop)(w0:qV)(w':World)(D:Nat->Prop)(T:NM)(s it:Nat)(n:Int)(ids:List Nat):Prop:=∃T' root' t',TI S w0 w' D T' s it root' n/\TG T' s root' s root' D [] t'/\qR T T'/\t'.ids=ids/\(T' root').c=false
structure XB(S:Nat->Prop)(w0:qV)(w:World)(D:Nat->Prop)(T0:NM)(s it:Nat)(n:Int)(ids:List Nat)(T:NM)(root z:Nat)(k:List Fr)(l r:Tr):Prop where
 ti:TI S w0 w D T s it root n
 fx:FX T s root z D k l r
 be:qR T0 T
 ids:(vL k (.node z l r)).ids=ids
theorem XB.end{w:World}{T0:NM}{s:Nat}{n:Int}{ids:List Nat}{root:Nat}{k:List Fr}{l r:Tr}(h:XB S w0 w D T0 s it n ids T root z k l r):
  D root/\w.cell? ⟨it,0,none⟩=some (ptr root)/\w.cell? ⟨root,7,none⟩=some (J5 (T root).c)/\w.frozen? ⟨root,7,none⟩=false/\it≠root/\zb2 S w0 (w.setCell ⟨root,7,none⟩ (.int .i64 0)) D T0 s it n ids:=by
 obtain⟨q,sj⟩:=h.fx.tg;have hw:=sj.whole;have Ho:(vL k (.node z l r))≠.nil:=λe=>by
  have:(vL k (.node z l r)).ids=[]:=by rw[e];rfl
  rw[jQ]at this;simp[Tr.ids]at this
 have hr:root∈(vL k (.node z l r)).ids:=by
  rcases hw.is.root with e|e
  ·cases hp:vL k (.node z l r)with
   |nil=>exact absurd hp Ho
   |node i a b=>rw[hp]at hw;have:=hw.is;exact absurd e (by rw[this.1];exact this.2.1)
  ·exact e
 have dr:D root:=hw.dk root (by simp[hr]);refine⟨dr,h.ti.cells.1,(h.ti.tw.cells dr).2.2.2.2.2.2,h.ti.tw.frozen dr 7,λe=>h.ti.nd (by rw[e];exact dr),_,root,_,h.ti.setC dr false,hw.onlyC ((xx.refl T).set root false),h.be.trans (qR.onlyC ((xx.refl T).set root false)),h.ids,?_⟩;rw[NM.set_same]
theorem Jl{w:World}{s root:Nat}{n:Int}{k:List Fr}{l r:Tr}(hw:TI S w0 w D T s it root n)(hf:FX T s root z D k l r):
  Calls prog 243 #[ptr it,ptr z] w λe w'=>e=.returned (.tuple #[])/\zb2 S w0 w' D T s it n (vL k (.node z l r)).ids:=by
 have H0:Hid (XB S w0 w D T s it n (vL k (.node z l r)).ids T root z k l r):=hid ⟨hw,hf,qR.refl T,rfl⟩;generalize(vL k (.node z l r)).ids=ids at H0⊢;clear hw hf;go_enter func243,ntmps243;go_wp2;go_loopg [1] (k.length+1) (λgg zv wr=>∃z1 T1 root1 k1 l1 r1,zv=ptr z1/\XB S w0 wr D T s it n ids T1 root1 z1 k1 l1 r1/\k1.length<gg)
 case atStart=>exact⟨z,T,root,k,l,r,rfl,H0.out,by omega⟩
 case round=>
  clear H0;obtain⟨z1,T1,root1,k1,l1,r1,rfl,hF,h_⟩:=hrel;obtain⟨q,sj⟩:=hF.fx.tg;have dz:D z1:=sj.dk z1 (by simp[Tr.ids]);have hq:(T1 z1).p=q:=sj.is.2.2.1;have N3:q=s\/D q:=by
   cases k1 with
   |nil=>exact Or.inl sj.cx.2
   |cons f k2=>exact Or.inr (by rw[sj.up.1];exact sj.dk _ (by simp[zC]))
  by_cases hc:yM T1 s q=false
  ·have lC:=λm=>hF.ti.col0 N3 hc m;have z6:=(hF.ti.tw.cells dz).2.2.2.2.2.1;rw[hq]at z6;have i2:=hF.ti.cells.2.2.1;have Hn:Hid (∀m,_):=hid λm=>XB.end (⟨hF.ti.drewN m,hF.fx,hF.be,hF.ids⟩:XB S w0 (wr.drewN m) D T s it n ids T1 root1 z1 k1 l1 r1);have HC:=hid lC;clear lC;clear hF sj hq N3 hc dz;go_wp2;go_quiet ((go_at_call 247;exact zw (HC.out _)));obtain⟨e1,e2,e3,e4,e5,e6⟩:=Hn.out nq;have E6:=hid e6;clear e6;clear Hn e1;generalize wr.drewN nq=w1 at*
   go_wp2;go_returns;exact⟨rfl,E6.out⟩
  ·have LX:yM T1 s q=true:=by simpa using hc
   have PL:q≠s:=λe=>by rw[e]at LX;unfold yM at LX;rw[if_pos rfl]at LX;cases LX
   obtain⟨f,k2,rfl⟩:∃f k2,k1=f::k2:=by
    cases k1 with
    |nil=>exact absurd sj.cx.2 PL
    |cons f k2=>exact⟨f,k2,rfl⟩
   have oh:q=f.i:=sj.up.1;have hcf:(T1 f.i).c=true:=by rw[<-oh];unfold yM at LX;rwa [if_neg PL]at LX
   obtain⟨g,k3,rfl⟩:=hF.fx.grand hcf;have Py:=hF.fx.rb (by simp);have lC:=λW (h:TI S w0 W D T1 s it root1 n) m=>h.col1 N3 LX m;obtain⟨p,hp⟩:=zex (f.i);rw[<-hp]at oh;subst oh;have HC:=hid lC;clear lC;clear hc LX PL hcf hq N3 dz;cases g with
   |L g u=>
    have kin:Kin T1 s z1 f.i g D k3:=sj.kin;have Lx:Cx T1 s root1 (T1 f.i).p f.i (.L g u::k3):=sj.up.2.cx;rw[<-hp]at kin Lx;have HK:Hid (∀W,TI S w0 W D T1 s it root1 n->_):=hid λW h=>QR h kin;obtain⟨_,_,AH,wG,_⟩:=Lx;have pN:=λW (h:TI S w0 W D T1 s it root1 n) m=>h.tw.eql (a:=q) (b:=q) (Or.inr kin.d.2.1) (Or.inr kin.d.2.1) m;have lD:decide (q=q)=true:=decide_eq_true rfl;rw[lD]at pN;clear lD;have AI:(T1 g).r=s\/D (T1 g).r:=by
     rcases wG.root with e|e
     ·exact Or.inl e
     ·exact Or.inr (sj.dk _ (by simp[zC,Fr.sib,e]))
    have RK:∀W,TI S w0 W D T1 s it root1 n->W.cell? ⟨g,4,none⟩=some (ptr (T1 g).l)/\W.cell? ⟨g,5,none⟩=some (ptr (T1 g).r):=λW h=>⟨(h.tw.cells kin.d.2.2).2.2.2.1,(h.tw.cells kin.d.2.2).2.2.2.2.1⟩;rw[AH]at RK;have HG:=hid RK;clear RK;have LI:=hid pN;clear pN;have HP:=hid hp;clear hp;have HF:=hid hF;clear hF;have Sj:=hid sj;clear sj;have bI:=hid wG;clear wG;have PB:=hid kin;clear kin;have bJ:=hid AI;clear AI;have Rr:=hid Py;clear Py;clear AH;have pf:=HF.out.ti;obtain⟨z6,p6,p7,g7,p7f,g7f,i2,n1,n2,n3,n4,n5,n6,n7,n8,n9,n10⟩:=HK.out wr pf;obtain⟨g4,g5⟩:=HG.out wr pf;have Mc:=hid (HC.out wr pf);clear pf;go_wp2;go_quiet ((go_at_call 247;exact zw (Mc.out _)));have pf:=HF.out.ti.drewN nq;generalize wr.drewN nq=w1 at pf⊢;clear z6 p6 p7 g7 p7f g7f i2 n1 n2 n3 n4 n5 n6 n7 n8 n9 n10 g4 g5 Mc HC;obtain⟨z6,p6,p7,g7,p7f,g7f,i2,n1,n2,n3,n4,n5,n6,n7,n8,n9,n10⟩:=HK.out w1 pf;obtain⟨g4,g5⟩:=HG.out w1 pf
    have pN:=LI.out w1 pf;have Sw:=hid pf;clear pf;go_wp2;go_quiet (fail);have pf:=Sw.out.drewN nq;generalize w1.drewN nq=w2 at pf⊢;clear z6 p6 p7 g7 p7f g7f i2 n1 n2 n3 n4 n5 n6 n7 n8 n9 n10 g4 g5 pN LI Sw;obtain⟨z6,p6,p7,g7,p7f,g7f,i2,n1,n2,n3,n4,n5,n6,n7,n8,n9,n10⟩:=HK.out w2 pf;obtain⟨g4,g5⟩:=HG.out w2 pf;by_cases hc:yM T1 s (T1 g).r=true
    ·have RA:(T1 g).r≠s:=λe=>by rw[e]at hc;unfold yM at hc;rw[if_pos rfl]at hc;cases hc
     obtain⟨du,u1,u2,u3,u4⟩:=Sj.out.uncle _ bI.out.root RA;rw[<-HP.out]at u2
     replace u3:(T1 g).r≠g:=u3
     have PE:=pf.cal1 (Or.inr du) hc;have u7:=(pf.tw.cells du).2.2.2.2.2.2;have u7f:=pf.tw.frozen du 7;have ui:(T1 g).r≠it:=λe=>pf.nd (by rw[<-e];exact du);have iu:=Ne.symm ui;have v1:=Ne.symm u1;have v2:=Ne.symm u2;have v3:=Ne.symm u3;have nE:=pf.set3 du PB.out.d.2.1 PB.out.d.2.2 v2 v3 n3;have bK:=Wi T1 (u:=(T1 g).r) v2 v3 n3;have Cb:∀i∈qC k3,((((T1.set (T1 g).r ((T1 (T1 g).r).sc false)).set q ((T1 q).sc false)).set g ((T1 g).sc true)) i).c=(T1 i).c:=λi hi=>by rw[NM.set_ne _ _ (λe=>PB.out.sp.2 (show g∈qC k3 by rw[<-e];exact hi)),NM.set_ne _ _ (λe=>PB.out.sp.1 (by rw[<-e];exact hi)),NM.set_ne _ _ (λe=>u4 (by rw[<-e];exact hi))]
     obtain⟨l',r',sF,pS⟩:=HF.out.fx.red bK Cb;have pJ:=hid PE;clear PE;have sI:=hid nE;clear nE;have BY:=hid sF;clear sF;have Rt:=hid (HF.out.be.trans (qR.onlyC bK));clear bK;have SO:=hid (HF.out.ids);clear HF;have ru:=hid pS;clear pS;clear pf Cb hc du u4 RA Sj bI PB bJ Rr HK HG;generalize(T1 g).r=uu at*
     go_wp2_with (go_at_call 247;go_must (refine pJ.out.mono ?_);rintro e w9 ⟨rfl,rfl⟩);go_roundg (gk-1)
     case rel=>exact⟨g,_,root1,k3,l',r',rfl,⟨sI.out,BY.out,Rt.out,by rw[show Tr.node g l' r'=_ from ru.out];exact SO.out⟩,by simp at h_;omega⟩
     case measure=>omega
    ·have Ra:yM T1 s (T1 g).r=false:=by simpa using hc
     have PE:=pf.cal0 bJ.out Ra;have pJ:=hid PE;clear PE;clear hc Ra bI bJ;cases f with
     |L p b=>
      have Ts:p=q:=HP.out.symm;subst Ts;clear HP;have bL:Cx T1 s root1 p z1 (.L p b::.L g u::k3):=Sj.out.up.1▸Sj.out.cx;obtain⟨_,_,Mh,sw,_⟩:=bL;have p5:=(pf.tw.cells PB.out.d.2.1).2.2.2.2.1
      replace p5:w2.cell? ⟨p,5,none⟩=some (ptr (T1 p).r):=p5
      have Ho:z1≠(T1 p).r:=λe=>by
       rcases sw.root with e2|e2
       ·exact PB.out.ne.2.2.2.1 (e.trans e2)
       ·exact(z_ Sj.out.nd).2.2 z1 (by simp[Tr.ids]) (by rw[e];simp[zC,Fr.sib,e2])
      have AJ:(T1 p).r=s\/D (T1 p).r:=by
       rcases sw.root with e2|e2
       ·exact Or.inl e2
       ·exact Or.inr (Sj.out.dk _ (by simp[zC,Fr.sib,e2]))
      have pN:=pf.tw.eql (a:=z1) (b:=(T1 p).r) (Or.inr PB.out.d.1) AJ 0;rw[decide_eq_false Ho]at pN;clear Ho AJ sw Mh
      replace pN:(binOp .eql 274 (ptr z1) (ptr (T1 p).r)).run prog w2=.ok (.bool false) w2:=pN
      have SP:=hid (Xz pf Sj.out Rr.out);simp only[Fr.i]at*
      have Rt:=hid HF.out.be;have SO:=hid HF.out.ids;clear pf HF Sj PB Rr HK HG;go_wp2_with (first|(go_at_call 247;go_must (refine pJ.out.mono ?_);rintro e w9 ⟨rfl,rfl⟩)|(go_at_call 249;go_must (refine SP.out.mono ?_);rintro e w6 ⟨rfl,T6,root6,m1,m2,m3⟩;have M1:=hid m1;have M2:=hid m2;have M3:=hid m3;clear m1 m2 m3));go_roundg (gk-1)
      case rel=>exact⟨z1,T6,root6,.L p (.node g b u)::k3,l1,r1,rfl,⟨M1.out,M2.out,Rt.out.trans M3.out,by rw[Xx];exact SO.out⟩,by simp at h_⊢;omega⟩
      case measure=>omega
     |R p b=>
      have Ts:p=q:=HP.out.symm;subst Ts;clear HP;have bL:Cx T1 s root1 p z1 (.R p b::.L g u::k3):=Sj.out.up.1▸Sj.out.cx;obtain⟨_,_,Mh,sw,_⟩:=bL;have p5:=(pf.tw.cells PB.out.d.2.1).2.2.2.2.1
      replace p5:w2.cell? ⟨p,5,none⟩=some (ptr (T1 p).r):=p5
      rw[show(T1 p).r=z1 from Mh]at p5;have pN:=pf.tw.eql (a:=z1) (b:=z1) (Or.inr PB.out.d.1) (Or.inr PB.out.d.1) 0;rw[decide_eq_true rfl]at pN;clear sw Mh
      replace pN:(binOp .eql 274 (ptr z1) (ptr z1)).run prog w2=.ok (.bool true) w2:=pN
      have mP:=hid (za8 pf Sj.out Rr.out);simp only[Fr.i]at*
      have Rt:=hid HF.out.be;have SO:=hid HF.out.ids;clear pf HF Sj PB Rr HK HG;go_wp2_with (first|(go_at_call 247;go_must (refine pJ.out.mono ?_);rintro e w9 ⟨rfl,rfl⟩)|(go_at_call 248;go_must (refine mP.out.mono ?_);rintro e w3 ⟨rfl,T3,root3,q3,m1,m2,m3,m4⟩;have SP:=hid (Xz m1 m2 m3);obtain⟨y1,y2,y3,y4,y5,y6,y7,_,_,_,_,_,_,_,_,_,_⟩:=QR m1 m2.kin;have M4:=hid m4;clear m1 m2 m3 m4;simp only[Fr.i]at y1 y2 y3 y4 y5 y6)|(go_at_call 249;go_must (refine SP.out.mono ?_);rintro e w6 ⟨rfl,T6,root6,m1,m2,m3⟩;have M1:=hid m1;have M2:=hid m2;have M3:=hid m3;clear m1 m2 m3));go_roundg (gk-1)
      case rel=>exact⟨p,T6,root6,.L z1 (.node g r1 u)::k3,b,l1,rfl,⟨M1.out,M2.out,(Rt.out.trans M4.out).trans M3.out,by rw[Xx,za6];exact SO.out⟩,by simp at h_⊢;omega⟩
      case measure=>omega
   |R g u=>
    have kin:Kin T1 s z1 f.i g D k3:=sj.kin;have Lx:Cx T1 s root1 (T1 f.i).p f.i (.R g u::k3):=sj.up.2.cx;rw[<-hp]at kin Lx;have HK:Hid (∀W,TI S w0 W D T1 s it root1 n->_):=hid λW h=>QR h kin;obtain⟨_,_,AH,wG,_⟩:=Lx;have AK:q≠(T1 g).l:=λe=>(sj.uncle (T1 g).l (wG.root) (by rw[<-e];exact kin.ne.2.2.2.2.1)).2.2.1 (e.symm.trans hp);have AL:(T1 g).l=s\/D (T1 g).l:=by
     rcases wG.root with e|e
     ·exact Or.inl e
     ·exact Or.inr (sj.dk _ (by simp[zC,Fr.sib,e]))
    have pN:=λW (h:TI S w0 W D T1 s it root1 n) m=>h.tw.eql (a:=q) (b:=(T1 g).l) (Or.inr kin.d.2.1) AL m;have lD:decide (q=(T1 g).l)=false:=decide_eq_false AK;rw[lD]at pN;clear lD;have AI:(T1 g).l=s\/D (T1 g).l:=by
     rcases wG.root with e|e
     ·exact Or.inl e
     ·exact Or.inr (sj.dk _ (by simp[zC,Fr.sib,e]))
    have RK:∀W,TI S w0 W D T1 s it root1 n->W.cell? ⟨g,4,none⟩=some (ptr (T1 g).l)/\W.cell? ⟨g,5,none⟩=some (ptr (T1 g).r):=λW h=>⟨(h.tw.cells kin.d.2.2).2.2.2.1,(h.tw.cells kin.d.2.2).2.2.2.2.1⟩;rw[AH]at RK;have HG:=hid RK;clear RK;have LI:=hid pN;clear pN;have HP:=hid hp;clear hp;have HF:=hid hF;clear hF;have Sj:=hid sj;clear sj;have bI:=hid wG;clear wG;have PB:=hid kin;clear kin;have bJ:=hid AI;clear AI;have Rr:=hid Py;clear Py;clear AH AK AL;have pf:=HF.out.ti;obtain⟨z6,p6,p7,g7,p7f,g7f,i2,n1,n2,n3,n4,n5,n6,n7,n8,n9,n10⟩:=HK.out wr pf;obtain⟨g4,g5⟩:=HG.out wr pf;have Mc:=hid (HC.out wr pf);clear pf;go_wp2;go_quiet ((go_at_call 247;exact zw (Mc.out _)));have pf:=HF.out.ti.drewN nq;generalize wr.drewN nq=w1 at pf⊢;clear z6 p6 p7 g7 p7f g7f i2 n1 n2 n3 n4 n5 n6 n7 n8 n9 n10 g4 g5 Mc HC;obtain⟨z6,p6,p7,g7,p7f,g7f,i2,n1,n2,n3,n4,n5,n6,n7,n8,n9,n10⟩:=HK.out w1 pf
    obtain⟨g4,g5⟩:=HG.out w1 pf;have pN:=LI.out w1 pf;have Sw:=hid pf;clear pf;go_wp2;go_quiet (fail);have pf:=Sw.out.drewN nq;generalize w1.drewN nq=w2 at pf⊢;clear z6 p6 p7 g7 p7f g7f i2 n1 n2 n3 n4 n5 n6 n7 n8 n9 n10 g4 g5 pN LI Sw;obtain⟨z6,p6,p7,g7,p7f,g7f,i2,n1,n2,n3,n4,n5,n6,n7,n8,n9,n10⟩:=HK.out w2 pf;obtain⟨g4,g5⟩:=HG.out w2 pf;by_cases hc:yM T1 s (T1 g).l=true
    ·have RA:(T1 g).l≠s:=λe=>by rw[e]at hc;unfold yM at hc;rw[if_pos rfl]at hc;cases hc
     obtain⟨du,u1,u2,u3,u4⟩:=Sj.out.uncle _ bI.out.root RA;rw[<-HP.out]at u2
     replace u3:(T1 g).l≠g:=u3
     have PE:=pf.cal1 (Or.inr du) hc;have u7:=(pf.tw.cells du).2.2.2.2.2.2;have u7f:=pf.tw.frozen du 7;have ui:(T1 g).l≠it:=λe=>pf.nd (by rw[<-e];exact du);have iu:=Ne.symm ui;have v1:=Ne.symm u1;have v2:=Ne.symm u2;have v3:=Ne.symm u3;have nE:=pf.set3 du PB.out.d.2.1 PB.out.d.2.2 v2 v3 n3;have bK:=Wi T1 (u:=(T1 g).l) v2 v3 n3;have Cb:∀i∈qC k3,((((T1.set (T1 g).l ((T1 (T1 g).l).sc false)).set q ((T1 q).sc false)).set g ((T1 g).sc true)) i).c=(T1 i).c:=λi hi=>by rw[NM.set_ne _ _ (λe=>PB.out.sp.2 (show g∈qC k3 by rw[<-e];exact hi)),NM.set_ne _ _ (λe=>PB.out.sp.1 (by rw[<-e];exact hi)),NM.set_ne _ _ (λe=>u4 (by rw[<-e];exact hi))]
     obtain⟨l',r',sF,pS⟩:=HF.out.fx.red bK Cb;have pJ:=hid PE;clear PE;have sI:=hid nE;clear nE;have BY:=hid sF;clear sF;have Rt:=hid (HF.out.be.trans (qR.onlyC bK));clear bK;have SO:=hid (HF.out.ids);clear HF;have ru:=hid pS;clear pS;clear pf Cb hc du u4 RA Sj bI PB bJ Rr HK HG;generalize(T1 g).l=uu at*
     go_wp2_with (go_at_call 247;go_must (refine pJ.out.mono ?_);rintro e w9 ⟨rfl,rfl⟩);go_roundg (gk-1)
     case rel=>exact⟨g,_,root1,k3,l',r',rfl,⟨sI.out,BY.out,Rt.out,by rw[show Tr.node g l' r'=_ from ru.out];exact SO.out⟩,by simp at h_;omega⟩
     case measure=>omega
    ·have Ra:yM T1 s (T1 g).l=false:=by simpa using hc
     have PE:=pf.cal0 bJ.out Ra;have pJ:=hid PE;clear PE;clear hc Ra bI bJ;cases f with
     |R p b=>
      have Ts:p=q:=HP.out.symm;subst Ts;clear HP;have bL:Cx T1 s root1 p z1 (.R p b::.R g u::k3):=Sj.out.up.1▸Sj.out.cx;obtain⟨_,_,Mh,sw,_⟩:=bL;have p4:=(pf.tw.cells PB.out.d.2.1).2.2.2.1
      replace p4:w2.cell? ⟨p,4,none⟩=some (ptr (T1 p).l):=p4
      have Ho:z1≠(T1 p).l:=λe=>by
       rcases sw.root with e2|e2
       ·exact PB.out.ne.2.2.2.1 (e.trans e2)
       ·exact(z_ Sj.out.nd).2.2 z1 (by simp[Tr.ids]) (by rw[e];simp[zC,Fr.sib,e2])
      have AJ:(T1 p).l=s\/D (T1 p).l:=by
       rcases sw.root with e2|e2
       ·exact Or.inl e2
       ·exact Or.inr (Sj.out.dk _ (by simp[zC,Fr.sib,e2]))
      have pN:=pf.tw.eql (a:=z1) (b:=(T1 p).l) (Or.inr PB.out.d.1) AJ 0;rw[decide_eq_false Ho]at pN;clear Ho AJ sw Mh
      replace pN:(binOp .eql 274 (ptr z1) (ptr (T1 p).l)).run prog w2=.ok (.bool false) w2:=pN
      have SP:=hid (XA pf Sj.out Rr.out);simp only[Fr.i]at*
      have Rt:=hid HF.out.be;have SO:=hid HF.out.ids;clear pf HF Sj PB Rr HK HG;go_wp2_with (first|(go_at_call 247;go_must (refine pJ.out.mono ?_);rintro e w9 ⟨rfl,rfl⟩)|(go_at_call 248;go_must (refine SP.out.mono ?_);rintro e w6 ⟨rfl,T6,root6,m1,m2,m3⟩;have M1:=hid m1;have M2:=hid m2;have M3:=hid m3;clear m1 m2 m3));go_roundg (gk-1)
      case rel=>exact⟨z1,T6,root6,.R p (.node g u b)::k3,l1,r1,rfl,⟨M1.out,M2.out,Rt.out.trans M3.out,by rw[Xy];exact SO.out⟩,by simp at h_⊢;omega⟩
      case measure=>omega
     |L p b=>
      have Ts:p=q:=HP.out.symm;subst Ts;clear HP;have bL:Cx T1 s root1 p z1 (.L p b::.R g u::k3):=Sj.out.up.1▸Sj.out.cx;obtain⟨_,_,Mh,sw,_⟩:=bL;have p4:=(pf.tw.cells PB.out.d.2.1).2.2.2.1
      replace p4:w2.cell? ⟨p,4,none⟩=some (ptr (T1 p).l):=p4
      rw[show(T1 p).l=z1 from Mh]at p4;have pN:=pf.tw.eql (a:=z1) (b:=z1) (Or.inr PB.out.d.1) (Or.inr PB.out.d.1) 0;rw[decide_eq_true rfl]at pN;clear sw Mh
      replace pN:(binOp .eql 274 (ptr z1) (ptr z1)).run prog w2=.ok (.bool true) w2:=pN
      have mP:=hid (za9 pf Sj.out Rr.out);simp only[Fr.i]at*
      have Rt:=hid HF.out.be;have SO:=hid HF.out.ids;clear pf HF Sj PB Rr HK HG;go_wp2_with (first|(go_at_call 247;go_must (refine pJ.out.mono ?_);rintro e w9 ⟨rfl,rfl⟩)|(go_at_call 249;go_must (refine mP.out.mono ?_);rintro e w3 ⟨rfl,T3,root3,q3,m1,m2,m3,m4⟩;have SP:=hid (XA m1 m2 m3);obtain⟨y1,y2,y3,y4,y5,y6,y7,_,_,_,_,_,_,_,_,_,_⟩:=QR m1 m2.kin;have M4:=hid m4;clear m1 m2 m3 m4;simp only[Fr.i]at y1 y2 y3 y4 y5 y6)|(go_at_call 248;go_must (refine SP.out.mono ?_);rintro e w6 ⟨rfl,T6,root6,m1,m2,m3⟩;have M1:=hid m1;have M2:=hid m2;have M3:=hid m3;clear m1 m2 m3));go_roundg (gk-1)
      case rel=>exact⟨p,T6,root6,.R z1 (.node g u l1)::k3,r1,b,rfl,⟨M1.out,M2.out,(Rt.out.trans M4.out).trans M3.out,by rw[Xy,za7];exact SO.out⟩,by simp at h_⊢;omega⟩
      case measure=>omega
variable{ec:Nat}
theorem gw{w:World}{s:Nat}{b e:EV}{bp ep:Option Addr}{bn bc en:Nat}(hb:b.2=.iface 283 (.slice bp bn bc))(he:e.2=.iface 283 (.slice ep en ec))(oi:w.cell? ⟨it,2,none⟩=some (ptr s)):
  Calls prog 242 #[ptr it,.agg #[b.2,e.2],Xw] w λr w'=>r=.returned (ptr (w.heap.size+1))/\za w w'/\w'.heap[w.heap.size+1]? =some (.cells (jZ (yt b e s s)) 279 (0,0))/\w.heap.size+1<w'.heap.size:=by
 obtain⟨w1,Hh⟩:=zex (w.alloc (.cells #[b.2,e.2] 230));have Hb:=World.block_lt_of_cell? w _ oi;have c0:w1.cell? ⟨w.heap.size,0,none⟩=some b.2:=by rw[Hh,World.cell?_alloc_new];rfl
 have c1:w1.cell? ⟨w.heap.size,1,none⟩=some e.2:=by rw[Hh,World.cell?_alloc_new];rfl
 have ci:w1.cell? ⟨it,2,none⟩=some (ptr s):=by have:=za.le ((za.refl w).alloc (.cells #[b.2,e.2] 230)) _ _ oi;rw[Hh];exact this
 have pI:w1.heap.size=w.heap.size+1:=by rw[Hh];simp
 have hN:za w (w1.drew.alloc (.cells (jZ (yt b e s s)) 279)):=by rw[Hh];exact(((za.refl w).alloc _).drew).alloc _
 have hz:(w1.drew.alloc (.cells (jZ (yt b e s s)) 279)).heap[w.heap.size+1]? =some (.cells (jZ (yt b e s s)) 279 (0,0)):=by have:=zg w1.drew (.cells (jZ (yt b e s s)) 279);rw[show w1.drew.heap.size=w.heap.size+1 from pI]at this;exact this
 have HN:=hid hN;clear hN;have HZ:=hid hz;clear hz;have RV:=hid pI;clear pI;have Ho:it≠w.heap.size:=Nat.ne_of_lt Hb;clear Hb oi;unfold jZ yt at HN HZ⊢;dsimp only at HN HZ⊢;rw[hb]at c0 Hh;rw[he]at c1 Hh;rw[hb,he]at HN HZ⊢;unfold Xw at HN HZ⊢;clear hb he;have Pr:=hid Hh;clear Hh;go_enter func242,ntmps242;go_wp2;rw[<-Pr.out];go_still_tail 18,(by kernel_rfl);go_wp2;go_returns;refine⟨by rw[<-RV.out];rfl,HN.out,HZ.out,by simp[RV.out]⟩
structure q7(r:Rd)(w:World)(F:Nat->Prop)(s it:Nat)(L:List Iv):Prop where
 ex:∃(T:NM) (root:Nat) (t:Tr) (n:Int),(∀i∈t.ids,w.heap[i]? =some (.cells (jZ (T i)) 279 (0,0)))/\w.heap[it]? =some (.cells #[ptr root,.int .i64 n,ptr s] 282 (0,0))/\
  (∀i∈t.ids,kK r (T i).b/\kK r (T i).e/\kK r (T i).mx)/\TG T s root s root (λi=>i∈t.ids) [] t/\(t≠.nil->(T root).c=false)/\vt (zK T t.ids)/\(zK T t.ids).Perm L/\(∀i∈t.ids,F i)/\it∉t.ids
 cs:Wg w s
 fs:F s
 fi:F it
 ne:s≠it
variable{F:Nat->Prop}{L:List Iv}{r r':Rd}{w':World}
theorem q7.frame{w:World}{s:Nat}(h:q7 r w F s it L)(hb:∀j,F j->w'.heap[j]? =w.heap[j]?)(hr:r.le r'):q7 r' w' F s it L:=by obtain⟨⟨T,root,t,n,h1,h2,h3,h4,h5,h6,h7,h8,h9⟩,⟨c,T',hc⟩,k1,k2,k3⟩:=h;exact⟨⟨T,root,t,n,λi hi=>(hb i (h8 i hi)).trans (h1 i hi),(hb it k2).trans h2,λi hi=>⟨(h3 i hi).1.mono hr,(h3 i hi).2.1.mono hr,(h3 i hi).2.2.mono hr⟩,h4,h5,h6,h7,h8,h9⟩,⟨c,T',(hb s k1).trans hc⟩,k1,k2,k3⟩
theorem q7.mono{w:World}{F':Nat->Prop}{s:Nat}(h:q7 r w F s it L)(hF:∀j,F j->F' j):q7 r w F' s it L:=by obtain⟨⟨T,root,t,n,h1,h2,h3,h4,h5,h6,h7,h8,h9⟩,hc,k1,k2,k3⟩:=h;exact⟨⟨T,root,t,n,h1,h2,h3,h4,h5,h6,h7,λi hi=>hF i (h8 i hi),h9⟩,hc,hF _ k1,hF _ k2,k3⟩
theorem q7.perm{w:World}{s:Nat}{L':List Iv}(h:q7 r w F s it L)(hp:L.Perm L'):q7 r w F s it L':=by obtain⟨⟨T,root,t,n,h1,h2,h3,h4,h5,h6,h7,h8,h9⟩,hc,k1,k2,k3⟩:=h;exact⟨⟨T,root,t,n,h1,h2,h3,h4,h5,h6,h7.trans hp,h8,h9⟩,hc,k1,k2,k3⟩
def Gm:EV:=([],.iface 283 (.slice none 0 0))
theorem KO(r:Rd):kK r Gm:=⟨_,rfl,Bs.nil r⟩
def zcr:Nd:=⟨Gm,Gm,Gm,0,0,0,false⟩
variable{T':NM}
theorem TG.congr{s root:Nat}{D':Nat->Prop}{k:List Fr}{t:Tr}(h:TG T s root q x D k t)(he:∀i∈t.ids++zC k,T' i=T i)(hD:∀i∈t.ids++zC k,D' i):TG T' s root q x D' k t:=by have ht:∀i∈t.ids,T' i=T i:=λi hi=>he i (by simp[hi]);have hk:∀i∈zC k,T' i=T i:=λi hi=>he i (by simp[hi]);refine⟨h.is.frame λi hi=>by rw[ht i hi];exact⟨rfl,rfl,rfl⟩,h.mx.frame λi hi=>by rw[ht i hi];exact⟨rfl,rfl⟩,h.cx.frame λi hi=>by rw[hk i hi];exact⟨rfl,rfl,rfl⟩,?_,h.nd,hD⟩;rw[zX (T:=T) λi hi=>by rw[ht i hi]];exact h.ok.frame λi hi=>by rw[hk i hi];exact⟨rfl,rfl⟩
def Top(T:NM)(v:Iv):List Fr->Prop
 |[]=>True
 |.L i _::_=>goL v (jd T i)
 |.R i _::_=> ¬goL v (jd T i)
structure ZI(T:NM)(s root:Nat)(D:Nat->Prop)(v:Iv)(ids:List Nat)(q x:Nat)(k:List Fr)(t:Tr):Prop where
 tg:TG T s root q x D k t
 hole:J4 T v k
 top:Top T v k
 ids:(vL k t).ids=ids
theorem ZI.node{s root:Nat}{v:Iv}{ids:List Nat}{k:List Fr}{t:Tr}(h:ZI T s root D v ids q x k t)(hx:x≠s):∃l r,t=.node x l r/\D x:=by
 cases t with
 |nil=>exact absurd h.tg.is hx
 |node i l r=>obtain⟨rfl,_⟩:=h.tg.is;exact⟨l,r,rfl,h.tg.dk x (by simp[Tr.ids])⟩
theorem ZI.good{s root:Nat}{v:Iv}{ids:List Nat}{k:List Fr}{t:Tr}(h:ZI T s root D v ids q x k t)(hg:vt (zK T ids)):vt (zK T t.ids):=by rw[<-h.ids,jQ,jt,jt]at hg;exact hg.app.1.app.2.1
theorem ZI.left{s root:Nat}{v:Iv}{ids:List Nat}{k:List Fr}{l r:Tr}(h:ZI T s root D v ids q x k (.node x l r))(hg:vt (zK T ids))(hv:goL v (jd T x)):ZI T s root D v ids x (T x).l (.L x r::k) l:=
 ⟨h.tg.downL.2,h.hole.goL (h.good hg) hv,hv,h.ids⟩
theorem ZI.right{s root:Nat}{v:Iv}{ids:List Nat}{k:List Fr}{l r:Tr}(h:ZI T s root D v ids q x k (.node x l r))(hg:vt (zK T ids))(hv: ¬goL v (jd T x)):ZI T s root D v ids x (T x).r (.R x l::k) r:=
 ⟨h.tg.downR.2,h.hole.goR (h.good hg) hv,hv,h.ids⟩
variable{f:Fr}
theorem ZI.fx{T3:NM}{s root:Nat}{v:Iv}{ids:List Nat}{k:List Fr}(h:ZI T s root D v ids q s (f::k) .nil)(Py:(T root).c=false)(hz:z∉zC (f::k))(ht:TG T3 s root q z (yi D z) (f::k) (.node z .nil .nil))(hb:∀j,j≠z->ZV (T j) (T3 j)):FX T3 s root z (yi D z) (f::k) .nil .nil:=by refine⟨⟨_,ht⟩,λ_=> ?_⟩;have hm:=h.tg.cx.root_mem (by simp);have Ho:root≠z:=λe=>hz (e▸zo hm);rw[(hb root Ho).2.2];exact Py
theorem ZI.tell{s root:Nat}{v:Iv}{ids:List Nat}{k:List Fr}{t':Tr}(h:ZI T s root D v ids q s k .nil)(hg:vt (zK T ids))(hv:Q5 v)(hz:z∉zC k)(hT:∀j,j≠z->jd T' j=jd T j)(BZ:jd T' z=v)(hi:t'.ids=(vL k (.node z .nil .nil)).ids):
  vt (zK T' t'.ids)/\(zK T' t'.ids).Perm (v::zK T ids):=by
 have tH:ids=Jh k++Ji k:=by rw[<-h.ids,jQ];simp[Tr.ids]
 have AM:z∉Jh k:=λe=>hz (Ql.2 (Or.inl e));have hzr:z∉Ji k:=λe=>hz (Ql.2 (Or.inr e));have e1:zK T' (Jh k)=zK T (Jh k):=List.map_congr_left λi hi=>hT i (λe=>AM (e▸hi));have e2:zK T' (Ji k)=zK T (Ji k):=List.map_congr_left λi hi=>hT i (λe=>hzr (e▸hi));have e3:zK T' t'.ids=zK T (Jh k)++v::zK T (Ji k):=by rw[hi,jQ];simp only[Tr.ids,List.nil_append,List.append_assoc,jt,e1];show zK T (Jh k)++(jd T' z::zK T' (Ji k))=_;rw[BZ,e2]
 rw[e3,tH];rw[tH]at hg;exact⟨h.hole.good hv hg,by rw[jt];exact List.perm_middle⟩
end Go.Proofs.YtbmdoinjkligiaaGreat
