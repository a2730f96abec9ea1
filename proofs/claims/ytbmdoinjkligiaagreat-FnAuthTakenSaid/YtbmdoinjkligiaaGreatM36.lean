/- The law FnAuthTaken holds, without conditions. -/
import Derived.OpenShut
import Derived.Test.YtbmdoinjkligiaaGreatM35
set_option maxRecDepth 100000
set_option maxHeartbeats 40000000
set_option linter.all false
namespace Go.Proofs.YtbmdoinjkligiaaGreat
open Go.Proofs.Tryz Tryz
open Lib(hid)
open Go.RowKit
theorem zdg:yy prog 40 33 (.agg #[.int .i64 0,.string ⟨#[]⟩,.string ⟨#[]⟩]) 3 40:=⟨by kernel_rfl,by kernel_rfl,rfl,by decide⟩
variable{b n:Nat}
theorem uU{w:World}{T:TypeId}{d:TypeDesc}{o:Nat}{cs:Array Value}(hc:w.rangeAt b o cs.toList)(hu:prog.underlying T=some d)(hd:d.isRow=true)(hi:(prog.info? T).map (·.size)=some n)(hn:cs.size=n):
  (Instr.loadAt T (.pointer (some ⟨b,o,none⟩))).run prog w=.ok (.agg cs) w:=by
 have:=run_loadAt_mid w b o T cs.toList d hc hu hd (by rw[hi,Array.length_toList,hn]);exact this
theorem zb7{w:World}{o:Nat}{x:qE}(hc:w.rangeAt b o x.cells.toList):(Instr.loadAt 33 (.pointer (some ⟨b,o,none⟩))).run prog w=.ok (.agg x.cells) w:=
 uU hc underlying33 (by kernel_rfl) (n:=3) (by kernel_rfl) rfl
variable{L:List Iv}
theorem U6{M:List Iv}(h:∀v,v∈L↔v∈M)(q:Iv):yL L q↔yL M q:=by
 unfold yL;constructor
 ·intro h1 k hk;obtain⟨v,hv,h2⟩:=h1 k hk;exact⟨v,(h v).1 hv,h2⟩
 ·intro h1 k hk;obtain⟨v,hv,h2⟩:=h1 k hk;exact⟨v,(h v).2 hv,h2⟩
open Classical in
theorem zb9{ps qs:List zh}(h:∀p,p∈ps↔p∈qs)(kind:Nat)(k e:Bytes):yT ps kind k e=yT qs kind k e:=by
 unfold yT;have:yL (qq ps kind) (kg k e)↔yL (qq qs kind) (kg k e):=U6 (λv=>by
  unfold qq;simp only[List.mem_map,List.mem_filter];constructor
  ·rintro⟨p,⟨h1,h2⟩,rfl⟩;exact⟨p,⟨(h p).1 h1,h2⟩,rfl⟩
  ·rintro⟨p,⟨h1,h2⟩,rfl⟩;exact⟨p,⟨(h p).2 h1,h2⟩,rfl⟩) _
 exact decide_eq_decide.2 this
def VL(l:List zh):Prop:=l.Pairwise λa b=>a.key≠b.key
variable{p:zh}
theorem zaJ{l:List zh}(h:∀q∈l,q.key≠p.key):y_ l p=Z4 p l:=by
 unfold y_;split
 ·rename_i q hq;rw[if_neg λe=>h q (List.mem_of_getElem? hq) e.1]
 ·rfl
theorem zca:∀(l acc:List zh),(∀p∈l,∀q∈acc,q.key≠p.key)->VL l->(l.foldl y_ acc).Perm (acc++l)
 |[],acc,_,_=>by simp
 |p::l,acc,h,ha=>by
  have Ib:=List.pairwise_cons.1 ha;have hp:(y_ acc p).Perm (p::acc):=by rw[zaJ (h p (by simp)),dw];exact ZS _ _ _
  have h2:=zca l (y_ acc p) (λq hq r hr=>by
   rcases List.mem_cons.1 (hp.mem_iff.1 hr)with rfl|hr
   ·exact Ib.1 q hq
   ·exact h q (by simp[hq]) r hr) Ib.2
  refine h2.trans ((hp.append_right l).trans ?_);exact(List.perm_middle (l₁:=acc) (l₂:=l) (a:=p)).symm
theorem VM{l:List zh}(h:VL l):(l.foldl y_ []).Perm l:=zca l [] (λ_ _ _ hq=>by cases hq) h
variable{ns:List Bytes}{rs:List zm}
theorem zek{rev:Nat}{kind:Int}{k e:Bytes}(hk:kind=15\/kind=16\/kind=17)(h1:zL∉ns):(zR true rev ns rs).ask (kI kind uN k e 0)=if yT ((zR true rev ns rs).permsOf ⟨uN,ns⟩) (if kind=16 then 0 else 1) k (if kind=15 then []else e)then 0 else 10:=by have Rk:(kI kind uN k e 0).kind=kind:=rfl;unfold zA.ask;rw[if_neg (by show ¬true=false;decide),if_neg (by rw[Rk];rintro(h|h)<;>first|(cases h;done)|omega),if_neg (by rw[Rk];omega),if_neg (by show ¬(0:Int)<0;decide),show(kI kind uN k e 0).user=uN from rfl,GC];show(if (⟨uN,ns⟩:zj).root=true then 0 else _)=_;rw[if_neg (by unfold zj.root;simpa using h1),Rk];rfl
theorem VQ:∀(l:List (List zh)) (i:Nat),∀m∈yJ i l,∃j,i<=j/\j<i+l.length/\m=qu j
 |[],i,m,h=>by cases h
 |ps::l,i,m,h=>by
  rcases List.mem_cons.1 h with h|h
  ·exact⟨i,Nat.le_refl _,by simp,h⟩
  ·obtain⟨j,h1,h2,h3⟩:=VQ l (i+1) m h;exact⟨j,by omega,by rw[List.length_cons];omega,h3⟩
variable{u:zj}
theorem fI{s:zA}(hs:zE zm.name s.roles):p∈s.permsOf u↔∃r∈s.roles,r.name∈u.roles/\p∈r.perms:=by
 unfold zA.permsOf;rw[List.mem_flatMap];constructor
 ·rintro⟨n,hn,hp⟩;cases e:s.role n with
  |none=>rw[e]at hp;cases hp
  |some r=>rw[e]at hp;obtain⟨h1,h2⟩:=(qN hs).1 e;exact⟨r,h1,by rw[h2];exact hn,hp⟩
 ·rintro⟨r,hr,hn,hp⟩;refine⟨r.name,hn,?_⟩;have:s.role r.name=some r:=(qN hs).2 ⟨hr,rfl⟩;rw[this];exact hp
theorem zc4(l:List (List zh)):zL∉yJ 0 l:=λh=>by obtain⟨j,_,_,e⟩:=VQ l 0 _ h;unfold zL qu at e;simp at e
theorem zep{l:List (List zh)}(hl:l.length<=3)(hs:∀ps∈l,ps.length<=12):(jE l).length<=46:=by unfold jE;have h1:=QK l 0 hs;rw[List.length_append,List.length_append];show 3+(_+1)<=46;omega
def zdo(how:Nat)(p:qE):zH:=
 if how=0 then ⟨12,[],qu 0,p.kind,p.key,p.stop,false,0,false⟩
 else if how=1 then ⟨6,uN,qu 0,0,[],[],false,0,false⟩
 else ⟨10,[],qu 0,0,[],[],false,0,false⟩
def zd3(how:Nat)(one two:List zh)(i:Nat):List zh:=if how=0 then two++one.take i++one.drop (i+1)else two
theorem r01:zt (qu 0) (qu 1)<0:=VP (by omega) (by omega)
theorem zeA{on:Bool}{rev:Nat}{A B:List zh}:(zR on rev ns [⟨qu 0,A⟩,⟨qu 1,B⟩]).role (qu 0)=some ⟨qu 0,A⟩:=by show qT zm.name [⟨qu 0,A⟩,⟨qu 1,B⟩] (qu 0)=_;rw[j_,if_neg (zI _),if_pos rfl]
theorem zeE{one:List zh}(ha:VL one){i:Nat}(hi:i<one.length)(p:zh):p∈one.take i++one.drop (i+1)↔p∈one/\¬(p.key=one[i].key/\p.stop=one[i].stop):=by
 unfold VL at ha;rw[List.pairwise_iff_getElem]at ha;rw[List.mem_append];constructor
 ·rintro(h|h)
  ·obtain⟨j,hj,rfl⟩:=List.mem_iff_getElem.1 h;rw[List.length_take]at hj;rw[List.getElem_take];exact⟨List.getElem_mem _,λe=>ha j i (by omega) hi (by omega) e.1⟩
  ·obtain⟨j,hj,rfl⟩:=List.mem_iff_getElem.1 h;rw[List.length_drop]at hj;rw[List.getElem_drop];exact⟨List.getElem_mem _,λe=>ha i (i+1+j) hi (by omega) (by omega) e.1.symm⟩
 ·rintro⟨h,Ho⟩;obtain⟨j,hj,rfl⟩:=List.mem_iff_getElem.1 h;rcases Nat.lt_trichotomy j i with h1|h1|h1
  ·left;exact List.mem_iff_getElem.2 ⟨j,by rw[List.length_take];omega,by rw[List.getElem_take]⟩
  ·subst h1;exact absurd ⟨rfl,rfl⟩ Ho
  ·right;refine List.mem_iff_getElem.2 ⟨j-(i+1),by rw[List.length_drop];omega,?_⟩;rw[List.getElem_drop];congr 1;omega
theorem zeB{l:List zh}(ha:VL l)(p:zh):p∈l.foldl y_ []↔p∈l:=(VM ha).mem_iff
theorem zev{l:List zh}{k e:Bytes}:p∈jf l k e↔p∈l/\¬(p.key=k/\p.stop=e):=by unfold jf;rw[List.mem_filter];refine and_congr_right λ_=> ?_;by_cases h1:p.key=k<;>by_cases h2:p.stop=e<;>simp[h1,h2]
theorem zeU{l:List zh}(h:p∈l):(jf l p.key p.stop).length≠l.length:=λe=>by unfold jf at e;have:=(List.length_filter_eq_length_iff.1 e) p h;simp at this
variable{o:zH}
theorem zew{s t:zA}(ha: ¬o.asks)(h:s.change o=(t,0)):s.step o=(t,⟨0,t.rev,t.on,false,[],[]⟩):=by rw[yw ha,h]
theorem zeO{one two:List zh}(h1:VL one)(h2:VL two){i:Nat}(hi:i<one.length){p:qE}(hp:p.m=one[i]){how:Nat}(hh:how<=2)(rev:Nat):
  ∃ns rs,(zR true rev (yJ 0 [one,two]) (jk 0 [one,two])).step (zdo how p)=(zR true (rev+1) ns rs,⟨0,rev+1,true,false,[],[]⟩)/\zL∉ns/\
   ∀q,q∈(zR true (rev+1) ns rs).permsOf ⟨uN,ns⟩↔q∈zd3 how one two i:=by
 have hns:yJ 0 [one,two]=[qu 0,qu 1]:=rfl;have LE:jk 0 [one,two]=[⟨qu 0,one.foldl y_ []⟩,⟨qu 1,two.foldl y_ []⟩]:=rfl;have mf:zL∉yJ 0 [one,two]:=zc4 _;have n01:qu 0≠qu 1:=λe=>by have:=r01;rw[<-e]at this;exact zI _ this
 rw[hns]at mf⊢;rw[LE];have mA:=λq=>zeB h1 q;have mB:=λq=>zeB h2 q;generalize one.foldl y_ []=A at mA⊢;generalize two.foldl y_ []=B at mB⊢;have cU:∀A B:List zh,zE zm.name [⟨qu 0,A⟩,⟨qu 1,B⟩]:=λA B=>by unfold zE;refine List.Pairwise.cons (λz hz=> ?_) (List.Pairwise.cons (λz hz=>by cases hz) List.Pairwise.nil);have hz:z∈[qu 1]:=hz;rw[List.mem_singleton]at hz;rw[hz];exact r01
 have P1:p.key=one[i].key:=by rw[<-hp];rfl
 have haE:p.stop=one[i].stop:=by rw[<-hp];rfl
 rcases(by omega:how=0\/how=1\/how=2)with rfl|rfl|rfl
 ·refine⟨[qu 0,qu 1],[⟨qu 0,jf (A) p.key p.stop⟩,⟨qu 1,B⟩],?_,mf,λq=> ?_⟩
  ·refine zew (o:=⟨12,[],qu 0,p.kind,p.key,p.stop,false,0,false⟩) (by unfold zH.asks;dsimp only;omega) ?_;rw[Dv rfl];unfold QC;dsimp only;rw[zeA];dsimp only;rw[if_neg (by
    rw[P1,haE];exact zeU ((mA _).2 (List.getElem_mem hi)))]
   refine Prod.ext ?_ rfl;show(⟨true,rev+1,_,yO zm.name [⟨qu 0,_⟩,⟨qu 1,_⟩] ⟨qu 0,_⟩⟩:zA)=_;rw[j9,if_neg (zI _),if_pos rfl];rfl
  ·rw[fI (s:=zR true (rev+1) [qu 0,qu 1] _) (cU _ _)];unfold zd3;rw[if_pos rfl,List.append_assoc,List.mem_append,zeE h1 hi];constructor
   ·rintro⟨r,hr,_,hq⟩;have hr:r∈[(⟨qu 0,jf (A) p.key p.stop⟩:zm),⟨qu 1,B⟩]:=hr;rcases List.mem_cons.1 hr with rfl|hr
    ·obtain⟨h3,h4⟩:=zev.1 hq;rw[P1,haE]at h4;exact Or.inr ⟨(mA _).1 h3,h4⟩
    ·rw[List.mem_singleton]at hr;subst hr;exact Or.inl ((mB _).1 hq)
   ·rintro(hq|⟨h3,h4⟩)
    ·exact⟨⟨qu 1,B⟩,List.mem_cons_of_mem _ (List.mem_singleton.2 rfl),by simp,(mB _).2 hq⟩
    ·refine⟨⟨qu 0,jf (A) p.key p.stop⟩,List.mem_cons_self,by simp,zev.2 ⟨(mA _).2 h3,?_⟩⟩;rw[P1,haE];exact h4
 ·refine⟨[qu 1],[⟨qu 0,A⟩,⟨qu 1,B⟩],?_,λe=>mf (List.mem_cons_of_mem _ e),λq=> ?_⟩
  ·refine zew (o:=⟨6,uN,qu 0,0,[],[],false,0,false⟩) (by unfold zH.asks;dsimp only;omega) ?_;rw[WR rfl];unfold Zp;dsimp only;rw[if_neg (λe=>absurd e.2.1 (by decide)),GC];dsimp only;rw[if_pos (by simp)];refine Prod.ext ?_ rfl;show zA.putUser _ _=_;have hd:yl [qu 0,qu 1] (qu 0)=[qu 1]:=by
    unfold yl;simp[n01.symm]
   rw[hd,U7]
  ·rw[fI (s:=zR true (rev+1) [qu 1] _) (cU _ _)];unfold zd3;rw[if_neg (by decide)];constructor
   ·rintro⟨r,hr,hn,hq⟩;have hr:r∈[(⟨qu 0,A⟩:zm),⟨qu 1,B⟩]:=hr;have hn:r.name∈[qu 1]:=hn;rcases List.mem_cons.1 hr with rfl|hr
    ·rw[List.mem_singleton]at hn;exact absurd hn n01
    ·rw[List.mem_singleton]at hr;subst hr;exact(mB _).1 hq
   ·intro hq;exact⟨⟨qu 1,B⟩,List.mem_cons_of_mem _ (List.mem_singleton.2 rfl),List.mem_singleton.2 rfl,(mB _).2 hq⟩
 ·refine⟨[qu 1],[⟨qu 1,B⟩],?_,λe=>mf (List.mem_cons_of_mem _ e),λq=> ?_⟩
  ·refine zew (o:=⟨10,[],qu 0,0,[],[],false,0,false⟩) (by unfold zH.asks;dsimp only;omega) ?_;rw[Ds rfl];unfold Zr;dsimp only;rw[if_neg (λe=>absurd e.2 (by decide)),zeA];dsimp only;refine Prod.ext ?_ rfl;have h3:yj zm.name [⟨qu 0,A⟩,⟨qu 1,B⟩] (qu 0)=[⟨qu 1,B⟩]:=by
    rw[K0,if_neg (zI _),if_pos rfl]
   have h4:([⟨zL,[zL]⟩,⟨uN,[qu 0,qu 1]⟩]:List zj).map (zj.without (qu 0))=[⟨zL,[zL]⟩,⟨uN,[qu 1]⟩]:=by
    have hd:yl [qu 0,qu 1] (qu 0)=[qu 1]:=by unfold yl;simp[n01.symm]
    have Pe:yl [zL] (qu 0)=[zL]:=by decide
    show[(⟨zL,yl [zL] (qu 0)⟩:zj),⟨uN,yl [qu 0,qu 1] (qu 0)⟩]=_;rw[hd,Pe]
   show(⟨true,rev+1,List.map (zj.without (qu 0)) [⟨zL,[zL]⟩,⟨uN,[qu 0,qu 1]⟩],yj zm.name [⟨qu 0,A⟩,⟨qu 1,B⟩] (qu 0)⟩:zA)=_;rw[h3,h4];rfl
  ·rw[fI (s:=zR true (rev+1) [qu 1] [⟨qu 1,B⟩]) (show zM [qu 1]from List.Pairwise.cons (λz hz=>by cases hz) List.Pairwise.nil)];unfold zd3;rw[if_neg (by decide)];constructor
   ·rintro⟨r,hr,hn,hq⟩;have hr:r∈[(⟨qu 1,B⟩:zm)]:=hr;rw[List.mem_singleton]at hr;subst hr;exact(mB _).1 hq
   ·intro hq;exact⟨⟨qu 1,B⟩,List.mem_singleton.2 rfl,List.mem_singleton.2 rfl,(mB _).2 hq⟩
theorem zeP{one two:List zh}(hv:∀ps∈[one,two],∀p∈ps,zU p.key p.stop=true)(hf:∀ps∈[one,two],∀p∈ps,p.fine)(h1:VL one)(h2:VL two)(hs:[one,two].flatten.length<=12)(rj:∀ps∈[one,two],ps.length<=12)
  {i:Nat}(hi:i<one.length){p:qE}(hp:p.m=one[i]){how:Nat}(hh:how<=2){k e:Bytes}(pE:k.length<=64)(cI:e.length<=64)(Lt:zU k e=true):
  (∀o∈jE [one,two]++[zdo how p,kI 16 uN k e 0],o.runs/\o.kind≠13)/\gs (jE [one,two]++[zdo how p,kI 16 uN k e 0])<=12/\(jE [one,two]++[zdo how p,kI 16 uN k e 0]).length<=99/\
   ∃an rev,an.length+1=(jE [one,two]).length/\zA.start.run (jE [one,two]++[zdo how p,kI 16 uN k e 0])=an++[⟨0,rev,true,false,[],[]⟩,⟨0,rev+1,true,false,[],[]⟩,⟨if yT (zd3 how one two i) 0 k e then 0 else 10,rev+1,true,false,[],[]⟩]:=by
 have Lq:p.m.fine:=by rw[hp];exact hf one (by simp) _ (List.getElem_mem hi)
 have pf:(zdo how p).runs/\(zdo how p).kind≠13/\(zdo how p).g=0:=by
  rcases(by omega:how=0\/how=1\/how=2)with rfl|rfl|rfl
  ·exact⟨QZ (o:=zdo 0 p) 12 rfl (by omega) fJ (Nat.zero_le _) (Jw 0) Lq.key Lq.stop (λe=>by omega) (λe=>by omega) (λe=>by omega),U_ 12 rfl (by omega),rfl⟩
  ·exact⟨QZ 6 rfl (by omega) fJ (show 1<=64 by omega) (Jw 0) (Nat.zero_le _) (Nat.zero_le _) (λe=>by omega) (λe=>by omega) (λe=>by omega),U_ 6 rfl (by omega),rfl⟩
  ·exact⟨QZ 10 rfl (by omega) fJ (Nat.zero_le _) (Jw 0) (Nat.zero_le _) (Nat.zero_le _) (λe=>by omega) (λe=>by omega) (λe=>by omega),U_ 10 rfl (by omega),rfl⟩
 refine⟨λo ho=> ?_,?_,?_,?_⟩
 ·rcases List.mem_append.1 ho with ho|ho
  ·exact zc5 hf o ho
  ·rcases List.mem_cons.1 ho with rfl|ho
   ·exact⟨pf.1,pf.2.1⟩
   ·rw[List.mem_singleton]at ho;rw[ho];exact⟨zd0 (by omega) (Or.inl rfl) (show 1<=64 by omega) pE cI Lt,U_ 16 rfl (by omega)⟩
 ·rw[Q0,zdN];have:gs [zdo how p,kI 16 uN k e 0]=0:=by
   unfold gs;simp only[List.map_cons,List.map_nil,pf.2.2];rfl
  omega
 ·rw[List.length_append];have:=zep (l:=[one,two]) (show 2<=3 by omega) rj;show _+2<=99;omega
 ·obtain⟨rev,an,c1,c2⟩:=zcb (l:=[one,two]) (show 2<=3 by omega) hv;have h_:an.length+1=(jE [one,two]).length:=by
   have:=zdU (jE [one,two]) zA.start;rw[c2,List.length_append]at this;exact this
  obtain⟨ns,rs,t1,t2,t3⟩:=zeO h1 h2 hi hp hh rev;refine⟨an,rev,h_,?_⟩;rw[Vt,c1,c2,List.append_assoc];refine congrArg (an++ ·) ?_;have s1:=zdK (s:=zR true (rev+1) ns rs) (kind:=16) (u:=uN) (k:=k) (e:=e) (old:=0) (by omega);rw[zek (Or.inr (Or.inl rfl)) t2,zb9 t3,if_pos rfl,if_neg (show ¬(16:Int)=15 by decide)]at s1;show _::(zA.step _ _).2::(zA.step (zA.step _ _).1 _).2::[]=_;rw[t1];show _::_::(zA.step _ _).2::[]=_;rw[s1];rfl
def zeQ:Bytes:=[117]
def zeq:Bytes:=[114]
def zer(pv:Value)(ps:List zh)(l:zu)(W:World):Prop:=(∀j,l j≠0->j<W.heap.size)/\∃ids:List Nat,Sl (im l.some W) 1 (ids.map ptr) pv/\qz (ju (im l.some W)) ids ps
variable{W W':World}{l l':zu}{pv:Value}
theorem zer.keep{ps:List zh}(h:zer pv ps l W)(hc:qD l W l' W'):zer pv ps l' W':=by obtain⟨_,ids,h1,h2⟩:=h;exact⟨hc.bnd,ids,h1.mono hc.le,qz.mono (λ_ _ hx=>hx.mono hc.le) h2⟩
theorem zer.new{ps:List zh}(h:zer pv ps l W)(hn:za W W'):zer pv ps l W':=h.keep (qD.ofNew h.1 hn)
theorem zey(hb:∀j,l j≠0->j<W.heap.size)(h:W.heap.size<=b): ¬l.some b:=λe=>by have:=hb b e;omega
theorem sz1(w:World)(o:Obj):(w.alloc o).heap.size=w.heap.size+1:=Array.size_push ..
theorem ze0{W0 W2 W3 W4:World}{x y z:Value}{T T2:TypeId}{q2 q3:Nat}(hb:∀j,l j≠0->j<W0.heap.size)(h0:za W0 W2)(h3:W3=W2.alloc (.cells #[.string ⟨#[114]⟩] T))(h4:W4=W3.alloc (.cells #[x,y,.slice (some ⟨q2,0,none⟩) 1 1,z] T2))(PL:q2=W2.heap.size)(hq3:q3=W3.heap.size):YW (im l.some W4) q3 ⟨zeQ,[zeq]⟩:=by
 subst PL hq3;have n3:za W2 W3:=by rw[h3];exact(za.refl W2).alloc _
 have n4:za W3 W4:=by rw[h4];exact(za.refl W3).alloc _
 have r4:W4.heap[W3.heap.size]? =some (.cells #[x,y,.slice (some ⟨W2.heap.size,0,none⟩) 1 1,z] T2 (0,0)):=by rw[h4];exact zg W3 _
 have r3:W4.heap[W2.heap.size]? =some (.cells #[.string ⟨#[114]⟩] T (0,0)):=za.heap n4 (by rw[h3];exact zg W2 _);have c4:W4.cell? ⟨W3.heap.size,2,none⟩=some (.slice (some ⟨W2.heap.size,0,none⟩) 1 1):=by rw[cell_of_row W4 _ 2 _ _ (0,0) r4];rfl
 have c3:W4.cell? ⟨W2.heap.size,0,none⟩=some (.string ⟨#[114]⟩):=by rw[cell_of_row W4 _ 0 _ _ (0,0) r3];rfl
 refine⟨_,zi.2 ⟨zey hb (h0.trans n3).size,c4⟩,_,1,1,rfl,rfl,Nat.le_refl _,by decide,(λe=>by cases e),Or.inr ⟨W2.heap.size,0,rfl,λi hi=> ?_⟩⟩;have er:i=0:=by have:i<1:=hi;omega
 subst er;exact zi.2 ⟨zey hb h0.size,c3⟩
variable{c:Nat}
theorem zeV{p:Option Addr}{ps:List zh}(h:zer (.slice p n c) ps l W)(nm:Bytes):
  Calls prog 146 #[.agg #[.slice p n c],zb nm] W λe w'=>∃r,e=.returned r/\(zer (.slice p n c) ps l w'/\zq l.own W w'/\zdw l w' r (some ⟨zeQ,[zeq]⟩)):=by
 have kc:=λ(w:World) (C:Array Value) (n c:Nat)=>Lib.run_convert_bytes_const (P:=prog) w 75 5 C n c (by kernel_rfl) (by kernel_rfl);have kc2:∀(o:Obj) (C:Array Value) (n c:Nat),(convert 75 75 (.slice (some ⟨W.heap.size+1,0,none⟩) n c)).run prog ((W.alloc o).alloc (.cells C 5))=.ok (.slice (some ⟨W.heap.size+1,0,none⟩) n c) ((W.alloc o).alloc (.cells C 5 (C.size,C.size+1))):=λo C n c=>by
  have h:=kc (W.alloc o) C n c
  rwa [sz1]at h
 have H:=hid h;clear h kc;unfold zb;generalize(⟨nm.toArray⟩:ByteArray)=sx;go_enter func146,ntmps146;go_wp2;go_returns;exact⟨_,rfl,H.out.new ((((za.refl W).alloc _).alloc _).alloc _|>.alloc _),za.mod ((((za.refl W).alloc _).alloc _).alloc _|>.alloc _) _,_,rfl,ze0 H.out.1 (((za.refl W).alloc _).alloc _) rfl rfl (by simp only[sz1]) (by simp only[sz1])⟩
theorem zeW{p:Option Addr}{ps:List zh}(h:zer (.slice p n c) ps l W)(nm:Bytes):
  Calls prog 145 #[.agg #[.slice p n c],zb nm] W λe w'=>∃r,e=.returned r/\(zer (.slice p n c) ps l w'/\zq l.own W w'/\zdx l w' r (some ⟨zeq,ps⟩)):=by
 have kc:=λ(w:World) (C:Array Value) (n c:Nat)=>Lib.run_convert_bytes_const (P:=prog) w 75 5 C n c (by kernel_rfl) (by kernel_rfl);have kc2:∀(o:Obj) (C:Array Value) (n c:Nat),(convert 75 75 (.slice (some ⟨W.heap.size+1,0,none⟩) n c)).run prog ((W.alloc o).alloc (.cells C 5))=.ok (.slice (some ⟨W.heap.size+1,0,none⟩) n c) ((W.alloc o).alloc (.cells C 5 (C.size,C.size+1))):=λo C n c=>by
  have h:=kc (W.alloc o) C n c
  rwa [sz1]at h
 have H:=hid h;clear h kc;unfold zb;generalize(⟨nm.toArray⟩:ByteArray)=sx;go_enter func145,ntmps145;go_wp2;go_returns;have key:∀(W2:World) (x:Value) (T:TypeId) (q:Nat),za W W2->q=W2.heap.size->zer (.slice p n c) ps l (W2.alloc (.cells #[x,.slice p n c] T))/\zq l.own W (W2.alloc (.cells #[x,.slice p n c] T))/\zdx l (W2.alloc (.cells #[x,.slice p n c] T)) (ptr q) (some ⟨zeq,ps⟩):=λW2 x T q hn hq=>by subst hq;have h1:=H.out.new (hn.alloc (.cells #[x,.slice p n c] T));refine⟨h1,za.mod (hn.alloc _) _,_,rfl,?_⟩;obtain⟨_,ids,h2,h3⟩:=h1;refine⟨_,ids,zi.2 ⟨zey H.out.1 hn.size,?_⟩,h2,h3⟩;rw[cell_of_row _ _ 1 _ _ (0,0) (zg W2 (.cells #[x,.slice p n c] T))];rfl
 exact⟨_,rfl,key _ _ _ _ (((za.refl W).alloc _).alloc _) (by simp only[sz1])⟩
theorem ze4(p:Option Addr)(n c:Nat)(ps:List zh):AR0 (· =zeQ) (· =zeq) (zer (.slice p n c) ps) 133 (.agg #[.slice p n c]) (.agg #[.slice p n c]) 146 145 [⟨zeQ,[zeq]⟩] [⟨zeq,ps⟩]where
 keep _ _ _ _ h hc:=h.keep hc
 lt _ _ h:=h.1
 methU _:=by kernel_rfl
 nilU _:=by kernel_rfl
 entU _ _:=by kernel_rfl
 methR _:=by kernel_rfl
 nilR _:=by kernel_rfl
 entR _ _:=by kernel_rfl
 user l W n hn hB _:=by subst hn;rw[j_,if_neg (zI _),if_pos rfl];exact zeV hB _
 role l W n hn hB _:=by subst hn;rw[j_,if_neg (zI _),if_pos rfl];exact zeW hB _
def ze5:zu:=λ_=>0
theorem zeu(w:World):(Rd.le w.cell? (im ze5.some w)):=λ_ _ h=>zi.2 ⟨λe=>e rfl,h⟩
structure zh.asks(p:zh):Prop where
 kind:p.kind<=2
 range:zU p.key p.stop=true
 key:p.key.length<=1000
 stop:p.stop.length<=1000
variable{kv sv:Value}{stop:Bytes}
theorem zeF{w:World}{ids:List Nat}{ps:List zh}{key:Bytes}{kd:Nat}(pW:Sl w.cell? 1 (ids.map ptr) pv)(He:qz (ju w.cell?) ids ps)(hk:Bs w.cell? key kv)(hs:Bs w.cell? stop sv)(sw:∀p∈ps,p.asks)(pS:ps.length<=100)
  (Cr:kd=0\/kd=1)(pE:key.length<=1000)(sZ:zU key stop=true):
  Calls prog 37 #[pv,kv,sv,.int .i32 kd] w λe w'=>e=.returned (.bool (yT ps kd key stop))/\za w w':=by
 obtain⟨p,n,c,rfl⟩:=pW.shape;obtain⟨sp,sn,sc,rfl,RW⟩:=hs.shape;obtain⟨kp,kn,kc,rfl,ph⟩:=hk.shape;have hB:zer (.slice p n c) ps ze5 w:=⟨λj e=>absurd rfl e,ids,pW.mono (zeu w),qz.mono (λ_ _ hx=>hx.mono (zeu w)) He⟩;have tP:key≠[]:=λe=>by rw[e]at sZ;unfold zU at sZ;simp at sZ
 have haN:kB ⟨zeq,ps⟩:=⟨show zeq≠[] by decide,show zeq.length<=1000 by decide,λp hp=>⟨by have:=(sw p hp).kind;omega,λe=>by have:=(sw p hp).range;rw[e]at this;unfold zU at this;simp at this,(sw p hp).key,(sw p hp).stop⟩,pS⟩;have haO:jv ⟨zeQ,[zeq]⟩:=⟨by decide,by decide,λx hx=>by rw[List.mem_singleton]at hx;rw[hx];decide,by decide⟩;have hm:=gN (ze4 p n c ps) (λu hu r hr=>by rw[List.mem_singleton]at hu;subst hu;rw[List.mem_singleton]at hr;exact hr) (List.Pairwise.cons (λz hz=>by cases hz) List.Pairwise.nil) (List.Pairwise.cons (λz hz=>by cases hz) List.Pairwise.nil) (λu hu=>by rw[List.mem_singleton]at hu;rw[hu];exact haO) (λr hr=>by rw[List.mem_singleton]at hr;rw[hr];exact haN) (λr hr q hq=>by rw[List.mem_singleton]at hr;subst hr;exact⟨(sw q hq).kind,(sw q hq).range⟩) (n:=zeQ) rfl hB (by decide)
 rw[j_,if_neg (zI _),if_pos rfl]at hm;have Ei:permsOf [⟨zeq,ps⟩] [zeq]=ps:=by unfold permsOf yu;rw[List.flatMap_cons,List.flatMap_nil,List.append_nil,j_,if_neg (zI _),if_pos rfl]
 have Hq:=hm.mono λe w' hx=>(show∃q,e=.returned (ptr q)/\∃l,xU l w' (ptr q) ps/\(∀j,l j≠0->j<w'.heap.size)/\za w w'/\(im ze5.some w).le (im l.some w') by obtain⟨r,he,l,hg⟩:=hx;rw[Ei]at hg;obtain⟨q,s1,i1,s2,i2,rfl,hq,hq0,B_,tK,hP,F1,F2,t1,t2,NV,MP,_,_⟩:=hg;obtain⟨c0,c1,_,_⟩:=qS B_;have hqn: ¬l.some q:=λe=>e hq0;exact⟨q,he,l,⟨q,s1,i1,s2,i2,F1,F2,rfl,zi.2 ⟨hqn,c0⟩,zi.2 ⟨hqn,c1⟩,t1,t2,NV,MP⟩,tK.1,hP.mod.mono λj _ e=>e.1 rfl,hP.le⟩)
 have HM:=hid Hq;have HK:=hid (hk.mono (zeu w));have HS:=hid (hs.mono (zeu w));have HPS:=hid sw;have HVR:=hid sZ;have wX:=hid RW;have HKD:=hid Cr;have LS:=hid tP;have HKL:=hid pE;clear pW He hk hs sw hB haN haO hm Ei Hq sZ RW ph Cr tP pE;go_enter func37,ntmps37;go_wp2_with fail;refine HM.out.mono ?_;rintro e w1 ⟨q,rfl,l,RG,mw,hQ,hY⟩;have Hs:=hid hQ;by_cases h0:sn=0
 ·subst h0;have ai:stop=[]:=List.eq_nil_of_length_eq_zero wX.out;have HC:=hid (uE (lg:=.pointer none) RG mw (HK.out.mono hY) LS.out HKL.out (λp hp=>(HPS.out p hp).range) HKD.out);clear RG mw hY hQ;go_wp2_with fail;refine HC.out.mono ?_;rintro e w2 ⟨rfl,Hj⟩;have Pf:=hid Hj;clear Hj;go_wp2;go_returns;exact⟨congrArg (λz=>Ending.returned (.bool (yT ps kd key z))) ai.symm,Hs.out.trans Pf.out⟩
 ·have ai:stop≠[]:=λe=>h0 (by rw[<-wX.out,e];rfl);have pI: ¬(sn:Int)=0:=by omega
  have HC:=hid (Vg (lg:=.pointer none) RG mw (HK.out.mono hY) (HS.out.mono hY) ai HVR.out HKD.out);clear RG mw hY hQ;go_wp2_with fail;refine HC.out.mono ?_;rintro e w2 ⟨rfl,Hj⟩;have Pf:=hid Hj;clear Hj;go_wp2;go_returns;exact⟨rfl,Hs.out.trans Pf.out⟩
variable{v5:Value}{w5:World}
theorem ze6{w:World}{z:Value}(hg:w.grownBy w5 z.ownBlock)(hf:∀q,v5.ownBlock=some q->z.ownBlock=some q\/w.heap.size<=q):(im (λj=>z.ownBlock=some j) w).le (im (λj=>v5.ownBlock=some j) w5):=λq v hq=>by obtain⟨h1,h2⟩:=zi.1 hq;have hb:=World.block_lt_of_cell? w q h2;refine zi.2 ⟨λe=>(hf _ e).elim h1 λh=>by omega,(zq.of_grown hg).cell h1 h2⟩
structure PmS(w wr:World)(z:Value)(ps:List zh):Prop where
 new:za w wr
 ex:∃(m:Nat) (ids:List Nat),wr.ownsRow w.heap.size 72 1 z m (ids.map ptr)/\ids.length=ps.length/\qz (ju (im (λj=>z.ownBlock=some j) wr)) ids ps
variable{α β:Type}
theorem qz.snoc{R:α->β->Prop}{l:List α}{m:List β}{x:α}{y:β}(h:qz R l m)(hx:R x y):qz R (l++[x]) (m++[y]):=by
 induction h with
 |nil=>exact qz.cons hx qz.nil
 |cons h0 _ ih=>exact qz.cons h0 ih
variable{v:Value}
theorem zet{w:World}{l:List qE}{key:Bytes}{kd:Nat}(h:Y2 w.cell? l v)(hg:∀p∈l,p.good)(hl:l.length<=12)(Cr:kd=0\/kd=1)(pE:key.length<=64)(pW:stop.length<=64)(sZ:zU key stop=true):
  Calls prog 28 #[v,zb key,zb stop,.int .i64 kd] w λe w'=>e=.returned (.bool (yT (l.map qE.m) kd key stop))/\za w w':=by
 obtain⟨p,c,rfl,mO,hc,hp⟩:=kw.shape yP (by decide) h;obtain⟨kx,rH⟩:∃z,zb key=.string z:=⟨_,rfl⟩;obtain⟨tx,htx⟩:∃z,zb stop=.string z:=⟨_,rfl⟩;rw[rH,htx];have HP:=hid hp;have H:=hid h;have HGD:=hid hg;obtain⟨n,hn⟩:=zex (l.length);rw[<-hn]at mO hl⊢;have HN:=hid hn;have HKX:=hid rH;have ID:=hid htx;have HKD:=hid Cr;have HVR:=hid sZ;clear h hp hn hg rH htx Cr sZ;go_enter func28,ntmps28;go_wp2;go_loopw [9,10] (λz i wr=>∃k:Nat,k<=n/\i=.int .i64 k/\PmS w wr z ((l.take k).map qE.m)) (λ_ i _=>n-(intOf i).toNat)
 case atStart=>exact⟨0,Nat.zero_le _,rfl,za.refl w,0,[],World.ownsRow_nil _ _ _ _,rfl,qz.nil⟩
 case round=>
  obtain⟨k,hk,rfl,sS,m,ids,Ha,h_,He⟩:=hrel;obtain⟨zp,zn,zc,rfl⟩:=(Sl.of_own Ha).shape;by_cases Hb:k<n
  ·have haL:k<l.length:=by rw[<-HN.out];exact Hb
   obtain⟨b,o,rfl⟩:=HP.out (xr haL);have hrg:=kw.range yP (H.out.mono sS.le) haL;have Tc:=HGD.out _ (List.getElem_mem haL);have hld:=zb7 hrg;have wf:=zbC (w:=wr) (k:=l[k].kind) (key:=l[k].key) (stop:=l[k].stop) Tc.kind.1 Tc.kind.2 (by have:=Tc.key;omega) (by have:=Tc.stop;omega);obtain⟨d0,d1,d2⟩:=Vv hrg;obtain⟨ke,e1⟩:∃z,zb l[k].key=.string z:=⟨_,rfl⟩;obtain⟨st,e2⟩:∃z,zb l[k].stop=.string z:=⟨_,rfl⟩;unfold WY at wf;rw[e1,e2]at wf;rw[e1]at d1;rw[e2]at d2;have Ih:=hid wf;have HB:=hid (show((ids.map ptr).length+1)*(8+1)<=140737488355328 by rw[List.length_map,h_,List.length_map,List.length_take];have:min k l.length<=k:=Nat.min_le_left _ _;omega);have tA:=hid (show(l.take (k+1)).map qE.m=(l.take k).map qE.m++[l[k].m] by rw[List.take_succ_eq_append_getElem haL,List.map_append];rfl);have TE:=hid sS;have HOW:=hid Ha;have ig:=hid h_;have Hu:=hid He;have hgS:(k:Int)<n:=by omega
   clear sS Ha He h_ wf hrg Tc hld e1 e2;go_wp2_with fail;refine Ih.out.mono ?_;rintro e w4 ⟨pb,rfl,Rh,wQ,pO⟩;have Te:=hid Rh;have mq:=hid (pO (λj=>(Value.slice zp zn zc).ownBlock=some j) λj e=>(World.ownsRow.lt HOW.out j e).2);have hcp:=hid (qJ (zS HOW.out (λq hq=>Rh.block q (World.ownsRow.lt HOW.out q hq).2 λe=>e)) 0 (Nat.zero_le _));have HLO:=hid (λq hq=>(World.ownsRow.lt HOW.out q hq).1);clear Rh pO wQ d0 d1 d2;go_wp2_with (at_builtin;refine qM KU rfl rfl (World.ownsRow.alloc hcp.out _) rfl rfl (Sl.made w4 [ptr pb] _ 1 1 rfl (by decide)) gB HB.out ?_;intro v7 w7 how EQ oO;obtain⟨p7,n7,c7,rfl⟩:=(Sl.of_own how).shape;have HW7:=hid (And.intro how (And.intro EQ oO));clear how EQ oO);go_roundw
   case rel=>
    obtain⟨how,EQ,oO⟩:=HW7.out;have hY:=ze6 EQ oO;have mL:za w4 (w4.alloc (.cells #[ptr pb] 72)):=(za.refl w4).alloc _;refine⟨k+1,by omega,by go_num,za.of_grown ((TE.out.trans Te.out).trans mL) EQ HLO.out,m+1,ids++[pb],?_,?_,?_⟩
    ·rw[List.map_append];refine⟨how.1,?_⟩;rcases how.2 with h3|⟨g,cap,cur,e3,_,h5⟩
     ·exact Or.inl h3
     ·refine Or.inr ⟨g,cap,cur,e3,?_,h5⟩;rcases oO g (by rw[e3];rfl)with e|e
      ·exact HLO.out g e
      ·have:=((TE.out.trans Te.out).trans mL).size;omega
    ·rw[tA.out,List.length_append,List.length_append,ig.out];rfl
    ·rw[tA.out];exact qz.snoc (qz.mono (λ_ _ hx=>(hx.mono (Te.out.im _)).mono ((mL.im _).le_trans hY)) Hu.out) (mq.out.mono ((mL.im _).le_trans hY))
   case measure=>simp[intOf];omega
  ·have ph:k=n:=by omega
   have ht:l.take k=l:=List.take_of_length_le (by rw[<-HN.out];omega);rw[ht]at He h_;obtain⟨v1,w5,h1,n1,b1,⟨an,ac,rfl⟩,_⟩:=jO (P:=prog) wr 9 75 5 (l:=key) (u:=.string) (by kernel_rfl) (by kernel_rfl) (by kernel_rfl) (by omega);obtain⟨v2,w6,h2,n2,b2,⟨bn,bc,rfl⟩,_⟩:=jO (P:=prog) w5 9 75 5 (l:=stop) (u:=.string) (by kernel_rfl) (by kernel_rfl) (by kernel_rfl) (by omega);have hY:(im (λj=>(Value.slice zp zn zc).ownBlock=some j) wr).le w6.cell? :=(zd _ _).le_trans (n1.trans n2).le;have hz:=zeF (w:=w6) (kd:=kd) ((Sl.of_own Ha).mono (n1.trans n2).le) (qz.mono (λ_ _ hx=>hx.mono hY) He) (b1.mono n2.le) b2 (λq hq=>by
    obtain⟨x,hx,rfl⟩:=List.mem_map.1 hq;have hgx:=HGD.out x hx;have rH:=hgx.kind;exact⟨by show x.kind.toNat<=2;omega,hgx.range,by have:=hgx.key;show x.key.length<=1000;omega,by have:=hgx.stop;show x.stop.length<=1000;omega⟩) (by rw[List.length_map,<-HN.out];omega) HKD.out (by omega) HVR.out
   have h1:(convert 9 75 (.string kx)).run prog wr=.ok (.slice (some ⟨wr.heap.size,0,none⟩) an ac) w5:=by rw[<-HKX.out];exact h1
   have h2:(convert 9 75 (.string tx)).run prog w5=.ok (.slice (some ⟨w5.heap.size,0,none⟩) bn bc) w6:=by rw[<-ID.out];exact h2
   have HZ:=hid hz;have TE:=hid (sS.trans (n1.trans n2));clear sS Ha He h_ n1 n2 b1 b2 hY hz;rcases HKD.out with rfl|rfl
   ·go_wp2_with fail;refine HZ.out.mono ?_;rintro e w8 ⟨rfl,r9⟩;have HN8:=hid r9;clear r9;go_wp2;go_returns;exact⟨rfl,TE.out.trans HN8.out⟩
   ·go_wp2_with fail;refine HZ.out.mono ?_;rintro e w8 ⟨rfl,r9⟩;have HN8:=hid r9;clear r9;go_wp2;go_returns;exact⟨rfl,TE.out.trans HN8.out⟩
theorem zeh{l:List qE}(h:GE l l.length):VL (l.map qE.m):=by unfold VL;rw[List.pairwise_iff_getElem];intro i j hi hj MG e;rw[List.length_map]at hi hj;rw[List.getElem_map,List.getElem_map]at e;exact h j i hj hj MG e.symm
theorem zdi{f:α->Array Value}{l:List α}(h:∀x,∀u∈(f x).toList,u.oneCell'=true):∀u∈jc f l,u.oneCell'=true:=by intro u hu;unfold jc at hu;obtain⟨x,_,hx⟩:=List.mem_flatMap.1 hu;exact h x u hx
theorem zd1(x:qE):∀u∈x.cells.toList,u.oneCell'=true:=by intro u hu;simp only[qE.cells,List.mem_cons,List.not_mem_nil,or_false]at hu;rcases hu with rfl|rfl|rfl<;>rfl
theorem zbz{a b c:List qE}(ha:a.length<=2147483647)(hb:b.length<=2147483647)(hc:c.length<=2147483647):((jc qE.cells (a++b)).length+(jc qE.cells c).length)*(40+1)<=140737488355328:=by rw[xq yP,xq yP,List.length_append];omega
variable{base:Nat}{e:TypeId}
theorem zei{f:α->Array Value}(hf:∀x,(f x).size=n)(hn:0<n){w:World}{q:Option Addr}{m m':Nat}{l:List α}(h:w.ownsRow base e n (.slice q m c) m' (jc f l)):m=l.length:=by obtain⟨p',n',c',e9,hl',_⟩:=Sl.of_own h;simp only[Value.slice.injEq]at e9;obtain⟨_,rfl,_⟩:=e9;rw[xq hf]at hl';exact(Nat.eq_of_mul_eq_mul_right hn hl').symm
theorem zeo{a b:List qE}:jc qE.cells a++jc qE.cells b=jc qE.cells (a++b):=(gS _ _ _).symm
def TE(kd:Int)(ux rx:ByteArray)(pk:Int)(kx tx:ByteArray):List Value:=[.int .i64 kd,.string ux,.string rx,.int .i64 pk,.string kx,.string tx,.bool false,.int .i64 0,.bool false]
theorem zfa(kd:Int)(ux rx:ByteArray)(pk:Int)(kx tx:ByteArray):∀y∈TE kd ux rx pk kx tx,y.oneCell'=true:=by intro y hy;simp only[TE,List.mem_cons,List.not_mem_nil,or_false]at hy;rcases hy with rfl|rfl|rfl|rfl|rfl|rfl|rfl|rfl|rfl<;>rfl
theorem zfb{a b x:α}(h:x∈[a,b]):x=a\/x=b:=by simpa using h
def zd6(how:Nat)(a b:List qE)(i:Nat):List qE:=if how=0 then b++a.take i++a.drop (i+1)else b
theorem zeR(how:Nat)(a b:List qE)(i:Nat):(zd6 how a b i).map qE.m=zd3 how (a.map qE.m) (b.map qE.m) i:=by
 unfold zd6 zd3;split
 ·rw[List.map_append,List.map_append,List.map_take,List.map_drop]
 ·rfl
theorem zeX{how:Nat}{a b:List qE}{i:Nat}{x:qE}(h:x∈zd6 how a b i):x∈a++b:=by
 unfold zd6 at h;split at h
 ·simp only[List.mem_append]at h⊢;rcases h with(h|h)|h
  ·exact Or.inr h
  ·exact Or.inl (List.mem_of_mem_take h)
  ·exact Or.inl (List.mem_of_mem_drop h)
 ·exact List.mem_append_right _ h
theorem zeY{how:Nat}{a b:List qE}{i:Nat}(h:(a++b).length<=12):(zd6 how a b i).length<=12:=by
 unfold zd6;rw[List.length_append]at h;split
 ·rw[List.length_append,List.length_append,List.length_take,List.length_drop];omega
 ·omega
theorem ze2(s:zA)(o:zH):(s.step o).2.rev=(s.change o).1.rev:=by
 unfold zA.step;dsimp only
 repeat' (first|rfl|split)
theorem zeM:∀(l:List zH) (s:zA) (k:Nat),Ok s k->(∀o∈l,o.runs)->∀a∈s.run l,a.rev<=k+l.length+1
 |[],_,_,_,_,a,h=>by cases h
 |o::l,s,k,hk,ho,a,h=>by
   have hf:=(ho o (by simp)).fits;rw[List.length_cons];rcases List.mem_cons.1 h with rfl|h
   ·rw[ze2];have:=(XR hk hf).small.rev;omega
   ·have:=zeM l _ (k+1) (zbp hk hf) (λo h=>ho o (by simp[h])) a h;omega
variable{j:Nat}
theorem zes{f:α->Array Value}(hf:∀x,(f x).size=n)(l:List α)(hj:j<=l.length):(jc f l).take (j*n)=jc f (l.take j)/\(jc f l).drop (j*n)=jc f (l.drop j):=by have e:=gS f (l.take j) (l.drop j);have h:=xq hf (l.take j);rw[List.length_take,Nat.min_eq_left hj]at h;rw[List.take_append_drop]at e;rw[e];exact⟨List.take_left' h,List.drop_left' h⟩
variable{r:Rd}
theorem zeS{l:List qE}{o:Nat}(hn:n=l.length)(h:Y2 r l (.slice (some ⟨b,o,none⟩) n c))(hj:j<l.length):
  Sl r 3 (jc qE.cells (l.take j)) (.slice (some ⟨b,o,none⟩) j c)/\Sl r 3 (jc qE.cells (l.drop (j+1))) (.slice (some (if c=j+1 then ⟨b,o,none⟩else ⟨b,o+(j+1)*3,none⟩)) (n-(j+1)) (c-(j+1))):=by
 subst hn;have g1:=Sl.part h 0 j (Nat.zero_le _) (Nat.le_of_lt hj);have g2:=Sl.part h (j+1) l.length hj (Nat.le_refl _);rw[(zes yP l (Nat.le_of_lt hj)).1]at g1;rw[(zes yP l (Nat.le_refl _)).1,List.take_length,(zes yP l hj).2]at g2;rw[apply_ite some];simp[Addr.add]at g1 g2⊢;exact⟨g1,g2⟩
theorem zeH(hR:∀o:zH,o.runs->o.kind≠13->zdI o){w:World}{l1 l2:List qE}{v1 v2:Value}{k e:Bytes}{x y:Int}(h1:Y2 w.cell? l1 v1)(h2:Y2 w.cell? l2 v2):
  Calls prog 9 #[v1,v2,.int .i64 x,.int .i64 y,zb k,zb e] w λe w'=>e=.returned (.bool true)/\za w w':=by
 obtain⟨kx,rH⟩:∃z,zb k=.string z:=⟨_,rfl⟩;obtain⟨tx,htx⟩:∃z,zb e=.string z:=⟨_,rfl⟩;obtain⟨p1,c1,rfl,r8,hiG,Ng⟩:=kw.shape yP (by decide) h1;obtain⟨p2,c2,rfl,Nj,_,_⟩:=kw.shape yP (by decide) h2;obtain⟨bk,hK,PX⟩:=zaP k;obtain⟨be,hE,bV⟩:=zaP e;obtain⟨bv,mt⟩:=zex (zU k e);have hV:=λW=>zaQ (w:=W) mt;rw[rH]at hK hV⊢;rw[htx]at hE hV⊢;have HK:=hid hK;have HE:=hid hE;have HV:=hid hV;have HKX:=hid rH;have ID:=hid htx;have HKB:=hid PX;have HEB:=hid bV;have HBV:=hid mt;have rX:=hid hR;have hcu:=hid Ng;obtain⟨n1,hQ⟩:=zex (l1.length);obtain⟨n2,Hj⟩:=zex (l2.length);rw[<-hQ,<-Hj];rw[<-hQ]at r8 h1;rw[<-Hj]at Nj h2;have H1:=hid h1;have H2:=hid h2;have Hs:=hid hQ;have HF:=hid (zem h1);clear h1 h2 hK hE hV rH htx PX bV mt hR hQ Hj Ng;go_enter func9,ntmps9;go_wp2_with fail;refine HF.out.mono ?_;rintro e w1 ⟨b,rfl,hn,Pb⟩;have HA:=hid hn;have Rq:=hid Pb;clear hn Pb HF;cases b
 ·go_wp2;go_returns;exact⟨rfl,HA.out⟩
 have HF:=hid (zem (H2.out.mono HA.out.le));go_wp2_with fail;refine HF.out.mono ?_;rintro e w3 ⟨b,rfl,hn,Pb⟩;have HA3:=hid (HA.out.trans hn);have SB:=hid Pb;clear hn Pb HF;cases b
 ·go_wp2;go_returns;exact⟨rfl,HA3.out⟩
 have Pb:=Rq.out (by first|trivial|rfl);have pw:=SB.out (by first|trivial|rfl);have S6:=hid (zbz (a:=[]) (b:=[]) (c:=l1) (Nat.zero_le _) (Nat.zero_le _) Pb);have Nl:=hid (zbz (a:=[]) (b:=l1) (c:=l2) (Nat.zero_le _) Pb pw);have HO1:=hid (zdi zd1 (l:=l1));have HO2:=hid (zdi zd1 (l:=l2));clear Pb pw Rq SB;go_wp2_with (first|(at_builtin;refine qy zdg rfl rfl ((za.refl w3).alloc _) (vG (Nat.le_refl _) (zg w3 _)) rfl rfl ((H1.out.mono HA3.out.le).mono (za.le ((za.refl w3).alloc _))) HO1.out S6.out ?_;intro v4 w4 m4 pP ho hn hg PV;obtain⟨q4,n4,d4,rfl⟩:=PV.shape;have EK:=hid ho;have HA4:=hid hn;clear pP ho hn hg PV)|(at_builtin;refine qy zdg rfl rfl HA4.out EK.out rfl rfl (H2.out.mono (HA3.out.trans HA4.out).le) HO2.out Nl.out ?_;intro v6 w6 m6 PP ho hn hg PC;rw[List.nil_append,zeo]at PC;obtain⟨q6,n6,d6,rfl⟩:=PC.shape;have HAL:=hid PC;have HA6:=hid (HA3.out.trans hn);clear PP ho hn hg PC))
 all_goals try(go_returns;exact⟨rfl,HA3.out⟩)
 clear EK HA4 HA;have HPR:=hid (zdm (l:=l1++l2) HAL.out);refine HPR.out.mono ?_;rintro e w7 ⟨b,rfl,hn,N9⟩;have HA7:=hid (HA6.out.trans hn);have lQ:=hid N9;clear hn N9 HPR;cases b
 ·go_wp2;go_returns;exact⟨rfl,HA7.out⟩
 have HAP:=hid (zdn (H1.out.mono HA7.out.le));go_wp2_with fail
 all_goals try(go_returns;exact⟨rfl,HA7.out⟩)
 refine HAP.out.mono ?_;rintro e w8 ⟨b,rfl,hn,Rj⟩;have HA8:=hid (HA7.out.trans hn);have HP1:=hid Rj;clear hn Rj HAP;cases b
 ·go_wp2;go_returns;exact⟨rfl,HA8.out⟩
 have HAP:=hid (zdn (H2.out.mono HA8.out.le));go_wp2_with fail;refine HAP.out.mono ?_;rintro e w9 ⟨b,rfl,hn,Rj⟩;have HA9:=hid (HA8.out.trans hn);have Ll:=hid Rj;clear hn Rj HAP;cases b
 ·go_wp2;go_returns;exact⟨rfl,HA9.out⟩
 go_wp2_with fail
 all_goals try(go_returns;exact⟨rfl,HA9.out⟩)
 refine(HK.out _).mono ?_;rintro e w9' ⟨rfl,rfl⟩;cases bk
 ·go_wp2;go_returns;exact⟨rfl,HA9.out⟩
 go_wp2_with fail;refine(HE.out _).mono ?_;rintro e w9' ⟨rfl,rfl⟩;cases be
 ·go_wp2;go_returns;exact⟨rfl,HA9.out⟩
 go_wp2_with fail;refine(HV.out _).mono ?_;rintro e w9' ⟨rfl,rfl⟩;cases bv
 ·go_wp2;go_returns;exact⟨rfl,HA9.out⟩
 obtain⟨j,hj⟩:∃j:Nat,x=j:=⟨x.toNat,by omega⟩;subst hj;have hj1:j<n1:=by omega
 obtain⟨ho,hho⟩:∃j:Nat,y=j:=⟨y.toNat,by omega⟩;subst hho;have hcA:ho<=2:=by omega
 have haU:=lQ.out (by first|trivial|rfl);have h_:=haU.len;have R7:=haU.good;have rC:j<l1.length:=by rw[<-Hs.out];exact hj1
 have Ri:∀ps∈[l1,l2],∀x∈ps,x.good:=λps sw x hx=>by
  rcases zfb sw with rfl|rfl
  ·exact R7 x (by simp[hx])
  ·exact R7 x (by simp[hx])
 have hll:∀ps∈[l1,l2],ps.length<=12:=λps sw=>by rw[List.length_append]at h_;rcases zfb sw with rfl|rfl<;>omega
 have RZ:∀qs∈[l1.map qE.m,l2.map qE.m],∃ps∈[l1,l2],qs=ps.map qE.m:=λqs N3=>by
  rcases zfb N3 with rfl|rfl
  ·exact⟨l1,by simp,rfl⟩
  ·exact⟨l2,by simp,rfl⟩
 have hgm:∀qs∈[l1.map qE.m,l2.map qE.m],∀p∈qs,∃x:qE,x.good/\p=x.m:=λqs N3 p hp=>by obtain⟨ps,sw,rfl⟩:=RZ qs N3;obtain⟨x,hx,rfl⟩:=List.mem_map.1 hp;exact⟨x,Ri ps sw x hx,rfl⟩
 have Lt:=HBV.out.symm;have pE:=HKB.out (by first|trivial|rfl);have cI:=HEB.out (by first|trivial|rfl);obtain⟨pj,hpj⟩:=zex (l1[j]);have pQ:=zeP (one:=l1.map qE.m) (two:=l2.map qE.m) (λqs N3 p hp=>by obtain⟨x,hx,rfl⟩:=hgm qs N3 p hp;exact hx.range)
  (λqs N3 p hp=>by obtain⟨x,hx,rfl⟩:=hgm qs N3 p hp;exact⟨by have:=hx.kind;show x.kind.toNat<=2;omega,hx.key,hx.stop⟩)
  (zeh (HP1.out (by first|trivial|rfl))) (zeh (Ll.out (by first|trivial|rfl)))
  (by rw[List.length_append]at h_;simp only[List.flatten_cons,List.flatten_nil,List.length_append,List.length_map,List.length_nil];omega) (λqs N3=>by obtain⟨ps,sw,rfl⟩:=RZ qs N3;rw[List.length_map];exact hll ps sw)
  (i:=j) (by rw[List.length_map];exact rC) (p:=pj) (by rw[List.getElem_map,hpj]) hcA (k:=k) (e:=e) pE cI Lt
 obtain⟨haP,hgs,hbi,an,rev,hbj,pQ⟩:=pQ;rw[<-zeR]at pQ;obtain⟨W9,iD⟩:=zex (w9.alloc (.cells #[.slice p1 n1 c1,.slice p2 n2 c2] 40));have R0:za w9 W9:=by rw[iD];exact(za.refl w9).alloc _
 have mL:=HA9.out.trans R0;have eh:zbT W9.cell? [l1,l2] (.slice (some ⟨w9.heap.size,0,none⟩) 2 2):=⟨[.slice p1 n1 c1,.slice p2 n2 c2],by rw[iD];exact Sl.made w9 [.slice p1 n1 c1,.slice p2 n2 c2] _ 1 2 rfl (by decide),qz.cons (H1.out.mono mL.le) (qz.cons (H2.out.mono mL.le) qz.nil)⟩;have HCT:=hid (zdl eh (show 2<=3 by omega) λps sw=>⟨hll ps sw,λx hx=>(Ri ps sw x hx).kind.1⟩);have hcD:an.length<=45:=by have h9:=zep (l:=[l1.map qE.m,l2.map qE.m]) (show 2<=3 by omega) (λqs N3=>by obtain⟨ps,sw,rfl⟩:=RZ qs N3;rw[List.length_map];exact hll ps sw);omega
 have hbz:=hid pQ;have mR:=hid haP;have HGS:=hid hgs;have hbA:=hid hbi;have haF:=hid hbj;have HVE:=hid Lt;have HEL:=hid cI;have HKL:=hid pE;have hbB:=hid R7;have H7:=hid h_;have HW9:=hid iD;have wU:=hid mL;have HJL:=hid rC;have HPJ:=hid (show∀h:j<l1.length,pj=l1[j]from λ_=>hpj);clear haU h_ R7 Ri hll RZ hgm hpj Lt pE cI haP hgs hbi hbj pQ iD R0 mL eh lQ HP1 Ll HK HE HV S6 HO1 HBV HKB HEB rC;go_wp2_with fail;rw[<-HW9.out];refine HCT.out.mono ?_;rintro e w11 ⟨z,m,rfl,Iy,Ha⟩;obtain⟨q,m2,c4,rfl⟩:=(Sl.of_own Ha).shape;have hcF:m2=an.length+1:=by rw[zei Y1 (by decide) Ha,haF.out];rfl
 subst hcF;have hbC:=hid (wU.out.trans Iy);have Co:=hid Iy;have haR:w11.ownsRow W9.heap.size 35 9 (.slice q (an.length+1) c4) m (jc zH.cells (jE [l1.map qE.m,l2.map qE.m])):=Ha;have Px:=hid haR;have SR:=hid (Q2 (l:=jE [l1.map qE.m,l2.map qE.m]) (by rw[<-haF.out];omega));have bP:=hid (zbz (a:=[]) (b:=[]) (c:=l2) (Nat.zero_le _) (Nat.zero_le _) (by have:=H7.out;rw[List.length_append]at this;omega));clear Iy Ha haR HCT Nl;go_upto_region 7 with fail
 go_upto_block 0 with(at_builtin;refine qy zdg rfl rfl ((za.refl w11).alloc _) (vG (Nat.le_refl _) (zg w11 _)) rfl rfl ((H2.out.mono hbC.out.le).mono (za.le ((za.refl w11).alloc _))) HO2.out bP.out ?_;intro v4 w12 m4 pP ho hn hg PV;obtain⟨q5,n5,c5,rfl⟩:=PV.shape;have oV:=hid ho;have haM:=hid hn;clear pP ho hn hg PV)
 have HOW:=hid (zS Px.out (λb hb=>haM.out.block b (World.ownsRow.lt Px.out b hb).2 λe=>e));have HNY:=hid (Co.out.trans haM.out);have haV:=hid (qJ HOW.out 0 (Nat.zero_le _));have mg:=hid (λb (hb:(Value.slice q (an.length+1) c4).ownBlock=some b)=>World.ownsRow.lt Px.out b hb);have Rr:=hid (λb (hb:(Value.slice q5 n5 c5).ownBlock=some b)=>World.ownsRow.lt oV.out b hb);go_cut [14,15] (λc14 c15 wx=>∃(z:Option Addr) (zn zc m':Nat),c14=.slice z zn zc/\za W9 wx/\wx.ownsRow 0 35 9 (.slice z zn zc) m' (jc zH.cells (jE [l1.map qE.m,l2.map qE.m]++[zdo ho pj]))/\(∀b,(Value.slice z zn zc).ownBlock=some b->W9.heap.size<=b/\c15.ownBlock≠some b)/\Y2 wx.cell? (zd6 ho l1 l2 j) c15)
 case first=>
  rcases(by omega:ho=0\/ho=1\/ho=2)with rfl|rfl|rfl
  ·obtain⟨b,o,rfl⟩:=hcu.out (xr HJL.out);have hrg:=kw.range yP (H1.out.mono (hbC.out.trans haM.out).le) HJL.out;obtain⟨d0,d1,d2⟩:=Vv hrg;rw[<-HPJ.out]at d0 d1 d2;obtain⟨px,sk⟩:∃z,zb pj.key=.string z:=⟨_,rfl⟩;obtain⟨ps,sw⟩:∃z,zb pj.stop=.string z:=⟨_,rfl⟩;rw[sk]at d1;rw[sw]at d2;have HTE:=hid (show TE 12 ⟨#[]⟩ ⟨#[114,111,108,101,97]⟩ pj.kind px ps=jc zH.cells [zdo 0 pj] by unfold TE;rw[<-sk,<-sw];rfl);have HTO:=hid (show∀u∈TE 12 ⟨#[]⟩ ⟨#[114,111,108,101,97]⟩ pj.kind px ps,u.oneCell'=true by rw[HTE.out];exact Q1 _);obtain⟨hj0,IR,MP,hf3,hf4,PU,hf6⟩:(0:Int)<=j/\(j:Int)<n1/\(j:Int)+1<=n1/\(0:Int)<=(j:Int)+1/\(j:Int)<=n1/\(n1:Int)<=c1/\(j:Int)<=c1:=by omega
   clear sk sw hrg;go_upto_region 12 with(at_builtin;refine qM gT rfl rfl (World.ownsRow.alloc haV.out _) rfl rfl (Sl.made _ (TE 12 ⟨#[]⟩ ⟨#[114,111,108,101,97]⟩ pj.kind px ps) _ 9 1 rfl (by decide)) HTO.out SR.out ?_;intro v8 w8 ho hg hf;rw[HTE.out,Jb]at ho;obtain⟨p8,n8,c8,rfl⟩:=(Sl.of_own ho).shape;have HO8:=hid ho;have HF8:=hid hf;have HG8:=hid hg;clear ho hg hf)
   have HN8:=hid (za.of_grown (HNY.out.alloc _) HG8.out (λb hb=>(mg.out b hb).1));have NV:IntKind.i64.wrap ((j:Int)+1)=(j:Int)+1:=IntWalk.i64_in _ (by omega);clear d0 d1 d2;have hbE:w8.ownsRow 0 33 3 (.slice q5 n5 c5) _ (jc qE.cells l2):=(qJ (zS (World.ownsRow.alloc oV.out (.cells (TE 12 ⟨#[]⟩ ⟨#[114,111,108,101,97]⟩ pj.kind px ps).toArray 35)) (λb hb=>(zq.of_grown HG8.out).block b (World.ownsRow.lt (World.ownsRow.alloc oV.out _) b hb).2 (λe=>by have g1:=(World.ownsRow.lt oV.out b hb).1;have g2:=(World.ownsRow.lt Px.out b e).2;omega))) 0 (Nat.zero_le _));have hcI:=hid hbE;clear hbE;have Nh:=hid (λ(W:World) (hW:za w W)=>zeS Hs.out (H1.out.mono hW.le) HJL.out);have hcJ:=hid (show za w w8 from wU.out.trans HN8.out)
   have SD:=hid (zbz (a:=l2) (b:=l1.take j) (c:=l1.drop (j+1)) (by have:=H7.out;rw[List.length_append]at this;omega) (by rw[List.length_take];omega) (by have:=H7.out;rw[List.length_append]at this;rw[List.length_drop];omega));have HSA:=hid (Nh.out _ (hcJ.out.trans (za.refl w8).drew)).1;have hcK:=hid (show((jc qE.cells l2).length+(jc qE.cells (l1.take j)).length)*(40+1)<=140737488355328 from zbz (a:=[]) (b:=l2) (c:=l1.take j) (Nat.zero_le _) (by have:=H7.out;rw[List.length_append]at this;omega) (by rw[List.length_take];omega));have C_:=λW hW=>(Nh.out W hW).2;rcases(by by_cases h:c1=j+1<;>simp[h]:(c1=j+1↔True)\/(c1=j+1↔False))with hcj|hcj
   all_goals
    simp only[hcj,↓reduceIte]at C_;have hcL:=hid C_;clear C_
    go_region_law (first|(with_reducible refine Zg zdg (s:=.tmp 125) (x:=.tmp 128) (v:=.slice q5 n5 c5) (ad:=⟨b,o,none⟩) (m:=j) (c:=c1) (news:=jc qE.cells (l1.take j)) ?_ ?_ (Zb hcI.out) ?_ ?_ HSA.out (zdi zd1) hcK.out ?_;rfl;rfl;(simp[Act.eval,Act.put]);(simp[Act.eval,Act.put]);intro v9 w9' ho hg hf;rw[<-gS]at ho;obtain⟨p9,n9,c9,rfl⟩:=(Sl.of_own ho).shape;have HO9:=hid ho;have HG9:=hid hg;have HF9:=hid hf;have hbF:=hid (za.of_grown (HN8.out.trans (za.refl w8).drew) hg (λb hb=>Nat.le_trans Co.out.size (Rr.out b hb).1));have bd:=hid (hcL.out w9' (wU.out.trans hbF.out));clear ho hg hf)|((with_reducible refine Zg zdg (s:=.tmp 129) (x:=.tmp 133) (v:=.slice p9 n9 c9) (m:=n1-(j+1)) (c:=c1-(j+1)) (news:=jc qE.cells (l1.drop (j+1))) ?_ ?_ HO9.out ?_ ?_ bd.out (zdi zd1) SD.out ?_);rfl;rfl;(simp[Act.eval]);(simp[Act.eval]);intro vA wA ho hg hf;rw[<-gS]at ho;obtain⟨pA,nA,cA,rfl⟩:=(Sl.of_own ho).shape;have HOA:=hid ho;have HGA:=hid hg;have HFA:=hid hf;clear ho hg hf))
    go_wp2;go_meet;have lA:∀b,(Value.slice p8 n8 c8).ownBlock=some b->b<w8.heap.size/\W9.heap.size<=b/\(Value.slice q5 n5 c5).ownBlock≠some b:=λb hb=>by
     have g0:=(World.ownsRow.lt HO8.out b hb).2;rcases HF8.out b hb with e9|e9
     ·exact⟨g0,(mg.out b e9).1,λe8=>by have g1:=(Rr.out b e8).1;have g2:=(mg.out b e9).2;omega⟩
     ·rw[sz1]at e9;exact⟨g0,by have:=HNY.out.size;omega,λe8=>by have g1:=(Rr.out b e8).2;omega⟩
    have Bk:∀b,(Value.slice p8 n8 c8).ownBlock=some b->(Value.slice p9 n9 c9).ownBlock≠some b:=λb hb e=>by
     obtain⟨g0,_,g2⟩:=lA b hb;rcases HF9.out b e with e9|e9
     ·exact g2 e9
     ·have e9:w8.heap.size<=b:=e9;omega
    have Mm:w8.heap.size<=w9'.heap.size:=HG9.out.size;have hdA:∀b,(Value.slice p8 n8 c8).ownBlock=some b->(Value.slice pA nA cA).ownBlock≠some b:=λb hb e=>by
     obtain⟨g0,_,_⟩:=lA b hb;rcases HFA.out b e with e9|e9
     ·exact Bk b hb e9
     ·omega
    have e0:zd6 0 l1 l2 j=l2++l1.take j++l1.drop (j+1):=if_pos rfl;have hnA:za W9 wA:=za.of_grown hbF.out HGA.out (λb hb=>by
     rcases HF9.out b hb with e9|e9
     ·exact Nat.le_trans Co.out.size (Rr.out b e9).1
     ·exact Nat.le_trans HN8.out.size e9)
    refine⟨p8,n8,c8,_,rfl,hnA,zS (zS HO8.out (λb hb=>HG9.out.block b (lA b hb).1 (λe=>(lA b hb).2.2 e.symm))) (λb hb=>HGA.out.block b (Nat.lt_of_lt_of_le (lA b hb).1 Mm) (λe=>Bk b hb e.symm)),λb hb=>⟨(lA b hb).2.1,hdA b hb⟩,?_⟩;rw[e0];exact Sl.of_own HOA.out
  all_goals
   have hcM:=hid (show Y2 w12.cell? l2 (.slice q5 n5 c5)from Sl.of_own oV.out);go_wp2_with (at_builtin;refine qM gT rfl rfl (World.ownsRow.alloc haV.out _) rfl rfl (Sl.made _ (TE _ _ _ _ _ _) _ 9 1 rfl (by decide)) (zfa _ _ _ _ _ _) SR.out ?_;intro v8 w8 ho hg hf;obtain⟨p8,n8,c8,rfl⟩:=(Sl.of_own ho).shape;have HO8:=hid ho;have HF8:=hid hf;have HG8:=hid hg;clear ho hg hf);go_meet;refine⟨p8,n8,c8,_,rfl,za.of_grown (HNY.out.alloc _) HG8.out (λb hb=>(mg.out b hb).1),(by rw[gS];exact HO8.out),λb hb=> ?_,(Sl.mono (λa v ha=>(zq.of_grown HG8.out).cell (zi.1 ha).1 (zi.1 ha).2) (Sl.im_of (S:=λb=>(Value.slice q (an.length+1) c4).ownBlock=some b) (Sl.mono (za.le ((za.refl w12).alloc _)) hcM.out) (λb hb e=>by have g1:=(Rr.out b hb).1;have g2:=(mg.out b e).2;omega)))⟩;rcases HF8.out b hb with e9|e9
   ·exact⟨(mg.out b e9).1,λe8=>by have g1:=(Rr.out b e8).1;have g2:=(mg.out b e9).2;omega⟩
   ·rw[sz1]at e9;exact⟨by have:=HNY.out.size;omega,λe8=>by have g1:=(Rr.out b e8).2;omega⟩
 case rest=>
  obtain⟨z,zn,zc,m',rfl,hny,Ha,SN,Pi⟩:=hcut;obtain⟨q7,c7,rfl,wT,_,_⟩:=kw.shape yP (by decide) Pi;have TQ:zn=an.length+2:=by rw[zei Y1 (by decide) Ha,List.length_append,<-haF.out];rfl
  subst TQ;obtain⟨nr,sS⟩:=zex ((zd6 ho l1 l2 j).length);rw[<-sS]at Pi SN⊢;have hcN:=hid hny;have hcO:=hid Ha;have Od:=hid Pi;have hbG:=hid SN;have HTE:=hid (show TE 16 ⟨#[117]⟩ ⟨#[]⟩ 0 kx tx=jc zH.cells [kI 16 uN k e 0] by unfold TE;rw[<-HKX.out,<-ID.out];rfl);have HTO:=hid (show∀u∈TE 16 ⟨#[117]⟩ ⟨#[]⟩ 0 kx tx,u.oneCell'=true by rw[HTE.out];exact Q1 _);have Rt:=hid (Q2 (l:=jE [l1.map qE.m,l2.map qE.m]++[zdo ho pj]) (by rw[List.length_append,<-haF.out];show _+1+1<=99;omega));clear hny Ha Pi sS wT SN oV HOW haM HNY Px SR bP haV mg Rr
  go_wp2_with (at_builtin;refine qM gT rfl rfl (World.ownsRow.alloc hcO.out _) rfl rfl (Sl.made _ (TE 16 ⟨#[117]⟩ ⟨#[]⟩ 0 kx tx) _ 9 1 rfl (by decide)) HTO.out Rt.out ?_;intro v8 w8 ho hg hf;rw[HTE.out,Jb,List.append_assoc]at ho;obtain⟨p8,n8,c8,rfl⟩:=(Sl.of_own ho).shape;have HO8:=hid ho;have HN8:=hid (za.of_grown (hcN.out.alloc _) hg (λb hb=>(hbG.out b hb).1));have HG8:=hid hg;clear ho hg hf);have hcP:n8=an.length+3:=by have h9:=zei Y1 (by decide) HO8.out;rw[h9,List.length_append,<-haF.out];rfl
  subst hcP;have CF:=hid (zdP (l:=jE [l1.map qE.m,l2.map qE.m]++[zdo ho pj,kI 16 uN k e 0]) (Sl.of_own HO8.out) (λo ho=>(mR.out o ho).1) (λo ho=>rX.out o (mR.out o ho).1 (mR.out o ho).2) hbA.out HGS.out);rw[hbz.out]at CF;refine CF.out.mono ?_;rintro e w10 ⟨v',rfl,haY,Rg⟩;obtain⟨p9,c9,rfl,_,_,hp9⟩:=Rg.shape;obtain⟨pb,wQ⟩:∃z:Bool,z=yT ((zd6 ho l1 l2 j).map qE.m) 0 k e:=⟨_,rfl⟩;rw[<-wQ]at Rg hp9⊢;have haf:∀a1 a2 a3:vN,(an++[a1,a2,a3]).length=an.length+3:=λ_ _ _=>by rw[List.length_append];rfl
  obtain⟨b,o,rfl⟩:=hp9 (by rw[haf];omega);obtain⟨_,_,k1⟩:=Rg.cells (i:=an.length) (by rw[haf];omega);obtain⟨_,_,k2⟩:=Rg.cells (i:=an.length+1) (by rw[haf];omega);obtain⟨_,_,k3⟩:=Rg.cells (i:=an.length+2) (by rw[haf];omega);rw[List.getElem_append_right (by omega)]at k1 k2 k3;simp only[Nat.sub_self,Nat.add_sub_cancel_left,List.getElem_cons_zero,List.getElem_cons_succ]at k1 k2 k3;have d1:w10.cell? ⟨b,o+an.length*6+1,none⟩=some (.int .u64 rev):=k1.rev;have d2:w10.cell? ⟨b,o+(an.length+1)*6,none⟩=some (.int .i64 0):=k2.err;have d3:w10.cell? ⟨b,o+(an.length+1)*6+1,none⟩=some (.int .u64 (rev+1:Nat)):=k2.rev;have d4:w10.cell? ⟨b,o+(an.length+2)*6,none⟩=some (.int .i64 (if pb=true then 0 else 10:Nat)):=k3.err;rw[haf];clear k1 k2 k3 hp9 Rg haf;have sB:rev<=100:=by
   have h9:rev<=_:=zeM _ zA.start 0 Ok.start (λo ho=>(mR.out o ho).1) ⟨0,rev,true,false,[],[]⟩ (by rw[hbz.out];simp);have h8:=hbA.out;omega
  have hbH:Y2 w8.cell? (zd6 ho l1 l2 j) (.slice q7 nr c7):=Sl.mono (λa v ha=>(zq.of_grown HG8.out).cell (zi.1 ha).1 (zi.1 ha).2) (Sl.im_of (S:=λb=>(Value.slice z (an.length+2) zc).ownBlock=some b) (Sl.mono (za.le ((za.refl wc).alloc _)) Od.out) (λb hb e=>(hbG.out b e).2 hb));have hpm:=zet (w:=w10.drew) (kd:=0) (hbH.mono (haY.trans (za.refl w10).drew).le) (λp hp=>hbB.out p (zeX hp)) (zeY H7.out) (Or.inl rfl) HKL.out HEL.out HVE.out;rw[HKX.out,ID.out,<-wQ]at hpm;have HPM:=hid hpm;have HNT:=hid (wU.out.trans (HN8.out.trans haY));clear hpm hbH wQ haY;have f1:IntKind.i64.wrap ((an.length:Int)+3-2)=(an.length:Int)+1:=by rw[show(an.length:Int)+3-2=(an.length:Int)+1 by omega];exact IntWalk.i64_in _ (by omega)
  have f2:IntKind.i64.wrap ((an.length:Int)+3-3)=(an.length:Int):=by rw[show(an.length:Int)+3-3=(an.length:Int) by omega];exact IntWalk.i64_in _ (by omega)
  have f2b:IntKind.i64.wrap (an.length:Int)=(an.length:Int):=IntWalk.i64_in _ (by omega);have f3:IntKind.i64.wrap ((an.length:Int)+3-1)=(an.length:Int)+2:=by rw[show(an.length:Int)+3-1=(an.length:Int)+2 by omega];exact IntWalk.i64_in _ (by omega)
  obtain⟨f4,f5,f6,f7,g1,g2,g4,g5⟩:(0:Int)<=an.length/\(an.length:Int)<(an.length:Int)+3/\(an.length:Int)+1<(an.length:Int)+3/\(an.length:Int)+2<(an.length:Int)+3/\(0:Int)<=(an.length:Int)+1/\(0:Int)<=(an.length:Int)+2/\((an.length:Int)+1).toNat=an.length+1/\((an.length:Int)+2).toNat=an.length+2:=by omega
  have r1:IntKind.u64.wrap ((rev:Int)+1)=((rev+1:Nat):Int):=by rw[IntKind.wrap_u64];omega
  obtain⟨ev,M9,d5⟩:∃ev:Int,(ev=0↔pb=true)/\w10.cell? ⟨b,o+(an.length+2)*6,none⟩=some (.int .i64 ev):=⟨_,by cases pb<;>simp,d4⟩;clear d4;go_upto_region 18 with fail
  cases pb
  all_goals
   simp at M9
   first|have he:(ev==0)=false:=by simpa using M9|have he:(ev==0)=true:=by simpa using M9
   go_region_held3 (λW=>W.cell? ⟨b,o+an.length*6+1,none⟩=some (.int .u64 rev)/\W.cell? ⟨b,o+(an.length+1)*6,none⟩=some (.int .i64 0)/\W.cell? ⟨b,o+(an.length+1)*6+1,none⟩=some (.int .u64 (rev+1:Nat))/\W.cell? ⟨b,o+(an.length+2)*6,none⟩=some (.int .i64 ev)) (first|exact⟨d1,d2,d3,d5⟩|exact Ph.out) (first|(go_at_call 28;refine HPM.out.mono ?_;rintro e w11 ⟨rfl,hn⟩;have HNP:=hid hn;have Ph:=hid (And.intro (hn.le _ _ d1) (And.intro (hn.le _ _ d2) (And.intro (hn.le _ _ d3) (hn.le _ _ d5))));clear hn))
   all_goals
    go_wp2;go_returns;exact⟨rfl,HNT.out.trans (za.trans ((za.refl w10).drew) HNP.out)⟩
section
open Go.RowKit Go.ChangeShapes Go.WideShapes Go.ChangeAt Go.Deep
variable{w':World}
theorem zeT{w:World}(h:za w w'):Below w.heap.size w w':=
 ⟨h.os,h.tape,h.output,h.size,λk hk=>h.block k hk (λe=>e)⟩
theorem zfd{a b:Bool}(ha:a=true)(hb:b=true):(a && b)=true:=by rw[ha,hb];rfl
end
section
open Go.RowKit Go.ChangeShapes Go.WideShapes Go.ChangeAt Go.Deep
theorem zez(os:Os)(started:os.Started)(H:Type)(enc:TypeId×Value->H):
  ReturnsInHanded {} checked os 9 .any (Rows.fnAuthTakenSpec.pre6 enc prog f9 Rows.fnAuthTakenRow.domain false) (Rows.fnAuthTakenSpec.post enc prog f9 false true false false):=by
 refine returnsInHanded_of_change (C:=checked) own0 started (by kernel_rfl) func9
  (ChangeSpec.witness6 (enc:=enc) (C:=checked) false ⟨#[],#[.slice none 0 0,.slice none 0 0,.int .i64 0,.int .i64 0,.string ⟨#[]⟩,.string ⟨#[]⟩],[]⟩ 8 (by kernel_rfl) (by kernel_rfl) (by kernel_rfl) (by kernel_rfl)) ?_
 intro W base args ds gs before hbI hW _ _;have haj:∀(j:Nat) t v,f9.params[j]? =some t->args[j]? =some v->Value.okWide prog W .any base t v:=hbI;have hW':DataW.Whole enc prog f9.params.toList Rows.fnAuthTakenSpec.vars false W args.toList ds gs before:=hW;obtain⟨p,q,hA0,hV,hpq,_,_⟩:=hW;have hA:DataW.TrodAll enc prog W 0 (λ_=>true) true f9.params.toList args.toList ds p:=hA0;have Hb:∀x∈before,x.block<W.heap.size:=λx hx=>by simpa using hW'.lt x hx
 rw[params9]at hA haj;obtain⟨v0,vs0,d0,ds0,p0,q0,CG,rfl,rfl,h0,r0⟩:=trodAll_cons hA;obtain⟨v1,vs1,d1,ds1,p1,q1,rfl,rfl,rfl,h1,r1⟩:=trodAll_cons r0;obtain⟨v2,vs2,d2,ds2,p2,q2,rfl,rfl,rfl,h2,r2⟩:=trodAll_cons r1;obtain⟨v3,vs3,d3,ds3,p3,q3,rfl,rfl,rfl,h3,r3⟩:=trodAll_cons r2;obtain⟨v4,vs4,d4,ds4,p4,q4,rfl,rfl,rfl,h4,r4⟩:=trodAll_cons r3;obtain⟨v5,vs5,d5,ds5,p5,q5,rfl,rfl,rfl,h5,r5⟩:=trodAll_cons r4;obtain⟨rfl,rfl,rfl⟩:=trodAll_nil r5;obtain rfl:args= #[v0,v1,v2,v3,v4,v5]:=by cases args;simp_all
 obtain⟨rfl,rfl⟩:=trodVars_none hV;obtain⟨a0,len0,cap0,rfl⟩:=okWide_slice underlying40 (haj 0 _ v0 rfl rfl);obtain⟨l0,S7⟩:=zc8 h0.choose_spec;obtain⟨a1,len1,cap1,rfl⟩:=okWide_slice underlying40 (haj 1 _ v1 rfl rfl);obtain⟨l1,rG⟩:=zc8 h1.choose_spec;obtain⟨x2,rfl,rfl,rfl,w2⟩:=open_int underlying3 (haj 2 _ v2 rfl rfl) h2;obtain⟨x3,rfl,rfl,rfl,w3⟩:=open_int underlying3 (haj 3 _ v3 rfl rfl) h3;obtain⟨s4,rfl⟩:=okWide_string underlying9 (haj 4 _ v4 rfl rfl);obtain⟨u4,Me⟩:=fQ h4.choose_spec;obtain⟨s5,rfl⟩:=okWide_string underlying9 (haj 5 _ v5 rfl rfl);obtain⟨u5,lB⟩:=fQ h5.choose_spec;subst hpq;have fin:=zeH (λo h1 h2=>zdk h1 h2) (k:=u4) (e:=u5) (x:=x2) (y:=x3) S7 rG;rw[<-Me,<-lB]at fin;refine fin.mono λe W' ⟨he,hn⟩=> ?_;subst he;have hb:=zeT hn;refine⟨_,rfl,zdR (pa:=p0++(p1++([]++([]++(p4++(p5++[])))))) (pv:=[]) underlying4 (by kernel_rfl) hW' rfl (λsp Cb=> ?_) (λ_ _=>rfl) (by simp) hb⟩
 have m0:∀x∈p0,x∈(p0++(p1++([]++([]++(p4++(p5++[]))))))++[]:=λx hx=>by simp[hx]
 have m1:∀x∈p1,x∈(p0++(p1++([]++([]++(p4++(p5++[]))))))++[]:=λx hx=>by simp[hx]
 have m4:∀x∈p4,x∈(p0++(p1++([]++([]++(p4++(p5++[]))))))++[]:=λx hx=>by simp[hx]
 have m5:∀x∈p5,x∈(p0++(p1++([]++([]++(p4++(p5++[]))))))++[]:=λx hx=>by simp[hx]
 rw[params9];exact trodAll_cons_mk (WideElems.Trod_stays laid0 (by kernel_rfl) (of_decide_eq_true (by kernel_rfl)) h0 (λx hx=>hb.same (Hb x (m0 x hx))) (λx hx=>Cb x (m0 x hx)))
  (trodAll_cons_mk (WideElems.Trod_stays laid0 (by kernel_rfl) (of_decide_eq_true (by kernel_rfl)) h1 (λx hx=>hb.same (Hb x (m1 x hx))) (λx hx=>Cb x (m1 x hx)))
  (trodAll_cons_mk (shut_int underlying3 w2)
  (trodAll_cons_mk (shut_int underlying3 w3)
  (trodAll_cons_mk (WideElems.Trod_stays laid0 (by kernel_rfl) (of_decide_eq_true (by kernel_rfl)) h4 (λx hx=>hb.same (Hb x (m4 x hx))) (λx hx=>Cb x (m4 x hx)))
  (trodAll_cons_mk (WideElems.Trod_stays laid0 (by kernel_rfl) (of_decide_eq_true (by kernel_rfl)) h5 (λx hx=>hb.same (Hb x (m5 x hx))) (λx hx=>Cb x (m5 x hx)))
  trodAll_mk0)))))
theorem zeI:pinned.checked.prog.funcNamed Rows.fnAuthTakenRow.func=some 9:=by kernel_rfl
theorem zeC:joinedFacts pinned.checked.prog 9 f9 Rows.fnAuthTakenSpec Rows.fnAuthTakenRow=true:=by
 unfold joinedFacts
 repeat' (with_reducible refine zfd ?_ ?_)
 all_goals as_aux_lemma=>kernel_rfl
theorem zeJ:f9.isInstance pinned.checked.prog Rows.fnAuthTakenRow.origin Rows.fnAuthTakenRow.targs:=of_decide_eq_true (by kernel_rfl)
theorem zeK:f9.isWrapper pinned.checked.prog Rows.fnAuthTakenRow.wrapper Rows.fnAuthTakenRow.mainSum:=by unfold Func.isWrapper;rw[if_neg (by decide+kernel)];exact⟨rfl,rfl⟩
theorem zeZ:pinned.checked.prog.funcs[9]? =some f9:=func9
theorem zeD:Rows.FnAuthTakenSaid:=
 OpenClaim.holds_of_wide 9 f9 rfl rfl rfl rfl rfl rfl rfl ⟨rfl,rfl,rfl,rfl,rfl⟩ rfl rfl rfl rfl rfl zeI zeZ zeC zeJ zeK
  (λos started H enc _=>zez os started H enc)
#print axioms zeD
end
end Go.Proofs.YtbmdoinjkligiaaGreat
