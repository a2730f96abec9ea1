/- The law FnAuthUnion holds, without conditions. -/
import Derived.OpenShut
import Derived.Test.YtbmdoinjkligiaaGreatM35
set_option maxRecDepth 100000
set_option maxHeartbeats 40000000
set_option linter.all false
namespace Go.Proofs.YtbmdoinjkligiaaGreat
open Go.Proofs.Tryz Tryz
open Lib(hid)
open Go.RowKit
theorem zdg:yy prog 40 33 (.agg #[.int .i64 0,.string ⟨#[]⟩,.string ⟨#[]⟩]) 3 40:=⟨by kernel_rfl,by kernel_rfl,rfl,by decide⟩
variable{b n:Nat}
theorem uU{w:World}{T:TypeId}{d:TypeDesc}{o:Nat}{cs:Array Value}(hc:w.rangeAt b o cs.toList)(hu:prog.underlying T=some d)(hd:d.isRow=true)(hi:(prog.info? T).map (·.size)=some n)(hn:cs.size=n):
  (Instr.loadAt T (.pointer (some ⟨b,o,none⟩))).run prog w=.ok (.agg cs) w:=by
 have:=run_loadAt_mid w b o T cs.toList d hc hu hd (by rw[hi,Array.length_toList,hn]);exact this
theorem zb7{w:World}{o:Nat}{x:qE}(hc:w.rangeAt b o x.cells.toList):(Instr.loadAt 33 (.pointer (some ⟨b,o,none⟩))).run prog w=.ok (.agg x.cells) w:=
 uU hc underlying33 (by kernel_rfl) (n:=3) (by kernel_rfl) rfl
variable{L:List Iv}
theorem U6{M:List Iv}(h:∀v,v∈L↔v∈M)(q:Iv):yL L q↔yL M q:=by
 unfold yL;constructor
 ·intro h1 k hk;obtain⟨v,hv,h2⟩:=h1 k hk;exact⟨v,(h v).1 hv,h2⟩
 ·intro h1 k hk;obtain⟨v,hv,h2⟩:=h1 k hk;exact⟨v,(h v).2 hv,h2⟩
open Classical in
theorem zb9{ps qs:List zh}(h:∀p,p∈ps↔p∈qs)(kind:Nat)(k e:Bytes):yT ps kind k e=yT qs kind k e:=by
 unfold yT;have:yL (qq ps kind) (kg k e)↔yL (qq qs kind) (kg k e):=U6 (λv=>by
  unfold qq;simp only[List.mem_map,List.mem_filter];constructor
  ·rintro⟨p,⟨h1,h2⟩,rfl⟩;exact⟨p,⟨(h p).1 h1,h2⟩,rfl⟩
  ·rintro⟨p,⟨h1,h2⟩,rfl⟩;exact⟨p,⟨(h p).2 h1,h2⟩,rfl⟩) _
 exact decide_eq_decide.2 this
def VL(l:List zh):Prop:=l.Pairwise λa b=>a.key≠b.key
variable{p:zh}
theorem zaJ{l:List zh}(h:∀q∈l,q.key≠p.key):y_ l p=Z4 p l:=by
 unfold y_;split
 ·rename_i q hq;rw[if_neg λe=>h q (List.mem_of_getElem? hq) e.1]
 ·rfl
theorem zca:∀(l acc:List zh),(∀p∈l,∀q∈acc,q.key≠p.key)->VL l->(l.foldl y_ acc).Perm (acc++l)
 |[],acc,_,_=>by simp
 |p::l,acc,h,ha=>by
  have Ib:=List.pairwise_cons.1 ha;have hp:(y_ acc p).Perm (p::acc):=by rw[zaJ (h p (by simp)),dw];exact ZS _ _ _
  have h2:=zca l (y_ acc p) (λq hq r hr=>by
   rcases List.mem_cons.1 (hp.mem_iff.1 hr)with rfl|hr
   ·exact Ib.1 q hq
   ·exact h q (by simp[hq]) r hr) Ib.2
  refine h2.trans ((hp.append_right l).trans ?_);exact(List.perm_middle (l₁:=acc) (l₂:=l) (a:=p)).symm
theorem VM{l:List zh}(h:VL l):(l.foldl y_ []).Perm l:=zca l [] (λ_ _ _ hq=>by cases hq) h
variable{ns:List Bytes}{rs:List zm}
theorem zdL{rev:Nat}{kind:Int}{k e:Bytes}(hk:kind=15\/kind=16\/kind=17):(zR true rev ns rs).ask (kI kind zL k e 0)=0:=by have Rk:(kI kind zL k e 0).kind=kind:=rfl;unfold zA.ask;rw[if_neg (by show ¬true=false;decide),if_neg (by rw[Rk];rintro(h|h)<;>first|(cases h;done)|omega),if_neg (by rw[Rk];omega),if_neg (by show ¬(0:Int)<0;decide),show(kI kind zL k e 0).user=zL from rfl,VN];show(if (⟨zL,[zL]⟩:zj).root=true then 0 else _)=0;rw[if_pos (by unfold zj.root;simp)]
theorem zdM{rev:Nat}{kind:Int}{u k e:Bytes}(hk:kind=15\/kind=16\/kind=17)(h1:u≠zL)(h2:u≠uN):(zR true rev ns rs).ask (kI kind u k e 0)=10:=by
 have Rk:(kI kind u k e 0).kind=kind:=rfl;have hg:(zR true rev ns rs).user u=none:=by
  show qT zj.name [⟨zL,[zL]⟩,⟨uN,ns⟩] u=none;rw[j_];split
  ·rw[j_];split
   ·rfl
   ·rw[if_neg λe=>h2 e.symm]
  ·rw[if_neg λe=>h1 e.symm]
 unfold zA.ask;rw[if_neg (by show ¬true=false;decide),if_neg (by rw[Rk];rintro(h|h)<;>first|(cases h;done)|omega),if_neg (by rw[Rk];omega),if_neg (by show ¬(0:Int)<0;decide),show(kI kind u k e 0).user=u from rfl,hg]
theorem zek{rev:Nat}{kind:Int}{k e:Bytes}(hk:kind=15\/kind=16\/kind=17)(h1:zL∉ns):(zR true rev ns rs).ask (kI kind uN k e 0)=if yT ((zR true rev ns rs).permsOf ⟨uN,ns⟩) (if kind=16 then 0 else 1) k (if kind=15 then []else e)then 0 else 10:=by have Rk:(kI kind uN k e 0).kind=kind:=rfl;unfold zA.ask;rw[if_neg (by show ¬true=false;decide),if_neg (by rw[Rk];rintro(h|h)<;>first|(cases h;done)|omega),if_neg (by rw[Rk];omega),if_neg (by show ¬(0:Int)<0;decide),show(kI kind uN k e 0).user=uN from rfl,GC];show(if (⟨uN,ns⟩:zj).root=true then 0 else _)=_;rw[if_neg (by unfold zj.root;simpa using h1),Rk];rfl
theorem VQ:∀(l:List (List zh)) (i:Nat),∀m∈yJ i l,∃j,i<=j/\j<i+l.length/\m=qu j
 |[],i,m,h=>by cases h
 |ps::l,i,m,h=>by
  rcases List.mem_cons.1 h with h|h
  ·exact⟨i,Nat.le_refl _,by simp,h⟩
  ·obtain⟨j,h1,h2,h3⟩:=VQ l (i+1) m h;exact⟨j,by omega,by rw[List.length_cons];omega,h3⟩
theorem xG:∀(l:List (List zh)) (i:Nat),(jk i l).map (·.name)=yJ i l
 |[],_=>rfl
 |ps::l,i=>by show qu i::_=qu i::_;rw[xG l (i+1)]
theorem Zw:∀(l:List (List zh)) (i:Nat),i+l.length<=4->zE zm.name (jk i l)
 |[],_,_=>List.Pairwise.nil
 |ps::l,i,h=>by
  rw[List.length_cons]at h;have h1:=Zw l (i+1) (by omega);refine h1.cons λz hz=> ?_;have h2:z.name∈yJ (i+1) l:=by rw[<-xG];exact List.mem_map.2 ⟨z,hz,rfl⟩
  obtain⟨j,h3,h4,e⟩:=VQ l (i+1) _ h2;rw[e];exact VP (by omega) (by omega)
theorem Yk:∀(l:List (List zh)) (i:Nat) (r:zm),r∈jk i l->∃ps∈l,r.perms=ps.foldl y_ []
 |[],_,_,h=>by cases h
 |ps::l,i,r,h=>by
  rcases List.mem_cons.1 h with rfl|h
  ·exact⟨ps,by simp,rfl⟩
  ·obtain⟨qs,h1,h2⟩:=Yk l (i+1) r h;exact⟨qs,by simp[h1],h2⟩
theorem Yl:∀(l:List (List zh)) (i:Nat) (ps:List zh),ps∈l->∃r∈jk i l,r.perms=ps.foldl y_ []
 |[],_,_,h=>by cases h
 |qs::l,i,ps,h=>by
  rcases List.mem_cons.1 h with rfl|h
  ·exact⟨_,List.mem_cons_self ..,rfl⟩
  ·obtain⟨r,h1,h2⟩:=Yl l (i+1) ps h;exact⟨r,List.mem_cons_of_mem _ h1,h2⟩
variable{u:zj}
theorem fI{s:zA}(hs:zE zm.name s.roles):p∈s.permsOf u↔∃r∈s.roles,r.name∈u.roles/\p∈r.perms:=by
 unfold zA.permsOf;rw[List.mem_flatMap];constructor
 ·rintro⟨n,hn,hp⟩;cases e:s.role n with
  |none=>rw[e]at hp;cases hp
  |some r=>rw[e]at hp;obtain⟨h1,h2⟩:=(qN hs).1 e;exact⟨r,h1,by rw[h2];exact hn,hp⟩
 ·rintro⟨r,hr,hn,hp⟩;refine⟨r.name,hn,?_⟩;have:s.role r.name=some r:=(qN hs).2 ⟨hr,rfl⟩;rw[this];exact hp
theorem zcc{on:Bool}{rev:Nat}{l:List (List zh)}(hl:l.length<=3)(ha:∀ps∈l,VL ps)(p:zh):p∈(zR on rev (yJ 0 l) (jk 0 l)).permsOf ⟨uN,yJ 0 l⟩↔p∈l.flatten:=by
 rw[fI (s:=zR on rev (yJ 0 l) (jk 0 l)) (Zw l 0 (by omega)),List.mem_flatten];constructor
 ·rintro⟨r,hr,_,hp⟩;obtain⟨ps,h1,h2⟩:=Yk l 0 r hr;rw[h2]at hp;exact⟨ps,h1,(VM (ha ps h1)).mem_iff.1 hp⟩
 ·rintro⟨ps,h1,hp⟩;obtain⟨r,hr,h2⟩:=Yl l 0 ps h1;refine⟨r,hr,?_,by rw[h2];exact(VM (ha ps h1)).mem_iff.2 hp⟩;show r.name∈yJ 0 l;rw[<-xG];exact List.mem_map.2 ⟨r,hr,rfl⟩
theorem zc4(l:List (List zh)):zL∉yJ 0 l:=λh=>by obtain⟨j,_,_,e⟩:=VQ l 0 _ h;unfold zL qu at e;simp at e
def zeC:Bytes:=[120]
def zbz(kind:Int)(k e:Bytes):List zH:=[kI kind uN k e 0,kI kind zL k e 0,kI kind zeC k e 0]
theorem zeo{l:List (List zh)}(hl:l.length<=3)(hs:∀ps∈l,ps.length<=12):(jE l).length<=46:=by unfold jE;have h1:=QK l 0 hs;rw[List.length_append,List.length_append];show 3+(_+1)<=46;omega
theorem zeD{l:List (List zh)}(hl:l.length<=3)(hv:∀ps∈l,∀p∈ps,zU p.key p.stop=true)(hf:∀ps∈l,∀p∈ps,p.fine)(ha:∀ps∈l,VL ps)(hs:l.flatten.length<=12)(rj:∀ps∈l,ps.length<=12)
  {kind:Int}(hk:kind=15\/kind=16\/kind=17){k e:Bytes}(pE:k.length<=64)(cI:e.length<=64)(Lt:zU k e=true)(he:kind=15->e=[]):
  (∀o∈jE l++zbz kind k e,o.runs/\o.kind≠13)/\gs (jE l++zbz kind k e)<=12/\(jE l++zbz kind k e).length<=99/\
   ∃an rev,an.length+1=(jE l).length/\zA.start.run (jE l++zbz kind k e)=an++[⟨0,rev,true,false,[],[]⟩,⟨if yT l.flatten (if kind=16 then 0 else 1) k e then 0 else 10,rev,true,false,[],[]⟩,⟨0,rev,true,false,[],[]⟩,⟨10,rev,true,false,[],[]⟩]:=by
 have h16:kind≠13:=by omega
 have bS:∀n:Bytes,n.length<=64->(kI kind n k e 0).runs/\(kI kind n k e 0).kind≠13:=λn hn=>⟨zd0 hk (Or.inl rfl) hn pE cI Lt,U_ kind rfl h16⟩;refine⟨λo ho=> ?_,?_,?_,?_⟩
 ·rcases List.mem_append.1 ho with ho|ho
  ·exact zc5 hf o ho
  ·unfold zbz at ho;rcases List.mem_cons.1 ho with rfl|ho
   ·exact bS _ (show 1<=64 by omega)
   ·rcases List.mem_cons.1 ho with rfl|ho
    ·exact bS _ (show 4<=64 by omega)
    ·rw[List.mem_singleton]at ho;rw[ho];exact bS _ (show 1<=64 by omega)
 ·rw[Q0,zdN];have hz:∀n:Bytes,(kI kind n k e 0).g=0:=λn=>by
   unfold zH.g;have:(kI kind n k e 0).kind=kind:=rfl;rw[this,if_neg (by omega)]
  have:gs (zbz kind k e)=0:=by unfold zbz gs;simp only[List.map_cons,List.map_nil,hz];rfl
  omega
 ·rw[List.length_append];have:=zeo hl rj;show _+3<=99;omega
 ·obtain⟨rev,an,h1,h2⟩:=zcb hl hv;have h_:an.length+1=(jE l).length:=by
   have:=zdU (jE l) zA.start;rw[h2,List.length_append]at this;exact this
  refine⟨an,rev,h_,?_⟩;rw[Vt,h1,h2,List.append_assoc];refine congrArg (an++ ·) ?_;have s1:=zdK (s:=zR true rev (yJ 0 l) (jk 0 l)) (kind:=kind) (u:=uN) (k:=k) (e:=e) (old:=0) hk;have s2:=zdK (s:=zR true rev (yJ 0 l) (jk 0 l)) (kind:=kind) (u:=zL) (k:=k) (e:=e) (old:=0) hk;have s3:=zdK (s:=zR true rev (yJ 0 l) (jk 0 l)) (kind:=kind) (u:=zeC) (k:=k) (e:=e) (old:=0) hk;rw[zek hk (zc4 l),zb9 (zcc hl ha)]at s1;rw[zdL hk]at s2;rw[zdM hk (by decide) (by decide)]at s3;have e9:(if kind=15 then []else e)=e:=by
   by_cases h:kind=15
   ·rw[if_pos h,he h]
   ·rw[if_neg h]
  rw[e9]at s1;show _::(zA.step _ _).2::(zA.step (zA.step _ _).1 _).2::(zA.step (zA.step (zA.step _ _).1 _).1 _).2::[]=_;rw[s1];show _::_::(zA.step _ _).2::(zA.step (zA.step _ _).1 _).2::[]=_;rw[s2];show _::_::_::(zA.step _ _).2::[]=_;rw[s3];rfl
def zeE:Bytes:=[117]
def zd1:Bytes:=[114]
def zd3(pv:Value)(ps:List zh)(l:zu)(W:World):Prop:=(∀j,l j≠0->j<W.heap.size)/\∃ids:List Nat,Sl (im l.some W) 1 (ids.map ptr) pv/\qz (ju (im l.some W)) ids ps
variable{W W':World}{l l':zu}{pv:Value}
theorem zd3.keep{ps:List zh}(h:zd3 pv ps l W)(hc:qD l W l' W'):zd3 pv ps l' W':=by obtain⟨_,ids,h1,h2⟩:=h;exact⟨hc.bnd,ids,h1.mono hc.le,qz.mono (λ_ _ hx=>hx.mono hc.le) h2⟩
theorem zd3.new{ps:List zh}(h:zd3 pv ps l W)(hn:za W W'):zd3 pv ps l W':=h.keep (qD.ofNew h.1 hn)
theorem zeq(hb:∀j,l j≠0->j<W.heap.size)(h:W.heap.size<=b): ¬l.some b:=λe=>by have:=hb b e;omega
theorem sz1(w:World)(o:Obj):(w.alloc o).heap.size=w.heap.size+1:=Array.size_push ..
theorem zeJ{W0 W2 W3 W4:World}{x y z:Value}{T T2:TypeId}{q2 q3:Nat}(hb:∀j,l j≠0->j<W0.heap.size)(h0:za W0 W2)(h3:W3=W2.alloc (.cells #[.string ⟨#[114]⟩] T))(h4:W4=W3.alloc (.cells #[x,y,.slice (some ⟨q2,0,none⟩) 1 1,z] T2))(PL:q2=W2.heap.size)(hq3:q3=W3.heap.size):YW (im l.some W4) q3 ⟨zeE,[zd1]⟩:=by
 subst PL hq3;have n3:za W2 W3:=by rw[h3];exact(za.refl W2).alloc _
 have n4:za W3 W4:=by rw[h4];exact(za.refl W3).alloc _
 have r4:W4.heap[W3.heap.size]? =some (.cells #[x,y,.slice (some ⟨W2.heap.size,0,none⟩) 1 1,z] T2 (0,0)):=by rw[h4];exact zg W3 _
 have r3:W4.heap[W2.heap.size]? =some (.cells #[.string ⟨#[114]⟩] T (0,0)):=za.heap n4 (by rw[h3];exact zg W2 _);have c4:W4.cell? ⟨W3.heap.size,2,none⟩=some (.slice (some ⟨W2.heap.size,0,none⟩) 1 1):=by rw[cell_of_row W4 _ 2 _ _ (0,0) r4];rfl
 have c3:W4.cell? ⟨W2.heap.size,0,none⟩=some (.string ⟨#[114]⟩):=by rw[cell_of_row W4 _ 0 _ _ (0,0) r3];rfl
 refine⟨_,zi.2 ⟨zeq hb (h0.trans n3).size,c4⟩,_,1,1,rfl,rfl,Nat.le_refl _,by decide,(λe=>by cases e),Or.inr ⟨W2.heap.size,0,rfl,λi hi=> ?_⟩⟩;have er:i=0:=by have:i<1:=hi;omega
 subst er;exact zi.2 ⟨zeq hb h0.size,c3⟩
variable{c:Nat}
theorem zeG{p:Option Addr}{ps:List zh}(h:zd3 (.slice p n c) ps l W)(nm:Bytes):
  Calls prog 146 #[.agg #[.slice p n c],zb nm] W λe w'=>∃r,e=.returned r/\(zd3 (.slice p n c) ps l w'/\zq l.own W w'/\zdw l w' r (some ⟨zeE,[zd1]⟩)):=by
 have kc:=λ(w:World) (C:Array Value) (n c:Nat)=>Lib.run_convert_bytes_const (P:=prog) w 75 5 C n c (by kernel_rfl) (by kernel_rfl);have kc2:∀(o:Obj) (C:Array Value) (n c:Nat),(convert 75 75 (.slice (some ⟨W.heap.size+1,0,none⟩) n c)).run prog ((W.alloc o).alloc (.cells C 5))=.ok (.slice (some ⟨W.heap.size+1,0,none⟩) n c) ((W.alloc o).alloc (.cells C 5 (C.size,C.size+1))):=λo C n c=>by
  have h:=kc (W.alloc o) C n c
  rwa [sz1]at h
 have H:=hid h;clear h kc;unfold zb;generalize(⟨nm.toArray⟩:ByteArray)=sx;go_enter func146,ntmps146;go_wp2;go_returns;exact⟨_,rfl,H.out.new ((((za.refl W).alloc _).alloc _).alloc _|>.alloc _),za.mod ((((za.refl W).alloc _).alloc _).alloc _|>.alloc _) _,_,rfl,zeJ H.out.1 (((za.refl W).alloc _).alloc _) rfl rfl (by simp only[sz1]) (by simp only[sz1])⟩
theorem zeH{p:Option Addr}{ps:List zh}(h:zd3 (.slice p n c) ps l W)(nm:Bytes):
  Calls prog 145 #[.agg #[.slice p n c],zb nm] W λe w'=>∃r,e=.returned r/\(zd3 (.slice p n c) ps l w'/\zq l.own W w'/\zdx l w' r (some ⟨zd1,ps⟩)):=by
 have kc:=λ(w:World) (C:Array Value) (n c:Nat)=>Lib.run_convert_bytes_const (P:=prog) w 75 5 C n c (by kernel_rfl) (by kernel_rfl);have kc2:∀(o:Obj) (C:Array Value) (n c:Nat),(convert 75 75 (.slice (some ⟨W.heap.size+1,0,none⟩) n c)).run prog ((W.alloc o).alloc (.cells C 5))=.ok (.slice (some ⟨W.heap.size+1,0,none⟩) n c) ((W.alloc o).alloc (.cells C 5 (C.size,C.size+1))):=λo C n c=>by
  have h:=kc (W.alloc o) C n c
  rwa [sz1]at h
 have H:=hid h;clear h kc;unfold zb;generalize(⟨nm.toArray⟩:ByteArray)=sx;go_enter func145,ntmps145;go_wp2;go_returns;have key:∀(W2:World) (x:Value) (T:TypeId) (q:Nat),za W W2->q=W2.heap.size->zd3 (.slice p n c) ps l (W2.alloc (.cells #[x,.slice p n c] T))/\zq l.own W (W2.alloc (.cells #[x,.slice p n c] T))/\zdx l (W2.alloc (.cells #[x,.slice p n c] T)) (ptr q) (some ⟨zd1,ps⟩):=λW2 x T q hn hq=>by subst hq;have h1:=H.out.new (hn.alloc (.cells #[x,.slice p n c] T));refine⟨h1,za.mod (hn.alloc _) _,_,rfl,?_⟩;obtain⟨_,ids,h2,h3⟩:=h1;refine⟨_,ids,zi.2 ⟨zeq H.out.1 hn.size,?_⟩,h2,h3⟩;rw[cell_of_row _ _ 1 _ _ (0,0) (zg W2 (.cells #[x,.slice p n c] T))];rfl
 exact⟨_,rfl,key _ _ _ _ (((za.refl W).alloc _).alloc _) (by simp only[sz1])⟩
theorem zeL(p:Option Addr)(n c:Nat)(ps:List zh):AR0 (· =zeE) (· =zd1) (zd3 (.slice p n c) ps) 133 (.agg #[.slice p n c]) (.agg #[.slice p n c]) 146 145 [⟨zeE,[zd1]⟩] [⟨zd1,ps⟩]where
 keep _ _ _ _ h hc:=h.keep hc
 lt _ _ h:=h.1
 methU _:=by kernel_rfl
 nilU _:=by kernel_rfl
 entU _ _:=by kernel_rfl
 methR _:=by kernel_rfl
 nilR _:=by kernel_rfl
 entR _ _:=by kernel_rfl
 user l W n hn hB _:=by subst hn;rw[j_,if_neg (zI _),if_pos rfl];exact zeG hB _
 role l W n hn hB _:=by subst hn;rw[j_,if_neg (zI _),if_pos rfl];exact zeH hB _
def zeM:zu:=λ_=>0
theorem zei(w:World):(Rd.le w.cell? (im zeM.some w)):=λ_ _ h=>zi.2 ⟨λe=>e rfl,h⟩
structure zh.asks(p:zh):Prop where
 kind:p.kind<=2
 range:zU p.key p.stop=true
 key:p.key.length<=1000
 stop:p.stop.length<=1000
variable{kv sv:Value}{stop:Bytes}
theorem zev{w:World}{ids:List Nat}{ps:List zh}{key:Bytes}{kd:Nat}(pW:Sl w.cell? 1 (ids.map ptr) pv)(He:qz (ju w.cell?) ids ps)(hk:Bs w.cell? key kv)(hs:Bs w.cell? stop sv)(sw:∀p∈ps,p.asks)(pS:ps.length<=100)
  (Cr:kd=0\/kd=1)(pE:key.length<=1000)(sZ:zU key stop=true):
  Calls prog 37 #[pv,kv,sv,.int .i32 kd] w λe w'=>e=.returned (.bool (yT ps kd key stop))/\za w w':=by
 obtain⟨p,n,c,rfl⟩:=pW.shape;obtain⟨sp,sn,sc,rfl,RW⟩:=hs.shape;obtain⟨kp,kn,kc,rfl,ph⟩:=hk.shape;have hB:zd3 (.slice p n c) ps zeM w:=⟨λj e=>absurd rfl e,ids,pW.mono (zei w),qz.mono (λ_ _ hx=>hx.mono (zei w)) He⟩;have tP:key≠[]:=λe=>by rw[e]at sZ;unfold zU at sZ;simp at sZ
 have haL:kB ⟨zd1,ps⟩:=⟨show zd1≠[] by decide,show zd1.length<=1000 by decide,λp hp=>⟨by have:=(sw p hp).kind;omega,λe=>by have:=(sw p hp).range;rw[e]at this;unfold zU at this;simp at this,(sw p hp).key,(sw p hp).stop⟩,pS⟩;have haM:jv ⟨zeE,[zd1]⟩:=⟨by decide,by decide,λx hx=>by rw[List.mem_singleton]at hx;rw[hx];decide,by decide⟩;have hm:=gN (zeL p n c ps) (λu hu r hr=>by rw[List.mem_singleton]at hu;subst hu;rw[List.mem_singleton]at hr;exact hr) (List.Pairwise.cons (λz hz=>by cases hz) List.Pairwise.nil) (List.Pairwise.cons (λz hz=>by cases hz) List.Pairwise.nil) (λu hu=>by rw[List.mem_singleton]at hu;rw[hu];exact haM) (λr hr=>by rw[List.mem_singleton]at hr;rw[hr];exact haL) (λr hr q hq=>by rw[List.mem_singleton]at hr;subst hr;exact⟨(sw q hq).kind,(sw q hq).range⟩) (n:=zeE) rfl hB (by decide)
 rw[j_,if_neg (zI _),if_pos rfl]at hm;have Ei:permsOf [⟨zd1,ps⟩] [zd1]=ps:=by unfold permsOf yu;rw[List.flatMap_cons,List.flatMap_nil,List.append_nil,j_,if_neg (zI _),if_pos rfl]
 have Hq:=hm.mono λe w' hx=>(show∃q,e=.returned (ptr q)/\∃l,xU l w' (ptr q) ps/\(∀j,l j≠0->j<w'.heap.size)/\za w w'/\(im zeM.some w).le (im l.some w') by obtain⟨r,he,l,hg⟩:=hx;rw[Ei]at hg;obtain⟨q,s1,i1,s2,i2,rfl,hq,hq0,B_,tK,hP,F1,F2,t1,t2,NV,MP,_,_⟩:=hg;obtain⟨c0,c1,_,_⟩:=qS B_;have hqn: ¬l.some q:=λe=>e hq0;exact⟨q,he,l,⟨q,s1,i1,s2,i2,F1,F2,rfl,zi.2 ⟨hqn,c0⟩,zi.2 ⟨hqn,c1⟩,t1,t2,NV,MP⟩,tK.1,hP.mod.mono λj _ e=>e.1 rfl,hP.le⟩)
 have HM:=hid Hq;have HK:=hid (hk.mono (zei w));have HS:=hid (hs.mono (zei w));have HPS:=hid sw;have HVR:=hid sZ;have wX:=hid RW;have HKD:=hid Cr;have LS:=hid tP;have HKL:=hid pE;clear pW He hk hs sw hB haL haM hm Ei Hq sZ RW ph Cr tP pE;go_enter func37,ntmps37;go_wp2_with fail;refine HM.out.mono ?_;rintro e w1 ⟨q,rfl,l,RG,mw,hQ,hY⟩;have Hs:=hid hQ;by_cases h0:sn=0
 ·subst h0;have ai:stop=[]:=List.eq_nil_of_length_eq_zero wX.out;have HC:=hid (uE (lg:=.pointer none) RG mw (HK.out.mono hY) LS.out HKL.out (λp hp=>(HPS.out p hp).range) HKD.out);clear RG mw hY hQ;go_wp2_with fail;refine HC.out.mono ?_;rintro e w2 ⟨rfl,Hj⟩;have Pf:=hid Hj;clear Hj;go_wp2;go_returns;exact⟨congrArg (λz=>Ending.returned (.bool (yT ps kd key z))) ai.symm,Hs.out.trans Pf.out⟩
 ·have ai:stop≠[]:=λe=>h0 (by rw[<-wX.out,e];rfl);have pI: ¬(sn:Int)=0:=by omega
  have HC:=hid (Vg (lg:=.pointer none) RG mw (HK.out.mono hY) (HS.out.mono hY) ai HVR.out HKD.out);clear RG mw hY hQ;go_wp2_with fail;refine HC.out.mono ?_;rintro e w2 ⟨rfl,Hj⟩;have Pf:=hid Hj;clear Hj;go_wp2;go_returns;exact⟨rfl,Hs.out.trans Pf.out⟩
variable{v5:Value}{w5:World}
theorem zeN{w:World}{z:Value}(hg:w.grownBy w5 z.ownBlock)(hf:∀q,v5.ownBlock=some q->z.ownBlock=some q\/w.heap.size<=q):(im (λj=>z.ownBlock=some j) w).le (im (λj=>v5.ownBlock=some j) w5):=λq v hq=>by obtain⟨h1,h2⟩:=zi.1 hq;have hb:=World.block_lt_of_cell? w q h2;refine zi.2 ⟨λe=>(hf _ e).elim h1 λh=>by omega,(zq.of_grown hg).cell h1 h2⟩
structure PmS(w wr:World)(z:Value)(ps:List zh):Prop where
 new:za w wr
 ex:∃(m:Nat) (ids:List Nat),wr.ownsRow w.heap.size 72 1 z m (ids.map ptr)/\ids.length=ps.length/\qz (ju (im (λj=>z.ownBlock=some j) wr)) ids ps
variable{α β:Type}
theorem qz.snoc{R:α->β->Prop}{l:List α}{m:List β}{x:α}{y:β}(h:qz R l m)(hx:R x y):qz R (l++[x]) (m++[y]):=by
 induction h with
 |nil=>exact qz.cons hx qz.nil
 |cons h0 _ ih=>exact qz.cons h0 ih
variable{v:Value}
theorem zes{w:World}{l:List qE}{key:Bytes}{kd:Nat}(h:Y2 w.cell? l v)(hg:∀p∈l,p.good)(hl:l.length<=12)(Cr:kd=0\/kd=1)(pE:key.length<=64)(pW:stop.length<=64)(sZ:zU key stop=true):
  Calls prog 28 #[v,zb key,zb stop,.int .i64 kd] w λe w'=>e=.returned (.bool (yT (l.map qE.m) kd key stop))/\za w w':=by
 obtain⟨p,c,rfl,mO,hc,hp⟩:=kw.shape yP (by decide) h;obtain⟨kx,rH⟩:∃z,zb key=.string z:=⟨_,rfl⟩;obtain⟨tx,htx⟩:∃z,zb stop=.string z:=⟨_,rfl⟩;rw[rH,htx];have HP:=hid hp;have H:=hid h;have HGD:=hid hg;obtain⟨n,hn⟩:=zex (l.length);rw[<-hn]at mO hl⊢;have HN:=hid hn;have HKX:=hid rH;have ID:=hid htx;have HKD:=hid Cr;have HVR:=hid sZ;clear h hp hn hg rH htx Cr sZ;go_enter func28,ntmps28;go_wp2;go_loopw [9,10] (λz i wr=>∃k:Nat,k<=n/\i=.int .i64 k/\PmS w wr z ((l.take k).map qE.m)) (λ_ i _=>n-(intOf i).toNat)
 case atStart=>exact⟨0,Nat.zero_le _,rfl,za.refl w,0,[],World.ownsRow_nil _ _ _ _,rfl,qz.nil⟩
 case round=>
  obtain⟨k,hk,rfl,sS,m,ids,Ha,h_,He⟩:=hrel;obtain⟨zp,zn,zc,rfl⟩:=(Sl.of_own Ha).shape;by_cases Hb:k<n
  ·have haK:k<l.length:=by rw[<-HN.out];exact Hb
   obtain⟨b,o,rfl⟩:=HP.out (xr haK);have hrg:=kw.range yP (H.out.mono sS.le) haK;have Tc:=HGD.out _ (List.getElem_mem haK);have hld:=zb7 hrg;have wf:=zbC (w:=wr) (k:=l[k].kind) (key:=l[k].key) (stop:=l[k].stop) Tc.kind.1 Tc.kind.2 (by have:=Tc.key;omega) (by have:=Tc.stop;omega);obtain⟨d0,d1,d2⟩:=Vv hrg;obtain⟨ke,e1⟩:∃z,zb l[k].key=.string z:=⟨_,rfl⟩;obtain⟨st,e2⟩:∃z,zb l[k].stop=.string z:=⟨_,rfl⟩;unfold WY at wf;rw[e1,e2]at wf;rw[e1]at d1;rw[e2]at d2;have Ih:=hid wf;have HB:=hid (show((ids.map ptr).length+1)*(8+1)<=140737488355328 by rw[List.length_map,h_,List.length_map,List.length_take];have:min k l.length<=k:=Nat.min_le_left _ _;omega);have tA:=hid (show(l.take (k+1)).map qE.m=(l.take k).map qE.m++[l[k].m] by rw[List.take_succ_eq_append_getElem haK,List.map_append];rfl);have TE:=hid sS;have HOW:=hid Ha;have ig:=hid h_;have Hu:=hid He;have hgS:(k:Int)<n:=by omega
   clear sS Ha He h_ wf hrg Tc hld e1 e2;go_wp2_with fail;refine Ih.out.mono ?_;rintro e w4 ⟨pb,rfl,Rh,wQ,pO⟩;have Te:=hid Rh;have mq:=hid (pO (λj=>(Value.slice zp zn zc).ownBlock=some j) λj e=>(World.ownsRow.lt HOW.out j e).2);have hbV:=hid (qJ (zS HOW.out (λq hq=>Rh.block q (World.ownsRow.lt HOW.out q hq).2 λe=>e)) 0 (Nat.zero_le _));have HLO:=hid (λq hq=>(World.ownsRow.lt HOW.out q hq).1);clear Rh pO wQ d0 d1 d2;go_wp2_with (at_builtin;refine qM KU rfl rfl (World.ownsRow.alloc hbV.out _) rfl rfl (Sl.made w4 [ptr pb] _ 1 1 rfl (by decide)) gB HB.out ?_;intro v7 w7 how EQ oO;obtain⟨p7,n7,c7,rfl⟩:=(Sl.of_own how).shape;have HW7:=hid (And.intro how (And.intro EQ oO));clear how EQ oO);go_roundw
   case rel=>
    obtain⟨how,EQ,oO⟩:=HW7.out;have hY:=zeN EQ oO;have mL:za w4 (w4.alloc (.cells #[ptr pb] 72)):=(za.refl w4).alloc _;refine⟨k+1,by omega,by go_num,za.of_grown ((TE.out.trans Te.out).trans mL) EQ HLO.out,m+1,ids++[pb],?_,?_,?_⟩
    ·rw[List.map_append];refine⟨how.1,?_⟩;rcases how.2 with h3|⟨g,cap,cur,e3,_,h5⟩
     ·exact Or.inl h3
     ·refine Or.inr ⟨g,cap,cur,e3,?_,h5⟩;rcases oO g (by rw[e3];rfl)with e|e
      ·exact HLO.out g e
      ·have:=((TE.out.trans Te.out).trans mL).size;omega
    ·rw[tA.out,List.length_append,List.length_append,ig.out];rfl
    ·rw[tA.out];exact qz.snoc (qz.mono (λ_ _ hx=>(hx.mono (Te.out.im _)).mono ((mL.im _).le_trans hY)) Hu.out) (mq.out.mono ((mL.im _).le_trans hY))
   case measure=>simp[intOf];omega
  ·have ph:k=n:=by omega
   have ht:l.take k=l:=List.take_of_length_le (by rw[<-HN.out];omega);rw[ht]at He h_;obtain⟨v1,w5,h1,n1,b1,⟨an,ac,rfl⟩,_⟩:=jO (P:=prog) wr 9 75 5 (l:=key) (u:=.string) (by kernel_rfl) (by kernel_rfl) (by kernel_rfl) (by omega);obtain⟨v2,w6,h2,n2,b2,⟨bn,bc,rfl⟩,_⟩:=jO (P:=prog) w5 9 75 5 (l:=stop) (u:=.string) (by kernel_rfl) (by kernel_rfl) (by kernel_rfl) (by omega);have hY:(im (λj=>(Value.slice zp zn zc).ownBlock=some j) wr).le w6.cell? :=(zd _ _).le_trans (n1.trans n2).le;have hz:=zev (w:=w6) (kd:=kd) ((Sl.of_own Ha).mono (n1.trans n2).le) (qz.mono (λ_ _ hx=>hx.mono hY) He) (b1.mono n2.le) b2 (λq hq=>by
    obtain⟨x,hx,rfl⟩:=List.mem_map.1 hq;have hgx:=HGD.out x hx;have rH:=hgx.kind;exact⟨by show x.kind.toNat<=2;omega,hgx.range,by have:=hgx.key;show x.key.length<=1000;omega,by have:=hgx.stop;show x.stop.length<=1000;omega⟩) (by rw[List.length_map,<-HN.out];omega) HKD.out (by omega) HVR.out
   have h1:(convert 9 75 (.string kx)).run prog wr=.ok (.slice (some ⟨wr.heap.size,0,none⟩) an ac) w5:=by rw[<-HKX.out];exact h1
   have h2:(convert 9 75 (.string tx)).run prog w5=.ok (.slice (some ⟨w5.heap.size,0,none⟩) bn bc) w6:=by rw[<-ID.out];exact h2
   have HZ:=hid hz;have TE:=hid (sS.trans (n1.trans n2));clear sS Ha He h_ n1 n2 b1 b2 hY hz;rcases HKD.out with rfl|rfl
   ·go_wp2_with fail;refine HZ.out.mono ?_;rintro e w8 ⟨rfl,r9⟩;have HN8:=hid r9;clear r9;go_wp2;go_returns;exact⟨rfl,TE.out.trans HN8.out⟩
   ·go_wp2_with fail;refine HZ.out.mono ?_;rintro e w8 ⟨rfl,r9⟩;have HN8:=hid r9;clear r9;go_wp2;go_returns;exact⟨rfl,TE.out.trans HN8.out⟩
theorem zd6{l:List qE}(h:GE l l.length):VL (l.map qE.m):=by unfold VL;rw[List.pairwise_iff_getElem];intro i j hi hj MG e;rw[List.length_map]at hi hj;rw[List.getElem_map,List.getElem_map]at e;exact h j i hj hj MG e.symm
def UE3(kd:Int)(kx tx:ByteArray):List Value:=[.int .i64 kd,.string ⟨#[117]⟩,.string ⟨#[]⟩,.int .i64 0,.string kx,.string tx,.bool false,.int .i64 0,.bool false,.int .i64 kd,.string ⟨#[114,111,111,116]⟩,.string ⟨#[]⟩,.int .i64 0,.string kx,.string tx,.bool false,.int .i64 0,.bool false,.int .i64 kd,.string ⟨#[120]⟩,.string ⟨#[]⟩,.int .i64 0,.string kx,.string tx,.bool false,.int .i64 0,.bool false]
theorem zeO{k e:Bytes}{kx tx:ByteArray}(hk:zb k=.string kx)(he:zb e=.string tx)(kd:Int):UE3 kd kx tx=jc zH.cells (zbz kd k e):=by unfold UE3;rw[<-hk,<-he];rfl
theorem zb1{f:α->Array Value}{l:List α}(h:∀x,∀u∈(f x).toList,u.oneCell'=true):∀u∈jc f l,u.oneCell'=true:=by intro u hu;unfold jc at hu;obtain⟨x,_,hx⟩:=List.mem_flatMap.1 hu;exact h x u hx
theorem zeh(x:qE):∀u∈x.cells.toList,u.oneCell'=true:=by intro u hu;simp only[qE.cells,List.mem_cons,List.not_mem_nil,or_false]at hu;rcases hu with rfl|rfl|rfl<;>rfl
theorem zeK(o:zH):∀u∈o.cells.toList,u.oneCell'=true:=by intro u hu;simp only[zH.cells,List.mem_cons,List.not_mem_nil,or_false]at hu;rcases hu with rfl|rfl|rfl|rfl|rfl|rfl|rfl|rfl|rfl<;>rfl
theorem zdi{a b c:List qE}(ha:a.length<=2147483647)(hb:b.length<=2147483647)(hc:c.length<=2147483647):((jc qE.cells (a++b)).length+(jc qE.cells c).length)*(40+1)<=140737488355328:=by rw[xq yP,xq yP,List.length_append];omega
variable{base:Nat}{e:TypeId}
theorem zep{f:α->Array Value}(hf:∀x,(f x).size=n)(hn:0<n){w:World}{q:Option Addr}{m m':Nat}{l:List α}(h:w.ownsRow base e n (.slice q m c) m' (jc f l)):m=l.length:=by obtain⟨p',n',c',e9,hl',_⟩:=Sl.of_own h;simp only[Value.slice.injEq]at e9;obtain⟨_,rfl,_⟩:=e9;rw[xq hf]at hl';exact(Nat.eq_of_mul_eq_mul_right hn hl').symm
theorem zdo{a b:List qE}:jc qE.cells a++jc qE.cells b=jc qE.cells (a++b):=(gS _ _ _).symm
def zew(x:Int):Int:=if x=0 then 16 else if x=1 then 15 else 17
def zeP(x:Int):Nat:=if x=0 then 0 else 1
theorem zey(hR:∀o:zH,o.runs->o.kind≠13->zdI o){w:World}{l1 l2 l3:List qE}{v1 v2 v3:Value}{k e:Bytes}{x:Int}(h1:Y2 w.cell? l1 v1)(h2:Y2 w.cell? l2 v2)(h3:Y2 w.cell? l3 v3):
  Calls prog 10 #[v1,v2,v3,zb k,zb e,.int .i64 x] w λe w'=>e=.returned (.bool true)/\za w w':=by
 obtain⟨kx,rH⟩:∃z,zb k=.string z:=⟨_,rfl⟩;obtain⟨tx,htx⟩:∃z,zb e=.string z:=⟨_,rfl⟩;obtain⟨p1,c1,rfl,r8,_,_⟩:=kw.shape yP (by decide) h1;obtain⟨p2,c2,rfl,Nj,_,_⟩:=kw.shape yP (by decide) h2;obtain⟨p3,c3,rfl,EM,_,_⟩:=kw.shape yP (by decide) h3;obtain⟨bk,hK,PX⟩:=zaP k;obtain⟨be,hE,bV⟩:=zaP e;obtain⟨bv,mt⟩:=zex (zU k e);have hV:=λW=>zaQ (w:=W) mt;rw[rH]at hK hV⊢;rw[htx]at hE hV⊢;have HK:=hid hK;have HE:=hid hE;have HV:=hid hV;have HKX:=hid rH;have ID:=hid htx;have HKB:=hid PX;have HEB:=hid bV;have HBV:=hid mt;have rX:=hid hR;obtain⟨n1,hQ⟩:=zex (l1.length);obtain⟨n2,Hj⟩:=zex (l2.length);obtain⟨n3,Hg⟩:=zex (l3.length);rw[<-hQ,<-Hj,<-Hg];rw[<-hQ]at r8;rw[<-Hj]at Nj;rw[<-Hg]at EM;rw[<-hQ]at h1;rw[<-Hj]at h2;rw[<-Hg]at h3;have H1:=hid h1;have H2:=hid h2;have H3:=hid h3;have Hs:=hid hQ;have Pf:=hid Hj;have Rb:=hid Hg;have HF:=hid (zem h1);clear h1 h2 h3 hK hE hV rH htx PX bV mt hR hQ Hj Hg
 go_enter func10,ntmps10;go_wp2_with fail;refine HF.out.mono ?_;rintro e w1 ⟨b,rfl,hn,Pb⟩;have HA:=hid hn;have Rq:=hid Pb;clear hn Pb HF;cases b
 ·go_wp2;go_returns;exact⟨rfl,HA.out⟩
 have HF:=hid (zem (H2.out.mono HA.out.le));go_wp2_with fail;refine HF.out.mono ?_;rintro e w2 ⟨b,rfl,hn,Pb⟩;have HA2:=hid (HA.out.trans hn);have SB:=hid Pb;clear hn Pb HF;cases b
 ·go_wp2;go_returns;exact⟨rfl,HA2.out⟩
 have HF:=hid (zem (H3.out.mono HA2.out.le));go_wp2_with fail;refine HF.out.mono ?_;rintro e w3 ⟨b,rfl,hn,Pb⟩;have HA3:=hid (HA2.out.trans hn);have HB3:=hid Pb;clear hn Pb HF;cases b
 ·go_wp2;go_returns;exact⟨rfl,HA3.out⟩
 by_cases rh:2147483647<kx.size
 ·have t1:decide (2147483647<(kx.size:Int))=true:=by simp;omega
  go_wp2;go_returns;exact⟨rfl,HA3.out⟩
 have t1:decide (2147483647<(kx.size:Int))=false:=by simp;omega
 by_cases se:2147483647<tx.size
 ·have t2:decide (2147483647<(tx.size:Int))=true:=by simp;omega
  go_wp2;go_returns;exact⟨rfl,HA3.out⟩
 have t2:decide (2147483647<(tx.size:Int))=false:=by simp;omega
 have Pb:=Rq.out (by first|trivial|rfl);have pw:=SB.out (by first|trivial|rfl);have sG:=HB3.out (by first|trivial|rfl);have S6:=hid (zdi (a:=[]) (b:=[]) (c:=l1) (Nat.zero_le _) (Nat.zero_le _) Pb);have Nl:=hid (zdi (a:=[]) (b:=l1) (c:=l2) (Nat.zero_le _) Pb pw);have Cf:=hid (zdi (a:=l1) (b:=l2) (c:=l3) Pb pw sG);have HO1:=hid (zb1 zeh (l:=l1));have HO2:=hid (zb1 zeh (l:=l2));have iI:=hid (zb1 zeh (l:=l3));clear Pb pw sG Rq SB HB3
 go_wp2_with (first|(at_builtin;refine qy zdg rfl rfl ((za.refl w3).alloc _) (vG (Nat.le_refl _) (zg w3 _)) rfl rfl ((H1.out.mono HA3.out.le).mono (za.le ((za.refl w3).alloc _))) HO1.out S6.out ?_;intro v4 w4 m4 pP ho hn hg PV;obtain⟨q4,n4,d4,rfl⟩:=PV.shape;have EK:=hid ho;have HA4:=hid hn;clear pP ho hn hg PV)|(at_builtin;refine qy zdg rfl rfl HA4.out EK.out rfl rfl (H2.out.mono (HA3.out.trans HA4.out).le) HO2.out Nl.out ?_;intro v5 w5 m5 pr ho hn hg pC;obtain⟨q5,n5,d5,rfl⟩:=pC.shape;have HO5:=hid ho;have HA5:=hid hn;clear pr ho hn hg pC)|(at_builtin;refine qy zdg rfl rfl HA5.out HO5.out rfl rfl (H3.out.mono (HA3.out.trans HA5.out).le) iI.out (by rw[List.nil_append,zdo];exact Cf.out) ?_;intro v6 w6 m6 PP ho hn hg PC;rw[List.nil_append,zdo,zdo]at PC;obtain⟨q6,n6,d6,rfl⟩:=PC.shape;have HAL:=hid PC;have HA6:=hid (HA3.out.trans hn);clear PP ho hn hg PC));clear EK HA4 HO5 HA5 HA HA2
 have HPR:=hid (zdm HAL.out);refine HPR.out.mono ?_;rintro e w7 ⟨b,rfl,hn,N9⟩;have HA7:=hid (HA6.out.trans hn);have HN7:=hid hn;have lQ:=hid N9;clear hn N9 HPR;cases b
 ·go_wp2;go_returns;exact⟨rfl,HA7.out⟩
 by_cases wN:4<n1
 ·have t3:decide (4<(n1:Int))=true:=by simp;omega
  go_wp2;go_returns;exact⟨rfl,HA7.out⟩
 have t3:decide (4<(n1:Int))=false:=by simp;omega
 by_cases NV:4<n2
 ·have t4:decide (4<(n2:Int))=true:=by simp;omega
  go_wp2;go_returns;exact⟨rfl,HA7.out⟩
 have t4:decide (4<(n2:Int))=false:=by simp;omega
 by_cases MP:4<n3
 ·have t5:decide (4<(n3:Int))=true:=by simp;omega
  go_wp2;go_returns;exact⟨rfl,HA7.out⟩
 have t5:decide (4<(n3:Int))=false:=by simp;omega
 have HAP:=hid (zdn (H1.out.mono HA7.out.le));go_wp2_with fail;refine HAP.out.mono ?_;rintro e w8 ⟨b,rfl,hn,Rj⟩;have HA8:=hid (HA7.out.trans hn);have HN8:=hid (HN7.out.trans hn);have HP1:=hid Rj;clear hn Rj HAP;cases b
 ·go_wp2;go_returns;exact⟨rfl,HA8.out⟩
 have HAP:=hid (zdn (H2.out.mono HA8.out.le));go_wp2_with fail;refine HAP.out.mono ?_;rintro e w9 ⟨b,rfl,hn,Rj⟩;have HA9:=hid (HA8.out.trans hn);have wU:=hid (HN8.out.trans hn);have Ll:=hid Rj;clear hn Rj HAP;cases b
 ·go_wp2;go_returns;exact⟨rfl,HA9.out⟩
 have HAP:=hid (zdn (H3.out.mono HA9.out.le));go_wp2_with fail;refine HAP.out.mono ?_;rintro e w10 ⟨b,rfl,hn,Rj⟩;have haj:=hid (HA9.out.trans hn);have hch:=hid (wU.out.trans hn);have sX:=hid Rj;clear hn Rj HAP;cases b
 ·go_wp2;go_returns;exact⟨rfl,haj.out⟩
 go_wp2_with fail;refine(HK.out _).mono ?_;rintro e w9' ⟨rfl,rfl⟩;cases bk
 ·go_wp2;go_returns;exact⟨rfl,haj.out⟩
 go_wp2_with fail;refine(HE.out _).mono ?_;rintro e w9' ⟨rfl,rfl⟩;cases be
 ·go_wp2;go_returns;exact⟨rfl,haj.out⟩
 go_wp2_with fail;refine(HV.out _).mono ?_;rintro e w9' ⟨rfl,rfl⟩;cases bv
 ·go_wp2;go_returns;exact⟨rfl,haj.out⟩
 by_cases TN:x<0
 ·have t7:decide (x<0)=true:=by simp;omega
  go_wp2;go_returns;exact⟨rfl,haj.out⟩
 have t7:decide (x<0)=false:=by simp;omega
 by_cases rU:2<x
 ·have t8:decide (2<x)=true:=by simp;omega
  go_wp2;go_returns;exact⟨rfl,haj.out⟩
 have t8:decide (2<x)=false:=by simp;omega
 obtain⟨j,hj⟩:∃j:Nat,x=j:=⟨x.toNat,by omega⟩;subst hj;have IR:j<=2:=by omega
 obtain⟨kd,Cr⟩:=zex (zew j);obtain⟨kp,BH⟩:=zex (zeP j);have ha8:kd=15\/kd=16\/kd=17:=by rw[Cr];unfold zew;split;omega;split<;>omega
 have Rk:kp=if kd=16 then 0 else 1:=by
  rw[BH,Cr];unfold zew zeP;by_cases e0:(j:Int)=0
  ·rw[if_pos e0,if_pos e0,if_pos rfl]
  ·rw[if_neg e0,if_neg e0];by_cases e1:(j:Int)=1
   ·rw[if_pos e1,if_neg (by omega)]
   ·rw[if_neg e1,if_neg (by omega)]
 obtain⟨W,hW⟩:=zex (w10.alloc (.cells #[.int .i64 16,.int .i64 15,.int .i64 17] 3));have Pz:za w10 W:=by rw[hW];exact(za.refl w10).alloc _
 have hjc:(w10.alloc (.cells #[.int .i64 16,.int .i64 15,.int .i64 17] 3)).cell? ⟨w10.heap.size,j,none⟩=some (.int .i64 kd):=by rw[cell_of_row _ _ j _ _ (0,0) (zg w10 _),Cr];rcases(by omega:j=0\/j=1\/j=2)with rfl|rfl|rfl<;>rfl
 obtain⟨ee,rW⟩:=zex (if kd=15 then []else e);obtain⟨ex,hex⟩:∃z,zb ee=.string z:=⟨_,rfl⟩;have Hz:(kd=15->ex=⟨#[]⟩)/\(kd≠15->ex=tx):=by
  constructor
  ·intro LA;rw[rW,if_pos LA]at hex;unfold zb at hex;injection hex with e9;exact e9.symm
  ·intro LA;rw[rW,if_neg LA,ID.out]at hex;injection hex with e9;exact e9.symm
 have hj0:(0:Int)<=j:=by omega
 have hj3:(j:Int)<3:=by omega
 have ha9:min (j:Int) 1=kp:=by
  rw[BH];unfold zeP;by_cases e0:(j:Int)=0
  ·rw[if_pos e0];omega
  ·rw[if_neg e0];omega
 have HKD:=hid ha8;have ox:=hid Rk;have HW:=hid hW;have HAW:=hid (haj.out.trans Pz);have r7:=hid (hch.out.trans Pz);have TP:=hid rW;have HEX:=hid hex;have HCX:=hid Hz;have nN:=hid ha9;clear Cr BH ha8 Rk hW Pz rW hex Hz ha9;go_upto_if 112 with fail
 rw[<-HW.out];go_cut [4] (λc wx=>W=wx/\c=.string ex)
 case first=>
  by_cases LA:kd=15
  ·have t9:((kd:Int)==15)=true:=by simp[LA]
   have hx9:=HCX.out.1 LA;clear LA;go_wp2;go_meet;exact⟨rfl,by rw[hx9]⟩
  ·have t9:((kd:Int)==15)=false:=by simp[LA]
   have hx9:=HCX.out.2 LA;go_wp2;go_meet;exact⟨rfl,by rw[hx9]⟩
 case rest=>
  obtain⟨rfl,rfl⟩:=hcut;have haU:=lQ.out (by first|trivial|rfl);have h_:=haU.len;have R7:=haU.good;rw[List.length_append,List.length_append]at h_;have Ri:∀ps∈[l1,l2,l3],∀x∈ps,x.good:=λps sw x hx=>by
   simp only[List.mem_cons,List.not_mem_nil,or_false]at sw;rcases sw with rfl|rfl|rfl
   ·exact R7 x (by simp[hx])
   ·exact R7 x (by simp[hx])
   ·exact R7 x (by simp[hx])
  have hll:∀ps∈[l1,l2,l3],ps.length<=12:=λps sw=>by simp only[List.mem_cons,List.not_mem_nil,or_false]at sw;rcases sw with rfl|rfl|rfl<;>omega
  have RZ:∀qs∈[l1.map qE.m,l2.map qE.m,l3.map qE.m],∃ps∈[l1,l2,l3],qs=ps.map qE.m:=λqs N3=>by
   simp only[List.mem_cons,List.not_mem_nil,or_false]at N3;rcases N3 with rfl|rfl|rfl
   ·exact⟨l1,by simp,rfl⟩
   ·exact⟨l2,by simp,rfl⟩
   ·exact⟨l3,by simp,rfl⟩
  have hgm:∀qs∈[l1.map qE.m,l2.map qE.m,l3.map qE.m],∀p∈qs,∃x:qE,x.good/\p=x.m:=λqs N3 p hp=>by obtain⟨ps,sw,rfl⟩:=RZ qs N3;obtain⟨x,hx,rfl⟩:=List.mem_map.1 hp;exact⟨x,Ri ps sw x hx,rfl⟩
  have Lt:=HBV.out;have tP:k≠[]:=λe9=>by rw[e9]at Lt;unfold zU at Lt;simp at Lt
  have pE:=HKB.out (by first|trivial|rfl);have cI:ee.length<=64:=by
   rw[TP.out];split
   ·exact Nat.zero_le _
   ·exact HEB.out (by first|trivial|rfl)
  have hve:zU k ee=true:=by
   rw[TP.out];split
   ·unfold zU;rw[decide_eq_false tP];rfl
   ·exact Lt.symm
  have pQ:=zeD (l:=[l1.map qE.m,l2.map qE.m,l3.map qE.m]) (show 3<=3 by omega) (λqs N3 p hp=>by obtain⟨x,hx,rfl⟩:=hgm qs N3 p hp;exact hx.range)
   (λqs N3 p hp=>by obtain⟨x,hx,rfl⟩:=hgm qs N3 p hp;exact⟨by have:=hx.kind;show x.kind.toNat<=2;omega,hx.key,hx.stop⟩)
   (λqs N3=>by
    simp only[List.mem_cons,List.not_mem_nil,or_false]at N3;rcases N3 with rfl|rfl|rfl
    ·exact zd6 (HP1.out (by first|trivial|rfl))
    ·exact zd6 (Ll.out (by first|trivial|rfl))
    ·exact zd6 (sX.out (by first|trivial|rfl)))
   (by simp only[List.flatten_cons,List.flatten_nil,List.length_append,List.length_map,List.length_nil];omega) (λqs N3=>by obtain⟨ps,sw,rfl⟩:=RZ qs N3;rw[List.length_map];exact hll ps sw)
   HKD.out (k:=k) (e:=ee) pE cI hve (λLA=>by rw[TP.out,if_pos LA])
  obtain⟨haN,hgs,hbf,an,rev,hbh,pQ⟩:=pQ;have cG:[l1.map qE.m,l2.map qE.m,l3.map qE.m].flatten=(l1++l2++l3).map qE.m:=by simp
  rw[cG,<-ox.out]at pQ;obtain⟨W9,iD⟩:=zex (W.alloc (.cells #[.slice p1 n1 c1,.slice p2 n2 c2,.slice p3 n3 c3] 40));have R0:za W W9:=by rw[iD];exact(za.refl W).alloc _
  have mL:=HAW.out.trans R0;have eh:zbT W9.cell? [l1,l2,l3] (.slice (some ⟨W.heap.size,0,none⟩) 3 3):=⟨[.slice p1 n1 c1,.slice p2 n2 c2,.slice p3 n3 c3],by rw[iD];exact Sl.made W [.slice p1 n1 c1,.slice p2 n2 c2,.slice p3 n3 c3] _ 1 3 rfl (by decide),qz.cons (H1.out.mono mL.le) (qz.cons (H2.out.mono mL.le) (qz.cons (H3.out.mono mL.le) qz.nil))⟩;have HCT:=hid (zdl eh (show 3<=3 by omega) λps sw=>⟨hll ps sw,λx hx=>(Ri ps sw x hx).kind.1⟩);have hcu:an.length<=45:=by have h9:=zeo (l:=[l1.map qE.m,l2.map qE.m,l3.map qE.m]) (show 3<=3 by omega) (λqs N3=>by obtain⟨ps,sw,rfl⟩:=RZ qs N3;rw[List.length_map];exact hll ps sw);omega
  have hcy:=hid pQ;have mR:=hid haN;have HGS:=hid hgs;have hcz:=hid hbf;have haV:=hid hbh;have HVE:=hid hve;have HEL:=hid cI;have HKL:=hid pE;have hbi:=hid R7;have H7:=hid h_;have HW9:=hid iD;have wU:=hid mL;have hbj:=hid (r7.out.trans R0);clear haU h_ R7 Ri hll RZ hgm Lt tP pE cI hve haN hgs hbf hbh pQ cG iD R0 mL eh lQ HP1 Ll sX HK HE HV S6 Nl Cf HO1 HO2 iI HCX HW HBV HKB HEB;go_wp2_with fail;rw[<-HW9.out];refine HCT.out.mono ?_;rintro e w11 ⟨z,m,rfl,Iy,Ha⟩;obtain⟨q,m2,c4,rfl⟩:=(Sl.of_own Ha).shape;have hcA:m2=an.length+1:=by rw[zep Y1 (by decide) Ha,haV.out];rfl
  subst hcA;have hiA:=hid (wU.out.trans Iy);have hfY:=hid (hbj.out.trans Iy);have Co:=hid Iy;have haO:w11.ownsRow W9.heap.size 35 9 (.slice q (an.length+1) c4) m (jc zH.cells (jE [l1.map qE.m,l2.map qE.m,l3.map qE.m])):=Ha;have Px:=hid haO;have SR:=hid (show((jc zH.cells (jE [l1.map qE.m,l2.map qE.m,l3.map qE.m])).length+(UE3 kd kx ex).length)*(104+1)<=140737488355328 by rw[xq Y1,<-haV.out];show((_+1)*9+27)*105<=_;omega);have HUE:=hid (zeO HKX.out HEX.out kd);have ag:=hid (show∀y∈UE3 kd kx ex,y.oneCell'=true by rw[HUE.out];exact zb1 zeK);clear Iy Ha haO HCT
  go_wp2_with (at_builtin;refine qy gT rfl rfl ((Co.out.alloc _).alloc _) (World.ownsRow.alloc (World.ownsRow.alloc Px.out _) _) rfl rfl (Sl.made_at _ (UE3 kd kx ex) _ 9 3 (w11.heap.size+1) (sz1 _ _).symm rfl (by decide)) ag.out SR.out ?_;intro v8 w8 m8 A7 ho r9 hg rB;rw[HUE.out,<-gS]at ho;obtain⟨p8,n8,c8,rfl⟩:=(Sl.of_own ho).shape;have HO8:=hid ho;have HN8:=hid r9;clear A7 ho r9 hg rB);have hcB:n8=an.length+4:=by have h9:=zep Y1 (by decide) HO8.out;rw[h9,List.length_append,<-haV.out];rfl
  subst hcB;have CF:=hid (zdP (l:=jE [l1.map qE.m,l2.map qE.m,l3.map qE.m]++zbz kd k ee) (Sl.of_own HO8.out) (λo ho=>(mR.out o ho).1) (λo ho=>rX.out o (mR.out o ho).1 (mR.out o ho).2) hcz.out HGS.out);rw[hcy.out]at CF;refine CF.out.mono ?_;rintro e w12 ⟨v',rfl,haW,Rg⟩;obtain⟨p9,c9,rfl,_,_,hp9⟩:=Rg.shape;obtain⟨pb,wQ⟩:∃z:Bool,z=yT ((l1++l2++l3).map qE.m) kp k ee:=⟨_,rfl⟩;rw[<-wQ]at Rg hp9⊢;have haa:∀a1 a2 a3 a4:vN,(an++[a1,a2,a3,a4]).length=an.length+4:=λ_ _ _ _=>by rw[List.length_append];rfl
  obtain⟨b,o,rfl⟩:=hp9 (by rw[haa];omega);obtain⟨_,_,k1⟩:=Rg.cells (i:=an.length) (by rw[haa];omega);obtain⟨_,_,k2⟩:=Rg.cells (i:=an.length+1) (by rw[haa];omega);obtain⟨_,_,k3⟩:=Rg.cells (i:=an.length+2) (by rw[haa];omega);obtain⟨_,_,k4⟩:=Rg.cells (i:=an.length+3) (by rw[haa];omega);rw[List.getElem_append_right (by omega)]at k1 k2 k3 k4;simp only[Nat.sub_self,Nat.add_sub_cancel_left,List.getElem_cons_zero,List.getElem_cons_succ]at k1 k2 k3 k4;have d1:w12.cell? ⟨b,o+an.length*6+2,none⟩=some (.bool true):=k1.on;have d2:w12.cell? ⟨b,o+(an.length+1)*6,none⟩=some (.int .i64 (if pb=true then 0 else 10:Nat)):=k2.err;have d3:w12.cell? ⟨b,o+(an.length+2)*6,none⟩=some (.int .i64 0):=k3.err;have d4:w12.cell? ⟨b,o+(an.length+3)*6,none⟩=some (.int .i64 10):=k4.err;rw[haa];have hbz:=hid haW
  have hpr:=zes (w:=w12) (key:=k) (stop:=ee) (kd:=kp) (show Y2 w12.cell? (l1++l2++l3) (.slice q6 n6 d6)from Sl.mono (hbj.out.trans (HN8.out.trans haW)).le HAL.out) hbi.out (by rw[List.length_append,List.length_append];exact H7.out) (by rw[ox.out];split;exact Or.inl rfl;exact Or.inr rfl) HKL.out HEL.out HVE.out;rw[HKX.out,HEX.out,<-wQ]at hpr;have HPR:=hid hpr;clear k1 k2 k3 k4 hp9 Rg haa haW hpr wQ;have f1:IntKind.i64.wrap ((an.length:Int)+1+3)=(an.length:Int)+4:=by rw[show(an.length:Int)+1+3=(an.length:Int)+4 by omega];exact IntWalk.i64_in _ (by omega)
  have f2:IntKind.i64.wrap ((an.length:Int)+1-1)=(an.length:Int):=by rw[show(an.length:Int)+1-1=(an.length:Int) by omega];exact IntWalk.i64_in _ (by omega)
  have f3:(0:Int)<=an.length:=by omega
  have f4:(an.length:Int)<(an.length:Int)+4:=by omega
  have f5:IntKind.i64.wrap ((an.length:Int)+1+1)=(an.length:Int)+2:=by rw[show(an.length:Int)+1+1=(an.length:Int)+2 by omega];exact IntWalk.i64_in _ (by omega)
  have f6:IntKind.i64.wrap ((an.length:Int)+1+2)=(an.length:Int)+3:=by rw[show(an.length:Int)+1+2=(an.length:Int)+3 by omega];exact IntWalk.i64_in _ (by omega)
  have f7:(an.length:Int)+1<(an.length:Int)+4:=by omega
  have f8:(an.length:Int)+2<(an.length:Int)+4:=by omega
  have f9:(an.length:Int)+3<(an.length:Int)+4:=by omega
  have g1:(0:Int)<=(an.length:Int)+1:=by omega
  have g2:(0:Int)<=(an.length:Int)+2:=by omega
  have g3:(0:Int)<=(an.length:Int)+3:=by omega
  have g4:((an.length:Int)+1).toNat=an.length+1:=by omega
  have g5:((an.length:Int)+2).toNat=an.length+2:=by omega
  have g6:((an.length:Int)+3).toNat=an.length+3:=by omega
  cases pb
  ·go_wp2_with fail;rw[nN.out];refine HPR.out.mono ?_;rintro e w13 ⟨rfl,haf⟩;have e2:=haf.le _ _ d2;have e3:=haf.le _ _ d3;have e4:=haf.le _ _ d4;have e2:w13.cell? ⟨b,o+(an.length+1)*6,none⟩=some (.int .i64 10):=e2;have nZ:=hid haf;clear d1 d2 d3 d4 haf;go_wp2;go_returns;exact⟨rfl,za.trans (wU.out.trans (HN8.out.trans hbz.out)) nZ.out⟩
  ·go_wp2_with fail;rw[nN.out];refine HPR.out.mono ?_;rintro e w13 ⟨rfl,haf⟩;have e2:=haf.le _ _ d2;have e3:=haf.le _ _ d3;have e4:=haf.le _ _ d4;have e2:w13.cell? ⟨b,o+(an.length+1)*6,none⟩=some (.int .i64 0):=e2;have nZ:=hid haf;clear d1 d2 d3 d4 haf;go_wp2;go_returns;exact⟨rfl,za.trans (wU.out.trans (HN8.out.trans hbz.out)) nZ.out⟩
section
open Go.RowKit Go.ChangeShapes Go.WideShapes Go.ChangeAt Go.Deep
variable{w':World}
theorem zeF{w:World}(h:za w w'):Below w.heap.size w w':=
 ⟨h.os,h.tape,h.output,h.size,λk hk=>h.block k hk (λe=>e)⟩
theorem zeS{a b:Bool}(ha:a=true)(hb:b=true):(a && b)=true:=by rw[ha,hb];rfl
end
section
open Go.RowKit Go.ChangeShapes Go.WideShapes Go.ChangeAt Go.Deep
theorem zer(os:Os)(started:os.Started)(H:Type)(enc:TypeId×Value->H):
  ReturnsInHanded {} checked os 10 .any (Rows.fnAuthUnionSpec.pre6 enc prog f10 Rows.fnAuthUnionRow.domain false) (Rows.fnAuthUnionSpec.post enc prog f10 false true false false):=by
 refine returnsInHanded_of_change (C:=checked) own0 started (by kernel_rfl) func10
  (ChangeSpec.witness6 (enc:=enc) (C:=checked) false ⟨#[],#[.slice none 0 0,.slice none 0 0,.slice none 0 0,.string ⟨#[]⟩,.string ⟨#[]⟩,.int .i64 0],[]⟩ 8 (by kernel_rfl) (by kernel_rfl) (by kernel_rfl) (by kernel_rfl)) ?_
 intro W base args ds gs before hbA hW _ _;have haw:∀(j:Nat) t v,f10.params[j]? =some t->args[j]? =some v->Value.okWide prog W .any base t v:=hbA;have hW':DataW.Whole enc prog f10.params.toList Rows.fnAuthUnionSpec.vars false W args.toList ds gs before:=hW;obtain⟨p,q,hA0,hV,hpq,_,_⟩:=hW;have hA:DataW.TrodAll enc prog W 0 (λ_=>true) true f10.params.toList args.toList ds p:=hA0;have Hb:∀x∈before,x.block<W.heap.size:=λx hx=>by simpa using hW'.lt x hx
 rw[params10]at hA haw;obtain⟨v0,vs0,d0,ds0,p0,q0,CG,rfl,rfl,h0,r0⟩:=trodAll_cons hA;obtain⟨v1,vs1,d1,ds1,p1,q1,rfl,rfl,rfl,h1,r1⟩:=trodAll_cons r0;obtain⟨v2,vs2,d2,ds2,p2,q2,rfl,rfl,rfl,h2,r2⟩:=trodAll_cons r1;obtain⟨v3,vs3,d3,ds3,p3,q3,rfl,rfl,rfl,h3,r3⟩:=trodAll_cons r2;obtain⟨v4,vs4,d4,ds4,p4,q4,rfl,rfl,rfl,h4,r4⟩:=trodAll_cons r3;obtain⟨v5,vs5,d5,ds5,p5,q5,rfl,rfl,rfl,h5,r5⟩:=trodAll_cons r4;obtain⟨rfl,rfl,rfl⟩:=trodAll_nil r5;obtain rfl:args= #[v0,v1,v2,v3,v4,v5]:=by cases args;simp_all
 obtain⟨rfl,rfl⟩:=trodVars_none hV;obtain⟨a0,len0,cap0,rfl⟩:=okWide_slice underlying40 (haw 0 _ v0 rfl rfl);obtain⟨l0,S7⟩:=zc8 h0.choose_spec;obtain⟨a1,len1,cap1,rfl⟩:=okWide_slice underlying40 (haw 1 _ v1 rfl rfl);obtain⟨l1,rG⟩:=zc8 h1.choose_spec;obtain⟨a2,len2,cap2,rfl⟩:=okWide_slice underlying40 (haw 2 _ v2 rfl rfl);obtain⟨l2,tX⟩:=zc8 h2.choose_spec;obtain⟨s3,rfl⟩:=okWide_string underlying9 (haw 3 _ v3 rfl rfl);obtain⟨u3,iq⟩:=fQ h3.choose_spec;obtain⟨s4,rfl⟩:=okWide_string underlying9 (haw 4 _ v4 rfl rfl);obtain⟨u4,Me⟩:=fQ h4.choose_spec;obtain⟨x5,rfl,rfl,rfl,w5⟩:=open_int underlying3 (haw 5 _ v5 rfl rfl) h5;subst hpq;have fin:=zey (λo h1 h2=>zdk h1 h2) (k:=u3) (e:=u4) (x:=x5) S7 rG tX;rw[<-iq,<-Me]at fin;refine fin.mono λe W' ⟨he,hn⟩=> ?_;subst he;have hb:=zeF hn
 refine⟨_,rfl,zdR (pa:=p0++(p1++(p2++(p3++(p4++([]++[])))))) (pv:=[]) underlying4 (by kernel_rfl) hW' rfl (λsp Cb=> ?_) (λ_ _=>rfl) (by simp) hb⟩;have m0:∀x∈p0,x∈(p0++(p1++(p2++(p3++(p4++([]++[]))))))++[]:=λx hx=>by simp[hx]
 have m1:∀x∈p1,x∈(p0++(p1++(p2++(p3++(p4++([]++[]))))))++[]:=λx hx=>by simp[hx]
 have m2:∀x∈p2,x∈(p0++(p1++(p2++(p3++(p4++([]++[]))))))++[]:=λx hx=>by simp[hx]
 have m3:∀x∈p3,x∈(p0++(p1++(p2++(p3++(p4++([]++[]))))))++[]:=λx hx=>by simp[hx]
 have m4:∀x∈p4,x∈(p0++(p1++(p2++(p3++(p4++([]++[]))))))++[]:=λx hx=>by simp[hx]
 rw[params10];exact trodAll_cons_mk (WideElems.Trod_stays laid0 (by kernel_rfl) (of_decide_eq_true (by kernel_rfl)) h0 (λx hx=>hb.same (Hb x (m0 x hx))) (λx hx=>Cb x (m0 x hx)))
  (trodAll_cons_mk (WideElems.Trod_stays laid0 (by kernel_rfl) (of_decide_eq_true (by kernel_rfl)) h1 (λx hx=>hb.same (Hb x (m1 x hx))) (λx hx=>Cb x (m1 x hx)))
  (trodAll_cons_mk (WideElems.Trod_stays laid0 (by kernel_rfl) (of_decide_eq_true (by kernel_rfl)) h2 (λx hx=>hb.same (Hb x (m2 x hx))) (λx hx=>Cb x (m2 x hx)))
  (trodAll_cons_mk (WideElems.Trod_stays laid0 (by kernel_rfl) (of_decide_eq_true (by kernel_rfl)) h3 (λx hx=>hb.same (Hb x (m3 x hx))) (λx hx=>Cb x (m3 x hx)))
  (trodAll_cons_mk (WideElems.Trod_stays laid0 (by kernel_rfl) (of_decide_eq_true (by kernel_rfl)) h4 (λx hx=>hb.same (Hb x (m4 x hx))) (λx hx=>Cb x (m4 x hx)))
  (trodAll_cons_mk (shut_int underlying3 w5)
  trodAll_mk0)))))
theorem zez:pinned.checked.prog.funcNamed Rows.fnAuthUnionRow.func=some 10:=by kernel_rfl
theorem zet:joinedFacts pinned.checked.prog 10 f10 Rows.fnAuthUnionSpec Rows.fnAuthUnionRow=true:=by
 unfold joinedFacts
 repeat' (with_reducible refine zeS ?_ ?_)
 all_goals as_aux_lemma=>kernel_rfl
theorem zeA:f10.isInstance pinned.checked.prog Rows.fnAuthUnionRow.origin Rows.fnAuthUnionRow.targs:=of_decide_eq_true (by kernel_rfl)
theorem zeB:f10.isWrapper pinned.checked.prog Rows.fnAuthUnionRow.wrapper Rows.fnAuthUnionRow.mainSum:=by unfold Func.isWrapper;rw[if_neg (by decide+kernel)];exact⟨rfl,rfl⟩
theorem zeI:pinned.checked.prog.funcs[10]? =some f10:=func10
theorem zeu:Rows.FnAuthUnionSaid:=
 OpenClaim.holds_of_wide 10 f10 rfl rfl rfl rfl rfl rfl rfl ⟨rfl,rfl,rfl,rfl,rfl⟩ rfl rfl rfl rfl rfl zez zeI zet zeA zeB
  (λos started H enc _=>zer os started H enc)
#print axioms zeu
end
end Go.Proofs.YtbmdoinjkligiaaGreat
