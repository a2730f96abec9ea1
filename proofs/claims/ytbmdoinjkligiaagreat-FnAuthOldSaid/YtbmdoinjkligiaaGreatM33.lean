/- The Go law FnAuthOld holds of the given program for all its arguments: a question with a revision ahead of the present one is refused as old, with the present one it is not; without conditions. -/
import Derived.Test.YtbmdoinjkligiaaGreatM25
import Derived.Test.YtbmdoinjkligiaaGreatM26
import Derived.Test.YtbmdoinjkligiaaGreatM27
import Derived.Test.YtbmdoinjkligiaaGreatM28
import Derived.Test.YtbmdoinjkligiaaGreatM29
import Derived.Test.YtbmdoinjkligiaaGreatM30
import Derived.Test.YtbmdoinjkligiaaGreatM31
import Derived.Test.YtbmdoinjkligiaaGreatM32
set_option maxRecDepth 100000
set_option maxHeartbeats 40000000
set_option linter.all false
namespace Go.Proofs.YtbmdoinjkligiaaGreat
open Go.Proofs.Tryz Tryz
open Lib(hid)
open Go.RowKit
theorem QL(a:Nat)(W:World):(method 608 142 (ptr a) "UserGrantRole").run prog W=.ok (174,ptr a) W:=by kernel_rfl
variable{a ec x:Nat}{l:zu}{o:zH}{s':zA}
theorem fy{w:World}{I:zN}{s:zA}(h:Wd l w x I a s)(hk:o.kind=5)(hr:xE s o.user o.role=(s',ec))(hn:o.user.length<=1000)(hrn:o.role.length<=1000)(hf:ya s')(hs:yD s')(hsane:yD s):
  Calls prog 42 #[ptr x,o.val] w (Yd l w x I s' ec):=by
 obtain⟨ki,us,ro,pk,ke,st,np,od,nu⟩:=o;dsimp only at hk hr hn hrn;subst hk;unfold zH.val zH.cells;dsimp only;have hsn:=hsane;obtain⟨c0,c1,c2,_⟩:=vZ h.row;obtain⟨sx,hsx⟩:∃z,zb us=.string z:=⟨_,rfl⟩;obtain⟨rx,hrx⟩:∃z,zb ro=.string z:=⟨_,rfl⟩;obtain⟨cc,hcc⟩:=zex (#[.int .i64 5,zb us,zb ro,.int .i64 pk,zb ke,zb st,.bool np,.int .i64 od,.bool nu]);obtain⟨w1,hw1⟩:=zex (w.alloc (.cells cc 35));have hn1:za w w1:=by rw[hw1];exact(za.refl w).alloc _
 have hs1:w1.heap.size=w.heap.size+1:=by rw[hw1];exact Array.size_push ..
 have hb0:w1.heap[w.heap.size]? =some (.cells cc 35 (0,0)):=by rw[hw1];exact zg w _
 have d2:=hn1.le _ _ c2;have g0:w1.cell? ⟨w.heap.size,0,none⟩=some (.int .i64 5):=by rw[cell_of_row w1 _ 0 _ _ (0,0) hb0,hcc];rfl
 have g1:w1.cell? ⟨w.heap.size,1,none⟩=some (.string sx):=by rw[cell_of_row w1 _ 1 _ _ (0,0) hb0,hcc,hsx];rfl
 have g2:w1.cell? ⟨w.heap.size,2,none⟩=some (.string rx):=by rw[cell_of_row w1 _ 2 _ _ (0,0) hb0,hcc,hrx];rfl
 obtain⟨w3,hw3⟩:=zex (w1.alloc (.cells #[.string sx,.string rx] 174));have hn3:za w1 w3:=by rw[hw3];exact(za.refl w1).alloc _
 have hb3:w3.heap[w1.heap.size]? =some (.cells #[.string sx,.string rx] 174 (0,0)):=by rw[hw3];exact zg w1 _
 have hall:=hn1.trans hn3;have hz0:l w.heap.size=0:=by
  by_cases e:l w.heap.size=0
  ·exact e
  ·have:=h.st.bnd _ e;omega
 have hz1: ¬l.some w1.heap.size:=λe=>by have:=h.st.bnd _ e;omega
 have hC:∀W,(W=w3\/W=w3.drew)->Calls prog 174 #[ptr a,ptr w1.heap.size] W λe w'=>∃v,e=.returned (.tuple #[v,ze ec])/\(∃l' I' a',I'.db=I.db/\qG l w l' w'/\Wd l' w' x I' a' s')/\w'.cell? ⟨x,2,none⟩=some (.iface 142 (ptr a))/\w'.cell? ⟨w.heap.size,1,none⟩=some (.string sx)/\w'.cell? ⟨w.heap.size,2,none⟩=some (.string rx):=λW hW=>by
  have hb:W.heap=w3.heap:=by rcases hW with rfl|rfl<;>rfl
  have hnW:za w W:=by
   rcases hW with rfl|rfl
   ·exact hall
   ·exact hall.drew
  refine(dB (h.new hnW).st hr hn hrn (rb:=w1.heap.size) (zi.2 ⟨hz1,?_⟩) (zi.2 ⟨hz1,?_⟩) hf hs hsn).mono λe w' hc=> ?_
  rotate_left 2
  ·obtain⟨v,he,hend,k2,kp⟩:=VZ.w h hnW hc;have hb9:W.heap[w.heap.size]? =w1.heap[w.heap.size]? :=by
    rw[hb,hn3.block w.heap.size (by omega) (λe=>e)]
   exact⟨v,he,hend,k2,kp _ _ hz0 (by rw[World.cell?_of_block hb9];exact g1),kp _ _ hz0 (by rw[World.cell?_of_block hb9];exact g2)⟩
  ·rw[hsx,cell_of_row W w1.heap.size 0 _ _ (0,0) (by rw[hb];exact hb3)];rfl
  ·rw[hrx,cell_of_row W w1.heap.size 1 _ _ (0,0) (by rw[hb];exact hb3)];rfl
 have hC2:=hC _ (Or.inr rfl);rw[hs1,hw3]at hC2;have HC:=hid hC2;have HW1:=hid hw1;have HCC:=hid hcc;have HSX:=hid hsx;have HRX:=hid hrx;have hme:=QL a;clear h hcc hsx hrx hn1 hn3 hb3 hall hz0 hz1 hC hC2 hr hf hs hb0 hw3;obtain⟨ob,hob⟩:=zex (w.heap.size);rw[<-hob]at g0 g1 g2;have HOB:=hid hob;go_enter func42,ntmps42;go_upto_region 2 with fail
 rw[<-HCC.out,<-HW1.out,<-hob];clear c0 c1 c2 hob hw1;obtain⟨va,hva⟩:=zex (Value.agg cc);rw[<-hva];clear hva;go_wp2_with fail;go_region_held3 (λw'=>w'.cell? ⟨x,2,none⟩=some (.iface 142 (ptr a))/\w'.cell? ⟨ob,1,none⟩=some (.string sx)/\w'.cell? ⟨ob,2,none⟩=some (.string rx)) (go_keep) (first|(go_at_call 174;refine HC.out.mono ?_;rintro e w9 ⟨v,rfl,hend,k2,k1x,k2x⟩;rw[<-HOB.out]at k1x k2x;have HEND:=hid hend;clear hend))
 all_goals
  go_wp2;go_returns;exact⟨rfl,HEND.out⟩
section
variable{l:zu}{w:World}{x a k:Nat}{I:zN}{s:zA}{o:zH}
theorem VO(h:Wd l w x I a s)(hok:Ok s k)(hk:k<=98)(ho:o.runs)(hf:∀r∈s.roles,o.kind=11->r.perms.length<=11)(ha: ¬o.asks):
  Calls prog 42 #[ptr x,o.val] w (Yd l w x I (s.change o).1 (s.change o).2):=by
 have hok2:=XV hok ho.fits;have hfi:ya (s.change o).1:=hok2.small.fine (by omega) hok2.sane;have hsa:=hok2.sane;have hu:o.user.length<=1000:=by have:=ho.user;omega
 have hr:o.role.length<=1000:=by have:=ho.role.1;omega
 have hke:o.key.length<=1000:=by have:=ho.key;omega
 have hst:o.stop.length<=1000:=by have:=ho.stop;omega
 have hkk:=ho.kind;unfold zH.asks at ha;have hc:o.kind=1\/o.kind=2\/o.kind=3\/o.kind=4\/o.kind=5\/o.kind=6\/o.kind=9\/o.kind=10\/o.kind=11\/o.kind=12\/o.kind=20\/o.kind=21:=by omega
 rcases hc with e|e|e|e|e|e|e|e|e|e|e|e
 ·exact fG h e (zah e).symm hfi hsa
 ·have h2:=zai (s:=s) e;rw[h2]at hfi hsa⊢;exact fH h e rfl hfi hsa
 ·exact fq h e (zaj e).symm hu hfi hsa
 ·exact ft h e (zak e).symm hu hfi hsa
 ·exact fy h e (zaD e).symm hu hr hfi hsa hok.sane
 ·exact fz h e (zal e).symm hu hfi hsa
 ·exact fA h e (uW e).symm hr hfi hsa
 ·exact dC h e (DH e).symm hr hfi hsa
 ·have h2:=DJ (s:=s) e;obtain⟨p0,p2⟩:=ho.pk e;cases hp:o.noPerm
  ·rw[hp]at h2;exact Xo h e hp h2.symm hr p0 p2 hke hst hfi hsa hok.sane λr hr=>hf r hr e
  ·rw[hp]at h2;have h3:s.change o=(s,9):=h2;rw[h3];exact Xn h e hp
 ·exact dF h e (DK e).symm hr hke hst hfi hsa
 ·have h3:s.change o=(s,0):=by
   have:=XW (s:=s) (o:=o) (by omega);rw[yy (by unfold zH.asks;omega)]at this;injection this with h4 h5
   injection h5 with h6
   exact Prod.ext h4 h6
  rw[h3];exact dH h e
 ·have h3:s.change o=(s,0):=by
   have:=XW (s:=s) (o:=o) (by omega);rw[yy (by unfold zH.asks;omega)]at this;injection this with h4 h5
   injection h5 with h6
   exact Prod.ext h4 h6
  rw[h3];exact dG h e
theorem zd9{g:Nat}(h13:o.kind=13->Calls prog 33 #[ptr x,o.val] w (fZ l w x I (s.step o)))(h:Wd l w x I a s)(hok:Ok s k)(hk:k<=98)(hf:Xg s g)(hg:g+o.g<=12)(ho:o.runs):
  Calls prog 33 #[ptr x,o.val] w (fZ l w x I (s.step o)):=by
 have hu:o.user.length<=1000:=by have:=ho.user;omega
 have hr:o.role.length<=1000:=by have:=ho.role.1;omega
 have hke:o.key.length<=1000:=by have:=ho.key;omega
 have hst:o.stop.length<=1000:=by have:=ho.stop;omega
 have hwl:=zbZ ho.user;have hkk:=ho.kind;have hold:o.old=0\/o.old=1:=by have:=ho.old;omega
 have hsn:=hok.sane;by_cases ha:o.asks
 ·have hc:o.kind=7\/o.kind=8\/o.kind=13\/o.kind=14\/o.kind=15\/o.kind=16\/o.kind=17\/o.kind=18\/o.kind=19:=by unfold zH.asks at ha;omega
  rcases hc with e|e|e|e|e|e|e|e|e
  ·rw[zdh e];cases hq:s.user o.user with
   |none=>exact zaU h e hq hu
   |some u=>exact zaV h e hq hu
  ·rw[zdi e];exact zch h e
  ·exact h13 e
  ·rw[zbX e];exact zaZ h e hf.names
  ·rw[da (Or.inl e)];exact za0 h e ho.old.1 ho.old.2 hwl hke (by have:=ho.put e;unfold zT;simp[this]) (g_ s o) (by rw[UJ hsn hold (Or.inl e),if_neg (by omega),if_pos e])
  ·rw[da (Or.inr (Or.inl e))];exact za1 h e ho.old.1 ho.old.2 hwl hke (ho.range (Or.inl e)) hst (g_ s o) (by rw[UJ hsn hold (Or.inr (Or.inl e)),if_pos e,if_neg (by omega)])
  ·rw[da (Or.inr (Or.inr (Or.inl e)))];exact za2 h e ho.old.1 ho.old.2 hwl hke (ho.range (Or.inr e)) hst (g_ s o) (by rw[UJ hsn hold (Or.inr (Or.inr e)),if_neg (by omega),if_neg (by omega)])
  ·rw[da (Or.inr (Or.inr (Or.inr e)))];exact za3 h e ho.old.1 ho.old.2 hwl (g_ s o) (zae e)
  ·rw[zbY e];exact za4 h e hu
 ·rw[yy ha];have hf11:∀r∈s.roles,o.kind=11->r.perms.length<=11:=λr hr e=>by
   have:=hf.few r hr;unfold zH.g at hg;rw[if_pos e]at hg;omega
  by_cases e:o.kind=11
  ·obtain⟨p0,p2⟩:=ho.pk e;exact zaT h e p0 p2 (XY s o) λL W hW=>VO hW hok hk ho hf11 ha
  ·exact D3 h (by unfold zH.asks at ha;omega) (XY s o) λL W hW=>VO hW hok hk ho hf11 ha
end
theorem D6(ho:o.runs)(h:o.kind≠13):zdz o:=λhw hok hk hf hg=>zd9 (λe=>absurd e h) hw hok hk hf hg ho
section
open Go.RowKit Go.ChangeShapes Go.WideShapes Go.ChangeAt Go.Deep
variable{w':World}
theorem Wh{w:World}(h:za w w'):Below w.heap.size w w':=
 ⟨h.os,h.tape,h.output,h.size,λk hk=>h.block k hk (λe=>e)⟩
theorem Gn(os:Os)(started:os.Started)(H:Type)(enc:TypeId×Value->H):
  ReturnsInHanded {} checked os 6 .any (Rows.fnAuthOldSpec.pre6 enc prog f6 Rows.fnAuthOldRow.domain false) (Rows.fnAuthOldSpec.post enc prog f6 false true false false):=by
 refine returnsInHanded_of_change (C:=checked) own0 started (by kernel_rfl) func6
  (ChangeSpec.witness6 (enc:=enc) (C:=checked) false ⟨#[],#[.slice none 0 0,.string ⟨#[]⟩,.string ⟨#[]⟩],[]⟩ 8 (by kernel_rfl) (by kernel_rfl) (by kernel_rfl) (by kernel_rfl)) ?_
 intro W base args ds gs before hval0 hW _ _;have hval:∀(j:Nat) t v,f6.params[j]? =some t->args[j]? =some v->Value.okWide prog W .any base t v:=hval0;have hW':DataW.Whole enc prog f6.params.toList Rows.fnAuthOldSpec.vars false W args.toList ds gs before:=hW;obtain⟨p,q,hA0,hV,hpq,_,_⟩:=hW;have hA:DataW.TrodAll enc prog W 0 (λ_=>true) true f6.params.toList args.toList ds p:=hA0;have hlt:∀x∈before,x.block<W.heap.size:=λx hx=>by simpa using hW'.lt x hx
 rw[params6]at hA hval;obtain⟨v0,v1,v2,d0,d1,d2,p0,p1,p2,rfl,rfl,rfl,h0,h1,h2⟩:=trodAll_three hA;obtain⟨rfl,rfl⟩:=trodVars_none hV;obtain⟨a0,len,cap,rfl⟩:=okWide_slice underlying40 (hval 0 _ v0 rfl rfl);obtain⟨s1,rfl⟩:=okWide_string underlying9 (hval 1 _ v1 rfl rfl);obtain⟨s2,rfl⟩:=okWide_string underlying9 (hval 2 _ v2 rfl rfl);obtain⟨l,hl⟩:=Gm h0.choose_spec;obtain⟨u,hu⟩:=Jf h1.choose_spec;obtain⟨k,hk⟩:=Jf h2.choose_spec;subst hpq;have fin:=zbf (λo h1 h2=>D6 h1 h2) (u:=u) (k:=k) hl;rw[<-hu,<-hk]at fin;refine fin.mono λe W' ⟨he,hn⟩=> ?_;subst he;have hb:=Wh hn;refine⟨_,rfl,zbh (pa:=p0++(p1++p2)) (pv:=[]) underlying4 (by kernel_rfl) hW' rfl (λsp hsp=> ?_) (λ_ _=>rfl) (by simp) hb⟩;have m0:∀x∈p0,x∈p0++p1++p2++[]:=λx hx=>by simp[hx]
 have m1:∀x∈p1,x∈p0++p1++p2++[]:=λx hx=>by simp[hx]
 have m2:∀x∈p2,x∈p0++p1++p2++[]:=λx hx=>by simp[hx]
 rw[params6];exact trodAll_mk3
  (WideElems.Trod_stays laid0 (by kernel_rfl) (of_decide_eq_true (by kernel_rfl)) h0 (λx hx=>hb.same (hlt x (m0 x hx))) (λx hx=>hsp x (m0 x hx)))
  (WideElems.Trod_stays laid0 (by kernel_rfl) (of_decide_eq_true (by kernel_rfl)) h1 (λx hx=>hb.same (hlt x (m1 x hx))) (λx hx=>hsp x (m1 x hx)))
  (WideElems.Trod_stays laid0 (by kernel_rfl) (of_decide_eq_true (by kernel_rfl)) h2 (λx hx=>hb.same (hlt x (m2 x hx))) (λx hx=>hsp x (m2 x hx)))
theorem zeA{a b:Bool}(ha:a=true)(hb:b=true):(a && b)=true:=by rw[ha,hb];rfl
theorem zbi:pinned.checked.prog.funcNamed Rows.fnAuthOldRow.func=some 6:=by kernel_rfl
theorem Wi:joinedFacts pinned.checked.prog 6 f6 Rows.fnAuthOldSpec Rows.fnAuthOldRow=true:=by
 unfold joinedFacts
 repeat' (with_reducible refine zeA ?_ ?_)
 all_goals as_aux_lemma=>kernel_rfl
theorem zbj:f6.isInstance pinned.checked.prog Rows.fnAuthOldRow.origin Rows.fnAuthOldRow.targs:=of_decide_eq_true (by kernel_rfl)
theorem zbk:f6.isWrapper pinned.checked.prog Rows.fnAuthOldRow.wrapper Rows.fnAuthOldRow.mainSum:=by unfold Func.isWrapper;rw[if_neg (by decide+kernel)];exact⟨rfl,rfl⟩
theorem zdD:pinned.checked.prog.funcs[6]? =some f6:=func6
theorem Wj:Rows.FnAuthOldSaid:=
 OpenClaim.holds_of_wide 6 f6 rfl rfl rfl rfl rfl rfl rfl ⟨rfl,rfl,rfl,rfl,rfl⟩ rfl rfl rfl rfl rfl zbi zdD Wi zbj zbk
  (λos started H enc _=>Gn os started H enc)
#print axioms Wj
end
end Go.Proofs.YtbmdoinjkligiaaGreat
