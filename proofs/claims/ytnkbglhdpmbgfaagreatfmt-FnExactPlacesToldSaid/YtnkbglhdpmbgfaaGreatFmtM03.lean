/- A part of the proof; no condition: BField, BFds. -/
import Derived.Test.YtnkbglhdpmbgfaaGreatFmtM
import Derived.Test.YtnkbglhdpmbgfaaGreatFmtM02
set_option linter.all false
set_option maxHeartbeats 16000000
set_option maxRecDepth 100000
namespace Go.Proofs.YtnkbglhdpmbgfaaGreatFmt
section
open Go Go.RowKit
def FdAt (w:World) (F:Nat→Prop) (ns:List Nm) (t:Ty) (tp:Int) (tag:ByteArray) (u:Value):Prop :=
 ∃ s vs v g,Blk w F u 168 #[.pointer none,s,.iface t.ty v,g,.pointer none]∧Row w F 70 s vs∧NmsAt w F ns vs∧t.At w F v∧(if tag.size=0 then g=.pointer none else LitAt w F tp tag g)
def fdNd (ns:List Nm) (t:Ty) (tag:ByteArray):Nd:=.mk ⟨#[102,105,101,108,100]⟩ tag (t.nd::ns.map Nm.nd)
def FieldP (ns:List Nm) (t:Ty) (tp:Int) (tag:ByteArray):Prop:=∀ (w:World) (B bb:Nat) (s:Value) (meth:Bool) (l:List Int),
 Bld w bb (nmToks true ns++(t.toks (meth && !ns.isEmpty)++((if tag.size=0 then [] else [tp])++l)))→(fdNd ns t tag).In w B s→B≤bb→(∀ n∈ns,n.ok)→t.ok (meth && !ns.isEmpty)→Pk tp→tag.size≤1048576→(fdNd ns t tag).size≤400 →
 Calls Tryz.prog 58 #[.pointer (some ⟨bb,0,none⟩),.agg #[.string ⟨#[102,105,101,108,100]⟩,.string tag,s],.bool meth] w fun e w' =>
  (∃ u,e=.returned u∧FdAt w' (Fr w.heap.size) ns t tp tag u)∧Bld w' bb l∧Kp (On bb) w w'
theorem Ls.tail {w:World} {B b o c:Nat} {n:Nd} {l:List Nd} (h:Ls w B (.slice (some ⟨b,o,none⟩) (l.length+1) c) (n::l)):Ls w B (.slice (some ⟨b,o+3,none⟩) l.length (c - 1)) l:=by
 obtain ⟨p,c',he,hc,h⟩:=h
 cases he
 simp only [lc_] at hc
 refine ⟨_,_,rfl,by omega,?_⟩
 rcases h with h | ⟨b',o',he,hb,hr⟩
 ·cases h
 ·cases he
  simp only [Nd.RowIn] at hr
  exact .inr ⟨b,o+3,rfl,hb,hr.2⟩
def NsAt (w:World) (F:Nat→Prop) (ns:List Nm) (s:Value):Prop:=∃ us,Row w F 70 s us∧NmsAt w F ns us
theorem NsAt.on {w w':World} {F F' S:Nat→Prop} {ns:List Nm} {u:Value} (h:NsAt w F ns u) (hk:Kp S w w') (hs:∀ b,b < w.heap.size→F b→¬ S b∧F' b):NsAt w' F' ns u:=by
 obtain ⟨us,h1,h2⟩:=h
 exact ⟨us,h1.stay (Stay.of_kp hk hs),NmsAt.stay (Stay.of_kp hk hs) _ _ h2⟩
theorem NsAt.form {w:World} {F:Nat→Prop} {ns:List Nm} {u:Value} (h:NsAt w F ns u):∃ p n c,u=.slice p n c:=by
 obtain ⟨us,h1,_⟩:=h
 obtain ⟨p,c,h⟩:=h1.form
 exact ⟨p,_,c,h⟩
theorem Ls.tailn {w:World} {B b o c:Nat} {n:Nd} {ns:List Nm} (h:Ls w B (.slice (some ⟨b,o,none⟩) (ns.length+1) c) (n::ns.map Nm.nd)):Ls w B (.slice (some ⟨b,o+3,none⟩) ns.length (c - 1)) (ns.map Nm.nd):=by
 have:=Ls.tail (l:=ns.map Nm.nd) (by simpa using h)
 simpa using this
theorem nms_size (l:List Nm):l.length≤Nd.sizeL (l.map Nm.nd):=by
 induction l with
 | nil=>simp
 | cons n l ih=>simp only [List.map_cons,lc_,Nd.sizeL,Nm.nd,Nd.name,Nd.size];omega
theorem sig_ty {t:Ty} (h:t.ok true):∃ o ps c b o' rs c',t=.sig 0 o ps c b o' rs c'∧t.ty=73:=by
 cases t with
 | sig p o ps c b o' rs c' =>
  simp only [Ty.ok,if_true] at h
  obtain ⟨rfl,_⟩:=h
  exact ⟨o,ps,c,b,o',rs,c',rfl,rfl⟩
 | _=>simp [Ty.ok] at h
theorem sig_ty2 {t:Ty} (h:t.ok true):t.ty=73:=by obtain ⟨_,_,_,_,_,_,_,_,h⟩:=sig_ty h;exact h
theorem sigcall {t:Ty} (hx:SigP t) {w:World} {B:Nat} (bb:Nat) (s:Value) (l:List Int) (hB:Bld w bb (t.toks true++l)) (hn:t.nd.In w B s) (hBb:B≤bb) (hok:t.ok true) (hsz:t.nd.size≤400) :
 Calls Tryz.prog 43 #[.pointer (some ⟨bb,0,none⟩),.agg #[.string t.nd.k,.string t.nd.t,s],.int .i64 0] w fun e w'=>(∃ v,e=.returned v∧t.At w' (Fr w.heap.size) v)∧Bld w' bb l∧Kp (On bb) w w':=by
 obtain ⟨o,ps,c,b,o',rs,c',rfl,_⟩:=sig_ty hok
 exact hx w B bb s 0 o ps c b o' rs c' l rfl hB hn hBb hok hsz
theorem field_efx_c (t:Ty) (tp:Int) (tag:ByteArray) (hx:ExprP t) (ht:tag.size=0) (w:World) (B bb:Nat) (s:Value) (l:List Int) (hB:Bld w bb (nmToks true []++(t.toks false++([]++l)))) (hn:(fdNd [] t tag).In w B s) (hBb:B≤bb) (hok:t.ok false) (hp:Pk tp) (hts:tag.size≤1048576) (hsz:(fdNd [] t tag).size≤400) :
 Calls Tryz.prog 58 #[.pointer (some ⟨bb,0,none⟩),.agg #[.string ⟨#[102,105,101,108,100]⟩,.string tag,s],.bool false] w fun e w'=>(∃ u,e=.returned u∧FdAt w' (Fr w.heap.size) [] t tp tag u)∧Bld w' bb l∧Kp (On bb) w w':=by
 obtain rfl:=bs_empty ht
 simp only [fdNd,Nd.size,Nd.sizeL] at hsz
 have hlt:=hB.lt
 have HB0:=hd_ hB
 obtain ⟨q,c0,rfl,hc0⟩:=hn.form
 have HL:=hd_ (Nd.In_iff.1 hn)
 have HO:=hd_ hok
 simp [fdNd,Nd.l,nmToks] at HL HB0 hc0 ⊢
 have HS:=hd_ hsz
 have HX:=hd_ hx;have HP:=hd_ hp;have HT:=hd_ ht;have HTS:=hd_ hts
 clear hn hB hok hsz hx hp ht hts
 go_enter Tryz.func58,Tryz.ntmps58
 go_wp2_with fail
 refine (kid_c _ B _ _ _ _ 0 (t.nd) (HL.out.below ((((Kp.refl (On (w.heap.size+1)) w).alloc _).alloc _).mono (S':=On bb) (by intro i hi h;omega)) (by omega) (fun b hb=>On.not' (by omega))) (by decide) rfl).mono ?_
 rintro e w1 ⟨⟨u1,rfl,hu1⟩,hK1⟩
 have sz1:w.heap.size≤w1.heap.size:=by have:=hK1.size;(try simp at this);omega
 have KT1:Kp (fun k=>k=bb∨k=(w.heap.size+1)) w w1:=(((Kp.refl (fun k=>k=bb∨k=(w.heap.size+1)) w).alloc _).alloc _).trans hK1 (by intro i hi h;first | exact (h:False).elim | omega)
 have hB1:=(HB0.out.on (((Kp.refl (On (w.heap.size+1)) w).alloc _).alloc _) (by omega)).no hK1
 obtain ⟨xb1,x0,x1,x2,xs⟩:=box3 (allocOf (newOf w _) _) hK1 (by exact id)
 have HX1:=hd_ xb1;clear xb1
 have xk1:w1.heap[(w.heap.size+1)]?=some (.cells #[.pointer none,.slice none 0 0,.nilIface,.pointer none,.pointer none] 168 (0,0)):=hK1.at (newOf2 w _ _) (by exact id)
 have z0:=cO xk1 0 _ rfl;have f0:=fO xk1 0
 have z1:=cO xk1 1 _ rfl;have f1:=fO xk1 1
 have z2:=cO xk1 2 _ rfl;have f2:=fO xk1 2
 have z3:=cO xk1 3 _ rfl;have f3:=fO xk1 3
 have z4:=cO xk1 4 _ rfl;have f4:=fO xk1 4
 have zs1:=ltb xk1
 have HP1:=hd_ xk1;clear xk1
 have k1:Kp (On bb) w w1:=KT1.mono (by intro i hi h;omega)
 have HK1:=hd_ k1;clear k1 KT1
 have HB1:=hd_ hB1;clear hB1 HB0
 have szw1:w.heap.size≤w1.heap.size:=by omega
 have HU1:=hd_ (hu1.below hK1 (by (try simp);omega) (fun _ _ h=>h.elim));clear hu1 hK1
 go_wp2_with fail
 refine (HX.out _ B bb _ (l) (HB1.out.on (Kp.refl (On (w.heap.size+1)) w1) (by omega)) HU1.out hBb HO.out (by have:=HS.out;omega)).mono ?_
 rintro e w2 ⟨⟨v,rfl,hv2⟩,hB2,hK2⟩
 have sz2:w1.heap.size≤w2.heap.size:=by have:=hK2.size;(try simp at this);omega
 have KT2:Kp (fun k=>k=bb∨k=(w.heap.size+1)) w1 w2:=(Kp.refl (fun k=>k=bb∨k=(w.heap.size+1)) w1).trans hK2 (by intro i hi h;first | exact (h:False).elim | omega)
 obtain ⟨xb2,x0,x1,x2,xs⟩:=box3 HX1.out KT2 (by omega)
 clear HX1
 have HX2:=hd_ xb2;clear xb2
 clear z0 f0 z1 f1 z2 f2 z3 f3 z4 f4
 have xk2:w2.heap[(w.heap.size+1)]?=some (.cells #[.pointer none,.slice none 0 0,.nilIface,.pointer none,.pointer none] 168 (0,0)):=hK2.at HP1.out (by exact On.not (by omega))
 have z0:=cO xk2 0 _ rfl;have f0:=fO xk2 0
 have z1:=cO xk2 1 _ rfl;have f1:=fO xk2 1
 have z2:=cO xk2 2 _ rfl;have f2:=fO xk2 2
 have z3:=cO xk2 3 _ rfl;have f3:=fO xk2 3
 have z4:=cO xk2 4 _ rfl;have f4:=fO xk2 4
 have zs2:=ltb xk2
 have HP2:=hd_ xk2;clear xk2 HP1
 have hw2:Ty.At w2 (Av (w1.heap.size) ((w.heap.size+1))) t v:=hv2.on (Kp.refl No _) (by intro b hb hF;(try simp at hF);exact ⟨id,by omega⟩)
 clear hv2
 have HV2:=hd_ hw2;clear hw2
 have k2:Kp (On bb) w w2:=HK1.out.trans KT2 (by intro i hi h;omega)
 clear HK1
 have HK2:=hd_ k2;clear k2 KT2
 have HB2:=hd_ hB2;clear hB2 HB1
 have szw2:w.heap.size≤w2.heap.size:=by omega
 clear hK2 HU1
 go_wp2_with fail
 go_ret
 refine ⟨⟨_,rfl,?_⟩,(HB2.out.on ((Kp.refl (On (w.heap.size+1)) w2).setCell (p:=⟨(w.heap.size+1),2,none⟩) (fun _=>rfl) _) (by omega)),(HK2.out.trans ((Kp.refl (On (w.heap.size+1)) w2).setCell (p:=⟨(w.heap.size+1),2,none⟩) (fun _=>rfl) _) (by intro i hi h;omega))⟩
 obtain ⟨us,hr,hm⟩:=(show NsAt _ _ [] (.slice none 0 0) from ⟨[],.inl ⟨rfl,rfl⟩,rfl⟩)
 exact ⟨_,us,v,_,⟨_,rfl,by omega,(setOf HP2.out 2 _)⟩,hr,hm,HV2.out.on ((Kp.refl (On (w.heap.size+1)) w2).setCell (p:=⟨(w.heap.size+1),2,none⟩) (fun _=>rfl) _) (by intro b hb hF;omega),by rw [if_pos HT.out]⟩
theorem field_eft_c (t:Ty) (tp:Int) (tag:ByteArray) (hx:ExprP t) (ht:¬ tag.size=0) (w:World) (B bb:Nat) (s:Value) (l:List Int) (hB:Bld w bb (nmToks true []++(t.toks false++([tp]++l)))) (hn:(fdNd [] t tag).In w B s) (hBb:B≤bb) (hok:t.ok false) (hp:Pk tp) (hts:tag.size≤1048576) (hsz:(fdNd [] t tag).size≤400) :
 Calls Tryz.prog 58 #[.pointer (some ⟨bb,0,none⟩),.agg #[.string ⟨#[102,105,101,108,100]⟩,.string tag,s],.bool false] w fun e w'=>(∃ u,e=.returned u∧FdAt w' (Fr w.heap.size) [] t tp tag u)∧Bld w' bb l∧Kp (On bb) w w':=by
 obtain ⟨ht1,ht2⟩:=bs_ne ht
 simp only [fdNd,Nd.size,Nd.sizeL] at hsz
 have hlt:=hB.lt
 have HB0:=hd_ hB
 obtain ⟨q,c0,rfl,hc0⟩:=hn.form
 have HL:=hd_ (Nd.In_iff.1 hn)
 have HO:=hd_ hok
 simp [fdNd,Nd.l,nmToks] at HL HB0 hc0 ⊢
 have HS:=hd_ hsz
 have HX:=hd_ hx;have HP:=hd_ hp;have HT:=hd_ ht;have HTS:=hd_ hts
 clear hn hB hok hsz hx hp ht hts
 go_enter Tryz.func58,Tryz.ntmps58
 go_wp2_with fail
 refine (kid_c _ B _ _ _ _ 0 (t.nd) (HL.out.below ((((Kp.refl (On (w.heap.size+1)) w).alloc _).alloc _).mono (S':=On bb) (by intro i hi h;omega)) (by omega) (fun b hb=>On.not' (by omega))) (by decide) rfl).mono ?_
 rintro e w1 ⟨⟨u1,rfl,hu1⟩,hK1⟩
 have sz1:w.heap.size≤w1.heap.size:=by have:=hK1.size;(try simp at this);omega
 have KT1:Kp (fun k=>k=bb∨k=(w.heap.size+1)) w w1:=(((Kp.refl (fun k=>k=bb∨k=(w.heap.size+1)) w).alloc _).alloc _).trans hK1 (by intro i hi h;first | exact (h:False).elim | omega)
 have hB1:=(HB0.out.on (((Kp.refl (On (w.heap.size+1)) w).alloc _).alloc _) (by omega)).no hK1
 obtain ⟨xb1,x0,x1,x2,xs⟩:=box3 (allocOf (newOf w _) _) hK1 (by exact id)
 have HX1:=hd_ xb1;clear xb1
 have xk1:w1.heap[(w.heap.size+1)]?=some (.cells #[.pointer none,.slice none 0 0,.nilIface,.pointer none,.pointer none] 168 (0,0)):=hK1.at (newOf2 w _ _) (by exact id)
 have z0:=cO xk1 0 _ rfl;have f0:=fO xk1 0
 have z1:=cO xk1 1 _ rfl;have f1:=fO xk1 1
 have z2:=cO xk1 2 _ rfl;have f2:=fO xk1 2
 have z3:=cO xk1 3 _ rfl;have f3:=fO xk1 3
 have z4:=cO xk1 4 _ rfl;have f4:=fO xk1 4
 have zs1:=ltb xk1
 have HP1:=hd_ xk1;clear xk1
 have k1:Kp (On bb) w w1:=KT1.mono (by intro i hi h;omega)
 have HK1:=hd_ k1;clear k1 KT1
 have HB1:=hd_ hB1;clear hB1 HB0
 have szw1:w.heap.size≤w1.heap.size:=by omega
 have HU1:=hd_ (hu1.below hK1 (by (try simp);omega) (fun _ _ h=>h.elim));clear hu1 hK1
 go_wp2_with fail
 refine (HX.out _ B bb _ (tp::l) (HB1.out.on (Kp.refl (On (w.heap.size+1)) w1) (by omega)) HU1.out hBb HO.out (by have:=HS.out;omega)).mono ?_
 rintro e w2 ⟨⟨v,rfl,hv2⟩,hB2,hK2⟩
 have sz2:w1.heap.size≤w2.heap.size:=by have:=hK2.size;(try simp at this);omega
 have KT2:Kp (fun k=>k=bb∨k=(w.heap.size+1)) w1 w2:=(Kp.refl (fun k=>k=bb∨k=(w.heap.size+1)) w1).trans hK2 (by intro i hi h;first | exact (h:False).elim | omega)
 obtain ⟨xb2,x0,x1,x2,xs⟩:=box3 HX1.out KT2 (by omega)
 clear HX1
 have HX2:=hd_ xb2;clear xb2
 clear z0 f0 z1 f1 z2 f2 z3 f3 z4 f4
 have xk2:w2.heap[(w.heap.size+1)]?=some (.cells #[.pointer none,.slice none 0 0,.nilIface,.pointer none,.pointer none] 168 (0,0)):=hK2.at HP1.out (by exact On.not (by omega))
 have z0:=cO xk2 0 _ rfl;have f0:=fO xk2 0
 have z1:=cO xk2 1 _ rfl;have f1:=fO xk2 1
 have z2:=cO xk2 2 _ rfl;have f2:=fO xk2 2
 have z3:=cO xk2 3 _ rfl;have f3:=fO xk2 3
 have z4:=cO xk2 4 _ rfl;have f4:=fO xk2 4
 have zs2:=ltb xk2
 have HP2:=hd_ xk2;clear xk2 HP1
 have hw2:Ty.At w2 (Av (w1.heap.size) ((w.heap.size+1))) t v:=hv2.on (Kp.refl No _) (by intro b hb hF;(try simp at hF);exact ⟨id,by omega⟩)
 clear hv2
 have HV2:=hd_ hw2;clear hw2
 have k2:Kp (On bb) w w2:=HK1.out.trans KT2 (by intro i hi h;omega)
 clear HK1
 have HK2:=hd_ k2;clear k2 KT2
 have HB2:=hd_ hB2;clear hB2 HB1
 have szw2:w.heap.size≤w2.heap.size:=by omega
 clear hK2 HU1
 go_wp2_with fail
 refine (literal_c _ bb (tag) (tp) (l) (HB2.out.on ((Kp.refl (On (w.heap.size+1)) w2).setCell (p:=⟨(w.heap.size+1),2,none⟩) (fun _=>rfl) _) (by omega)) HP.out HTS.out).mono ?_
 rintro e w3 ⟨⟨g,rfl,hv3⟩,hB3,hK3⟩
 have sz3:w2.heap.size≤w3.heap.size:=by have:=hK3.size;(try simp at this);omega
 have KT3:Kp (fun k=>k=bb∨k=(w.heap.size+1)) w2 w3:=((Kp.refl (fun k=>k=bb∨k=(w.heap.size+1)) w2).setCell (p:=⟨(w.heap.size+1),2,none⟩) (fun _=>.inr rfl) _).trans hK3 (by intro i hi h;first | exact (h:False).elim | omega)
 obtain ⟨xb3,x0,x1,x2,xs⟩:=box3 HX2.out KT3 (by omega)
 clear HX2
 have HX3:=hd_ xb3;clear xb3
 clear z0 f0 z1 f1 z2 f2 z3 f3 z4 f4
 have xk3:w3.heap[(w.heap.size+1)]?=some (.cells #[.pointer none,.slice none 0 0,.iface t.ty v,.pointer none,.pointer none] 168 (0,0)):=hK3.at (setOf HP2.out 2 _) (by exact On.not (by omega))
 have z0:=cO xk3 0 _ rfl;have f0:=fO xk3 0
 have z1:=cO xk3 1 _ rfl;have f1:=fO xk3 1
 have z2:=cO xk3 2 _ rfl;have f2:=fO xk3 2
 have z3:=cO xk3 3 _ rfl;have f3:=fO xk3 3
 have z4:=cO xk3 4 _ rfl;have f4:=fO xk3 4
 have zs3:=ltb xk3
 have HP3:=hd_ xk3;clear xk3 HP2
 have HV2_3:Ty.At w3 (Av (w1.heap.size) ((w.heap.size+1))) t v:=HV2.out.on KT3 (by intro b hb hF;omega)
 have HV2n3:=hd_ HV2_3;clear HV2_3 HV2
 have hw3:LitAt w3 (Av (w2.heap.size) ((w.heap.size+1))) (tp) (tag) g:=hv3.on (Kp.refl No _) (by intro b hb hF;(try simp at hF);exact ⟨id,by omega⟩)
 clear hv3
 obtain ⟨gb,rfl⟩:=hw3.ptr
 have HV3:=hd_ hw3;clear hw3
 have k3:Kp (On bb) w w3:=HK2.out.trans KT3 (by intro i hi h;omega)
 clear HK2
 have HK3:=hd_ k3;clear k3 KT3
 have HB3:=hd_ hB3;clear hB3 HB2
 have szw3:w.heap.size≤w3.heap.size:=by omega
 clear hK3
 go_wp2_with fail
 go_ret
 refine ⟨⟨_,rfl,?_⟩,(HB3.out.on ((Kp.refl (On (w.heap.size+1)) w3).setCell (p:=⟨(w.heap.size+1),3,none⟩) (fun _=>rfl) _) (by omega)),(HK3.out.trans ((Kp.refl (On (w.heap.size+1)) w3).setCell (p:=⟨(w.heap.size+1),3,none⟩) (fun _=>rfl) _) (by intro i hi h;omega))⟩
 obtain ⟨us,hr,hm⟩:=(show NsAt _ _ [] (.slice none 0 0) from ⟨[],.inl ⟨rfl,rfl⟩,rfl⟩)
 exact ⟨_,us,v,_,⟨_,rfl,by omega,(setOf HP3.out 3 _)⟩,hr,hm,HV2n3.out.on ((Kp.refl (On (w.heap.size+1)) w3).setCell (p:=⟨(w.heap.size+1),3,none⟩) (fun _=>rfl) _) (by intro b hb hF;omega),by rw [if_neg HT.out];exact HV3.out.on ((Kp.refl (On (w.heap.size+1)) w3).setCell (p:=⟨(w.heap.size+1),3,none⟩) (fun _=>rfl) _) (by intro b hb hF;omega)⟩
theorem field_emx_c (t:Ty) (tp:Int) (tag:ByteArray) (hx:ExprP t) (ht:tag.size=0) (w:World) (B bb:Nat) (s:Value) (l:List Int) (hB:Bld w bb (nmToks true []++(t.toks false++([]++l)))) (hn:(fdNd [] t tag).In w B s) (hBb:B≤bb) (hok:t.ok false) (hp:Pk tp) (hts:tag.size≤1048576) (hsz:(fdNd [] t tag).size≤400) :
 Calls Tryz.prog 58 #[.pointer (some ⟨bb,0,none⟩),.agg #[.string ⟨#[102,105,101,108,100]⟩,.string tag,s],.bool true] w fun e w'=>(∃ u,e=.returned u∧FdAt w' (Fr w.heap.size) [] t tp tag u)∧Bld w' bb l∧Kp (On bb) w w':=by
 obtain rfl:=bs_empty ht
 simp only [fdNd,Nd.size,Nd.sizeL] at hsz
 have hlt:=hB.lt
 have HB0:=hd_ hB
 obtain ⟨q,c0,rfl,hc0⟩:=hn.form
 have HL:=hd_ (Nd.In_iff.1 hn)
 have HO:=hd_ hok
 simp [fdNd,Nd.l,nmToks] at HL HB0 hc0 ⊢
 have HS:=hd_ hsz
 have HX:=hd_ hx;have HP:=hd_ hp;have HT:=hd_ ht;have HTS:=hd_ hts
 clear hn hB hok hsz hx hp ht hts
 go_enter Tryz.func58,Tryz.ntmps58
 go_wp2_with fail
 refine (kid_c _ B _ _ _ _ 0 (t.nd) (HL.out.below ((((Kp.refl (On (w.heap.size+1)) w).alloc _).alloc _).mono (S':=On bb) (by intro i hi h;omega)) (by omega) (fun b hb=>On.not' (by omega))) (by decide) rfl).mono ?_
 rintro e w1 ⟨⟨u1,rfl,hu1⟩,hK1⟩
 have sz1:w.heap.size≤w1.heap.size:=by have:=hK1.size;(try simp at this);omega
 have KT1:Kp (fun k=>k=bb∨k=(w.heap.size+1)) w w1:=(((Kp.refl (fun k=>k=bb∨k=(w.heap.size+1)) w).alloc _).alloc _).trans hK1 (by intro i hi h;first | exact (h:False).elim | omega)
 have hB1:=(HB0.out.on (((Kp.refl (On (w.heap.size+1)) w).alloc _).alloc _) (by omega)).no hK1
 obtain ⟨xb1,x0,x1,x2,xs⟩:=box3 (allocOf (newOf w _) _) hK1 (by exact id)
 have HX1:=hd_ xb1;clear xb1
 have xk1:w1.heap[(w.heap.size+1)]?=some (.cells #[.pointer none,.slice none 0 0,.nilIface,.pointer none,.pointer none] 168 (0,0)):=hK1.at (newOf2 w _ _) (by exact id)
 have z0:=cO xk1 0 _ rfl;have f0:=fO xk1 0
 have z1:=cO xk1 1 _ rfl;have f1:=fO xk1 1
 have z2:=cO xk1 2 _ rfl;have f2:=fO xk1 2
 have z3:=cO xk1 3 _ rfl;have f3:=fO xk1 3
 have z4:=cO xk1 4 _ rfl;have f4:=fO xk1 4
 have zs1:=ltb xk1
 have HP1:=hd_ xk1;clear xk1
 have k1:Kp (On bb) w w1:=KT1.mono (by intro i hi h;omega)
 have HK1:=hd_ k1;clear k1 KT1
 have HB1:=hd_ hB1;clear hB1 HB0
 have szw1:w.heap.size≤w1.heap.size:=by omega
 have HU1:=hd_ (hu1.below hK1 (by (try simp);omega) (fun _ _ h=>h.elim));clear hu1 hK1
 go_wp2_with fail
 refine (HX.out _ B bb _ (l) (HB1.out.on (Kp.refl (On (w.heap.size+1)) w1) (by omega)) HU1.out hBb HO.out (by have:=HS.out;omega)).mono ?_
 rintro e w2 ⟨⟨v,rfl,hv2⟩,hB2,hK2⟩
 have sz2:w1.heap.size≤w2.heap.size:=by have:=hK2.size;(try simp at this);omega
 have KT2:Kp (fun k=>k=bb∨k=(w.heap.size+1)) w1 w2:=(Kp.refl (fun k=>k=bb∨k=(w.heap.size+1)) w1).trans hK2 (by intro i hi h;first | exact (h:False).elim | omega)
 obtain ⟨xb2,x0,x1,x2,xs⟩:=box3 HX1.out KT2 (by omega)
 clear HX1
 have HX2:=hd_ xb2;clear xb2
 clear z0 f0 z1 f1 z2 f2 z3 f3 z4 f4
 have xk2:w2.heap[(w.heap.size+1)]?=some (.cells #[.pointer none,.slice none 0 0,.nilIface,.pointer none,.pointer none] 168 (0,0)):=hK2.at HP1.out (by exact On.not (by omega))
 have z0:=cO xk2 0 _ rfl;have f0:=fO xk2 0
 have z1:=cO xk2 1 _ rfl;have f1:=fO xk2 1
 have z2:=cO xk2 2 _ rfl;have f2:=fO xk2 2
 have z3:=cO xk2 3 _ rfl;have f3:=fO xk2 3
 have z4:=cO xk2 4 _ rfl;have f4:=fO xk2 4
 have zs2:=ltb xk2
 have HP2:=hd_ xk2;clear xk2 HP1
 have hw2:Ty.At w2 (Av (w1.heap.size) ((w.heap.size+1))) t v:=hv2.on (Kp.refl No _) (by intro b hb hF;(try simp at hF);exact ⟨id,by omega⟩)
 clear hv2
 have HV2:=hd_ hw2;clear hw2
 have k2:Kp (On bb) w w2:=HK1.out.trans KT2 (by intro i hi h;omega)
 clear HK1
 have HK2:=hd_ k2;clear k2 KT2
 have HB2:=hd_ hB2;clear hB2 HB1
 have szw2:w.heap.size≤w2.heap.size:=by omega
 clear hK2 HU1
 go_wp2_with fail
 go_ret
 refine ⟨⟨_,rfl,?_⟩,(HB2.out.on ((Kp.refl (On (w.heap.size+1)) w2).setCell (p:=⟨(w.heap.size+1),2,none⟩) (fun _=>rfl) _) (by omega)),(HK2.out.trans ((Kp.refl (On (w.heap.size+1)) w2).setCell (p:=⟨(w.heap.size+1),2,none⟩) (fun _=>rfl) _) (by intro i hi h;omega))⟩
 obtain ⟨us,hr,hm⟩:=(show NsAt _ _ [] (.slice none 0 0) from ⟨[],.inl ⟨rfl,rfl⟩,rfl⟩)
 exact ⟨_,us,v,_,⟨_,rfl,by omega,(setOf HP2.out 2 _)⟩,hr,hm,HV2.out.on ((Kp.refl (On (w.heap.size+1)) w2).setCell (p:=⟨(w.heap.size+1),2,none⟩) (fun _=>rfl) _) (by intro b hb hF;omega),by rw [if_pos HT.out]⟩
theorem field_emt_c (t:Ty) (tp:Int) (tag:ByteArray) (hx:ExprP t) (ht:¬ tag.size=0) (w:World) (B bb:Nat) (s:Value) (l:List Int) (hB:Bld w bb (nmToks true []++(t.toks false++([tp]++l)))) (hn:(fdNd [] t tag).In w B s) (hBb:B≤bb) (hok:t.ok false) (hp:Pk tp) (hts:tag.size≤1048576) (hsz:(fdNd [] t tag).size≤400) :
 Calls Tryz.prog 58 #[.pointer (some ⟨bb,0,none⟩),.agg #[.string ⟨#[102,105,101,108,100]⟩,.string tag,s],.bool true] w fun e w'=>(∃ u,e=.returned u∧FdAt w' (Fr w.heap.size) [] t tp tag u)∧Bld w' bb l∧Kp (On bb) w w':=by
 obtain ⟨ht1,ht2⟩:=bs_ne ht
 simp only [fdNd,Nd.size,Nd.sizeL] at hsz
 have hlt:=hB.lt
 have HB0:=hd_ hB
 obtain ⟨q,c0,rfl,hc0⟩:=hn.form
 have HL:=hd_ (Nd.In_iff.1 hn)
 have HO:=hd_ hok
 simp [fdNd,Nd.l,nmToks] at HL HB0 hc0 ⊢
 have HS:=hd_ hsz
 have HX:=hd_ hx;have HP:=hd_ hp;have HT:=hd_ ht;have HTS:=hd_ hts
 clear hn hB hok hsz hx hp ht hts
 go_enter Tryz.func58,Tryz.ntmps58
 go_wp2_with fail
 refine (kid_c _ B _ _ _ _ 0 (t.nd) (HL.out.below ((((Kp.refl (On (w.heap.size+1)) w).alloc _).alloc _).mono (S':=On bb) (by intro i hi h;omega)) (by omega) (fun b hb=>On.not' (by omega))) (by decide) rfl).mono ?_
 rintro e w1 ⟨⟨u1,rfl,hu1⟩,hK1⟩
 have sz1:w.heap.size≤w1.heap.size:=by have:=hK1.size;(try simp at this);omega
 have KT1:Kp (fun k=>k=bb∨k=(w.heap.size+1)) w w1:=(((Kp.refl (fun k=>k=bb∨k=(w.heap.size+1)) w).alloc _).alloc _).trans hK1 (by intro i hi h;first | exact (h:False).elim | omega)
 have hB1:=(HB0.out.on (((Kp.refl (On (w.heap.size+1)) w).alloc _).alloc _) (by omega)).no hK1
 obtain ⟨xb1,x0,x1,x2,xs⟩:=box3 (allocOf (newOf w _) _) hK1 (by exact id)
 have HX1:=hd_ xb1;clear xb1
 have xk1:w1.heap[(w.heap.size+1)]?=some (.cells #[.pointer none,.slice none 0 0,.nilIface,.pointer none,.pointer none] 168 (0,0)):=hK1.at (newOf2 w _ _) (by exact id)
 have z0:=cO xk1 0 _ rfl;have f0:=fO xk1 0
 have z1:=cO xk1 1 _ rfl;have f1:=fO xk1 1
 have z2:=cO xk1 2 _ rfl;have f2:=fO xk1 2
 have z3:=cO xk1 3 _ rfl;have f3:=fO xk1 3
 have z4:=cO xk1 4 _ rfl;have f4:=fO xk1 4
 have zs1:=ltb xk1
 have HP1:=hd_ xk1;clear xk1
 have k1:Kp (On bb) w w1:=KT1.mono (by intro i hi h;omega)
 have HK1:=hd_ k1;clear k1 KT1
 have HB1:=hd_ hB1;clear hB1 HB0
 have szw1:w.heap.size≤w1.heap.size:=by omega
 have HU1:=hd_ (hu1.below hK1 (by (try simp);omega) (fun _ _ h=>h.elim));clear hu1 hK1
 go_wp2_with fail
 refine (HX.out _ B bb _ (tp::l) (HB1.out.on (Kp.refl (On (w.heap.size+1)) w1) (by omega)) HU1.out hBb HO.out (by have:=HS.out;omega)).mono ?_
 rintro e w2 ⟨⟨v,rfl,hv2⟩,hB2,hK2⟩
 have sz2:w1.heap.size≤w2.heap.size:=by have:=hK2.size;(try simp at this);omega
 have KT2:Kp (fun k=>k=bb∨k=(w.heap.size+1)) w1 w2:=(Kp.refl (fun k=>k=bb∨k=(w.heap.size+1)) w1).trans hK2 (by intro i hi h;first | exact (h:False).elim | omega)
 obtain ⟨xb2,x0,x1,x2,xs⟩:=box3 HX1.out KT2 (by omega)
 clear HX1
 have HX2:=hd_ xb2;clear xb2
 clear z0 f0 z1 f1 z2 f2 z3 f3 z4 f4
 have xk2:w2.heap[(w.heap.size+1)]?=some (.cells #[.pointer none,.slice none 0 0,.nilIface,.pointer none,.pointer none] 168 (0,0)):=hK2.at HP1.out (by exact On.not (by omega))
 have z0:=cO xk2 0 _ rfl;have f0:=fO xk2 0
 have z1:=cO xk2 1 _ rfl;have f1:=fO xk2 1
 have z2:=cO xk2 2 _ rfl;have f2:=fO xk2 2
 have z3:=cO xk2 3 _ rfl;have f3:=fO xk2 3
 have z4:=cO xk2 4 _ rfl;have f4:=fO xk2 4
 have zs2:=ltb xk2
 have HP2:=hd_ xk2;clear xk2 HP1
 have hw2:Ty.At w2 (Av (w1.heap.size) ((w.heap.size+1))) t v:=hv2.on (Kp.refl No _) (by intro b hb hF;(try simp at hF);exact ⟨id,by omega⟩)
 clear hv2
 have HV2:=hd_ hw2;clear hw2
 have k2:Kp (On bb) w w2:=HK1.out.trans KT2 (by intro i hi h;omega)
 clear HK1
 have HK2:=hd_ k2;clear k2 KT2
 have HB2:=hd_ hB2;clear hB2 HB1
 have szw2:w.heap.size≤w2.heap.size:=by omega
 clear hK2 HU1
 go_wp2_with fail
 refine (literal_c _ bb (tag) (tp) (l) (HB2.out.on ((Kp.refl (On (w.heap.size+1)) w2).setCell (p:=⟨(w.heap.size+1),2,none⟩) (fun _=>rfl) _) (by omega)) HP.out HTS.out).mono ?_
 rintro e w3 ⟨⟨g,rfl,hv3⟩,hB3,hK3⟩
 have sz3:w2.heap.size≤w3.heap.size:=by have:=hK3.size;(try simp at this);omega
 have KT3:Kp (fun k=>k=bb∨k=(w.heap.size+1)) w2 w3:=((Kp.refl (fun k=>k=bb∨k=(w.heap.size+1)) w2).setCell (p:=⟨(w.heap.size+1),2,none⟩) (fun _=>.inr rfl) _).trans hK3 (by intro i hi h;first | exact (h:False).elim | omega)
 obtain ⟨xb3,x0,x1,x2,xs⟩:=box3 HX2.out KT3 (by omega)
 clear HX2
 have HX3:=hd_ xb3;clear xb3
 clear z0 f0 z1 f1 z2 f2 z3 f3 z4 f4
 have xk3:w3.heap[(w.heap.size+1)]?=some (.cells #[.pointer none,.slice none 0 0,.iface t.ty v,.pointer none,.pointer none] 168 (0,0)):=hK3.at (setOf HP2.out 2 _) (by exact On.not (by omega))
 have z0:=cO xk3 0 _ rfl;have f0:=fO xk3 0
 have z1:=cO xk3 1 _ rfl;have f1:=fO xk3 1
 have z2:=cO xk3 2 _ rfl;have f2:=fO xk3 2
 have z3:=cO xk3 3 _ rfl;have f3:=fO xk3 3
 have z4:=cO xk3 4 _ rfl;have f4:=fO xk3 4
 have zs3:=ltb xk3
 have HP3:=hd_ xk3;clear xk3 HP2
 have HV2_3:Ty.At w3 (Av (w1.heap.size) ((w.heap.size+1))) t v:=HV2.out.on KT3 (by intro b hb hF;omega)
 have HV2n3:=hd_ HV2_3;clear HV2_3 HV2
 have hw3:LitAt w3 (Av (w2.heap.size) ((w.heap.size+1))) (tp) (tag) g:=hv3.on (Kp.refl No _) (by intro b hb hF;(try simp at hF);exact ⟨id,by omega⟩)
 clear hv3
 obtain ⟨gb,rfl⟩:=hw3.ptr
 have HV3:=hd_ hw3;clear hw3
 have k3:Kp (On bb) w w3:=HK2.out.trans KT3 (by intro i hi h;omega)
 clear HK2
 have HK3:=hd_ k3;clear k3 KT3
 have HB3:=hd_ hB3;clear hB3 HB2
 have szw3:w.heap.size≤w3.heap.size:=by omega
 clear hK3
 go_wp2_with fail
 go_ret
 refine ⟨⟨_,rfl,?_⟩,(HB3.out.on ((Kp.refl (On (w.heap.size+1)) w3).setCell (p:=⟨(w.heap.size+1),3,none⟩) (fun _=>rfl) _) (by omega)),(HK3.out.trans ((Kp.refl (On (w.heap.size+1)) w3).setCell (p:=⟨(w.heap.size+1),3,none⟩) (fun _=>rfl) _) (by intro i hi h;omega))⟩
 obtain ⟨us,hr,hm⟩:=(show NsAt _ _ [] (.slice none 0 0) from ⟨[],.inl ⟨rfl,rfl⟩,rfl⟩)
 exact ⟨_,us,v,_,⟨_,rfl,by omega,(setOf HP3.out 3 _)⟩,hr,hm,HV2n3.out.on ((Kp.refl (On (w.heap.size+1)) w3).setCell (p:=⟨(w.heap.size+1),3,none⟩) (fun _=>rfl) _) (by intro b hb hF;omega),by rw [if_neg HT.out];exact HV3.out.on ((Kp.refl (On (w.heap.size+1)) w3).setCell (p:=⟨(w.heap.size+1),3,none⟩) (fun _=>rfl) _) (by intro b hb hF;omega)⟩
theorem field_nfx_c (n0:Nm) (ns0:List Nm) (t:Ty) (tp:Int) (tag:ByteArray) (hx:ExprP t) (ht:tag.size=0) (w:World) (B bb:Nat) (s:Value) (l:List Int) (hB:Bld w bb (nmToks true (n0::ns0)++(t.toks false++([]++l)))) (hn:(fdNd (n0::ns0) t tag).In w B s) (hBb:B≤bb) (hok:t.ok false) (hp:Pk tp) (hts:tag.size≤1048576) (hsz:(fdNd (n0::ns0) t tag).size≤400) :
 Calls Tryz.prog 58 #[.pointer (some ⟨bb,0,none⟩),.agg #[.string ⟨#[102,105,101,108,100]⟩,.string tag,s],.bool false] w fun e w'=>(∃ u,e=.returned u∧FdAt w' (Fr w.heap.size) (n0::ns0) t tp tag u)∧Bld w' bb l∧Kp (On bb) w w':=by
 obtain rfl:=bs_empty ht
 generalize hns:n0::ns0=ns at *
 simp only [fdNd,Nd.size,Nd.sizeL] at hsz
 have hlt:=hB.lt
 have HB0:=hd_ hB
 obtain ⟨q,c0,rfl,hc0⟩:=hn.form
 have HL:=hd_ (Nd.In_iff.1 hn)
 have HO:=hd_ hok
 have hln:ns.length≤Nd.sizeL (ns.map Nm.nd):=nms_size ns
 have hl1:1≤ns.length:=by rw [← hns];simp
 obtain ⟨b0,o0,c1,_,_,he,_⟩:=(HL.out.get (i:=0) rfl);cases he
 simp [fdNd,Nd.l] at HL hc0 ⊢
 have hc2:¬ c0=1:=by omega
 have hl2:0 < ns.length:=by omega
 have Hns:=hd_ hns;clear hns
 have HS:=hd_ hsz
 have HX:=hd_ hx;have HP:=hd_ hp;have HT:=hd_ ht;have HTS:=hd_ hts
 clear hn hB hok hsz hx hp ht hts
 go_enter Tryz.func58,Tryz.ntmps58
 go_wp2_with fail
 refine (names_c _ B bb _ ns (t.toks false++(l)) (HB0.out.on (((Kp.refl (On (w.heap.size+1)) w).alloc _).alloc _) (by omega)) (Ls.tailn (Ls.below HL.out (((((Kp.refl (On (w.heap.size+1)) w).alloc _).alloc _)).mono (S':=On bb) (by intro i hi h;omega)) (by omega) (fun b hb h=>by omega))) hBb (by have:=HS.out;omega)).mono ?_
 rintro e w1 ⟨⟨vs,us1,rfl,hr1,hn1⟩,hB1,hK1⟩
 have sz1:w.heap.size≤w1.heap.size:=by have:=hK1.size;(try simp at this);omega
 have KT1:Kp (fun k=>k=bb∨k=(w.heap.size+1)) w w1:=(((Kp.refl (fun k=>k=bb∨k=(w.heap.size+1)) w).alloc _).alloc _).trans hK1 (by intro i hi h;first | exact (h:False).elim | omega)
 obtain ⟨xb1,x0,x1,x2,xs⟩:=box3 (allocOf (newOf w _) _) hK1 (by exact On.not (by omega))
 have HX1:=hd_ xb1;clear xb1
 have xk1:w1.heap[(w.heap.size+1)]?=some (.cells #[.pointer none,.slice none 0 0,.nilIface,.pointer none,.pointer none] 168 (0,0)):=hK1.at (newOf2 w _ _) (by exact On.not (by omega))
 have z0:=cO xk1 0 _ rfl;have f0:=fO xk1 0
 have z1:=cO xk1 1 _ rfl;have f1:=fO xk1 1
 have z2:=cO xk1 2 _ rfl;have f2:=fO xk1 2
 have z3:=cO xk1 3 _ rfl;have f3:=fO xk1 3
 have z4:=cO xk1 4 _ rfl;have f4:=fO xk1 4
 have zs1:=ltb xk1
 have HP1:=hd_ xk1;clear xk1
 have k1:Kp (On bb) w w1:=KT1.mono (by intro i hi h;omega)
 have HK1:=hd_ k1;clear k1 KT1
 have HB1:=hd_ hB1;clear hB1 HB0
 have szw1:w.heap.size≤w1.heap.size:=by omega
 have hw1:NsAt w1 (Av (w.heap.size) ((w.heap.size+1))) ns vs:=NsAt.on (F:=Fr _) ⟨us1,hr1,hn1⟩ (Kp.refl No _) (by intro b hb hF;(try simp at hF);exact ⟨id,by omega⟩)
 obtain ⟨vp,vn,vc,rfl⟩:=hw1.form
 have HV1:=hd_ hw1;clear hw1 hr1 hn1 hK1
 go_wp2_with fail
 refine (kid_c _ B _ _ _ _ 0 (t.nd) (HL.out.below (HK1.out.trans ((Kp.refl (On (w.heap.size+1)) w1).setCell (p:=⟨(w.heap.size+1),1,none⟩) (fun _=>rfl) _) (by intro i hi h;omega)) (by omega) (fun b hb=>On.not' (by omega))) (by decide) rfl).mono ?_
 rintro e w2 ⟨⟨u2,rfl,hu2⟩,hK2⟩
 have sz2:w1.heap.size≤w2.heap.size:=by have:=hK2.size;(try simp at this);omega
 have KT2:Kp (fun k=>k=bb∨k=(w.heap.size+1)) w1 w2:=((Kp.refl (fun k=>k=bb∨k=(w.heap.size+1)) w1).setCell (p:=⟨(w.heap.size+1),1,none⟩) (fun _=>.inr rfl) _).trans hK2 (by intro i hi h;first | exact (h:False).elim | omega)
 have hB2:=(HB1.out.on ((Kp.refl (On (w.heap.size+1)) w1).setCell (p:=⟨(w.heap.size+1),1,none⟩) (fun _=>rfl) _) (by omega)).no hK2
 obtain ⟨xb2,x0,x1,x2,xs⟩:=box3 HX1.out KT2 (by omega)
 clear HX1
 have HX2:=hd_ xb2;clear xb2
 clear z0 f0 z1 f1 z2 f2 z3 f3 z4 f4
 have xk2:w2.heap[(w.heap.size+1)]?=some (.cells #[.pointer none,.slice vp vn vc,.nilIface,.pointer none,.pointer none] 168 (0,0)):=hK2.at (setOf HP1.out 1 _) (by exact id)
 have z0:=cO xk2 0 _ rfl;have f0:=fO xk2 0
 have z1:=cO xk2 1 _ rfl;have f1:=fO xk2 1
 have z2:=cO xk2 2 _ rfl;have f2:=fO xk2 2
 have z3:=cO xk2 3 _ rfl;have f3:=fO xk2 3
 have z4:=cO xk2 4 _ rfl;have f4:=fO xk2 4
 have zs2:=ltb xk2
 have HP2:=hd_ xk2;clear xk2 HP1
 have HV1_2:NsAt w2 (Av (w.heap.size) ((w.heap.size+1))) ns (.slice vp vn vc):=HV1.out.on KT2 (by intro b hb hF;omega)
 have HV1n2:=hd_ HV1_2;clear HV1_2 HV1
 have k2:Kp (On bb) w w2:=HK1.out.trans KT2 (by intro i hi h;omega)
 clear HK1
 have HK2:=hd_ k2;clear k2 KT2
 have HB2:=hd_ hB2;clear hB2 HB1
 have szw2:w.heap.size≤w2.heap.size:=by omega
 have HU2:=hd_ (hu2.below hK2 (by (try simp);omega) (fun _ _ h=>h.elim));clear hu2 hK2
 go_wp2_with fail
 refine (HX.out _ B bb _ (l) (HB2.out.on (Kp.refl (On (w.heap.size+1)) w2) (by omega)) HU2.out hBb HO.out (by have:=HS.out;omega)).mono ?_
 rintro e w3 ⟨⟨v,rfl,hv3⟩,hB3,hK3⟩
 have sz3:w2.heap.size≤w3.heap.size:=by have:=hK3.size;(try simp at this);omega
 have KT3:Kp (fun k=>k=bb∨k=(w.heap.size+1)) w2 w3:=(Kp.refl (fun k=>k=bb∨k=(w.heap.size+1)) w2).trans hK3 (by intro i hi h;first | exact (h:False).elim | omega)
 obtain ⟨xb3,x0,x1,x2,xs⟩:=box3 HX2.out KT3 (by omega)
 clear HX2
 have HX3:=hd_ xb3;clear xb3
 clear z0 f0 z1 f1 z2 f2 z3 f3 z4 f4
 have xk3:w3.heap[(w.heap.size+1)]?=some (.cells #[.pointer none,.slice vp vn vc,.nilIface,.pointer none,.pointer none] 168 (0,0)):=hK3.at HP2.out (by exact On.not (by omega))
 have z0:=cO xk3 0 _ rfl;have f0:=fO xk3 0
 have z1:=cO xk3 1 _ rfl;have f1:=fO xk3 1
 have z2:=cO xk3 2 _ rfl;have f2:=fO xk3 2
 have z3:=cO xk3 3 _ rfl;have f3:=fO xk3 3
 have z4:=cO xk3 4 _ rfl;have f4:=fO xk3 4
 have zs3:=ltb xk3
 have HP3:=hd_ xk3;clear xk3 HP2
 have HV1n2_3:NsAt w3 (Av (w.heap.size) ((w.heap.size+1))) ns (.slice vp vn vc):=HV1n2.out.on KT3 (by intro b hb hF;omega)
 have HV1n2n3:=hd_ HV1n2_3;clear HV1n2_3 HV1n2
 have hw3:Ty.At w3 (Av (w2.heap.size) ((w.heap.size+1))) t v:=hv3.on (Kp.refl No _) (by intro b hb hF;(try simp at hF);exact ⟨id,by omega⟩)
 clear hv3
 have HV3:=hd_ hw3;clear hw3
 have k3:Kp (On bb) w w3:=HK2.out.trans KT3 (by intro i hi h;omega)
 clear HK2
 have HK3:=hd_ k3;clear k3 KT3
 have HB3:=hd_ hB3;clear hB3 HB2
 have szw3:w.heap.size≤w3.heap.size:=by omega
 clear hK3 HU2
 go_wp2_with fail
 go_ret
 have hns:=Hns.out;subst hns
 refine ⟨⟨_,rfl,?_⟩,(HB3.out.on ((Kp.refl (On (w.heap.size+1)) w3).setCell (p:=⟨(w.heap.size+1),2,none⟩) (fun _=>rfl) _) (by omega)),(HK3.out.trans ((Kp.refl (On (w.heap.size+1)) w3).setCell (p:=⟨(w.heap.size+1),2,none⟩) (fun _=>rfl) _) (by intro i hi h;omega))⟩
 obtain ⟨us,hr,hm⟩:=(show NsAt _ (Fr w.heap.size) _ _ from HV1n2n3.out.on ((Kp.refl (On (w.heap.size+1)) w3).setCell (p:=⟨(w.heap.size+1),2,none⟩) (fun _=>rfl) _) (by intro b hb hF;omega))
 exact ⟨_,us,v,_,⟨_,rfl,by omega,(setOf HP3.out 2 _)⟩,hr,hm,HV3.out.on ((Kp.refl (On (w.heap.size+1)) w3).setCell (p:=⟨(w.heap.size+1),2,none⟩) (fun _=>rfl) _) (by intro b hb hF;omega),by rw [if_pos HT.out]⟩
theorem field_nft_c (n0:Nm) (ns0:List Nm) (t:Ty) (tp:Int) (tag:ByteArray) (hx:ExprP t) (ht:¬ tag.size=0) (w:World) (B bb:Nat) (s:Value) (l:List Int) (hB:Bld w bb (nmToks true (n0::ns0)++(t.toks false++([tp]++l)))) (hn:(fdNd (n0::ns0) t tag).In w B s) (hBb:B≤bb) (hok:t.ok false) (hp:Pk tp) (hts:tag.size≤1048576) (hsz:(fdNd (n0::ns0) t tag).size≤400) :
 Calls Tryz.prog 58 #[.pointer (some ⟨bb,0,none⟩),.agg #[.string ⟨#[102,105,101,108,100]⟩,.string tag,s],.bool false] w fun e w'=>(∃ u,e=.returned u∧FdAt w' (Fr w.heap.size) (n0::ns0) t tp tag u)∧Bld w' bb l∧Kp (On bb) w w':=by
 obtain ⟨ht1,ht2⟩:=bs_ne ht
 generalize hns:n0::ns0=ns at *
 simp only [fdNd,Nd.size,Nd.sizeL] at hsz
 have hlt:=hB.lt
 have HB0:=hd_ hB
 obtain ⟨q,c0,rfl,hc0⟩:=hn.form
 have HL:=hd_ (Nd.In_iff.1 hn)
 have HO:=hd_ hok
 have hln:ns.length≤Nd.sizeL (ns.map Nm.nd):=nms_size ns
 have hl1:1≤ns.length:=by rw [← hns];simp
 obtain ⟨b0,o0,c1,_,_,he,_⟩:=(HL.out.get (i:=0) rfl);cases he
 simp [fdNd,Nd.l] at HL hc0 ⊢
 have hc2:¬ c0=1:=by omega
 have hl2:0 < ns.length:=by omega
 have Hns:=hd_ hns;clear hns
 have HS:=hd_ hsz
 have HX:=hd_ hx;have HP:=hd_ hp;have HT:=hd_ ht;have HTS:=hd_ hts
 clear hn hB hok hsz hx hp ht hts
 go_enter Tryz.func58,Tryz.ntmps58
 go_wp2_with fail
 refine (names_c _ B bb _ ns (t.toks false++(tp::l)) (HB0.out.on (((Kp.refl (On (w.heap.size+1)) w).alloc _).alloc _) (by omega)) (Ls.tailn (Ls.below HL.out (((((Kp.refl (On (w.heap.size+1)) w).alloc _).alloc _)).mono (S':=On bb) (by intro i hi h;omega)) (by omega) (fun b hb h=>by omega))) hBb (by have:=HS.out;omega)).mono ?_
 rintro e w1 ⟨⟨vs,us1,rfl,hr1,hn1⟩,hB1,hK1⟩
 have sz1:w.heap.size≤w1.heap.size:=by have:=hK1.size;(try simp at this);omega
 have KT1:Kp (fun k=>k=bb∨k=(w.heap.size+1)) w w1:=(((Kp.refl (fun k=>k=bb∨k=(w.heap.size+1)) w).alloc _).alloc _).trans hK1 (by intro i hi h;first | exact (h:False).elim | omega)
 obtain ⟨xb1,x0,x1,x2,xs⟩:=box3 (allocOf (newOf w _) _) hK1 (by exact On.not (by omega))
 have HX1:=hd_ xb1;clear xb1
 have xk1:w1.heap[(w.heap.size+1)]?=some (.cells #[.pointer none,.slice none 0 0,.nilIface,.pointer none,.pointer none] 168 (0,0)):=hK1.at (newOf2 w _ _) (by exact On.not (by omega))
 have z0:=cO xk1 0 _ rfl;have f0:=fO xk1 0
 have z1:=cO xk1 1 _ rfl;have f1:=fO xk1 1
 have z2:=cO xk1 2 _ rfl;have f2:=fO xk1 2
 have z3:=cO xk1 3 _ rfl;have f3:=fO xk1 3
 have z4:=cO xk1 4 _ rfl;have f4:=fO xk1 4
 have zs1:=ltb xk1
 have HP1:=hd_ xk1;clear xk1
 have k1:Kp (On bb) w w1:=KT1.mono (by intro i hi h;omega)
 have HK1:=hd_ k1;clear k1 KT1
 have HB1:=hd_ hB1;clear hB1 HB0
 have szw1:w.heap.size≤w1.heap.size:=by omega
 have hw1:NsAt w1 (Av (w.heap.size) ((w.heap.size+1))) ns vs:=NsAt.on (F:=Fr _) ⟨us1,hr1,hn1⟩ (Kp.refl No _) (by intro b hb hF;(try simp at hF);exact ⟨id,by omega⟩)
 obtain ⟨vp,vn,vc,rfl⟩:=hw1.form
 have HV1:=hd_ hw1;clear hw1 hr1 hn1 hK1
 go_wp2_with fail
 refine (kid_c _ B _ _ _ _ 0 (t.nd) (HL.out.below (HK1.out.trans ((Kp.refl (On (w.heap.size+1)) w1).setCell (p:=⟨(w.heap.size+1),1,none⟩) (fun _=>rfl) _) (by intro i hi h;omega)) (by omega) (fun b hb=>On.not' (by omega))) (by decide) rfl).mono ?_
 rintro e w2 ⟨⟨u2,rfl,hu2⟩,hK2⟩
 have sz2:w1.heap.size≤w2.heap.size:=by have:=hK2.size;(try simp at this);omega
 have KT2:Kp (fun k=>k=bb∨k=(w.heap.size+1)) w1 w2:=((Kp.refl (fun k=>k=bb∨k=(w.heap.size+1)) w1).setCell (p:=⟨(w.heap.size+1),1,none⟩) (fun _=>.inr rfl) _).trans hK2 (by intro i hi h;first | exact (h:False).elim | omega)
 have hB2:=(HB1.out.on ((Kp.refl (On (w.heap.size+1)) w1).setCell (p:=⟨(w.heap.size+1),1,none⟩) (fun _=>rfl) _) (by omega)).no hK2
 obtain ⟨xb2,x0,x1,x2,xs⟩:=box3 HX1.out KT2 (by omega)
 clear HX1
 have HX2:=hd_ xb2;clear xb2
 clear z0 f0 z1 f1 z2 f2 z3 f3 z4 f4
 have xk2:w2.heap[(w.heap.size+1)]?=some (.cells #[.pointer none,.slice vp vn vc,.nilIface,.pointer none,.pointer none] 168 (0,0)):=hK2.at (setOf HP1.out 1 _) (by exact id)
 have z0:=cO xk2 0 _ rfl;have f0:=fO xk2 0
 have z1:=cO xk2 1 _ rfl;have f1:=fO xk2 1
 have z2:=cO xk2 2 _ rfl;have f2:=fO xk2 2
 have z3:=cO xk2 3 _ rfl;have f3:=fO xk2 3
 have z4:=cO xk2 4 _ rfl;have f4:=fO xk2 4
 have zs2:=ltb xk2
 have HP2:=hd_ xk2;clear xk2 HP1
 have HV1_2:NsAt w2 (Av (w.heap.size) ((w.heap.size+1))) ns (.slice vp vn vc):=HV1.out.on KT2 (by intro b hb hF;omega)
 have HV1n2:=hd_ HV1_2;clear HV1_2 HV1
 have k2:Kp (On bb) w w2:=HK1.out.trans KT2 (by intro i hi h;omega)
 clear HK1
 have HK2:=hd_ k2;clear k2 KT2
 have HB2:=hd_ hB2;clear hB2 HB1
 have szw2:w.heap.size≤w2.heap.size:=by omega
 have HU2:=hd_ (hu2.below hK2 (by (try simp);omega) (fun _ _ h=>h.elim));clear hu2 hK2
 go_wp2_with fail
 refine (HX.out _ B bb _ (tp::l) (HB2.out.on (Kp.refl (On (w.heap.size+1)) w2) (by omega)) HU2.out hBb HO.out (by have:=HS.out;omega)).mono ?_
 rintro e w3 ⟨⟨v,rfl,hv3⟩,hB3,hK3⟩
 have sz3:w2.heap.size≤w3.heap.size:=by have:=hK3.size;(try simp at this);omega
 have KT3:Kp (fun k=>k=bb∨k=(w.heap.size+1)) w2 w3:=(Kp.refl (fun k=>k=bb∨k=(w.heap.size+1)) w2).trans hK3 (by intro i hi h;first | exact (h:False).elim | omega)
 obtain ⟨xb3,x0,x1,x2,xs⟩:=box3 HX2.out KT3 (by omega)
 clear HX2
 have HX3:=hd_ xb3;clear xb3
 clear z0 f0 z1 f1 z2 f2 z3 f3 z4 f4
 have xk3:w3.heap[(w.heap.size+1)]?=some (.cells #[.pointer none,.slice vp vn vc,.nilIface,.pointer none,.pointer none] 168 (0,0)):=hK3.at HP2.out (by exact On.not (by omega))
 have z0:=cO xk3 0 _ rfl;have f0:=fO xk3 0
 have z1:=cO xk3 1 _ rfl;have f1:=fO xk3 1
 have z2:=cO xk3 2 _ rfl;have f2:=fO xk3 2
 have z3:=cO xk3 3 _ rfl;have f3:=fO xk3 3
 have z4:=cO xk3 4 _ rfl;have f4:=fO xk3 4
 have zs3:=ltb xk3
 have HP3:=hd_ xk3;clear xk3 HP2
 have HV1n2_3:NsAt w3 (Av (w.heap.size) ((w.heap.size+1))) ns (.slice vp vn vc):=HV1n2.out.on KT3 (by intro b hb hF;omega)
 have HV1n2n3:=hd_ HV1n2_3;clear HV1n2_3 HV1n2
 have hw3:Ty.At w3 (Av (w2.heap.size) ((w.heap.size+1))) t v:=hv3.on (Kp.refl No _) (by intro b hb hF;(try simp at hF);exact ⟨id,by omega⟩)
 clear hv3
 have HV3:=hd_ hw3;clear hw3
 have k3:Kp (On bb) w w3:=HK2.out.trans KT3 (by intro i hi h;omega)
 clear HK2
 have HK3:=hd_ k3;clear k3 KT3
 have HB3:=hd_ hB3;clear hB3 HB2
 have szw3:w.heap.size≤w3.heap.size:=by omega
 clear hK3 HU2
 go_wp2_with fail
 refine (literal_c _ bb (tag) (tp) (l) (HB3.out.on ((Kp.refl (On (w.heap.size+1)) w3).setCell (p:=⟨(w.heap.size+1),2,none⟩) (fun _=>rfl) _) (by omega)) HP.out HTS.out).mono ?_
 rintro e w4 ⟨⟨g,rfl,hv4⟩,hB4,hK4⟩
 have sz4:w3.heap.size≤w4.heap.size:=by have:=hK4.size;(try simp at this);omega
 have KT4:Kp (fun k=>k=bb∨k=(w.heap.size+1)) w3 w4:=((Kp.refl (fun k=>k=bb∨k=(w.heap.size+1)) w3).setCell (p:=⟨(w.heap.size+1),2,none⟩) (fun _=>.inr rfl) _).trans hK4 (by intro i hi h;first | exact (h:False).elim | omega)
 obtain ⟨xb4,x0,x1,x2,xs⟩:=box3 HX3.out KT4 (by omega)
 clear HX3
 have HX4:=hd_ xb4;clear xb4
 clear z0 f0 z1 f1 z2 f2 z3 f3 z4 f4
 have xk4:w4.heap[(w.heap.size+1)]?=some (.cells #[.pointer none,.slice vp vn vc,.iface t.ty v,.pointer none,.pointer none] 168 (0,0)):=hK4.at (setOf HP3.out 2 _) (by exact On.not (by omega))
 have z0:=cO xk4 0 _ rfl;have f0:=fO xk4 0
 have z1:=cO xk4 1 _ rfl;have f1:=fO xk4 1
 have z2:=cO xk4 2 _ rfl;have f2:=fO xk4 2
 have z3:=cO xk4 3 _ rfl;have f3:=fO xk4 3
 have z4:=cO xk4 4 _ rfl;have f4:=fO xk4 4
 have zs4:=ltb xk4
 have HP4:=hd_ xk4;clear xk4 HP3
 have HV1n2n3_4:NsAt w4 (Av (w.heap.size) ((w.heap.size+1))) ns (.slice vp vn vc):=HV1n2n3.out.on KT4 (by intro b hb hF;omega)
 have HV1n2n3n4:=hd_ HV1n2n3_4;clear HV1n2n3_4 HV1n2n3
 have HV3_4:Ty.At w4 (Av (w2.heap.size) ((w.heap.size+1))) t v:=HV3.out.on KT4 (by intro b hb hF;omega)
 have HV3n4:=hd_ HV3_4;clear HV3_4 HV3
 have hw4:LitAt w4 (Av (w3.heap.size) ((w.heap.size+1))) (tp) (tag) g:=hv4.on (Kp.refl No _) (by intro b hb hF;(try simp at hF);exact ⟨id,by omega⟩)
 clear hv4
 obtain ⟨gb,rfl⟩:=hw4.ptr
 have HV4:=hd_ hw4;clear hw4
 have k4:Kp (On bb) w w4:=HK3.out.trans KT4 (by intro i hi h;omega)
 clear HK3
 have HK4:=hd_ k4;clear k4 KT4
 have HB4:=hd_ hB4;clear hB4 HB3
 have szw4:w.heap.size≤w4.heap.size:=by omega
 clear hK4
 go_wp2_with fail
 go_ret
 have hns:=Hns.out;subst hns
 refine ⟨⟨_,rfl,?_⟩,(HB4.out.on ((Kp.refl (On (w.heap.size+1)) w4).setCell (p:=⟨(w.heap.size+1),3,none⟩) (fun _=>rfl) _) (by omega)),(HK4.out.trans ((Kp.refl (On (w.heap.size+1)) w4).setCell (p:=⟨(w.heap.size+1),3,none⟩) (fun _=>rfl) _) (by intro i hi h;omega))⟩
 obtain ⟨us,hr,hm⟩:=(show NsAt _ (Fr w.heap.size) _ _ from HV1n2n3n4.out.on ((Kp.refl (On (w.heap.size+1)) w4).setCell (p:=⟨(w.heap.size+1),3,none⟩) (fun _=>rfl) _) (by intro b hb hF;omega))
 exact ⟨_,us,v,_,⟨_,rfl,by omega,(setOf HP4.out 3 _)⟩,hr,hm,HV3n4.out.on ((Kp.refl (On (w.heap.size+1)) w4).setCell (p:=⟨(w.heap.size+1),3,none⟩) (fun _=>rfl) _) (by intro b hb hF;omega),by rw [if_neg HT.out];exact HV4.out.on ((Kp.refl (On (w.heap.size+1)) w4).setCell (p:=⟨(w.heap.size+1),3,none⟩) (fun _=>rfl) _) (by intro b hb hF;omega)⟩
theorem field_nmx_c (n0:Nm) (ns0:List Nm) (t:Ty) (tp:Int) (tag:ByteArray) (hx:SigP t) (ht:tag.size=0) (w:World) (B bb:Nat) (s:Value) (l:List Int) (hB:Bld w bb (nmToks true (n0::ns0)++(t.toks true++([]++l)))) (hn:(fdNd (n0::ns0) t tag).In w B s) (hBb:B≤bb) (hok:t.ok true) (hp:Pk tp) (hts:tag.size≤1048576) (hsz:(fdNd (n0::ns0) t tag).size≤400) :
 Calls Tryz.prog 58 #[.pointer (some ⟨bb,0,none⟩),.agg #[.string ⟨#[102,105,101,108,100]⟩,.string tag,s],.bool true] w fun e w'=>(∃ u,e=.returned u∧FdAt w' (Fr w.heap.size) (n0::ns0) t tp tag u)∧Bld w' bb l∧Kp (On bb) w w':=by
 obtain rfl:=bs_empty ht
 generalize hns:n0::ns0=ns at *
 simp only [fdNd,Nd.size,Nd.sizeL] at hsz
 have hlt:=hB.lt
 have HB0:=hd_ hB
 obtain ⟨q,c0,rfl,hc0⟩:=hn.form
 have HL:=hd_ (Nd.In_iff.1 hn)
 have HO:=hd_ hok
 have hln:ns.length≤Nd.sizeL (ns.map Nm.nd):=nms_size ns
 have hl1:1≤ns.length:=by rw [← hns];simp
 obtain ⟨b0,o0,c1,_,_,he,_⟩:=(HL.out.get (i:=0) rfl);cases he
 simp [fdNd,Nd.l] at HL hc0 ⊢
 have hc2:¬ c0=1:=by omega
 have hl2:0 < ns.length:=by omega
 have Hns:=hd_ hns;clear hns
 have HS:=hd_ hsz
 have HX:=hd_ hx;have HP:=hd_ hp;have HT:=hd_ ht;have HTS:=hd_ hts
 clear hn hB hok hsz hx hp ht hts
 go_enter Tryz.func58,Tryz.ntmps58
 go_wp2_with fail
 refine (names_c _ B bb _ ns (t.toks true++(l)) (HB0.out.on (((Kp.refl (On (w.heap.size+1)) w).alloc _).alloc _) (by omega)) (Ls.tailn (Ls.below HL.out (((((Kp.refl (On (w.heap.size+1)) w).alloc _).alloc _)).mono (S':=On bb) (by intro i hi h;omega)) (by omega) (fun b hb h=>by omega))) hBb (by have:=HS.out;omega)).mono ?_
 rintro e w1 ⟨⟨vs,us1,rfl,hr1,hn1⟩,hB1,hK1⟩
 have sz1:w.heap.size≤w1.heap.size:=by have:=hK1.size;(try simp at this);omega
 have KT1:Kp (fun k=>k=bb∨k=(w.heap.size+1)) w w1:=(((Kp.refl (fun k=>k=bb∨k=(w.heap.size+1)) w).alloc _).alloc _).trans hK1 (by intro i hi h;first | exact (h:False).elim | omega)
 obtain ⟨xb1,x0,x1,x2,xs⟩:=box3 (allocOf (newOf w _) _) hK1 (by exact On.not (by omega))
 have HX1:=hd_ xb1;clear xb1
 have xk1:w1.heap[(w.heap.size+1)]?=some (.cells #[.pointer none,.slice none 0 0,.nilIface,.pointer none,.pointer none] 168 (0,0)):=hK1.at (newOf2 w _ _) (by exact On.not (by omega))
 have z0:=cO xk1 0 _ rfl;have f0:=fO xk1 0
 have z1:=cO xk1 1 _ rfl;have f1:=fO xk1 1
 have z2:=cO xk1 2 _ rfl;have f2:=fO xk1 2
 have z3:=cO xk1 3 _ rfl;have f3:=fO xk1 3
 have z4:=cO xk1 4 _ rfl;have f4:=fO xk1 4
 have zs1:=ltb xk1
 have HP1:=hd_ xk1;clear xk1
 have k1:Kp (On bb) w w1:=KT1.mono (by intro i hi h;omega)
 have HK1:=hd_ k1;clear k1 KT1
 have HB1:=hd_ hB1;clear hB1 HB0
 have szw1:w.heap.size≤w1.heap.size:=by omega
 have hw1:NsAt w1 (Av (w.heap.size) ((w.heap.size+1))) ns vs:=NsAt.on (F:=Fr _) ⟨us1,hr1,hn1⟩ (Kp.refl No _) (by intro b hb hF;(try simp at hF);exact ⟨id,by omega⟩)
 obtain ⟨vp,vn,vc,rfl⟩:=hw1.form
 have HV1:=hd_ hw1;clear hw1 hr1 hn1 hK1
 go_wp2_with fail
 refine (kid_c _ B _ _ _ _ 0 (t.nd) (HL.out.below (HK1.out.trans ((Kp.refl (On (w.heap.size+1)) w1).setCell (p:=⟨(w.heap.size+1),1,none⟩) (fun _=>rfl) _) (by intro i hi h;omega)) (by omega) (fun b hb=>On.not' (by omega))) (by decide) rfl).mono ?_
 rintro e w2 ⟨⟨u2,rfl,hu2⟩,hK2⟩
 have sz2:w1.heap.size≤w2.heap.size:=by have:=hK2.size;(try simp at this);omega
 have KT2:Kp (fun k=>k=bb∨k=(w.heap.size+1)) w1 w2:=((Kp.refl (fun k=>k=bb∨k=(w.heap.size+1)) w1).setCell (p:=⟨(w.heap.size+1),1,none⟩) (fun _=>.inr rfl) _).trans hK2 (by intro i hi h;first | exact (h:False).elim | omega)
 have hB2:=(HB1.out.on ((Kp.refl (On (w.heap.size+1)) w1).setCell (p:=⟨(w.heap.size+1),1,none⟩) (fun _=>rfl) _) (by omega)).no hK2
 obtain ⟨xb2,x0,x1,x2,xs⟩:=box3 HX1.out KT2 (by omega)
 clear HX1
 have HX2:=hd_ xb2;clear xb2
 clear z0 f0 z1 f1 z2 f2 z3 f3 z4 f4
 have xk2:w2.heap[(w.heap.size+1)]?=some (.cells #[.pointer none,.slice vp vn vc,.nilIface,.pointer none,.pointer none] 168 (0,0)):=hK2.at (setOf HP1.out 1 _) (by exact id)
 have z0:=cO xk2 0 _ rfl;have f0:=fO xk2 0
 have z1:=cO xk2 1 _ rfl;have f1:=fO xk2 1
 have z2:=cO xk2 2 _ rfl;have f2:=fO xk2 2
 have z3:=cO xk2 3 _ rfl;have f3:=fO xk2 3
 have z4:=cO xk2 4 _ rfl;have f4:=fO xk2 4
 have zs2:=ltb xk2
 have HP2:=hd_ xk2;clear xk2 HP1
 have HV1_2:NsAt w2 (Av (w.heap.size) ((w.heap.size+1))) ns (.slice vp vn vc):=HV1.out.on KT2 (by intro b hb hF;omega)
 have HV1n2:=hd_ HV1_2;clear HV1_2 HV1
 have k2:Kp (On bb) w w2:=HK1.out.trans KT2 (by intro i hi h;omega)
 clear HK1
 have HK2:=hd_ k2;clear k2 KT2
 have HB2:=hd_ hB2;clear hB2 HB1
 have szw2:w.heap.size≤w2.heap.size:=by omega
 have HU2:=hd_ (hu2.below hK2 (by (try simp);omega) (fun _ _ h=>h.elim));clear hu2 hK2
 go_wp2_with fail
 refine (sigcall HX.out bb _ (l) (HB2.out.on (Kp.refl (On (w.heap.size+1)) w2) (by omega)) HU2.out hBb HO.out (by have:=HS.out;omega)).mono ?_
 rintro e w3 ⟨⟨v,rfl,hv3⟩,hB3,hK3⟩
 have sz3:w2.heap.size≤w3.heap.size:=by have:=hK3.size;(try simp at this);omega
 have KT3:Kp (fun k=>k=bb∨k=(w.heap.size+1)) w2 w3:=(Kp.refl (fun k=>k=bb∨k=(w.heap.size+1)) w2).trans hK3 (by intro i hi h;first | exact (h:False).elim | omega)
 obtain ⟨xb3,x0,x1,x2,xs⟩:=box3 HX2.out KT3 (by omega)
 clear HX2
 have HX3:=hd_ xb3;clear xb3
 clear z0 f0 z1 f1 z2 f2 z3 f3 z4 f4
 have xk3:w3.heap[(w.heap.size+1)]?=some (.cells #[.pointer none,.slice vp vn vc,.nilIface,.pointer none,.pointer none] 168 (0,0)):=hK3.at HP2.out (by exact On.not (by omega))
 have z0:=cO xk3 0 _ rfl;have f0:=fO xk3 0
 have z1:=cO xk3 1 _ rfl;have f1:=fO xk3 1
 have z2:=cO xk3 2 _ rfl;have f2:=fO xk3 2
 have z3:=cO xk3 3 _ rfl;have f3:=fO xk3 3
 have z4:=cO xk3 4 _ rfl;have f4:=fO xk3 4
 have zs3:=ltb xk3
 have HP3:=hd_ xk3;clear xk3 HP2
 have HV1n2_3:NsAt w3 (Av (w.heap.size) ((w.heap.size+1))) ns (.slice vp vn vc):=HV1n2.out.on KT3 (by intro b hb hF;omega)
 have HV1n2n3:=hd_ HV1n2_3;clear HV1n2_3 HV1n2
 have hw3:Ty.At w3 (Av (w2.heap.size) ((w.heap.size+1))) t v:=hv3.on (Kp.refl No _) (by intro b hb hF;(try simp at hF);exact ⟨id,by omega⟩)
 clear hv3
 have HV3:=hd_ hw3;clear hw3
 have k3:Kp (On bb) w w3:=HK2.out.trans KT3 (by intro i hi h;omega)
 clear HK2
 have HK3:=hd_ k3;clear k3 KT3
 have HB3:=hd_ hB3;clear hB3 HB2
 have szw3:w.heap.size≤w3.heap.size:=by omega
 clear hK3 HU2
 go_wp2_with fail
 go_ret
 have hns:=Hns.out;subst hns
 refine ⟨⟨_,rfl,?_⟩,(HB3.out.on ((Kp.refl (On (w.heap.size+1)) w3).setCell (p:=⟨(w.heap.size+1),2,none⟩) (fun _=>rfl) _) (by omega)),(HK3.out.trans ((Kp.refl (On (w.heap.size+1)) w3).setCell (p:=⟨(w.heap.size+1),2,none⟩) (fun _=>rfl) _) (by intro i hi h;omega))⟩
 simp only [FdAt,sig_ty2 HO.out]
 obtain ⟨us,hr,hm⟩:=(show NsAt _ (Fr w.heap.size) _ _ from HV1n2n3.out.on ((Kp.refl (On (w.heap.size+1)) w3).setCell (p:=⟨(w.heap.size+1),2,none⟩) (fun _=>rfl) _) (by intro b hb hF;omega))
 exact ⟨_,us,v,_,⟨_,rfl,by omega,(setOf HP3.out 2 _)⟩,hr,hm,HV3.out.on ((Kp.refl (On (w.heap.size+1)) w3).setCell (p:=⟨(w.heap.size+1),2,none⟩) (fun _=>rfl) _) (by intro b hb hF;omega),by rw [if_pos HT.out]⟩
theorem field_nmt_c (n0:Nm) (ns0:List Nm) (t:Ty) (tp:Int) (tag:ByteArray) (hx:SigP t) (ht:¬ tag.size=0) (w:World) (B bb:Nat) (s:Value) (l:List Int) (hB:Bld w bb (nmToks true (n0::ns0)++(t.toks true++([tp]++l)))) (hn:(fdNd (n0::ns0) t tag).In w B s) (hBb:B≤bb) (hok:t.ok true) (hp:Pk tp) (hts:tag.size≤1048576) (hsz:(fdNd (n0::ns0) t tag).size≤400) :
 Calls Tryz.prog 58 #[.pointer (some ⟨bb,0,none⟩),.agg #[.string ⟨#[102,105,101,108,100]⟩,.string tag,s],.bool true] w fun e w'=>(∃ u,e=.returned u∧FdAt w' (Fr w.heap.size) (n0::ns0) t tp tag u)∧Bld w' bb l∧Kp (On bb) w w':=by
 obtain ⟨ht1,ht2⟩:=bs_ne ht
 generalize hns:n0::ns0=ns at *
 simp only [fdNd,Nd.size,Nd.sizeL] at hsz
 have hlt:=hB.lt
 have HB0:=hd_ hB
 obtain ⟨q,c0,rfl,hc0⟩:=hn.form
 have HL:=hd_ (Nd.In_iff.1 hn)
 have HO:=hd_ hok
 have hln:ns.length≤Nd.sizeL (ns.map Nm.nd):=nms_size ns
 have hl1:1≤ns.length:=by rw [← hns];simp
 obtain ⟨b0,o0,c1,_,_,he,_⟩:=(HL.out.get (i:=0) rfl);cases he
 simp [fdNd,Nd.l] at HL hc0 ⊢
 have hc2:¬ c0=1:=by omega
 have hl2:0 < ns.length:=by omega
 have Hns:=hd_ hns;clear hns
 have HS:=hd_ hsz
 have HX:=hd_ hx;have HP:=hd_ hp;have HT:=hd_ ht;have HTS:=hd_ hts
 clear hn hB hok hsz hx hp ht hts
 go_enter Tryz.func58,Tryz.ntmps58
 go_wp2_with fail
 refine (names_c _ B bb _ ns (t.toks true++(tp::l)) (HB0.out.on (((Kp.refl (On (w.heap.size+1)) w).alloc _).alloc _) (by omega)) (Ls.tailn (Ls.below HL.out (((((Kp.refl (On (w.heap.size+1)) w).alloc _).alloc _)).mono (S':=On bb) (by intro i hi h;omega)) (by omega) (fun b hb h=>by omega))) hBb (by have:=HS.out;omega)).mono ?_
 rintro e w1 ⟨⟨vs,us1,rfl,hr1,hn1⟩,hB1,hK1⟩
 have sz1:w.heap.size≤w1.heap.size:=by have:=hK1.size;(try simp at this);omega
 have KT1:Kp (fun k=>k=bb∨k=(w.heap.size+1)) w w1:=(((Kp.refl (fun k=>k=bb∨k=(w.heap.size+1)) w).alloc _).alloc _).trans hK1 (by intro i hi h;first | exact (h:False).elim | omega)
 obtain ⟨xb1,x0,x1,x2,xs⟩:=box3 (allocOf (newOf w _) _) hK1 (by exact On.not (by omega))
 have HX1:=hd_ xb1;clear xb1
 have xk1:w1.heap[(w.heap.size+1)]?=some (.cells #[.pointer none,.slice none 0 0,.nilIface,.pointer none,.pointer none] 168 (0,0)):=hK1.at (newOf2 w _ _) (by exact On.not (by omega))
 have z0:=cO xk1 0 _ rfl;have f0:=fO xk1 0
 have z1:=cO xk1 1 _ rfl;have f1:=fO xk1 1
 have z2:=cO xk1 2 _ rfl;have f2:=fO xk1 2
 have z3:=cO xk1 3 _ rfl;have f3:=fO xk1 3
 have z4:=cO xk1 4 _ rfl;have f4:=fO xk1 4
 have zs1:=ltb xk1
 have HP1:=hd_ xk1;clear xk1
 have k1:Kp (On bb) w w1:=KT1.mono (by intro i hi h;omega)
 have HK1:=hd_ k1;clear k1 KT1
 have HB1:=hd_ hB1;clear hB1 HB0
 have szw1:w.heap.size≤w1.heap.size:=by omega
 have hw1:NsAt w1 (Av (w.heap.size) ((w.heap.size+1))) ns vs:=NsAt.on (F:=Fr _) ⟨us1,hr1,hn1⟩ (Kp.refl No _) (by intro b hb hF;(try simp at hF);exact ⟨id,by omega⟩)
 obtain ⟨vp,vn,vc,rfl⟩:=hw1.form
 have HV1:=hd_ hw1;clear hw1 hr1 hn1 hK1
 go_wp2_with fail
 refine (kid_c _ B _ _ _ _ 0 (t.nd) (HL.out.below (HK1.out.trans ((Kp.refl (On (w.heap.size+1)) w1).setCell (p:=⟨(w.heap.size+1),1,none⟩) (fun _=>rfl) _) (by intro i hi h;omega)) (by omega) (fun b hb=>On.not' (by omega))) (by decide) rfl).mono ?_
 rintro e w2 ⟨⟨u2,rfl,hu2⟩,hK2⟩
 have sz2:w1.heap.size≤w2.heap.size:=by have:=hK2.size;(try simp at this);omega
 have KT2:Kp (fun k=>k=bb∨k=(w.heap.size+1)) w1 w2:=((Kp.refl (fun k=>k=bb∨k=(w.heap.size+1)) w1).setCell (p:=⟨(w.heap.size+1),1,none⟩) (fun _=>.inr rfl) _).trans hK2 (by intro i hi h;first | exact (h:False).elim | omega)
 have hB2:=(HB1.out.on ((Kp.refl (On (w.heap.size+1)) w1).setCell (p:=⟨(w.heap.size+1),1,none⟩) (fun _=>rfl) _) (by omega)).no hK2
 obtain ⟨xb2,x0,x1,x2,xs⟩:=box3 HX1.out KT2 (by omega)
 clear HX1
 have HX2:=hd_ xb2;clear xb2
 clear z0 f0 z1 f1 z2 f2 z3 f3 z4 f4
 have xk2:w2.heap[(w.heap.size+1)]?=some (.cells #[.pointer none,.slice vp vn vc,.nilIface,.pointer none,.pointer none] 168 (0,0)):=hK2.at (setOf HP1.out 1 _) (by exact id)
 have z0:=cO xk2 0 _ rfl;have f0:=fO xk2 0
 have z1:=cO xk2 1 _ rfl;have f1:=fO xk2 1
 have z2:=cO xk2 2 _ rfl;have f2:=fO xk2 2
 have z3:=cO xk2 3 _ rfl;have f3:=fO xk2 3
 have z4:=cO xk2 4 _ rfl;have f4:=fO xk2 4
 have zs2:=ltb xk2
 have HP2:=hd_ xk2;clear xk2 HP1
 have HV1_2:NsAt w2 (Av (w.heap.size) ((w.heap.size+1))) ns (.slice vp vn vc):=HV1.out.on KT2 (by intro b hb hF;omega)
 have HV1n2:=hd_ HV1_2;clear HV1_2 HV1
 have k2:Kp (On bb) w w2:=HK1.out.trans KT2 (by intro i hi h;omega)
 clear HK1
 have HK2:=hd_ k2;clear k2 KT2
 have HB2:=hd_ hB2;clear hB2 HB1
 have szw2:w.heap.size≤w2.heap.size:=by omega
 have HU2:=hd_ (hu2.below hK2 (by (try simp);omega) (fun _ _ h=>h.elim));clear hu2 hK2
 go_wp2_with fail
 refine (sigcall HX.out bb _ (tp::l) (HB2.out.on (Kp.refl (On (w.heap.size+1)) w2) (by omega)) HU2.out hBb HO.out (by have:=HS.out;omega)).mono ?_
 rintro e w3 ⟨⟨v,rfl,hv3⟩,hB3,hK3⟩
 have sz3:w2.heap.size≤w3.heap.size:=by have:=hK3.size;(try simp at this);omega
 have KT3:Kp (fun k=>k=bb∨k=(w.heap.size+1)) w2 w3:=(Kp.refl (fun k=>k=bb∨k=(w.heap.size+1)) w2).trans hK3 (by intro i hi h;first | exact (h:False).elim | omega)
 obtain ⟨xb3,x0,x1,x2,xs⟩:=box3 HX2.out KT3 (by omega)
 clear HX2
 have HX3:=hd_ xb3;clear xb3
 clear z0 f0 z1 f1 z2 f2 z3 f3 z4 f4
 have xk3:w3.heap[(w.heap.size+1)]?=some (.cells #[.pointer none,.slice vp vn vc,.nilIface,.pointer none,.pointer none] 168 (0,0)):=hK3.at HP2.out (by exact On.not (by omega))
 have z0:=cO xk3 0 _ rfl;have f0:=fO xk3 0
 have z1:=cO xk3 1 _ rfl;have f1:=fO xk3 1
 have z2:=cO xk3 2 _ rfl;have f2:=fO xk3 2
 have z3:=cO xk3 3 _ rfl;have f3:=fO xk3 3
 have z4:=cO xk3 4 _ rfl;have f4:=fO xk3 4
 have zs3:=ltb xk3
 have HP3:=hd_ xk3;clear xk3 HP2
 have HV1n2_3:NsAt w3 (Av (w.heap.size) ((w.heap.size+1))) ns (.slice vp vn vc):=HV1n2.out.on KT3 (by intro b hb hF;omega)
 have HV1n2n3:=hd_ HV1n2_3;clear HV1n2_3 HV1n2
 have hw3:Ty.At w3 (Av (w2.heap.size) ((w.heap.size+1))) t v:=hv3.on (Kp.refl No _) (by intro b hb hF;(try simp at hF);exact ⟨id,by omega⟩)
 clear hv3
 have HV3:=hd_ hw3;clear hw3
 have k3:Kp (On bb) w w3:=HK2.out.trans KT3 (by intro i hi h;omega)
 clear HK2
 have HK3:=hd_ k3;clear k3 KT3
 have HB3:=hd_ hB3;clear hB3 HB2
 have szw3:w.heap.size≤w3.heap.size:=by omega
 clear hK3 HU2
 go_wp2_with fail
 refine (literal_c _ bb (tag) (tp) (l) (HB3.out.on ((Kp.refl (On (w.heap.size+1)) w3).setCell (p:=⟨(w.heap.size+1),2,none⟩) (fun _=>rfl) _) (by omega)) HP.out HTS.out).mono ?_
 rintro e w4 ⟨⟨g,rfl,hv4⟩,hB4,hK4⟩
 have sz4:w3.heap.size≤w4.heap.size:=by have:=hK4.size;(try simp at this);omega
 have KT4:Kp (fun k=>k=bb∨k=(w.heap.size+1)) w3 w4:=((Kp.refl (fun k=>k=bb∨k=(w.heap.size+1)) w3).setCell (p:=⟨(w.heap.size+1),2,none⟩) (fun _=>.inr rfl) _).trans hK4 (by intro i hi h;first | exact (h:False).elim | omega)
 obtain ⟨xb4,x0,x1,x2,xs⟩:=box3 HX3.out KT4 (by omega)
 clear HX3
 have HX4:=hd_ xb4;clear xb4
 clear z0 f0 z1 f1 z2 f2 z3 f3 z4 f4
 have xk4:w4.heap[(w.heap.size+1)]?=some (.cells #[.pointer none,.slice vp vn vc,.iface 73 v,.pointer none,.pointer none] 168 (0,0)):=hK4.at (setOf HP3.out 2 _) (by exact On.not (by omega))
 have z0:=cO xk4 0 _ rfl;have f0:=fO xk4 0
 have z1:=cO xk4 1 _ rfl;have f1:=fO xk4 1
 have z2:=cO xk4 2 _ rfl;have f2:=fO xk4 2
 have z3:=cO xk4 3 _ rfl;have f3:=fO xk4 3
 have z4:=cO xk4 4 _ rfl;have f4:=fO xk4 4
 have zs4:=ltb xk4
 have HP4:=hd_ xk4;clear xk4 HP3
 have HV1n2n3_4:NsAt w4 (Av (w.heap.size) ((w.heap.size+1))) ns (.slice vp vn vc):=HV1n2n3.out.on KT4 (by intro b hb hF;omega)
 have HV1n2n3n4:=hd_ HV1n2n3_4;clear HV1n2n3_4 HV1n2n3
 have HV3_4:Ty.At w4 (Av (w2.heap.size) ((w.heap.size+1))) t v:=HV3.out.on KT4 (by intro b hb hF;omega)
 have HV3n4:=hd_ HV3_4;clear HV3_4 HV3
 have hw4:LitAt w4 (Av (w3.heap.size) ((w.heap.size+1))) (tp) (tag) g:=hv4.on (Kp.refl No _) (by intro b hb hF;(try simp at hF);exact ⟨id,by omega⟩)
 clear hv4
 obtain ⟨gb,rfl⟩:=hw4.ptr
 have HV4:=hd_ hw4;clear hw4
 have k4:Kp (On bb) w w4:=HK3.out.trans KT4 (by intro i hi h;omega)
 clear HK3
 have HK4:=hd_ k4;clear k4 KT4
 have HB4:=hd_ hB4;clear hB4 HB3
 have szw4:w.heap.size≤w4.heap.size:=by omega
 clear hK4
 go_wp2_with fail
 go_ret
 have hns:=Hns.out;subst hns
 refine ⟨⟨_,rfl,?_⟩,(HB4.out.on ((Kp.refl (On (w.heap.size+1)) w4).setCell (p:=⟨(w.heap.size+1),3,none⟩) (fun _=>rfl) _) (by omega)),(HK4.out.trans ((Kp.refl (On (w.heap.size+1)) w4).setCell (p:=⟨(w.heap.size+1),3,none⟩) (fun _=>rfl) _) (by intro i hi h;omega))⟩
 simp only [FdAt,sig_ty2 HO.out]
 obtain ⟨us,hr,hm⟩:=(show NsAt _ (Fr w.heap.size) _ _ from HV1n2n3n4.out.on ((Kp.refl (On (w.heap.size+1)) w4).setCell (p:=⟨(w.heap.size+1),3,none⟩) (fun _=>rfl) _) (by intro b hb hF;omega))
 exact ⟨_,us,v,_,⟨_,rfl,by omega,(setOf HP4.out 3 _)⟩,hr,hm,HV3n4.out.on ((Kp.refl (On (w.heap.size+1)) w4).setCell (p:=⟨(w.heap.size+1),3,none⟩) (fun _=>rfl) _) (by intro b hb hF;omega),by rw [if_neg HT.out];exact HV4.out.on ((Kp.refl (On (w.heap.size+1)) w4).setCell (p:=⟨(w.heap.size+1),3,none⟩) (fun _=>rfl) _) (by intro b hb hF;omega)⟩
end
section
open Go Go.RowKit
structure Fd where
 c:Int
 ns:List Nm
 t:Ty
 tp:Int
 tag:ByteArray
def Fs.fds:Fs→List Fd
 | .nil=>[]
 | .cons c ns t tp tag l=>⟨c,ns,t,tp,tag⟩::l.fds
def Fd.nd (d:Fd):Nd:=fdNd d.ns d.t d.tag
def Fd.at (w:World) (F:Nat→Prop) (d:Fd) (u:Value):Prop:=FdAt w F d.ns d.t d.tp d.tag u
def Fd.toks (meth:Bool) (d:Fd):List Int:=nmToks true d.ns++(d.t.toks (meth && !d.ns.isEmpty)++(if d.tag.size=0 then [] else [d.tp]))
def Fd.ok (meth:Bool) (d:Fd):Prop:=Pk d.c∧(∀ n∈d.ns,n.ok)∧d.t.ok (meth && !d.ns.isEmpty)∧Pk d.tp∧d.tag.size≤1048576
def FdsAt (w:World) (F:Nat→Prop):List Fd→List Value→Prop
 | [],us=>us=[]
 | d::l,us=>∃ u us',us=u::us'∧d.at w F u∧FdsAt w F l us'
def fdsToks (comma meth:Bool):Bool→List Fd→List Int
 | _,[]=>[]
 | first,d::l=>(if comma && !first then [d.c] else [])++(d.toks meth++fdsToks comma meth false l)
theorem Fs.nds_fds (f:Fs):f.nds=f.fds.map Fd.nd:=by
 match f with
 | .nil=>rfl
 | .cons c ns t tp tag l=>simp [Fs.nds,Fs.fds,Fd.nd,fdNd,Fs.nds_fds l]
theorem Fs.toks_fds (comma first meth:Bool) (f:Fs):f.toks comma first meth=fdsToks comma meth first f.fds:=by
 match f with
 | .nil=>rfl
 | .cons c ns t tp tag l=>simp [Fs.toks,Fs.fds,fdsToks,Fd.toks,Fs.toks_fds comma false meth l]
theorem Fs.ok_fds (meth:Bool) (f:Fs):f.ok meth↔∀ d∈f.fds,d.ok meth:=by
 match f with
 | .nil=>simp [Fs.ok,Fs.fds]
 | .cons c ns t tp tag l =>
  simp only [Fs.ok,Fs.fds,List.mem_cons,forall_eq_or_imp,Fs.ok_fds meth l,Fd.ok]
  constructor
  ·rintro ⟨h1,h2,h3,h4,h5,h6⟩;exact ⟨⟨h1,h2,h3,h4,h5⟩,h6⟩
  ·rintro ⟨⟨h1,h2,h3,h4,h5⟩,h6⟩;exact ⟨h1,h2,h3,h4,h5,h6⟩
theorem Fs.at_fds (w:World) (F:Nat→Prop) (f:Fs) (us:List Value):f.At w F us↔FdsAt w F f.fds us:=by
 match f with
 | .nil=>simp [Fs.At,Fs.fds,FdsAt]
 | .cons c ns t tp tag l =>
  simp only [Fs.At,Fs.fds,FdsAt,Fd.at,FdAt,Fs.at_fds w F l]
  constructor
  ·rintro ⟨u,us',s,vs,v,g,rfl,h1,h2,h3,h4,h5,h6⟩
   exact ⟨u,us',rfl,⟨s,vs,v,g,h1,h2,h3,h4,h5⟩,h6⟩
  ·rintro ⟨u,us',rfl,⟨s,vs,v,g,h1,h2,h3,h4,h5⟩,h6⟩
   exact ⟨u,us',s,vs,v,g,rfl,h1,h2,h3,h4,h5,h6⟩
theorem Fd.at.on {w w':World} {F F' S:Nat→Prop} {d:Fd} {u:Value} (h:d.at w F u) (hk:Kp S w w') (hs:∀ b,b < w.heap.size→F b→¬ S b∧F' b):d.at w' F' u:=by
 obtain ⟨s,vs,v,g,h1,h2,h3,h4,h5⟩:=h
 have st:=Stay.of_kp hk hs
 refine ⟨s,vs,v,g,h1.stay st,h2.stay st,NmsAt.stay st _ _ h3,Ty.At.stay st _ _ h4,?_⟩
 split at h5
 ·rename_i hz;rw [if_pos hz];exact h5
 ·rename_i hz;rw [if_neg hz];exact Blk.stay h5 st
theorem Fd.at.ptr {w:World} {F:Nat→Prop} {d:Fd} {u:Value} (h:d.at w F u):∃ b,u=.pointer (some ⟨b,0,none⟩):=by
 obtain ⟨s,vs,v,g,⟨b,h,_⟩,_⟩:=h;exact ⟨b,h⟩
theorem FdsAt.stay {w w':World} {F F':Nat→Prop} (hs:Stay F F' w w'):∀ (l:List Fd) (us:List Value),FdsAt w F l us→FdsAt w' F' l us
 | [],_,h=>h
 | d::l,_,h=>by
  obtain ⟨u,us',rfl,h1,h2⟩:=h
  refine ⟨u,us',rfl,?_,FdsAt.stay hs l us' h2⟩
  obtain ⟨s,vs,v,g,h1,h2,h3,h4,h5⟩:=h1
  refine ⟨s,vs,v,g,h1.stay hs,h2.stay hs,NmsAt.stay hs _ _ h3,Ty.At.stay hs _ _ h4,?_⟩
  split at h5
  ·rename_i hz;rw [if_pos hz];exact h5
  ·rename_i hz;rw [if_neg hz];exact Blk.stay h5 hs
theorem FdsAt.snoc {w:World} {F:Nat→Prop}:∀ (l:List Fd) (us:List Value) (d:Fd) (u:Value),FdsAt w F l us→d.at w F u→FdsAt w F (l++[d]) (us++[u])
 | [],us,n,u,h,hu=>by
  obtain rfl:us=[]:=h
  exact ⟨u,[],rfl,hu,rfl⟩
 | m::l,us,n,u,h,hu=>by
  obtain ⟨v,us',rfl,h1,h2⟩:=h
  exact ⟨v,us'++[u],rfl,h1,FdsAt.snoc l us' n u h2 hu⟩
theorem FdsAt.length {w:World} {F:Nat→Prop}:∀ (l:List Fd) (us:List Value),FdsAt w F l us→us.length=l.length
 | [],us,h=>by obtain rfl:us=[]:=h;rfl
 | m::l,us,h=>by
  obtain ⟨v,us',rfl,_,h2⟩:=h
  simp [FdsAt.length l us' h2]
theorem Nd.size_pos0 (n:Nd):1≤n.size:=by cases n;simp only [Nd.size];omega
theorem Nd.sizeL_length (l:List Nd):l.length≤Nd.sizeL l:=by
 induction l with
 | nil=>simp
 | cons n l ih=>have:=n.size_pos0;simp only [lc_,Nd.sizeL];omega
theorem Nd.sizeL_mem {l:List Nd} {n:Nd} (h:n∈l):n.size≤Nd.sizeL l:=by
 induction l with
 | nil=>cases h
 | cons m l ih =>
  simp only [Nd.sizeL]
  rcases List.mem_cons.1 h with rfl | h
  ·omega
  ·have:=ih h;omega
theorem field_c (ns:List Nm) (t:Ty) (tp:Int) (tag:ByteArray) (hE:ExprP t) (hS:SigP t):FieldP ns t tp tag:=by
 intro w B bb s meth l hB hn hBb hno hok hp hts hsz
 by_cases ht:tag.size=0
 ·rw [if_pos ht] at hB
  cases ns with
  | nil =>
   simp only [List.isEmpty_nil,Bool.not_true,Bool.and_false] at hB hok
   cases meth with
   | false=>exact field_efx_c t tp tag hE ht w B bb s l hB hn hBb hok hp hts hsz
   | true=>exact field_emx_c t tp tag hE ht w B bb s l hB hn hBb hok hp hts hsz
  | cons n ns =>
   simp only [List.isEmpty_cons,Bool.not_false,Bool.and_true] at hB hok
   cases meth with
   | false=>exact field_nfx_c n ns t tp tag hE ht w B bb s l hB hn hBb hok hp hts hsz
   | true=>exact field_nmx_c n ns t tp tag hS ht w B bb s l hB hn hBb hok hp hts hsz
 ·rw [if_neg ht] at hB
  cases ns with
  | nil =>
   simp only [List.isEmpty_nil,Bool.not_true,Bool.and_false] at hB hok
   cases meth with
   | false=>exact field_eft_c t tp tag hE ht w B bb s l hB hn hBb hok hp hts hsz
   | true=>exact field_emt_c t tp tag hE ht w B bb s l hB hn hBb hok hp hts hsz
  | cons n ns =>
   simp only [List.isEmpty_cons,Bool.not_false,Bool.and_true] at hB hok
   cases meth with
   | false=>exact field_nft_c n ns t tp tag hE ht w B bb s l hB hn hBb hok hp hts hsz
   | true=>exact field_nmt_c n ns t tp tag hS ht w B bb s l hB hn hBb hok hp hts hsz
end
end Go.Proofs.YtnkbglhdpmbgfaaGreatFmt
