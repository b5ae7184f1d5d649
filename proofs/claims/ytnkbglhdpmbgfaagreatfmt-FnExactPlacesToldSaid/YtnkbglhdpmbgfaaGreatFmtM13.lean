/- A part of the proof; no condition: BSig, KName, KList, KField. -/
import Derived.Test.YtnkbglhdpmbgfaaGreatFmtM
import Derived.Test.YtnkbglhdpmbgfaaGreatFmtM04
import Derived.Test.YtnkbglhdpmbgfaaGreatFmtM00
set_option linter.all false
set_option maxHeartbeats 16000000
set_option maxRecDepth 100000
namespace Go.Proofs.YtnkbglhdpmbgfaaGreatFmt
section
open Go Go.RowKit
theorem paramsmiss_c (w:World) (v u:Value) (s t:ByteArray) (hs:s=⟨#[110,111,110,101]⟩):Calls Tryz.prog 40 #[v,.agg #[.string s,.string t,u]] w fun e w'=>e=.returned (.pointer none)∧Kp No w w':=by
 subst hs
 go_enter Tryz.func40,Tryz.ntmps40
 go_wp2_with fail
 go_ret
 exact ⟨rfl,(Kp.refl No _).alloc _⟩
theorem sigf_c (p o:Int) (ps:Fs) (c o':Int) (rs:Fs) (c':Int) (hp:ParamsP ps) (w:World) (B bb:Nat) (s:Value) (l:List Int) (hB:Bld w bb (o::(ps.toks true true false++c::l))) (hn:(Ty.sig p o ps c false o' rs c').nd.In w B s) (hBb:B≤bb) (hok:ps.ok false) (hsz:(Ty.sig p o ps c false o' rs c').nd.size≤400) :
 Calls Tryz.prog 43 #[.pointer (some ⟨bb,0,none⟩),.agg #[.string (Ty.sig p o ps c false o' rs c').nd.k,.string (Ty.sig p o ps c false o' rs c').nd.t,s],.int .i64 p] w fun e w'=>(∃ v,e=.returned v∧(Ty.sig p o ps c false o' rs c').At w' (Fr w.heap.size) v)∧Bld w' bb l∧Kp (On bb) w w':=by
 simp [Ty.nd,fl,Nd.miss,Nd.size,Nd.sizeL] at hsz
 have hlt:=hB.lt
 have HB0:=hd_ hB
 obtain ⟨q,c0,rfl,_⟩:=hn.form
 have HL:=hd_ (Nd.In_iff.1 hn)
 have HO:=hd_ hok
 have HS:=hd_ hsz
 simp [Ty.nd,Nd.k,Nd.t,Nd.l] at HL ⊢
 have HP:=hd_ hp
 clear hn hB hok hsz hp
 go_enter Tryz.func43,Tryz.ntmps43
 go_wp2_with fail
 refine (kid_c _ B _ _ _ _ 0 (fl ps.nds) (HL.out.below ((((Kp.refl (On (w.heap.size+1)) w).alloc _).alloc _).mono (S':=On bb) (by intro i hi h;omega)) (by omega) (fun b hb=>On.not' (by omega))) (by decide) rfl).mono ?_
 rintro e w1 ⟨⟨u1,rfl,hu1⟩,hK1⟩
 have sz1:w.heap.size≤w1.heap.size:=by have:=hK1.size;(try simp at this);omega
 have KT1:Kp (fun k=>k=bb∨k=(w.heap.size+1)) w w1:=(((Kp.refl (fun k=>k=bb∨k=(w.heap.size+1)) w).alloc _).alloc _).trans hK1 (by intro i hi h;first | exact (h:False).elim | omega)
 have hB1:=(HB0.out.on (((Kp.refl (On (w.heap.size+1)) w).alloc _).alloc _) (by omega)).no hK1
 obtain ⟨xb1,x0,x1,x2,xs⟩:=box3 (allocOf (newOf w _) _) hK1 (by exact id)
 have HX1:=hd_ xb1;clear xb1
 have xk1:w1.heap[(w.heap.size+1)]?=some (.cells #[.int .i64 p,.pointer none,.pointer none,.pointer none] 109 (0,0)):=hK1.at (newOf2 w _ _) (by exact id)
 have z0:=cO xk1 0 _ rfl;have f0:=fO xk1 0
 have z1:=cO xk1 1 _ rfl;have f1:=fO xk1 1
 have z2:=cO xk1 2 _ rfl;have f2:=fO xk1 2
 have z3:=cO xk1 3 _ rfl;have f3:=fO xk1 3
 have zs1:=ltb xk1
 have HP1:=hd_ xk1;clear xk1
 have k1:Kp (On bb) w w1:=KT1.mono (by intro i hi h;omega)
 have HK1:=hd_ k1;clear k1 KT1
 have HB1:=hd_ hB1;clear hB1 HB0
 have szw1:w.heap.size≤w1.heap.size:=by omega
 have HU1:=hd_ (hu1.below hK1 (by (try simp);omega) (fun _ _ h=>h.elim));clear hu1 hK1
 go_wp2_with fail
 refine (HP.out _ B bb _ o c (l) (HB1.out.on (Kp.refl (On (w.heap.size+1)) w1) (by omega)) (Nd.In_iff.1 HU1.out) hBb HO.out (by have:=HS.out;omega)).mono ?_
 rintro e w2 ⟨⟨v,rfl,hv2⟩,hB2,hK2⟩
 have sz2:w1.heap.size≤w2.heap.size:=by have:=hK2.size;(try simp at this);omega
 have KT2:Kp (fun k=>k=bb∨k=(w.heap.size+1)) w1 w2:=(Kp.refl (fun k=>k=bb∨k=(w.heap.size+1)) w1).trans hK2 (by intro i hi h;first | exact (h:False).elim | omega)
 obtain ⟨xb2,x0,x1,x2,xs⟩:=box3 HX1.out KT2 (by omega)
 clear HX1
 have HX2:=hd_ xb2;clear xb2
 clear z0 f0 z1 f1 z2 f2 z3 f3
 have xk2:w2.heap[(w.heap.size+1)]?=some (.cells #[.int .i64 p,.pointer none,.pointer none,.pointer none] 109 (0,0)):=hK2.at HP1.out (by exact On.not (by omega))
 have z0:=cO xk2 0 _ rfl;have f0:=fO xk2 0
 have z1:=cO xk2 1 _ rfl;have f1:=fO xk2 1
 have z2:=cO xk2 2 _ rfl;have f2:=fO xk2 2
 have z3:=cO xk2 3 _ rfl;have f3:=fO xk2 3
 have zs2:=ltb xk2
 have HP2:=hd_ xk2;clear xk2 HP1
 have hw2:FlAt w2 (Av (w1.heap.size) ((w.heap.size+1))) o ps c v:=hv2.on (Kp.refl No _) (by intro b hb hF;(try simp at hF);exact ⟨id,by omega⟩)
 clear hv2
 obtain ⟨vb,rfl⟩:=hw2.ptr
 have HV2:=hd_ hw2;clear hw2
 have k2:Kp (On bb) w w2:=HK1.out.trans KT2 (by intro i hi h;omega)
 clear HK1
 have HK2:=hd_ k2;clear k2 KT2
 have HB2:=hd_ hB2;clear hB2 HB1
 have szw2:w.heap.size≤w2.heap.size:=by omega
 clear hK2 HU1
 go_wp2_with fail
 refine (kid_c _ B _ _ _ _ 1 (Nd.miss) (HL.out.below (HK2.out.trans ((Kp.refl (On (w.heap.size+1)) w2).setCell (p:=⟨(w.heap.size+1),2,none⟩) (fun _=>rfl) _) (by intro i hi h;omega)) (by omega) (fun b hb=>On.not' (by omega))) (by decide) rfl).mono ?_
 rintro e w3 ⟨⟨u3,rfl,hu3⟩,hK3⟩
 have sz3:w2.heap.size≤w3.heap.size:=by have:=hK3.size;(try simp at this);omega
 have KT3:Kp (fun k=>k=bb∨k=(w.heap.size+1)) w2 w3:=((Kp.refl (fun k=>k=bb∨k=(w.heap.size+1)) w2).setCell (p:=⟨(w.heap.size+1),2,none⟩) (fun _=>.inr rfl) _).trans hK3 (by intro i hi h;first | exact (h:False).elim | omega)
 have hB3:=(HB2.out.on ((Kp.refl (On (w.heap.size+1)) w2).setCell (p:=⟨(w.heap.size+1),2,none⟩) (fun _=>rfl) _) (by omega)).no hK3
 obtain ⟨xb3,x0,x1,x2,xs⟩:=box3 HX2.out KT3 (by omega)
 clear HX2
 have HX3:=hd_ xb3;clear xb3
 clear z0 f0 z1 f1 z2 f2 z3 f3
 have xk3:w3.heap[(w.heap.size+1)]?=some (.cells #[.int .i64 p,.pointer none,(.pointer (some ⟨vb,0,none⟩)),.pointer none] 109 (0,0)):=hK3.at (setOf HP2.out 2 _) (by exact id)
 have z0:=cO xk3 0 _ rfl;have f0:=fO xk3 0
 have z1:=cO xk3 1 _ rfl;have f1:=fO xk3 1
 have z2:=cO xk3 2 _ rfl;have f2:=fO xk3 2
 have z3:=cO xk3 3 _ rfl;have f3:=fO xk3 3
 have zs3:=ltb xk3
 have HP3:=hd_ xk3;clear xk3 HP2
 have HV2_3:FlAt w3 (Av (w1.heap.size) ((w.heap.size+1))) o ps c (.pointer (some ⟨vb,0,none⟩)):=HV2.out.on KT3 (by intro b hb hF;omega)
 have HV2n3:=hd_ HV2_3;clear HV2_3 HV2
 have k3:Kp (On bb) w w3:=HK2.out.trans KT3 (by intro i hi h;omega)
 clear HK2
 have HK3:=hd_ k3;clear k3 KT3
 have HB3:=hd_ hB3;clear hB3 HB2
 have szw3:w.heap.size≤w3.heap.size:=by omega
 have HU3:=hd_ (hu3.below hK3 (by (try simp);omega) (fun _ _ h=>h.elim));clear hu3 hK3
 go_wp2_with fail
 refine (paramsmiss_c _ _ _ _ _ rfl).mono ?_
 rintro e w4 ⟨rfl,hK4⟩
 have sz4:w3.heap.size≤w4.heap.size:=by have:=hK4.size;(try simp at this);omega
 have KT4:Kp (fun k=>k=bb∨k=(w.heap.size+1)) w3 w4:=(Kp.refl (fun k=>k=bb∨k=(w.heap.size+1)) w3).trans hK4 (by intro i hi h;first | exact (h:False).elim | omega)
 have hB4:=(HB3.out.on (Kp.refl (On (w.heap.size+1)) w3) (by omega)).no hK4
 obtain ⟨xb4,x0,x1,x2,xs⟩:=box3 HX3.out KT4 (by omega)
 clear HX3
 have HX4:=hd_ xb4;clear xb4
 clear z0 f0 z1 f1 z2 f2 z3 f3
 have xk4:w4.heap[(w.heap.size+1)]?=some (.cells #[.int .i64 p,.pointer none,(.pointer (some ⟨vb,0,none⟩)),.pointer none] 109 (0,0)):=hK4.at HP3.out (by exact id)
 have z0:=cO xk4 0 _ rfl;have f0:=fO xk4 0
 have z1:=cO xk4 1 _ rfl;have f1:=fO xk4 1
 have z2:=cO xk4 2 _ rfl;have f2:=fO xk4 2
 have z3:=cO xk4 3 _ rfl;have f3:=fO xk4 3
 have zs4:=ltb xk4
 have HP4:=hd_ xk4;clear xk4 HP3
 have HV2n3_4:FlAt w4 (Av (w1.heap.size) ((w.heap.size+1))) o ps c (.pointer (some ⟨vb,0,none⟩)):=HV2n3.out.on KT4 (by intro b hb hF;omega)
 have HV2n3n4:=hd_ HV2n3_4;clear HV2n3_4 HV2n3
 have k4:Kp (On bb) w w4:=HK3.out.trans KT4 (by intro i hi h;omega)
 clear HK3
 have HK4:=hd_ k4;clear k4 KT4
 have HB4:=hd_ hB4;clear hB4 HB3
 have szw4:w.heap.size≤w4.heap.size:=by omega
 clear hK4 HU3
 go_wp2_with fail
 go_ret
 refine ⟨⟨_,rfl,?_⟩,(HB4.out.on ((Kp.refl (On (w.heap.size+1)) w4).setCell (p:=⟨(w.heap.size+1),3,none⟩) (fun _=>rfl) _) (by omega)),(HK4.out.trans ((Kp.refl (On (w.heap.size+1)) w4).setCell (p:=⟨(w.heap.size+1),3,none⟩) (fun _=>rfl) _) (by intro i hi h;omega))⟩
 simp only [Ty.At,if_true,Bool.false_eq_true,if_false]
 exact ⟨_,_,⟨_,rfl,by omega,(setOf HP4.out 3 _)⟩,HV2n3n4.out.on ((Kp.refl (On (w.heap.size+1)) w4).setCell (p:=⟨(w.heap.size+1),3,none⟩) (fun _=>rfl) _) (by intro b hb hF;omega),rfl⟩
theorem sigt_c (p o:Int) (ps:Fs) (c o':Int) (rs:Fs) (c':Int) (hp:ParamsP ps) (hr:ParamsP rs) (w:World) (B bb:Nat) (s:Value) (l:List Int) (hB:Bld w bb (o::(ps.toks true true false++c::(o'::(rs.toks true true false++c'::l))))) (hn:(Ty.sig p o ps c true o' rs c').nd.In w B s) (hBb:B≤bb) (hok:ps.ok false∧rs.ok false) (hsz:(Ty.sig p o ps c true o' rs c').nd.size≤400) :
 Calls Tryz.prog 43 #[.pointer (some ⟨bb,0,none⟩),.agg #[.string (Ty.sig p o ps c true o' rs c').nd.k,.string (Ty.sig p o ps c true o' rs c').nd.t,s],.int .i64 p] w fun e w'=>(∃ v,e=.returned v∧(Ty.sig p o ps c true o' rs c').At w' (Fr w.heap.size) v)∧Bld w' bb l∧Kp (On bb) w w':=by
 simp [Ty.nd,fl,Nd.miss,Nd.size,Nd.sizeL] at hsz
 have hlt:=hB.lt
 have HB0:=hd_ hB
 obtain ⟨q,c0,rfl,_⟩:=hn.form
 have HL:=hd_ (Nd.In_iff.1 hn)
 have HO:=hd_ hok
 have HS:=hd_ hsz
 simp [Ty.nd,Nd.k,Nd.t,Nd.l] at HL ⊢
 have HP:=hd_ hp
 have HR:=hd_ hr
 clear hn hB hok hsz hp hr
 go_enter Tryz.func43,Tryz.ntmps43
 go_wp2_with fail
 refine (kid_c _ B _ _ _ _ 0 (fl ps.nds) (HL.out.below ((((Kp.refl (On (w.heap.size+1)) w).alloc _).alloc _).mono (S':=On bb) (by intro i hi h;omega)) (by omega) (fun b hb=>On.not' (by omega))) (by decide) rfl).mono ?_
 rintro e w1 ⟨⟨u1,rfl,hu1⟩,hK1⟩
 have sz1:w.heap.size≤w1.heap.size:=by have:=hK1.size;(try simp at this);omega
 have KT1:Kp (fun k=>k=bb∨k=(w.heap.size+1)) w w1:=(((Kp.refl (fun k=>k=bb∨k=(w.heap.size+1)) w).alloc _).alloc _).trans hK1 (by intro i hi h;first | exact (h:False).elim | omega)
 have hB1:=(HB0.out.on (((Kp.refl (On (w.heap.size+1)) w).alloc _).alloc _) (by omega)).no hK1
 obtain ⟨xb1,x0,x1,x2,xs⟩:=box3 (allocOf (newOf w _) _) hK1 (by exact id)
 have HX1:=hd_ xb1;clear xb1
 have xk1:w1.heap[(w.heap.size+1)]?=some (.cells #[.int .i64 p,.pointer none,.pointer none,.pointer none] 109 (0,0)):=hK1.at (newOf2 w _ _) (by exact id)
 have z0:=cO xk1 0 _ rfl;have f0:=fO xk1 0
 have z1:=cO xk1 1 _ rfl;have f1:=fO xk1 1
 have z2:=cO xk1 2 _ rfl;have f2:=fO xk1 2
 have z3:=cO xk1 3 _ rfl;have f3:=fO xk1 3
 have zs1:=ltb xk1
 have HP1:=hd_ xk1;clear xk1
 have k1:Kp (On bb) w w1:=KT1.mono (by intro i hi h;omega)
 have HK1:=hd_ k1;clear k1 KT1
 have HB1:=hd_ hB1;clear hB1 HB0
 have szw1:w.heap.size≤w1.heap.size:=by omega
 have HU1:=hd_ (hu1.below hK1 (by (try simp);omega) (fun _ _ h=>h.elim));clear hu1 hK1
 go_wp2_with fail
 refine (HP.out _ B bb _ o c (o'::(rs.toks true true false++c'::l)) (HB1.out.on (Kp.refl (On (w.heap.size+1)) w1) (by omega)) (Nd.In_iff.1 HU1.out) hBb HO.out.1 (by have:=HS.out;omega)).mono ?_
 rintro e w2 ⟨⟨v,rfl,hv2⟩,hB2,hK2⟩
 have sz2:w1.heap.size≤w2.heap.size:=by have:=hK2.size;(try simp at this);omega
 have KT2:Kp (fun k=>k=bb∨k=(w.heap.size+1)) w1 w2:=(Kp.refl (fun k=>k=bb∨k=(w.heap.size+1)) w1).trans hK2 (by intro i hi h;first | exact (h:False).elim | omega)
 obtain ⟨xb2,x0,x1,x2,xs⟩:=box3 HX1.out KT2 (by omega)
 clear HX1
 have HX2:=hd_ xb2;clear xb2
 clear z0 f0 z1 f1 z2 f2 z3 f3
 have xk2:w2.heap[(w.heap.size+1)]?=some (.cells #[.int .i64 p,.pointer none,.pointer none,.pointer none] 109 (0,0)):=hK2.at HP1.out (by exact On.not (by omega))
 have z0:=cO xk2 0 _ rfl;have f0:=fO xk2 0
 have z1:=cO xk2 1 _ rfl;have f1:=fO xk2 1
 have z2:=cO xk2 2 _ rfl;have f2:=fO xk2 2
 have z3:=cO xk2 3 _ rfl;have f3:=fO xk2 3
 have zs2:=ltb xk2
 have HP2:=hd_ xk2;clear xk2 HP1
 have hw2:FlAt w2 (Av (w1.heap.size) ((w.heap.size+1))) o ps c v:=hv2.on (Kp.refl No _) (by intro b hb hF;(try simp at hF);exact ⟨id,by omega⟩)
 clear hv2
 obtain ⟨vb,rfl⟩:=hw2.ptr
 have HV2:=hd_ hw2;clear hw2
 have k2:Kp (On bb) w w2:=HK1.out.trans KT2 (by intro i hi h;omega)
 clear HK1
 have HK2:=hd_ k2;clear k2 KT2
 have HB2:=hd_ hB2;clear hB2 HB1
 have szw2:w.heap.size≤w2.heap.size:=by omega
 clear hK2 HU1
 go_wp2_with fail
 refine (kid_c _ B _ _ _ _ 1 (fl rs.nds) (HL.out.below (HK2.out.trans ((Kp.refl (On (w.heap.size+1)) w2).setCell (p:=⟨(w.heap.size+1),2,none⟩) (fun _=>rfl) _) (by intro i hi h;omega)) (by omega) (fun b hb=>On.not' (by omega))) (by decide) rfl).mono ?_
 rintro e w3 ⟨⟨u3,rfl,hu3⟩,hK3⟩
 have sz3:w2.heap.size≤w3.heap.size:=by have:=hK3.size;(try simp at this);omega
 have KT3:Kp (fun k=>k=bb∨k=(w.heap.size+1)) w2 w3:=((Kp.refl (fun k=>k=bb∨k=(w.heap.size+1)) w2).setCell (p:=⟨(w.heap.size+1),2,none⟩) (fun _=>.inr rfl) _).trans hK3 (by intro i hi h;first | exact (h:False).elim | omega)
 have hB3:=(HB2.out.on ((Kp.refl (On (w.heap.size+1)) w2).setCell (p:=⟨(w.heap.size+1),2,none⟩) (fun _=>rfl) _) (by omega)).no hK3
 obtain ⟨xb3,x0,x1,x2,xs⟩:=box3 HX2.out KT3 (by omega)
 clear HX2
 have HX3:=hd_ xb3;clear xb3
 clear z0 f0 z1 f1 z2 f2 z3 f3
 have xk3:w3.heap[(w.heap.size+1)]?=some (.cells #[.int .i64 p,.pointer none,(.pointer (some ⟨vb,0,none⟩)),.pointer none] 109 (0,0)):=hK3.at (setOf HP2.out 2 _) (by exact id)
 have z0:=cO xk3 0 _ rfl;have f0:=fO xk3 0
 have z1:=cO xk3 1 _ rfl;have f1:=fO xk3 1
 have z2:=cO xk3 2 _ rfl;have f2:=fO xk3 2
 have z3:=cO xk3 3 _ rfl;have f3:=fO xk3 3
 have zs3:=ltb xk3
 have HP3:=hd_ xk3;clear xk3 HP2
 have HV2_3:FlAt w3 (Av (w1.heap.size) ((w.heap.size+1))) o ps c (.pointer (some ⟨vb,0,none⟩)):=HV2.out.on KT3 (by intro b hb hF;omega)
 have HV2n3:=hd_ HV2_3;clear HV2_3 HV2
 have k3:Kp (On bb) w w3:=HK2.out.trans KT3 (by intro i hi h;omega)
 clear HK2
 have HK3:=hd_ k3;clear k3 KT3
 have HB3:=hd_ hB3;clear hB3 HB2
 have szw3:w.heap.size≤w3.heap.size:=by omega
 have HU3:=hd_ (hu3.below hK3 (by (try simp);omega) (fun _ _ h=>h.elim));clear hu3 hK3
 go_wp2_with fail
 refine (HR.out _ B bb _ o' c' (l) (HB3.out.on (Kp.refl (On (w.heap.size+1)) w3) (by omega)) (Nd.In_iff.1 HU3.out) hBb HO.out.2 (by have:=HS.out;omega)).mono ?_
 rintro e w4 ⟨⟨v1,rfl,hv4⟩,hB4,hK4⟩
 have sz4:w3.heap.size≤w4.heap.size:=by have:=hK4.size;(try simp at this);omega
 have KT4:Kp (fun k=>k=bb∨k=(w.heap.size+1)) w3 w4:=(Kp.refl (fun k=>k=bb∨k=(w.heap.size+1)) w3).trans hK4 (by intro i hi h;first | exact (h:False).elim | omega)
 obtain ⟨xb4,x0,x1,x2,xs⟩:=box3 HX3.out KT4 (by omega)
 clear HX3
 have HX4:=hd_ xb4;clear xb4
 clear z0 f0 z1 f1 z2 f2 z3 f3
 have xk4:w4.heap[(w.heap.size+1)]?=some (.cells #[.int .i64 p,.pointer none,(.pointer (some ⟨vb,0,none⟩)),.pointer none] 109 (0,0)):=hK4.at HP3.out (by exact On.not (by omega))
 have z0:=cO xk4 0 _ rfl;have f0:=fO xk4 0
 have z1:=cO xk4 1 _ rfl;have f1:=fO xk4 1
 have z2:=cO xk4 2 _ rfl;have f2:=fO xk4 2
 have z3:=cO xk4 3 _ rfl;have f3:=fO xk4 3
 have zs4:=ltb xk4
 have HP4:=hd_ xk4;clear xk4 HP3
 have HV2n3_4:FlAt w4 (Av (w1.heap.size) ((w.heap.size+1))) o ps c (.pointer (some ⟨vb,0,none⟩)):=HV2n3.out.on KT4 (by intro b hb hF;omega)
 have HV2n3n4:=hd_ HV2n3_4;clear HV2n3_4 HV2n3
 have hw4:FlAt w4 (Av (w3.heap.size) ((w.heap.size+1))) o' rs c' v1:=hv4.on (Kp.refl No _) (by intro b hb hF;(try simp at hF);exact ⟨id,by omega⟩)
 clear hv4
 obtain ⟨v1b,rfl⟩:=hw4.ptr
 have HV4:=hd_ hw4;clear hw4
 have k4:Kp (On bb) w w4:=HK3.out.trans KT4 (by intro i hi h;omega)
 clear HK3
 have HK4:=hd_ k4;clear k4 KT4
 have HB4:=hd_ hB4;clear hB4 HB3
 have szw4:w.heap.size≤w4.heap.size:=by omega
 clear hK4 HU3
 go_wp2_with fail
 go_ret
 refine ⟨⟨_,rfl,?_⟩,(HB4.out.on ((Kp.refl (On (w.heap.size+1)) w4).setCell (p:=⟨(w.heap.size+1),3,none⟩) (fun _=>rfl) _) (by omega)),(HK4.out.trans ((Kp.refl (On (w.heap.size+1)) w4).setCell (p:=⟨(w.heap.size+1),3,none⟩) (fun _=>rfl) _) (by intro i hi h;omega))⟩
 simp only [Ty.At,if_true,Bool.false_eq_true,if_false]
 exact ⟨_,_,⟨_,rfl,by omega,(setOf HP4.out 3 _)⟩,HV2n3n4.out.on ((Kp.refl (On (w.heap.size+1)) w4).setCell (p:=⟨(w.heap.size+1),3,none⟩) (fun _=>rfl) _) (by intro b hb hF;omega),HV4.out.on ((Kp.refl (On (w.heap.size+1)) w4).setCell (p:=⟨(w.heap.size+1),3,none⟩) (fun _=>rfl) _) (by intro b hb hF;omega)⟩
theorem sig_c (t:Ty) (hF:∀ f:Fs,f.sz < t.sz→ParamsP f):SigP t:=by
 intro w B bb s p o ps c b o' rs c' l ht hB hn hBb hok hsz
 subst ht
 simp only [Ty.ok,if_true] at hok
 have h1:=hF ps (by simp only [Ty.sz];omega)
 have h2:=hF rs (by simp only [Ty.sz];omega)
 cases b with
 | true =>
  simp only [if_true] at hok
  exact sigt_c p o ps c o' rs c' h1 h2 w B bb s l (by simpa [Ty.toks] using hB) hn hBb ⟨hok.2.2.1,hok.2.2.2.2.2.1⟩ hsz
 | false=>exact sigf_c p o ps c o' rs c' h1 w B bb s l (by simpa [Ty.toks] using hB) hn hBb hok.2.2.1 hsz
theorem Fs.fds_sz:∀ (f:Fs) (d:Fd),d∈f.fds→d.t.sz < f.sz
 | .nil,d,h=>by simp [Fs.fds] at h
 | .cons c ns t tp tag l,d,h=>by
  simp only [Fs.fds,List.mem_cons] at h
  simp only [Fs.sz]
  rcases h with rfl | h
  ·show t.sz < _;omega
  ·have:=Fs.fds_sz l d h;omega
theorem all_c:∀ n:Nat,(∀ t:Ty,t.sz < n→ExprP t∧SigP t)∧(∀ f:Fs,f.sz < n→ParamsP f∧FieldsInP f)
 | 0=>⟨fun _ h=>absurd h (by omega),fun _ h=>absurd h (by omega)⟩
 | n+1=>by
  obtain ⟨ihT,ihF⟩:=all_c n
  have hS:∀ t:Ty,t.sz < n+1→SigP t:=fun t ht=>sig_c t fun f hf=>(ihF f (by omega)).1
  refine ⟨fun t ht=>⟨?_,hS t ht⟩,fun f hf=>?_⟩
  ·cases t with
   | name p s=>exact name_c p s
   | lit p s=>exact lit_c p s
   | sel x d p s=>exact sel_c x d p s (ihT x (by simp only [Ty.sz] at ht;omega)).1
   | star p x=>exact star_c p x (ihT x (by simp only [Ty.sz] at ht;omega)).1
   | sl p q x=>exact sl_c p q x (ihT x (by simp only [Ty.sz] at ht;omega)).1
   | arr p y q x=>exact arr_c p q y x (ihT y (by simp only [Ty.sz] at ht;omega)).1 (ihT x (by simp only [Ty.sz] at ht;omega)).1
   | map p q k r v=>exact map_c p q r k v (ihT k (by simp only [Ty.sz] at ht;omega)).1 (ihT v (by simp only [Ty.sz] at ht;omega)).1
   | ch p x=>exact ch_c p x (ihT x (by simp only [Ty.sz] at ht;omega)).1
   | chs p q x=>exact chs_c p q x (ihT x (by simp only [Ty.sz] at ht;omega)).1
   | chr p q x=>exact chr_c p q x (ihT x (by simp only [Ty.sz] at ht;omega)).1
   | sig p o ps c b o' rs c'=>exact Go.Proofs.YtnkbglhdpmbgfaaGreatFmt.sigty_c p o ps c b o' rs c' (hS _ ht)
   | struct p o f c=>exact struct_c p o f c (ihF f (by simp only [Ty.sz] at ht;omega)).2
   | iface p o f c=>exact iface_c p o f c (ihF f (by simp only [Ty.sz] at ht;omega)).2
  ·have hd:∀ d∈f.fds,FieldP d.ns d.t d.tp d.tag:=fun d hd=>by
    have:=Fs.fds_sz f d hd
    exact field_c d.ns d.t d.tp d.tag (ihT d.t (by omega)).1 (ihT d.t (by omega)).2
   exact ⟨params_c f hd,fieldsIn_c f hd⟩
theorem expr_c (t:Ty):ExprP t:=((all_c (t.sz+1)).1 t (by omega)).1
theorem params_a (f:Fs):ParamsP f:=((all_c (f.sz+1)).2 f (by omega)).1
theorem sig_a (t:Ty):SigP t:=((all_c (t.sz+1)).1 t (by omega)).2
end
section
open Go Go.RowKit
def KR (k:ByteArray) (e:Ending):Prop:=∃ t p n c,e=.returned (.agg #[.string k,.string t,.slice p n c])
abbrev set3 (w:World) (b:Nat) (v0 v1 v2:Value):World:=((w.setCell ⟨b,0,none⟩ v0).setCell ⟨b,1,none⟩ v1).setCell ⟨b,2,none⟩ v2
theorem set3_at {w:World} {b:Nat} {a0 a1 a2 v0 v1 v2:Value} {T:TypeId} (h:w.heap[b]?=some (.cells #[a0,a1,a2] T (0,0))):(set3 w b v0 v1 v2).heap[b]?=some (.cells #[v0,v1,v2] T (0,0)) :=
 setOf (setOf (setOf h 0 v0) 1 v1) 2 v2
theorem set3_kp (w:World) (b:Nat) (v0 v1 v2:Value):Kp (On b) w (set3 w b v0 v1 v2) :=
 (((Kp.refl (On b) w).setCell (p:=⟨b,0,none⟩) (fun _=>rfl) _).setCell (p:=⟨b,1,none⟩) (fun _=>rfl) _).setCell (p:=⟨b,2,none⟩) (fun _=>rfl) _
theorem kname_c (w:World) (F:Nat→Prop) (p:Int) (s:ByteArray) (u:Value) (h:IdAt w F p s u):Calls Tryz.prog 68 #[u] w fun e w'=>KR ⟨#[110,97,109,101]⟩ e∧Kp No w w':=by
 obtain ⟨b,rfl,_,hb⟩:=h
 have c1:=cO hb 1 _ rfl
 have l:=ltb hb
 obtain ⟨q1,q2,q3,q4,q5⟩:=lts l
 go_enter Tryz.func68,Tryz.ntmps68
 go_wp2_with fail
 refine bodyPost_ret (v:=.agg #[.string ⟨#[110,97,109,101]⟩,.string s,.slice none 0 0]) (by simp [results,Tryz.results68,go_sem]) rfl ⟨⟨_,_,_,_,rfl⟩,?_⟩
 exact (Kp.refl No _).alloc _
end
section
open Go Go.RowKit
attribute [local go_sem ↓] Go.wp_at_zero Go.wp_at_succ
def isVal (o:Oper):Bool:=match o.op with | .call { callee:=.value (.tmp _),.. }=>true | _=>false
theorem step_is_value {P:Program} {o:Oper} {a:Act} {w:World} {K:Act→World→Prop} {Q:Exit→Act→World→Prop} {E C:Prop} [Decidable C] (_:isVal o=true) (h:if C then Oper.wp P o a w K Q else E):if C then Oper.wp P o a w K Q else E:=h
theorem node_room {k:Nat} (h:k≤1000):k+1≤maxLen∧(k+1)*Tryz.t24.bytes≤140737488355328:=by
 have hb:Tryz.t24.bytes≤1000:=by decide
 have:=Nat.mul_le_mul (show k+1≤1001 by omega) hb
 exact ⟨by unfold maxLen;omega,by omega⟩
theorem owns_kp {w w':World} {T:TypeId} {z:Nat} {v:Value} {n:Nat} {us:List Value} (h:w.ownsRow 0 T z v n us) (hk:∀ g,v.ownBlock=some g→w'.heap[g]?=w.heap[g]?):w'.ownsRow 0 T z v n us:=by
 obtain ⟨h1,h⟩:=h
 refine ⟨h1,?_⟩
 rcases h with h | ⟨g,cap,cur,rfl,h0,hg,h2⟩
 ·exact .inl h
 ·exact .inr ⟨g,cap,cur,rfl,h0,(hk g rfl).trans hg,h2⟩
theorem owns_lt {w:World} {T:TypeId} {z:Nat} {v:Value} {n:Nat} {us:List Value} (h:w.ownsRow 0 T z v n us):∀ g,v.ownBlock=some g→g < w.heap.size:=by
 intro g hg
 rcases h.2 with ⟨rfl,_⟩ | ⟨g',cap,cur,rfl,h0,hb,h2⟩
 ·simp [Value.ownBlock] at hg
 ·simp only [Value.ownBlock,Option.some.injEq] at hg;subst hg;exact ltb hb
theorem owns_form {w:World} {T:TypeId} {z:Nat} {v:Value} {n:Nat} {us:List Value} (h:w.ownsRow 0 T z v n us):∃ p c,v=.slice p n c:=by
 rcases h.2 with ⟨rfl,h0⟩ | ⟨g',cap,cur,rfl,h0,hb,h2⟩
 ·subst h0;exact ⟨none,0,rfl⟩
 ·exact ⟨_,cap,rfl⟩
def LK (w0:World) (xb:Nat) (kind:ByteArray) (k:Nat) (wr:World):Prop :=
 ∃ v us,wr.heap[xb]?=some (.cells #[.string kind,.string ⟨#[]⟩,v] 24 (0,0))∧wr.ownsRow 0 24 3 v k us∧(∀ g,v.ownBlock=some g→w0.heap.size≤g)∧(∀ u∈us,u.oneCell'=true)∧Kp (On xb) w0 wr
theorem LK.step {w0 wr w2 w3:World} {xb k g cap:Nat} {kind:ByteArray} {us:List Value} {v a b c:Value}
 (hxb:wr.heap[xb]?=some (.cells #[.string kind,.string ⟨#[]⟩,v] 24 (0,0))) (hrow:wr.ownsRow 0 24 3 v k us) (hv0:∀ g,v.ownBlock=some g→w0.heap.size≤g) (h1:∀ u∈us,u.oneCell'=true)
 (hkp:Kp (On xb) w0 wr) (hK2:Kp No wr w2) (hx0:xb < w0.heap.size) (habc:a.oneCell'=true∧b.oneCell'=true∧c.oneCell'=true)
 (hrow3:w3.ownsRow 0 24 3 (.slice (some ⟨g,0,none⟩) (k+1) cap) (k+1) (us++[a,b,c]))
 (hgrow:(w2.alloc (.cells #[a,b,c] 24)).grownBy w3 v.ownBlock) (hat3:v.ownBlock=some g∨g=w2.heap.size+1) :
 LK w0 xb kind (k+1) (w3.setCell ⟨xb,2,none⟩ (.slice (some ⟨g,0,none⟩) (k+1) cap)):=by
 have hs1:=hkp.size
 have hs2:=hK2.size
 have hvb:=owns_lt hrow
 have hk23:Kp (fun b=>v.ownBlock=some b) w2 w3:=((Kp.refl _ w2).alloc _).grown hgrow fun k hk _=>hk
 have hks:Kp (On xb) w3 (w3.setCell ⟨xb,2,none⟩ (.slice (some ⟨g,0,none⟩) (k+1) cap)):=(Kp.refl (On xb) w3).setCell (p:=⟨xb,2,none⟩) (fun _=>rfl) _
 have hgx:w0.heap.size≤g:=by
  rcases hat3 with h | h
  ·exact hv0 _ h
  ·omega
 refine ⟨.slice (some ⟨g,0,none⟩) (k+1) cap,us++[a,b,c],?_,?_,?_,?_,?_⟩
 ·exact setOf (hk23.at (hK2.at hxb id) (fun e=>by have:=hv0 _ e;omega)) 2 _
 ·exact owns_kp hrow3 fun g' hg'=>hks.block g' (owns_lt hrow3 g' hg') (by simp only [Value.ownBlock,Option.some.injEq] at hg';omega)
 ·intro g' hg';simp only [Value.ownBlock,Option.some.injEq] at hg';omega
 ·intro u hu
  simp only [List.mem_append,List.mem_cons,List.not_mem_nil,or_false] at hu
  rcases hu with h | rfl | rfl | rfl
  ·exact h1 u h
  ·exact habc.1
  ·exact habc.2.1
  ·exact habc.2.2
 ·exact ((hkp.trans hK2 fun _ _ h=>h.elim).trans hk23 fun i hi e=>by have:=hv0 _ e;omega).trans hks fun i hi e=>e
def LR3 (w0 w':World) (kind:ByteArray) (n:Nat) (e:Ending):Prop :=
 ∃ v us,e=.returned (.agg #[.string kind,.string ⟨#[]⟩,v])∧w'.ownsRow 0 24 3 v n us∧(∀ g,v.ownBlock=some g→w0.heap.size≤g)∧∀ u∈us,u.oneCell'=true
theorem klistid_c (w:World) (F:Nat→Prop) (kind:ByteArray) (s:Value) (ps:List Value) (hr:Row w F 70 s ps) (hn:ps.length≤400)
 (hE:∀ u∈ps,∀ wr,Kp No w wr→Calls Tryz.prog 68 #[u] wr fun e w'=>(∃ k,KR k e)∧Kp No wr w') (h1:∀ u∈ps,u.oneCell'=true) :
 Calls Tryz.prog 69 #[.string kind,s,.func (.func 68) #[] #[]] w fun e w'=>LR3 w w' kind ps.length e∧Kp No w w':=by
 have HR:=hd_ hr
 have HE:=hd_ hE
 have H1:=hd_ h1
 obtain ⟨sp,sc,rfl⟩:=hr.form
 clear hr hE h1
 go_enter Tryz.func69,Tryz.ntmps69
 go_wp2_with fail
 obtain ⟨w0,hw0⟩:∃ W,(w.alloc (.cells #[.string ⟨#[]⟩,.string ⟨#[]⟩,.slice none 0 0] 24)).alloc (.cells #[.string kind,.string ⟨#[]⟩,.slice none 0 0] 24)=W:=⟨_,rfl⟩
 rw [hw0]
 have hk0:Kp No w w0:=by rw [← hw0];exact ((Kp.refl No w).alloc _).alloc _
 have sz0:w0.heap.size=w.heap.size+2:=by rw [← hw0];simp
 have hb0:w0.heap[w.heap.size]?=some (.cells #[.string ⟨#[]⟩,.string ⟨#[]⟩,.slice none 0 0] 24 (0,0)):=by rw [← hw0];exact allocOf (newOf w _) _
 have hx0:w0.heap[w.heap.size+1]?=some (.cells #[.string kind,.string ⟨#[]⟩,.slice none 0 0] 24 (0,0)):=by rw [← hw0];exact newOf2 w _ _
 have HK0:=hd_ hk0
 have HB0:=hd_ hb0
 have HL:Hid (LK w0 (w.heap.size+1) kind 0 w0):=⟨.slice none 0 0,[],hx0,⟨rfl,.inl ⟨rfl,rfl⟩⟩,by intro g hg;simp [Value.ownBlock] at hg,by simp,Kp.refl _ _⟩
 clear hw0 hk0 hb0 hx0
 go_loopw [9,14] (fun _ i wr=>∃ k:Nat,k≤ps.length∧i=.int .i64 k∧LK w0 (w.heap.size+1) kind k wr) (fun _ i _=>ps.length - (intOf i).toNat)
 case atStart=>exact ⟨0,Nat.zero_le _,rfl,HL.out⟩
 case round =>
  obtain ⟨k,hk,rfl,hr⟩:=hrel
  obtain ⟨v,us,hxk,hrow,hv0,ho,hkp⟩:=hr
  have hsz:=hkp.size
  have xl:=ltb hxk
  by_cases hlt':k < ps.length
  ·have hu:ps[k]?=some ps[k]:=List.getElem?_eq_getElem hlt'
   have hum:ps[k]∈ps:=List.getElem_mem hlt'
   generalize ps[k]=u at hu hum
   have hwr:Kp No w wr:=HK0.out.trans hkp (by intro i hi h;omega)
   obtain ⟨gb,gc,he,hc,_,_,_⟩:=(HR.out.stay (Stay.of_kp (F':=F) hwr fun b _ h=>⟨id,h⟩)).get hu
   cases he
   have gl:=World.block_lt_of_cell? wr _ hc
   simp only at gl
   have u1:=H1.out u hum
   obtain ⟨vp,vc,rfl⟩:=owns_form hrow
   have z2:=cO hxk 2 _ rfl
   have f2:=fO hxk 2
   have HX:=a5_ hxk hrow hv0 ho hkp
   have HV:Hid (∀ g,(Value.slice vp k vc).ownBlock=some g→w0.heap.size≤g∧g < wr.heap.size):=fun g hg=>⟨hv0 g hg,owns_lt hrow g hg⟩
   have FC:=hd_ (HE.out u hum wr.drew hwr.drew)
   have n1:=World.new_ne wr _ z2
   have n2:=World.new_ne wr _ hc
   clear hxk hrow hv0 ho hkp hwr hu hum
   go_wp2_with fail
   go_region_law
    (first
      | (refine step_is_value rfl ?_;go_simp;go_at_call 68;refine FC.out.mono ?_;rintro e w3 ⟨⟨kk,t,p,n,c,rfl⟩,hK3⟩
         have sz3:wr.heap.size≤w3.heap.size:=hK3.size
         have zz2:w3.cell? ⟨w.heap.size+1,2,none⟩=some (.slice vp k vc):=(hK3.cell (show w.heap.size+1 < wr.heap.size by omega) id).trans z2
         have ff2:w3.frozen? ⟨w.heap.size+1,2,none⟩=false:=(hK3.frozen (show w.heap.size+1 < wr.heap.size by omega) id).trans f2
         have gg1:w.heap.size+1 < w3.heap.size:=by omega
         have HO3:Hid ((w3.alloc (.cells #[.string kk,.string t,.slice p n c] 24)).ownsRow 0 24 3 (.slice vp k vc) k us) :=
          owns_kp HX.out.2.1 (fun g hg=>(Below.heap_alloc w3 _ _ (by have:=HV.out g hg;omega)).trans (hK3.block g (show g < wr.heap.size from (HV.out g hg).2) id))
         have HN3:=hd_ (World.news_of_block (newOf w3 (.cells #[.string kk,.string t,.slice p n c] 24)))
         have zc2:=(World.cell?_alloc_past (w:=w3) (.cells #[.string kk,.string t,.slice p n c] 24) (w.heap.size+1) 2 (by omega)).trans zz2
         have fc2:=(World.frozen?_of_block (w:=w3) (a:=⟨w.heap.size+1,2,none⟩) (Below.heap_alloc w3 (.cells #[.string kk,.string t,.slice p n c] 24) (w.heap.size+1) (by omega))).trans ff2
         have lc2:w.heap.size+1 < (w3.alloc (.cells #[.string kk,.string t,.slice p n c] 24)).heap.size:=by rw [World.size_alloc];omega
         have HC:=a3_ zc2 fc2 lc2
         clear zc2 fc2 lc2
         have HL1:=hd_ (node_room (show k≤1000 by omega))
         have H3:=hd_ hK3
         clear hK3)
      | (refine step_is_append rfl ?_
         refine step_append_lies _ (by rfl) (.tmp 19) (.tmp 23) 22 (by rfl) 0 24 Tryz.t24 _ 3 _ Tryz.underlying22 Tryz.type24 rfl rfl rfl rfl (by decide) (.slice vp k vc) k us (by rfl) HO3.out ⟨w3.heap.size,0,none⟩ 1 1 [.string kk,.string t,.slice p n c] (by rfl) (by rfl) HN3.out (by simp [Value.oneCell']) (by decide) HL1.out.1 HL1.out.2 (Nat.zero_le _) (w3.heap.size+1) (by simp) ?_
         intro g cap w4 hrow4 hgrow4 hat4 hlt4
         have q1:some (w.heap.size+1)≠(Value.slice vp k vc).ownBlock:=fun e=>by have:=(HV.out _ e.symm).1;omega
         have zw2:=(hgrow4.cell_far ⟨w.heap.size+1,2,none⟩ HC.out.2.2 q1).trans HC.out.1
         have fw2:=(hgrow4.frozen_far ⟨w.heap.size+1,2,none⟩ HC.out.2.2 q1).trans HC.out.2.1
         have H5:=a3_ hrow4 hgrow4 hat4
         clear hrow4 hgrow4 hat4 q1))
   all_goals
    go_wp2
    go_roundw
    case rel =>
     refine ⟨k+1,by omega,by go_num,?_⟩
     exact LK.step HX.out.1 HX.out.2.1 HX.out.2.2.1 HX.out.2.2.2.1 HX.out.2.2.2.2 ((Kp.refl No wr).drew.trans' H3.out) (by omega) ⟨rfl,rfl,rfl⟩ H5.out.1 H5.out.2.1 H5.out.2.2
    case measure=>simp [intOf];omega
  ·have hkn:k=ps.length:=by omega
   subst hkn
   have x0:=cO hxk 0 _ rfl
   have x1:=cO hxk 1 _ rfl
   have x2:=cO hxk 2 _ rfl
   have hbk:=hkp.at HB0.out (by omega)
   have y0:=cO hbk 0 _ rfl;have g0:=fO hbk 0
   have y1:=cO hbk 1 _ rfl;have g1:=fO hbk 1
   have y2:=cO hbk 2 _ rfl;have g2:=fO hbk 2
   have yl:=ltb hbk
   obtain ⟨vp,vc,rfl⟩:=owns_form hrow
   have HX:=a5_ hxk hrow hv0 ho hkp
   clear hxk hrow hv0 ho hkp hbk
   go_wp2_with fail
   have h3:=set3_at (v0:=.string kind) (v1:=.string ⟨#[]⟩) (v2:=.slice vp ps.length vc) (HX.out.2.2.2.2.at HB0.out (by omega))
   have e0:=cO h3 0 _ rfl;have e1:=cO h3 1 _ rfl;have e2:=cO h3 2 _ rfl
   refine bodyPost_ret (v:=.agg #[.string kind,.string ⟨#[]⟩,.slice vp ps.length vc]) (by simp [results,Tryz.results69,go_sem,e0,e1,e2]) rfl ?_
   obtain ⟨hxk,hrow,hv0,ho,hkp⟩:=HX.out
   have hs:=set3_kp wr w.heap.size (.string kind) (.string ⟨#[]⟩) (.slice vp ps.length vc)
   exact ⟨⟨_,us,rfl,owns_kp hrow fun g hg=>hs.block g (owns_lt hrow g hg) (by have:=hv0 g hg;omega),fun g hg=>by have:=hv0 g hg;omega,ho⟩,(HK0.out.trans hkp (by intro i hi h;omega)).trans hs (by intro i hi h;omega)⟩
theorem klistfl_c (w:World) (F:Nat→Prop) (kind:ByteArray) (s:Value) (ps:List Value) (hr:Row w F 92 s ps) (hn:ps.length≤400)
 (hE:∀ u∈ps,∀ wr,Kp No w wr→Calls Tryz.prog 86 #[u] wr fun e w'=>(∃ k,KR k e)∧Kp No wr w') (h1:∀ u∈ps,u.oneCell'=true) :
 Calls Tryz.prog 85 #[.string kind,s,.func (.func 86) #[] #[]] w fun e w'=>LR3 w w' kind ps.length e∧Kp No w w':=by
 have HR:=hd_ hr
 have HE:=hd_ hE
 have H1:=hd_ h1
 obtain ⟨sp,sc,rfl⟩:=hr.form
 clear hr hE h1
 go_enter Tryz.func85,Tryz.ntmps85
 go_wp2_with fail
 obtain ⟨w0,hw0⟩:∃ W,(w.alloc (.cells #[.string ⟨#[]⟩,.string ⟨#[]⟩,.slice none 0 0] 24)).alloc (.cells #[.string kind,.string ⟨#[]⟩,.slice none 0 0] 24)=W:=⟨_,rfl⟩
 rw [hw0]
 have hk0:Kp No w w0:=by rw [← hw0];exact ((Kp.refl No w).alloc _).alloc _
 have sz0:w0.heap.size=w.heap.size+2:=by rw [← hw0];simp
 have hb0:w0.heap[w.heap.size]?=some (.cells #[.string ⟨#[]⟩,.string ⟨#[]⟩,.slice none 0 0] 24 (0,0)):=by rw [← hw0];exact allocOf (newOf w _) _
 have hx0:w0.heap[w.heap.size+1]?=some (.cells #[.string kind,.string ⟨#[]⟩,.slice none 0 0] 24 (0,0)):=by rw [← hw0];exact newOf2 w _ _
 have HK0:=hd_ hk0
 have HB0:=hd_ hb0
 have HL:Hid (LK w0 (w.heap.size+1) kind 0 w0):=⟨.slice none 0 0,[],hx0,⟨rfl,.inl ⟨rfl,rfl⟩⟩,by intro g hg;simp [Value.ownBlock] at hg,by simp,Kp.refl _ _⟩
 clear hw0 hk0 hb0 hx0
 go_loopw [9,14] (fun _ i wr=>∃ k:Nat,k≤ps.length∧i=.int .i64 k∧LK w0 (w.heap.size+1) kind k wr) (fun _ i _=>ps.length - (intOf i).toNat)
 case atStart=>exact ⟨0,Nat.zero_le _,rfl,HL.out⟩
 case round =>
  obtain ⟨k,hk,rfl,hr⟩:=hrel
  obtain ⟨v,us,hxk,hrow,hv0,ho,hkp⟩:=hr
  have hsz:=hkp.size
  have xl:=ltb hxk
  by_cases hlt':k < ps.length
  ·have hu:ps[k]?=some ps[k]:=List.getElem?_eq_getElem hlt'
   have hum:ps[k]∈ps:=List.getElem_mem hlt'
   generalize ps[k]=u at hu hum
   have hwr:Kp No w wr:=HK0.out.trans hkp (by intro i hi h;omega)
   obtain ⟨gb,gc,he,hc,_,_,_⟩:=(HR.out.stay (Stay.of_kp (F':=F) hwr fun b _ h=>⟨id,h⟩)).get hu
   cases he
   have gl:=World.block_lt_of_cell? wr _ hc
   simp only at gl
   have u1:=H1.out u hum
   obtain ⟨vp,vc,rfl⟩:=owns_form hrow
   have z2:=cO hxk 2 _ rfl
   have f2:=fO hxk 2
   have HX:=a5_ hxk hrow hv0 ho hkp
   have HV:Hid (∀ g,(Value.slice vp k vc).ownBlock=some g→w0.heap.size≤g∧g < wr.heap.size):=fun g hg=>⟨hv0 g hg,owns_lt hrow g hg⟩
   have FC:=hd_ (HE.out u hum wr.drew hwr.drew)
   have n1:=World.new_ne wr _ z2
   have n2:=World.new_ne wr _ hc
   clear hxk hrow hv0 ho hkp hwr hu hum
   go_wp2_with fail
   go_region_law
    (first
      | (refine step_is_value rfl ?_;go_simp;go_at_call 86;refine FC.out.mono ?_;rintro e w3 ⟨⟨kk,t,p,n,c,rfl⟩,hK3⟩
         have sz3:wr.heap.size≤w3.heap.size:=hK3.size
         have zz2:w3.cell? ⟨w.heap.size+1,2,none⟩=some (.slice vp k vc):=(hK3.cell (show w.heap.size+1 < wr.heap.size by omega) id).trans z2
         have ff2:w3.frozen? ⟨w.heap.size+1,2,none⟩=false:=(hK3.frozen (show w.heap.size+1 < wr.heap.size by omega) id).trans f2
         have gg1:w.heap.size+1 < w3.heap.size:=by omega
         have HO3:Hid ((w3.alloc (.cells #[.string kk,.string t,.slice p n c] 24)).ownsRow 0 24 3 (.slice vp k vc) k us) :=
          owns_kp HX.out.2.1 (fun g hg=>(Below.heap_alloc w3 _ _ (by have:=HV.out g hg;omega)).trans (hK3.block g (show g < wr.heap.size from (HV.out g hg).2) id))
         have HN3:=hd_ (World.news_of_block (newOf w3 (.cells #[.string kk,.string t,.slice p n c] 24)))
         have zc2:=(World.cell?_alloc_past (w:=w3) (.cells #[.string kk,.string t,.slice p n c] 24) (w.heap.size+1) 2 (by omega)).trans zz2
         have fc2:=(World.frozen?_of_block (w:=w3) (a:=⟨w.heap.size+1,2,none⟩) (Below.heap_alloc w3 (.cells #[.string kk,.string t,.slice p n c] 24) (w.heap.size+1) (by omega))).trans ff2
         have lc2:w.heap.size+1 < (w3.alloc (.cells #[.string kk,.string t,.slice p n c] 24)).heap.size:=by rw [World.size_alloc];omega
         have HC:=a3_ zc2 fc2 lc2
         clear zc2 fc2 lc2
         have HL1:=hd_ (node_room (show k≤1000 by omega))
         have H3:=hd_ hK3
         clear hK3)
      | (refine step_is_append rfl ?_
         refine step_append_lies _ (by rfl) (.tmp 19) (.tmp 23) 22 (by rfl) 0 24 Tryz.t24 _ 3 _ Tryz.underlying22 Tryz.type24 rfl rfl rfl rfl (by decide) (.slice vp k vc) k us (by rfl) HO3.out ⟨w3.heap.size,0,none⟩ 1 1 [.string kk,.string t,.slice p n c] (by rfl) (by rfl) HN3.out (by simp [Value.oneCell']) (by decide) HL1.out.1 HL1.out.2 (Nat.zero_le _) (w3.heap.size+1) (by simp) ?_
         intro g cap w4 hrow4 hgrow4 hat4 hlt4
         have q1:some (w.heap.size+1)≠(Value.slice vp k vc).ownBlock:=fun e=>by have:=(HV.out _ e.symm).1;omega
         have zw2:=(hgrow4.cell_far ⟨w.heap.size+1,2,none⟩ HC.out.2.2 q1).trans HC.out.1
         have fw2:=(hgrow4.frozen_far ⟨w.heap.size+1,2,none⟩ HC.out.2.2 q1).trans HC.out.2.1
         have H5:=a3_ hrow4 hgrow4 hat4
         clear hrow4 hgrow4 hat4 q1))
   all_goals
    go_wp2
    go_roundw
    case rel =>
     refine ⟨k+1,by omega,by go_num,?_⟩
     exact LK.step HX.out.1 HX.out.2.1 HX.out.2.2.1 HX.out.2.2.2.1 HX.out.2.2.2.2 ((Kp.refl No wr).drew.trans' H3.out) (by omega) ⟨rfl,rfl,rfl⟩ H5.out.1 H5.out.2.1 H5.out.2.2
    case measure=>simp [intOf];omega
  ·have hkn:k=ps.length:=by omega
   subst hkn
   have x0:=cO hxk 0 _ rfl
   have x1:=cO hxk 1 _ rfl
   have x2:=cO hxk 2 _ rfl
   have hbk:=hkp.at HB0.out (by omega)
   have y0:=cO hbk 0 _ rfl;have g0:=fO hbk 0
   have y1:=cO hbk 1 _ rfl;have g1:=fO hbk 1
   have y2:=cO hbk 2 _ rfl;have g2:=fO hbk 2
   have yl:=ltb hbk
   obtain ⟨vp,vc,rfl⟩:=owns_form hrow
   have HX:=a5_ hxk hrow hv0 ho hkp
   clear hxk hrow hv0 ho hkp hbk
   go_wp2_with fail
   have h3:=set3_at (v0:=.string kind) (v1:=.string ⟨#[]⟩) (v2:=.slice vp ps.length vc) (HX.out.2.2.2.2.at HB0.out (by omega))
   have e0:=cO h3 0 _ rfl;have e1:=cO h3 1 _ rfl;have e2:=cO h3 2 _ rfl
   refine bodyPost_ret (v:=.agg #[.string kind,.string ⟨#[]⟩,.slice vp ps.length vc]) (by simp [results,Tryz.results85,go_sem,e0,e1,e2]) rfl ?_
   obtain ⟨hxk,hrow,hv0,ho,hkp⟩:=HX.out
   have hs:=set3_kp wr w.heap.size (.string kind) (.string ⟨#[]⟩) (.slice vp ps.length vc)
   exact ⟨⟨_,us,rfl,owns_kp hrow fun g hg=>hs.block g (owns_lt hrow g hg) (by have:=hv0 g hg;omega),fun g hg=>by have:=hv0 g hg;omega,ho⟩,(HK0.out.trans hkp (by intro i hi h;omega)).trans hs (by intro i hi h;omega)⟩
theorem klistex_c (w:World) (F:Nat→Prop) (kind:ByteArray) (s:Value) (ps:List Value) (hr:Row w F 94 s ps) (hn:ps.length≤400)
 (hE:∀ u∈ps,∀ wr,Kp No w wr→Calls Tryz.prog 48 #[u] wr fun e w'=>(∃ k,KR k e)∧Kp No wr w') (h1:∀ u∈ps,u.oneCell'=true) :
 Calls Tryz.prog 70 #[.string kind,s,.func (.func 48) #[] #[]] w fun e w'=>LR3 w w' kind ps.length e∧Kp No w w':=by
 have HR:=hd_ hr
 have HE:=hd_ hE
 have H1:=hd_ h1
 obtain ⟨sp,sc,rfl⟩:=hr.form
 clear hr hE h1
 go_enter Tryz.func70,Tryz.ntmps70
 go_wp2_with fail
 obtain ⟨w0,hw0⟩:∃ W,(w.alloc (.cells #[.string ⟨#[]⟩,.string ⟨#[]⟩,.slice none 0 0] 24)).alloc (.cells #[.string kind,.string ⟨#[]⟩,.slice none 0 0] 24)=W:=⟨_,rfl⟩
 rw [hw0]
 have hk0:Kp No w w0:=by rw [← hw0];exact ((Kp.refl No w).alloc _).alloc _
 have sz0:w0.heap.size=w.heap.size+2:=by rw [← hw0];simp
 have hb0:w0.heap[w.heap.size]?=some (.cells #[.string ⟨#[]⟩,.string ⟨#[]⟩,.slice none 0 0] 24 (0,0)):=by rw [← hw0];exact allocOf (newOf w _) _
 have hx0:w0.heap[w.heap.size+1]?=some (.cells #[.string kind,.string ⟨#[]⟩,.slice none 0 0] 24 (0,0)):=by rw [← hw0];exact newOf2 w _ _
 have HK0:=hd_ hk0
 have HB0:=hd_ hb0
 have HL:Hid (LK w0 (w.heap.size+1) kind 0 w0):=⟨.slice none 0 0,[],hx0,⟨rfl,.inl ⟨rfl,rfl⟩⟩,by intro g hg;simp [Value.ownBlock] at hg,by simp,Kp.refl _ _⟩
 clear hw0 hk0 hb0 hx0
 go_loopw [9,14] (fun _ i wr=>∃ k:Nat,k≤ps.length∧i=.int .i64 k∧LK w0 (w.heap.size+1) kind k wr) (fun _ i _=>ps.length - (intOf i).toNat)
 case atStart=>exact ⟨0,Nat.zero_le _,rfl,HL.out⟩
 case round =>
  obtain ⟨k,hk,rfl,hr⟩:=hrel
  obtain ⟨v,us,hxk,hrow,hv0,ho,hkp⟩:=hr
  have hsz:=hkp.size
  have xl:=ltb hxk
  by_cases hlt':k < ps.length
  ·have hu:ps[k]?=some ps[k]:=List.getElem?_eq_getElem hlt'
   have hum:ps[k]∈ps:=List.getElem_mem hlt'
   generalize ps[k]=u at hu hum
   have hwr:Kp No w wr:=HK0.out.trans hkp (by intro i hi h;omega)
   obtain ⟨gb,gc,he,hc,_,_,_⟩:=(HR.out.stay (Stay.of_kp (F':=F) hwr fun b _ h=>⟨id,h⟩)).get hu
   cases he
   have gl:=World.block_lt_of_cell? wr _ hc
   simp only at gl
   have u1:=H1.out u hum
   obtain ⟨vp,vc,rfl⟩:=owns_form hrow
   have z2:=cO hxk 2 _ rfl
   have f2:=fO hxk 2
   have HX:=a5_ hxk hrow hv0 ho hkp
   have HV:Hid (∀ g,(Value.slice vp k vc).ownBlock=some g→w0.heap.size≤g∧g < wr.heap.size):=fun g hg=>⟨hv0 g hg,owns_lt hrow g hg⟩
   have FC:=hd_ (HE.out u hum wr.drew hwr.drew)
   have n1:=World.new_ne wr _ z2
   have n2:=World.new_ne wr _ hc
   clear hxk hrow hv0 ho hkp hwr hu hum
   go_wp2_with fail
   go_region_law
    (first
      | (refine step_is_value rfl ?_;go_simp;go_at_call 48;refine FC.out.mono ?_;rintro e w3 ⟨⟨kk,t,p,n,c,rfl⟩,hK3⟩
         have sz3:wr.heap.size≤w3.heap.size:=hK3.size
         have zz2:w3.cell? ⟨w.heap.size+1,2,none⟩=some (.slice vp k vc):=(hK3.cell (show w.heap.size+1 < wr.heap.size by omega) id).trans z2
         have ff2:w3.frozen? ⟨w.heap.size+1,2,none⟩=false:=(hK3.frozen (show w.heap.size+1 < wr.heap.size by omega) id).trans f2
         have gg1:w.heap.size+1 < w3.heap.size:=by omega
         have HO3:Hid ((w3.alloc (.cells #[.string kk,.string t,.slice p n c] 24)).ownsRow 0 24 3 (.slice vp k vc) k us) :=
          owns_kp HX.out.2.1 (fun g hg=>(Below.heap_alloc w3 _ _ (by have:=HV.out g hg;omega)).trans (hK3.block g (show g < wr.heap.size from (HV.out g hg).2) id))
         have HN3:=hd_ (World.news_of_block (newOf w3 (.cells #[.string kk,.string t,.slice p n c] 24)))
         have zc2:=(World.cell?_alloc_past (w:=w3) (.cells #[.string kk,.string t,.slice p n c] 24) (w.heap.size+1) 2 (by omega)).trans zz2
         have fc2:=(World.frozen?_of_block (w:=w3) (a:=⟨w.heap.size+1,2,none⟩) (Below.heap_alloc w3 (.cells #[.string kk,.string t,.slice p n c] 24) (w.heap.size+1) (by omega))).trans ff2
         have lc2:w.heap.size+1 < (w3.alloc (.cells #[.string kk,.string t,.slice p n c] 24)).heap.size:=by rw [World.size_alloc];omega
         have HC:=a3_ zc2 fc2 lc2
         clear zc2 fc2 lc2
         have HL1:=hd_ (node_room (show k≤1000 by omega))
         have H3:=hd_ hK3
         clear hK3)
      | (refine step_is_append rfl ?_
         refine step_append_lies _ (by rfl) (.tmp 19) (.tmp 23) 22 (by rfl) 0 24 Tryz.t24 _ 3 _ Tryz.underlying22 Tryz.type24 rfl rfl rfl rfl (by decide) (.slice vp k vc) k us (by rfl) HO3.out ⟨w3.heap.size,0,none⟩ 1 1 [.string kk,.string t,.slice p n c] (by rfl) (by rfl) HN3.out (by simp [Value.oneCell']) (by decide) HL1.out.1 HL1.out.2 (Nat.zero_le _) (w3.heap.size+1) (by simp) ?_
         intro g cap w4 hrow4 hgrow4 hat4 hlt4
         have q1:some (w.heap.size+1)≠(Value.slice vp k vc).ownBlock:=fun e=>by have:=(HV.out _ e.symm).1;omega
         have zw2:=(hgrow4.cell_far ⟨w.heap.size+1,2,none⟩ HC.out.2.2 q1).trans HC.out.1
         have fw2:=(hgrow4.frozen_far ⟨w.heap.size+1,2,none⟩ HC.out.2.2 q1).trans HC.out.2.1
         have H5:=a3_ hrow4 hgrow4 hat4
         clear hrow4 hgrow4 hat4 q1))
   all_goals
    go_wp2
    go_roundw
    case rel =>
     refine ⟨k+1,by omega,by go_num,?_⟩
     exact LK.step HX.out.1 HX.out.2.1 HX.out.2.2.1 HX.out.2.2.2.1 HX.out.2.2.2.2 ((Kp.refl No wr).drew.trans' H3.out) (by omega) ⟨rfl,rfl,rfl⟩ H5.out.1 H5.out.2.1 H5.out.2.2
    case measure=>simp [intOf];omega
  ·have hkn:k=ps.length:=by omega
   subst hkn
   have x0:=cO hxk 0 _ rfl
   have x1:=cO hxk 1 _ rfl
   have x2:=cO hxk 2 _ rfl
   have hbk:=hkp.at HB0.out (by omega)
   have y0:=cO hbk 0 _ rfl;have g0:=fO hbk 0
   have y1:=cO hbk 1 _ rfl;have g1:=fO hbk 1
   have y2:=cO hbk 2 _ rfl;have g2:=fO hbk 2
   have yl:=ltb hbk
   obtain ⟨vp,vc,rfl⟩:=owns_form hrow
   have HX:=a5_ hxk hrow hv0 ho hkp
   clear hxk hrow hv0 ho hkp hbk
   go_wp2_with fail
   have h3:=set3_at (v0:=.string kind) (v1:=.string ⟨#[]⟩) (v2:=.slice vp ps.length vc) (HX.out.2.2.2.2.at HB0.out (by omega))
   have e0:=cO h3 0 _ rfl;have e1:=cO h3 1 _ rfl;have e2:=cO h3 2 _ rfl
   refine bodyPost_ret (v:=.agg #[.string kind,.string ⟨#[]⟩,.slice vp ps.length vc]) (by simp [results,Tryz.results70,go_sem,e0,e1,e2]) rfl ?_
   obtain ⟨hxk,hrow,hv0,ho,hkp⟩:=HX.out
   have hs:=set3_kp wr w.heap.size (.string kind) (.string ⟨#[]⟩) (.slice vp ps.length vc)
   exact ⟨⟨_,us,rfl,owns_kp hrow fun g hg=>hs.block g (owns_lt hrow g hg) (by have:=hv0 g hg;omega),fun g hg=>by have:=hv0 g hg;omega,ho⟩,(HK0.out.trans hkp (by intro i hi h;omega)).trans hs (by intro i hi h;omega)⟩
theorem klistsp_c (w:World) (F:Nat→Prop) (kind:ByteArray) (s:Value) (ps:List Value) (hr:Row w F 88 s ps) (hn:ps.length≤400)
 (hE:∀ u∈ps,∀ wr,Kp No w wr→Calls Tryz.prog 47 #[u] wr fun e w'=>(∃ k,KR k e)∧Kp No wr w') (h1:∀ u∈ps,u.oneCell'=true) :
 Calls Tryz.prog 64 #[.string kind,s,.func (.func 47) #[] #[]] w fun e w'=>LR3 w w' kind ps.length e∧Kp No w w':=by
 have HR:=hd_ hr
 have HE:=hd_ hE
 have H1:=hd_ h1
 obtain ⟨sp,sc,rfl⟩:=hr.form
 clear hr hE h1
 go_enter Tryz.func64,Tryz.ntmps64
 go_wp2_with fail
 obtain ⟨w0,hw0⟩:∃ W,(w.alloc (.cells #[.string ⟨#[]⟩,.string ⟨#[]⟩,.slice none 0 0] 24)).alloc (.cells #[.string kind,.string ⟨#[]⟩,.slice none 0 0] 24)=W:=⟨_,rfl⟩
 rw [hw0]
 have hk0:Kp No w w0:=by rw [← hw0];exact ((Kp.refl No w).alloc _).alloc _
 have sz0:w0.heap.size=w.heap.size+2:=by rw [← hw0];simp
 have hb0:w0.heap[w.heap.size]?=some (.cells #[.string ⟨#[]⟩,.string ⟨#[]⟩,.slice none 0 0] 24 (0,0)):=by rw [← hw0];exact allocOf (newOf w _) _
 have hx0:w0.heap[w.heap.size+1]?=some (.cells #[.string kind,.string ⟨#[]⟩,.slice none 0 0] 24 (0,0)):=by rw [← hw0];exact newOf2 w _ _
 have HK0:=hd_ hk0
 have HB0:=hd_ hb0
 have HL:Hid (LK w0 (w.heap.size+1) kind 0 w0):=⟨.slice none 0 0,[],hx0,⟨rfl,.inl ⟨rfl,rfl⟩⟩,by intro g hg;simp [Value.ownBlock] at hg,by simp,Kp.refl _ _⟩
 clear hw0 hk0 hb0 hx0
 go_loopw [9,14] (fun _ i wr=>∃ k:Nat,k≤ps.length∧i=.int .i64 k∧LK w0 (w.heap.size+1) kind k wr) (fun _ i _=>ps.length - (intOf i).toNat)
 case atStart=>exact ⟨0,Nat.zero_le _,rfl,HL.out⟩
 case round =>
  obtain ⟨k,hk,rfl,hr⟩:=hrel
  obtain ⟨v,us,hxk,hrow,hv0,ho,hkp⟩:=hr
  have hsz:=hkp.size
  have xl:=ltb hxk
  by_cases hlt':k < ps.length
  ·have hu:ps[k]?=some ps[k]:=List.getElem?_eq_getElem hlt'
   have hum:ps[k]∈ps:=List.getElem_mem hlt'
   generalize ps[k]=u at hu hum
   have hwr:Kp No w wr:=HK0.out.trans hkp (by intro i hi h;omega)
   obtain ⟨gb,gc,he,hc,_,_,_⟩:=(HR.out.stay (Stay.of_kp (F':=F) hwr fun b _ h=>⟨id,h⟩)).get hu
   cases he
   have gl:=World.block_lt_of_cell? wr _ hc
   simp only at gl
   have u1:=H1.out u hum
   obtain ⟨vp,vc,rfl⟩:=owns_form hrow
   have z2:=cO hxk 2 _ rfl
   have f2:=fO hxk 2
   have HX:=a5_ hxk hrow hv0 ho hkp
   have HV:Hid (∀ g,(Value.slice vp k vc).ownBlock=some g→w0.heap.size≤g∧g < wr.heap.size):=fun g hg=>⟨hv0 g hg,owns_lt hrow g hg⟩
   have FC:=hd_ (HE.out u hum wr.drew hwr.drew)
   have n1:=World.new_ne wr _ z2
   have n2:=World.new_ne wr _ hc
   clear hxk hrow hv0 ho hkp hwr hu hum
   go_wp2_with fail
   go_region_law
    (first
      | (refine step_is_value rfl ?_;go_simp;go_at_call 47;refine FC.out.mono ?_;rintro e w3 ⟨⟨kk,t,p,n,c,rfl⟩,hK3⟩
         have sz3:wr.heap.size≤w3.heap.size:=hK3.size
         have zz2:w3.cell? ⟨w.heap.size+1,2,none⟩=some (.slice vp k vc):=(hK3.cell (show w.heap.size+1 < wr.heap.size by omega) id).trans z2
         have ff2:w3.frozen? ⟨w.heap.size+1,2,none⟩=false:=(hK3.frozen (show w.heap.size+1 < wr.heap.size by omega) id).trans f2
         have gg1:w.heap.size+1 < w3.heap.size:=by omega
         have HO3:Hid ((w3.alloc (.cells #[.string kk,.string t,.slice p n c] 24)).ownsRow 0 24 3 (.slice vp k vc) k us) :=
          owns_kp HX.out.2.1 (fun g hg=>(Below.heap_alloc w3 _ _ (by have:=HV.out g hg;omega)).trans (hK3.block g (show g < wr.heap.size from (HV.out g hg).2) id))
         have HN3:=hd_ (World.news_of_block (newOf w3 (.cells #[.string kk,.string t,.slice p n c] 24)))
         have zc2:=(World.cell?_alloc_past (w:=w3) (.cells #[.string kk,.string t,.slice p n c] 24) (w.heap.size+1) 2 (by omega)).trans zz2
         have fc2:=(World.frozen?_of_block (w:=w3) (a:=⟨w.heap.size+1,2,none⟩) (Below.heap_alloc w3 (.cells #[.string kk,.string t,.slice p n c] 24) (w.heap.size+1) (by omega))).trans ff2
         have lc2:w.heap.size+1 < (w3.alloc (.cells #[.string kk,.string t,.slice p n c] 24)).heap.size:=by rw [World.size_alloc];omega
         have HC:=a3_ zc2 fc2 lc2
         clear zc2 fc2 lc2
         have HL1:=hd_ (node_room (show k≤1000 by omega))
         have H3:=hd_ hK3
         clear hK3)
      | (refine step_is_append rfl ?_
         refine step_append_lies _ (by rfl) (.tmp 19) (.tmp 23) 22 (by rfl) 0 24 Tryz.t24 _ 3 _ Tryz.underlying22 Tryz.type24 rfl rfl rfl rfl (by decide) (.slice vp k vc) k us (by rfl) HO3.out ⟨w3.heap.size,0,none⟩ 1 1 [.string kk,.string t,.slice p n c] (by rfl) (by rfl) HN3.out (by simp [Value.oneCell']) (by decide) HL1.out.1 HL1.out.2 (Nat.zero_le _) (w3.heap.size+1) (by simp) ?_
         intro g cap w4 hrow4 hgrow4 hat4 hlt4
         have q1:some (w.heap.size+1)≠(Value.slice vp k vc).ownBlock:=fun e=>by have:=(HV.out _ e.symm).1;omega
         have zw2:=(hgrow4.cell_far ⟨w.heap.size+1,2,none⟩ HC.out.2.2 q1).trans HC.out.1
         have fw2:=(hgrow4.frozen_far ⟨w.heap.size+1,2,none⟩ HC.out.2.2 q1).trans HC.out.2.1
         have H5:=a3_ hrow4 hgrow4 hat4
         clear hrow4 hgrow4 hat4 q1))
   all_goals
    go_wp2
    go_roundw
    case rel =>
     refine ⟨k+1,by omega,by go_num,?_⟩
     exact LK.step HX.out.1 HX.out.2.1 HX.out.2.2.1 HX.out.2.2.2.1 HX.out.2.2.2.2 ((Kp.refl No wr).drew.trans' H3.out) (by omega) ⟨rfl,rfl,rfl⟩ H5.out.1 H5.out.2.1 H5.out.2.2
    case measure=>simp [intOf];omega
  ·have hkn:k=ps.length:=by omega
   subst hkn
   have x0:=cO hxk 0 _ rfl
   have x1:=cO hxk 1 _ rfl
   have x2:=cO hxk 2 _ rfl
   have hbk:=hkp.at HB0.out (by omega)
   have y0:=cO hbk 0 _ rfl;have g0:=fO hbk 0
   have y1:=cO hbk 1 _ rfl;have g1:=fO hbk 1
   have y2:=cO hbk 2 _ rfl;have g2:=fO hbk 2
   have yl:=ltb hbk
   obtain ⟨vp,vc,rfl⟩:=owns_form hrow
   have HX:=a5_ hxk hrow hv0 ho hkp
   clear hxk hrow hv0 ho hkp hbk
   go_wp2_with fail
   have h3:=set3_at (v0:=.string kind) (v1:=.string ⟨#[]⟩) (v2:=.slice vp ps.length vc) (HX.out.2.2.2.2.at HB0.out (by omega))
   have e0:=cO h3 0 _ rfl;have e1:=cO h3 1 _ rfl;have e2:=cO h3 2 _ rfl
   refine bodyPost_ret (v:=.agg #[.string kind,.string ⟨#[]⟩,.slice vp ps.length vc]) (by simp [results,Tryz.results64,go_sem,e0,e1,e2]) rfl ?_
   obtain ⟨hxk,hrow,hv0,ho,hkp⟩:=HX.out
   have hs:=set3_kp wr w.heap.size (.string kind) (.string ⟨#[]⟩) (.slice vp ps.length vc)
   exact ⟨⟨_,us,rfl,owns_kp hrow fun g hg=>hs.block g (owns_lt hrow g hg) (by have:=hv0 g hg;omega),fun g hg=>by have:=hv0 g hg;omega,ho⟩,(HK0.out.trans hkp (by intro i hi h;omega)).trans hs (by intro i hi h;omega)⟩
end
section
open Go Go.RowKit
attribute [local go_sem ↓] Go.wp_at_zero Go.wp_at_succ
def KExprP (t:Ty):Prop:=∀ (w:World) (F:Nat→Prop) (u:Value),t.At w F u→t.nd.size≤400→Calls Tryz.prog 48 #[.iface t.ty u] w fun e w'=>KR t.kind e∧Kp No w w'
def KFieldP (d:Fd):Prop:=∀ (w:World) (F:Nat→Prop) (u:Value),d.at w F u→d.nd.size≤400→Calls Tryz.prog 86 #[u] w fun e w'=>KR ⟨#[102,105,101,108,100]⟩ e∧Kp No w w'
def KFieldsP (f:Fs):Prop:=∀ (w:World) (F:Nat→Prop) (o c:Int) (u:Value),FlAt w F o f c u→Nd.sizeL f.nds≤400→Calls Tryz.prog 67 #[u] w fun e w'=>KR ⟨#[102,105,101,108,100,115]⟩ e∧Kp No w w'
theorem kids_c (w:World) (v:Value):Calls Tryz.prog 66 #[v] w fun e w'=>e=.returned v∧w'=w:=by
 go_enter Tryz.func66,Tryz.ntmps66
 go_wp2_with fail
 go_ret
 exact ⟨rfl,rfl⟩
theorem owns_cells {w:World} {T:TypeId} {v:Value} {n:Nat} {us:List Value} (h:w.ownsRow 0 T 3 v n us):(n=0∧∃ p c,v=.slice p 0 c)∨∃ g cap,v=.slice (some ⟨g,0,none⟩) n cap∧0 < n∧∀ j u,us[j]?=some u→w.cell? ((⟨g,0,none⟩:Addr).add j)=some u:=by
 obtain ⟨p,c,hv⟩:=owns_form h
 rcases Nat.eq_zero_or_pos n with rfl | hn
 ·exact .inl ⟨rfl,p,c,hv⟩
 ·rcases h.2 with ⟨_,h0⟩ | ⟨g,cap,cur,rfl,_,hg,h1,h2,h3,h4⟩
  ·omega
  ·refine .inr ⟨g,cap,rfl,hn,fun j u hu=>?_⟩
   refine World.news_of_block hg j u ?_
   rw [← h4,List.getElem?_take] at hu
   split at hu
   ·exact hu
   ·cases hu
theorem run_append_spread (w:World) (gb n:Nat) (a b c v:Value) (us:List Value) (ha:w.heap[gb]?=some (.cells #[a,b,c] 24 (0,0))) (h:w.ownsRow 0 24 3 v n us) (h1:∀ u∈us,u.oneCell'=true) (hn:n≤400) (ty:TypeId) :
 ∃ p' c' w',(Builtin.append_ #[22,22] ty #[.slice (some ⟨gb,0,none⟩) 1 1,v]).run Tryz.prog w=.ok (.slice p' (1+n) c') w'∧w.grownBy w' (some gb):=by
 rcases owns_cells h with ⟨rfl,p,cc,rfl⟩ | ⟨g,cap,rfl,hn0,hc⟩
 ·refine ⟨some ⟨gb,0,none⟩,1,w,?_,⟨rfl,rfl,rfl,Nat.le_refl _,fun _ _ _=>rfl⟩⟩
  have hf:(Builtin.firstCells 3 0 (.slice p 0 cc)).run Tryz.prog w=.ok #[] w:=by
   cases p <;> simp [Builtin.firstCells,loadCells,loadCellsFrom]
  simp [Builtin.append_,run_underlying Tryz.underlying22,sizeOf,typeInfo,show Tryz.prog.info? 24=some Tryz.t24 from Tryz.type24,Builtin.lenOf,show Tryz.t24.size=3 from rfl,hf,storeCells]
 ·have hr:=node_room (show n≤1000 by omega)
  obtain ⟨g',cap',w',hrun,_,hgr,_,_⟩:=run_append_lies (P:=Tryz.prog) w 22 ty 0 24 Tryz.t24 _ 3 _ Tryz.underlying22 Tryz.type24 rfl rfl rfl rfl (by decide) (.slice (some ⟨gb,0,none⟩) 1 1) 1 [a,b,c]
   ⟨rfl,.inr ⟨gb,1,#[a,b,c],rfl,Nat.zero_le _,ha,Nat.le_refl _,by unfold maxLen;omega,rfl,rfl⟩⟩ ⟨g,0,none⟩ n cap us h.1 hc h1 hn0 (by have:=hr.1;omega) (by have:=hr.2;rwa [Nat.add_comm] at this) (Nat.zero_le _) w.heap.size rfl
  exact ⟨_,_,w',hrun,hgr⟩
theorem step_append_spread {w:World} {ops:Array Oper} {o:Oper} {a:Act} {K:Act→World→Prop} {Q:Exit→Act→World→Prop} {E:Prop} (hgd:o.guard=none) (s x:Operand)
 (ho:o.op=.call { callee:=.builtin .append,args:=#[s,x],argTypes:=#[22,22] })
 (gb n:Nat) (a0 b0 c0 v:Value) (us:List Value) (hs:a.eval s=.slice (some ⟨gb,0,none⟩) 1 1) (hx:a.eval x=v) (ha:w.heap[gb]?=some (.cells #[a0,b0,c0] 24 (0,0))) (hv:w.ownsRow 0 24 3 v n us) (h1:∀ u∈us,u.oneCell'=true) (hn:n≤400)
 (h:∀ p' c' w',w.grownBy w' (some gb)→K (a.put o.dst (.slice p' (1+n) c')) w') :
 if Region.wanted o (yielded ops a.tmps)=true then Oper.wp Tryz.prog o a w K Q else E:=by
 have hw:Region.wanted o (yielded ops a.tmps)=true:=by simp [Region.wanted,hgd]
 rw [if_pos hw]
 obtain ⟨p',c',w',hr,hg⟩:=run_append_spread w gb n a0 b0 c0 v us ha hv h1 hn o.type
 unfold Oper.wp execOp
 simp only [ho,resolve,invoke,builtin,Sem.run_bind,Sem.run_pure,Result.andThen_ok,List.map_toArray,List.map_cons,List.map_nil,hs,hx,hr]
 exact h p' c' w' hg
theorem FdsAt.mem {w:World} {F:Nat→Prop}:∀ (l:List Fd) (us:List Value),FdsAt w F l us→∀ u∈us,∃ d∈l,d.at w F u
 | [],us,h,u,hu=>by obtain rfl:us=[]:=h;cases hu
 | d::l,_,h,u,hu=>by
  obtain ⟨v,us',rfl,h1,h2⟩:=h
  rcases List.mem_cons.1 hu with rfl | hu
  ·exact ⟨d,List.mem_cons_self,h1⟩
  ·obtain ⟨d',hd,h3⟩:=FdsAt.mem l us' h2 u hu
   exact ⟨d',List.mem_cons_of_mem _ hd,h3⟩
theorem NmsAt.mem {w:World} {F:Nat→Prop}:∀ (l:List Nm) (us:List Value),NmsAt w F l us→∀ u∈us,∃ n∈l,IdAt w F n.p n.s u
 | [],us,h,u,hu=>by obtain rfl:us=[]:=h;cases hu
 | d::l,_,h,u,hu=>by
  obtain ⟨v,us',rfl,h1,h2⟩:=h
  rcases List.mem_cons.1 hu with rfl | hu
  ·exact ⟨d,List.mem_cons_self,h1⟩
  ·obtain ⟨d',hd,h3⟩:=NmsAt.mem l us' h2 u hu
   exact ⟨d',List.mem_cons_of_mem _ hd,h3⟩
theorem klistnames_c (w:World) (F:Nat→Prop) (kind:ByteArray) (ns:List Nm) (s:Value) (us:List Value) (hr:Row w F 70 s us) (hn:NmsAt w F ns us) (hl:ns.length≤400) :
 Calls Tryz.prog 69 #[.string kind,s,.func (.func 68) #[] #[]] w fun e w'=>LR3 w w' kind ns.length e∧Kp No w w':=by
 have hul:=hn.length
 rw [← hul]
 refine klistid_c w F kind s us hr (by omega) (fun u hu wr hk=>?_) (fun u hu=>?_)
 ·obtain ⟨n,_,h⟩:=hn.mem _ _ u hu
  exact (kname_c wr F n.p n.s u (h.on hk fun b _ hF=>⟨id,hF⟩)).mono fun e w' h=>⟨⟨_,h.1⟩,h.2⟩
 ·obtain ⟨n,_,h⟩:=hn.mem _ _ u hu
  obtain ⟨b,rfl⟩:=h.ptr
  rfl
theorem kfields_c (f:Fs) (hF:∀ d∈f.fds,KFieldP d):KFieldsP f:=by
 intro w F o c u h hsz
 obtain ⟨s,us,⟨b,rfl,_,hb⟩,hr,hat⟩:=h
 rw [Fs.at_fds] at hat
 rw [Fs.nds_fds] at hsz
 have hul:=hat.length
 have hlen:us.length≤400:=by have:=Nd.sizeL_length (f.fds.map Fd.nd);simp at this;omega
 have c1:=cO hb 1 _ rfl
 have l:=ltb hb
 obtain ⟨q1,q2,q3,q4,q5⟩:=lts l
 have hk0:Kp No w (w.alloc (.cells #[.string ⟨#[]⟩,.string ⟨#[]⟩,.slice none 0 0] 24)):=(Kp.refl No w).alloc _
 have C:=klistfl_c (w.alloc (.cells #[.string ⟨#[]⟩,.string ⟨#[]⟩,.slice none 0 0] 24)) F ⟨#[102,105,101,108,100,115]⟩ s us (hr.stay (Stay.of_kp hk0 fun b _ h=>⟨id,h⟩)) hlen
  (fun u hu wr hk=>by
    obtain ⟨d,hd,h⟩:=hat.mem _ _ u hu
    exact (hF d hd wr F u (h.on (hk0.no hk) fun b _ hF=>⟨id,hF⟩) (Nat.le_trans (Nd.sizeL_mem (List.mem_map_of_mem (f:=Fd.nd) hd)) hsz)).mono fun e w' h=>⟨⟨_,h.1⟩,h.2⟩)
  (fun u hu=>by
    obtain ⟨d,hd,h⟩:=hat.mem _ _ u hu
    obtain ⟨b,rfl⟩:=h.ptr
    rfl)
 have HC:=hd_ C
 clear C hat hr hF hk0 hul
 go_enter Tryz.func67,Tryz.ntmps67
 go_wp2_with fail
 refine HC.out.mono ?_
 rintro e w1 ⟨⟨v,us',rfl,hrow,_,_⟩,hk1⟩
 obtain ⟨p,cc,rfl⟩:=owns_form hrow
 have hbk:=hk1.at (newOf w _) id
 have y0:=cO hbk 0 _ rfl;have g0:=fO hbk 0
 have y1:=cO hbk 1 _ rfl;have g1:=fO hbk 1
 have y2:=cO hbk 2 _ rfl;have g2:=fO hbk 2
 have yl:=ltb hbk
 have HK1:=hd_ (((Kp.refl No w).alloc _).no hk1)
 have HB:=hd_ hbk
 clear hk1 hbk hrow
 go_wp2_with fail
 have h3:=set3_at (v0:=.string ⟨#[102,105,101,108,100,115]⟩) (v1:=.string ⟨#[]⟩) (v2:=.slice p us.length cc) HB.out
 have e0:=cO h3 0 _ rfl;have e1:=cO h3 1 _ rfl;have e2:=cO h3 2 _ rfl
 refine bodyPost_ret (v:=.agg #[.string ⟨#[102,105,101,108,100,115]⟩,.string ⟨#[]⟩,.slice p us.length cc]) (by simp [results,Tryz.results67,go_sem,e0,e1,e2]) rfl ⟨⟨_,_,_,_,rfl⟩,HK1.out.trans (set3_kp w1 w.heap.size _ _ _) (by intro i hi h;omega)⟩
theorem kfieldx_c (d:Fd) (hE:KExprP d.t) (ht:d.tag.size=0):KFieldP d:=by
 intro w F u h hsz
 obtain ⟨s,vs,v,g,⟨b,rfl,_,hb⟩,hr,hns,hat,htag⟩:=h
 rw [if_pos ht] at htag
 subst htag
 have hln:d.ns.length≤400:=by
  have:=Nd.sizeL_length (d.ns.map Nm.nd)
  simp only [Fd.nd,fdNd,Nd.size,Nd.sizeL,lm_] at hsz this
  omega
 have hsz2:d.t.nd.size≤400:=by
  simp only [Fd.nd,fdNd,Nd.size,Nd.sizeL] at hsz
  omega
 have c1:=cO hb 1 _ rfl
 have l:=ltb hb
 obtain ⟨q1,q2,q3,q4,q5⟩:=lts l
 obtain ⟨W0,hW0⟩:∃ W,w.alloc (.cells #[.string ⟨#[]⟩,.string ⟨#[]⟩,.slice none 0 0] 24)=W:=⟨_,rfl⟩
 have hk0:Kp No w W0:=by rw [← hW0];exact (Kp.refl No w).alloc _
 have C:=klistnames_c W0 F ⟨#[102,105,101,108,100]⟩ d.ns s vs (hr.stay (Stay.of_kp hk0 fun b _ h=>⟨id,h⟩)) (NmsAt.stay (Stay.of_kp hk0 fun b _ h=>⟨id,h⟩) _ _ hns) hln
 have HC:=hd_ C
 have HAT:=hd_ hat
 have HEE:=hd_ hE
 have hx0:W0.heap[w.heap.size]?=some (.cells #[.string ⟨#[]⟩,.string ⟨#[]⟩,.slice none 0 0] 24 (0,0)):=by rw [← hW0];exact newOf w _
 have szW:W0.heap.size=w.heap.size+1:=by rw [← hW0];simp
 have HB:=hd_ hb;have HX0:=hd_ hx0;have HK0:=hd_ hk0
 have HW0:=hd_ hW0
 clear C hat hr hE hk0 hb hx0 hns hsz hW0
 go_enter Tryz.func86,Tryz.ntmps86
 go_wp2_with fail
 rw [HW0.out]
 clear HW0
 refine HC.out.mono ?_
 rintro e w1 ⟨⟨sl,us,rfl,hrow,hlo,hone⟩,hk1⟩
 obtain ⟨p,cc,rfl⟩:=owns_form hrow
 have sz1:=hk1.size
 have HR1:=a4_ hrow hlo hone hk1
 clear hk1 hrow hlo hone HC
 go_wp2_with fail
 obtain ⟨wq,hwq⟩:∃ W,w1.alloc (.cells #[.string ⟨#[102,105,101,108,100]⟩,.string ⟨#[]⟩,.slice p d.ns.length cc] 24)=W:=⟨_,rfl⟩
 rw [hwq]
 have hkq:Kp No W0 wq:=by rw [← hwq];exact HR1.out.2.2.2.alloc _
 have szq:wq.heap.size=w1.heap.size+1:=by rw [← hwq];simp
 have hq:wq.heap[w1.heap.size]?=some (.cells #[.string ⟨#[102,105,101,108,100]⟩,.string ⟨#[]⟩,.slice p d.ns.length cc] 24 (0,0)):=by rw [← hwq];exact newOf w1 _
 have hbq:=(HK0.out.no hkq).at HB.out id
 have hrq:wq.ownsRow 0 24 3 (.slice p d.ns.length cc) d.ns.length us:=owns_kp HR1.out.1 fun g hg=>by rw [← hwq];exact Below.heap_alloc _ _ _ (owns_lt HR1.out.1 g hg)
 have z2:=cO hq 2 _ rfl;have f2:=fO hq 2
 have b2:=cO hbq 2 _ rfl
 have n1:=World.new_ne wq _ z2;have n2:=World.new_ne wq _ b2
 have l1:w1.heap.size < wq.heap.size:=by omega
 have l2:b < wq.heap.size:=ltb hbq
 have FC:=hd_ (HEE.out wq.drew F v (HAT.out.on (HK0.out.no hkq).drew fun b _ h=>⟨id,h⟩) hsz2)
 have HQ:=a4_ hkq hq hbq hrq
 clear hwq hkq hq hbq hrq c1
 go_region_law
  (first
    | (refine step_is_call 48 rfl ?_;go_simp;go_at_call 48;refine FC.out.mono ?_;rintro e w3 ⟨⟨kt,kp,kn,kc,rfl⟩,hK3⟩
       have sz3:wq.heap.size≤w3.heap.size:=hK3.size
       have zz2:=(hK3.cell (show w1.heap.size < wq.heap.size by omega) id).trans z2
       have ff2:=(hK3.frozen (show w1.heap.size < wq.heap.size by omega) id).trans f2
       have gg1:w1.heap.size < w3.heap.size:=by omega
       have H3:=hd_ hK3
       clear hK3)
    | (refine step_is_call 66 rfl ?_;go_simp;go_at_call 66;refine (kids_c _ _).mono ?_;rintro e w4 ⟨rfl,hw4⟩
       have h4:w4.heap[w3.heap.size]?=some (.cells #[.string d.t.kind,.string kt,.slice kp kn kc] 24 (0,0)):=by rw [hw4];exact newOf w3 _
       have hk4:Kp No wq w4:=by rw [hw4];exact ((Kp.refl No wq).drew.trans' H3.out).alloc _
       have sz4:w4.heap.size=w3.heap.size+1:=by rw [hw4];simp
       have zz4:=(hk4.cell (show w1.heap.size < wq.heap.size by omega) id).trans z2
       have ff4:=(hk4.frozen (show w1.heap.size < wq.heap.size by omega) id).trans f2
       have gg4:w1.heap.size < w4.heap.size:=by omega
       have H4:=a3_ h4 hk4 hw4
       clear h4 hk4 hw4)
    | (refine step_is_append rfl ?_
       refine step_append_spread (by rfl) (.tmp 15) (.tmp 17) (by rfl) w3.heap.size d.ns.length _ _ _ (.slice p d.ns.length cc) us (by rfl) (by rfl) H4.out.1 (owns_kp HQ.out.2.2.2 fun g hg=>H4.out.2.1.block g (owns_lt HQ.out.2.2.2 g hg) id) HR1.out.2.2.1 hln ?_
       intro ap ac w5 hgr5
       have q51:some w1.heap.size≠some w3.heap.size:=by intro e;simp only [Option.some.injEq] at e;omega
       have zz5:=(hgr5.cell_far ⟨w1.heap.size,2,none⟩ gg4 q51).trans zz4
       have ff5:=(hgr5.frozen_far ⟨w1.heap.size,2,none⟩ gg4 q51).trans ff4
       have H5:=hd_ hgr5
       clear hgr5))
 all_goals
  obtain ⟨wz,hwz⟩:∃ W,w5.setCell ⟨w1.heap.size,2,none⟩ (.slice ap (1+d.ns.length) ac)=W:=⟨_,rfl⟩
  rw [hwz]
  have kq5:Kp No wq w5:=H4.out.2.1.grown H5.out (fun k hk hl=>by simp only [Option.some.injEq] at hk;omega)
  have kqz:Kp (On w1.heap.size) wq wz:=by rw [← hwz];exact ((Kp.refl (On w1.heap.size) wq).no kq5).setCell (p:=⟨w1.heap.size,2,none⟩) (fun _=>rfl) _
  have hz3:wz.heap[w1.heap.size]?=some (.cells #[.string ⟨#[102,105,101,108,100]⟩,.string ⟨#[]⟩,.slice ap (1+d.ns.length) ac] 24 (0,0)):=by rw [← hwz];exact setOf (kq5.at HQ.out.2.1 id) 2 _
  have hzb:=kqz.at HQ.out.2.2.1 (by omega)
  have hzx:=kqz.at (HQ.out.1.at HX0.out id) (by omega)
  have kwz:Kp No w wz:=(HK0.out.no HQ.out.1).trans kqz (by intro i hi h;omega)
  clear hwz zz5 ff5
  have t0:=cO hz3 0 _ rfl;have t1:=cO hz3 1 _ rfl;have t2:=cO hz3 2 _ rfl;have tf1:=fO hz3 1
  have b3:=cO hzb 3 _ rfl
  have x0:=cO hzx 0 _ rfl;have x1:=cO hzx 1 _ rfl;have x2:=cO hzx 2 _ rfl
  have g0:=fO hzx 0;have g1:=fO hzx 1;have g2:=fO hzx 2
  have m1:=ltb hz3;have m2:=ltb hzb;have m3:=ltb hzx
  have HZ:=a3_ hz3 hzx kwz
  clear hz3 hzx kwz kq5 kqz hzb
  go_wp2_with fail
  have h3:=set3_at (v0:=.string ⟨#[102,105,101,108,100]⟩) (v1:=.string ⟨#[]⟩) (v2:=.slice ap (1+d.ns.length) ac) (HZ.out.2.1)
  have e0:=cO h3 0 _ rfl;have e1:=cO h3 1 _ rfl;have e2:=cO h3 2 _ rfl
  refine bodyPost_ret (v:=.agg #[.string ⟨#[102,105,101,108,100]⟩,.string ⟨#[]⟩,.slice ap (1+d.ns.length) ac]) (by simp [results,Tryz.results86,go_sem,e0,e1,e2]) rfl ⟨⟨_,_,_,_,rfl⟩,?_⟩
  exact HZ.out.2.2.trans (set3_kp _ w.heap.size _ _ _) (by intro i hi h;omega)
theorem kfieldt_c (d:Fd) (hE:KExprP d.t) (ht:d.tag.size≠0):KFieldP d:=by
 intro w F u h hsz
 obtain ⟨s,vs,v,g,⟨b,rfl,_,hb⟩,hr,hns,hat,htag⟩:=h
 rw [if_neg ht] at htag
 have HTAG:=hd_ htag
 clear htag
 have hln:d.ns.length≤400:=by
  have:=Nd.sizeL_length (d.ns.map Nm.nd)
  simp only [Fd.nd,fdNd,Nd.size,Nd.sizeL,lm_] at hsz this
  omega
 have hsz2:d.t.nd.size≤400:=by
  simp only [Fd.nd,fdNd,Nd.size,Nd.sizeL] at hsz
  omega
 have c1:=cO hb 1 _ rfl
 have l:=ltb hb
 obtain ⟨q1,q2,q3,q4,q5⟩:=lts l
 obtain ⟨W0,hW0⟩:∃ W,w.alloc (.cells #[.string ⟨#[]⟩,.string ⟨#[]⟩,.slice none 0 0] 24)=W:=⟨_,rfl⟩
 have hk0:Kp No w W0:=by rw [← hW0];exact (Kp.refl No w).alloc _
 have C:=klistnames_c W0 F ⟨#[102,105,101,108,100]⟩ d.ns s vs (hr.stay (Stay.of_kp hk0 fun b _ h=>⟨id,h⟩)) (NmsAt.stay (Stay.of_kp hk0 fun b _ h=>⟨id,h⟩) _ _ hns) hln
 have HC:=hd_ C
 have HAT:=hd_ hat
 have HEE:=hd_ hE
 have hx0:W0.heap[w.heap.size]?=some (.cells #[.string ⟨#[]⟩,.string ⟨#[]⟩,.slice none 0 0] 24 (0,0)):=by rw [← hW0];exact newOf w _
 have szW:W0.heap.size=w.heap.size+1:=by rw [← hW0];simp
 have HB:=hd_ hb;have HX0:=hd_ hx0;have HK0:=hd_ hk0
 have HW0:=hd_ hW0
 clear C hat hr hE hk0 hb hx0 hns hsz hW0
 go_enter Tryz.func86,Tryz.ntmps86
 go_wp2_with fail
 rw [HW0.out]
 clear HW0
 refine HC.out.mono ?_
 rintro e w1 ⟨⟨sl,us,rfl,hrow,hlo,hone⟩,hk1⟩
 obtain ⟨p,cc,rfl⟩:=owns_form hrow
 have sz1:=hk1.size
 have HR1:=a4_ hrow hlo hone hk1
 clear hk1 hrow hlo hone HC
 go_wp2_with fail
 obtain ⟨wq,hwq⟩:∃ W,w1.alloc (.cells #[.string ⟨#[102,105,101,108,100]⟩,.string ⟨#[]⟩,.slice p d.ns.length cc] 24)=W:=⟨_,rfl⟩
 rw [hwq]
 have hkq:Kp No W0 wq:=by rw [← hwq];exact HR1.out.2.2.2.alloc _
 have szq:wq.heap.size=w1.heap.size+1:=by rw [← hwq];simp
 have hq:wq.heap[w1.heap.size]?=some (.cells #[.string ⟨#[102,105,101,108,100]⟩,.string ⟨#[]⟩,.slice p d.ns.length cc] 24 (0,0)):=by rw [← hwq];exact newOf w1 _
 have hbq:=(HK0.out.no hkq).at HB.out id
 have hrq:wq.ownsRow 0 24 3 (.slice p d.ns.length cc) d.ns.length us:=owns_kp HR1.out.1 fun g hg=>by rw [← hwq];exact Below.heap_alloc _ _ _ (owns_lt HR1.out.1 g hg)
 have z2:=cO hq 2 _ rfl;have f2:=fO hq 2
 have b2:=cO hbq 2 _ rfl
 have n1:=World.new_ne wq _ z2;have n2:=World.new_ne wq _ b2
 have l1:w1.heap.size < wq.heap.size:=by omega
 have l2:b < wq.heap.size:=ltb hbq
 have FC:=hd_ (HEE.out wq.drew F v (HAT.out.on (HK0.out.no hkq).drew fun b _ h=>⟨id,h⟩) hsz2)
 have HQ:=a4_ hkq hq hbq hrq
 clear hwq hkq hq hbq hrq c1
 go_region_law
  (first
    | (refine step_is_call 48 rfl ?_;go_simp;go_at_call 48;refine FC.out.mono ?_;rintro e w3 ⟨⟨kt,kp,kn,kc,rfl⟩,hK3⟩
       have sz3:wq.heap.size≤w3.heap.size:=hK3.size
       have zz2:=(hK3.cell (show w1.heap.size < wq.heap.size by omega) id).trans z2
       have ff2:=(hK3.frozen (show w1.heap.size < wq.heap.size by omega) id).trans f2
       have gg1:w1.heap.size < w3.heap.size:=by omega
       have H3:=hd_ hK3
       clear hK3)
    | (refine step_is_call 66 rfl ?_;go_simp;go_at_call 66;refine (kids_c _ _).mono ?_;rintro e w4 ⟨rfl,hw4⟩
       have h4:w4.heap[w3.heap.size]?=some (.cells #[.string d.t.kind,.string kt,.slice kp kn kc] 24 (0,0)):=by rw [hw4];exact newOf w3 _
       have hk4:Kp No wq w4:=by rw [hw4];exact ((Kp.refl No wq).drew.trans' H3.out).alloc _
       have sz4:w4.heap.size=w3.heap.size+1:=by rw [hw4];simp
       have zz4:=(hk4.cell (show w1.heap.size < wq.heap.size by omega) id).trans z2
       have ff4:=(hk4.frozen (show w1.heap.size < wq.heap.size by omega) id).trans f2
       have gg4:w1.heap.size < w4.heap.size:=by omega
       have H4:=a3_ h4 hk4 hw4
       clear h4 hk4 hw4)
    | (refine step_is_append rfl ?_
       refine step_append_spread (by rfl) (.tmp 15) (.tmp 17) (by rfl) w3.heap.size d.ns.length _ _ _ (.slice p d.ns.length cc) us (by rfl) (by rfl) H4.out.1 (owns_kp HQ.out.2.2.2 fun g hg=>H4.out.2.1.block g (owns_lt HQ.out.2.2.2 g hg) id) HR1.out.2.2.1 hln ?_
       intro ap ac w5 hgr5
       have q51:some w1.heap.size≠some w3.heap.size:=by intro e;simp only [Option.some.injEq] at e;omega
       have zz5:=(hgr5.cell_far ⟨w1.heap.size,2,none⟩ gg4 q51).trans zz4
       have ff5:=(hgr5.frozen_far ⟨w1.heap.size,2,none⟩ gg4 q51).trans ff4
       have H5:=hd_ hgr5
       clear hgr5))
 all_goals
  obtain ⟨wz,hwz⟩:∃ W,w5.setCell ⟨w1.heap.size,2,none⟩ (.slice ap (1+d.ns.length) ac)=W:=⟨_,rfl⟩
  rw [hwz]
  have kq5:Kp No wq w5:=H4.out.2.1.grown H5.out (fun k hk hl=>by simp only [Option.some.injEq] at hk;omega)
  have kqz:Kp (On w1.heap.size) wq wz:=by rw [← hwz];exact ((Kp.refl (On w1.heap.size) wq).no kq5).setCell (p:=⟨w1.heap.size,2,none⟩) (fun _=>rfl) _
  have hz3:wz.heap[w1.heap.size]?=some (.cells #[.string ⟨#[102,105,101,108,100]⟩,.string ⟨#[]⟩,.slice ap (1+d.ns.length) ac] 24 (0,0)):=by rw [← hwz];exact setOf (kq5.at HQ.out.2.1 id) 2 _
  have hzb:=kqz.at HQ.out.2.2.1 (by omega)
  have hzx:=kqz.at (HQ.out.1.at HX0.out id) (by omega)
  have kwz:Kp No w wz:=(HK0.out.no HQ.out.1).trans kqz (by intro i hi h;omega)
  clear hwz zz5 ff5
  have t0:=cO hz3 0 _ rfl;have t1:=cO hz3 1 _ rfl;have t2:=cO hz3 2 _ rfl;have tf1:=fO hz3 1
  have b3:=cO hzb 3 _ rfl
  have x0:=cO hzx 0 _ rfl;have x1:=cO hzx 1 _ rfl;have x2:=cO hzx 2 _ rfl
  have g0:=fO hzx 0;have g1:=fO hzx 1;have g2:=fO hzx 2
  have m1:=ltb hz3;have m2:=ltb hzb;have m3:=ltb hzx
  obtain ⟨gb,rfl,_,hgb⟩:=HTAG.out
  have gc:=cO (kwz.at hgb id) 3 _ rfl
  have gl:=ltb (kwz.at hgb id)
  have HZ:=a3_ hz3 hzx kwz
  clear hz3 hzx kwz kq5 kqz hzb
  go_wp2_with fail
  have h3:=set3_at (v0:=.string ⟨#[102,105,101,108,100]⟩) (v1:=.string d.tag) (v2:=.slice ap (1+d.ns.length) ac) (setOther (p:=⟨w1.heap.size,1,none⟩) HZ.out.2.1 (show w.heap.size≠w1.heap.size by omega) (.string d.tag))
  have e0:=cO h3 0 _ rfl;have e1:=cO h3 1 _ rfl;have e2:=cO h3 2 _ rfl
  refine bodyPost_ret (v:=.agg #[.string ⟨#[102,105,101,108,100]⟩,.string d.tag,.slice ap (1+d.ns.length) ac]) (by simp [results,Tryz.results86,go_sem,e0,e1,e2]) rfl ⟨⟨_,_,_,_,rfl⟩,?_⟩
  exact (HZ.out.2.2.setCell (p:=⟨w1.heap.size,1,none⟩) (by simp;omega) _).trans (set3_kp _ w.heap.size _ _ _) (by intro i hi h;omega)
end
end Go.Proofs.YtnkbglhdpmbgfaaGreatFmt
