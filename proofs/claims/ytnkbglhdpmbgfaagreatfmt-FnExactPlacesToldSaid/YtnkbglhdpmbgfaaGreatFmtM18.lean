/- A part of the proof; no condition: BFuncR, BFuncN, BDecl. -/
import Derived.Test.YtnkbglhdpmbgfaaGreatFmtM
import Derived.Test.YtnkbglhdpmbgfaaGreatFmtM17
set_option linter.all false
set_option maxHeartbeats 16000000
set_option maxRecDepth 100000
namespace Go.Proofs.YtnkbglhdpmbgfaaGreatFmt
section
open Go Go.RowKit
attribute [local go_sem ↓] Go.wp_at_zero Go.wp_at_succ
attribute [local go_sem] node_field0 node_field1 node_field2
theorem funcrn_c (p:Int) (ro:Int) (rf:Fs) (rc:Int) (np:Int) (s0:ByteArray) (o:Int) (ps:Fs) (c:Int) (b:Bool) (o':Int) (rs:Fs) (c':Int)  (wz:World) (B:Nat) (s at_:Value) (hI:Ints wz B at_ (p::(ro::(rf.toks true true false++rc::(np::((Ty.sig p o ps c b o' rs c').toks true++([]))))))) (hl:Ls wz B s [fl rf.nds,(Ty.sig p o ps c b o' rs c').nd,Nd.miss]) (hBw:B≤wz.heap.size) (hT:Tok wz) (hrf:rf.ok false) (hsg:(Ty.sig p o ps c b o' rs c').ok false) (hsz:Nd.sizeL [fl rf.nds,(Ty.sig p o ps c b o' rs c').nd,Nd.miss]≤400) :
 Calls Tryz.prog 15 #[.agg #[.string ⟨#[102,117,110,99]⟩,.string s0,s],at_] wz fun e w' =>
  (∃ v,e=.returned (.iface 66 v)∧Dc.At w' (Fr wz.heap.size) (.func p (some (ro,rf,rc)) np s0 o ps c b o' rs c' none) v)∧Kp No wz w':=by
 obtain ⟨tk,htk⟩:∃ t,(p::(ro::(rf.toks true true false++rc::(np::((Ty.sig p o ps c b o' rs c').toks true++([]))))))=t:=⟨_,rfl⟩
 rw [htk] at hI
 obtain ⟨q,c0,rfl,hc0,_⟩:=id hl
 obtain ⟨ip,ic,rfl,_⟩:=id hI
 have HI:=hd_ hI
 clear hI
 generalize List.length tk=tn at *
 have HL0:=hd_ hl;have HT0:=hd_ hT;have HO:=hd_ hsg;have HS:=hd_ hsz
 have HRF:=hd_ hrf;clear hrf
 simp only [lc_,ln_,Nat.reduceAdd] at hc0 HL0 ⊢
 clear hl hsg hsz hT
 go_enter Tryz.func15,Tryz.ntmps15
 go_wp2_with fail
 obtain ⟨w,hw⟩:∃ W,(wz.alloc (.cells #[.string ⟨#[102,117,110,99]⟩,.string s0,.slice q 3 c0] 24)).alloc (.cells #[.slice ip tn ic] 65)=W:=⟨_,rfl⟩
 rw [hw]
 have hx0:w.heap[wz.heap.size]?=some (.cells #[.string ⟨#[102,117,110,99]⟩,.string s0,.slice q 3 c0] 24 (0,0)):=by rw [← hw];exact allocOf (newOf wz _) _
 have hb0:w.heap[wz.heap.size+1]?=some (.cells #[.slice ip tn ic] 65 (0,0)):=by rw [← hw];exact newOf2 wz _ _
 have hk0:Kp No wz w:=by rw [← hw];exact ((Kp.refl No wz).alloc _).alloc _
 have szz:w.heap.size=wz.heap.size+2:=by rw [← hw];simp
 have HB0:Hid (Bld w (wz.heap.size+1) (p::(ro::(rf.toks true true false++rc::(np::((Ty.sig p o ps c b o' rs c').toks true++([]))))))):=by rw [htk];exact ⟨_,hb0,(HI.out.stay (fun b hb=>hk0.block b (Nat.lt_of_lt_of_le hb hBw) id)).up (by omega)⟩
 have HL:Hid (Ls w B (.slice q 3 c0) [fl rf.nds,(Ty.sig p o ps c b o' rs c').nd,Nd.miss]):=HL0.out.below hk0 hBw fun b hb h=>h
 have HT:Hid (Tok w):=HT0.out.stay hk0 id
 have HX0:=hd_ hx0
 have x0:=cO hx0 0 _ rfl;have x1:=cO hx0 1 _ rfl;have x2:=cO hx0 2 _ rfl;have xs:=ltb hx0
 have HK0:=hd_ hk0
 clear hx0 hb0 hk0 hw HI HL0 HT0
 generalize hnb:wz.heap.size=nb at *
 generalize hbb:nb+1=bb at *
 have hlt:bb < w.heap.size:=by omega
 have hBb:B≤bb:=by omega
 go_wp2_with fail
 refine (next_c _ bb (p) ((ro::(rf.toks true true false++rc::(np::((Ty.sig p o ps c b o' rs c').toks true++([])))))) (HB0.out.on (Kp.refl (On (w.heap.size+1000000)) w) (by omega))).mono ?_
 rintro e w1 ⟨rfl,hB1,hK1⟩
 have sz1:w.heap.size≤w1.heap.size:=by have:=hK1.size;(try simp at this);omega
 have KT1:Kp (fun k=>k=bb∨k=bb) w w1:=(Kp.refl (fun k=>k=bb∨k=bb) w).trans hK1 (by intro i hi h;first | exact (h:False).elim | omega)
 obtain ⟨xb1,x0,x1,x2,xs⟩:=box3 HX0.out KT1 (by omega)
 clear HX0
 have HX1:=hd_ xb1;clear xb1
 have k1:Kp (On bb) w w1:=KT1.mono (by intro i hi h;omega)
 have HK1:=hd_ k1;clear k1 KT1
 have HB1:=hd_ hB1;clear hB1 HB0
 have szw1:w.heap.size≤w1.heap.size:=by omega
 clear hK1
 go_wp2_with fail
 go_region_law
  (first
    | (refine step_is_call 41 rfl ?_
       go_simp
       go_at_call 41
       refine (kid_c w1.drew B _ _ _ _ 0 (fl rf.nds) (HL.out.below (HK1.out.trans ((Kp.refl (On (w.heap.size+1000000)) w1).drew) (by intro i hi h;omega)) (by omega) (fun b hb=>On.not' (by omega))) (by decide) rfl).mono ?_
       rintro e w2 ⟨⟨u2,rfl,hu2⟩,hK2⟩
       have sz2:w1.heap.size≤w2.heap.size:=hK2.size
       have KT2:Kp (fun k=>k=bb∨k=bb) w1 w2:=((Kp.refl (fun k=>k=bb∨k=bb) w1).drew).trans hK2 (by intro i hi h;first | exact (h:False).elim | omega)
       have hB2:=(HB1.out.on ((Kp.refl (On (w.heap.size+1000000)) w1).drew) (by omega)).no hK2
       obtain ⟨xb2,x0,x1,x2,xs⟩:=box3 HX1.out KT2 (by omega)
       clear HX1
       have HX2:=hd_ xb2;clear xb2
       have k2:Kp (On bb) w w2:=HK1.out.trans KT2 (by intro i hi h;omega)
       clear HK1
       have HK2:=hd_ k2;clear k2 KT2
       have HB2:=hd_ hB2;clear hB2 HB1
       have szw2:w.heap.size≤w2.heap.size:=by omega
       have HU2:=hd_ (hu2.below hK2 (show B≤w1.heap.size by omega) (fun _ _ h=>h.elim));clear hu2 hK2)
    | (refine step_is_call 40 rfl ?_
       go_simp
       go_at_call 40
       have HP:=hd_ (params_a rf)
       refine (HP.out _ B bb _ ro rc (np::((Ty.sig p o ps c b o' rs c').toks true++([]))) (HB2.out.on (Kp.refl (On (w.heap.size+1000000)) w2) (by omega)) (Nd.In_iff.1 HU2.out) hBb HRF.out (by have:=HS.out;simp [Nd.sizeL,fl,Nd.size] at this;omega)).mono ?_
       rintro e w3 ⟨⟨v,rfl,hv3⟩,hB3,hK3⟩
       have sz3:w2.heap.size≤w3.heap.size:=by have:=hK3.size;(try simp at this);omega
       have KT3:Kp (fun k=>k=bb∨k=bb) w2 w3:=(Kp.refl (fun k=>k=bb∨k=bb) w2).trans hK3 (by intro i hi h;first | exact (h:False).elim | omega)
       obtain ⟨xb3,x0,x1,x2,xs⟩:=box3 HX2.out KT3 (by omega)
       clear HX2
       have HX3:=hd_ xb3;clear xb3
       have hw3:FlAt w3 (Fr (w2.heap.size)) ro rf rc v:=hv3.on (Kp.refl No _) (by intro b hb hF;(try simp at hF);exact ⟨id,by omega⟩)
       clear hv3
       obtain ⟨vb,rfl⟩:=hw3.ptr
       have HV3:=hd_ hw3;clear hw3
       have k3:Kp (On bb) w w3:=HK2.out.trans KT3 (by intro i hi h;omega)
       clear HK2
       have HK3:=hd_ k3;clear k3 KT3
       have HB3:=hd_ hB3;clear hB3 HB2
       have szw3:w.heap.size≤w3.heap.size:=by omega
       clear hK3 HU2)
    | (refine step_is_call 42 rfl ?_
       go_simp
       go_at_call 42
       refine (ident_c _ bb (s0) (np) ((Ty.sig p o ps c b o' rs c').toks true++([])) (HB3.out.on (Kp.refl (On (w.heap.size+1000000)) w3) (by omega))).mono ?_
       rintro e w4 ⟨⟨i0,rfl,hv4⟩,hB4,hK4⟩
       have sz4:w3.heap.size≤w4.heap.size:=by have:=hK4.size;(try simp at this);omega
       have KT4:Kp (fun k=>k=bb∨k=bb) w3 w4:=(Kp.refl (fun k=>k=bb∨k=bb) w3).trans hK4 (by intro i hi h;first | exact (h:False).elim | omega)
       obtain ⟨xb4,x0,x1,x2,xs⟩:=box3 HX3.out KT4 (by omega)
       clear HX3
       have HX4:=hd_ xb4;clear xb4
       have HV3_4:FlAt w4 (Fr (w2.heap.size)) ro rf rc (.pointer (some ⟨vb,0,none⟩)):=HV3.out.on KT4 (by intro b hb hF;omega)
       have HV3n4:=hd_ HV3_4;clear HV3_4 HV3
       have hw4:IdAt w4 (Fr (w3.heap.size)) (np) (s0) i0:=hv4.on (Kp.refl No _) (by intro b hb hF;(try simp at hF);exact ⟨id,by omega⟩)
       clear hv4
       obtain ⟨i0b,rfl⟩:=hw4.ptr
       have HV4:=hd_ hw4;clear hw4
       have k4:Kp (On bb) w w4:=HK3.out.trans KT4 (by intro i hi h;omega)
       clear HK3
       have HK4:=hd_ k4;clear k4 KT4
       have HB4:=hd_ hB4;clear hB4 HB3
       have szw4:w.heap.size≤w4.heap.size:=by omega
       clear hK4))
 all_goals
  go_wp2_with fail
  refine (kid_c _ B _ _ _ _ 1 ((Ty.sig p o ps c b o' rs c').nd) (HL.out.below (HK4.out.trans ((Kp.refl (On w4.heap.size) w4).alloc _) (by intro i hi h;omega)) (by omega) (fun b hb=>On.not' (by omega))) (by decide) rfl).mono ?_
  rintro e w5 ⟨⟨u5,rfl,hu5⟩,hK5⟩
  have sz5:w4.heap.size≤w5.heap.size:=by have:=hK5.size;(try simp at this);omega
  have KT5:Kp (fun k=>k=bb∨k=w4.heap.size) w4 w5:=((Kp.refl (fun k=>k=bb∨k=w4.heap.size) w4).alloc _).trans hK5 (by intro i hi h;first | exact (h:False).elim | omega)
  have hB5:=(HB4.out.on ((Kp.refl (On w4.heap.size) w4).alloc _) (by omega)).no hK5
  obtain ⟨xb5,x0,x1,x2,xs⟩:=box3 HX4.out KT5 (by omega)
  clear HX4
  have HX5:=hd_ xb5;clear xb5
  have xk5:w5.heap[w4.heap.size]?=some (.cells #[.pointer none,(.pointer (some ⟨vb,0,none⟩)),(.pointer (some ⟨i0b,0,none⟩)),.pointer none,.pointer none] 76 (0,0)):=hK5.at (newOf w4 _) (by exact id)
  have z0:=cO xk5 0 _ rfl;have f0:=fO xk5 0
  have z1:=cO xk5 1 _ rfl;have f1:=fO xk5 1
  have z2:=cO xk5 2 _ rfl;have f2:=fO xk5 2
  have z3:=cO xk5 3 _ rfl;have f3:=fO xk5 3
  have z4:=cO xk5 4 _ rfl;have f4:=fO xk5 4
  have zs5:=ltb xk5
  have HP5:=hd_ xk5;clear xk5
  have HV3n4_5:FlAt w5 (Av (w2.heap.size) (w4.heap.size)) ro rf rc (.pointer (some ⟨vb,0,none⟩)):=HV3n4.out.on KT5 (by intro b hb hF;omega)
  have HV3n4n5:=hd_ HV3n4_5;clear HV3n4_5 HV3n4
  have HV4_5:IdAt w5 (Av (w3.heap.size) (w4.heap.size)) (np) (s0) (.pointer (some ⟨i0b,0,none⟩)):=HV4.out.on KT5 (by intro b hb hF;omega)
  have HV4n5:=hd_ HV4_5;clear HV4_5 HV4
  have k5:Kp (On bb) w w5:=HK4.out.trans KT5 (by intro i hi h;omega)
  clear HK4
  have HK5:=hd_ k5;clear k5 KT5
  have HB5:=hd_ hB5;clear hB5 HB4
  have szw5:w.heap.size≤w5.heap.size:=by omega
  have HU5:=hd_ (hu5.below hK5 (by (try simp);omega) (fun _ _ h=>h.elim));clear hu5 hK5
  have HG:=hd_ (sig_a (Ty.sig p o ps c b o' rs c'))
  go_wp2_with fail
  refine (HG.out _ B bb _ p o ps c b o' rs c' ([]) rfl (HB5.out.on (Kp.refl (On w4.heap.size) w5) (by omega)) HU5.out hBb (by have:=HO.out;simp only [Ty.ok,Bool.false_eq_true,if_false] at this;simp only [Ty.ok,if_true];exact ⟨trivial,this.2⟩) (by have:=HS.out;simp only [Nd.sizeL] at this;omega)).mono ?_
  rintro e w6 ⟨⟨y,rfl,hv6⟩,hB6,hK6⟩
  have sz6:w5.heap.size≤w6.heap.size:=by have:=hK6.size;(try simp at this);omega
  have KT6:Kp (fun k=>k=bb∨k=w4.heap.size) w5 w6:=(Kp.refl (fun k=>k=bb∨k=w4.heap.size) w5).trans hK6 (by intro i hi h;first | exact (h:False).elim | omega)
  obtain ⟨xb6,x0,x1,x2,xs⟩:=box3 HX5.out KT6 (by omega)
  clear HX5
  have HX6:=hd_ xb6;clear xb6
  clear z0 f0 z1 f1 z2 f2 z3 f3 z4 f4
  have xk6:w6.heap[w4.heap.size]?=some (.cells #[.pointer none,(.pointer (some ⟨vb,0,none⟩)),(.pointer (some ⟨i0b,0,none⟩)),.pointer none,.pointer none] 76 (0,0)):=hK6.at HP5.out (by exact On.not (by omega))
  have z0:=cO xk6 0 _ rfl;have f0:=fO xk6 0
  have z1:=cO xk6 1 _ rfl;have f1:=fO xk6 1
  have z2:=cO xk6 2 _ rfl;have f2:=fO xk6 2
  have z3:=cO xk6 3 _ rfl;have f3:=fO xk6 3
  have z4:=cO xk6 4 _ rfl;have f4:=fO xk6 4
  have zs6:=ltb xk6
  have HP6:=hd_ xk6;clear xk6 HP5
  have HV3n4n5_6:FlAt w6 (Av (w2.heap.size) (w4.heap.size)) ro rf rc (.pointer (some ⟨vb,0,none⟩)):=HV3n4n5.out.on KT6 (by intro b hb hF;omega)
  have HV3n4n5n6:=hd_ HV3n4n5_6;clear HV3n4n5_6 HV3n4n5
  have HV4n5_6:IdAt w6 (Av (w3.heap.size) (w4.heap.size)) (np) (s0) (.pointer (some ⟨i0b,0,none⟩)):=HV4n5.out.on KT6 (by intro b hb hF;omega)
  have HV4n5n6:=hd_ HV4n5_6;clear HV4n5_6 HV4n5
  have hw6:Ty.At w6 (Av (w5.heap.size) (w4.heap.size)) (Ty.sig p o ps c b o' rs c') y:=hv6.on (Kp.refl No _) (by intro b hb hF;(try simp at hF);exact ⟨id,by omega⟩)
  clear hv6
  obtain ⟨yb,rfl⟩:=hw6.ptr
  have HV6:=hd_ hw6;clear hw6
  have k6:Kp (On bb) w w6:=HK5.out.trans KT6 (by intro i hi h;omega)
  clear HK5
  have HK6:=hd_ k6;clear k6 KT6
  have HB6:=hd_ hB6;clear hB6 HB5
  have szw6:w.heap.size≤w6.heap.size:=by omega
  clear hK6 HU5
  go_wp2_with fail
  refine (kid_c _ B _ _ _ _ 2 (Nd.miss) (HL.out.below (HK6.out.trans ((Kp.refl (On w4.heap.size) w6).setCell (p:=⟨w4.heap.size,3,none⟩) (fun _=>rfl) _) (by intro i hi h;omega)) (by omega) (fun b hb=>On.not' (by omega))) (by decide) rfl).mono ?_
  rintro e w7 ⟨⟨u7,rfl,hu7⟩,hK7⟩
  have sz7:w6.heap.size≤w7.heap.size:=by have:=hK7.size;(try simp at this);omega
  have KT7:Kp (fun k=>k=bb∨k=w4.heap.size) w6 w7:=((Kp.refl (fun k=>k=bb∨k=w4.heap.size) w6).setCell (p:=⟨w4.heap.size,3,none⟩) (fun _=>.inr rfl) _).trans hK7 (by intro i hi h;first | exact (h:False).elim | omega)
  have hB7:=(HB6.out.on ((Kp.refl (On w4.heap.size) w6).setCell (p:=⟨w4.heap.size,3,none⟩) (fun _=>rfl) _) (by omega)).no hK7
  obtain ⟨xb7,x0,x1,x2,xs⟩:=box3 HX6.out KT7 (by omega)
  clear HX6
  have HX7:=hd_ xb7;clear xb7
  clear z0 f0 z1 f1 z2 f2 z3 f3 z4 f4
  have xk7:w7.heap[w4.heap.size]?=some (.cells #[.pointer none,(.pointer (some ⟨vb,0,none⟩)),(.pointer (some ⟨i0b,0,none⟩)),(.pointer (some ⟨yb,0,none⟩)),.pointer none] 76 (0,0)):=hK7.at (setOf HP6.out 3 _) (by exact id)
  have z0:=cO xk7 0 _ rfl;have f0:=fO xk7 0
  have z1:=cO xk7 1 _ rfl;have f1:=fO xk7 1
  have z2:=cO xk7 2 _ rfl;have f2:=fO xk7 2
  have z3:=cO xk7 3 _ rfl;have f3:=fO xk7 3
  have z4:=cO xk7 4 _ rfl;have f4:=fO xk7 4
  have zs7:=ltb xk7
  have HP7:=hd_ xk7;clear xk7 HP6
  have HV3n4n5n6_7:FlAt w7 (Av (w2.heap.size) (w4.heap.size)) ro rf rc (.pointer (some ⟨vb,0,none⟩)):=HV3n4n5n6.out.on KT7 (by intro b hb hF;omega)
  have HV3n4n5n6n7:=hd_ HV3n4n5n6_7;clear HV3n4n5n6_7 HV3n4n5n6
  have HV4n5n6_7:IdAt w7 (Av (w3.heap.size) (w4.heap.size)) (np) (s0) (.pointer (some ⟨i0b,0,none⟩)):=HV4n5n6.out.on KT7 (by intro b hb hF;omega)
  have HV4n5n6n7:=hd_ HV4n5n6_7;clear HV4n5n6_7 HV4n5n6
  have HV6_7:Ty.At w7 (Av (w5.heap.size) (w4.heap.size)) (Ty.sig p o ps c b o' rs c') (.pointer (some ⟨yb,0,none⟩)):=HV6.out.on KT7 (by intro b hb hF;omega)
  have HV6n7:=hd_ HV6_7;clear HV6_7 HV6
  have k7:Kp (On bb) w w7:=HK6.out.trans KT7 (by intro i hi h;omega)
  clear HK6
  have HK7:=hd_ k7;clear k7 KT7
  have HB7:=hd_ hB7;clear hB7 HB6
  have szw7:w.heap.size≤w7.heap.size:=by omega
  have HU7:=hd_ (hu7.below hK7 (by (try simp);omega) (fun _ _ h=>h.elim));clear hu7 hK7
  simp only [Nd.miss,Nd.k,Nd.t]
  clear HU7
  go_wp2_with fail
  go_ret
  refine ⟨⟨_,rfl,_,_,_,_,⟨_,rfl,by omega,HP7.out⟩,?_,HV4n5n6n7.out.on (Kp.refl No _) (by intro b hb hF;exact ⟨id,by omega⟩),HV6n7.out.on (Kp.refl No _) (by intro b hb hF;exact ⟨id,by omega⟩),rfl⟩,HK0.out.trans HK7.out (by intro i hi h;omega)⟩
  exact HV3n4n5n6n7.out.on (Kp.refl No _) (by intro b hb hF;exact ⟨id,by omega⟩)
theorem funcrb_c (p:Int) (ro:Int) (rf:Fs) (rc:Int) (np:Int) (s0:ByteArray) (o:Int) (ps:Fs) (c:Int) (b:Bool) (o':Int) (rs:Fs) (c':Int) (bo bc:Int) (wz:World) (B:Nat) (s at_:Value) (hI:Ints wz B at_ (p::(ro::(rf.toks true true false++rc::(np::((Ty.sig p o ps c b o' rs c').toks true++(bo::bc::[]))))))) (hl:Ls wz B s [fl rf.nds,(Ty.sig p o ps c b o' rs c').nd,Nd.mk ⟨#[98,111,100,121]⟩ ⟨#[]⟩ []]) (hBw:B≤wz.heap.size) (hT:Tok wz) (hrf:rf.ok false) (hsg:(Ty.sig p o ps c b o' rs c').ok false) (hsz:Nd.sizeL [fl rf.nds,(Ty.sig p o ps c b o' rs c').nd,Nd.mk ⟨#[98,111,100,121]⟩ ⟨#[]⟩ []]≤400) :
 Calls Tryz.prog 15 #[.agg #[.string ⟨#[102,117,110,99]⟩,.string s0,s],at_] wz fun e w' =>
  (∃ v,e=.returned (.iface 66 v)∧Dc.At w' (Fr wz.heap.size) (.func p (some (ro,rf,rc)) np s0 o ps c b o' rs c' (some (bo,bc))) v)∧Kp No wz w':=by
 obtain ⟨tk,htk⟩:∃ t,(p::(ro::(rf.toks true true false++rc::(np::((Ty.sig p o ps c b o' rs c').toks true++(bo::bc::[]))))))=t:=⟨_,rfl⟩
 rw [htk] at hI
 obtain ⟨q,c0,rfl,hc0,_⟩:=id hl
 obtain ⟨ip,ic,rfl,_⟩:=id hI
 have HI:=hd_ hI
 clear hI
 generalize List.length tk=tn at *
 have HL0:=hd_ hl;have HT0:=hd_ hT;have HO:=hd_ hsg;have HS:=hd_ hsz
 have HRF:=hd_ hrf;clear hrf
 simp only [lc_,ln_,Nat.reduceAdd] at hc0 HL0 ⊢
 clear hl hsg hsz hT
 go_enter Tryz.func15,Tryz.ntmps15
 go_wp2_with fail
 obtain ⟨w,hw⟩:∃ W,(wz.alloc (.cells #[.string ⟨#[102,117,110,99]⟩,.string s0,.slice q 3 c0] 24)).alloc (.cells #[.slice ip tn ic] 65)=W:=⟨_,rfl⟩
 rw [hw]
 have hx0:w.heap[wz.heap.size]?=some (.cells #[.string ⟨#[102,117,110,99]⟩,.string s0,.slice q 3 c0] 24 (0,0)):=by rw [← hw];exact allocOf (newOf wz _) _
 have hb0:w.heap[wz.heap.size+1]?=some (.cells #[.slice ip tn ic] 65 (0,0)):=by rw [← hw];exact newOf2 wz _ _
 have hk0:Kp No wz w:=by rw [← hw];exact ((Kp.refl No wz).alloc _).alloc _
 have szz:w.heap.size=wz.heap.size+2:=by rw [← hw];simp
 have HB0:Hid (Bld w (wz.heap.size+1) (p::(ro::(rf.toks true true false++rc::(np::((Ty.sig p o ps c b o' rs c').toks true++(bo::bc::[]))))))):=by rw [htk];exact ⟨_,hb0,(HI.out.stay (fun b hb=>hk0.block b (Nat.lt_of_lt_of_le hb hBw) id)).up (by omega)⟩
 have HL:Hid (Ls w B (.slice q 3 c0) [fl rf.nds,(Ty.sig p o ps c b o' rs c').nd,Nd.mk ⟨#[98,111,100,121]⟩ ⟨#[]⟩ []]):=HL0.out.below hk0 hBw fun b hb h=>h
 have HT:Hid (Tok w):=HT0.out.stay hk0 id
 have HX0:=hd_ hx0
 have x0:=cO hx0 0 _ rfl;have x1:=cO hx0 1 _ rfl;have x2:=cO hx0 2 _ rfl;have xs:=ltb hx0
 have HK0:=hd_ hk0
 clear hx0 hb0 hk0 hw HI HL0 HT0
 generalize hnb:wz.heap.size=nb at *
 generalize hbb:nb+1=bb at *
 have hlt:bb < w.heap.size:=by omega
 have hBb:B≤bb:=by omega
 go_wp2_with fail
 refine (next_c _ bb (p) ((ro::(rf.toks true true false++rc::(np::((Ty.sig p o ps c b o' rs c').toks true++(bo::bc::[])))))) (HB0.out.on (Kp.refl (On (w.heap.size+1000000)) w) (by omega))).mono ?_
 rintro e w1 ⟨rfl,hB1,hK1⟩
 have sz1:w.heap.size≤w1.heap.size:=by have:=hK1.size;(try simp at this);omega
 have KT1:Kp (fun k=>k=bb∨k=bb) w w1:=(Kp.refl (fun k=>k=bb∨k=bb) w).trans hK1 (by intro i hi h;first | exact (h:False).elim | omega)
 obtain ⟨xb1,x0,x1,x2,xs⟩:=box3 HX0.out KT1 (by omega)
 clear HX0
 have HX1:=hd_ xb1;clear xb1
 have k1:Kp (On bb) w w1:=KT1.mono (by intro i hi h;omega)
 have HK1:=hd_ k1;clear k1 KT1
 have HB1:=hd_ hB1;clear hB1 HB0
 have szw1:w.heap.size≤w1.heap.size:=by omega
 clear hK1
 go_wp2_with fail
 go_region_law
  (first
    | (refine step_is_call 41 rfl ?_
       go_simp
       go_at_call 41
       refine (kid_c w1.drew B _ _ _ _ 0 (fl rf.nds) (HL.out.below (HK1.out.trans ((Kp.refl (On (w.heap.size+1000000)) w1).drew) (by intro i hi h;omega)) (by omega) (fun b hb=>On.not' (by omega))) (by decide) rfl).mono ?_
       rintro e w2 ⟨⟨u2,rfl,hu2⟩,hK2⟩
       have sz2:w1.heap.size≤w2.heap.size:=hK2.size
       have KT2:Kp (fun k=>k=bb∨k=bb) w1 w2:=((Kp.refl (fun k=>k=bb∨k=bb) w1).drew).trans hK2 (by intro i hi h;first | exact (h:False).elim | omega)
       have hB2:=(HB1.out.on ((Kp.refl (On (w.heap.size+1000000)) w1).drew) (by omega)).no hK2
       obtain ⟨xb2,x0,x1,x2,xs⟩:=box3 HX1.out KT2 (by omega)
       clear HX1
       have HX2:=hd_ xb2;clear xb2
       have k2:Kp (On bb) w w2:=HK1.out.trans KT2 (by intro i hi h;omega)
       clear HK1
       have HK2:=hd_ k2;clear k2 KT2
       have HB2:=hd_ hB2;clear hB2 HB1
       have szw2:w.heap.size≤w2.heap.size:=by omega
       have HU2:=hd_ (hu2.below hK2 (show B≤w1.heap.size by omega) (fun _ _ h=>h.elim));clear hu2 hK2)
    | (refine step_is_call 40 rfl ?_
       go_simp
       go_at_call 40
       have HP:=hd_ (params_a rf)
       refine (HP.out _ B bb _ ro rc (np::((Ty.sig p o ps c b o' rs c').toks true++(bo::bc::[]))) (HB2.out.on (Kp.refl (On (w.heap.size+1000000)) w2) (by omega)) (Nd.In_iff.1 HU2.out) hBb HRF.out (by have:=HS.out;simp [Nd.sizeL,fl,Nd.size] at this;omega)).mono ?_
       rintro e w3 ⟨⟨v,rfl,hv3⟩,hB3,hK3⟩
       have sz3:w2.heap.size≤w3.heap.size:=by have:=hK3.size;(try simp at this);omega
       have KT3:Kp (fun k=>k=bb∨k=bb) w2 w3:=(Kp.refl (fun k=>k=bb∨k=bb) w2).trans hK3 (by intro i hi h;first | exact (h:False).elim | omega)
       obtain ⟨xb3,x0,x1,x2,xs⟩:=box3 HX2.out KT3 (by omega)
       clear HX2
       have HX3:=hd_ xb3;clear xb3
       have hw3:FlAt w3 (Fr (w2.heap.size)) ro rf rc v:=hv3.on (Kp.refl No _) (by intro b hb hF;(try simp at hF);exact ⟨id,by omega⟩)
       clear hv3
       obtain ⟨vb,rfl⟩:=hw3.ptr
       have HV3:=hd_ hw3;clear hw3
       have k3:Kp (On bb) w w3:=HK2.out.trans KT3 (by intro i hi h;omega)
       clear HK2
       have HK3:=hd_ k3;clear k3 KT3
       have HB3:=hd_ hB3;clear hB3 HB2
       have szw3:w.heap.size≤w3.heap.size:=by omega
       clear hK3 HU2)
    | (refine step_is_call 42 rfl ?_
       go_simp
       go_at_call 42
       refine (ident_c _ bb (s0) (np) ((Ty.sig p o ps c b o' rs c').toks true++(bo::bc::[])) (HB3.out.on (Kp.refl (On (w.heap.size+1000000)) w3) (by omega))).mono ?_
       rintro e w4 ⟨⟨i0,rfl,hv4⟩,hB4,hK4⟩
       have sz4:w3.heap.size≤w4.heap.size:=by have:=hK4.size;(try simp at this);omega
       have KT4:Kp (fun k=>k=bb∨k=bb) w3 w4:=(Kp.refl (fun k=>k=bb∨k=bb) w3).trans hK4 (by intro i hi h;first | exact (h:False).elim | omega)
       obtain ⟨xb4,x0,x1,x2,xs⟩:=box3 HX3.out KT4 (by omega)
       clear HX3
       have HX4:=hd_ xb4;clear xb4
       have HV3_4:FlAt w4 (Fr (w2.heap.size)) ro rf rc (.pointer (some ⟨vb,0,none⟩)):=HV3.out.on KT4 (by intro b hb hF;omega)
       have HV3n4:=hd_ HV3_4;clear HV3_4 HV3
       have hw4:IdAt w4 (Fr (w3.heap.size)) (np) (s0) i0:=hv4.on (Kp.refl No _) (by intro b hb hF;(try simp at hF);exact ⟨id,by omega⟩)
       clear hv4
       obtain ⟨i0b,rfl⟩:=hw4.ptr
       have HV4:=hd_ hw4;clear hw4
       have k4:Kp (On bb) w w4:=HK3.out.trans KT4 (by intro i hi h;omega)
       clear HK3
       have HK4:=hd_ k4;clear k4 KT4
       have HB4:=hd_ hB4;clear hB4 HB3
       have szw4:w.heap.size≤w4.heap.size:=by omega
       clear hK4))
 all_goals
  go_wp2_with fail
  refine (kid_c _ B _ _ _ _ 1 ((Ty.sig p o ps c b o' rs c').nd) (HL.out.below (HK4.out.trans ((Kp.refl (On w4.heap.size) w4).alloc _) (by intro i hi h;omega)) (by omega) (fun b hb=>On.not' (by omega))) (by decide) rfl).mono ?_
  rintro e w5 ⟨⟨u5,rfl,hu5⟩,hK5⟩
  have sz5:w4.heap.size≤w5.heap.size:=by have:=hK5.size;(try simp at this);omega
  have KT5:Kp (fun k=>k=bb∨k=w4.heap.size) w4 w5:=((Kp.refl (fun k=>k=bb∨k=w4.heap.size) w4).alloc _).trans hK5 (by intro i hi h;first | exact (h:False).elim | omega)
  have hB5:=(HB4.out.on ((Kp.refl (On w4.heap.size) w4).alloc _) (by omega)).no hK5
  obtain ⟨xb5,x0,x1,x2,xs⟩:=box3 HX4.out KT5 (by omega)
  clear HX4
  have HX5:=hd_ xb5;clear xb5
  have xk5:w5.heap[w4.heap.size]?=some (.cells #[.pointer none,(.pointer (some ⟨vb,0,none⟩)),(.pointer (some ⟨i0b,0,none⟩)),.pointer none,.pointer none] 76 (0,0)):=hK5.at (newOf w4 _) (by exact id)
  have z0:=cO xk5 0 _ rfl;have f0:=fO xk5 0
  have z1:=cO xk5 1 _ rfl;have f1:=fO xk5 1
  have z2:=cO xk5 2 _ rfl;have f2:=fO xk5 2
  have z3:=cO xk5 3 _ rfl;have f3:=fO xk5 3
  have z4:=cO xk5 4 _ rfl;have f4:=fO xk5 4
  have zs5:=ltb xk5
  have HP5:=hd_ xk5;clear xk5
  have HV3n4_5:FlAt w5 (Av (w2.heap.size) (w4.heap.size)) ro rf rc (.pointer (some ⟨vb,0,none⟩)):=HV3n4.out.on KT5 (by intro b hb hF;omega)
  have HV3n4n5:=hd_ HV3n4_5;clear HV3n4_5 HV3n4
  have HV4_5:IdAt w5 (Av (w3.heap.size) (w4.heap.size)) (np) (s0) (.pointer (some ⟨i0b,0,none⟩)):=HV4.out.on KT5 (by intro b hb hF;omega)
  have HV4n5:=hd_ HV4_5;clear HV4_5 HV4
  have k5:Kp (On bb) w w5:=HK4.out.trans KT5 (by intro i hi h;omega)
  clear HK4
  have HK5:=hd_ k5;clear k5 KT5
  have HB5:=hd_ hB5;clear hB5 HB4
  have szw5:w.heap.size≤w5.heap.size:=by omega
  have HU5:=hd_ (hu5.below hK5 (by (try simp);omega) (fun _ _ h=>h.elim));clear hu5 hK5
  have HG:=hd_ (sig_a (Ty.sig p o ps c b o' rs c'))
  go_wp2_with fail
  refine (HG.out _ B bb _ p o ps c b o' rs c' (bo::bc::[]) rfl (HB5.out.on (Kp.refl (On w4.heap.size) w5) (by omega)) HU5.out hBb (by have:=HO.out;simp only [Ty.ok,Bool.false_eq_true,if_false] at this;simp only [Ty.ok,if_true];exact ⟨trivial,this.2⟩) (by have:=HS.out;simp only [Nd.sizeL] at this;omega)).mono ?_
  rintro e w6 ⟨⟨y,rfl,hv6⟩,hB6,hK6⟩
  have sz6:w5.heap.size≤w6.heap.size:=by have:=hK6.size;(try simp at this);omega
  have KT6:Kp (fun k=>k=bb∨k=w4.heap.size) w5 w6:=(Kp.refl (fun k=>k=bb∨k=w4.heap.size) w5).trans hK6 (by intro i hi h;first | exact (h:False).elim | omega)
  obtain ⟨xb6,x0,x1,x2,xs⟩:=box3 HX5.out KT6 (by omega)
  clear HX5
  have HX6:=hd_ xb6;clear xb6
  clear z0 f0 z1 f1 z2 f2 z3 f3 z4 f4
  have xk6:w6.heap[w4.heap.size]?=some (.cells #[.pointer none,(.pointer (some ⟨vb,0,none⟩)),(.pointer (some ⟨i0b,0,none⟩)),.pointer none,.pointer none] 76 (0,0)):=hK6.at HP5.out (by exact On.not (by omega))
  have z0:=cO xk6 0 _ rfl;have f0:=fO xk6 0
  have z1:=cO xk6 1 _ rfl;have f1:=fO xk6 1
  have z2:=cO xk6 2 _ rfl;have f2:=fO xk6 2
  have z3:=cO xk6 3 _ rfl;have f3:=fO xk6 3
  have z4:=cO xk6 4 _ rfl;have f4:=fO xk6 4
  have zs6:=ltb xk6
  have HP6:=hd_ xk6;clear xk6 HP5
  have HV3n4n5_6:FlAt w6 (Av (w2.heap.size) (w4.heap.size)) ro rf rc (.pointer (some ⟨vb,0,none⟩)):=HV3n4n5.out.on KT6 (by intro b hb hF;omega)
  have HV3n4n5n6:=hd_ HV3n4n5_6;clear HV3n4n5_6 HV3n4n5
  have HV4n5_6:IdAt w6 (Av (w3.heap.size) (w4.heap.size)) (np) (s0) (.pointer (some ⟨i0b,0,none⟩)):=HV4n5.out.on KT6 (by intro b hb hF;omega)
  have HV4n5n6:=hd_ HV4n5_6;clear HV4n5_6 HV4n5
  have hw6:Ty.At w6 (Av (w5.heap.size) (w4.heap.size)) (Ty.sig p o ps c b o' rs c') y:=hv6.on (Kp.refl No _) (by intro b hb hF;(try simp at hF);exact ⟨id,by omega⟩)
  clear hv6
  obtain ⟨yb,rfl⟩:=hw6.ptr
  have HV6:=hd_ hw6;clear hw6
  have k6:Kp (On bb) w w6:=HK5.out.trans KT6 (by intro i hi h;omega)
  clear HK5
  have HK6:=hd_ k6;clear k6 KT6
  have HB6:=hd_ hB6;clear hB6 HB5
  have szw6:w.heap.size≤w6.heap.size:=by omega
  clear hK6 HU5
  go_wp2_with fail
  refine (kid_c _ B _ _ _ _ 2 (Nd.mk ⟨#[98,111,100,121]⟩ ⟨#[]⟩ []) (HL.out.below (HK6.out.trans ((Kp.refl (On w4.heap.size) w6).setCell (p:=⟨w4.heap.size,3,none⟩) (fun _=>rfl) _) (by intro i hi h;omega)) (by omega) (fun b hb=>On.not' (by omega))) (by decide) rfl).mono ?_
  rintro e w7 ⟨⟨u7,rfl,hu7⟩,hK7⟩
  have sz7:w6.heap.size≤w7.heap.size:=by have:=hK7.size;(try simp at this);omega
  have KT7:Kp (fun k=>k=bb∨k=w4.heap.size) w6 w7:=((Kp.refl (fun k=>k=bb∨k=w4.heap.size) w6).setCell (p:=⟨w4.heap.size,3,none⟩) (fun _=>.inr rfl) _).trans hK7 (by intro i hi h;first | exact (h:False).elim | omega)
  have hB7:=(HB6.out.on ((Kp.refl (On w4.heap.size) w6).setCell (p:=⟨w4.heap.size,3,none⟩) (fun _=>rfl) _) (by omega)).no hK7
  obtain ⟨xb7,x0,x1,x2,xs⟩:=box3 HX6.out KT7 (by omega)
  clear HX6
  have HX7:=hd_ xb7;clear xb7
  clear z0 f0 z1 f1 z2 f2 z3 f3 z4 f4
  have xk7:w7.heap[w4.heap.size]?=some (.cells #[.pointer none,(.pointer (some ⟨vb,0,none⟩)),(.pointer (some ⟨i0b,0,none⟩)),(.pointer (some ⟨yb,0,none⟩)),.pointer none] 76 (0,0)):=hK7.at (setOf HP6.out 3 _) (by exact id)
  have z0:=cO xk7 0 _ rfl;have f0:=fO xk7 0
  have z1:=cO xk7 1 _ rfl;have f1:=fO xk7 1
  have z2:=cO xk7 2 _ rfl;have f2:=fO xk7 2
  have z3:=cO xk7 3 _ rfl;have f3:=fO xk7 3
  have z4:=cO xk7 4 _ rfl;have f4:=fO xk7 4
  have zs7:=ltb xk7
  have HP7:=hd_ xk7;clear xk7 HP6
  have HV3n4n5n6_7:FlAt w7 (Av (w2.heap.size) (w4.heap.size)) ro rf rc (.pointer (some ⟨vb,0,none⟩)):=HV3n4n5n6.out.on KT7 (by intro b hb hF;omega)
  have HV3n4n5n6n7:=hd_ HV3n4n5n6_7;clear HV3n4n5n6_7 HV3n4n5n6
  have HV4n5n6_7:IdAt w7 (Av (w3.heap.size) (w4.heap.size)) (np) (s0) (.pointer (some ⟨i0b,0,none⟩)):=HV4n5n6.out.on KT7 (by intro b hb hF;omega)
  have HV4n5n6n7:=hd_ HV4n5n6_7;clear HV4n5n6_7 HV4n5n6
  have HV6_7:Ty.At w7 (Av (w5.heap.size) (w4.heap.size)) (Ty.sig p o ps c b o' rs c') (.pointer (some ⟨yb,0,none⟩)):=HV6.out.on KT7 (by intro b hb hF;omega)
  have HV6n7:=hd_ HV6_7;clear HV6_7 HV6
  have k7:Kp (On bb) w w7:=HK6.out.trans KT7 (by intro i hi h;omega)
  clear HK6
  have HK7:=hd_ k7;clear k7 KT7
  have HB7:=hd_ hB7;clear hB7 HB6
  have szw7:w.heap.size≤w7.heap.size:=by omega
  have HU7:=hd_ (hu7.below hK7 (by (try simp);omega) (fun _ _ h=>h.elim));clear hu7 hK7
  simp only [Nd.miss,Nd.k,Nd.t]
  clear HU7
  go_wp2_with fail
  refine (next_c _ bb (bo) (bc::[]) (HB7.out.on (Kp.refl (On w4.heap.size) w7) (by omega))).mono ?_
  rintro e w8 ⟨rfl,hB8,hK8⟩
  have sz8:w7.heap.size≤w8.heap.size:=by have:=hK8.size;(try simp at this);omega
  have KT8:Kp (fun k=>k=bb∨k=w4.heap.size) w7 w8:=(Kp.refl (fun k=>k=bb∨k=w4.heap.size) w7).trans hK8 (by intro i hi h;first | exact (h:False).elim | omega)
  obtain ⟨xb8,x0,x1,x2,xs⟩:=box3 HX7.out KT8 (by omega)
  clear HX7
  have HX8:=hd_ xb8;clear xb8
  clear z0 f0 z1 f1 z2 f2 z3 f3 z4 f4
  have xk8:w8.heap[w4.heap.size]?=some (.cells #[.pointer none,(.pointer (some ⟨vb,0,none⟩)),(.pointer (some ⟨i0b,0,none⟩)),(.pointer (some ⟨yb,0,none⟩)),.pointer none] 76 (0,0)):=hK8.at HP7.out (by exact On.not (by omega))
  have z0:=cO xk8 0 _ rfl;have f0:=fO xk8 0
  have z1:=cO xk8 1 _ rfl;have f1:=fO xk8 1
  have z2:=cO xk8 2 _ rfl;have f2:=fO xk8 2
  have z3:=cO xk8 3 _ rfl;have f3:=fO xk8 3
  have z4:=cO xk8 4 _ rfl;have f4:=fO xk8 4
  have zs8:=ltb xk8
  have HP8:=hd_ xk8;clear xk8 HP7
  have HV3n4n5n6n7_8:FlAt w8 (Av (w2.heap.size) (w4.heap.size)) ro rf rc (.pointer (some ⟨vb,0,none⟩)):=HV3n4n5n6n7.out.on KT8 (by intro b hb hF;omega)
  have HV3n4n5n6n7n8:=hd_ HV3n4n5n6n7_8;clear HV3n4n5n6n7_8 HV3n4n5n6n7
  have HV4n5n6n7_8:IdAt w8 (Av (w3.heap.size) (w4.heap.size)) (np) (s0) (.pointer (some ⟨i0b,0,none⟩)):=HV4n5n6n7.out.on KT8 (by intro b hb hF;omega)
  have HV4n5n6n7n8:=hd_ HV4n5n6n7_8;clear HV4n5n6n7_8 HV4n5n6n7
  have HV6n7_8:Ty.At w8 (Av (w5.heap.size) (w4.heap.size)) (Ty.sig p o ps c b o' rs c') (.pointer (some ⟨yb,0,none⟩)):=HV6n7.out.on KT8 (by intro b hb hF;omega)
  have HV6n7n8:=hd_ HV6n7_8;clear HV6n7_8 HV6n7
  have k8:Kp (On bb) w w8:=HK7.out.trans KT8 (by intro i hi h;omega)
  clear HK7
  have HK8:=hd_ k8;clear k8 KT8
  have HB8:=hd_ hB8;clear hB8 HB7
  have szw8:w.heap.size≤w8.heap.size:=by omega
  clear hK8
  go_wp2_with fail
  obtain ⟨wm,hwm⟩:∃ W,(w8.setCell ⟨w4.heap.size,4,none⟩ (.pointer (some ⟨w8.heap.size,0,none⟩))).alloc (.cells #[.int .i64 bo,.slice none 0 0,.int .i64 0] 80)=W:=⟨_,rfl⟩
  rw [hwm]
  have hfm:wm.heap[w4.heap.size]?=some (.cells #[.pointer none,(.pointer (some ⟨vb,0,none⟩)),(.pointer (some ⟨i0b,0,none⟩)),(.pointer (some ⟨yb,0,none⟩)),(.pointer (some ⟨w8.heap.size,0,none⟩))] 76 (0,0)):=by rw [← hwm];exact allocOf (setOf HP8.out 4 _) _
  have hbm:wm.heap[w8.heap.size]?=some (.cells #[.int .i64 bo,.slice none 0 0,.int .i64 0] 80 (0,0)):=by rw [← hwm];simpa [World.setCell] using newOf (w8.setCell ⟨w4.heap.size,4,none⟩ (.pointer (some ⟨w8.heap.size,0,none⟩))) (.cells #[.int .i64 bo,.slice none 0 0,.int .i64 0] 80)
  have hkm:Kp (On w4.heap.size) w8 wm:=by rw [← hwm];exact ((Kp.refl (On w4.heap.size) w8).setCell (p:=⟨w4.heap.size,4,none⟩) (fun _=>rfl) _).alloc _
  have szm:wm.heap.size=w8.heap.size+1:=by rw [← hwm];simp [World.setCell]
  have hBm:=HB8.out.on hkm (by omega)
  have y4:=cO hfm 4 _ rfl;have g2:=fO hbm 2;have c2:=cO hbm 2 _ rfl;have c0_:=cO hbm 0 _ rfl;have c1_:=cO hbm 1 _ rfl
  have l1:=ltb hfm;have l2:=ltb hbm
  have n1:=World.new_ne wm _ y4;have n2:=World.new_ne wm _ c2
  have HM:=a4_ hfm hbm hkm hBm
  clear hwm hfm hbm hkm hBm z0 f0 z1 f1 z2 f2 z3 f3 z4 f4
  have FC0:=next_c wm.drew bb bc [] HM.out.2.2.2
  have FC:=hd_ FC0;clear FC0
  go_region_law
   (first
     | (refine step_is_call 39 rfl ?_;go_simp;go_at_call 39;refine FC.out.mono ?_;rintro e wn ⟨rfl,hBn,hKn⟩
        have szn:wm.heap.size≤wn.heap.size:=hKn.size
        have yn4:=(hKn.cell (show w4.heap.size < wm.heap.size by omega) (by omega)).trans y4
        have gn2:=(hKn.frozen (show w8.heap.size < wm.heap.size by omega) (by omega)).trans g2
        have cn2:=(hKn.cell (show w8.heap.size < wm.heap.size by omega) (by omega)).trans c2
        have ln1:w4.heap.size < wn.heap.size:=by omega
        have ln2:w8.heap.size < wn.heap.size:=by omega
        have HN:=hd_ hKn
        clear hBn hKn))
  all_goals
   go_wp2_with fail
   go_ret
   obtain ⟨hfm,hbm,hkm,hBm⟩:=HM.out
   have hKn:=HN.out
   have hKm:Kp (On bb) wm wn:=(Kp.refl (On bb) wm).drew.trans hKn (fun _ _ h=>h)
   have hs:=(Kp.refl (On w8.heap.size) wn).setCell (p:=⟨w8.heap.size,2,none⟩) (fun _=>rfl) (.int .i64 bc)
   have hall:Kp (fun k=>k=bb∨k=w4.heap.size) w8 (wn.setCell ⟨w8.heap.size,2,none⟩ (.int .i64 bc)):=((hkm.mono fun i hi h=>.inr h).trans hKm fun i hi h=>.inl h).trans hs (by intro i hi h;omega)
   refine ⟨⟨_,rfl,_,_,_,_,⟨_,rfl,by omega,hs.at (hKm.at hfm (by omega)) (by omega)⟩,?_,HV4n5n6n7n8.out.on hall (by intro b hb hF;omega),HV6n7n8.out.on hall (by intro b hb hF;omega),⟨_,rfl,by omega,setOf (hKm.at hbm (by omega)) 2 _⟩⟩,(HK0.out.trans HK8.out (by intro i hi h;omega)).trans hall (by intro i hi h;omega)⟩
   exact HV3n4n5n6n7n8.out.on hall (by intro b hb hF;omega)
end
section
open Go Go.RowKit
attribute [local go_sem ↓] Go.wp_at_zero Go.wp_at_succ
attribute [local go_sem] node_field0 node_field1 node_field2
theorem funcnn_c (p:Int) (np:Int) (s0:ByteArray) (o:Int) (ps:Fs) (c:Int) (b:Bool) (o':Int) (rs:Fs) (c':Int)  (wz:World) (B:Nat) (s at_:Value) (hI:Ints wz B at_ (p::((np::((Ty.sig p o ps c b o' rs c').toks true++([])))))) (hl:Ls wz B s [Nd.miss,(Ty.sig p o ps c b o' rs c').nd,Nd.miss]) (hBw:B≤wz.heap.size) (hT:Tok wz) (hsg:(Ty.sig p o ps c b o' rs c').ok false) (hsz:Nd.sizeL [Nd.miss,(Ty.sig p o ps c b o' rs c').nd,Nd.miss]≤400) :
 Calls Tryz.prog 15 #[.agg #[.string ⟨#[102,117,110,99]⟩,.string s0,s],at_] wz fun e w' =>
  (∃ v,e=.returned (.iface 66 v)∧Dc.At w' (Fr wz.heap.size) (.func p none np s0 o ps c b o' rs c' none) v)∧Kp No wz w':=by
 obtain ⟨tk,htk⟩:∃ t,(p::((np::((Ty.sig p o ps c b o' rs c').toks true++([])))))=t:=⟨_,rfl⟩
 rw [htk] at hI
 obtain ⟨q,c0,rfl,hc0,_⟩:=id hl
 obtain ⟨ip,ic,rfl,_⟩:=id hI
 have HI:=hd_ hI
 clear hI
 generalize List.length tk=tn at *
 have HL0:=hd_ hl;have HT0:=hd_ hT;have HO:=hd_ hsg;have HS:=hd_ hsz
 simp only [lc_,ln_,Nat.reduceAdd] at hc0 HL0 ⊢
 clear hl hsg hsz hT
 go_enter Tryz.func15,Tryz.ntmps15
 go_wp2_with fail
 obtain ⟨w,hw⟩:∃ W,(wz.alloc (.cells #[.string ⟨#[102,117,110,99]⟩,.string s0,.slice q 3 c0] 24)).alloc (.cells #[.slice ip tn ic] 65)=W:=⟨_,rfl⟩
 rw [hw]
 have hx0:w.heap[wz.heap.size]?=some (.cells #[.string ⟨#[102,117,110,99]⟩,.string s0,.slice q 3 c0] 24 (0,0)):=by rw [← hw];exact allocOf (newOf wz _) _
 have hb0:w.heap[wz.heap.size+1]?=some (.cells #[.slice ip tn ic] 65 (0,0)):=by rw [← hw];exact newOf2 wz _ _
 have hk0:Kp No wz w:=by rw [← hw];exact ((Kp.refl No wz).alloc _).alloc _
 have szz:w.heap.size=wz.heap.size+2:=by rw [← hw];simp
 have HB0:Hid (Bld w (wz.heap.size+1) (p::((np::((Ty.sig p o ps c b o' rs c').toks true++([])))))):=by rw [htk];exact ⟨_,hb0,(HI.out.stay (fun b hb=>hk0.block b (Nat.lt_of_lt_of_le hb hBw) id)).up (by omega)⟩
 have HL:Hid (Ls w B (.slice q 3 c0) [Nd.miss,(Ty.sig p o ps c b o' rs c').nd,Nd.miss]):=HL0.out.below hk0 hBw fun b hb h=>h
 have HT:Hid (Tok w):=HT0.out.stay hk0 id
 have HX0:=hd_ hx0
 have x0:=cO hx0 0 _ rfl;have x1:=cO hx0 1 _ rfl;have x2:=cO hx0 2 _ rfl;have xs:=ltb hx0
 have HK0:=hd_ hk0
 clear hx0 hb0 hk0 hw HI HL0 HT0
 generalize hnb:wz.heap.size=nb at *
 generalize hbb:nb+1=bb at *
 have hlt:bb < w.heap.size:=by omega
 have hBb:B≤bb:=by omega
 go_wp2_with fail
 refine (next_c _ bb (p) (((np::((Ty.sig p o ps c b o' rs c').toks true++([]))))) (HB0.out.on (Kp.refl (On (w.heap.size+1000000)) w) (by omega))).mono ?_
 rintro e w1 ⟨rfl,hB1,hK1⟩
 have sz1:w.heap.size≤w1.heap.size:=by have:=hK1.size;(try simp at this);omega
 have KT1:Kp (fun k=>k=bb∨k=bb) w w1:=(Kp.refl (fun k=>k=bb∨k=bb) w).trans hK1 (by intro i hi h;first | exact (h:False).elim | omega)
 obtain ⟨xb1,x0,x1,x2,xs⟩:=box3 HX0.out KT1 (by omega)
 clear HX0
 have HX1:=hd_ xb1;clear xb1
 have k1:Kp (On bb) w w1:=KT1.mono (by intro i hi h;omega)
 have HK1:=hd_ k1;clear k1 KT1
 have HB1:=hd_ hB1;clear hB1 HB0
 have szw1:w.heap.size≤w1.heap.size:=by omega
 clear hK1
 go_wp2_with fail
 go_region_law
  (first
    | (refine step_is_call 41 rfl ?_
       go_simp
       go_at_call 41
       refine (kid_c w1.drew B _ _ _ _ 0 (Nd.miss) (HL.out.below (HK1.out.trans ((Kp.refl (On (w.heap.size+1000000)) w1).drew) (by intro i hi h;omega)) (by omega) (fun b hb=>On.not' (by omega))) (by decide) rfl).mono ?_
       rintro e w2 ⟨⟨u2,rfl,hu2⟩,hK2⟩
       have sz2:w1.heap.size≤w2.heap.size:=hK2.size
       have KT2:Kp (fun k=>k=bb∨k=bb) w1 w2:=((Kp.refl (fun k=>k=bb∨k=bb) w1).drew).trans hK2 (by intro i hi h;first | exact (h:False).elim | omega)
       have hB2:=(HB1.out.on ((Kp.refl (On (w.heap.size+1000000)) w1).drew) (by omega)).no hK2
       obtain ⟨xb2,x0,x1,x2,xs⟩:=box3 HX1.out KT2 (by omega)
       clear HX1
       have HX2:=hd_ xb2;clear xb2
       have k2:Kp (On bb) w w2:=HK1.out.trans KT2 (by intro i hi h;omega)
       clear HK1
       have HK2:=hd_ k2;clear k2 KT2
       have HB2:=hd_ hB2;clear hB2 HB1
       have szw2:w.heap.size≤w2.heap.size:=by omega
       have HU2:=hd_ (hu2.below hK2 (show B≤w1.heap.size by omega) (fun _ _ h=>h.elim));clear hu2 hK2)
    | (refine step_is_call 40 rfl ?_
       go_simp
       go_at_call 40
       refine (paramsmiss_c _ _ _ _ _ rfl).mono ?_
       rintro e w3 ⟨rfl,hK3⟩
       have sz3:w2.heap.size≤w3.heap.size:=by have:=hK3.size;(try simp at this);omega
       have KT3:Kp (fun k=>k=bb∨k=bb) w2 w3:=(Kp.refl (fun k=>k=bb∨k=bb) w2).trans hK3 (by intro i hi h;first | exact (h:False).elim | omega)
       have hB3:=(HB2.out.on (Kp.refl (On (w.heap.size+1000000)) w2) (by omega)).no hK3
       obtain ⟨xb3,x0,x1,x2,xs⟩:=box3 HX2.out KT3 (by omega)
       clear HX2
       have HX3:=hd_ xb3;clear xb3
       have k3:Kp (On bb) w w3:=HK2.out.trans KT3 (by intro i hi h;omega)
       clear HK2
       have HK3:=hd_ k3;clear k3 KT3
       have HB3:=hd_ hB3;clear hB3 HB2
       have szw3:w.heap.size≤w3.heap.size:=by omega
       clear hK3 HU2)
    | (refine step_is_call 42 rfl ?_
       go_simp
       go_at_call 42
       refine (ident_c _ bb (s0) (np) ((Ty.sig p o ps c b o' rs c').toks true++([])) (HB3.out.on (Kp.refl (On (w.heap.size+1000000)) w3) (by omega))).mono ?_
       rintro e w4 ⟨⟨i0,rfl,hv4⟩,hB4,hK4⟩
       have sz4:w3.heap.size≤w4.heap.size:=by have:=hK4.size;(try simp at this);omega
       have KT4:Kp (fun k=>k=bb∨k=bb) w3 w4:=(Kp.refl (fun k=>k=bb∨k=bb) w3).trans hK4 (by intro i hi h;first | exact (h:False).elim | omega)
       obtain ⟨xb4,x0,x1,x2,xs⟩:=box3 HX3.out KT4 (by omega)
       clear HX3
       have HX4:=hd_ xb4;clear xb4
       have hw4:IdAt w4 (Fr (w3.heap.size)) (np) (s0) i0:=hv4.on (Kp.refl No _) (by intro b hb hF;(try simp at hF);exact ⟨id,by omega⟩)
       clear hv4
       obtain ⟨i0b,rfl⟩:=hw4.ptr
       have HV4:=hd_ hw4;clear hw4
       have k4:Kp (On bb) w w4:=HK3.out.trans KT4 (by intro i hi h;omega)
       clear HK3
       have HK4:=hd_ k4;clear k4 KT4
       have HB4:=hd_ hB4;clear hB4 HB3
       have szw4:w.heap.size≤w4.heap.size:=by omega
       clear hK4))
 all_goals
  go_wp2_with fail
  refine (kid_c _ B _ _ _ _ 1 ((Ty.sig p o ps c b o' rs c').nd) (HL.out.below (HK4.out.trans ((Kp.refl (On w4.heap.size) w4).alloc _) (by intro i hi h;omega)) (by omega) (fun b hb=>On.not' (by omega))) (by decide) rfl).mono ?_
  rintro e w5 ⟨⟨u5,rfl,hu5⟩,hK5⟩
  have sz5:w4.heap.size≤w5.heap.size:=by have:=hK5.size;(try simp at this);omega
  have KT5:Kp (fun k=>k=bb∨k=w4.heap.size) w4 w5:=((Kp.refl (fun k=>k=bb∨k=w4.heap.size) w4).alloc _).trans hK5 (by intro i hi h;first | exact (h:False).elim | omega)
  have hB5:=(HB4.out.on ((Kp.refl (On w4.heap.size) w4).alloc _) (by omega)).no hK5
  obtain ⟨xb5,x0,x1,x2,xs⟩:=box3 HX4.out KT5 (by omega)
  clear HX4
  have HX5:=hd_ xb5;clear xb5
  have xk5:w5.heap[w4.heap.size]?=some (.cells #[.pointer none,.pointer none,(.pointer (some ⟨i0b,0,none⟩)),.pointer none,.pointer none] 76 (0,0)):=hK5.at (newOf w4 _) (by exact id)
  have z0:=cO xk5 0 _ rfl;have f0:=fO xk5 0
  have z1:=cO xk5 1 _ rfl;have f1:=fO xk5 1
  have z2:=cO xk5 2 _ rfl;have f2:=fO xk5 2
  have z3:=cO xk5 3 _ rfl;have f3:=fO xk5 3
  have z4:=cO xk5 4 _ rfl;have f4:=fO xk5 4
  have zs5:=ltb xk5
  have HP5:=hd_ xk5;clear xk5
  have HV4_5:IdAt w5 (Av (w3.heap.size) (w4.heap.size)) (np) (s0) (.pointer (some ⟨i0b,0,none⟩)):=HV4.out.on KT5 (by intro b hb hF;omega)
  have HV4n5:=hd_ HV4_5;clear HV4_5 HV4
  have k5:Kp (On bb) w w5:=HK4.out.trans KT5 (by intro i hi h;omega)
  clear HK4
  have HK5:=hd_ k5;clear k5 KT5
  have HB5:=hd_ hB5;clear hB5 HB4
  have szw5:w.heap.size≤w5.heap.size:=by omega
  have HU5:=hd_ (hu5.below hK5 (by (try simp);omega) (fun _ _ h=>h.elim));clear hu5 hK5
  have HG:=hd_ (sig_a (Ty.sig p o ps c b o' rs c'))
  go_wp2_with fail
  refine (HG.out _ B bb _ p o ps c b o' rs c' ([]) rfl (HB5.out.on (Kp.refl (On w4.heap.size) w5) (by omega)) HU5.out hBb (by have:=HO.out;simp only [Ty.ok,Bool.false_eq_true,if_false] at this;simp only [Ty.ok,if_true];exact ⟨trivial,this.2⟩) (by have:=HS.out;simp only [Nd.sizeL] at this;omega)).mono ?_
  rintro e w6 ⟨⟨y,rfl,hv6⟩,hB6,hK6⟩
  have sz6:w5.heap.size≤w6.heap.size:=by have:=hK6.size;(try simp at this);omega
  have KT6:Kp (fun k=>k=bb∨k=w4.heap.size) w5 w6:=(Kp.refl (fun k=>k=bb∨k=w4.heap.size) w5).trans hK6 (by intro i hi h;first | exact (h:False).elim | omega)
  obtain ⟨xb6,x0,x1,x2,xs⟩:=box3 HX5.out KT6 (by omega)
  clear HX5
  have HX6:=hd_ xb6;clear xb6
  clear z0 f0 z1 f1 z2 f2 z3 f3 z4 f4
  have xk6:w6.heap[w4.heap.size]?=some (.cells #[.pointer none,.pointer none,(.pointer (some ⟨i0b,0,none⟩)),.pointer none,.pointer none] 76 (0,0)):=hK6.at HP5.out (by exact On.not (by omega))
  have z0:=cO xk6 0 _ rfl;have f0:=fO xk6 0
  have z1:=cO xk6 1 _ rfl;have f1:=fO xk6 1
  have z2:=cO xk6 2 _ rfl;have f2:=fO xk6 2
  have z3:=cO xk6 3 _ rfl;have f3:=fO xk6 3
  have z4:=cO xk6 4 _ rfl;have f4:=fO xk6 4
  have zs6:=ltb xk6
  have HP6:=hd_ xk6;clear xk6 HP5
  have HV4n5_6:IdAt w6 (Av (w3.heap.size) (w4.heap.size)) (np) (s0) (.pointer (some ⟨i0b,0,none⟩)):=HV4n5.out.on KT6 (by intro b hb hF;omega)
  have HV4n5n6:=hd_ HV4n5_6;clear HV4n5_6 HV4n5
  have hw6:Ty.At w6 (Av (w5.heap.size) (w4.heap.size)) (Ty.sig p o ps c b o' rs c') y:=hv6.on (Kp.refl No _) (by intro b hb hF;(try simp at hF);exact ⟨id,by omega⟩)
  clear hv6
  obtain ⟨yb,rfl⟩:=hw6.ptr
  have HV6:=hd_ hw6;clear hw6
  have k6:Kp (On bb) w w6:=HK5.out.trans KT6 (by intro i hi h;omega)
  clear HK5
  have HK6:=hd_ k6;clear k6 KT6
  have HB6:=hd_ hB6;clear hB6 HB5
  have szw6:w.heap.size≤w6.heap.size:=by omega
  clear hK6 HU5
  go_wp2_with fail
  refine (kid_c _ B _ _ _ _ 2 (Nd.miss) (HL.out.below (HK6.out.trans ((Kp.refl (On w4.heap.size) w6).setCell (p:=⟨w4.heap.size,3,none⟩) (fun _=>rfl) _) (by intro i hi h;omega)) (by omega) (fun b hb=>On.not' (by omega))) (by decide) rfl).mono ?_
  rintro e w7 ⟨⟨u7,rfl,hu7⟩,hK7⟩
  have sz7:w6.heap.size≤w7.heap.size:=by have:=hK7.size;(try simp at this);omega
  have KT7:Kp (fun k=>k=bb∨k=w4.heap.size) w6 w7:=((Kp.refl (fun k=>k=bb∨k=w4.heap.size) w6).setCell (p:=⟨w4.heap.size,3,none⟩) (fun _=>.inr rfl) _).trans hK7 (by intro i hi h;first | exact (h:False).elim | omega)
  have hB7:=(HB6.out.on ((Kp.refl (On w4.heap.size) w6).setCell (p:=⟨w4.heap.size,3,none⟩) (fun _=>rfl) _) (by omega)).no hK7
  obtain ⟨xb7,x0,x1,x2,xs⟩:=box3 HX6.out KT7 (by omega)
  clear HX6
  have HX7:=hd_ xb7;clear xb7
  clear z0 f0 z1 f1 z2 f2 z3 f3 z4 f4
  have xk7:w7.heap[w4.heap.size]?=some (.cells #[.pointer none,.pointer none,(.pointer (some ⟨i0b,0,none⟩)),(.pointer (some ⟨yb,0,none⟩)),.pointer none] 76 (0,0)):=hK7.at (setOf HP6.out 3 _) (by exact id)
  have z0:=cO xk7 0 _ rfl;have f0:=fO xk7 0
  have z1:=cO xk7 1 _ rfl;have f1:=fO xk7 1
  have z2:=cO xk7 2 _ rfl;have f2:=fO xk7 2
  have z3:=cO xk7 3 _ rfl;have f3:=fO xk7 3
  have z4:=cO xk7 4 _ rfl;have f4:=fO xk7 4
  have zs7:=ltb xk7
  have HP7:=hd_ xk7;clear xk7 HP6
  have HV4n5n6_7:IdAt w7 (Av (w3.heap.size) (w4.heap.size)) (np) (s0) (.pointer (some ⟨i0b,0,none⟩)):=HV4n5n6.out.on KT7 (by intro b hb hF;omega)
  have HV4n5n6n7:=hd_ HV4n5n6_7;clear HV4n5n6_7 HV4n5n6
  have HV6_7:Ty.At w7 (Av (w5.heap.size) (w4.heap.size)) (Ty.sig p o ps c b o' rs c') (.pointer (some ⟨yb,0,none⟩)):=HV6.out.on KT7 (by intro b hb hF;omega)
  have HV6n7:=hd_ HV6_7;clear HV6_7 HV6
  have k7:Kp (On bb) w w7:=HK6.out.trans KT7 (by intro i hi h;omega)
  clear HK6
  have HK7:=hd_ k7;clear k7 KT7
  have HB7:=hd_ hB7;clear hB7 HB6
  have szw7:w.heap.size≤w7.heap.size:=by omega
  have HU7:=hd_ (hu7.below hK7 (by (try simp);omega) (fun _ _ h=>h.elim));clear hu7 hK7
  simp only [Nd.miss,Nd.k,Nd.t]
  clear HU7
  go_wp2_with fail
  go_ret
  refine ⟨⟨_,rfl,_,_,_,_,⟨_,rfl,by omega,HP7.out⟩,?_,HV4n5n6n7.out.on (Kp.refl No _) (by intro b hb hF;exact ⟨id,by omega⟩),HV6n7.out.on (Kp.refl No _) (by intro b hb hF;exact ⟨id,by omega⟩),rfl⟩,HK0.out.trans HK7.out (by intro i hi h;omega)⟩
  exact rfl
theorem funcnb_c (p:Int) (np:Int) (s0:ByteArray) (o:Int) (ps:Fs) (c:Int) (b:Bool) (o':Int) (rs:Fs) (c':Int) (bo bc:Int) (wz:World) (B:Nat) (s at_:Value) (hI:Ints wz B at_ (p::((np::((Ty.sig p o ps c b o' rs c').toks true++(bo::bc::[])))))) (hl:Ls wz B s [Nd.miss,(Ty.sig p o ps c b o' rs c').nd,Nd.mk ⟨#[98,111,100,121]⟩ ⟨#[]⟩ []]) (hBw:B≤wz.heap.size) (hT:Tok wz) (hsg:(Ty.sig p o ps c b o' rs c').ok false) (hsz:Nd.sizeL [Nd.miss,(Ty.sig p o ps c b o' rs c').nd,Nd.mk ⟨#[98,111,100,121]⟩ ⟨#[]⟩ []]≤400) :
 Calls Tryz.prog 15 #[.agg #[.string ⟨#[102,117,110,99]⟩,.string s0,s],at_] wz fun e w' =>
  (∃ v,e=.returned (.iface 66 v)∧Dc.At w' (Fr wz.heap.size) (.func p none np s0 o ps c b o' rs c' (some (bo,bc))) v)∧Kp No wz w':=by
 obtain ⟨tk,htk⟩:∃ t,(p::((np::((Ty.sig p o ps c b o' rs c').toks true++(bo::bc::[])))))=t:=⟨_,rfl⟩
 rw [htk] at hI
 obtain ⟨q,c0,rfl,hc0,_⟩:=id hl
 obtain ⟨ip,ic,rfl,_⟩:=id hI
 have HI:=hd_ hI
 clear hI
 generalize List.length tk=tn at *
 have HL0:=hd_ hl;have HT0:=hd_ hT;have HO:=hd_ hsg;have HS:=hd_ hsz
 simp only [lc_,ln_,Nat.reduceAdd] at hc0 HL0 ⊢
 clear hl hsg hsz hT
 go_enter Tryz.func15,Tryz.ntmps15
 go_wp2_with fail
 obtain ⟨w,hw⟩:∃ W,(wz.alloc (.cells #[.string ⟨#[102,117,110,99]⟩,.string s0,.slice q 3 c0] 24)).alloc (.cells #[.slice ip tn ic] 65)=W:=⟨_,rfl⟩
 rw [hw]
 have hx0:w.heap[wz.heap.size]?=some (.cells #[.string ⟨#[102,117,110,99]⟩,.string s0,.slice q 3 c0] 24 (0,0)):=by rw [← hw];exact allocOf (newOf wz _) _
 have hb0:w.heap[wz.heap.size+1]?=some (.cells #[.slice ip tn ic] 65 (0,0)):=by rw [← hw];exact newOf2 wz _ _
 have hk0:Kp No wz w:=by rw [← hw];exact ((Kp.refl No wz).alloc _).alloc _
 have szz:w.heap.size=wz.heap.size+2:=by rw [← hw];simp
 have HB0:Hid (Bld w (wz.heap.size+1) (p::((np::((Ty.sig p o ps c b o' rs c').toks true++(bo::bc::[])))))):=by rw [htk];exact ⟨_,hb0,(HI.out.stay (fun b hb=>hk0.block b (Nat.lt_of_lt_of_le hb hBw) id)).up (by omega)⟩
 have HL:Hid (Ls w B (.slice q 3 c0) [Nd.miss,(Ty.sig p o ps c b o' rs c').nd,Nd.mk ⟨#[98,111,100,121]⟩ ⟨#[]⟩ []]):=HL0.out.below hk0 hBw fun b hb h=>h
 have HT:Hid (Tok w):=HT0.out.stay hk0 id
 have HX0:=hd_ hx0
 have x0:=cO hx0 0 _ rfl;have x1:=cO hx0 1 _ rfl;have x2:=cO hx0 2 _ rfl;have xs:=ltb hx0
 have HK0:=hd_ hk0
 clear hx0 hb0 hk0 hw HI HL0 HT0
 generalize hnb:wz.heap.size=nb at *
 generalize hbb:nb+1=bb at *
 have hlt:bb < w.heap.size:=by omega
 have hBb:B≤bb:=by omega
 go_wp2_with fail
 refine (next_c _ bb (p) (((np::((Ty.sig p o ps c b o' rs c').toks true++(bo::bc::[]))))) (HB0.out.on (Kp.refl (On (w.heap.size+1000000)) w) (by omega))).mono ?_
 rintro e w1 ⟨rfl,hB1,hK1⟩
 have sz1:w.heap.size≤w1.heap.size:=by have:=hK1.size;(try simp at this);omega
 have KT1:Kp (fun k=>k=bb∨k=bb) w w1:=(Kp.refl (fun k=>k=bb∨k=bb) w).trans hK1 (by intro i hi h;first | exact (h:False).elim | omega)
 obtain ⟨xb1,x0,x1,x2,xs⟩:=box3 HX0.out KT1 (by omega)
 clear HX0
 have HX1:=hd_ xb1;clear xb1
 have k1:Kp (On bb) w w1:=KT1.mono (by intro i hi h;omega)
 have HK1:=hd_ k1;clear k1 KT1
 have HB1:=hd_ hB1;clear hB1 HB0
 have szw1:w.heap.size≤w1.heap.size:=by omega
 clear hK1
 go_wp2_with fail
 go_region_law
  (first
    | (refine step_is_call 41 rfl ?_
       go_simp
       go_at_call 41
       refine (kid_c w1.drew B _ _ _ _ 0 (Nd.miss) (HL.out.below (HK1.out.trans ((Kp.refl (On (w.heap.size+1000000)) w1).drew) (by intro i hi h;omega)) (by omega) (fun b hb=>On.not' (by omega))) (by decide) rfl).mono ?_
       rintro e w2 ⟨⟨u2,rfl,hu2⟩,hK2⟩
       have sz2:w1.heap.size≤w2.heap.size:=hK2.size
       have KT2:Kp (fun k=>k=bb∨k=bb) w1 w2:=((Kp.refl (fun k=>k=bb∨k=bb) w1).drew).trans hK2 (by intro i hi h;first | exact (h:False).elim | omega)
       have hB2:=(HB1.out.on ((Kp.refl (On (w.heap.size+1000000)) w1).drew) (by omega)).no hK2
       obtain ⟨xb2,x0,x1,x2,xs⟩:=box3 HX1.out KT2 (by omega)
       clear HX1
       have HX2:=hd_ xb2;clear xb2
       have k2:Kp (On bb) w w2:=HK1.out.trans KT2 (by intro i hi h;omega)
       clear HK1
       have HK2:=hd_ k2;clear k2 KT2
       have HB2:=hd_ hB2;clear hB2 HB1
       have szw2:w.heap.size≤w2.heap.size:=by omega
       have HU2:=hd_ (hu2.below hK2 (show B≤w1.heap.size by omega) (fun _ _ h=>h.elim));clear hu2 hK2)
    | (refine step_is_call 40 rfl ?_
       go_simp
       go_at_call 40
       refine (paramsmiss_c _ _ _ _ _ rfl).mono ?_
       rintro e w3 ⟨rfl,hK3⟩
       have sz3:w2.heap.size≤w3.heap.size:=by have:=hK3.size;(try simp at this);omega
       have KT3:Kp (fun k=>k=bb∨k=bb) w2 w3:=(Kp.refl (fun k=>k=bb∨k=bb) w2).trans hK3 (by intro i hi h;first | exact (h:False).elim | omega)
       have hB3:=(HB2.out.on (Kp.refl (On (w.heap.size+1000000)) w2) (by omega)).no hK3
       obtain ⟨xb3,x0,x1,x2,xs⟩:=box3 HX2.out KT3 (by omega)
       clear HX2
       have HX3:=hd_ xb3;clear xb3
       have k3:Kp (On bb) w w3:=HK2.out.trans KT3 (by intro i hi h;omega)
       clear HK2
       have HK3:=hd_ k3;clear k3 KT3
       have HB3:=hd_ hB3;clear hB3 HB2
       have szw3:w.heap.size≤w3.heap.size:=by omega
       clear hK3 HU2)
    | (refine step_is_call 42 rfl ?_
       go_simp
       go_at_call 42
       refine (ident_c _ bb (s0) (np) ((Ty.sig p o ps c b o' rs c').toks true++(bo::bc::[])) (HB3.out.on (Kp.refl (On (w.heap.size+1000000)) w3) (by omega))).mono ?_
       rintro e w4 ⟨⟨i0,rfl,hv4⟩,hB4,hK4⟩
       have sz4:w3.heap.size≤w4.heap.size:=by have:=hK4.size;(try simp at this);omega
       have KT4:Kp (fun k=>k=bb∨k=bb) w3 w4:=(Kp.refl (fun k=>k=bb∨k=bb) w3).trans hK4 (by intro i hi h;first | exact (h:False).elim | omega)
       obtain ⟨xb4,x0,x1,x2,xs⟩:=box3 HX3.out KT4 (by omega)
       clear HX3
       have HX4:=hd_ xb4;clear xb4
       have hw4:IdAt w4 (Fr (w3.heap.size)) (np) (s0) i0:=hv4.on (Kp.refl No _) (by intro b hb hF;(try simp at hF);exact ⟨id,by omega⟩)
       clear hv4
       obtain ⟨i0b,rfl⟩:=hw4.ptr
       have HV4:=hd_ hw4;clear hw4
       have k4:Kp (On bb) w w4:=HK3.out.trans KT4 (by intro i hi h;omega)
       clear HK3
       have HK4:=hd_ k4;clear k4 KT4
       have HB4:=hd_ hB4;clear hB4 HB3
       have szw4:w.heap.size≤w4.heap.size:=by omega
       clear hK4))
 all_goals
  go_wp2_with fail
  refine (kid_c _ B _ _ _ _ 1 ((Ty.sig p o ps c b o' rs c').nd) (HL.out.below (HK4.out.trans ((Kp.refl (On w4.heap.size) w4).alloc _) (by intro i hi h;omega)) (by omega) (fun b hb=>On.not' (by omega))) (by decide) rfl).mono ?_
  rintro e w5 ⟨⟨u5,rfl,hu5⟩,hK5⟩
  have sz5:w4.heap.size≤w5.heap.size:=by have:=hK5.size;(try simp at this);omega
  have KT5:Kp (fun k=>k=bb∨k=w4.heap.size) w4 w5:=((Kp.refl (fun k=>k=bb∨k=w4.heap.size) w4).alloc _).trans hK5 (by intro i hi h;first | exact (h:False).elim | omega)
  have hB5:=(HB4.out.on ((Kp.refl (On w4.heap.size) w4).alloc _) (by omega)).no hK5
  obtain ⟨xb5,x0,x1,x2,xs⟩:=box3 HX4.out KT5 (by omega)
  clear HX4
  have HX5:=hd_ xb5;clear xb5
  have xk5:w5.heap[w4.heap.size]?=some (.cells #[.pointer none,.pointer none,(.pointer (some ⟨i0b,0,none⟩)),.pointer none,.pointer none] 76 (0,0)):=hK5.at (newOf w4 _) (by exact id)
  have z0:=cO xk5 0 _ rfl;have f0:=fO xk5 0
  have z1:=cO xk5 1 _ rfl;have f1:=fO xk5 1
  have z2:=cO xk5 2 _ rfl;have f2:=fO xk5 2
  have z3:=cO xk5 3 _ rfl;have f3:=fO xk5 3
  have z4:=cO xk5 4 _ rfl;have f4:=fO xk5 4
  have zs5:=ltb xk5
  have HP5:=hd_ xk5;clear xk5
  have HV4_5:IdAt w5 (Av (w3.heap.size) (w4.heap.size)) (np) (s0) (.pointer (some ⟨i0b,0,none⟩)):=HV4.out.on KT5 (by intro b hb hF;omega)
  have HV4n5:=hd_ HV4_5;clear HV4_5 HV4
  have k5:Kp (On bb) w w5:=HK4.out.trans KT5 (by intro i hi h;omega)
  clear HK4
  have HK5:=hd_ k5;clear k5 KT5
  have HB5:=hd_ hB5;clear hB5 HB4
  have szw5:w.heap.size≤w5.heap.size:=by omega
  have HU5:=hd_ (hu5.below hK5 (by (try simp);omega) (fun _ _ h=>h.elim));clear hu5 hK5
  have HG:=hd_ (sig_a (Ty.sig p o ps c b o' rs c'))
  go_wp2_with fail
  refine (HG.out _ B bb _ p o ps c b o' rs c' (bo::bc::[]) rfl (HB5.out.on (Kp.refl (On w4.heap.size) w5) (by omega)) HU5.out hBb (by have:=HO.out;simp only [Ty.ok,Bool.false_eq_true,if_false] at this;simp only [Ty.ok,if_true];exact ⟨trivial,this.2⟩) (by have:=HS.out;simp only [Nd.sizeL] at this;omega)).mono ?_
  rintro e w6 ⟨⟨y,rfl,hv6⟩,hB6,hK6⟩
  have sz6:w5.heap.size≤w6.heap.size:=by have:=hK6.size;(try simp at this);omega
  have KT6:Kp (fun k=>k=bb∨k=w4.heap.size) w5 w6:=(Kp.refl (fun k=>k=bb∨k=w4.heap.size) w5).trans hK6 (by intro i hi h;first | exact (h:False).elim | omega)
  obtain ⟨xb6,x0,x1,x2,xs⟩:=box3 HX5.out KT6 (by omega)
  clear HX5
  have HX6:=hd_ xb6;clear xb6
  clear z0 f0 z1 f1 z2 f2 z3 f3 z4 f4
  have xk6:w6.heap[w4.heap.size]?=some (.cells #[.pointer none,.pointer none,(.pointer (some ⟨i0b,0,none⟩)),.pointer none,.pointer none] 76 (0,0)):=hK6.at HP5.out (by exact On.not (by omega))
  have z0:=cO xk6 0 _ rfl;have f0:=fO xk6 0
  have z1:=cO xk6 1 _ rfl;have f1:=fO xk6 1
  have z2:=cO xk6 2 _ rfl;have f2:=fO xk6 2
  have z3:=cO xk6 3 _ rfl;have f3:=fO xk6 3
  have z4:=cO xk6 4 _ rfl;have f4:=fO xk6 4
  have zs6:=ltb xk6
  have HP6:=hd_ xk6;clear xk6 HP5
  have HV4n5_6:IdAt w6 (Av (w3.heap.size) (w4.heap.size)) (np) (s0) (.pointer (some ⟨i0b,0,none⟩)):=HV4n5.out.on KT6 (by intro b hb hF;omega)
  have HV4n5n6:=hd_ HV4n5_6;clear HV4n5_6 HV4n5
  have hw6:Ty.At w6 (Av (w5.heap.size) (w4.heap.size)) (Ty.sig p o ps c b o' rs c') y:=hv6.on (Kp.refl No _) (by intro b hb hF;(try simp at hF);exact ⟨id,by omega⟩)
  clear hv6
  obtain ⟨yb,rfl⟩:=hw6.ptr
  have HV6:=hd_ hw6;clear hw6
  have k6:Kp (On bb) w w6:=HK5.out.trans KT6 (by intro i hi h;omega)
  clear HK5
  have HK6:=hd_ k6;clear k6 KT6
  have HB6:=hd_ hB6;clear hB6 HB5
  have szw6:w.heap.size≤w6.heap.size:=by omega
  clear hK6 HU5
  go_wp2_with fail
  refine (kid_c _ B _ _ _ _ 2 (Nd.mk ⟨#[98,111,100,121]⟩ ⟨#[]⟩ []) (HL.out.below (HK6.out.trans ((Kp.refl (On w4.heap.size) w6).setCell (p:=⟨w4.heap.size,3,none⟩) (fun _=>rfl) _) (by intro i hi h;omega)) (by omega) (fun b hb=>On.not' (by omega))) (by decide) rfl).mono ?_
  rintro e w7 ⟨⟨u7,rfl,hu7⟩,hK7⟩
  have sz7:w6.heap.size≤w7.heap.size:=by have:=hK7.size;(try simp at this);omega
  have KT7:Kp (fun k=>k=bb∨k=w4.heap.size) w6 w7:=((Kp.refl (fun k=>k=bb∨k=w4.heap.size) w6).setCell (p:=⟨w4.heap.size,3,none⟩) (fun _=>.inr rfl) _).trans hK7 (by intro i hi h;first | exact (h:False).elim | omega)
  have hB7:=(HB6.out.on ((Kp.refl (On w4.heap.size) w6).setCell (p:=⟨w4.heap.size,3,none⟩) (fun _=>rfl) _) (by omega)).no hK7
  obtain ⟨xb7,x0,x1,x2,xs⟩:=box3 HX6.out KT7 (by omega)
  clear HX6
  have HX7:=hd_ xb7;clear xb7
  clear z0 f0 z1 f1 z2 f2 z3 f3 z4 f4
  have xk7:w7.heap[w4.heap.size]?=some (.cells #[.pointer none,.pointer none,(.pointer (some ⟨i0b,0,none⟩)),(.pointer (some ⟨yb,0,none⟩)),.pointer none] 76 (0,0)):=hK7.at (setOf HP6.out 3 _) (by exact id)
  have z0:=cO xk7 0 _ rfl;have f0:=fO xk7 0
  have z1:=cO xk7 1 _ rfl;have f1:=fO xk7 1
  have z2:=cO xk7 2 _ rfl;have f2:=fO xk7 2
  have z3:=cO xk7 3 _ rfl;have f3:=fO xk7 3
  have z4:=cO xk7 4 _ rfl;have f4:=fO xk7 4
  have zs7:=ltb xk7
  have HP7:=hd_ xk7;clear xk7 HP6
  have HV4n5n6_7:IdAt w7 (Av (w3.heap.size) (w4.heap.size)) (np) (s0) (.pointer (some ⟨i0b,0,none⟩)):=HV4n5n6.out.on KT7 (by intro b hb hF;omega)
  have HV4n5n6n7:=hd_ HV4n5n6_7;clear HV4n5n6_7 HV4n5n6
  have HV6_7:Ty.At w7 (Av (w5.heap.size) (w4.heap.size)) (Ty.sig p o ps c b o' rs c') (.pointer (some ⟨yb,0,none⟩)):=HV6.out.on KT7 (by intro b hb hF;omega)
  have HV6n7:=hd_ HV6_7;clear HV6_7 HV6
  have k7:Kp (On bb) w w7:=HK6.out.trans KT7 (by intro i hi h;omega)
  clear HK6
  have HK7:=hd_ k7;clear k7 KT7
  have HB7:=hd_ hB7;clear hB7 HB6
  have szw7:w.heap.size≤w7.heap.size:=by omega
  have HU7:=hd_ (hu7.below hK7 (by (try simp);omega) (fun _ _ h=>h.elim));clear hu7 hK7
  simp only [Nd.miss,Nd.k,Nd.t]
  clear HU7
  go_wp2_with fail
  refine (next_c _ bb (bo) (bc::[]) (HB7.out.on (Kp.refl (On w4.heap.size) w7) (by omega))).mono ?_
  rintro e w8 ⟨rfl,hB8,hK8⟩
  have sz8:w7.heap.size≤w8.heap.size:=by have:=hK8.size;(try simp at this);omega
  have KT8:Kp (fun k=>k=bb∨k=w4.heap.size) w7 w8:=(Kp.refl (fun k=>k=bb∨k=w4.heap.size) w7).trans hK8 (by intro i hi h;first | exact (h:False).elim | omega)
  obtain ⟨xb8,x0,x1,x2,xs⟩:=box3 HX7.out KT8 (by omega)
  clear HX7
  have HX8:=hd_ xb8;clear xb8
  clear z0 f0 z1 f1 z2 f2 z3 f3 z4 f4
  have xk8:w8.heap[w4.heap.size]?=some (.cells #[.pointer none,.pointer none,(.pointer (some ⟨i0b,0,none⟩)),(.pointer (some ⟨yb,0,none⟩)),.pointer none] 76 (0,0)):=hK8.at HP7.out (by exact On.not (by omega))
  have z0:=cO xk8 0 _ rfl;have f0:=fO xk8 0
  have z1:=cO xk8 1 _ rfl;have f1:=fO xk8 1
  have z2:=cO xk8 2 _ rfl;have f2:=fO xk8 2
  have z3:=cO xk8 3 _ rfl;have f3:=fO xk8 3
  have z4:=cO xk8 4 _ rfl;have f4:=fO xk8 4
  have zs8:=ltb xk8
  have HP8:=hd_ xk8;clear xk8 HP7
  have HV4n5n6n7_8:IdAt w8 (Av (w3.heap.size) (w4.heap.size)) (np) (s0) (.pointer (some ⟨i0b,0,none⟩)):=HV4n5n6n7.out.on KT8 (by intro b hb hF;omega)
  have HV4n5n6n7n8:=hd_ HV4n5n6n7_8;clear HV4n5n6n7_8 HV4n5n6n7
  have HV6n7_8:Ty.At w8 (Av (w5.heap.size) (w4.heap.size)) (Ty.sig p o ps c b o' rs c') (.pointer (some ⟨yb,0,none⟩)):=HV6n7.out.on KT8 (by intro b hb hF;omega)
  have HV6n7n8:=hd_ HV6n7_8;clear HV6n7_8 HV6n7
  have k8:Kp (On bb) w w8:=HK7.out.trans KT8 (by intro i hi h;omega)
  clear HK7
  have HK8:=hd_ k8;clear k8 KT8
  have HB8:=hd_ hB8;clear hB8 HB7
  have szw8:w.heap.size≤w8.heap.size:=by omega
  clear hK8
  go_wp2_with fail
  obtain ⟨wm,hwm⟩:∃ W,(w8.setCell ⟨w4.heap.size,4,none⟩ (.pointer (some ⟨w8.heap.size,0,none⟩))).alloc (.cells #[.int .i64 bo,.slice none 0 0,.int .i64 0] 80)=W:=⟨_,rfl⟩
  rw [hwm]
  have hfm:wm.heap[w4.heap.size]?=some (.cells #[.pointer none,.pointer none,(.pointer (some ⟨i0b,0,none⟩)),(.pointer (some ⟨yb,0,none⟩)),(.pointer (some ⟨w8.heap.size,0,none⟩))] 76 (0,0)):=by rw [← hwm];exact allocOf (setOf HP8.out 4 _) _
  have hbm:wm.heap[w8.heap.size]?=some (.cells #[.int .i64 bo,.slice none 0 0,.int .i64 0] 80 (0,0)):=by rw [← hwm];simpa [World.setCell] using newOf (w8.setCell ⟨w4.heap.size,4,none⟩ (.pointer (some ⟨w8.heap.size,0,none⟩))) (.cells #[.int .i64 bo,.slice none 0 0,.int .i64 0] 80)
  have hkm:Kp (On w4.heap.size) w8 wm:=by rw [← hwm];exact ((Kp.refl (On w4.heap.size) w8).setCell (p:=⟨w4.heap.size,4,none⟩) (fun _=>rfl) _).alloc _
  have szm:wm.heap.size=w8.heap.size+1:=by rw [← hwm];simp [World.setCell]
  have hBm:=HB8.out.on hkm (by omega)
  have y4:=cO hfm 4 _ rfl;have g2:=fO hbm 2;have c2:=cO hbm 2 _ rfl;have c0_:=cO hbm 0 _ rfl;have c1_:=cO hbm 1 _ rfl
  have l1:=ltb hfm;have l2:=ltb hbm
  have n1:=World.new_ne wm _ y4;have n2:=World.new_ne wm _ c2
  have HM:=a4_ hfm hbm hkm hBm
  clear hwm hfm hbm hkm hBm z0 f0 z1 f1 z2 f2 z3 f3 z4 f4
  have FC0:=next_c wm.drew bb bc [] HM.out.2.2.2
  have FC:=hd_ FC0;clear FC0
  go_region_law
   (first
     | (refine step_is_call 39 rfl ?_;go_simp;go_at_call 39;refine FC.out.mono ?_;rintro e wn ⟨rfl,hBn,hKn⟩
        have szn:wm.heap.size≤wn.heap.size:=hKn.size
        have yn4:=(hKn.cell (show w4.heap.size < wm.heap.size by omega) (by omega)).trans y4
        have gn2:=(hKn.frozen (show w8.heap.size < wm.heap.size by omega) (by omega)).trans g2
        have cn2:=(hKn.cell (show w8.heap.size < wm.heap.size by omega) (by omega)).trans c2
        have ln1:w4.heap.size < wn.heap.size:=by omega
        have ln2:w8.heap.size < wn.heap.size:=by omega
        have HN:=hd_ hKn
        clear hBn hKn))
  all_goals
   go_wp2_with fail
   go_ret
   obtain ⟨hfm,hbm,hkm,hBm⟩:=HM.out
   have hKn:=HN.out
   have hKm:Kp (On bb) wm wn:=(Kp.refl (On bb) wm).drew.trans hKn (fun _ _ h=>h)
   have hs:=(Kp.refl (On w8.heap.size) wn).setCell (p:=⟨w8.heap.size,2,none⟩) (fun _=>rfl) (.int .i64 bc)
   have hall:Kp (fun k=>k=bb∨k=w4.heap.size) w8 (wn.setCell ⟨w8.heap.size,2,none⟩ (.int .i64 bc)):=((hkm.mono fun i hi h=>.inr h).trans hKm fun i hi h=>.inl h).trans hs (by intro i hi h;omega)
   refine ⟨⟨_,rfl,_,_,_,_,⟨_,rfl,by omega,hs.at (hKm.at hfm (by omega)) (by omega)⟩,?_,HV4n5n6n7n8.out.on hall (by intro b hb hF;omega),HV6n7n8.out.on hall (by intro b hb hF;omega),⟨_,rfl,by omega,setOf (hKm.at hbm (by omega)) 2 _⟩⟩,(HK0.out.trans HK8.out (by intro i hi h;omega)).trans hall (by intro i hi h;omega)⟩
   exact rfl
end
section
open Go Go.RowKit
theorem build_c:∀ d:Dc,BuildP d
 | .gen wd p it=>by
  intro w B s at_ hI hn hB hT hok hsz
  have h:=gen_c wd p [it] w B s at_ (by simpa [Dc.toks,itsToks] using hI) (Nd.In_iff.1 hn) hB hT (by intro i hi;simp only [List.mem_singleton] at hi;subst hi;exact hok.2) (by simp only [Dc.nd,Nd.size] at hsz;simpa using Nat.le_trans (Nat.le_add_left _ _) hsz)
  refine h.mono ?_
  rintro e w' ⟨⟨v,rfl,z,zs,h1,h2,x,xs,rfl,h3,rfl⟩,hk⟩
  exact ⟨⟨v,rfl,z,x,h1,h2,h3⟩,hk⟩
 | .group wd p o its c=>by
  intro w B s at_ hI hn hB hT hok hsz
  have h:=group_c wd p o its c w B s at_ hI (Nd.In_iff.1 hn) hB hT hok.2.2.1 (by simp only [Dc.nd,Nd.size] at hsz;omega)
  refine h.mono ?_
  rintro e w' ⟨⟨v,rfl,z,zs,h1,h2,h3⟩,hk⟩
  exact ⟨⟨v,rfl,z,zs,h1,h2,h3⟩,hk⟩
 | .func p (some (ro,rf,rc)) np s0 o ps c b o' rs c' (some (bo,bc))=>by
  intro w B s at_ hI hn hB hT hok hsz
  exact funcrb_c p ro rf rc np s0 o ps c b o' rs c' bo bc w B s at_ (by simpa [Dc.toks,rvToks,bdToks] using hI) (Nd.In_iff.1 hn) hB hT (hok.2.1 _ _ _ rfl).2.1 hok.2.2.2.2.1 (by simp only [Dc.nd,Nd.size,rvNd,bdNd] at hsz;omega)
 | .func p (some (ro,rf,rc)) np s0 o ps c b o' rs c' none=>by
  intro w B s at_ hI hn hB hT hok hsz
  exact funcrn_c p ro rf rc np s0 o ps c b o' rs c' w B s at_ (by simpa [Dc.toks,rvToks,bdToks] using hI) (Nd.In_iff.1 hn) hB hT (hok.2.1 _ _ _ rfl).2.1 hok.2.2.2.2.1 (by simp only [Dc.nd,Nd.size,rvNd,bdNd] at hsz;omega)
 | .func p none np s0 o ps c b o' rs c' (some (bo,bc))=>by
  intro w B s at_ hI hn hB hT hok hsz
  exact funcnb_c p np s0 o ps c b o' rs c' bo bc w B s at_ (by simpa [Dc.toks,rvToks,bdToks] using hI) (Nd.In_iff.1 hn) hB hT hok.2.2.2.2.1 (by simp only [Dc.nd,Nd.size,rvNd,bdNd] at hsz;omega)
 | .func p none np s0 o ps c b o' rs c' none=>by
  intro w B s at_ hI hn hB hT hok hsz
  exact funcnn_c p np s0 o ps c b o' rs c' w B s at_ (by simpa [Dc.toks,rvToks,bdToks] using hI) (Nd.In_iff.1 hn) hB hT hok.2.2.2.2.1 (by simp only [Dc.nd,Nd.size,rvNd,bdNd] at hsz;omega)
end
end Go.Proofs.YtnkbglhdpmbgfaaGreatFmt
