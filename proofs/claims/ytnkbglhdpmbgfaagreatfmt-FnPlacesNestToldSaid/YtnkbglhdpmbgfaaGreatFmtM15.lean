/- A part of the proof; no condition: KExpr. -/
import Derived.Test.YtnkbglhdpmbgfaaGreatFmtM
import Derived.Test.YtnkbglhdpmbgfaaGreatFmtM13
import Derived.Test.YtnkbglhdpmbgfaaGreatFmtM14
set_option linter.all false
set_option maxHeartbeats 16000000
set_option maxRecDepth 100000
namespace Go.Proofs.YtnkbglhdpmbgfaaGreatFmt
section
open Go Go.RowKit
attribute [local go_sem ↓] Go.wp_at_zero Go.wp_at_succ
theorem kfield_c (d:Fd) (hE:KExprP d.t):KFieldP d:=by
 by_cases h:d.tag.size=0
 ·exact kfieldx_c d hE h
 ·exact kfieldt_c d hE h
theorem kfieldsnil_c (w:World):Calls Tryz.prog 67 #[.pointer none] w fun e w'=>KR ⟨#[110,111,110,101]⟩ e∧Kp No w w':=by
 go_enter Tryz.func67,Tryz.ntmps67
 go_wp2_with fail
 refine (none_c _).mono ?_
 rintro e w1 ⟨rfl,hk1⟩
 have hbk:=hk1.at (newOf w _) id
 have y0:=cO hbk 0 _ rfl;have g0:=fO hbk 0
 have y1:=cO hbk 1 _ rfl;have g1:=fO hbk 1
 have y2:=cO hbk 2 _ rfl;have g2:=fO hbk 2
 have HK1:=hd_ (((Kp.refl No w).alloc _).no hk1)
 have HB:=hd_ hbk
 clear hk1 hbk
 go_wp2_with fail
 have h3:=set3_at (v0:=.string ⟨#[110,111,110,101]⟩) (v1:=.string ⟨#[]⟩) (v2:=.slice none 0 0) HB.out
 have e0:=cO h3 0 _ rfl;have e1:=cO h3 1 _ rfl;have e2:=cO h3 2 _ rfl
 refine bodyPost_ret (v:=.agg #[.string ⟨#[110,111,110,101]⟩,.string ⟨#[]⟩,.slice none 0 0]) (by simp [results,Tryz.results67,go_sem,e0,e1,e2]) rfl ⟨⟨_,_,_,_,rfl⟩,HK1.out.trans (set3_kp w1 w.heap.size _ _ _) (by intro i hi h;omega)⟩
theorem kexprnil_c (w:World):Calls Tryz.prog 48 #[.nilIface] w fun e w'=>KR ⟨#[110,111,110,101]⟩ e∧Kp No w w':=by
 go_enter Tryz.func48,Tryz.ntmps48
 go_wp2_with fail
 refine (none_c _).mono ?_
 rintro e w1 ⟨rfl,hk1⟩
 have hbk:=hk1.at (newOf w _) id
 have y0:=cO hbk 0 _ rfl;have g0:=fO hbk 0
 have y1:=cO hbk 1 _ rfl;have g1:=fO hbk 1
 have y2:=cO hbk 2 _ rfl;have g2:=fO hbk 2
 have HK1:=hd_ (((Kp.refl No w).alloc _).no hk1)
 have HB:=hd_ hbk
 clear hk1 hbk
 go_wp2_with fail
 have h3:=set3_at (v0:=.string ⟨#[110,111,110,101]⟩) (v1:=.string ⟨#[]⟩) (v2:=.slice none 0 0) HB.out
 have e0:=cO h3 0 _ rfl;have e1:=cO h3 1 _ rfl;have e2:=cO h3 2 _ rfl
 refine bodyPost_ret (v:=.agg #[.string ⟨#[110,111,110,101]⟩,.string ⟨#[]⟩,.slice none 0 0]) (by simp [results,Tryz.results48,go_sem,e0,e1,e2]) rfl ⟨⟨_,_,_,_,rfl⟩,HK1.out.trans (set3_kp w1 w.heap.size _ _ _) (by intro i hi h;omega)⟩
theorem kdir_c (w:World) (n:Int):Calls Tryz.prog 71 #[.int .i64 n] w fun e w'=>(∃ t,e=.returned (.string t))∧w'=w:=by
 go_enter Tryz.func71,Tryz.ntmps71
 by_cases h1:n=1
 ·subst h1
  go_wp2_with fail
  go_ret
  exact ⟨⟨_,rfl⟩,rfl⟩
 ·by_cases h2:n=2
  ·subst h2
   go_wp2_with fail
   go_ret
   exact ⟨⟨_,rfl⟩,rfl⟩
  ·go_wp2_with fail
   go_ret
   exact ⟨⟨_,rfl⟩,rfl⟩
theorem kname_e (p:Int) (s0:ByteArray):KExprP (.name p s0):=by
 intro w F u h hsz
 simp only [Ty.At] at h
 have AH:=hd_ h
 obtain ⟨b,rfl,_,hb⟩:=h
 have HB:=hd_ hb;clear hb
 simp only [Ty.ty,Ty.kind]
 obtain ⟨W0,hW0⟩:∃ W,w.alloc (.cells #[.string ⟨#[]⟩,.string ⟨#[]⟩,.slice none 0 0] 24)=W:=⟨_,rfl⟩
 have hk0:Kp No w W0:=by rw [← hW0];exact (Kp.refl No w).alloc _
 have hx0:W0.heap[w.heap.size]?=some (.cells #[.string ⟨#[]⟩,.string ⟨#[]⟩,.slice none 0 0] 24 (0,0)):=by rw [← hW0];exact newOf w _
 have szW:W0.heap.size=w.heap.size+1:=by rw [← hW0];simp
 have HK0:=hd_ hk0;have HBOX:=hd_ hx0;have HW0:=hd_ hW0
 clear hW0 hx0
 have l_nb:=ltb HB.out
 obtain ⟨q1_nb,q2_nb,q3_nb,q4_nb,q5_nb⟩:=lts l_nb
 clear hk0
 go_enter Tryz.func48,Tryz.ntmps48
 go_wp2_with fail
 rw [HW0.out]
 clear HW0
 have lW_nb:b < W0.heap.size:=by omega
 have x0:=cO HBOX.out 0 _ rfl;have x1:=cO HBOX.out 1 _ rfl;have x2:=cO HBOX.out 2 _ rfl
 have g0:=fO HBOX.out 0;have g1:=fO HBOX.out 1;have g2:=fO HBOX.out 2
 have lx:w.heap.size < W0.heap.size:=by omega
 have ne_x:=World.new_ne W0 _ x0
 have d1_nb:b≠w.heap.size:=by omega
 have d2_nb:w.heap.size≠b:=by omega
 refine (kname_c W0 F p s0 (.pointer (some ⟨b,0,none⟩)) (AH.out.on (HK0.out.no (Kp.refl No W0)) fun b _ h=>⟨id,h⟩)).mono ?_
 rintro e w1 ⟨⟨t1,p1,n1,c1,rfl⟩,hK1⟩
 have k1:Kp No W0 w1:=((Kp.refl No W0)).trans' hK1
 clear hK1
 have sz1:W0.heap.size≤w1.heap.size:=k1.size
 have l1_nb:b < w1.heap.size:=by omega
 have x0_1:=(k1.cell lx id).trans x0
 have g0_1:=(k1.frozen lx id).trans g0
 have x1_1:=(k1.cell lx id).trans x1
 have g1_1:=(k1.frozen lx id).trans g1
 have x2_1:=(k1.cell lx id).trans x2
 have g2_1:=(k1.frozen lx id).trans g2
 have lx_1:w.heap.size < w1.heap.size:=by omega
 have HK1:=hd_ k1;clear k1
 go_wp2_with fail
 have h3:=set3_at (v0:=.string ⟨#[110,97,109,101]⟩) (v1:=.string t1) (v2:=.slice p1 n1 c1) (HK1.out.at HBOX.out id)
 have e0:=cO h3 0 _ rfl;have e1:=cO h3 1 _ rfl;have e2:=cO h3 2 _ rfl
 refine bodyPost_ret (v:=.agg #[.string ⟨#[110,97,109,101]⟩,.string t1,.slice p1 n1 c1]) (by simp [results,Tryz.results48,go_sem,e0,e1,e2]) rfl ⟨⟨_,_,_,_,rfl⟩,(HK0.out.no HK1.out).trans (set3_kp w1 w.heap.size _ _ _) (by intro i hi h;omega)⟩
theorem klit_c (p:Int) (s:ByteArray):KExprP (.lit p s):=by
 intro w F u h hsz
 simp only [Ty.At] at h
 obtain ⟨b,rfl,_,hb⟩:=h
 have c1:=cO hb 3 _ rfl
 have l:=ltb hb
 obtain ⟨q1,q2,q3,q4,q5⟩:=lts l
 simp only [Ty.ty,Ty.kind]
 go_enter Tryz.func48,Tryz.ntmps48
 go_wp2_with fail
 refine bodyPost_ret (v:=.agg #[.string ⟨#[108,105,116,101,114,97,108]⟩,.string s,.slice none 0 0]) (by simp [results,Tryz.results48,go_sem]) rfl ⟨⟨_,_,_,_,rfl⟩,?_⟩
 exact (Kp.refl No _).alloc _
theorem ksel_c (x:Ty) (d p:Int) (s0:ByteArray) (hx:KExprP x):KExprP (.sel x d p s0):=by
 intro w F u h hsz
 simp only [Ty.At] at h
 obtain ⟨v,i,⟨b,rfl,_,hb⟩,hat,⟨ib,rfl,_,hib⟩⟩:=h
 have HB:=hd_ hb;have HI:=hd_ hib;clear hb hib
 simp only [Ty.nd,Nd.size,Nd.sizeL] at hsz
 simp only [Ty.ty,Ty.kind]
 have Ahx:=hd_ hat;clear hat
 have HX:=hd_ hx;clear hx
 have HSZHX:Hid (x.nd.size≤400):=(by omega:x.nd.size≤400)
 obtain ⟨W0,hW0⟩:∃ W,w.alloc (.cells #[.string ⟨#[]⟩,.string ⟨#[]⟩,.slice none 0 0] 24)=W:=⟨_,rfl⟩
 have hk0:Kp No w W0:=by rw [← hW0];exact (Kp.refl No w).alloc _
 have hx0:W0.heap[w.heap.size]?=some (.cells #[.string ⟨#[]⟩,.string ⟨#[]⟩,.slice none 0 0] 24 (0,0)):=by rw [← hW0];exact newOf w _
 have szW:W0.heap.size=w.heap.size+1:=by rw [← hW0];simp
 have HK0:=hd_ hk0;have HBOX:=hd_ hx0;have HW0:=hd_ hW0
 clear hW0 hx0
 have l_nb:=ltb HB.out
 obtain ⟨q1_nb,q2_nb,q3_nb,q4_nb,q5_nb⟩:=lts l_nb
 have nb0:=cO HB.out 0 _ rfl
 have nb1:=cO HB.out 1 _ rfl
 have l_ni:=ltb HI.out
 obtain ⟨q1_ni,q2_ni,q3_ni,q4_ni,q5_ni⟩:=lts l_ni
 have ni1:=cO HI.out 1 _ rfl
 clear hk0
 go_enter Tryz.func48,Tryz.ntmps48
 go_wp2_with fail
 rw [HW0.out]
 clear HW0
 replace nb0:=(HK0.out.cell l_nb id).trans nb0
 replace nb1:=(HK0.out.cell l_nb id).trans nb1
 have lW_nb:b < W0.heap.size:=by omega
 replace ni1:=(HK0.out.cell l_ni id).trans ni1
 have lW_ni:ib < W0.heap.size:=by omega
 have x0:=cO HBOX.out 0 _ rfl;have x1:=cO HBOX.out 1 _ rfl;have x2:=cO HBOX.out 2 _ rfl
 have g0:=fO HBOX.out 0;have g1:=fO HBOX.out 1;have g2:=fO HBOX.out 2
 have lx:w.heap.size < W0.heap.size:=by omega
 have ne_nb:=World.new_ne W0 _ nb0
 have ne_ni:=World.new_ne W0 _ ni1
 have ne_x:=World.new_ne W0 _ x0
 have d1_nb:b≠w.heap.size:=by omega
 have d2_nb:w.heap.size≠b:=by omega
 have d1_ni:ib≠w.heap.size:=by omega
 have d2_ni:w.heap.size≠ib:=by omega
 go_region_held3 (fun w'=>w'.cell? ⟨b,0,none⟩=some (.iface x.ty v)∧w'.cell? ⟨b,1,none⟩=some (.pointer (some ⟨ib,0,none⟩))∧w'.cell? ⟨ib,1,none⟩=some (.string s0))
  (first | go_keep)
  (first
    | (go_at_call 48
       refine (HX.out W0.drew F v (Ahx.out.on (HK0.out.no (Kp.refl No W0).drew) fun b _ h=>⟨id,h⟩) HSZHX.out).mono ?_
       rintro e w1 ⟨⟨t1,p1,n1,c1,rfl⟩,hK1⟩
       have k1:Kp No W0 w1:=((Kp.refl No W0).drew).trans' hK1
       clear hK1
       have sz1:W0.heap.size≤w1.heap.size:=k1.size
       have nb0_1:=(k1.cell lW_nb id).trans nb0
       have nb1_1:=(k1.cell lW_nb id).trans nb1
       have l1_nb:b < w1.heap.size:=by omega
       have ni1_1:=(k1.cell lW_ni id).trans ni1
       have l1_ni:ib < w1.heap.size:=by omega
       have x0_1:=(k1.cell lx id).trans x0
       have g0_1:=(k1.frozen lx id).trans g0
       have x1_1:=(k1.cell lx id).trans x1
       have g1_1:=(k1.frozen lx id).trans g1
       have x2_1:=(k1.cell lx id).trans x2
       have g2_1:=(k1.frozen lx id).trans g2
       have lx_1:w.heap.size < w1.heap.size:=by omega
       have HK1:=hd_ k1;clear k1)
    | (go_at_call 66
       refine (kids_c _ _).mono ?_
       rintro e w2 ⟨rfl,hw2⟩
       have k2:Kp No W0 w2:=by rw [hw2];exact HK1.out.alloc _
       clear hw2
       have sz2:W0.heap.size≤w2.heap.size:=k2.size
       have nb0_2:=(k2.cell lW_nb id).trans nb0
       have nb1_2:=(k2.cell lW_nb id).trans nb1
       have l2_nb:b < w2.heap.size:=by omega
       have ni1_2:=(k2.cell lW_ni id).trans ni1
       have l2_ni:ib < w2.heap.size:=by omega
       have x0_2:=(k2.cell lx id).trans x0
       have g0_2:=(k2.frozen lx id).trans g0
       have x1_2:=(k2.cell lx id).trans x1
       have g1_2:=(k2.frozen lx id).trans g1
       have x2_2:=(k2.cell lx id).trans x2
       have g2_2:=(k2.frozen lx id).trans g2
       have lx_2:w.heap.size < w2.heap.size:=by omega
       have HK2:=hd_ k2;clear k2))
 all_goals
  go_wp2_with fail
  have h3:=set3_at (v0:=.string ⟨#[115,101,108,101,99,116]⟩) (v1:=.string s0) (v2:=.slice (some ⟨w1.heap.size,0,none⟩) 1 1) (HK2.out.at HBOX.out id)
  have e0:=cO h3 0 _ rfl;have e1:=cO h3 1 _ rfl;have e2:=cO h3 2 _ rfl
  refine bodyPost_ret (v:=.agg #[.string ⟨#[115,101,108,101,99,116]⟩,.string s0,.slice (some ⟨w1.heap.size,0,none⟩) 1 1]) (by simp [results,Tryz.results48,go_sem,e0,e1,e2]) rfl ⟨⟨_,_,_,_,rfl⟩,(HK0.out.no HK2.out).trans (set3_kp w2 w.heap.size _ _ _) (by intro i hi h;omega)⟩
theorem kstar_c (p:Int) (x:Ty) (hx:KExprP x):KExprP (.star p x):=by
 intro w F u h hsz
 simp only [Ty.At] at h
 obtain ⟨v,⟨b,rfl,_,hb⟩,hat⟩:=h
 have HB:=hd_ hb;clear hb
 simp only [Ty.nd,Nd.size,Nd.sizeL] at hsz
 simp only [Ty.ty,Ty.kind]
 have Ahx:=hd_ hat;clear hat
 have HX:=hd_ hx;clear hx
 have HSZHX:Hid (x.nd.size≤400):=(by omega:x.nd.size≤400)
 obtain ⟨W0,hW0⟩:∃ W,w.alloc (.cells #[.string ⟨#[]⟩,.string ⟨#[]⟩,.slice none 0 0] 24)=W:=⟨_,rfl⟩
 have hk0:Kp No w W0:=by rw [← hW0];exact (Kp.refl No w).alloc _
 have hx0:W0.heap[w.heap.size]?=some (.cells #[.string ⟨#[]⟩,.string ⟨#[]⟩,.slice none 0 0] 24 (0,0)):=by rw [← hW0];exact newOf w _
 have szW:W0.heap.size=w.heap.size+1:=by rw [← hW0];simp
 have HK0:=hd_ hk0;have HBOX:=hd_ hx0;have HW0:=hd_ hW0
 clear hW0 hx0
 have l_nb:=ltb HB.out
 obtain ⟨q1_nb,q2_nb,q3_nb,q4_nb,q5_nb⟩:=lts l_nb
 have nb1:=cO HB.out 1 _ rfl
 clear hk0
 go_enter Tryz.func48,Tryz.ntmps48
 go_wp2_with fail
 rw [HW0.out]
 clear HW0
 replace nb1:=(HK0.out.cell l_nb id).trans nb1
 have lW_nb:b < W0.heap.size:=by omega
 have x0:=cO HBOX.out 0 _ rfl;have x1:=cO HBOX.out 1 _ rfl;have x2:=cO HBOX.out 2 _ rfl
 have g0:=fO HBOX.out 0;have g1:=fO HBOX.out 1;have g2:=fO HBOX.out 2
 have lx:w.heap.size < W0.heap.size:=by omega
 have ne_nb:=World.new_ne W0 _ nb1
 have ne_x:=World.new_ne W0 _ x0
 have d1_nb:b≠w.heap.size:=by omega
 have d2_nb:w.heap.size≠b:=by omega
 refine (HX.out W0 F v (Ahx.out.on (HK0.out.no (Kp.refl No W0)) fun b _ h=>⟨id,h⟩) HSZHX.out).mono ?_
 rintro e w1 ⟨⟨t1,p1,n1,c1,rfl⟩,hK1⟩
 have k1:Kp No W0 w1:=((Kp.refl No W0)).trans' hK1
 clear hK1
 have sz1:W0.heap.size≤w1.heap.size:=k1.size
 have nb1_1:=(k1.cell lW_nb id).trans nb1
 have l1_nb:b < w1.heap.size:=by omega
 have x0_1:=(k1.cell lx id).trans x0
 have g0_1:=(k1.frozen lx id).trans g0
 have x1_1:=(k1.cell lx id).trans x1
 have g1_1:=(k1.frozen lx id).trans g1
 have x2_1:=(k1.cell lx id).trans x2
 have g2_1:=(k1.frozen lx id).trans g2
 have lx_1:w.heap.size < w1.heap.size:=by omega
 have HK1:=hd_ k1;clear k1
 go_wp2_with fail
 refine (kids_c _ _).mono ?_
 rintro e w2 ⟨rfl,hw2⟩
 have k2:Kp No W0 w2:=by rw [hw2];exact HK1.out.alloc _
 clear hw2
 have sz2:W0.heap.size≤w2.heap.size:=k2.size
 have nb1_2:=(k2.cell lW_nb id).trans nb1
 have l2_nb:b < w2.heap.size:=by omega
 have x0_2:=(k2.cell lx id).trans x0
 have g0_2:=(k2.frozen lx id).trans g0
 have x1_2:=(k2.cell lx id).trans x1
 have g1_2:=(k2.frozen lx id).trans g1
 have x2_2:=(k2.cell lx id).trans x2
 have g2_2:=(k2.frozen lx id).trans g2
 have lx_2:w.heap.size < w2.heap.size:=by omega
 have HK2:=hd_ k2;clear k2
 go_wp2_with fail
 have h3:=set3_at (v0:=.string ⟨#[115,116,97,114]⟩) (v1:=.string ⟨#[]⟩) (v2:=.slice (some ⟨w1.heap.size,0,none⟩) 1 1) (HK2.out.at HBOX.out id)
 have e0:=cO h3 0 _ rfl;have e1:=cO h3 1 _ rfl;have e2:=cO h3 2 _ rfl
 refine bodyPost_ret (v:=.agg #[.string ⟨#[115,116,97,114]⟩,.string ⟨#[]⟩,.slice (some ⟨w1.heap.size,0,none⟩) 1 1]) (by simp [results,Tryz.results48,go_sem,e0,e1,e2]) rfl ⟨⟨_,_,_,_,rfl⟩,(HK0.out.no HK2.out).trans (set3_kp w2 w.heap.size _ _ _) (by intro i hi h;omega)⟩
theorem ksl_c (p q1:Int) (x:Ty) (hx:KExprP x):KExprP (.sl p q1 x):=by
 intro w F u h hsz
 simp only [Ty.At] at h
 obtain ⟨v,⟨b,rfl,_,hb⟩,hat⟩:=h
 have HB:=hd_ hb;clear hb
 simp only [Ty.nd,Nd.miss,Nd.size,Nd.sizeL] at hsz
 simp only [Ty.ty,Ty.kind]
 have Ahx:=hd_ hat;clear hat
 have HX:=hd_ hx;clear hx
 have HSZHX:Hid (x.nd.size≤400):=(by omega:x.nd.size≤400)
 obtain ⟨W0,hW0⟩:∃ W,w.alloc (.cells #[.string ⟨#[]⟩,.string ⟨#[]⟩,.slice none 0 0] 24)=W:=⟨_,rfl⟩
 have hk0:Kp No w W0:=by rw [← hW0];exact (Kp.refl No w).alloc _
 have hx0:W0.heap[w.heap.size]?=some (.cells #[.string ⟨#[]⟩,.string ⟨#[]⟩,.slice none 0 0] 24 (0,0)):=by rw [← hW0];exact newOf w _
 have szW:W0.heap.size=w.heap.size+1:=by rw [← hW0];simp
 have HK0:=hd_ hk0;have HBOX:=hd_ hx0;have HW0:=hd_ hW0
 clear hW0 hx0
 have l_nb:=ltb HB.out
 obtain ⟨q1_nb,q2_nb,q3_nb,q4_nb,q5_nb⟩:=lts l_nb
 have nb1:=cO HB.out 1 _ rfl
 have nb2:=cO HB.out 2 _ rfl
 clear hk0
 go_enter Tryz.func48,Tryz.ntmps48
 go_wp2_with fail
 rw [HW0.out]
 clear HW0
 replace nb1:=(HK0.out.cell l_nb id).trans nb1
 replace nb2:=(HK0.out.cell l_nb id).trans nb2
 have lW_nb:b < W0.heap.size:=by omega
 have x0:=cO HBOX.out 0 _ rfl;have x1:=cO HBOX.out 1 _ rfl;have x2:=cO HBOX.out 2 _ rfl
 have g0:=fO HBOX.out 0;have g1:=fO HBOX.out 1;have g2:=fO HBOX.out 2
 have lx:w.heap.size < W0.heap.size:=by omega
 have ne_nb:=World.new_ne W0 _ nb1
 have ne_x:=World.new_ne W0 _ x0
 have d1_nb:b≠w.heap.size:=by omega
 have d2_nb:w.heap.size≠b:=by omega
 go_region_held3 (fun w'=>w'.cell? ⟨b,1,none⟩=some (.nilIface)∧w'.cell? ⟨b,2,none⟩=some (.iface x.ty v))
  (first | go_keep)
  (first
    | (go_at_call_of 48 (Value.nilIface)
       refine (kexprnil_c W0.drew).mono ?_
       rintro e w1 ⟨⟨t1,p1,n1,c1,rfl⟩,hK1⟩
       have k1:Kp No W0 w1:=((Kp.refl No W0).drew).trans' hK1
       clear hK1
       have sz1:W0.heap.size≤w1.heap.size:=k1.size
       have nb1_1:=(k1.cell lW_nb id).trans nb1
       have nb2_1:=(k1.cell lW_nb id).trans nb2
       have l1_nb:b < w1.heap.size:=by omega
       have x0_1:=(k1.cell lx id).trans x0
       have g0_1:=(k1.frozen lx id).trans g0
       have x1_1:=(k1.cell lx id).trans x1
       have g1_1:=(k1.frozen lx id).trans g1
       have x2_1:=(k1.cell lx id).trans x2
       have g2_1:=(k1.frozen lx id).trans g2
       have lx_1:w.heap.size < w1.heap.size:=by omega
       have HK1:=hd_ k1;clear k1)
    | (go_at_call_of 48 (Value.iface x.ty v)
       refine (HX.out w1 F v (Ahx.out.on (HK0.out.no HK1.out) fun b _ h=>⟨id,h⟩) HSZHX.out).mono ?_
       rintro e w2 ⟨⟨t2,p2,n2,c2,rfl⟩,hK2⟩
       have k2:Kp No W0 w2:=(HK1.out).trans' hK2
       clear hK2
       have sz2:W0.heap.size≤w2.heap.size:=k2.size
       have nb1_2:=(k2.cell lW_nb id).trans nb1
       have nb2_2:=(k2.cell lW_nb id).trans nb2
       have l2_nb:b < w2.heap.size:=by omega
       have x0_2:=(k2.cell lx id).trans x0
       have g0_2:=(k2.frozen lx id).trans g0
       have x1_2:=(k2.cell lx id).trans x1
       have g1_2:=(k2.frozen lx id).trans g1
       have x2_2:=(k2.cell lx id).trans x2
       have g2_2:=(k2.frozen lx id).trans g2
       have lx_2:w.heap.size < w2.heap.size:=by omega
       have HK2:=hd_ k2;clear k2)
    | (go_at_call 66
       refine (kids_c _ _).mono ?_
       rintro e w3 ⟨rfl,hw3⟩
       have k3:Kp No W0 w3:=by rw [hw3];exact HK2.out.alloc _
       clear hw3
       have sz3:W0.heap.size≤w3.heap.size:=k3.size
       have nb1_3:=(k3.cell lW_nb id).trans nb1
       have nb2_3:=(k3.cell lW_nb id).trans nb2
       have l3_nb:b < w3.heap.size:=by omega
       have x0_3:=(k3.cell lx id).trans x0
       have g0_3:=(k3.frozen lx id).trans g0
       have x1_3:=(k3.cell lx id).trans x1
       have g1_3:=(k3.frozen lx id).trans g1
       have x2_3:=(k3.cell lx id).trans x2
       have g2_3:=(k3.frozen lx id).trans g2
       have lx_3:w.heap.size < w3.heap.size:=by omega
       have HK3:=hd_ k3;clear k3))
 all_goals
  go_wp2_with fail
  have h3:=set3_at (v0:=.string ⟨#[97,114,114,97,121]⟩) (v1:=.string ⟨#[]⟩) (v2:=.slice (some ⟨w2.heap.size,0,none⟩) 2 2) (HK3.out.at HBOX.out id)
  have e0:=cO h3 0 _ rfl;have e1:=cO h3 1 _ rfl;have e2:=cO h3 2 _ rfl
  refine bodyPost_ret (v:=.agg #[.string ⟨#[97,114,114,97,121]⟩,.string ⟨#[]⟩,.slice (some ⟨w2.heap.size,0,none⟩) 2 2]) (by simp [results,Tryz.results48,go_sem,e0,e1,e2]) rfl ⟨⟨_,_,_,_,rfl⟩,(HK0.out.no HK3.out).trans (set3_kp w3 w.heap.size _ _ _) (by intro i hi h;omega)⟩
theorem karr_c (p q1:Int) (y x:Ty) (hy:KExprP y) (hx:KExprP x):KExprP (.arr p y q1 x):=by
 intro w F u h hsz
 simp only [Ty.At] at h
 obtain ⟨v,v',⟨b,rfl,_,hb⟩,hat,hat'⟩:=h
 have HB:=hd_ hb;clear hb
 simp only [Ty.nd,Nd.size,Nd.sizeL] at hsz
 simp only [Ty.ty,Ty.kind]
 have Ahy:=hd_ hat;clear hat
 have HY:=hd_ hy;clear hy
 have HSZHY:Hid (y.nd.size≤400):=(by omega:y.nd.size≤400)
 have Ahx:=hd_ hat';clear hat'
 have HX:=hd_ hx;clear hx
 have HSZHX:Hid (x.nd.size≤400):=(by omega:x.nd.size≤400)
 obtain ⟨W0,hW0⟩:∃ W,w.alloc (.cells #[.string ⟨#[]⟩,.string ⟨#[]⟩,.slice none 0 0] 24)=W:=⟨_,rfl⟩
 have hk0:Kp No w W0:=by rw [← hW0];exact (Kp.refl No w).alloc _
 have hx0:W0.heap[w.heap.size]?=some (.cells #[.string ⟨#[]⟩,.string ⟨#[]⟩,.slice none 0 0] 24 (0,0)):=by rw [← hW0];exact newOf w _
 have szW:W0.heap.size=w.heap.size+1:=by rw [← hW0];simp
 have HK0:=hd_ hk0;have HBOX:=hd_ hx0;have HW0:=hd_ hW0
 clear hW0 hx0
 have l_nb:=ltb HB.out
 obtain ⟨q1_nb,q2_nb,q3_nb,q4_nb,q5_nb⟩:=lts l_nb
 have nb1:=cO HB.out 1 _ rfl
 have nb2:=cO HB.out 2 _ rfl
 clear hk0
 go_enter Tryz.func48,Tryz.ntmps48
 go_wp2_with fail
 rw [HW0.out]
 clear HW0
 replace nb1:=(HK0.out.cell l_nb id).trans nb1
 replace nb2:=(HK0.out.cell l_nb id).trans nb2
 have lW_nb:b < W0.heap.size:=by omega
 have x0:=cO HBOX.out 0 _ rfl;have x1:=cO HBOX.out 1 _ rfl;have x2:=cO HBOX.out 2 _ rfl
 have g0:=fO HBOX.out 0;have g1:=fO HBOX.out 1;have g2:=fO HBOX.out 2
 have lx:w.heap.size < W0.heap.size:=by omega
 have ne_nb:=World.new_ne W0 _ nb1
 have ne_x:=World.new_ne W0 _ x0
 have d1_nb:b≠w.heap.size:=by omega
 have d2_nb:w.heap.size≠b:=by omega
 go_region_held3 (fun w'=>w'.cell? ⟨b,1,none⟩=some (.iface y.ty v)∧w'.cell? ⟨b,2,none⟩=some (.iface x.ty v'))
  (first | go_keep)
  (first
    | (go_at_call_of 48 (Value.iface y.ty v)
       refine (HY.out W0.drew F v (Ahy.out.on (HK0.out.no (Kp.refl No W0).drew) fun b _ h=>⟨id,h⟩) HSZHY.out).mono ?_
       rintro e w1 ⟨⟨t1,p1,n1,c1,rfl⟩,hK1⟩
       have k1:Kp No W0 w1:=((Kp.refl No W0).drew).trans' hK1
       clear hK1
       have sz1:W0.heap.size≤w1.heap.size:=k1.size
       have nb1_1:=(k1.cell lW_nb id).trans nb1
       have nb2_1:=(k1.cell lW_nb id).trans nb2
       have l1_nb:b < w1.heap.size:=by omega
       have x0_1:=(k1.cell lx id).trans x0
       have g0_1:=(k1.frozen lx id).trans g0
       have x1_1:=(k1.cell lx id).trans x1
       have g1_1:=(k1.frozen lx id).trans g1
       have x2_1:=(k1.cell lx id).trans x2
       have g2_1:=(k1.frozen lx id).trans g2
       have lx_1:w.heap.size < w1.heap.size:=by omega
       have HK1:=hd_ k1;clear k1)
    | (go_at_call_of 48 (Value.iface x.ty v')
       refine (HX.out w1 F v' (Ahx.out.on (HK0.out.no HK1.out) fun b _ h=>⟨id,h⟩) HSZHX.out).mono ?_
       rintro e w2 ⟨⟨t2,p2,n2,c2,rfl⟩,hK2⟩
       have k2:Kp No W0 w2:=(HK1.out).trans' hK2
       clear hK2
       have sz2:W0.heap.size≤w2.heap.size:=k2.size
       have nb1_2:=(k2.cell lW_nb id).trans nb1
       have nb2_2:=(k2.cell lW_nb id).trans nb2
       have l2_nb:b < w2.heap.size:=by omega
       have x0_2:=(k2.cell lx id).trans x0
       have g0_2:=(k2.frozen lx id).trans g0
       have x1_2:=(k2.cell lx id).trans x1
       have g1_2:=(k2.frozen lx id).trans g1
       have x2_2:=(k2.cell lx id).trans x2
       have g2_2:=(k2.frozen lx id).trans g2
       have lx_2:w.heap.size < w2.heap.size:=by omega
       have HK2:=hd_ k2;clear k2)
    | (go_at_call 66
       refine (kids_c _ _).mono ?_
       rintro e w3 ⟨rfl,hw3⟩
       have k3:Kp No W0 w3:=by rw [hw3];exact HK2.out.alloc _
       clear hw3
       have sz3:W0.heap.size≤w3.heap.size:=k3.size
       have nb1_3:=(k3.cell lW_nb id).trans nb1
       have nb2_3:=(k3.cell lW_nb id).trans nb2
       have l3_nb:b < w3.heap.size:=by omega
       have x0_3:=(k3.cell lx id).trans x0
       have g0_3:=(k3.frozen lx id).trans g0
       have x1_3:=(k3.cell lx id).trans x1
       have g1_3:=(k3.frozen lx id).trans g1
       have x2_3:=(k3.cell lx id).trans x2
       have g2_3:=(k3.frozen lx id).trans g2
       have lx_3:w.heap.size < w3.heap.size:=by omega
       have HK3:=hd_ k3;clear k3))
 all_goals
  go_wp2_with fail
  have h3:=set3_at (v0:=.string ⟨#[97,114,114,97,121]⟩) (v1:=.string ⟨#[]⟩) (v2:=.slice (some ⟨w2.heap.size,0,none⟩) 2 2) (HK3.out.at HBOX.out id)
  have e0:=cO h3 0 _ rfl;have e1:=cO h3 1 _ rfl;have e2:=cO h3 2 _ rfl
  refine bodyPost_ret (v:=.agg #[.string ⟨#[97,114,114,97,121]⟩,.string ⟨#[]⟩,.slice (some ⟨w2.heap.size,0,none⟩) 2 2]) (by simp [results,Tryz.results48,go_sem,e0,e1,e2]) rfl ⟨⟨_,_,_,_,rfl⟩,(HK0.out.no HK3.out).trans (set3_kp w3 w.heap.size _ _ _) (by intro i hi h;omega)⟩
theorem kmap_c (p q1 r:Int) (y x:Ty) (hy:KExprP y) (hx:KExprP x):KExprP (.map p q1 y r x):=by
 intro w F u h hsz
 simp only [Ty.At] at h
 obtain ⟨v,v',⟨b,rfl,_,hb⟩,hat,hat'⟩:=h
 have HB:=hd_ hb;clear hb
 simp only [Ty.nd,Nd.size,Nd.sizeL] at hsz
 simp only [Ty.ty,Ty.kind]
 have Ahy:=hd_ hat;clear hat
 have HY:=hd_ hy;clear hy
 have HSZHY:Hid (y.nd.size≤400):=(by omega:y.nd.size≤400)
 have Ahx:=hd_ hat';clear hat'
 have HX:=hd_ hx;clear hx
 have HSZHX:Hid (x.nd.size≤400):=(by omega:x.nd.size≤400)
 obtain ⟨W0,hW0⟩:∃ W,w.alloc (.cells #[.string ⟨#[]⟩,.string ⟨#[]⟩,.slice none 0 0] 24)=W:=⟨_,rfl⟩
 have hk0:Kp No w W0:=by rw [← hW0];exact (Kp.refl No w).alloc _
 have hx0:W0.heap[w.heap.size]?=some (.cells #[.string ⟨#[]⟩,.string ⟨#[]⟩,.slice none 0 0] 24 (0,0)):=by rw [← hW0];exact newOf w _
 have szW:W0.heap.size=w.heap.size+1:=by rw [← hW0];simp
 have HK0:=hd_ hk0;have HBOX:=hd_ hx0;have HW0:=hd_ hW0
 clear hW0 hx0
 have l_nb:=ltb HB.out
 obtain ⟨q1_nb,q2_nb,q3_nb,q4_nb,q5_nb⟩:=lts l_nb
 have nb1:=cO HB.out 1 _ rfl
 have nb2:=cO HB.out 2 _ rfl
 clear hk0
 go_enter Tryz.func48,Tryz.ntmps48
 go_wp2_with fail
 rw [HW0.out]
 clear HW0
 replace nb1:=(HK0.out.cell l_nb id).trans nb1
 replace nb2:=(HK0.out.cell l_nb id).trans nb2
 have lW_nb:b < W0.heap.size:=by omega
 have x0:=cO HBOX.out 0 _ rfl;have x1:=cO HBOX.out 1 _ rfl;have x2:=cO HBOX.out 2 _ rfl
 have g0:=fO HBOX.out 0;have g1:=fO HBOX.out 1;have g2:=fO HBOX.out 2
 have lx:w.heap.size < W0.heap.size:=by omega
 have ne_nb:=World.new_ne W0 _ nb1
 have ne_x:=World.new_ne W0 _ x0
 have d1_nb:b≠w.heap.size:=by omega
 have d2_nb:w.heap.size≠b:=by omega
 go_region_held3 (fun w'=>w'.cell? ⟨b,1,none⟩=some (.iface y.ty v)∧w'.cell? ⟨b,2,none⟩=some (.iface x.ty v'))
  (first | go_keep)
  (first
    | (go_at_call_of 48 (Value.iface y.ty v)
       refine (HY.out W0.drew F v (Ahy.out.on (HK0.out.no (Kp.refl No W0).drew) fun b _ h=>⟨id,h⟩) HSZHY.out).mono ?_
       rintro e w1 ⟨⟨t1,p1,n1,c1,rfl⟩,hK1⟩
       have k1:Kp No W0 w1:=((Kp.refl No W0).drew).trans' hK1
       clear hK1
       have sz1:W0.heap.size≤w1.heap.size:=k1.size
       have nb1_1:=(k1.cell lW_nb id).trans nb1
       have nb2_1:=(k1.cell lW_nb id).trans nb2
       have l1_nb:b < w1.heap.size:=by omega
       have x0_1:=(k1.cell lx id).trans x0
       have g0_1:=(k1.frozen lx id).trans g0
       have x1_1:=(k1.cell lx id).trans x1
       have g1_1:=(k1.frozen lx id).trans g1
       have x2_1:=(k1.cell lx id).trans x2
       have g2_1:=(k1.frozen lx id).trans g2
       have lx_1:w.heap.size < w1.heap.size:=by omega
       have HK1:=hd_ k1;clear k1)
    | (go_at_call_of 48 (Value.iface x.ty v')
       refine (HX.out w1 F v' (Ahx.out.on (HK0.out.no HK1.out) fun b _ h=>⟨id,h⟩) HSZHX.out).mono ?_
       rintro e w2 ⟨⟨t2,p2,n2,c2,rfl⟩,hK2⟩
       have k2:Kp No W0 w2:=(HK1.out).trans' hK2
       clear hK2
       have sz2:W0.heap.size≤w2.heap.size:=k2.size
       have nb1_2:=(k2.cell lW_nb id).trans nb1
       have nb2_2:=(k2.cell lW_nb id).trans nb2
       have l2_nb:b < w2.heap.size:=by omega
       have x0_2:=(k2.cell lx id).trans x0
       have g0_2:=(k2.frozen lx id).trans g0
       have x1_2:=(k2.cell lx id).trans x1
       have g1_2:=(k2.frozen lx id).trans g1
       have x2_2:=(k2.cell lx id).trans x2
       have g2_2:=(k2.frozen lx id).trans g2
       have lx_2:w.heap.size < w2.heap.size:=by omega
       have HK2:=hd_ k2;clear k2)
    | (go_at_call 66
       refine (kids_c _ _).mono ?_
       rintro e w3 ⟨rfl,hw3⟩
       have k3:Kp No W0 w3:=by rw [hw3];exact HK2.out.alloc _
       clear hw3
       have sz3:W0.heap.size≤w3.heap.size:=k3.size
       have nb1_3:=(k3.cell lW_nb id).trans nb1
       have nb2_3:=(k3.cell lW_nb id).trans nb2
       have l3_nb:b < w3.heap.size:=by omega
       have x0_3:=(k3.cell lx id).trans x0
       have g0_3:=(k3.frozen lx id).trans g0
       have x1_3:=(k3.cell lx id).trans x1
       have g1_3:=(k3.frozen lx id).trans g1
       have x2_3:=(k3.cell lx id).trans x2
       have g2_3:=(k3.frozen lx id).trans g2
       have lx_3:w.heap.size < w3.heap.size:=by omega
       have HK3:=hd_ k3;clear k3))
 all_goals
  go_wp2_with fail
  have h3:=set3_at (v0:=.string ⟨#[109,97,112]⟩) (v1:=.string ⟨#[]⟩) (v2:=.slice (some ⟨w2.heap.size,0,none⟩) 2 2) (HK3.out.at HBOX.out id)
  have e0:=cO h3 0 _ rfl;have e1:=cO h3 1 _ rfl;have e2:=cO h3 2 _ rfl
  refine bodyPost_ret (v:=.agg #[.string ⟨#[109,97,112]⟩,.string ⟨#[]⟩,.slice (some ⟨w2.heap.size,0,none⟩) 2 2]) (by simp [results,Tryz.results48,go_sem,e0,e1,e2]) rfl ⟨⟨_,_,_,_,rfl⟩,(HK0.out.no HK3.out).trans (set3_kp w3 w.heap.size _ _ _) (by intro i hi h;omega)⟩
theorem kch_c (p:Int) (x:Ty) (hx:KExprP x):KExprP (.ch p x):=by
 intro w F u h hsz
 simp only [Ty.At] at h
 obtain ⟨a,v,⟨b,rfl,_,hb⟩,hat⟩:=h
 have HB:=hd_ hb;clear hb
 simp only [Ty.nd,Nd.size,Nd.sizeL] at hsz
 simp only [Ty.ty,Ty.kind]
 have Ahx:=hd_ hat;clear hat
 have HX:=hd_ hx;clear hx
 have HSZHX:Hid (x.nd.size≤400):=(by omega:x.nd.size≤400)
 obtain ⟨W0,hW0⟩:∃ W,w.alloc (.cells #[.string ⟨#[]⟩,.string ⟨#[]⟩,.slice none 0 0] 24)=W:=⟨_,rfl⟩
 have hk0:Kp No w W0:=by rw [← hW0];exact (Kp.refl No w).alloc _
 have hx0:W0.heap[w.heap.size]?=some (.cells #[.string ⟨#[]⟩,.string ⟨#[]⟩,.slice none 0 0] 24 (0,0)):=by rw [← hW0];exact newOf w _
 have szW:W0.heap.size=w.heap.size+1:=by rw [← hW0];simp
 have HK0:=hd_ hk0;have HBOX:=hd_ hx0;have HW0:=hd_ hW0
 clear hW0 hx0
 have l_nb:=ltb HB.out
 obtain ⟨q1_nb,q2_nb,q3_nb,q4_nb,q5_nb⟩:=lts l_nb
 have nb2:=cO HB.out 2 _ rfl
 have nb3:=cO HB.out 3 _ rfl
 clear hk0
 go_enter Tryz.func48,Tryz.ntmps48
 go_wp2_with fail
 rw [HW0.out]
 clear HW0
 replace nb2:=(HK0.out.cell l_nb id).trans nb2
 replace nb3:=(HK0.out.cell l_nb id).trans nb3
 have lW_nb:b < W0.heap.size:=by omega
 have x0:=cO HBOX.out 0 _ rfl;have x1:=cO HBOX.out 1 _ rfl;have x2:=cO HBOX.out 2 _ rfl
 have g0:=fO HBOX.out 0;have g1:=fO HBOX.out 1;have g2:=fO HBOX.out 2
 have lx:w.heap.size < W0.heap.size:=by omega
 have ne_nb:=World.new_ne W0 _ nb2
 have ne_x:=World.new_ne W0 _ x0
 have d1_nb:b≠w.heap.size:=by omega
 have d2_nb:w.heap.size≠b:=by omega
 go_region_held3 (fun w'=>w'.cell? ⟨b,2,none⟩=some (.int .i64 3)∧w'.cell? ⟨b,3,none⟩=some (.iface x.ty v))
  (first | go_keep)
  (first
    | (go_at_call 71
       refine (kdir_c W0.drew _).mono ?_
       rintro e w1 ⟨⟨td,rfl⟩,hw1⟩
       have k1:Kp No W0 w1:=by rw [hw1];exact (Kp.refl No W0).drew
       clear hw1
       have sz1:W0.heap.size≤w1.heap.size:=k1.size
       have nb2_1:=(k1.cell lW_nb id).trans nb2
       have nb3_1:=(k1.cell lW_nb id).trans nb3
       have l1_nb:b < w1.heap.size:=by omega
       have x0_1:=(k1.cell lx id).trans x0
       have g0_1:=(k1.frozen lx id).trans g0
       have x1_1:=(k1.cell lx id).trans x1
       have g1_1:=(k1.frozen lx id).trans g1
       have x2_1:=(k1.cell lx id).trans x2
       have g2_1:=(k1.frozen lx id).trans g2
       have lx_1:w.heap.size < w1.heap.size:=by omega
       have HK1:=hd_ k1;clear k1)
    | (go_at_call 48
       refine (HX.out w1 F v (Ahx.out.on (HK0.out.no HK1.out) fun b _ h=>⟨id,h⟩) HSZHX.out).mono ?_
       rintro e w2 ⟨⟨t2,p2,n2,c2,rfl⟩,hK2⟩
       have k2:Kp No W0 w2:=(HK1.out).trans' hK2
       clear hK2
       have sz2:W0.heap.size≤w2.heap.size:=k2.size
       have nb2_2:=(k2.cell lW_nb id).trans nb2
       have nb3_2:=(k2.cell lW_nb id).trans nb3
       have l2_nb:b < w2.heap.size:=by omega
       have x0_2:=(k2.cell lx id).trans x0
       have g0_2:=(k2.frozen lx id).trans g0
       have x1_2:=(k2.cell lx id).trans x1
       have g1_2:=(k2.frozen lx id).trans g1
       have x2_2:=(k2.cell lx id).trans x2
       have g2_2:=(k2.frozen lx id).trans g2
       have lx_2:w.heap.size < w2.heap.size:=by omega
       have HK2:=hd_ k2;clear k2)
    | (go_at_call 66
       refine (kids_c _ _).mono ?_
       rintro e w3 ⟨rfl,hw3⟩
       have k3:Kp No W0 w3:=by rw [hw3];exact HK2.out.alloc _
       clear hw3
       have sz3:W0.heap.size≤w3.heap.size:=k3.size
       have nb2_3:=(k3.cell lW_nb id).trans nb2
       have nb3_3:=(k3.cell lW_nb id).trans nb3
       have l3_nb:b < w3.heap.size:=by omega
       have x0_3:=(k3.cell lx id).trans x0
       have g0_3:=(k3.frozen lx id).trans g0
       have x1_3:=(k3.cell lx id).trans x1
       have g1_3:=(k3.frozen lx id).trans g1
       have x2_3:=(k3.cell lx id).trans x2
       have g2_3:=(k3.frozen lx id).trans g2
       have lx_3:w.heap.size < w3.heap.size:=by omega
       have HK3:=hd_ k3;clear k3))
 all_goals
  go_wp2_with fail
  have h3:=set3_at (v0:=.string ⟨#[99,104,97,110]⟩) (v1:=.string td) (v2:=.slice (some ⟨w2.heap.size,0,none⟩) 1 1) (HK3.out.at HBOX.out id)
  have e0:=cO h3 0 _ rfl;have e1:=cO h3 1 _ rfl;have e2:=cO h3 2 _ rfl
  refine bodyPost_ret (v:=.agg #[.string ⟨#[99,104,97,110]⟩,.string td,.slice (some ⟨w2.heap.size,0,none⟩) 1 1]) (by simp [results,Tryz.results48,go_sem,e0,e1,e2]) rfl ⟨⟨_,_,_,_,rfl⟩,(HK0.out.no HK3.out).trans (set3_kp w3 w.heap.size _ _ _) (by intro i hi h;omega)⟩
theorem kchs_c (p q1:Int) (x:Ty) (hx:KExprP x):KExprP (.chs p q1 x):=by
 intro w F u h hsz
 simp only [Ty.At] at h
 obtain ⟨a,v,⟨b,rfl,_,hb⟩,hat⟩:=h
 have HB:=hd_ hb;clear hb
 simp only [Ty.nd,Nd.size,Nd.sizeL] at hsz
 simp only [Ty.ty,Ty.kind]
 have Ahx:=hd_ hat;clear hat
 have HX:=hd_ hx;clear hx
 have HSZHX:Hid (x.nd.size≤400):=(by omega:x.nd.size≤400)
 obtain ⟨W0,hW0⟩:∃ W,w.alloc (.cells #[.string ⟨#[]⟩,.string ⟨#[]⟩,.slice none 0 0] 24)=W:=⟨_,rfl⟩
 have hk0:Kp No w W0:=by rw [← hW0];exact (Kp.refl No w).alloc _
 have hx0:W0.heap[w.heap.size]?=some (.cells #[.string ⟨#[]⟩,.string ⟨#[]⟩,.slice none 0 0] 24 (0,0)):=by rw [← hW0];exact newOf w _
 have szW:W0.heap.size=w.heap.size+1:=by rw [← hW0];simp
 have HK0:=hd_ hk0;have HBOX:=hd_ hx0;have HW0:=hd_ hW0
 clear hW0 hx0
 have l_nb:=ltb HB.out
 obtain ⟨q1_nb,q2_nb,q3_nb,q4_nb,q5_nb⟩:=lts l_nb
 have nb2:=cO HB.out 2 _ rfl
 have nb3:=cO HB.out 3 _ rfl
 clear hk0
 go_enter Tryz.func48,Tryz.ntmps48
 go_wp2_with fail
 rw [HW0.out]
 clear HW0
 replace nb2:=(HK0.out.cell l_nb id).trans nb2
 replace nb3:=(HK0.out.cell l_nb id).trans nb3
 have lW_nb:b < W0.heap.size:=by omega
 have x0:=cO HBOX.out 0 _ rfl;have x1:=cO HBOX.out 1 _ rfl;have x2:=cO HBOX.out 2 _ rfl
 have g0:=fO HBOX.out 0;have g1:=fO HBOX.out 1;have g2:=fO HBOX.out 2
 have lx:w.heap.size < W0.heap.size:=by omega
 have ne_nb:=World.new_ne W0 _ nb2
 have ne_x:=World.new_ne W0 _ x0
 have d1_nb:b≠w.heap.size:=by omega
 have d2_nb:w.heap.size≠b:=by omega
 go_region_held3 (fun w'=>w'.cell? ⟨b,2,none⟩=some (.int .i64 1)∧w'.cell? ⟨b,3,none⟩=some (.iface x.ty v))
  (first | go_keep)
  (first
    | (go_at_call 71
       refine (kdir_c W0.drew _).mono ?_
       rintro e w1 ⟨⟨td,rfl⟩,hw1⟩
       have k1:Kp No W0 w1:=by rw [hw1];exact (Kp.refl No W0).drew
       clear hw1
       have sz1:W0.heap.size≤w1.heap.size:=k1.size
       have nb2_1:=(k1.cell lW_nb id).trans nb2
       have nb3_1:=(k1.cell lW_nb id).trans nb3
       have l1_nb:b < w1.heap.size:=by omega
       have x0_1:=(k1.cell lx id).trans x0
       have g0_1:=(k1.frozen lx id).trans g0
       have x1_1:=(k1.cell lx id).trans x1
       have g1_1:=(k1.frozen lx id).trans g1
       have x2_1:=(k1.cell lx id).trans x2
       have g2_1:=(k1.frozen lx id).trans g2
       have lx_1:w.heap.size < w1.heap.size:=by omega
       have HK1:=hd_ k1;clear k1)
    | (go_at_call 48
       refine (HX.out w1 F v (Ahx.out.on (HK0.out.no HK1.out) fun b _ h=>⟨id,h⟩) HSZHX.out).mono ?_
       rintro e w2 ⟨⟨t2,p2,n2,c2,rfl⟩,hK2⟩
       have k2:Kp No W0 w2:=(HK1.out).trans' hK2
       clear hK2
       have sz2:W0.heap.size≤w2.heap.size:=k2.size
       have nb2_2:=(k2.cell lW_nb id).trans nb2
       have nb3_2:=(k2.cell lW_nb id).trans nb3
       have l2_nb:b < w2.heap.size:=by omega
       have x0_2:=(k2.cell lx id).trans x0
       have g0_2:=(k2.frozen lx id).trans g0
       have x1_2:=(k2.cell lx id).trans x1
       have g1_2:=(k2.frozen lx id).trans g1
       have x2_2:=(k2.cell lx id).trans x2
       have g2_2:=(k2.frozen lx id).trans g2
       have lx_2:w.heap.size < w2.heap.size:=by omega
       have HK2:=hd_ k2;clear k2)
    | (go_at_call 66
       refine (kids_c _ _).mono ?_
       rintro e w3 ⟨rfl,hw3⟩
       have k3:Kp No W0 w3:=by rw [hw3];exact HK2.out.alloc _
       clear hw3
       have sz3:W0.heap.size≤w3.heap.size:=k3.size
       have nb2_3:=(k3.cell lW_nb id).trans nb2
       have nb3_3:=(k3.cell lW_nb id).trans nb3
       have l3_nb:b < w3.heap.size:=by omega
       have x0_3:=(k3.cell lx id).trans x0
       have g0_3:=(k3.frozen lx id).trans g0
       have x1_3:=(k3.cell lx id).trans x1
       have g1_3:=(k3.frozen lx id).trans g1
       have x2_3:=(k3.cell lx id).trans x2
       have g2_3:=(k3.frozen lx id).trans g2
       have lx_3:w.heap.size < w3.heap.size:=by omega
       have HK3:=hd_ k3;clear k3))
 all_goals
  go_wp2_with fail
  have h3:=set3_at (v0:=.string ⟨#[99,104,97,110]⟩) (v1:=.string td) (v2:=.slice (some ⟨w2.heap.size,0,none⟩) 1 1) (HK3.out.at HBOX.out id)
  have e0:=cO h3 0 _ rfl;have e1:=cO h3 1 _ rfl;have e2:=cO h3 2 _ rfl
  refine bodyPost_ret (v:=.agg #[.string ⟨#[99,104,97,110]⟩,.string td,.slice (some ⟨w2.heap.size,0,none⟩) 1 1]) (by simp [results,Tryz.results48,go_sem,e0,e1,e2]) rfl ⟨⟨_,_,_,_,rfl⟩,(HK0.out.no HK3.out).trans (set3_kp w3 w.heap.size _ _ _) (by intro i hi h;omega)⟩
theorem kchr_c (p q1:Int) (x:Ty) (hx:KExprP x):KExprP (.chr p q1 x):=by
 intro w F u h hsz
 simp only [Ty.At] at h
 obtain ⟨a,v,⟨b,rfl,_,hb⟩,hat⟩:=h
 have HB:=hd_ hb;clear hb
 simp only [Ty.nd,Nd.size,Nd.sizeL] at hsz
 simp only [Ty.ty,Ty.kind]
 have Ahx:=hd_ hat;clear hat
 have HX:=hd_ hx;clear hx
 have HSZHX:Hid (x.nd.size≤400):=(by omega:x.nd.size≤400)
 obtain ⟨W0,hW0⟩:∃ W,w.alloc (.cells #[.string ⟨#[]⟩,.string ⟨#[]⟩,.slice none 0 0] 24)=W:=⟨_,rfl⟩
 have hk0:Kp No w W0:=by rw [← hW0];exact (Kp.refl No w).alloc _
 have hx0:W0.heap[w.heap.size]?=some (.cells #[.string ⟨#[]⟩,.string ⟨#[]⟩,.slice none 0 0] 24 (0,0)):=by rw [← hW0];exact newOf w _
 have szW:W0.heap.size=w.heap.size+1:=by rw [← hW0];simp
 have HK0:=hd_ hk0;have HBOX:=hd_ hx0;have HW0:=hd_ hW0
 clear hW0 hx0
 have l_nb:=ltb HB.out
 obtain ⟨q1_nb,q2_nb,q3_nb,q4_nb,q5_nb⟩:=lts l_nb
 have nb2:=cO HB.out 2 _ rfl
 have nb3:=cO HB.out 3 _ rfl
 clear hk0
 go_enter Tryz.func48,Tryz.ntmps48
 go_wp2_with fail
 rw [HW0.out]
 clear HW0
 replace nb2:=(HK0.out.cell l_nb id).trans nb2
 replace nb3:=(HK0.out.cell l_nb id).trans nb3
 have lW_nb:b < W0.heap.size:=by omega
 have x0:=cO HBOX.out 0 _ rfl;have x1:=cO HBOX.out 1 _ rfl;have x2:=cO HBOX.out 2 _ rfl
 have g0:=fO HBOX.out 0;have g1:=fO HBOX.out 1;have g2:=fO HBOX.out 2
 have lx:w.heap.size < W0.heap.size:=by omega
 have ne_nb:=World.new_ne W0 _ nb2
 have ne_x:=World.new_ne W0 _ x0
 have d1_nb:b≠w.heap.size:=by omega
 have d2_nb:w.heap.size≠b:=by omega
 go_region_held3 (fun w'=>w'.cell? ⟨b,2,none⟩=some (.int .i64 2)∧w'.cell? ⟨b,3,none⟩=some (.iface x.ty v))
  (first | go_keep)
  (first
    | (go_at_call 71
       refine (kdir_c W0.drew _).mono ?_
       rintro e w1 ⟨⟨td,rfl⟩,hw1⟩
       have k1:Kp No W0 w1:=by rw [hw1];exact (Kp.refl No W0).drew
       clear hw1
       have sz1:W0.heap.size≤w1.heap.size:=k1.size
       have nb2_1:=(k1.cell lW_nb id).trans nb2
       have nb3_1:=(k1.cell lW_nb id).trans nb3
       have l1_nb:b < w1.heap.size:=by omega
       have x0_1:=(k1.cell lx id).trans x0
       have g0_1:=(k1.frozen lx id).trans g0
       have x1_1:=(k1.cell lx id).trans x1
       have g1_1:=(k1.frozen lx id).trans g1
       have x2_1:=(k1.cell lx id).trans x2
       have g2_1:=(k1.frozen lx id).trans g2
       have lx_1:w.heap.size < w1.heap.size:=by omega
       have HK1:=hd_ k1;clear k1)
    | (go_at_call 48
       refine (HX.out w1 F v (Ahx.out.on (HK0.out.no HK1.out) fun b _ h=>⟨id,h⟩) HSZHX.out).mono ?_
       rintro e w2 ⟨⟨t2,p2,n2,c2,rfl⟩,hK2⟩
       have k2:Kp No W0 w2:=(HK1.out).trans' hK2
       clear hK2
       have sz2:W0.heap.size≤w2.heap.size:=k2.size
       have nb2_2:=(k2.cell lW_nb id).trans nb2
       have nb3_2:=(k2.cell lW_nb id).trans nb3
       have l2_nb:b < w2.heap.size:=by omega
       have x0_2:=(k2.cell lx id).trans x0
       have g0_2:=(k2.frozen lx id).trans g0
       have x1_2:=(k2.cell lx id).trans x1
       have g1_2:=(k2.frozen lx id).trans g1
       have x2_2:=(k2.cell lx id).trans x2
       have g2_2:=(k2.frozen lx id).trans g2
       have lx_2:w.heap.size < w2.heap.size:=by omega
       have HK2:=hd_ k2;clear k2)
    | (go_at_call 66
       refine (kids_c _ _).mono ?_
       rintro e w3 ⟨rfl,hw3⟩
       have k3:Kp No W0 w3:=by rw [hw3];exact HK2.out.alloc _
       clear hw3
       have sz3:W0.heap.size≤w3.heap.size:=k3.size
       have nb2_3:=(k3.cell lW_nb id).trans nb2
       have nb3_3:=(k3.cell lW_nb id).trans nb3
       have l3_nb:b < w3.heap.size:=by omega
       have x0_3:=(k3.cell lx id).trans x0
       have g0_3:=(k3.frozen lx id).trans g0
       have x1_3:=(k3.cell lx id).trans x1
       have g1_3:=(k3.frozen lx id).trans g1
       have x2_3:=(k3.cell lx id).trans x2
       have g2_3:=(k3.frozen lx id).trans g2
       have lx_3:w.heap.size < w3.heap.size:=by omega
       have HK3:=hd_ k3;clear k3))
 all_goals
  go_wp2_with fail
  have h3:=set3_at (v0:=.string ⟨#[99,104,97,110]⟩) (v1:=.string td) (v2:=.slice (some ⟨w2.heap.size,0,none⟩) 1 1) (HK3.out.at HBOX.out id)
  have e0:=cO h3 0 _ rfl;have e1:=cO h3 1 _ rfl;have e2:=cO h3 2 _ rfl
  refine bodyPost_ret (v:=.agg #[.string ⟨#[99,104,97,110]⟩,.string td,.slice (some ⟨w2.heap.size,0,none⟩) 1 1]) (by simp [results,Tryz.results48,go_sem,e0,e1,e2]) rfl ⟨⟨_,_,_,_,rfl⟩,(HK0.out.no HK3.out).trans (set3_kp w3 w.heap.size _ _ _) (by intro i hi h;omega)⟩
theorem kstruct_c (p o:Int) (f:Fs) (c:Int) (hf:KFieldsP f):KExprP (.struct p o f c):=by
 intro w F u h hsz
 simp only [Ty.At] at h
 obtain ⟨v,⟨b,rfl,_,hb⟩,hat⟩:=h
 have HB:=hd_ hb;clear hb
 have hat:FlAt w F o f c v:=hat
 simp only [Ty.nd,fl,Nd.size,Nd.sizeL] at hsz
 simp only [Ty.ty,Ty.kind]
 have Ahf:=hd_ hat;clear hat
 have HF:=hd_ hf;clear hf
 have HSZHF:Hid (Nd.sizeL f.nds≤400):=(by omega:Nd.sizeL f.nds≤400)
 obtain ⟨W0,hW0⟩:∃ W,w.alloc (.cells #[.string ⟨#[]⟩,.string ⟨#[]⟩,.slice none 0 0] 24)=W:=⟨_,rfl⟩
 have hk0:Kp No w W0:=by rw [← hW0];exact (Kp.refl No w).alloc _
 have hx0:W0.heap[w.heap.size]?=some (.cells #[.string ⟨#[]⟩,.string ⟨#[]⟩,.slice none 0 0] 24 (0,0)):=by rw [← hW0];exact newOf w _
 have szW:W0.heap.size=w.heap.size+1:=by rw [← hW0];simp
 have HK0:=hd_ hk0;have HBOX:=hd_ hx0;have HW0:=hd_ hW0
 clear hW0 hx0
 have l_nb:=ltb HB.out
 obtain ⟨q1_nb,q2_nb,q3_nb,q4_nb,q5_nb⟩:=lts l_nb
 have nb1:=cO HB.out 1 _ rfl
 clear hk0
 go_enter Tryz.func48,Tryz.ntmps48
 go_wp2_with fail
 rw [HW0.out]
 clear HW0
 replace nb1:=(HK0.out.cell l_nb id).trans nb1
 have lW_nb:b < W0.heap.size:=by omega
 have x0:=cO HBOX.out 0 _ rfl;have x1:=cO HBOX.out 1 _ rfl;have x2:=cO HBOX.out 2 _ rfl
 have g0:=fO HBOX.out 0;have g1:=fO HBOX.out 1;have g2:=fO HBOX.out 2
 have lx:w.heap.size < W0.heap.size:=by omega
 have ne_nb:=World.new_ne W0 _ nb1
 have ne_x:=World.new_ne W0 _ x0
 have d1_nb:b≠w.heap.size:=by omega
 have d2_nb:w.heap.size≠b:=by omega
 refine (HF.out W0 F o c v (Ahf.out.on (HK0.out.no (Kp.refl No W0)) fun b _ h=>⟨id,h⟩) HSZHF.out).mono ?_
 rintro e w1 ⟨⟨t1,p1,n1,c1,rfl⟩,hK1⟩
 have k1:Kp No W0 w1:=((Kp.refl No W0)).trans' hK1
 clear hK1
 have sz1:W0.heap.size≤w1.heap.size:=k1.size
 have nb1_1:=(k1.cell lW_nb id).trans nb1
 have l1_nb:b < w1.heap.size:=by omega
 have x0_1:=(k1.cell lx id).trans x0
 have g0_1:=(k1.frozen lx id).trans g0
 have x1_1:=(k1.cell lx id).trans x1
 have g1_1:=(k1.frozen lx id).trans g1
 have x2_1:=(k1.cell lx id).trans x2
 have g2_1:=(k1.frozen lx id).trans g2
 have lx_1:w.heap.size < w1.heap.size:=by omega
 have HK1:=hd_ k1;clear k1
 go_wp2_with fail
 refine (kids_c _ _).mono ?_
 rintro e w2 ⟨rfl,hw2⟩
 have k2:Kp No W0 w2:=by rw [hw2];exact HK1.out.alloc _
 clear hw2
 have sz2:W0.heap.size≤w2.heap.size:=k2.size
 have nb1_2:=(k2.cell lW_nb id).trans nb1
 have l2_nb:b < w2.heap.size:=by omega
 have x0_2:=(k2.cell lx id).trans x0
 have g0_2:=(k2.frozen lx id).trans g0
 have x1_2:=(k2.cell lx id).trans x1
 have g1_2:=(k2.frozen lx id).trans g1
 have x2_2:=(k2.cell lx id).trans x2
 have g2_2:=(k2.frozen lx id).trans g2
 have lx_2:w.heap.size < w2.heap.size:=by omega
 have HK2:=hd_ k2;clear k2
 go_wp2_with fail
 have h3:=set3_at (v0:=.string ⟨#[115,116,114,117,99,116]⟩) (v1:=.string ⟨#[]⟩) (v2:=.slice (some ⟨w1.heap.size,0,none⟩) 1 1) (HK2.out.at HBOX.out id)
 have e0:=cO h3 0 _ rfl;have e1:=cO h3 1 _ rfl;have e2:=cO h3 2 _ rfl
 refine bodyPost_ret (v:=.agg #[.string ⟨#[115,116,114,117,99,116]⟩,.string ⟨#[]⟩,.slice (some ⟨w1.heap.size,0,none⟩) 1 1]) (by simp [results,Tryz.results48,go_sem,e0,e1,e2]) rfl ⟨⟨_,_,_,_,rfl⟩,(HK0.out.no HK2.out).trans (set3_kp w2 w.heap.size _ _ _) (by intro i hi h;omega)⟩
theorem kiface_c (p o:Int) (f:Fs) (c:Int) (hf:KFieldsP f):KExprP (.iface p o f c):=by
 intro w F u h hsz
 simp only [Ty.At] at h
 obtain ⟨v,⟨b,rfl,_,hb⟩,hat⟩:=h
 have HB:=hd_ hb;clear hb
 have hat:FlAt w F o f c v:=hat
 simp only [Ty.nd,fl,Nd.size,Nd.sizeL] at hsz
 simp only [Ty.ty,Ty.kind]
 have Ahf:=hd_ hat;clear hat
 have HF:=hd_ hf;clear hf
 have HSZHF:Hid (Nd.sizeL f.nds≤400):=(by omega:Nd.sizeL f.nds≤400)
 obtain ⟨W0,hW0⟩:∃ W,w.alloc (.cells #[.string ⟨#[]⟩,.string ⟨#[]⟩,.slice none 0 0] 24)=W:=⟨_,rfl⟩
 have hk0:Kp No w W0:=by rw [← hW0];exact (Kp.refl No w).alloc _
 have hx0:W0.heap[w.heap.size]?=some (.cells #[.string ⟨#[]⟩,.string ⟨#[]⟩,.slice none 0 0] 24 (0,0)):=by rw [← hW0];exact newOf w _
 have szW:W0.heap.size=w.heap.size+1:=by rw [← hW0];simp
 have HK0:=hd_ hk0;have HBOX:=hd_ hx0;have HW0:=hd_ hW0
 clear hW0 hx0
 have l_nb:=ltb HB.out
 obtain ⟨q1_nb,q2_nb,q3_nb,q4_nb,q5_nb⟩:=lts l_nb
 have nb1:=cO HB.out 1 _ rfl
 clear hk0
 go_enter Tryz.func48,Tryz.ntmps48
 go_wp2_with fail
 rw [HW0.out]
 clear HW0
 replace nb1:=(HK0.out.cell l_nb id).trans nb1
 have lW_nb:b < W0.heap.size:=by omega
 have x0:=cO HBOX.out 0 _ rfl;have x1:=cO HBOX.out 1 _ rfl;have x2:=cO HBOX.out 2 _ rfl
 have g0:=fO HBOX.out 0;have g1:=fO HBOX.out 1;have g2:=fO HBOX.out 2
 have lx:w.heap.size < W0.heap.size:=by omega
 have ne_nb:=World.new_ne W0 _ nb1
 have ne_x:=World.new_ne W0 _ x0
 have d1_nb:b≠w.heap.size:=by omega
 have d2_nb:w.heap.size≠b:=by omega
 refine (HF.out W0 F o c v (Ahf.out.on (HK0.out.no (Kp.refl No W0)) fun b _ h=>⟨id,h⟩) HSZHF.out).mono ?_
 rintro e w1 ⟨⟨t1,p1,n1,c1,rfl⟩,hK1⟩
 have k1:Kp No W0 w1:=((Kp.refl No W0)).trans' hK1
 clear hK1
 have sz1:W0.heap.size≤w1.heap.size:=k1.size
 have nb1_1:=(k1.cell lW_nb id).trans nb1
 have l1_nb:b < w1.heap.size:=by omega
 have x0_1:=(k1.cell lx id).trans x0
 have g0_1:=(k1.frozen lx id).trans g0
 have x1_1:=(k1.cell lx id).trans x1
 have g1_1:=(k1.frozen lx id).trans g1
 have x2_1:=(k1.cell lx id).trans x2
 have g2_1:=(k1.frozen lx id).trans g2
 have lx_1:w.heap.size < w1.heap.size:=by omega
 have HK1:=hd_ k1;clear k1
 go_wp2_with fail
 refine (kids_c _ _).mono ?_
 rintro e w2 ⟨rfl,hw2⟩
 have k2:Kp No W0 w2:=by rw [hw2];exact HK1.out.alloc _
 clear hw2
 have sz2:W0.heap.size≤w2.heap.size:=k2.size
 have nb1_2:=(k2.cell lW_nb id).trans nb1
 have l2_nb:b < w2.heap.size:=by omega
 have x0_2:=(k2.cell lx id).trans x0
 have g0_2:=(k2.frozen lx id).trans g0
 have x1_2:=(k2.cell lx id).trans x1
 have g1_2:=(k2.frozen lx id).trans g1
 have x2_2:=(k2.cell lx id).trans x2
 have g2_2:=(k2.frozen lx id).trans g2
 have lx_2:w.heap.size < w2.heap.size:=by omega
 have HK2:=hd_ k2;clear k2
 go_wp2_with fail
 have h3:=set3_at (v0:=.string ⟨#[105,110,116,101,114,102,97,99,101]⟩) (v1:=.string ⟨#[]⟩) (v2:=.slice (some ⟨w1.heap.size,0,none⟩) 1 1) (HK2.out.at HBOX.out id)
 have e0:=cO h3 0 _ rfl;have e1:=cO h3 1 _ rfl;have e2:=cO h3 2 _ rfl
 refine bodyPost_ret (v:=.agg #[.string ⟨#[105,110,116,101,114,102,97,99,101]⟩,.string ⟨#[]⟩,.slice (some ⟨w1.heap.size,0,none⟩) 1 1]) (by simp [results,Tryz.results48,go_sem,e0,e1,e2]) rfl ⟨⟨_,_,_,_,rfl⟩,(HK0.out.no HK2.out).trans (set3_kp w2 w.heap.size _ _ _) (by intro i hi h;omega)⟩
theorem ksigf_c (p o:Int) (ps:Fs) (c o':Int) (rs:Fs) (c':Int) (hp:KFieldsP ps):KExprP ((.sig p o ps c false o' rs c')):=by
 intro w F u h hsz
 simp only [Ty.At] at h
 obtain ⟨v,v',⟨b,rfl,_,hb⟩,hat,hat'⟩:=h
 have HB:=hd_ hb;clear hb
 have hat:FlAt w F o ps c v:=hat
 obtain ⟨vb,rfl⟩:=hat.ptr
 have hat':v'=.pointer none:=by simpa using hat'
 subst hat'
 simp only [Ty.nd,fl,Nd.miss,Nd.size,Nd.sizeL,if_true,Bool.false_eq_true,if_false] at hsz
 simp only [Ty.ty,Ty.kind]
 have Ahp:=hd_ hat;clear hat
 have HP:=hd_ hp;clear hp
 have HSZHP:Hid (Nd.sizeL ps.nds≤400):=(by omega:Nd.sizeL ps.nds≤400)
 obtain ⟨W0,hW0⟩:∃ W,w.alloc (.cells #[.string ⟨#[]⟩,.string ⟨#[]⟩,.slice none 0 0] 24)=W:=⟨_,rfl⟩
 have hk0:Kp No w W0:=by rw [← hW0];exact (Kp.refl No w).alloc _
 have hx0:W0.heap[w.heap.size]?=some (.cells #[.string ⟨#[]⟩,.string ⟨#[]⟩,.slice none 0 0] 24 (0,0)):=by rw [← hW0];exact newOf w _
 have szW:W0.heap.size=w.heap.size+1:=by rw [← hW0];simp
 have HK0:=hd_ hk0;have HBOX:=hd_ hx0;have HW0:=hd_ hW0
 clear hW0 hx0
 have l_nb:=ltb HB.out
 obtain ⟨q1_nb,q2_nb,q3_nb,q4_nb,q5_nb⟩:=lts l_nb
 have nb2:=cO HB.out 2 _ rfl
 have nb3:=cO HB.out 3 _ rfl
 clear hk0
 go_enter Tryz.func48,Tryz.ntmps48
 go_wp2_with fail
 rw [HW0.out]
 clear HW0
 replace nb2:=(HK0.out.cell l_nb id).trans nb2
 replace nb3:=(HK0.out.cell l_nb id).trans nb3
 have lW_nb:b < W0.heap.size:=by omega
 have x0:=cO HBOX.out 0 _ rfl;have x1:=cO HBOX.out 1 _ rfl;have x2:=cO HBOX.out 2 _ rfl
 have g0:=fO HBOX.out 0;have g1:=fO HBOX.out 1;have g2:=fO HBOX.out 2
 have lx:w.heap.size < W0.heap.size:=by omega
 have ne_nb:=World.new_ne W0 _ nb2
 have ne_x:=World.new_ne W0 _ x0
 have d1_nb:b≠w.heap.size:=by omega
 have d2_nb:w.heap.size≠b:=by omega
 go_region_held3 (fun w'=>w'.cell? ⟨b,2,none⟩=some (.pointer (some ⟨vb,0,none⟩))∧w'.cell? ⟨b,3,none⟩=some (.pointer none))
  (first | go_keep)
  (first
    | (go_at_call_of 67 (Value.pointer (some ⟨vb,0,none⟩))
       refine (HP.out W0.drew F o c (.pointer (some ⟨vb,0,none⟩)) (Ahp.out.on (HK0.out.no (Kp.refl No W0).drew) fun b _ h=>⟨id,h⟩) HSZHP.out).mono ?_
       rintro e w1 ⟨⟨t1,p1,n1,c1,rfl⟩,hK1⟩
       have k1:Kp No W0 w1:=((Kp.refl No W0).drew).trans' hK1
       clear hK1
       have sz1:W0.heap.size≤w1.heap.size:=k1.size
       have nb2_1:=(k1.cell lW_nb id).trans nb2
       have nb3_1:=(k1.cell lW_nb id).trans nb3
       have l1_nb:b < w1.heap.size:=by omega
       have x0_1:=(k1.cell lx id).trans x0
       have g0_1:=(k1.frozen lx id).trans g0
       have x1_1:=(k1.cell lx id).trans x1
       have g1_1:=(k1.frozen lx id).trans g1
       have x2_1:=(k1.cell lx id).trans x2
       have g2_1:=(k1.frozen lx id).trans g2
       have lx_1:w.heap.size < w1.heap.size:=by omega
       have HK1:=hd_ k1;clear k1)
    | (go_at_call_of 67 (Value.pointer none)
       refine (kfieldsnil_c w1).mono ?_
       rintro e w2 ⟨⟨t2,p2,n2,c2,rfl⟩,hK2⟩
       have k2:Kp No W0 w2:=(HK1.out).trans' hK2
       clear hK2
       have sz2:W0.heap.size≤w2.heap.size:=k2.size
       have nb2_2:=(k2.cell lW_nb id).trans nb2
       have nb3_2:=(k2.cell lW_nb id).trans nb3
       have l2_nb:b < w2.heap.size:=by omega
       have x0_2:=(k2.cell lx id).trans x0
       have g0_2:=(k2.frozen lx id).trans g0
       have x1_2:=(k2.cell lx id).trans x1
       have g1_2:=(k2.frozen lx id).trans g1
       have x2_2:=(k2.cell lx id).trans x2
       have g2_2:=(k2.frozen lx id).trans g2
       have lx_2:w.heap.size < w2.heap.size:=by omega
       have HK2:=hd_ k2;clear k2)
    | (go_at_call 66
       refine (kids_c _ _).mono ?_
       rintro e w3 ⟨rfl,hw3⟩
       have k3:Kp No W0 w3:=by rw [hw3];exact HK2.out.alloc _
       clear hw3
       have sz3:W0.heap.size≤w3.heap.size:=k3.size
       have nb2_3:=(k3.cell lW_nb id).trans nb2
       have nb3_3:=(k3.cell lW_nb id).trans nb3
       have l3_nb:b < w3.heap.size:=by omega
       have x0_3:=(k3.cell lx id).trans x0
       have g0_3:=(k3.frozen lx id).trans g0
       have x1_3:=(k3.cell lx id).trans x1
       have g1_3:=(k3.frozen lx id).trans g1
       have x2_3:=(k3.cell lx id).trans x2
       have g2_3:=(k3.frozen lx id).trans g2
       have lx_3:w.heap.size < w3.heap.size:=by omega
       have HK3:=hd_ k3;clear k3))
 all_goals
  go_wp2_with fail
  have h3:=set3_at (v0:=.string ⟨#[115,105,103,110,97,116,117,114,101]⟩) (v1:=.string ⟨#[]⟩) (v2:=.slice (some ⟨w2.heap.size,0,none⟩) 2 2) (HK3.out.at HBOX.out id)
  have e0:=cO h3 0 _ rfl;have e1:=cO h3 1 _ rfl;have e2:=cO h3 2 _ rfl
  refine bodyPost_ret (v:=.agg #[.string ⟨#[115,105,103,110,97,116,117,114,101]⟩,.string ⟨#[]⟩,.slice (some ⟨w2.heap.size,0,none⟩) 2 2]) (by simp [results,Tryz.results48,go_sem,e0,e1,e2]) rfl ⟨⟨_,_,_,_,rfl⟩,(HK0.out.no HK3.out).trans (set3_kp w3 w.heap.size _ _ _) (by intro i hi h;omega)⟩
theorem ksigt_c (p o:Int) (ps:Fs) (c o':Int) (rs:Fs) (c':Int) (hp:KFieldsP ps) (hr:KFieldsP rs):KExprP ((.sig p o ps c true o' rs c')):=by
 intro w F u h hsz
 simp only [Ty.At] at h
 obtain ⟨v,v',⟨b,rfl,_,hb⟩,hat,hat'⟩:=h
 have HB:=hd_ hb;clear hb
 have hat:FlAt w F o ps c v:=hat
 obtain ⟨vb,rfl⟩:=hat.ptr
 have hat':FlAt w F o' rs c' v':=by simp only [if_true] at hat';exact hat'
 obtain ⟨vc,rfl⟩:=hat'.ptr
 simp only [Ty.nd,fl,Nd.miss,Nd.size,Nd.sizeL,if_true,Bool.false_eq_true,if_false] at hsz
 simp only [Ty.ty,Ty.kind]
 have Ahp:=hd_ hat;clear hat
 have HP:=hd_ hp;clear hp
 have HSZHP:Hid (Nd.sizeL ps.nds≤400):=(by omega:Nd.sizeL ps.nds≤400)
 have Ahr:=hd_ hat';clear hat'
 have HR:=hd_ hr;clear hr
 have HSZHR:Hid (Nd.sizeL rs.nds≤400):=(by omega:Nd.sizeL rs.nds≤400)
 obtain ⟨W0,hW0⟩:∃ W,w.alloc (.cells #[.string ⟨#[]⟩,.string ⟨#[]⟩,.slice none 0 0] 24)=W:=⟨_,rfl⟩
 have hk0:Kp No w W0:=by rw [← hW0];exact (Kp.refl No w).alloc _
 have hx0:W0.heap[w.heap.size]?=some (.cells #[.string ⟨#[]⟩,.string ⟨#[]⟩,.slice none 0 0] 24 (0,0)):=by rw [← hW0];exact newOf w _
 have szW:W0.heap.size=w.heap.size+1:=by rw [← hW0];simp
 have HK0:=hd_ hk0;have HBOX:=hd_ hx0;have HW0:=hd_ hW0
 clear hW0 hx0
 have l_nb:=ltb HB.out
 obtain ⟨q1_nb,q2_nb,q3_nb,q4_nb,q5_nb⟩:=lts l_nb
 have nb2:=cO HB.out 2 _ rfl
 have nb3:=cO HB.out 3 _ rfl
 clear hk0
 go_enter Tryz.func48,Tryz.ntmps48
 go_wp2_with fail
 rw [HW0.out]
 clear HW0
 replace nb2:=(HK0.out.cell l_nb id).trans nb2
 replace nb3:=(HK0.out.cell l_nb id).trans nb3
 have lW_nb:b < W0.heap.size:=by omega
 have x0:=cO HBOX.out 0 _ rfl;have x1:=cO HBOX.out 1 _ rfl;have x2:=cO HBOX.out 2 _ rfl
 have g0:=fO HBOX.out 0;have g1:=fO HBOX.out 1;have g2:=fO HBOX.out 2
 have lx:w.heap.size < W0.heap.size:=by omega
 have ne_nb:=World.new_ne W0 _ nb2
 have ne_x:=World.new_ne W0 _ x0
 have d1_nb:b≠w.heap.size:=by omega
 have d2_nb:w.heap.size≠b:=by omega
 go_region_held3 (fun w'=>w'.cell? ⟨b,2,none⟩=some (.pointer (some ⟨vb,0,none⟩))∧w'.cell? ⟨b,3,none⟩=some (.pointer (some ⟨vc,0,none⟩)))
  (first | go_keep)
  (first
    | (go_at_call_of 67 (Value.pointer (some ⟨vb,0,none⟩))
       refine (HP.out W0.drew F o c (.pointer (some ⟨vb,0,none⟩)) (Ahp.out.on (HK0.out.no (Kp.refl No W0).drew) fun b _ h=>⟨id,h⟩) HSZHP.out).mono ?_
       rintro e w1 ⟨⟨t1,p1,n1,c1,rfl⟩,hK1⟩
       have k1:Kp No W0 w1:=((Kp.refl No W0).drew).trans' hK1
       clear hK1
       have sz1:W0.heap.size≤w1.heap.size:=k1.size
       have nb2_1:=(k1.cell lW_nb id).trans nb2
       have nb3_1:=(k1.cell lW_nb id).trans nb3
       have l1_nb:b < w1.heap.size:=by omega
       have x0_1:=(k1.cell lx id).trans x0
       have g0_1:=(k1.frozen lx id).trans g0
       have x1_1:=(k1.cell lx id).trans x1
       have g1_1:=(k1.frozen lx id).trans g1
       have x2_1:=(k1.cell lx id).trans x2
       have g2_1:=(k1.frozen lx id).trans g2
       have lx_1:w.heap.size < w1.heap.size:=by omega
       have HK1:=hd_ k1;clear k1)
    | (go_at_call_of 67 (Value.pointer (some ⟨vc,0,none⟩))
       refine (HR.out w1 F o' c' (.pointer (some ⟨vc,0,none⟩)) (Ahr.out.on (HK0.out.no HK1.out) fun b _ h=>⟨id,h⟩) HSZHR.out).mono ?_
       rintro e w2 ⟨⟨t2,p2,n2,c2,rfl⟩,hK2⟩
       have k2:Kp No W0 w2:=(HK1.out).trans' hK2
       clear hK2
       have sz2:W0.heap.size≤w2.heap.size:=k2.size
       have nb2_2:=(k2.cell lW_nb id).trans nb2
       have nb3_2:=(k2.cell lW_nb id).trans nb3
       have l2_nb:b < w2.heap.size:=by omega
       have x0_2:=(k2.cell lx id).trans x0
       have g0_2:=(k2.frozen lx id).trans g0
       have x1_2:=(k2.cell lx id).trans x1
       have g1_2:=(k2.frozen lx id).trans g1
       have x2_2:=(k2.cell lx id).trans x2
       have g2_2:=(k2.frozen lx id).trans g2
       have lx_2:w.heap.size < w2.heap.size:=by omega
       have HK2:=hd_ k2;clear k2)
    | (go_at_call 66
       refine (kids_c _ _).mono ?_
       rintro e w3 ⟨rfl,hw3⟩
       have k3:Kp No W0 w3:=by rw [hw3];exact HK2.out.alloc _
       clear hw3
       have sz3:W0.heap.size≤w3.heap.size:=k3.size
       have nb2_3:=(k3.cell lW_nb id).trans nb2
       have nb3_3:=(k3.cell lW_nb id).trans nb3
       have l3_nb:b < w3.heap.size:=by omega
       have x0_3:=(k3.cell lx id).trans x0
       have g0_3:=(k3.frozen lx id).trans g0
       have x1_3:=(k3.cell lx id).trans x1
       have g1_3:=(k3.frozen lx id).trans g1
       have x2_3:=(k3.cell lx id).trans x2
       have g2_3:=(k3.frozen lx id).trans g2
       have lx_3:w.heap.size < w3.heap.size:=by omega
       have HK3:=hd_ k3;clear k3))
 all_goals
  go_wp2_with fail
  have h3:=set3_at (v0:=.string ⟨#[115,105,103,110,97,116,117,114,101]⟩) (v1:=.string ⟨#[]⟩) (v2:=.slice (some ⟨w2.heap.size,0,none⟩) 2 2) (HK3.out.at HBOX.out id)
  have e0:=cO h3 0 _ rfl;have e1:=cO h3 1 _ rfl;have e2:=cO h3 2 _ rfl
  refine bodyPost_ret (v:=.agg #[.string ⟨#[115,105,103,110,97,116,117,114,101]⟩,.string ⟨#[]⟩,.slice (some ⟨w2.heap.size,0,none⟩) 2 2]) (by simp [results,Tryz.results48,go_sem,e0,e1,e2]) rfl ⟨⟨_,_,_,_,rfl⟩,(HK0.out.no HK3.out).trans (set3_kp w3 w.heap.size _ _ _) (by intro i hi h;omega)⟩
theorem kall_c:∀ n:Nat,(∀ t:Ty,t.sz < n→KExprP t)∧(∀ f:Fs,f.sz < n→KFieldsP f)
 | 0=>⟨fun _ h=>absurd h (by omega),fun _ h=>absurd h (by omega)⟩
 | n+1=>by
  obtain ⟨ihT,ihF⟩:=kall_c n
  refine ⟨fun t ht=>?_,fun f hf=>?_⟩
  ·cases t with
   | name p s=>exact kname_e p s
   | lit p s=>exact klit_c p s
   | sel x d p s=>exact ksel_c x d p s (ihT x (by simp only [Ty.sz] at ht;omega))
   | star p x=>exact kstar_c p x (ihT x (by simp only [Ty.sz] at ht;omega))
   | sl p q x=>exact ksl_c p q x (ihT x (by simp only [Ty.sz] at ht;omega))
   | arr p y q x=>exact karr_c p q y x (ihT y (by simp only [Ty.sz] at ht;omega)) (ihT x (by simp only [Ty.sz] at ht;omega))
   | map p q k r v=>exact kmap_c p q r k v (ihT k (by simp only [Ty.sz] at ht;omega)) (ihT v (by simp only [Ty.sz] at ht;omega))
   | ch p x=>exact kch_c p x (ihT x (by simp only [Ty.sz] at ht;omega))
   | chs p q x=>exact kchs_c p q x (ihT x (by simp only [Ty.sz] at ht;omega))
   | chr p q x=>exact kchr_c p q x (ihT x (by simp only [Ty.sz] at ht;omega))
   | sig p o ps c b o' rs c' =>
    have h1:=ihF ps (by simp only [Ty.sz] at ht;omega)
    have h2:=ihF rs (by simp only [Ty.sz] at ht;omega)
    cases b with
    | true=>exact ksigt_c p o ps c o' rs c' h1 h2
    | false=>exact ksigf_c p o ps c o' rs c' h1
   | struct p o f c=>exact kstruct_c p o f c (ihF f (by simp only [Ty.sz] at ht;omega))
   | iface p o f c=>exact kiface_c p o f c (ihF f (by simp only [Ty.sz] at ht;omega))
  ·exact kfields_c f fun d hd=>kfield_c d (ihT d.t (by have:=Fs.fds_sz f d hd;omega))
theorem kexpr_c (t:Ty):KExprP t:=(kall_c (t.sz+1)).1 t (by omega)
theorem kfields_a (f:Fs):KFieldsP f:=(kall_c (f.sz+1)).2 f (by omega)
end
end Go.Proofs.YtnkbglhdpmbgfaaGreatFmt
