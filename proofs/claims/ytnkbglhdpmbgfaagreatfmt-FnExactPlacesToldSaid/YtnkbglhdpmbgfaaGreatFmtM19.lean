/- A part of the proof; no condition: KDecl, KFunc, Kind, Meth. -/
import Derived.Test.YtnkbglhdpmbgfaaGreatFmtM
import Derived.Test.YtnkbglhdpmbgfaaGreatFmtM16
import Derived.Test.YtnkbglhdpmbgfaaGreatFmtM18
set_option linter.all false
set_option maxHeartbeats 16000000
set_option maxRecDepth 100000
namespace Go.Proofs.YtnkbglhdpmbgfaaGreatFmt
section
open Go Go.RowKit
attribute [local go_sem ↓] Go.wp_at_zero Go.wp_at_succ
def KDeclP (d:Dc):Prop:=∀ (w:World) (F:Nat→Prop) (u:Value),Tok w→d.At w F u→d.ok→d.nd.size≤400→Calls Tryz.prog 46 #[.iface d.ty u] w fun e w'=>KR d.kind e∧Kp No w w'
theorem klistits_c (w:World) (F:Nat→Prop) (kind:ByteArray) (its:List It) (s:Value) (us:List Value) (hr:Row w F 88 s us) (hn:LAt ItAt w F its us) (hok:∀ it∈its,it.ok) (hl:Nd.sizeL (its.map It.nd)≤400) :
 Calls Tryz.prog 64 #[.string kind,s,.func (.func 47) #[] #[]] w fun e w'=>LR3 w w' kind us.length e∧Kp No w w':=by
 have hul:=LAt.length _ _ hn
 refine klistsp_c w F kind s us hr (by have:=Nd.sizeL_length (its.map It.nd);simp at this;omega) (fun u hu wr hk=>?_) (fun u hu=>?_)
 ·obtain ⟨d,hd,x,rfl,h⟩:=hn.mem _ _ u hu
  exact (kitem_c d wr F x (It.At.stay (Stay.of_kp hk fun b _ hF=>⟨id,hF⟩) _ _ h) (hok d hd) (Nat.le_trans (Nd.sizeL_mem (List.mem_map_of_mem (f:=It.nd) hd)) hl)).mono fun e w' h=>⟨⟨_,h.1⟩,h.2⟩
 ·obtain ⟨d,_,x,rfl,h⟩:=hn.mem _ _ u hu
  rfl
theorem wd_cat (wd:Wd):⟨#[100,101,99,108,97,114,101,32]⟩++wd.word=wd.kind:=by cases wd <;> rfl
theorem kgenx_c (wd:Wd) (p l r:Int) (its:List It) (hl:l=0) (hok:∀ it∈its,it.ok) (hsz:Nd.sizeL (its.map It.nd)≤400) (w:World) (F:Nat→Prop) (u:Value) (hT:Tok w) (h:GenAt w F p wd.tok l its r u) :
 Calls Tryz.prog 46 #[.iface 81 u] w fun e w'=>KR wd.kind e∧Kp No w w':=by
 subst hl
 obtain ⟨z,zs,⟨b,rfl,_,hb⟩,hr,hat⟩:=h
 obtain ⟨zp,zc,rfl⟩:=hr.form
 obtain ⟨W0,hW0⟩:∃ W,w.alloc (.cells #[.string ⟨#[]⟩,.string ⟨#[]⟩,.slice none 0 0] 24)=W:=⟨_,rfl⟩
 have hk0:Kp No w W0:=by rw [← hW0];exact (Kp.refl No w).alloc _
 have hx0:W0.heap[w.heap.size]?=some (.cells #[.string ⟨#[]⟩,.string ⟨#[]⟩,.slice none 0 0] 24 (0,0)):=by rw [← hW0];exact newOf w _
 have szW:W0.heap.size=w.heap.size+1:=by rw [← hW0];simp
 have C:=klistits_c W0 F ⟨#[]⟩ its (.slice zp zs.length zc) zs (hr.stay (Stay.of_kp hk0 fun b _ h=>⟨id,h⟩)) (LAt.stay (ItAt.stay (Stay.of_kp hk0 fun b _ h=>⟨id,h⟩)) _ _ hat) hok hsz
 have c4:=cO hb 4 _ rfl
 have lb:=ltb hb
 obtain ⟨q1,q2,q3,q4,q5⟩:=lts lb
 have HC:=hd_ C;have HK0:=hd_ hk0;have HBOX:=hd_ hx0;have HB:=hd_ hb;have HTK:=hd_ hT;have HW0:=hd_ hW0
 obtain ⟨e1,e2,e3,e4⟩:=tokS_at wd
 have ecat:=wd_cat wd
 have ews:wd.word.size≤6:=by cases wd <;> decide
 clear C hk0 hx0 hb hT hW0 hat hr hok hsz
 generalize hwt:wd.tok=tk at *
 generalize hww:wd.word=wo at *
 generalize hwk:wd.kind=kd at *
 go_enter Tryz.func46,Tryz.ntmps46
 go_wp2_with fail
 rw [HW0.out]
 clear HW0
 refine HC.out.mono ?_
 rintro e w1 ⟨⟨sl,us,rfl,hrow,_,_⟩,hk1⟩
 obtain ⟨sp,sc,rfl⟩:=owns_form hrow
 have sz1:=hk1.size
 have hb1:=(HK0.out.no hk1).at HB.out id
 have b2:=cO hb1 2 _ rfl
 have l1:=ltb hb1
 obtain ⟨r1,r2,r3,r4,r5⟩:=lts l1
 have HK1:=hd_ hk1
 clear hk1 hb1 hrow c4 HC
 go_wp2_with fail
 have htk:=((HTK.out.stay HK0.out id).stay HK1.out id) tk (by omega)
 refine (tokstr_c _ tk _ (((Kp.refl No w1).alloc _).cell (b:=0) (World.block_lt_of_cell? w1 _ htk) id |>.trans htk) (by omega) (by rw [e1];exact e4)).mono ?_
 rintro e w2 ⟨rfl,hk2⟩
 rw [e1]
 have hk12:Kp No w1 w2:=((Kp.refl No w1).alloc _).no hk2
 have sz2:=hk2.size
 simp only [World.size_alloc] at sz2
 have h4:=hk2.at (newOf w1 _) id
 have hbx:=(HK1.out.no hk12).at HBOX.out id
 have hb2:=((HK0.out.no HK1.out).no hk12).at HB.out id
 have b3:=cO hb2 3 _ rfl
 have l2:=ltb hb2
 have t0:=cO h4 0 _ rfl;have t1:=cO h4 1 _ rfl;have t2:=cO h4 2 _ rfl
 have f0:=fO h4 0;have f1:=fO h4 1;have l4:=ltb h4
 have x0:=cO hbx 0 _ rfl;have x1:=cO hbx 1 _ rfl;have x2:=cO hbx 2 _ rfl
 have g0:=fO hbx 0;have g1:=fO hbx 1;have g2:=fO hbx 2
 have lx:=ltb hbx
 have d1:w1.heap.size≠w.heap.size:=by omega
 have d2:w.heap.size≠w1.heap.size:=by omega
 have d3:b≠w1.heap.size:=by omega
 have d4:w1.heap.size≠b:=by omega
 have HK2:=hd_ hk12;have HX2:=hd_ hbx
 clear hk2 hk12 h4 hbx hb2 htk b2
 go_wp2_with fail
 refine (kvalid_c _ 0).mono ?_
 rintro e w3 ⟨rfl,hw3⟩
 rw [show decide ((0:Int)≠0)=false by rfl]
 subst hw3
 go_wp2_with fail
 have hb3:=set3_at (v0:=.string kd) (v1:=.string ⟨#[]⟩) (v2:=.slice sp zs.length sc) ((setOther (p:=⟨w1.heap.size,0,none⟩) HX2.out (show w.heap.size≠w1.heap.size by omega) (.string kd)))
 have e0:=cO hb3 0 _ rfl;have e1:=cO hb3 1 _ rfl;have e2:=cO hb3 2 _ rfl
 refine bodyPost_ret (v:=.agg #[.string kd,.string ⟨#[]⟩,.slice sp zs.length sc]) (by simp [results,Tryz.results46,go_sem,e0,e1,e2]) rfl ⟨⟨_,_,_,_,rfl⟩,?_⟩
 exact ((((HK0.out.no HK1.out).no HK2.out).setCell (p:=⟨w1.heap.size,0,none⟩) (by simp;omega) (.string kd))).trans (set3_kp _ w.heap.size _ _ _) (by intro i hi h;omega)
theorem kgeng_c (wd:Wd) (p l r:Int) (its:List It) (hl:l≠0) (hok:∀ it∈its,it.ok) (hsz:Nd.sizeL (its.map It.nd)≤400) (w:World) (F:Nat→Prop) (u:Value) (hT:Tok w) (h:GenAt w F p wd.tok l its r u) :
 Calls Tryz.prog 46 #[.iface 81 u] w fun e w'=>KR wd.kind e∧Kp No w w':=by
 obtain ⟨z,zs,⟨b,rfl,_,hb⟩,hr,hat⟩:=h
 obtain ⟨zp,zc,rfl⟩:=hr.form
 obtain ⟨W0,hW0⟩:∃ W,w.alloc (.cells #[.string ⟨#[]⟩,.string ⟨#[]⟩,.slice none 0 0] 24)=W:=⟨_,rfl⟩
 have hk0:Kp No w W0:=by rw [← hW0];exact (Kp.refl No w).alloc _
 have hx0:W0.heap[w.heap.size]?=some (.cells #[.string ⟨#[]⟩,.string ⟨#[]⟩,.slice none 0 0] 24 (0,0)):=by rw [← hW0];exact newOf w _
 have szW:W0.heap.size=w.heap.size+1:=by rw [← hW0];simp
 have C:=klistits_c W0 F ⟨#[]⟩ its (.slice zp zs.length zc) zs (hr.stay (Stay.of_kp hk0 fun b _ h=>⟨id,h⟩)) (LAt.stay (ItAt.stay (Stay.of_kp hk0 fun b _ h=>⟨id,h⟩)) _ _ hat) hok hsz
 have c4:=cO hb 4 _ rfl
 have lb:=ltb hb
 obtain ⟨q1,q2,q3,q4,q5⟩:=lts lb
 have HC:=hd_ C;have HK0:=hd_ hk0;have HBOX:=hd_ hx0;have HB:=hd_ hb;have HTK:=hd_ hT;have HW0:=hd_ hW0
 obtain ⟨e1,e2,e3,e4⟩:=tokS_at wd
 have ecat:=wd_cat wd
 have ews:wd.word.size≤6:=by cases wd <;> decide
 clear C hk0 hx0 hb hT hW0 hat hr hok hsz
 generalize hwt:wd.tok=tk at *
 generalize hww:wd.word=wo at *
 generalize hwk:wd.kind=kd at *
 go_enter Tryz.func46,Tryz.ntmps46
 go_wp2_with fail
 rw [HW0.out]
 clear HW0
 refine HC.out.mono ?_
 rintro e w1 ⟨⟨sl,us,rfl,hrow,_,_⟩,hk1⟩
 obtain ⟨sp,sc,rfl⟩:=owns_form hrow
 have sz1:=hk1.size
 have hb1:=(HK0.out.no hk1).at HB.out id
 have b2:=cO hb1 2 _ rfl
 have l1:=ltb hb1
 obtain ⟨r1,r2,r3,r4,r5⟩:=lts l1
 have HK1:=hd_ hk1
 clear hk1 hb1 hrow c4 HC
 go_wp2_with fail
 have htk:=((HTK.out.stay HK0.out id).stay HK1.out id) tk (by omega)
 refine (tokstr_c _ tk _ (((Kp.refl No w1).alloc _).cell (b:=0) (World.block_lt_of_cell? w1 _ htk) id |>.trans htk) (by omega) (by rw [e1];exact e4)).mono ?_
 rintro e w2 ⟨rfl,hk2⟩
 rw [e1]
 have hk12:Kp No w1 w2:=((Kp.refl No w1).alloc _).no hk2
 have sz2:=hk2.size
 simp only [World.size_alloc] at sz2
 have h4:=hk2.at (newOf w1 _) id
 have hbx:=(HK1.out.no hk12).at HBOX.out id
 have hb2:=((HK0.out.no HK1.out).no hk12).at HB.out id
 have b3:=cO hb2 3 _ rfl
 have l2:=ltb hb2
 have t0:=cO h4 0 _ rfl;have t1:=cO h4 1 _ rfl;have t2:=cO h4 2 _ rfl
 have f0:=fO h4 0;have f1:=fO h4 1;have l4:=ltb h4
 have x0:=cO hbx 0 _ rfl;have x1:=cO hbx 1 _ rfl;have x2:=cO hbx 2 _ rfl
 have g0:=fO hbx 0;have g1:=fO hbx 1;have g2:=fO hbx 2
 have lx:=ltb hbx
 have d1:w1.heap.size≠w.heap.size:=by omega
 have d2:w.heap.size≠w1.heap.size:=by omega
 have d3:b≠w1.heap.size:=by omega
 have d4:w1.heap.size≠b:=by omega
 have HK2:=hd_ hk12;have HX2:=hd_ hbx
 clear hk2 hk12 h4 hbx hb2 htk b2
 go_wp2_with fail
 refine (kvalid_c _ l).mono ?_
 rintro e w3 ⟨rfl,hw3⟩
 rw [show decide ((l:Int)≠0)=true by simpa using hl]
 subst hw3
 go_wp2_with fail
 have hb3:=set3_at (v0:=.string kd) (v1:=.string ⟨#[103,114,111,117,112]⟩) (v2:=.slice sp zs.length sc) ((setOther (p:=⟨w1.heap.size,1,none⟩) (setOther (p:=⟨w1.heap.size,0,none⟩) HX2.out (show w.heap.size≠w1.heap.size by omega) (.string kd)) (show w.heap.size≠w1.heap.size by omega) (.string ⟨#[103,114,111,117,112]⟩)))
 have e0:=cO hb3 0 _ rfl;have e1:=cO hb3 1 _ rfl;have e2:=cO hb3 2 _ rfl
 refine bodyPost_ret (v:=.agg #[.string kd,.string ⟨#[103,114,111,117,112]⟩,.slice sp zs.length sc]) (by simp [results,Tryz.results46,go_sem,e0,e1,e2]) rfl ⟨⟨_,_,_,_,rfl⟩,?_⟩
 exact (((((HK0.out.no HK1.out).no HK2.out).setCell (p:=⟨w1.heap.size,0,none⟩) (by simp;omega) (.string kd)).setCell (p:=⟨w1.heap.size,1,none⟩) (by simp;omega) (.string (⟨#[103,114,111,117,112]⟩:ByteArray)))).trans (set3_kp _ w.heap.size _ _ _) (by intro i hi h;omega)
end
section
open Go Go.RowKit
attribute [local go_sem ↓] Go.wp_at_zero Go.wp_at_succ
theorem kfuncnn_c (p:Int) (np:Int) (s0:ByteArray) (o:Int) (ps:Fs) (c:Int) (b:Bool) (o':Int) (rs:Fs) (c':Int)  (hsg:(Ty.sig p o ps c b o' rs c').nd.size≤400) (w:World) (F:Nat→Prop) (u:Value) (h:Dc.At w F (.func p none np s0 o ps c b o' rs c' none) u) :
 Calls Tryz.prog 46 #[.iface 66 u] w fun e w'=>KR ⟨#[102,117,110,99]⟩ e∧Kp No w w':=by
 obtain ⟨r,i,y,d,⟨b0,rfl,_,hb⟩,hr,⟨ib,rfl,_,hib⟩,hy,hd⟩:=h
 obtain ⟨yb,rfl⟩:=hy.ptr
 obtain rfl:r=.pointer none:=hr
 obtain rfl:d=.pointer none:=hd
 obtain ⟨Wa,hWa⟩:∃ W,w.alloc (.cells #[.string ⟨#[]⟩,.string ⟨#[]⟩,.slice none 0 0] 24)=W:=⟨_,rfl⟩
 have hka:Kp No w Wa:=by rw [← hWa];exact (Kp.refl No w).alloc _
 have hxa:Wa.heap[w.heap.size]?=some (.cells #[.string ⟨#[]⟩,.string ⟨#[]⟩,.slice none 0 0] 24 (0,0)):=by rw [← hWa];exact newOf w _
 have szA:Wa.heap.size=w.heap.size+1:=by rw [← hWa];simp
 have lb:=ltb hb;have li:=ltb hib
 have AY:=hd_ hy;clear hy
 have HB:=hd_ hb;have HI:=hd_ hib;have HKA:=hd_ hka;have HXA:=hd_ hxa;have HWA:=hd_ hWa
 clear hb hib hka hxa hWa
 go_enter Tryz.func46,Tryz.ntmps46
 go_wp2_with fail
 rw [HWA.out]
 clear HWA
 refine (none_c _).mono ?_
 rintro e wb ⟨rfl,hk1⟩
 have sz1:=hk1.size
 have hb1:=(HKA.out.no hk1).at HB.out id
 have b4:=cO hb1 4 _ rfl
 have lb1:=ltb hb1
 obtain ⟨q1,q2,q3,q4,q5⟩:=lts lb1
 have HKB:=hd_ hk1;clear hk1 hb1
 go_wp2_with fail
 obtain ⟨W0,hW0⟩:∃ W,wb.alloc (.cells #[.string ⟨#[110,111,110,101]⟩,.string ⟨#[]⟩,.slice none 0 0] 24)=W:=⟨_,rfl⟩
 rw [hW0]
 have hk1W:Kp No wb W0:=by rw [← hW0];exact (Kp.refl No wb).alloc _
 have HK0:Hid (Kp No w W0):=(HKA.out.no HKB.out).no hk1W
 have HBOX:Hid (W0.heap[w.heap.size]?=some (.cells #[.string ⟨#[]⟩,.string ⟨#[]⟩,.slice none 0 0] 24 (0,0))):=(HKB.out.no hk1W).at HXA.out id
 have h6:W0.heap[wb.heap.size]?=some (.cells #[.string ⟨#[110,111,110,101]⟩,.string ⟨#[]⟩,.slice none 0 0] 24 (0,0)):=by rw [← hW0];exact newOf wb _
 have szW:W0.heap.size=wb.heap.size+1:=by rw [← hW0];simp
 have hbW:=HK0.out.at HB.out id;have hiW:=HK0.out.at HI.out id
 clear hW0 hk1W b4
 have nb1:=cO hbW 1 _ rfl
 have nb2:=cO hbW 2 _ rfl
 have nb3:=cO hbW 3 _ rfl
 have lW_nb:b0 < W0.heap.size:=ltb hbW
 have ni1:=cO hiW 1 _ rfl
 have lW_ni:ib < W0.heap.size:=ltb hiW
 have nk0:=cO h6 0 _ rfl
 have nk1:=cO h6 1 _ rfl
 have nk2:=cO h6 2 _ rfl
 have lW_nk:wb.heap.size < W0.heap.size:=ltb h6
 clear hbW hiW h6
 have x0:=cO HBOX.out 0 _ rfl;have x1:=cO HBOX.out 1 _ rfl;have x2:=cO HBOX.out 2 _ rfl
 have g0:=fO HBOX.out 0;have g1:=fO HBOX.out 1;have g2:=fO HBOX.out 2
 have lx:w.heap.size < W0.heap.size:=by omega
 have ne_nb:=World.new_ne W0 _ nb1
 have d1_nb:b0≠w.heap.size:=by omega
 have d2_nb:w.heap.size≠b0:=by omega
 have ne_ni:=World.new_ne W0 _ ni1
 have d1_ni:ib≠w.heap.size:=by omega
 have d2_ni:w.heap.size≠ib:=by omega
 have ne_nk:=World.new_ne W0 _ nk0
 have d1_nk:wb.heap.size≠w.heap.size:=by omega
 have d2_nk:w.heap.size≠wb.heap.size:=by omega
 have ne_x:=World.new_ne W0 _ x0
 go_region_held3 (fun w'=>w'.cell? ⟨b0,1,none⟩=some (.pointer none)∧w'.cell? ⟨b0,2,none⟩=some (.pointer (some ⟨ib,0,none⟩))∧w'.cell? ⟨b0,3,none⟩=some (.pointer (some ⟨yb,0,none⟩))∧w'.cell? ⟨ib,1,none⟩=some (.string s0)∧w'.cell? ⟨wb.heap.size,0,none⟩=some (.string ⟨#[110,111,110,101]⟩)∧w'.cell? ⟨wb.heap.size,1,none⟩=some (.string ⟨#[]⟩)∧w'.cell? ⟨wb.heap.size,2,none⟩=some (.slice none 0 0))
  (first | go_keep)
  (first
    | (go_at_call 67
       refine (kfieldsnil_c W0.drew).mono ?_
       rintro e w1 ⟨⟨t1,p1,n1,c1,rfl⟩,hK1⟩
       have k1:Kp No W0 w1:=((Kp.refl No W0).drew).trans' hK1
       clear hK1
       have sz1:W0.heap.size≤w1.heap.size:=k1.size
       have nb1_1:=(k1.cell lW_nb id).trans nb1
       have nb2_1:=(k1.cell lW_nb id).trans nb2
       have nb3_1:=(k1.cell lW_nb id).trans nb3
       have l1_nb:b0 < w1.heap.size:=by omega
       have ni1_1:=(k1.cell lW_ni id).trans ni1
       have l1_ni:ib < w1.heap.size:=by omega
       have nk0_1:=(k1.cell lW_nk id).trans nk0
       have nk1_1:=(k1.cell lW_nk id).trans nk1
       have nk2_1:=(k1.cell lW_nk id).trans nk2
       have l1_nk:wb.heap.size < w1.heap.size:=by omega
       have x0_1:=(k1.cell lx id).trans x0
       have g0_1:=(k1.frozen lx id).trans g0
       have x1_1:=(k1.cell lx id).trans x1
       have g1_1:=(k1.frozen lx id).trans g1
       have x2_1:=(k1.cell lx id).trans x2
       have g2_1:=(k1.frozen lx id).trans g2
       have lx_1:w.heap.size < w1.heap.size:=by omega
       have HK1:=hd_ k1;clear k1)
    | (go_at_call 48
       refine ((kexpr_c (Ty.sig p o ps c b o' rs c')) w1 F (.pointer (some ⟨yb,0,none⟩)) (AY.out.on (HK0.out.no HK1.out) fun b _ h=>⟨id,h⟩) hsg).mono ?_
       rintro e w2 ⟨⟨t2,p2,n2,c2,rfl⟩,hK2⟩
       have k2:Kp No W0 w2:=(HK1.out).trans' hK2
       clear hK2
       have sz2:W0.heap.size≤w2.heap.size:=k2.size
       have nb1_2:=(k2.cell lW_nb id).trans nb1
       have nb2_2:=(k2.cell lW_nb id).trans nb2
       have nb3_2:=(k2.cell lW_nb id).trans nb3
       have l2_nb:b0 < w2.heap.size:=by omega
       have ni1_2:=(k2.cell lW_ni id).trans ni1
       have l2_ni:ib < w2.heap.size:=by omega
       have nk0_2:=(k2.cell lW_nk id).trans nk0
       have nk1_2:=(k2.cell lW_nk id).trans nk1
       have nk2_2:=(k2.cell lW_nk id).trans nk2
       have l2_nk:wb.heap.size < w2.heap.size:=by omega
       have x0_2:=(k2.cell lx id).trans x0
       have g0_2:=(k2.frozen lx id).trans g0
       have x1_2:=(k2.cell lx id).trans x1
       have g1_2:=(k2.frozen lx id).trans g1
       have x2_2:=(k2.cell lx id).trans x2
       have g2_2:=(k2.frozen lx id).trans g2
       have lx_2:w.heap.size < w2.heap.size:=by omega
       have HK2:=hd_ k2;clear k2)
    | (go_at_call 66
       refine (kids_c _ _).mono ?_
       rintro e w3 ⟨rfl,hw3⟩
       have k3:Kp No W0 w3:=by rw [hw3];exact HK2.out.alloc _
       clear hw3
       have sz3:W0.heap.size≤w3.heap.size:=k3.size
       have nb1_3:=(k3.cell lW_nb id).trans nb1
       have nb2_3:=(k3.cell lW_nb id).trans nb2
       have nb3_3:=(k3.cell lW_nb id).trans nb3
       have l3_nb:b0 < w3.heap.size:=by omega
       have ni1_3:=(k3.cell lW_ni id).trans ni1
       have l3_ni:ib < w3.heap.size:=by omega
       have nk0_3:=(k3.cell lW_nk id).trans nk0
       have nk1_3:=(k3.cell lW_nk id).trans nk1
       have nk2_3:=(k3.cell lW_nk id).trans nk2
       have l3_nk:wb.heap.size < w3.heap.size:=by omega
       have x0_3:=(k3.cell lx id).trans x0
       have g0_3:=(k3.frozen lx id).trans g0
       have x1_3:=(k3.cell lx id).trans x1
       have g1_3:=(k3.frozen lx id).trans g1
       have x2_3:=(k3.cell lx id).trans x2
       have g2_3:=(k3.frozen lx id).trans g2
       have lx_3:w.heap.size < w3.heap.size:=by omega
       have HK3:=hd_ k3;clear k3))
 all_goals
  go_wp2_with fail
  have h3:=set3_at (v0:=.string ⟨#[102,117,110,99]⟩) (v1:=.string s0) (v2:=.slice (some ⟨w2.heap.size,0,none⟩) 3 3) (HK3.out.at HBOX.out id)
  have e0:=cO h3 0 _ rfl;have e1:=cO h3 1 _ rfl;have e2:=cO h3 2 _ rfl
  refine bodyPost_ret (v:=.agg #[.string ⟨#[102,117,110,99]⟩,.string s0,.slice (some ⟨w2.heap.size,0,none⟩) 3 3]) (by simp [results,Tryz.results46,go_sem,e0,e1,e2]) rfl ⟨⟨_,_,_,_,rfl⟩,(HK0.out.no HK3.out).trans (set3_kp w3 w.heap.size _ _ _) (by intro i hi h;omega)⟩
theorem kfuncnb_c (p:Int) (np:Int) (s0:ByteArray) (o:Int) (ps:Fs) (c:Int) (b:Bool) (o':Int) (rs:Fs) (c':Int) (bo bc:Int) (hsg:(Ty.sig p o ps c b o' rs c').nd.size≤400) (w:World) (F:Nat→Prop) (u:Value) (h:Dc.At w F (.func p none np s0 o ps c b o' rs c' (some (bo,bc))) u) :
 Calls Tryz.prog 46 #[.iface 66 u] w fun e w'=>KR ⟨#[102,117,110,99]⟩ e∧Kp No w w':=by
 obtain ⟨r,i,y,d,⟨b0,rfl,_,hb⟩,hr,⟨ib,rfl,_,hib⟩,hy,hd⟩:=h
 obtain ⟨yb,rfl⟩:=hy.ptr
 obtain rfl:r=.pointer none:=hr
 obtain ⟨db,rfl,_,hdb⟩:=hd
 clear hdb
 obtain ⟨Wa,hWa⟩:∃ W,w.alloc (.cells #[.string ⟨#[]⟩,.string ⟨#[]⟩,.slice none 0 0] 24)=W:=⟨_,rfl⟩
 have hka:Kp No w Wa:=by rw [← hWa];exact (Kp.refl No w).alloc _
 have hxa:Wa.heap[w.heap.size]?=some (.cells #[.string ⟨#[]⟩,.string ⟨#[]⟩,.slice none 0 0] 24 (0,0)):=by rw [← hWa];exact newOf w _
 have szA:Wa.heap.size=w.heap.size+1:=by rw [← hWa];simp
 have lb:=ltb hb;have li:=ltb hib
 have AY:=hd_ hy;clear hy
 have HB:=hd_ hb;have HI:=hd_ hib;have HKA:=hd_ hka;have HXA:=hd_ hxa;have HWA:=hd_ hWa
 clear hb hib hka hxa hWa
 go_enter Tryz.func46,Tryz.ntmps46
 go_wp2_with fail
 rw [HWA.out]
 clear HWA
 refine (none_c _).mono ?_
 rintro e wb ⟨rfl,hk1⟩
 have sz1:=hk1.size
 have hb1:=(HKA.out.no hk1).at HB.out id
 have b4:=cO hb1 4 _ rfl
 have lb1:=ltb hb1
 obtain ⟨q1,q2,q3,q4,q5⟩:=lts lb1
 have HKB:=hd_ hk1;clear hk1 hb1
 go_wp2_with fail
 obtain ⟨W0,hW0⟩:∃ W,wb.alloc (.cells #[.string ⟨#[98,111,100,121]⟩,.string ⟨#[]⟩,.slice none 0 0] 24)=W:=⟨_,rfl⟩
 rw [hW0]
 have hk1W:Kp No wb W0:=by rw [← hW0];exact (Kp.refl No wb).alloc _
 have HK0:Hid (Kp No w W0):=(HKA.out.no HKB.out).no hk1W
 have HBOX:Hid (W0.heap[w.heap.size]?=some (.cells #[.string ⟨#[]⟩,.string ⟨#[]⟩,.slice none 0 0] 24 (0,0))):=(HKB.out.no hk1W).at HXA.out id
 have h6:W0.heap[wb.heap.size]?=some (.cells #[.string ⟨#[98,111,100,121]⟩,.string ⟨#[]⟩,.slice none 0 0] 24 (0,0)):=by rw [← hW0];exact newOf wb _
 have szW:W0.heap.size=wb.heap.size+1:=by rw [← hW0];simp
 have hbW:=HK0.out.at HB.out id;have hiW:=HK0.out.at HI.out id
 clear hW0 hk1W b4
 have nb1:=cO hbW 1 _ rfl
 have nb2:=cO hbW 2 _ rfl
 have nb3:=cO hbW 3 _ rfl
 have lW_nb:b0 < W0.heap.size:=ltb hbW
 have ni1:=cO hiW 1 _ rfl
 have lW_ni:ib < W0.heap.size:=ltb hiW
 have nk0:=cO h6 0 _ rfl
 have nk1:=cO h6 1 _ rfl
 have nk2:=cO h6 2 _ rfl
 have lW_nk:wb.heap.size < W0.heap.size:=ltb h6
 clear hbW hiW h6
 have x0:=cO HBOX.out 0 _ rfl;have x1:=cO HBOX.out 1 _ rfl;have x2:=cO HBOX.out 2 _ rfl
 have g0:=fO HBOX.out 0;have g1:=fO HBOX.out 1;have g2:=fO HBOX.out 2
 have lx:w.heap.size < W0.heap.size:=by omega
 have ne_nb:=World.new_ne W0 _ nb1
 have d1_nb:b0≠w.heap.size:=by omega
 have d2_nb:w.heap.size≠b0:=by omega
 have ne_ni:=World.new_ne W0 _ ni1
 have d1_ni:ib≠w.heap.size:=by omega
 have d2_ni:w.heap.size≠ib:=by omega
 have ne_nk:=World.new_ne W0 _ nk0
 have d1_nk:wb.heap.size≠w.heap.size:=by omega
 have d2_nk:w.heap.size≠wb.heap.size:=by omega
 have ne_x:=World.new_ne W0 _ x0
 go_region_held3 (fun w'=>w'.cell? ⟨b0,1,none⟩=some (.pointer none)∧w'.cell? ⟨b0,2,none⟩=some (.pointer (some ⟨ib,0,none⟩))∧w'.cell? ⟨b0,3,none⟩=some (.pointer (some ⟨yb,0,none⟩))∧w'.cell? ⟨ib,1,none⟩=some (.string s0)∧w'.cell? ⟨wb.heap.size,0,none⟩=some (.string ⟨#[98,111,100,121]⟩)∧w'.cell? ⟨wb.heap.size,1,none⟩=some (.string ⟨#[]⟩)∧w'.cell? ⟨wb.heap.size,2,none⟩=some (.slice none 0 0))
  (first | go_keep)
  (first
    | (go_at_call 67
       refine (kfieldsnil_c W0.drew).mono ?_
       rintro e w1 ⟨⟨t1,p1,n1,c1,rfl⟩,hK1⟩
       have k1:Kp No W0 w1:=((Kp.refl No W0).drew).trans' hK1
       clear hK1
       have sz1:W0.heap.size≤w1.heap.size:=k1.size
       have nb1_1:=(k1.cell lW_nb id).trans nb1
       have nb2_1:=(k1.cell lW_nb id).trans nb2
       have nb3_1:=(k1.cell lW_nb id).trans nb3
       have l1_nb:b0 < w1.heap.size:=by omega
       have ni1_1:=(k1.cell lW_ni id).trans ni1
       have l1_ni:ib < w1.heap.size:=by omega
       have nk0_1:=(k1.cell lW_nk id).trans nk0
       have nk1_1:=(k1.cell lW_nk id).trans nk1
       have nk2_1:=(k1.cell lW_nk id).trans nk2
       have l1_nk:wb.heap.size < w1.heap.size:=by omega
       have x0_1:=(k1.cell lx id).trans x0
       have g0_1:=(k1.frozen lx id).trans g0
       have x1_1:=(k1.cell lx id).trans x1
       have g1_1:=(k1.frozen lx id).trans g1
       have x2_1:=(k1.cell lx id).trans x2
       have g2_1:=(k1.frozen lx id).trans g2
       have lx_1:w.heap.size < w1.heap.size:=by omega
       have HK1:=hd_ k1;clear k1)
    | (go_at_call 48
       refine ((kexpr_c (Ty.sig p o ps c b o' rs c')) w1 F (.pointer (some ⟨yb,0,none⟩)) (AY.out.on (HK0.out.no HK1.out) fun b _ h=>⟨id,h⟩) hsg).mono ?_
       rintro e w2 ⟨⟨t2,p2,n2,c2,rfl⟩,hK2⟩
       have k2:Kp No W0 w2:=(HK1.out).trans' hK2
       clear hK2
       have sz2:W0.heap.size≤w2.heap.size:=k2.size
       have nb1_2:=(k2.cell lW_nb id).trans nb1
       have nb2_2:=(k2.cell lW_nb id).trans nb2
       have nb3_2:=(k2.cell lW_nb id).trans nb3
       have l2_nb:b0 < w2.heap.size:=by omega
       have ni1_2:=(k2.cell lW_ni id).trans ni1
       have l2_ni:ib < w2.heap.size:=by omega
       have nk0_2:=(k2.cell lW_nk id).trans nk0
       have nk1_2:=(k2.cell lW_nk id).trans nk1
       have nk2_2:=(k2.cell lW_nk id).trans nk2
       have l2_nk:wb.heap.size < w2.heap.size:=by omega
       have x0_2:=(k2.cell lx id).trans x0
       have g0_2:=(k2.frozen lx id).trans g0
       have x1_2:=(k2.cell lx id).trans x1
       have g1_2:=(k2.frozen lx id).trans g1
       have x2_2:=(k2.cell lx id).trans x2
       have g2_2:=(k2.frozen lx id).trans g2
       have lx_2:w.heap.size < w2.heap.size:=by omega
       have HK2:=hd_ k2;clear k2)
    | (go_at_call 66
       refine (kids_c _ _).mono ?_
       rintro e w3 ⟨rfl,hw3⟩
       have k3:Kp No W0 w3:=by rw [hw3];exact HK2.out.alloc _
       clear hw3
       have sz3:W0.heap.size≤w3.heap.size:=k3.size
       have nb1_3:=(k3.cell lW_nb id).trans nb1
       have nb2_3:=(k3.cell lW_nb id).trans nb2
       have nb3_3:=(k3.cell lW_nb id).trans nb3
       have l3_nb:b0 < w3.heap.size:=by omega
       have ni1_3:=(k3.cell lW_ni id).trans ni1
       have l3_ni:ib < w3.heap.size:=by omega
       have nk0_3:=(k3.cell lW_nk id).trans nk0
       have nk1_3:=(k3.cell lW_nk id).trans nk1
       have nk2_3:=(k3.cell lW_nk id).trans nk2
       have l3_nk:wb.heap.size < w3.heap.size:=by omega
       have x0_3:=(k3.cell lx id).trans x0
       have g0_3:=(k3.frozen lx id).trans g0
       have x1_3:=(k3.cell lx id).trans x1
       have g1_3:=(k3.frozen lx id).trans g1
       have x2_3:=(k3.cell lx id).trans x2
       have g2_3:=(k3.frozen lx id).trans g2
       have lx_3:w.heap.size < w3.heap.size:=by omega
       have HK3:=hd_ k3;clear k3))
 all_goals
  go_wp2_with fail
  have h3:=set3_at (v0:=.string ⟨#[102,117,110,99]⟩) (v1:=.string s0) (v2:=.slice (some ⟨w2.heap.size,0,none⟩) 3 3) (HK3.out.at HBOX.out id)
  have e0:=cO h3 0 _ rfl;have e1:=cO h3 1 _ rfl;have e2:=cO h3 2 _ rfl
  refine bodyPost_ret (v:=.agg #[.string ⟨#[102,117,110,99]⟩,.string s0,.slice (some ⟨w2.heap.size,0,none⟩) 3 3]) (by simp [results,Tryz.results46,go_sem,e0,e1,e2]) rfl ⟨⟨_,_,_,_,rfl⟩,(HK0.out.no HK3.out).trans (set3_kp w3 w.heap.size _ _ _) (by intro i hi h;omega)⟩
theorem kfuncrn_c (p:Int) (ro:Int) (rf:Fs) (rc:Int) (np:Int) (s0:ByteArray) (o:Int) (ps:Fs) (c:Int) (b:Bool) (o':Int) (rs:Fs) (c':Int)  (hrf:Nd.sizeL rf.nds≤400) (hsg:(Ty.sig p o ps c b o' rs c').nd.size≤400) (w:World) (F:Nat→Prop) (u:Value) (h:Dc.At w F (.func p (some (ro,rf,rc)) np s0 o ps c b o' rs c' none) u) :
 Calls Tryz.prog 46 #[.iface 66 u] w fun e w'=>KR ⟨#[102,117,110,99]⟩ e∧Kp No w w':=by
 obtain ⟨r,i,y,d,⟨b0,rfl,_,hb⟩,hr,⟨ib,rfl,_,hib⟩,hy,hd⟩:=h
 obtain ⟨yb,rfl⟩:=hy.ptr
 have hr:FlAt w F ro rf rc r:=hr
 obtain ⟨rb,rfl⟩:=hr.ptr
 obtain rfl:d=.pointer none:=hd
 obtain ⟨Wa,hWa⟩:∃ W,w.alloc (.cells #[.string ⟨#[]⟩,.string ⟨#[]⟩,.slice none 0 0] 24)=W:=⟨_,rfl⟩
 have hka:Kp No w Wa:=by rw [← hWa];exact (Kp.refl No w).alloc _
 have hxa:Wa.heap[w.heap.size]?=some (.cells #[.string ⟨#[]⟩,.string ⟨#[]⟩,.slice none 0 0] 24 (0,0)):=by rw [← hWa];exact newOf w _
 have szA:Wa.heap.size=w.heap.size+1:=by rw [← hWa];simp
 have lb:=ltb hb;have li:=ltb hib
 have AY:=hd_ hy;clear hy
 have AR:=hd_ hr;clear hr
 have HB:=hd_ hb;have HI:=hd_ hib;have HKA:=hd_ hka;have HXA:=hd_ hxa;have HWA:=hd_ hWa
 clear hb hib hka hxa hWa
 go_enter Tryz.func46,Tryz.ntmps46
 go_wp2_with fail
 rw [HWA.out]
 clear HWA
 refine (none_c _).mono ?_
 rintro e wb ⟨rfl,hk1⟩
 have sz1:=hk1.size
 have hb1:=(HKA.out.no hk1).at HB.out id
 have b4:=cO hb1 4 _ rfl
 have lb1:=ltb hb1
 obtain ⟨q1,q2,q3,q4,q5⟩:=lts lb1
 have HKB:=hd_ hk1;clear hk1 hb1
 go_wp2_with fail
 obtain ⟨W0,hW0⟩:∃ W,wb.alloc (.cells #[.string ⟨#[110,111,110,101]⟩,.string ⟨#[]⟩,.slice none 0 0] 24)=W:=⟨_,rfl⟩
 rw [hW0]
 have hk1W:Kp No wb W0:=by rw [← hW0];exact (Kp.refl No wb).alloc _
 have HK0:Hid (Kp No w W0):=(HKA.out.no HKB.out).no hk1W
 have HBOX:Hid (W0.heap[w.heap.size]?=some (.cells #[.string ⟨#[]⟩,.string ⟨#[]⟩,.slice none 0 0] 24 (0,0))):=(HKB.out.no hk1W).at HXA.out id
 have h6:W0.heap[wb.heap.size]?=some (.cells #[.string ⟨#[110,111,110,101]⟩,.string ⟨#[]⟩,.slice none 0 0] 24 (0,0)):=by rw [← hW0];exact newOf wb _
 have szW:W0.heap.size=wb.heap.size+1:=by rw [← hW0];simp
 have hbW:=HK0.out.at HB.out id;have hiW:=HK0.out.at HI.out id
 clear hW0 hk1W b4
 have nb1:=cO hbW 1 _ rfl
 have nb2:=cO hbW 2 _ rfl
 have nb3:=cO hbW 3 _ rfl
 have lW_nb:b0 < W0.heap.size:=ltb hbW
 have ni1:=cO hiW 1 _ rfl
 have lW_ni:ib < W0.heap.size:=ltb hiW
 have nk0:=cO h6 0 _ rfl
 have nk1:=cO h6 1 _ rfl
 have nk2:=cO h6 2 _ rfl
 have lW_nk:wb.heap.size < W0.heap.size:=ltb h6
 clear hbW hiW h6
 have x0:=cO HBOX.out 0 _ rfl;have x1:=cO HBOX.out 1 _ rfl;have x2:=cO HBOX.out 2 _ rfl
 have g0:=fO HBOX.out 0;have g1:=fO HBOX.out 1;have g2:=fO HBOX.out 2
 have lx:w.heap.size < W0.heap.size:=by omega
 have ne_nb:=World.new_ne W0 _ nb1
 have d1_nb:b0≠w.heap.size:=by omega
 have d2_nb:w.heap.size≠b0:=by omega
 have ne_ni:=World.new_ne W0 _ ni1
 have d1_ni:ib≠w.heap.size:=by omega
 have d2_ni:w.heap.size≠ib:=by omega
 have ne_nk:=World.new_ne W0 _ nk0
 have d1_nk:wb.heap.size≠w.heap.size:=by omega
 have d2_nk:w.heap.size≠wb.heap.size:=by omega
 have ne_x:=World.new_ne W0 _ x0
 go_region_held3 (fun w'=>w'.cell? ⟨b0,1,none⟩=some (.pointer (some ⟨rb,0,none⟩))∧w'.cell? ⟨b0,2,none⟩=some (.pointer (some ⟨ib,0,none⟩))∧w'.cell? ⟨b0,3,none⟩=some (.pointer (some ⟨yb,0,none⟩))∧w'.cell? ⟨ib,1,none⟩=some (.string s0)∧w'.cell? ⟨wb.heap.size,0,none⟩=some (.string ⟨#[110,111,110,101]⟩)∧w'.cell? ⟨wb.heap.size,1,none⟩=some (.string ⟨#[]⟩)∧w'.cell? ⟨wb.heap.size,2,none⟩=some (.slice none 0 0))
  (first | go_keep)
  (first
    | (go_at_call 67
       refine ((kfields_a rf) W0.drew F ro rc (.pointer (some ⟨rb,0,none⟩)) (AR.out.on (HK0.out.no (Kp.refl No W0).drew) fun b _ h=>⟨id,h⟩) hrf).mono ?_
       rintro e w1 ⟨⟨t1,p1,n1,c1,rfl⟩,hK1⟩
       have k1:Kp No W0 w1:=((Kp.refl No W0).drew).trans' hK1
       clear hK1
       have sz1:W0.heap.size≤w1.heap.size:=k1.size
       have nb1_1:=(k1.cell lW_nb id).trans nb1
       have nb2_1:=(k1.cell lW_nb id).trans nb2
       have nb3_1:=(k1.cell lW_nb id).trans nb3
       have l1_nb:b0 < w1.heap.size:=by omega
       have ni1_1:=(k1.cell lW_ni id).trans ni1
       have l1_ni:ib < w1.heap.size:=by omega
       have nk0_1:=(k1.cell lW_nk id).trans nk0
       have nk1_1:=(k1.cell lW_nk id).trans nk1
       have nk2_1:=(k1.cell lW_nk id).trans nk2
       have l1_nk:wb.heap.size < w1.heap.size:=by omega
       have x0_1:=(k1.cell lx id).trans x0
       have g0_1:=(k1.frozen lx id).trans g0
       have x1_1:=(k1.cell lx id).trans x1
       have g1_1:=(k1.frozen lx id).trans g1
       have x2_1:=(k1.cell lx id).trans x2
       have g2_1:=(k1.frozen lx id).trans g2
       have lx_1:w.heap.size < w1.heap.size:=by omega
       have HK1:=hd_ k1;clear k1)
    | (go_at_call 48
       refine ((kexpr_c (Ty.sig p o ps c b o' rs c')) w1 F (.pointer (some ⟨yb,0,none⟩)) (AY.out.on (HK0.out.no HK1.out) fun b _ h=>⟨id,h⟩) hsg).mono ?_
       rintro e w2 ⟨⟨t2,p2,n2,c2,rfl⟩,hK2⟩
       have k2:Kp No W0 w2:=(HK1.out).trans' hK2
       clear hK2
       have sz2:W0.heap.size≤w2.heap.size:=k2.size
       have nb1_2:=(k2.cell lW_nb id).trans nb1
       have nb2_2:=(k2.cell lW_nb id).trans nb2
       have nb3_2:=(k2.cell lW_nb id).trans nb3
       have l2_nb:b0 < w2.heap.size:=by omega
       have ni1_2:=(k2.cell lW_ni id).trans ni1
       have l2_ni:ib < w2.heap.size:=by omega
       have nk0_2:=(k2.cell lW_nk id).trans nk0
       have nk1_2:=(k2.cell lW_nk id).trans nk1
       have nk2_2:=(k2.cell lW_nk id).trans nk2
       have l2_nk:wb.heap.size < w2.heap.size:=by omega
       have x0_2:=(k2.cell lx id).trans x0
       have g0_2:=(k2.frozen lx id).trans g0
       have x1_2:=(k2.cell lx id).trans x1
       have g1_2:=(k2.frozen lx id).trans g1
       have x2_2:=(k2.cell lx id).trans x2
       have g2_2:=(k2.frozen lx id).trans g2
       have lx_2:w.heap.size < w2.heap.size:=by omega
       have HK2:=hd_ k2;clear k2)
    | (go_at_call 66
       refine (kids_c _ _).mono ?_
       rintro e w3 ⟨rfl,hw3⟩
       have k3:Kp No W0 w3:=by rw [hw3];exact HK2.out.alloc _
       clear hw3
       have sz3:W0.heap.size≤w3.heap.size:=k3.size
       have nb1_3:=(k3.cell lW_nb id).trans nb1
       have nb2_3:=(k3.cell lW_nb id).trans nb2
       have nb3_3:=(k3.cell lW_nb id).trans nb3
       have l3_nb:b0 < w3.heap.size:=by omega
       have ni1_3:=(k3.cell lW_ni id).trans ni1
       have l3_ni:ib < w3.heap.size:=by omega
       have nk0_3:=(k3.cell lW_nk id).trans nk0
       have nk1_3:=(k3.cell lW_nk id).trans nk1
       have nk2_3:=(k3.cell lW_nk id).trans nk2
       have l3_nk:wb.heap.size < w3.heap.size:=by omega
       have x0_3:=(k3.cell lx id).trans x0
       have g0_3:=(k3.frozen lx id).trans g0
       have x1_3:=(k3.cell lx id).trans x1
       have g1_3:=(k3.frozen lx id).trans g1
       have x2_3:=(k3.cell lx id).trans x2
       have g2_3:=(k3.frozen lx id).trans g2
       have lx_3:w.heap.size < w3.heap.size:=by omega
       have HK3:=hd_ k3;clear k3))
 all_goals
  go_wp2_with fail
  have h3:=set3_at (v0:=.string ⟨#[102,117,110,99]⟩) (v1:=.string s0) (v2:=.slice (some ⟨w2.heap.size,0,none⟩) 3 3) (HK3.out.at HBOX.out id)
  have e0:=cO h3 0 _ rfl;have e1:=cO h3 1 _ rfl;have e2:=cO h3 2 _ rfl
  refine bodyPost_ret (v:=.agg #[.string ⟨#[102,117,110,99]⟩,.string s0,.slice (some ⟨w2.heap.size,0,none⟩) 3 3]) (by simp [results,Tryz.results46,go_sem,e0,e1,e2]) rfl ⟨⟨_,_,_,_,rfl⟩,(HK0.out.no HK3.out).trans (set3_kp w3 w.heap.size _ _ _) (by intro i hi h;omega)⟩
theorem kfuncrb_c (p:Int) (ro:Int) (rf:Fs) (rc:Int) (np:Int) (s0:ByteArray) (o:Int) (ps:Fs) (c:Int) (b:Bool) (o':Int) (rs:Fs) (c':Int) (bo bc:Int) (hrf:Nd.sizeL rf.nds≤400) (hsg:(Ty.sig p o ps c b o' rs c').nd.size≤400) (w:World) (F:Nat→Prop) (u:Value) (h:Dc.At w F (.func p (some (ro,rf,rc)) np s0 o ps c b o' rs c' (some (bo,bc))) u) :
 Calls Tryz.prog 46 #[.iface 66 u] w fun e w'=>KR ⟨#[102,117,110,99]⟩ e∧Kp No w w':=by
 obtain ⟨r,i,y,d,⟨b0,rfl,_,hb⟩,hr,⟨ib,rfl,_,hib⟩,hy,hd⟩:=h
 obtain ⟨yb,rfl⟩:=hy.ptr
 have hr:FlAt w F ro rf rc r:=hr
 obtain ⟨rb,rfl⟩:=hr.ptr
 obtain ⟨db,rfl,_,hdb⟩:=hd
 clear hdb
 obtain ⟨Wa,hWa⟩:∃ W,w.alloc (.cells #[.string ⟨#[]⟩,.string ⟨#[]⟩,.slice none 0 0] 24)=W:=⟨_,rfl⟩
 have hka:Kp No w Wa:=by rw [← hWa];exact (Kp.refl No w).alloc _
 have hxa:Wa.heap[w.heap.size]?=some (.cells #[.string ⟨#[]⟩,.string ⟨#[]⟩,.slice none 0 0] 24 (0,0)):=by rw [← hWa];exact newOf w _
 have szA:Wa.heap.size=w.heap.size+1:=by rw [← hWa];simp
 have lb:=ltb hb;have li:=ltb hib
 have AY:=hd_ hy;clear hy
 have AR:=hd_ hr;clear hr
 have HB:=hd_ hb;have HI:=hd_ hib;have HKA:=hd_ hka;have HXA:=hd_ hxa;have HWA:=hd_ hWa
 clear hb hib hka hxa hWa
 go_enter Tryz.func46,Tryz.ntmps46
 go_wp2_with fail
 rw [HWA.out]
 clear HWA
 refine (none_c _).mono ?_
 rintro e wb ⟨rfl,hk1⟩
 have sz1:=hk1.size
 have hb1:=(HKA.out.no hk1).at HB.out id
 have b4:=cO hb1 4 _ rfl
 have lb1:=ltb hb1
 obtain ⟨q1,q2,q3,q4,q5⟩:=lts lb1
 have HKB:=hd_ hk1;clear hk1 hb1
 go_wp2_with fail
 obtain ⟨W0,hW0⟩:∃ W,wb.alloc (.cells #[.string ⟨#[98,111,100,121]⟩,.string ⟨#[]⟩,.slice none 0 0] 24)=W:=⟨_,rfl⟩
 rw [hW0]
 have hk1W:Kp No wb W0:=by rw [← hW0];exact (Kp.refl No wb).alloc _
 have HK0:Hid (Kp No w W0):=(HKA.out.no HKB.out).no hk1W
 have HBOX:Hid (W0.heap[w.heap.size]?=some (.cells #[.string ⟨#[]⟩,.string ⟨#[]⟩,.slice none 0 0] 24 (0,0))):=(HKB.out.no hk1W).at HXA.out id
 have h6:W0.heap[wb.heap.size]?=some (.cells #[.string ⟨#[98,111,100,121]⟩,.string ⟨#[]⟩,.slice none 0 0] 24 (0,0)):=by rw [← hW0];exact newOf wb _
 have szW:W0.heap.size=wb.heap.size+1:=by rw [← hW0];simp
 have hbW:=HK0.out.at HB.out id;have hiW:=HK0.out.at HI.out id
 clear hW0 hk1W b4
 have nb1:=cO hbW 1 _ rfl
 have nb2:=cO hbW 2 _ rfl
 have nb3:=cO hbW 3 _ rfl
 have lW_nb:b0 < W0.heap.size:=ltb hbW
 have ni1:=cO hiW 1 _ rfl
 have lW_ni:ib < W0.heap.size:=ltb hiW
 have nk0:=cO h6 0 _ rfl
 have nk1:=cO h6 1 _ rfl
 have nk2:=cO h6 2 _ rfl
 have lW_nk:wb.heap.size < W0.heap.size:=ltb h6
 clear hbW hiW h6
 have x0:=cO HBOX.out 0 _ rfl;have x1:=cO HBOX.out 1 _ rfl;have x2:=cO HBOX.out 2 _ rfl
 have g0:=fO HBOX.out 0;have g1:=fO HBOX.out 1;have g2:=fO HBOX.out 2
 have lx:w.heap.size < W0.heap.size:=by omega
 have ne_nb:=World.new_ne W0 _ nb1
 have d1_nb:b0≠w.heap.size:=by omega
 have d2_nb:w.heap.size≠b0:=by omega
 have ne_ni:=World.new_ne W0 _ ni1
 have d1_ni:ib≠w.heap.size:=by omega
 have d2_ni:w.heap.size≠ib:=by omega
 have ne_nk:=World.new_ne W0 _ nk0
 have d1_nk:wb.heap.size≠w.heap.size:=by omega
 have d2_nk:w.heap.size≠wb.heap.size:=by omega
 have ne_x:=World.new_ne W0 _ x0
 go_region_held3 (fun w'=>w'.cell? ⟨b0,1,none⟩=some (.pointer (some ⟨rb,0,none⟩))∧w'.cell? ⟨b0,2,none⟩=some (.pointer (some ⟨ib,0,none⟩))∧w'.cell? ⟨b0,3,none⟩=some (.pointer (some ⟨yb,0,none⟩))∧w'.cell? ⟨ib,1,none⟩=some (.string s0)∧w'.cell? ⟨wb.heap.size,0,none⟩=some (.string ⟨#[98,111,100,121]⟩)∧w'.cell? ⟨wb.heap.size,1,none⟩=some (.string ⟨#[]⟩)∧w'.cell? ⟨wb.heap.size,2,none⟩=some (.slice none 0 0))
  (first | go_keep)
  (first
    | (go_at_call 67
       refine ((kfields_a rf) W0.drew F ro rc (.pointer (some ⟨rb,0,none⟩)) (AR.out.on (HK0.out.no (Kp.refl No W0).drew) fun b _ h=>⟨id,h⟩) hrf).mono ?_
       rintro e w1 ⟨⟨t1,p1,n1,c1,rfl⟩,hK1⟩
       have k1:Kp No W0 w1:=((Kp.refl No W0).drew).trans' hK1
       clear hK1
       have sz1:W0.heap.size≤w1.heap.size:=k1.size
       have nb1_1:=(k1.cell lW_nb id).trans nb1
       have nb2_1:=(k1.cell lW_nb id).trans nb2
       have nb3_1:=(k1.cell lW_nb id).trans nb3
       have l1_nb:b0 < w1.heap.size:=by omega
       have ni1_1:=(k1.cell lW_ni id).trans ni1
       have l1_ni:ib < w1.heap.size:=by omega
       have nk0_1:=(k1.cell lW_nk id).trans nk0
       have nk1_1:=(k1.cell lW_nk id).trans nk1
       have nk2_1:=(k1.cell lW_nk id).trans nk2
       have l1_nk:wb.heap.size < w1.heap.size:=by omega
       have x0_1:=(k1.cell lx id).trans x0
       have g0_1:=(k1.frozen lx id).trans g0
       have x1_1:=(k1.cell lx id).trans x1
       have g1_1:=(k1.frozen lx id).trans g1
       have x2_1:=(k1.cell lx id).trans x2
       have g2_1:=(k1.frozen lx id).trans g2
       have lx_1:w.heap.size < w1.heap.size:=by omega
       have HK1:=hd_ k1;clear k1)
    | (go_at_call 48
       refine ((kexpr_c (Ty.sig p o ps c b o' rs c')) w1 F (.pointer (some ⟨yb,0,none⟩)) (AY.out.on (HK0.out.no HK1.out) fun b _ h=>⟨id,h⟩) hsg).mono ?_
       rintro e w2 ⟨⟨t2,p2,n2,c2,rfl⟩,hK2⟩
       have k2:Kp No W0 w2:=(HK1.out).trans' hK2
       clear hK2
       have sz2:W0.heap.size≤w2.heap.size:=k2.size
       have nb1_2:=(k2.cell lW_nb id).trans nb1
       have nb2_2:=(k2.cell lW_nb id).trans nb2
       have nb3_2:=(k2.cell lW_nb id).trans nb3
       have l2_nb:b0 < w2.heap.size:=by omega
       have ni1_2:=(k2.cell lW_ni id).trans ni1
       have l2_ni:ib < w2.heap.size:=by omega
       have nk0_2:=(k2.cell lW_nk id).trans nk0
       have nk1_2:=(k2.cell lW_nk id).trans nk1
       have nk2_2:=(k2.cell lW_nk id).trans nk2
       have l2_nk:wb.heap.size < w2.heap.size:=by omega
       have x0_2:=(k2.cell lx id).trans x0
       have g0_2:=(k2.frozen lx id).trans g0
       have x1_2:=(k2.cell lx id).trans x1
       have g1_2:=(k2.frozen lx id).trans g1
       have x2_2:=(k2.cell lx id).trans x2
       have g2_2:=(k2.frozen lx id).trans g2
       have lx_2:w.heap.size < w2.heap.size:=by omega
       have HK2:=hd_ k2;clear k2)
    | (go_at_call 66
       refine (kids_c _ _).mono ?_
       rintro e w3 ⟨rfl,hw3⟩
       have k3:Kp No W0 w3:=by rw [hw3];exact HK2.out.alloc _
       clear hw3
       have sz3:W0.heap.size≤w3.heap.size:=k3.size
       have nb1_3:=(k3.cell lW_nb id).trans nb1
       have nb2_3:=(k3.cell lW_nb id).trans nb2
       have nb3_3:=(k3.cell lW_nb id).trans nb3
       have l3_nb:b0 < w3.heap.size:=by omega
       have ni1_3:=(k3.cell lW_ni id).trans ni1
       have l3_ni:ib < w3.heap.size:=by omega
       have nk0_3:=(k3.cell lW_nk id).trans nk0
       have nk1_3:=(k3.cell lW_nk id).trans nk1
       have nk2_3:=(k3.cell lW_nk id).trans nk2
       have l3_nk:wb.heap.size < w3.heap.size:=by omega
       have x0_3:=(k3.cell lx id).trans x0
       have g0_3:=(k3.frozen lx id).trans g0
       have x1_3:=(k3.cell lx id).trans x1
       have g1_3:=(k3.frozen lx id).trans g1
       have x2_3:=(k3.cell lx id).trans x2
       have g2_3:=(k3.frozen lx id).trans g2
       have lx_3:w.heap.size < w3.heap.size:=by omega
       have HK3:=hd_ k3;clear k3))
 all_goals
  go_wp2_with fail
  have h3:=set3_at (v0:=.string ⟨#[102,117,110,99]⟩) (v1:=.string s0) (v2:=.slice (some ⟨w2.heap.size,0,none⟩) 3 3) (HK3.out.at HBOX.out id)
  have e0:=cO h3 0 _ rfl;have e1:=cO h3 1 _ rfl;have e2:=cO h3 2 _ rfl
  refine bodyPost_ret (v:=.agg #[.string ⟨#[102,117,110,99]⟩,.string s0,.slice (some ⟨w2.heap.size,0,none⟩) 3 3]) (by simp [results,Tryz.results46,go_sem,e0,e1,e2]) rfl ⟨⟨_,_,_,_,rfl⟩,(HK0.out.no HK3.out).trans (set3_kp w3 w.heap.size _ _ _) (by intro i hi h;omega)⟩
theorem kdecl_c:∀ d:Dc,KDeclP d
 | .gen wd p it=>by
  intro w F u hT h hok hsz
  obtain ⟨z,x,h1,h2,h3⟩:=h
  exact kgenx_c wd p 0 0 [it] rfl (by intro i hi;simp only [List.mem_singleton] at hi;subst hi;exact hok.2) (by simp only [Dc.nd,Nd.size,Nd.sizeL] at hsz;simp only [List.map_cons,List.map_nil,Nd.sizeL];omega) w F u hT ⟨z,[x],h1,h2,x,[],rfl,h3,rfl⟩
 | .group wd p o its c=>by
  intro w F u hT h hok hsz
  exact kgeng_c wd p o c its (by have:=hok.2.1;unfold Pk at this;omega) hok.2.2.1 (by simp only [Dc.nd,Nd.size] at hsz;omega) w F u hT h
 | .func p (some (ro,rf,rc)) np s0 o ps c b o' rs c' (some (bo,bc))=>by
  intro w F u hT h hok hsz
  simp only [Dc.nd,rvNd,bdNd,fl,Nd.size,Nd.sizeL] at hsz
  exact kfuncrb_c p ro rf rc np s0 o ps c b o' rs c' bo bc (by omega) (by omega) w F u h
 | .func p (some (ro,rf,rc)) np s0 o ps c b o' rs c' none=>by
  intro w F u hT h hok hsz
  simp only [Dc.nd,rvNd,bdNd,fl,Nd.miss,Nd.size,Nd.sizeL] at hsz
  exact kfuncrn_c p ro rf rc np s0 o ps c b o' rs c' (by omega) (by omega) w F u h
 | .func p none np s0 o ps c b o' rs c' (some (bo,bc))=>by
  intro w F u hT h hok hsz
  simp only [Dc.nd,rvNd,bdNd,Nd.miss,Nd.size,Nd.sizeL] at hsz
  exact kfuncnb_c p np s0 o ps c b o' rs c' bo bc (by omega) w F u h
 | .func p none np s0 o ps c b o' rs c' none=>by
  intro w F u hT h hok hsz
  simp only [Dc.nd,rvNd,bdNd,Nd.miss,Nd.size,Nd.sizeL] at hsz
  exact kfuncnn_c p np s0 o ps c b o' rs c' (by omega) w F u h
end
section
open Go Go.RowKit
attribute [local go_sem] node_field0 node_field1 node_field2
theorem kindof_Ident (w:World) (u:Value) (k:ByteArray) (h:Calls Tryz.prog 48 #[.iface 70 u] w fun e w'=>KR k e∧Kp No w w'):Calls Tryz.prog 16 #[.iface 70 u] w fun e w'=>e=.returned (.string k)∧Kp No w w':=by
 go_enter Tryz.func16,Tryz.ntmps16
 go_wp2_with fail
 refine h.mono ?_
 rintro e w1 ⟨⟨t,p,n,c,rfl⟩,hk⟩
 go_wp2_with fail
 go_ret
 exact ⟨rfl,hk⟩
theorem kindof_BasicLit (w:World) (u:Value) (k:ByteArray) (h:Calls Tryz.prog 48 #[.iface 112 u] w fun e w'=>KR k e∧Kp No w w'):Calls Tryz.prog 16 #[.iface 112 u] w fun e w'=>e=.returned (.string k)∧Kp No w w':=by
 go_enter Tryz.func16,Tryz.ntmps16
 go_wp2_with fail
 refine h.mono ?_
 rintro e w1 ⟨⟨t,p,n,c,rfl⟩,hk⟩
 go_wp2_with fail
 go_ret
 exact ⟨rfl,hk⟩
theorem kindof_SelectorExpr (w:World) (u:Value) (k:ByteArray) (h:Calls Tryz.prog 48 #[.iface 135 u] w fun e w'=>KR k e∧Kp No w w'):Calls Tryz.prog 16 #[.iface 135 u] w fun e w'=>e=.returned (.string k)∧Kp No w w':=by
 go_enter Tryz.func16,Tryz.ntmps16
 go_wp2_with fail
 refine h.mono ?_
 rintro e w1 ⟨⟨t,p,n,c,rfl⟩,hk⟩
 go_wp2_with fail
 go_ret
 exact ⟨rfl,hk⟩
theorem kindof_StarExpr (w:World) (u:Value) (k:ByteArray) (h:Calls Tryz.prog 48 #[.iface 138 u] w fun e w'=>KR k e∧Kp No w w'):Calls Tryz.prog 16 #[.iface 138 u] w fun e w'=>e=.returned (.string k)∧Kp No w w':=by
 go_enter Tryz.func16,Tryz.ntmps16
 go_wp2_with fail
 refine h.mono ?_
 rintro e w1 ⟨⟨t,p,n,c,rfl⟩,hk⟩
 go_wp2_with fail
 go_ret
 exact ⟨rfl,hk⟩
theorem kindof_ArrayType (w:World) (u:Value) (k:ByteArray) (h:Calls Tryz.prog 48 #[.iface 141 u] w fun e w'=>KR k e∧Kp No w w'):Calls Tryz.prog 16 #[.iface 141 u] w fun e w'=>e=.returned (.string k)∧Kp No w w':=by
 go_enter Tryz.func16,Tryz.ntmps16
 go_wp2_with fail
 refine h.mono ?_
 rintro e w1 ⟨⟨t,p,n,c,rfl⟩,hk⟩
 go_wp2_with fail
 go_ret
 exact ⟨rfl,hk⟩
theorem kindof_MapType (w:World) (u:Value) (k:ByteArray) (h:Calls Tryz.prog 48 #[.iface 144 u] w fun e w'=>KR k e∧Kp No w w'):Calls Tryz.prog 16 #[.iface 144 u] w fun e w'=>e=.returned (.string k)∧Kp No w w':=by
 go_enter Tryz.func16,Tryz.ntmps16
 go_wp2_with fail
 refine h.mono ?_
 rintro e w1 ⟨⟨t,p,n,c,rfl⟩,hk⟩
 go_wp2_with fail
 go_ret
 exact ⟨rfl,hk⟩
theorem kindof_ChanType (w:World) (u:Value) (k:ByteArray) (h:Calls Tryz.prog 48 #[.iface 147 u] w fun e w'=>KR k e∧Kp No w w'):Calls Tryz.prog 16 #[.iface 147 u] w fun e w'=>e=.returned (.string k)∧Kp No w w':=by
 go_enter Tryz.func16,Tryz.ntmps16
 go_wp2_with fail
 refine h.mono ?_
 rintro e w1 ⟨⟨t,p,n,c,rfl⟩,hk⟩
 go_wp2_with fail
 go_ret
 exact ⟨rfl,hk⟩
theorem kindof_FuncType (w:World) (u:Value) (k:ByteArray) (h:Calls Tryz.prog 48 #[.iface 73 u] w fun e w'=>KR k e∧Kp No w w'):Calls Tryz.prog 16 #[.iface 73 u] w fun e w'=>e=.returned (.string k)∧Kp No w w':=by
 go_enter Tryz.func16,Tryz.ntmps16
 go_wp2_with fail
 refine h.mono ?_
 rintro e w1 ⟨⟨t,p,n,c,rfl⟩,hk⟩
 go_wp2_with fail
 go_ret
 exact ⟨rfl,hk⟩
theorem kindof_StructType (w:World) (u:Value) (k:ByteArray) (h:Calls Tryz.prog 48 #[.iface 152 u] w fun e w'=>KR k e∧Kp No w w'):Calls Tryz.prog 16 #[.iface 152 u] w fun e w'=>e=.returned (.string k)∧Kp No w w':=by
 go_enter Tryz.func16,Tryz.ntmps16
 go_wp2_with fail
 refine h.mono ?_
 rintro e w1 ⟨⟨t,p,n,c,rfl⟩,hk⟩
 go_wp2_with fail
 go_ret
 exact ⟨rfl,hk⟩
theorem kindof_InterfaceType (w:World) (u:Value) (k:ByteArray) (h:Calls Tryz.prog 48 #[.iface 155 u] w fun e w'=>KR k e∧Kp No w w'):Calls Tryz.prog 16 #[.iface 155 u] w fun e w'=>e=.returned (.string k)∧Kp No w w':=by
 go_enter Tryz.func16,Tryz.ntmps16
 go_wp2_with fail
 refine h.mono ?_
 rintro e w1 ⟨⟨t,p,n,c,rfl⟩,hk⟩
 go_wp2_with fail
 go_ret
 exact ⟨rfl,hk⟩
theorem kindof_ImportSpec (w:World) (u:Value) (k:ByteArray) (h:Calls Tryz.prog 47 #[.iface 111 u] w fun e w'=>KR k e∧Kp No w w'):Calls Tryz.prog 16 #[.iface 111 u] w fun e w'=>e=.returned (.string k)∧Kp No w w':=by
 go_enter Tryz.func16,Tryz.ntmps16
 go_wp2_with fail
 refine h.mono ?_
 rintro e w1 ⟨⟨t,p,n,c,rfl⟩,hk⟩
 go_wp2_with fail
 go_ret
 exact ⟨rfl,hk⟩
theorem kindof_ValueSpec (w:World) (u:Value) (k:ByteArray) (h:Calls Tryz.prog 47 #[.iface 116 u] w fun e w'=>KR k e∧Kp No w w'):Calls Tryz.prog 16 #[.iface 116 u] w fun e w'=>e=.returned (.string k)∧Kp No w w':=by
 go_enter Tryz.func16,Tryz.ntmps16
 go_wp2_with fail
 refine h.mono ?_
 rintro e w1 ⟨⟨t,p,n,c,rfl⟩,hk⟩
 go_wp2_with fail
 go_ret
 exact ⟨rfl,hk⟩
theorem kindof_TypeSpec (w:World) (u:Value) (k:ByteArray) (h:Calls Tryz.prog 47 #[.iface 123 u] w fun e w'=>KR k e∧Kp No w w'):Calls Tryz.prog 16 #[.iface 123 u] w fun e w'=>e=.returned (.string k)∧Kp No w w':=by
 go_enter Tryz.func16,Tryz.ntmps16
 go_wp2_with fail
 refine h.mono ?_
 rintro e w1 ⟨⟨t,p,n,c,rfl⟩,hk⟩
 go_wp2_with fail
 go_ret
 exact ⟨rfl,hk⟩
theorem kindof_GenDecl (w:World) (u:Value) (k:ByteArray) (h:Calls Tryz.prog 46 #[.iface 81 u] w fun e w'=>KR k e∧Kp No w w'):Calls Tryz.prog 16 #[.iface 81 u] w fun e w'=>e=.returned (.string k)∧Kp No w w':=by
 go_enter Tryz.func16,Tryz.ntmps16
 go_wp2_with fail
 refine h.mono ?_
 rintro e w1 ⟨⟨t,p,n,c,rfl⟩,hk⟩
 go_wp2_with fail
 go_ret
 exact ⟨rfl,hk⟩
theorem kindof_FuncDecl (w:World) (u:Value) (k:ByteArray) (h:Calls Tryz.prog 46 #[.iface 66 u] w fun e w'=>KR k e∧Kp No w w'):Calls Tryz.prog 16 #[.iface 66 u] w fun e w'=>e=.returned (.string k)∧Kp No w w':=by
 go_enter Tryz.func16,Tryz.ntmps16
 go_wp2_with fail
 refine h.mono ?_
 rintro e w1 ⟨⟨t,p,n,c,rfl⟩,hk⟩
 go_wp2_with fail
 go_ret
 exact ⟨rfl,hk⟩
theorem kindof_FieldList (w:World) (u:Value):Calls Tryz.prog 16 #[.iface 67 u] w fun e w'=>e=.returned (.string ⟨#[102,105,101,108,100,115]⟩)∧Kp No w w':=by
 go_enter Tryz.func16,Tryz.ntmps16
 go_wp2_with fail
 go_ret
 exact ⟨rfl,Kp.refl No _⟩
theorem kindof_Field (w:World) (u:Value):Calls Tryz.prog 16 #[.iface 92 u] w fun e w'=>e=.returned (.string ⟨#[102,105,101,108,100]⟩)∧Kp No w w':=by
 go_enter Tryz.func16,Tryz.ntmps16
 go_wp2_with fail
 go_ret
 exact ⟨rfl,Kp.refl No _⟩
theorem kindof_BlockStmt (w:World) (u:Value):Calls Tryz.prog 16 #[.iface 74 u] w fun e w'=>e=.returned (.string ⟨#[98,111,100,121]⟩)∧Kp No w w':=by
 go_enter Tryz.func16,Tryz.ntmps16
 go_wp2_with fail
 go_ret
 exact ⟨rfl,Kp.refl No _⟩
inductive Th where
 | ty (t:Ty)
 | fd (d:Fd)
 | fl (o:Int) (f:Fs) (c:Int)
 | it (i:It)
 | dc (d:Dc)
 | bd (o c:Int)
def Th.ty':Th→TypeId
 | .ty t=>t.ty
 | .fd _=>92
 | .fl ..=>67
 | .it i=>i.ty
 | .dc d=>d.ty
 | .bd ..=>74
def Th.At (w:World) (F:Nat→Prop):Th→Value→Prop
 | .ty t,u=>t.At w F u
 | .fd d,u=>d.at w F u
 | .fl o f c,u=>FlAt w F o f c u
 | .it i,u=>i.At w F u
 | .dc d,u=>d.At w F u
 | .bd o c,u=>BdAt w F (some (o,c)) u
def Th.kind:Th→ByteArray
 | .ty t=>t.kind
 | .fd _=>⟨#[102,105,101,108,100]⟩
 | .fl ..=>⟨#[102,105,101,108,100,115]⟩
 | .it i=>i.kind
 | .dc d=>d.kind
 | .bd ..=>⟨#[98,111,100,121]⟩
def Th.few:Th→Prop
 | .ty t=>t.nd.size≤400
 | .fd _=>True
 | .fl ..=>True
 | .it i=>i.ok∧i.nd.size≤400
 | .dc d=>d.ok∧d.nd.size≤400
 | .bd ..=>True
theorem kindof_c (x:Th) (w:World) (F:Nat→Prop) (u:Value) (hT:Tok w) (h:x.At w F u) (hf:x.few):Calls Tryz.prog 16 #[.iface x.ty' u] w fun e w'=>e=.returned (.string x.kind)∧Kp No w w':=by
 cases x with
 | ty t =>
  have:=kexpr_c t w F u h hf
  cases t with
  | name=>exact kindof_Ident _ _ _ this
  | lit=>exact kindof_BasicLit _ _ _ this
  | sel=>exact kindof_SelectorExpr _ _ _ this
  | star=>exact kindof_StarExpr _ _ _ this
  | sl=>exact kindof_ArrayType _ _ _ this
  | arr=>exact kindof_ArrayType _ _ _ this
  | map=>exact kindof_MapType _ _ _ this
  | ch=>exact kindof_ChanType _ _ _ this
  | chs=>exact kindof_ChanType _ _ _ this
  | chr=>exact kindof_ChanType _ _ _ this
  | sig=>exact kindof_FuncType _ _ _ this
  | struct=>exact kindof_StructType _ _ _ this
  | iface=>exact kindof_InterfaceType _ _ _ this
 | fd d=>exact kindof_Field w u
 | fl o f c=>exact kindof_FieldList w u
 | it i =>
  have:=kitem_c i w F u h hf.1 hf.2
  cases i with
  | path=>exact kindof_ImportSpec _ _ _ this
  | pathn=>exact kindof_ImportSpec _ _ _ this
  | value=>exact kindof_ValueSpec _ _ _ this
  | type=>exact kindof_TypeSpec _ _ _ this
  | alias=>exact kindof_TypeSpec _ _ _ this
 | dc d =>
  have:=kdecl_c d w F u hT h hf.1 hf.2
  cases d with
  | gen=>exact kindof_GenDecl _ _ _ this
  | group=>exact kindof_GenDecl _ _ _ this
  | func=>exact kindof_FuncDecl _ _ _ this
 | bd o c=>exact kindof_BlockStmt w u
end
section
open Go Go.RowKit
set_option maxRecDepth 100000
theorem nv_Visit (v:Value) (w:World):(nilAhead 439 99 v "Visit").run Tryz.prog w=.ok (some false) w:=by kernel_rfl
theorem mv_Visit (v:Value) (w:World):(method 439 99 v "Visit").run Tryz.prog w=.ok (143,v) w:=by kernel_rfl
theorem nv_Ident_Pos (a:Option Addr) (w:World):(nilAhead 439 70 (.pointer a) "Pos").run Tryz.prog w=.ok (some false) w:=by kernel_rfl
theorem mv_Ident_Pos (v:Value) (w:World):(method 439 70 v "Pos").run Tryz.prog w=.ok (127,v) w:=by kernel_rfl
theorem nv_Ident_End (a:Option Addr) (w:World):(nilAhead 439 70 (.pointer a) "End").run Tryz.prog w=.ok (some false) w:=by kernel_rfl
theorem mv_Ident_End (v:Value) (w:World):(method 439 70 v "End").run Tryz.prog w=.ok (126,v) w:=by kernel_rfl
theorem nv_BasicLit_Pos (a:Option Addr) (w:World):(nilAhead 439 112 (.pointer a) "Pos").run Tryz.prog w=.ok (some false) w:=by kernel_rfl
theorem mv_BasicLit_Pos (v:Value) (w:World):(method 439 112 v "Pos").run Tryz.prog w=.ok (145,v) w:=by kernel_rfl
theorem nv_BasicLit_End (a:Option Addr) (w:World):(nilAhead 439 112 (.pointer a) "End").run Tryz.prog w=.ok (some false) w:=by kernel_rfl
theorem mv_BasicLit_End (v:Value) (w:World):(method 439 112 v "End").run Tryz.prog w=.ok (125,v) w:=by kernel_rfl
theorem nv_SelectorExpr_Pos (a:Option Addr) (w:World):(nilAhead 439 135 (.pointer a) "Pos").run Tryz.prog w=.ok (some false) w:=by kernel_rfl
theorem mv_SelectorExpr_Pos (v:Value) (w:World):(method 439 135 v "Pos").run Tryz.prog w=.ok (157,v) w:=by kernel_rfl
theorem nv_SelectorExpr_End (a:Option Addr) (w:World):(nilAhead 439 135 (.pointer a) "End").run Tryz.prog w=.ok (some false) w:=by kernel_rfl
theorem mv_SelectorExpr_End (v:Value) (w:World):(method 439 135 v "End").run Tryz.prog w=.ok (156,v) w:=by kernel_rfl
theorem nv_StarExpr_Pos (a:Option Addr) (w:World):(nilAhead 439 138 (.pointer a) "Pos").run Tryz.prog w=.ok (some false) w:=by kernel_rfl
theorem mv_StarExpr_Pos (v:Value) (w:World):(method 439 138 v "Pos").run Tryz.prog w=.ok (160,v) w:=by kernel_rfl
theorem nv_StarExpr_End (a:Option Addr) (w:World):(nilAhead 439 138 (.pointer a) "End").run Tryz.prog w=.ok (some false) w:=by kernel_rfl
theorem mv_StarExpr_End (v:Value) (w:World):(method 439 138 v "End").run Tryz.prog w=.ok (159,v) w:=by kernel_rfl
theorem nv_ArrayType_Pos (a:Option Addr) (w:World):(nilAhead 439 141 (.pointer a) "Pos").run Tryz.prog w=.ok (some false) w:=by kernel_rfl
theorem mv_ArrayType_Pos (v:Value) (w:World):(method 439 141 v "Pos").run Tryz.prog w=.ok (163,v) w:=by kernel_rfl
theorem nv_ArrayType_End (a:Option Addr) (w:World):(nilAhead 439 141 (.pointer a) "End").run Tryz.prog w=.ok (some false) w:=by kernel_rfl
theorem mv_ArrayType_End (v:Value) (w:World):(method 439 141 v "End").run Tryz.prog w=.ok (162,v) w:=by kernel_rfl
theorem nv_MapType_Pos (a:Option Addr) (w:World):(nilAhead 439 144 (.pointer a) "Pos").run Tryz.prog w=.ok (some false) w:=by kernel_rfl
theorem mv_MapType_Pos (v:Value) (w:World):(method 439 144 v "Pos").run Tryz.prog w=.ok (166,v) w:=by kernel_rfl
theorem nv_MapType_End (a:Option Addr) (w:World):(nilAhead 439 144 (.pointer a) "End").run Tryz.prog w=.ok (some false) w:=by kernel_rfl
theorem mv_MapType_End (v:Value) (w:World):(method 439 144 v "End").run Tryz.prog w=.ok (165,v) w:=by kernel_rfl
theorem nv_ChanType_Pos (a:Option Addr) (w:World):(nilAhead 439 147 (.pointer a) "Pos").run Tryz.prog w=.ok (some false) w:=by kernel_rfl
theorem mv_ChanType_Pos (v:Value) (w:World):(method 439 147 v "Pos").run Tryz.prog w=.ok (169,v) w:=by kernel_rfl
theorem nv_ChanType_End (a:Option Addr) (w:World):(nilAhead 439 147 (.pointer a) "End").run Tryz.prog w=.ok (some false) w:=by kernel_rfl
theorem mv_ChanType_End (v:Value) (w:World):(method 439 147 v "End").run Tryz.prog w=.ok (168,v) w:=by kernel_rfl
theorem nv_FuncType_Pos (a:Option Addr) (w:World):(nilAhead 439 73 (.pointer a) "Pos").run Tryz.prog w=.ok (some false) w:=by kernel_rfl
theorem mv_FuncType_Pos (v:Value) (w:World):(method 439 73 v "Pos").run Tryz.prog w=.ok (120,v) w:=by kernel_rfl
theorem nv_FuncType_End (a:Option Addr) (w:World):(nilAhead 439 73 (.pointer a) "End").run Tryz.prog w=.ok (some false) w:=by kernel_rfl
theorem mv_FuncType_End (v:Value) (w:World):(method 439 73 v "End").run Tryz.prog w=.ok (119,v) w:=by kernel_rfl
theorem nv_StructType_Pos (a:Option Addr) (w:World):(nilAhead 439 152 (.pointer a) "Pos").run Tryz.prog w=.ok (some false) w:=by kernel_rfl
theorem mv_StructType_Pos (v:Value) (w:World):(method 439 152 v "Pos").run Tryz.prog w=.ok (172,v) w:=by kernel_rfl
theorem nv_StructType_End (a:Option Addr) (w:World):(nilAhead 439 152 (.pointer a) "End").run Tryz.prog w=.ok (some false) w:=by kernel_rfl
theorem mv_StructType_End (v:Value) (w:World):(method 439 152 v "End").run Tryz.prog w=.ok (171,v) w:=by kernel_rfl
theorem nv_InterfaceType_Pos (a:Option Addr) (w:World):(nilAhead 439 155 (.pointer a) "Pos").run Tryz.prog w=.ok (some false) w:=by kernel_rfl
theorem mv_InterfaceType_Pos (v:Value) (w:World):(method 439 155 v "Pos").run Tryz.prog w=.ok (175,v) w:=by kernel_rfl
theorem nv_InterfaceType_End (a:Option Addr) (w:World):(nilAhead 439 155 (.pointer a) "End").run Tryz.prog w=.ok (some false) w:=by kernel_rfl
theorem mv_InterfaceType_End (v:Value) (w:World):(method 439 155 v "End").run Tryz.prog w=.ok (174,v) w:=by kernel_rfl
theorem nv_FieldList_Pos (a:Option Addr) (w:World):(nilAhead 439 67 (.pointer a) "Pos").run Tryz.prog w=.ok (some false) w:=by kernel_rfl
theorem mv_FieldList_Pos (v:Value) (w:World):(method 439 67 v "Pos").run Tryz.prog w=.ok (122,v) w:=by kernel_rfl
theorem nv_FieldList_End (a:Option Addr) (w:World):(nilAhead 439 67 (.pointer a) "End").run Tryz.prog w=.ok (some false) w:=by kernel_rfl
theorem mv_FieldList_End (v:Value) (w:World):(method 439 67 v "End").run Tryz.prog w=.ok (121,v) w:=by kernel_rfl
theorem nv_Field_Pos (a:Option Addr) (w:World):(nilAhead 439 92 (.pointer a) "Pos").run Tryz.prog w=.ok (some false) w:=by kernel_rfl
theorem mv_Field_Pos (v:Value) (w:World):(method 439 92 v "Pos").run Tryz.prog w=.ok (124,v) w:=by kernel_rfl
theorem nv_Field_End (a:Option Addr) (w:World):(nilAhead 439 92 (.pointer a) "End").run Tryz.prog w=.ok (some false) w:=by kernel_rfl
theorem mv_Field_End (v:Value) (w:World):(method 439 92 v "End").run Tryz.prog w=.ok (123,v) w:=by kernel_rfl
theorem nv_BlockStmt_Pos (a:Option Addr) (w:World):(nilAhead 439 74 (.pointer a) "Pos").run Tryz.prog w=.ok (some false) w:=by kernel_rfl
theorem mv_BlockStmt_Pos (v:Value) (w:World):(method 439 74 v "Pos").run Tryz.prog w=.ok (137,v) w:=by kernel_rfl
theorem nv_BlockStmt_End (a:Option Addr) (w:World):(nilAhead 439 74 (.pointer a) "End").run Tryz.prog w=.ok (some false) w:=by kernel_rfl
theorem mv_BlockStmt_End (v:Value) (w:World):(method 439 74 v "End").run Tryz.prog w=.ok (118,v) w:=by kernel_rfl
theorem nv_ImportSpec_Pos (a:Option Addr) (w:World):(nilAhead 439 111 (.pointer a) "Pos").run Tryz.prog w=.ok (some false) w:=by kernel_rfl
theorem mv_ImportSpec_Pos (v:Value) (w:World):(method 439 111 v "Pos").run Tryz.prog w=.ok (147,v) w:=by kernel_rfl
theorem nv_ImportSpec_End (a:Option Addr) (w:World):(nilAhead 439 111 (.pointer a) "End").run Tryz.prog w=.ok (some false) w:=by kernel_rfl
theorem mv_ImportSpec_End (v:Value) (w:World):(method 439 111 v "End").run Tryz.prog w=.ok (146,v) w:=by kernel_rfl
theorem nv_ValueSpec_Pos (a:Option Addr) (w:World):(nilAhead 439 116 (.pointer a) "Pos").run Tryz.prog w=.ok (some false) w:=by kernel_rfl
theorem mv_ValueSpec_Pos (v:Value) (w:World):(method 439 116 v "Pos").run Tryz.prog w=.ok (151,v) w:=by kernel_rfl
theorem nv_ValueSpec_End (a:Option Addr) (w:World):(nilAhead 439 116 (.pointer a) "End").run Tryz.prog w=.ok (some false) w:=by kernel_rfl
theorem mv_ValueSpec_End (v:Value) (w:World):(method 439 116 v "End").run Tryz.prog w=.ok (150,v) w:=by kernel_rfl
theorem nv_TypeSpec_Pos (a:Option Addr) (w:World):(nilAhead 439 123 (.pointer a) "Pos").run Tryz.prog w=.ok (some false) w:=by kernel_rfl
theorem mv_TypeSpec_Pos (v:Value) (w:World):(method 439 123 v "Pos").run Tryz.prog w=.ok (154,v) w:=by kernel_rfl
theorem nv_TypeSpec_End (a:Option Addr) (w:World):(nilAhead 439 123 (.pointer a) "End").run Tryz.prog w=.ok (some false) w:=by kernel_rfl
theorem mv_TypeSpec_End (v:Value) (w:World):(method 439 123 v "End").run Tryz.prog w=.ok (153,v) w:=by kernel_rfl
theorem nv_GenDecl_Pos (a:Option Addr) (w:World):(nilAhead 439 81 (.pointer a) "Pos").run Tryz.prog w=.ok (some false) w:=by kernel_rfl
theorem mv_GenDecl_Pos (v:Value) (w:World):(method 439 81 v "Pos").run Tryz.prog w=.ok (140,v) w:=by kernel_rfl
theorem nv_GenDecl_End (a:Option Addr) (w:World):(nilAhead 439 81 (.pointer a) "End").run Tryz.prog w=.ok (some false) w:=by kernel_rfl
theorem mv_GenDecl_End (v:Value) (w:World):(method 439 81 v "End").run Tryz.prog w=.ok (139,v) w:=by kernel_rfl
theorem nv_FuncDecl_Pos (a:Option Addr) (w:World):(nilAhead 439 66 (.pointer a) "Pos").run Tryz.prog w=.ok (some false) w:=by kernel_rfl
theorem mv_FuncDecl_Pos (v:Value) (w:World):(method 439 66 v "Pos").run Tryz.prog w=.ok (116,v) w:=by kernel_rfl
theorem nv_FuncDecl_End (a:Option Addr) (w:World):(nilAhead 439 66 (.pointer a) "End").run Tryz.prog w=.ok (some false) w:=by kernel_rfl
theorem mv_FuncDecl_End (v:Value) (w:World):(method 439 66 v "End").run Tryz.prog w=.ok (115,v) w:=by kernel_rfl
def Ty.fpos:Ty→Nat
 | .name ..=>127
 | .lit ..=>145
 | .sel ..=>157
 | .star ..=>160
 | .sl ..=>163
 | .arr ..=>163
 | .map ..=>166
 | .ch ..=>169
 | .chs ..=>169
 | .chr ..=>169
 | .sig ..=>120
 | .struct ..=>172
 | .iface ..=>175
theorem ty_nv_Pos (t:Ty) (a:Option Addr) (w:World):(nilAhead 439 t.ty (.pointer a) "Pos").run Tryz.prog w=.ok (some false) w:=by
 cases t <;> simp only [Ty.ty]
 case name=>exact nv_Ident_Pos a w
 case lit=>exact nv_BasicLit_Pos a w
 case sel=>exact nv_SelectorExpr_Pos a w
 case star=>exact nv_StarExpr_Pos a w
 case sl=>exact nv_ArrayType_Pos a w
 case arr=>exact nv_ArrayType_Pos a w
 case map=>exact nv_MapType_Pos a w
 case ch=>exact nv_ChanType_Pos a w
 case chs=>exact nv_ChanType_Pos a w
 case chr=>exact nv_ChanType_Pos a w
 case sig=>exact nv_FuncType_Pos a w
 case struct=>exact nv_StructType_Pos a w
 case iface=>exact nv_InterfaceType_Pos a w
theorem ty_mv_Pos (t:Ty) (v:Value) (w:World):(method 439 t.ty v "Pos").run Tryz.prog w=.ok (t.fpos,v) w:=by
 cases t <;> simp only [Ty.ty,Ty.fpos]
 case name=>exact mv_Ident_Pos v w
 case lit=>exact mv_BasicLit_Pos v w
 case sel=>exact mv_SelectorExpr_Pos v w
 case star=>exact mv_StarExpr_Pos v w
 case sl=>exact mv_ArrayType_Pos v w
 case arr=>exact mv_ArrayType_Pos v w
 case map=>exact mv_MapType_Pos v w
 case ch=>exact mv_ChanType_Pos v w
 case chs=>exact mv_ChanType_Pos v w
 case chr=>exact mv_ChanType_Pos v w
 case sig=>exact mv_FuncType_Pos v w
 case struct=>exact mv_StructType_Pos v w
 case iface=>exact mv_InterfaceType_Pos v w
theorem ty_call_Pos (t:Ty) (args:Array Value) (w:World):(callFunc t.fpos args).run Tryz.prog w=.ok (.enter t.fpos args) w:=by
 cases t <;> simp only [Ty.fpos]
 case name=>kernel_rfl
 case lit=>kernel_rfl
 case sel=>kernel_rfl
 case star=>kernel_rfl
 case sl=>kernel_rfl
 case arr=>kernel_rfl
 case map=>kernel_rfl
 case ch=>kernel_rfl
 case chs=>kernel_rfl
 case chr=>kernel_rfl
 case sig=>kernel_rfl
 case struct=>kernel_rfl
 case iface=>kernel_rfl
def Ty.fend:Ty→Nat
 | .name ..=>126
 | .lit ..=>125
 | .sel ..=>156
 | .star ..=>159
 | .sl ..=>162
 | .arr ..=>162
 | .map ..=>165
 | .ch ..=>168
 | .chs ..=>168
 | .chr ..=>168
 | .sig ..=>119
 | .struct ..=>171
 | .iface ..=>174
theorem ty_nv_End (t:Ty) (a:Option Addr) (w:World):(nilAhead 439 t.ty (.pointer a) "End").run Tryz.prog w=.ok (some false) w:=by
 cases t <;> simp only [Ty.ty]
 case name=>exact nv_Ident_End a w
 case lit=>exact nv_BasicLit_End a w
 case sel=>exact nv_SelectorExpr_End a w
 case star=>exact nv_StarExpr_End a w
 case sl=>exact nv_ArrayType_End a w
 case arr=>exact nv_ArrayType_End a w
 case map=>exact nv_MapType_End a w
 case ch=>exact nv_ChanType_End a w
 case chs=>exact nv_ChanType_End a w
 case chr=>exact nv_ChanType_End a w
 case sig=>exact nv_FuncType_End a w
 case struct=>exact nv_StructType_End a w
 case iface=>exact nv_InterfaceType_End a w
theorem ty_mv_End (t:Ty) (v:Value) (w:World):(method 439 t.ty v "End").run Tryz.prog w=.ok (t.fend,v) w:=by
 cases t <;> simp only [Ty.ty,Ty.fend]
 case name=>exact mv_Ident_End v w
 case lit=>exact mv_BasicLit_End v w
 case sel=>exact mv_SelectorExpr_End v w
 case star=>exact mv_StarExpr_End v w
 case sl=>exact mv_ArrayType_End v w
 case arr=>exact mv_ArrayType_End v w
 case map=>exact mv_MapType_End v w
 case ch=>exact mv_ChanType_End v w
 case chs=>exact mv_ChanType_End v w
 case chr=>exact mv_ChanType_End v w
 case sig=>exact mv_FuncType_End v w
 case struct=>exact mv_StructType_End v w
 case iface=>exact mv_InterfaceType_End v w
theorem ty_call_End (t:Ty) (args:Array Value) (w:World):(callFunc t.fend args).run Tryz.prog w=.ok (.enter t.fend args) w:=by
 cases t <;> simp only [Ty.fend]
 case name=>kernel_rfl
 case lit=>kernel_rfl
 case sel=>kernel_rfl
 case star=>kernel_rfl
 case sl=>kernel_rfl
 case arr=>kernel_rfl
 case map=>kernel_rfl
 case ch=>kernel_rfl
 case chs=>kernel_rfl
 case chr=>kernel_rfl
 case sig=>kernel_rfl
 case struct=>kernel_rfl
 case iface=>kernel_rfl
end
end Go.Proofs.YtnkbglhdpmbgfaaGreatFmt
