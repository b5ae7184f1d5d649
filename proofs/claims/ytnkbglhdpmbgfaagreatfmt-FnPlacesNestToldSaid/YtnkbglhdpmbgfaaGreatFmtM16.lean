/- A part of the proof; no condition: KItem, BItem. -/
import Derived.Test.YtnkbglhdpmbgfaaGreatFmtM
import Derived.Test.YtnkbglhdpmbgfaaGreatFmtM15
import Derived.Test.YtnkbglhdpmbgfaaGreatFmtM13
import Derived.Test.YtnkbglhdpmbgfaaGreatFmtM00
set_option linter.all false
set_option maxHeartbeats 16000000
set_option maxRecDepth 100000
namespace Go.Proofs.YtnkbglhdpmbgfaaGreatFmt
section
open Go Go.RowKit
attribute [local go_sem ↓] Go.wp_at_zero Go.wp_at_succ
def KItemP (it:It):Prop:=∀ (w:World) (F:Nat→Prop) (u:Value),it.At w F u→it.ok→it.nd.size≤400→Calls Tryz.prog 47 #[.iface it.ty u] w fun e w'=>KR it.kind e∧Kp No w w'
theorem LR3.kr {w w':World} {k:ByteArray} {n:Nat} {e:Ending} (h:LR3 w w' k n e):KR k e:=by
 obtain ⟨v,us,rfl,h1,_⟩:=h
 obtain ⟨p,c,rfl⟩:=owns_form h1
 exact ⟨_,_,_,_,rfl⟩
theorem knamenil_c (w:World):Calls Tryz.prog 68 #[.pointer none] w fun e w'=>KR ⟨#[110,111,110,101]⟩ e∧Kp No w w':=by
 go_enter Tryz.func68,Tryz.ntmps68
 go_wp2_with fail
 refine (none_c _).mono ?_
 rintro e w1 ⟨rfl,hk1⟩
 have hbk:=hk1.at (newOf w _) id
 have y0:=cO hbk 0 _ rfl;have g0:=fO hbk 0
 have y1:=cO hbk 1 _ rfl;have g1:=fO hbk 1
 have y2:=cO hbk 2 _ rfl;have g2:=fO hbk 2
 have HK1:=hd_ (((Kp.refl No w).alloc _).no hk1)
 have HB:=hd_ hbk
 clear hk1 hbk
 go_wp2_with fail
 have h3:=set3_at (v0:=.string ⟨#[110,111,110,101]⟩) (v1:=.string ⟨#[]⟩) (v2:=.slice none 0 0) HB.out
 have e0:=cO h3 0 _ rfl;have e1:=cO h3 1 _ rfl;have e2:=cO h3 2 _ rfl
 refine bodyPost_ret (v:=.agg #[.string ⟨#[110,111,110,101]⟩,.string ⟨#[]⟩,.slice none 0 0]) (by simp [results,Tryz.results68,go_sem,e0,e1,e2]) rfl ⟨⟨_,_,_,_,rfl⟩,HK1.out.trans (set3_kp w1 w.heap.size _ _ _) (by intro i hi h;omega)⟩
theorem kvalid_c (w:World) (p:Int):Calls Tryz.prog 65 #[.int .i64 p] w fun e w'=>e=.returned (.bool (decide (p≠0)))∧w'=w:=by
 go_enter Tryz.func65,Tryz.ntmps65
 go_wp2_with fail
 go_ret
 exact ⟨by simp;rfl,rfl⟩
theorem LAt.mem {α:Type} {At:World→(Nat→Prop)→α→Value→Prop} {w:World} {F:Nat→Prop}:∀ (l:List α) (us:List Value),LAt At w F l us→∀ u∈us,∃ d∈l,At w F d u
 | [],us,h,u,hu=>by obtain rfl:us=[]:=h;cases hu
 | d::l,_,h,u,hu=>by
  obtain ⟨v,us',rfl,h1,h2⟩:=h
  rcases List.mem_cons.1 hu with rfl | hu
  ·exact ⟨d,List.mem_cons_self,h1⟩
  ·obtain ⟨d',hd,h3⟩:=LAt.mem l us' h2 u hu
   exact ⟨d',List.mem_cons_of_mem _ hd,h3⟩
theorem klistvals_c (w:World) (F:Nat→Prop) (kind:ByteArray) (vs:List (Int × Ty)) (s:Value) (us:List Value) (hr:Row w F 94 s us) (hn:LAt VlAt w F vs us) (hl:Nd.sizeL (vs.map fun v=>v.2.nd)≤400) :
 Calls Tryz.prog 70 #[.string kind,s,.func (.func 48) #[] #[]] w fun e w'=>LR3 w w' kind us.length e∧Kp No w w':=by
 have hul:=LAt.length _ _ hn
 refine klistex_c w F kind s us hr (by have:=Nd.sizeL_length (vs.map fun v=>v.2.nd);simp at this;omega) (fun u hu wr hk=>?_) (fun u hu=>?_)
 ·obtain ⟨d,hd,x,rfl,h⟩:=hn.mem _ _ u hu
  exact (kexpr_c d.2 wr F x (h.on hk fun b _ hF=>⟨id,hF⟩) (Nat.le_trans (Nd.sizeL_mem (List.mem_map_of_mem (f:=fun v:Int × Ty=>v.2.nd) hd)) hl)).mono fun e w' h=>⟨⟨_,h.1⟩,h.2⟩
 ·obtain ⟨d,_,x,rfl,h⟩:=hn.mem _ _ u hu
  rfl
theorem klistnames_k (w:World) (F:Nat→Prop) (kind:ByteArray) (ns:List Nm) (s:Value) (us:List Value) (hr:Row w F 70 s us) (hn:NmsAt w F ns us) (hl:ns.length≤400) :
 Calls Tryz.prog 69 #[.string kind,s,.func (.func 68) #[] #[]] w fun e w'=>KR kind e∧Kp No w w':=(klistnames_c w F kind ns s us hr hn hl).mono fun _ _ h=>⟨h.1.kr,h.2⟩
theorem klistvals_k (w:World) (F:Nat→Prop) (kind:ByteArray) (vs:List (Int × Ty)) (s:Value) (us:List Value) (hr:Row w F 94 s us) (hn:LAt VlAt w F vs us) (hl:Nd.sizeL (vs.map fun v=>v.2.nd)≤400) :
 Calls Tryz.prog 70 #[.string kind,s,.func (.func 48) #[] #[]] w fun e w'=>KR kind e∧Kp No w w':=(klistvals_c w F kind vs s us hr hn hl).mono fun _ _ h=>⟨h.1.kr,h.2⟩
theorem kpath_c (p:Int) (s0:ByteArray):KItemP (.path p s0):=by
 intro w F u h hok hsz
 simp only [It.At] at h
 simp only [It.ok] at hok
 obtain ⟨v,⟨b,rfl,_,hb⟩,⟨lb,rfl,_,hlb⟩⟩:=h
 have HB:=hd_ hb;have HL:=hd_ hlb;clear hb hlb
 simp only [It.nd,ls,tyOpt,Nd.miss,Nd.name,Nd.size,Nd.sizeL] at hsz
 simp only [It.ty,It.kind]
 obtain ⟨W0,hW0⟩:∃ W,w.alloc (.cells #[.string ⟨#[]⟩,.string ⟨#[]⟩,.slice none 0 0] 24)=W:=⟨_,rfl⟩
 have hk0:Kp No w W0:=by rw [← hW0];exact (Kp.refl No w).alloc _
 have hx0:W0.heap[w.heap.size]?=some (.cells #[.string ⟨#[]⟩,.string ⟨#[]⟩,.slice none 0 0] 24 (0,0)):=by rw [← hW0];exact newOf w _
 have szW:W0.heap.size=w.heap.size+1:=by rw [← hW0];simp
 have HK0:=hd_ hk0;have HBOX:=hd_ hx0;have HW0:=hd_ hW0
 clear hW0 hx0
 have l_nb:=ltb HB.out
 obtain ⟨q1_nb,q2_nb,q3_nb,q4_nb,q5_nb⟩:=lts l_nb
 have nb1:=cO HB.out 1 _ rfl
 have nb2:=cO HB.out 2 _ rfl
 have l_nl:=ltb HL.out
 obtain ⟨q1_nl,q2_nl,q3_nl,q4_nl,q5_nl⟩:=lts l_nl
 have nl3:=cO HL.out 3 _ rfl
 clear hk0
 go_enter Tryz.func47,Tryz.ntmps47
 go_wp2_with fail
 rw [HW0.out]
 clear HW0
 replace nb1:=(HK0.out.cell l_nb id).trans nb1
 replace nb2:=(HK0.out.cell l_nb id).trans nb2
 have lW_nb:b < W0.heap.size:=by omega
 replace nl3:=(HK0.out.cell l_nl id).trans nl3
 have lW_nl:lb < W0.heap.size:=by omega
 have x0:=cO HBOX.out 0 _ rfl;have x1:=cO HBOX.out 1 _ rfl;have x2:=cO HBOX.out 2 _ rfl
 have g0:=fO HBOX.out 0;have g1:=fO HBOX.out 1;have g2:=fO HBOX.out 2
 have lx:w.heap.size < W0.heap.size:=by omega
 have ne_nb:=World.new_ne W0 _ nb1
 have ne_nl:=World.new_ne W0 _ nl3
 have ne_x:=World.new_ne W0 _ x0
 have d1_nb:b≠w.heap.size:=by omega
 have d2_nb:w.heap.size≠b:=by omega
 have d1_nl:lb≠w.heap.size:=by omega
 have d2_nl:w.heap.size≠lb:=by omega
 go_region_held3 (fun w'=>w'.cell? ⟨b,1,none⟩=some (.pointer none)∧w'.cell? ⟨b,2,none⟩=some (.pointer (some ⟨lb,0,none⟩))∧w'.cell? ⟨lb,3,none⟩=some (.string s0))
  (first | go_keep)
  (first
    | (go_at_call 68
       refine (knamenil_c W0.drew).mono ?_
       rintro e w1 ⟨⟨t1,p1,n1,c1,rfl⟩,hK1⟩
       have k1:Kp No W0 w1:=((Kp.refl No W0).drew).trans' hK1
       clear hK1
       have sz1:W0.heap.size≤w1.heap.size:=k1.size
       have nb1_1:=(k1.cell lW_nb id).trans nb1
       have nb2_1:=(k1.cell lW_nb id).trans nb2
       have l1_nb:b < w1.heap.size:=by omega
       have nl3_1:=(k1.cell lW_nl id).trans nl3
       have l1_nl:lb < w1.heap.size:=by omega
       have x0_1:=(k1.cell lx id).trans x0
       have g0_1:=(k1.frozen lx id).trans g0
       have x1_1:=(k1.cell lx id).trans x1
       have g1_1:=(k1.frozen lx id).trans g1
       have x2_1:=(k1.cell lx id).trans x2
       have g2_1:=(k1.frozen lx id).trans g2
       have lx_1:w.heap.size < w1.heap.size:=by omega
       have HK1:=hd_ k1;clear k1)
    | (go_at_call 66
       refine (kids_c _ _).mono ?_
       rintro e w2 ⟨rfl,hw2⟩
       have k2:Kp No W0 w2:=by rw [hw2];exact HK1.out.alloc _
       clear hw2
       have sz2:W0.heap.size≤w2.heap.size:=k2.size
       have nb1_2:=(k2.cell lW_nb id).trans nb1
       have nb2_2:=(k2.cell lW_nb id).trans nb2
       have l2_nb:b < w2.heap.size:=by omega
       have nl3_2:=(k2.cell lW_nl id).trans nl3
       have l2_nl:lb < w2.heap.size:=by omega
       have x0_2:=(k2.cell lx id).trans x0
       have g0_2:=(k2.frozen lx id).trans g0
       have x1_2:=(k2.cell lx id).trans x1
       have g1_2:=(k2.frozen lx id).trans g1
       have x2_2:=(k2.cell lx id).trans x2
       have g2_2:=(k2.frozen lx id).trans g2
       have lx_2:w.heap.size < w2.heap.size:=by omega
       have HK2:=hd_ k2;clear k2))
 all_goals
  go_wp2_with fail
  have h3:=set3_at (v0:=.string ⟨#[112,97,116,104]⟩) (v1:=.string s0) (v2:=.slice (some ⟨w1.heap.size,0,none⟩) 1 1) (HK2.out.at HBOX.out id)
  have e0:=cO h3 0 _ rfl;have e1:=cO h3 1 _ rfl;have e2:=cO h3 2 _ rfl
  refine bodyPost_ret (v:=.agg #[.string ⟨#[112,97,116,104]⟩,.string s0,.slice (some ⟨w1.heap.size,0,none⟩) 1 1]) (by simp [results,Tryz.results47,go_sem,e0,e1,e2]) rfl ⟨⟨_,_,_,_,rfl⟩,(HK0.out.no HK2.out).trans (set3_kp w2 w.heap.size _ _ _) (by intro i hi h;omega)⟩
theorem kpathn_c (q1:Int) (m:ByteArray) (p:Int) (s0:ByteArray):KItemP (.pathn q1 m p s0):=by
 intro w F u h hok hsz
 simp only [It.At] at h
 simp only [It.ok] at hok
 obtain ⟨i,v,⟨b,rfl,_,hb⟩,hi,⟨lb,rfl,_,hlb⟩⟩:=h
 obtain ⟨ib,rfl⟩:=hi.ptr
 have HB:=hd_ hb;have HL:=hd_ hlb;have AI:=hd_ hi;clear hb hlb hi
 simp only [It.nd,ls,tyOpt,Nd.miss,Nd.name,Nd.size,Nd.sizeL] at hsz
 simp only [It.ty,It.kind]
 obtain ⟨W0,hW0⟩:∃ W,w.alloc (.cells #[.string ⟨#[]⟩,.string ⟨#[]⟩,.slice none 0 0] 24)=W:=⟨_,rfl⟩
 have hk0:Kp No w W0:=by rw [← hW0];exact (Kp.refl No w).alloc _
 have hx0:W0.heap[w.heap.size]?=some (.cells #[.string ⟨#[]⟩,.string ⟨#[]⟩,.slice none 0 0] 24 (0,0)):=by rw [← hW0];exact newOf w _
 have szW:W0.heap.size=w.heap.size+1:=by rw [← hW0];simp
 have HK0:=hd_ hk0;have HBOX:=hd_ hx0;have HW0:=hd_ hW0
 clear hW0 hx0
 have l_nb:=ltb HB.out
 obtain ⟨q1_nb,q2_nb,q3_nb,q4_nb,q5_nb⟩:=lts l_nb
 have nb1:=cO HB.out 1 _ rfl
 have nb2:=cO HB.out 2 _ rfl
 have l_nl:=ltb HL.out
 obtain ⟨q1_nl,q2_nl,q3_nl,q4_nl,q5_nl⟩:=lts l_nl
 have nl3:=cO HL.out 3 _ rfl
 clear hk0
 go_enter Tryz.func47,Tryz.ntmps47
 go_wp2_with fail
 rw [HW0.out]
 clear HW0
 replace nb1:=(HK0.out.cell l_nb id).trans nb1
 replace nb2:=(HK0.out.cell l_nb id).trans nb2
 have lW_nb:b < W0.heap.size:=by omega
 replace nl3:=(HK0.out.cell l_nl id).trans nl3
 have lW_nl:lb < W0.heap.size:=by omega
 have x0:=cO HBOX.out 0 _ rfl;have x1:=cO HBOX.out 1 _ rfl;have x2:=cO HBOX.out 2 _ rfl
 have g0:=fO HBOX.out 0;have g1:=fO HBOX.out 1;have g2:=fO HBOX.out 2
 have lx:w.heap.size < W0.heap.size:=by omega
 have ne_nb:=World.new_ne W0 _ nb1
 have ne_nl:=World.new_ne W0 _ nl3
 have ne_x:=World.new_ne W0 _ x0
 have d1_nb:b≠w.heap.size:=by omega
 have d2_nb:w.heap.size≠b:=by omega
 have d1_nl:lb≠w.heap.size:=by omega
 have d2_nl:w.heap.size≠lb:=by omega
 go_region_held3 (fun w'=>w'.cell? ⟨b,1,none⟩=some (.pointer (some ⟨ib,0,none⟩))∧w'.cell? ⟨b,2,none⟩=some (.pointer (some ⟨lb,0,none⟩))∧w'.cell? ⟨lb,3,none⟩=some (.string s0))
  (first | go_keep)
  (first
    | (go_at_call 68
       refine (kname_c W0.drew F q1 m (.pointer (some ⟨ib,0,none⟩)) (AI.out.on (HK0.out.no (Kp.refl No W0).drew) fun b _ h=>⟨id,h⟩)).mono ?_
       rintro e w1 ⟨⟨t1,p1,n1,c1,rfl⟩,hK1⟩
       have k1:Kp No W0 w1:=((Kp.refl No W0).drew).trans' hK1
       clear hK1
       have sz1:W0.heap.size≤w1.heap.size:=k1.size
       have nb1_1:=(k1.cell lW_nb id).trans nb1
       have nb2_1:=(k1.cell lW_nb id).trans nb2
       have l1_nb:b < w1.heap.size:=by omega
       have nl3_1:=(k1.cell lW_nl id).trans nl3
       have l1_nl:lb < w1.heap.size:=by omega
       have x0_1:=(k1.cell lx id).trans x0
       have g0_1:=(k1.frozen lx id).trans g0
       have x1_1:=(k1.cell lx id).trans x1
       have g1_1:=(k1.frozen lx id).trans g1
       have x2_1:=(k1.cell lx id).trans x2
       have g2_1:=(k1.frozen lx id).trans g2
       have lx_1:w.heap.size < w1.heap.size:=by omega
       have HK1:=hd_ k1;clear k1)
    | (go_at_call 66
       refine (kids_c _ _).mono ?_
       rintro e w2 ⟨rfl,hw2⟩
       have k2:Kp No W0 w2:=by rw [hw2];exact HK1.out.alloc _
       clear hw2
       have sz2:W0.heap.size≤w2.heap.size:=k2.size
       have nb1_2:=(k2.cell lW_nb id).trans nb1
       have nb2_2:=(k2.cell lW_nb id).trans nb2
       have l2_nb:b < w2.heap.size:=by omega
       have nl3_2:=(k2.cell lW_nl id).trans nl3
       have l2_nl:lb < w2.heap.size:=by omega
       have x0_2:=(k2.cell lx id).trans x0
       have g0_2:=(k2.frozen lx id).trans g0
       have x1_2:=(k2.cell lx id).trans x1
       have g1_2:=(k2.frozen lx id).trans g1
       have x2_2:=(k2.cell lx id).trans x2
       have g2_2:=(k2.frozen lx id).trans g2
       have lx_2:w.heap.size < w2.heap.size:=by omega
       have HK2:=hd_ k2;clear k2))
 all_goals
  go_wp2_with fail
  have h3:=set3_at (v0:=.string ⟨#[112,97,116,104]⟩) (v1:=.string s0) (v2:=.slice (some ⟨w1.heap.size,0,none⟩) 1 1) (HK2.out.at HBOX.out id)
  have e0:=cO h3 0 _ rfl;have e1:=cO h3 1 _ rfl;have e2:=cO h3 2 _ rfl
  refine bodyPost_ret (v:=.agg #[.string ⟨#[112,97,116,104]⟩,.string s0,.slice (some ⟨w1.heap.size,0,none⟩) 1 1]) (by simp [results,Tryz.results47,go_sem,e0,e1,e2]) rfl ⟨⟨_,_,_,_,rfl⟩,(HK0.out.no HK2.out).trans (set3_kp w2 w.heap.size _ _ _) (by intro i hi h;omega)⟩
theorem ktype_c (p:Int) (s0:ByteArray) (t:Ty):KItemP (.type p s0 t):=by
 intro w F u h hok hsz
 simp only [It.At] at h
 simp only [It.ok] at hok
 obtain ⟨i,x,⟨b,rfl,_,hb⟩,⟨ib,rfl,_,hib⟩,hat⟩:=h
 have HB:=hd_ hb;have HI:=hd_ hib;have AT:=hd_ hat;clear hb hib hat
 have HSZ:Hid (t.nd.size≤400):=by simp only [It.nd,Nd.size,Nd.sizeL] at hsz;exact (by omega:t.nd.size≤400)
 simp only [It.nd,ls,tyOpt,Nd.miss,Nd.name,Nd.size,Nd.sizeL] at hsz
 simp only [It.ty,It.kind]
 obtain ⟨W0,hW0⟩:∃ W,w.alloc (.cells #[.string ⟨#[]⟩,.string ⟨#[]⟩,.slice none 0 0] 24)=W:=⟨_,rfl⟩
 have hk0:Kp No w W0:=by rw [← hW0];exact (Kp.refl No w).alloc _
 have hx0:W0.heap[w.heap.size]?=some (.cells #[.string ⟨#[]⟩,.string ⟨#[]⟩,.slice none 0 0] 24 (0,0)):=by rw [← hW0];exact newOf w _
 have szW:W0.heap.size=w.heap.size+1:=by rw [← hW0];simp
 have HK0:=hd_ hk0;have HBOX:=hd_ hx0;have HW0:=hd_ hW0
 clear hW0 hx0
 have l_nb:=ltb HB.out
 obtain ⟨q1_nb,q2_nb,q3_nb,q4_nb,q5_nb⟩:=lts l_nb
 have nb1:=cO HB.out 1 _ rfl
 have nb3:=cO HB.out 3 _ rfl
 have nb4:=cO HB.out 4 _ rfl
 have l_ni:=ltb HI.out
 obtain ⟨q1_ni,q2_ni,q3_ni,q4_ni,q5_ni⟩:=lts l_ni
 have ni1:=cO HI.out 1 _ rfl
 clear hk0
 go_enter Tryz.func47,Tryz.ntmps47
 go_wp2_with fail
 rw [HW0.out]
 clear HW0
 replace nb1:=(HK0.out.cell l_nb id).trans nb1
 replace nb3:=(HK0.out.cell l_nb id).trans nb3
 replace nb4:=(HK0.out.cell l_nb id).trans nb4
 have lW_nb:b < W0.heap.size:=by omega
 replace ni1:=(HK0.out.cell l_ni id).trans ni1
 have lW_ni:ib < W0.heap.size:=by omega
 have x0:=cO HBOX.out 0 _ rfl;have x1:=cO HBOX.out 1 _ rfl;have x2:=cO HBOX.out 2 _ rfl
 have g0:=fO HBOX.out 0;have g1:=fO HBOX.out 1;have g2:=fO HBOX.out 2
 have lx:w.heap.size < W0.heap.size:=by omega
 have ne_nb:=World.new_ne W0 _ nb1
 have ne_ni:=World.new_ne W0 _ ni1
 have ne_x:=World.new_ne W0 _ x0
 have d1_nb:b≠w.heap.size:=by omega
 have d2_nb:w.heap.size≠b:=by omega
 have d1_ni:ib≠w.heap.size:=by omega
 have d2_ni:w.heap.size≠ib:=by omega
 refine (kvalid_c W0 0).mono ?_
 rintro e w1 ⟨rfl,hw1⟩
 have k1:Kp No W0 w1:=by rw [hw1];exact (Kp.refl No W0)
 clear hw1
 have sz1:W0.heap.size≤w1.heap.size:=k1.size
 have nb1_1:=(k1.cell lW_nb id).trans nb1
 have nb3_1:=(k1.cell lW_nb id).trans nb3
 have nb4_1:=(k1.cell lW_nb id).trans nb4
 have l1_nb:b < w1.heap.size:=by omega
 have ni1_1:=(k1.cell lW_ni id).trans ni1
 have l1_ni:ib < w1.heap.size:=by omega
 have x0_1:=(k1.cell lx id).trans x0
 have g0_1:=(k1.frozen lx id).trans g0
 have x1_1:=(k1.cell lx id).trans x1
 have g1_1:=(k1.frozen lx id).trans g1
 have x2_1:=(k1.cell lx id).trans x2
 have g2_1:=(k1.frozen lx id).trans g2
 have lx_1:w.heap.size < w1.heap.size:=by omega
 have HK1:=hd_ k1;clear k1
 rw [show decide ((0:Int)≠0)=false from rfl]
 go_wp2_with fail
 refine ((kexpr_c t) w1 F x (AT.out.on (HK0.out.no HK1.out) fun b _ h=>⟨id,h⟩) HSZ.out).mono ?_
 rintro e w2 ⟨⟨t2,p2,n2,c2,rfl⟩,hK2⟩
 have k2:Kp No W0 w2:=(HK1.out).trans' hK2
 clear hK2
 have sz2:W0.heap.size≤w2.heap.size:=k2.size
 have nb1_2:=(k2.cell lW_nb id).trans nb1
 have nb3_2:=(k2.cell lW_nb id).trans nb3
 have nb4_2:=(k2.cell lW_nb id).trans nb4
 have l2_nb:b < w2.heap.size:=by omega
 have ni1_2:=(k2.cell lW_ni id).trans ni1
 have l2_ni:ib < w2.heap.size:=by omega
 have x0_2:=(k2.cell lx id).trans x0
 have g0_2:=(k2.frozen lx id).trans g0
 have x1_2:=(k2.cell lx id).trans x1
 have g1_2:=(k2.frozen lx id).trans g1
 have x2_2:=(k2.cell lx id).trans x2
 have g2_2:=(k2.frozen lx id).trans g2
 have lx_2:w.heap.size < w2.heap.size:=by omega
 have HK2:=hd_ k2;clear k2
 go_wp2_with fail
 refine (kids_c _ _).mono ?_
 rintro e w3 ⟨rfl,hw3⟩
 have k3:Kp No W0 w3:=by rw [hw3];exact HK2.out.alloc _
 clear hw3
 have sz3:W0.heap.size≤w3.heap.size:=k3.size
 have nb1_3:=(k3.cell lW_nb id).trans nb1
 have nb3_3:=(k3.cell lW_nb id).trans nb3
 have nb4_3:=(k3.cell lW_nb id).trans nb4
 have l3_nb:b < w3.heap.size:=by omega
 have ni1_3:=(k3.cell lW_ni id).trans ni1
 have l3_ni:ib < w3.heap.size:=by omega
 have x0_3:=(k3.cell lx id).trans x0
 have g0_3:=(k3.frozen lx id).trans g0
 have x1_3:=(k3.cell lx id).trans x1
 have g1_3:=(k3.frozen lx id).trans g1
 have x2_3:=(k3.cell lx id).trans x2
 have g2_3:=(k3.frozen lx id).trans g2
 have lx_3:w.heap.size < w3.heap.size:=by omega
 have HK3:=hd_ k3;clear k3
 go_wp2_with fail
 have h3:=set3_at (v0:=.string ⟨#[116,121,112,101]⟩) (v1:=.string s0) (v2:=.slice (some ⟨w2.heap.size,0,none⟩) 1 1) (HK3.out.at HBOX.out id)
 have e0:=cO h3 0 _ rfl;have e1:=cO h3 1 _ rfl;have e2:=cO h3 2 _ rfl
 refine bodyPost_ret (v:=.agg #[.string ⟨#[116,121,112,101]⟩,.string s0,.slice (some ⟨w2.heap.size,0,none⟩) 1 1]) (by simp [results,Tryz.results47,go_sem,e0,e1,e2]) rfl ⟨⟨_,_,_,_,rfl⟩,(HK0.out.no HK3.out).trans (set3_kp w3 w.heap.size _ _ _) (by intro i hi h;omega)⟩
theorem kalias_c (p:Int) (s0:ByteArray) (q1:Int) (t:Ty):KItemP (.alias p s0 q1 t):=by
 intro w F u h hok hsz
 simp only [It.At] at h
 simp only [It.ok] at hok
 obtain ⟨i,x,⟨b,rfl,_,hb⟩,⟨ib,rfl,_,hib⟩,hat⟩:=h
 have HB:=hd_ hb;have HI:=hd_ hib;have AT:=hd_ hat;clear hb hib hat
 have HSZ:Hid (t.nd.size≤400):=by simp only [It.nd,Nd.size,Nd.sizeL] at hsz;exact (by omega:t.nd.size≤400)
 have HQ:Hid (q1≠0):=by have:=hok.2.2.1;unfold Pk at this;exact (by omega:q1≠0)
 simp only [It.nd,ls,tyOpt,Nd.miss,Nd.name,Nd.size,Nd.sizeL] at hsz
 simp only [It.ty,It.kind]
 obtain ⟨W0,hW0⟩:∃ W,w.alloc (.cells #[.string ⟨#[]⟩,.string ⟨#[]⟩,.slice none 0 0] 24)=W:=⟨_,rfl⟩
 have hk0:Kp No w W0:=by rw [← hW0];exact (Kp.refl No w).alloc _
 have hx0:W0.heap[w.heap.size]?=some (.cells #[.string ⟨#[]⟩,.string ⟨#[]⟩,.slice none 0 0] 24 (0,0)):=by rw [← hW0];exact newOf w _
 have szW:W0.heap.size=w.heap.size+1:=by rw [← hW0];simp
 have HK0:=hd_ hk0;have HBOX:=hd_ hx0;have HW0:=hd_ hW0
 clear hW0 hx0
 have l_nb:=ltb HB.out
 obtain ⟨q1_nb,q2_nb,q3_nb,q4_nb,q5_nb⟩:=lts l_nb
 have nb1:=cO HB.out 1 _ rfl
 have nb3:=cO HB.out 3 _ rfl
 have nb4:=cO HB.out 4 _ rfl
 have l_ni:=ltb HI.out
 obtain ⟨q1_ni,q2_ni,q3_ni,q4_ni,q5_ni⟩:=lts l_ni
 have ni1:=cO HI.out 1 _ rfl
 clear hk0
 go_enter Tryz.func47,Tryz.ntmps47
 go_wp2_with fail
 rw [HW0.out]
 clear HW0
 replace nb1:=(HK0.out.cell l_nb id).trans nb1
 replace nb3:=(HK0.out.cell l_nb id).trans nb3
 replace nb4:=(HK0.out.cell l_nb id).trans nb4
 have lW_nb:b < W0.heap.size:=by omega
 replace ni1:=(HK0.out.cell l_ni id).trans ni1
 have lW_ni:ib < W0.heap.size:=by omega
 have x0:=cO HBOX.out 0 _ rfl;have x1:=cO HBOX.out 1 _ rfl;have x2:=cO HBOX.out 2 _ rfl
 have g0:=fO HBOX.out 0;have g1:=fO HBOX.out 1;have g2:=fO HBOX.out 2
 have lx:w.heap.size < W0.heap.size:=by omega
 have ne_nb:=World.new_ne W0 _ nb1
 have ne_ni:=World.new_ne W0 _ ni1
 have ne_x:=World.new_ne W0 _ x0
 have d1_nb:b≠w.heap.size:=by omega
 have d2_nb:w.heap.size≠b:=by omega
 have d1_ni:ib≠w.heap.size:=by omega
 have d2_ni:w.heap.size≠ib:=by omega
 refine (kvalid_c W0 q1).mono ?_
 rintro e w1 ⟨rfl,hw1⟩
 have k1:Kp No W0 w1:=by rw [hw1];exact (Kp.refl No W0)
 clear hw1
 have sz1:W0.heap.size≤w1.heap.size:=k1.size
 have nb1_1:=(k1.cell lW_nb id).trans nb1
 have nb3_1:=(k1.cell lW_nb id).trans nb3
 have nb4_1:=(k1.cell lW_nb id).trans nb4
 have l1_nb:b < w1.heap.size:=by omega
 have ni1_1:=(k1.cell lW_ni id).trans ni1
 have l1_ni:ib < w1.heap.size:=by omega
 have x0_1:=(k1.cell lx id).trans x0
 have g0_1:=(k1.frozen lx id).trans g0
 have x1_1:=(k1.cell lx id).trans x1
 have g1_1:=(k1.frozen lx id).trans g1
 have x2_1:=(k1.cell lx id).trans x2
 have g2_1:=(k1.frozen lx id).trans g2
 have lx_1:w.heap.size < w1.heap.size:=by omega
 have HK1:=hd_ k1;clear k1
 rw [show decide ((q1:Int)≠0)=true by simpa using HQ.out]
 go_wp2_with fail
 refine ((kexpr_c t) w1 F x (AT.out.on (HK0.out.no HK1.out) fun b _ h=>⟨id,h⟩) HSZ.out).mono ?_
 rintro e w2 ⟨⟨t2,p2,n2,c2,rfl⟩,hK2⟩
 have k2:Kp No W0 w2:=(HK1.out).trans' hK2
 clear hK2
 have sz2:W0.heap.size≤w2.heap.size:=k2.size
 have nb1_2:=(k2.cell lW_nb id).trans nb1
 have nb3_2:=(k2.cell lW_nb id).trans nb3
 have nb4_2:=(k2.cell lW_nb id).trans nb4
 have l2_nb:b < w2.heap.size:=by omega
 have ni1_2:=(k2.cell lW_ni id).trans ni1
 have l2_ni:ib < w2.heap.size:=by omega
 have x0_2:=(k2.cell lx id).trans x0
 have g0_2:=(k2.frozen lx id).trans g0
 have x1_2:=(k2.cell lx id).trans x1
 have g1_2:=(k2.frozen lx id).trans g1
 have x2_2:=(k2.cell lx id).trans x2
 have g2_2:=(k2.frozen lx id).trans g2
 have lx_2:w.heap.size < w2.heap.size:=by omega
 have HK2:=hd_ k2;clear k2
 go_wp2_with fail
 refine (kids_c _ _).mono ?_
 rintro e w3 ⟨rfl,hw3⟩
 have k3:Kp No W0 w3:=by rw [hw3];exact HK2.out.alloc _
 clear hw3
 have sz3:W0.heap.size≤w3.heap.size:=k3.size
 have nb1_3:=(k3.cell lW_nb id).trans nb1
 have nb3_3:=(k3.cell lW_nb id).trans nb3
 have nb4_3:=(k3.cell lW_nb id).trans nb4
 have l3_nb:b < w3.heap.size:=by omega
 have ni1_3:=(k3.cell lW_ni id).trans ni1
 have l3_ni:ib < w3.heap.size:=by omega
 have x0_3:=(k3.cell lx id).trans x0
 have g0_3:=(k3.frozen lx id).trans g0
 have x1_3:=(k3.cell lx id).trans x1
 have g1_3:=(k3.frozen lx id).trans g1
 have x2_3:=(k3.cell lx id).trans x2
 have g2_3:=(k3.frozen lx id).trans g2
 have lx_3:w.heap.size < w3.heap.size:=by omega
 have HK3:=hd_ k3;clear k3
 go_wp2_with fail
 have h3:=set3_at (v0:=.string ⟨#[97,108,105,97,115]⟩) (v1:=.string s0) (v2:=.slice (some ⟨w2.heap.size,0,none⟩) 1 1) (HK3.out.at HBOX.out id)
 have e0:=cO h3 0 _ rfl;have e1:=cO h3 1 _ rfl;have e2:=cO h3 2 _ rfl
 refine bodyPost_ret (v:=.agg #[.string ⟨#[97,108,105,97,115]⟩,.string s0,.slice (some ⟨w2.heap.size,0,none⟩) 1 1]) (by simp [results,Tryz.results47,go_sem,e0,e1,e2]) rfl ⟨⟨_,_,_,_,rfl⟩,(HK0.out.no HK3.out).trans (set3_kp w3 w.heap.size _ _ _) (by intro i hi h;omega)⟩
theorem kvaluen_c (ns:List Nm) (vs:List (Int × Ty)):KItemP (.value ns none vs):=by
 intro w F u h hok hsz
 simp only [It.At] at h
 simp only [It.ok] at hok
 obtain ⟨s,us,y,z,zs,⟨b,rfl,_,hb⟩,hr,hn,hy,hz,hv⟩:=h
 obtain ⟨sp,sc,rfl⟩:=hr.form
 obtain ⟨zp,zc,rfl⟩:=hz.form
 obtain rfl:y=.nilIface:=hy
 have HB:=hd_ hb;have AR:=hd_ hr;have AN:=hd_ hn;have AZ:=hd_ hz;have AV:=hd_ hv;clear hb hr hn hz hv
 have HLN:Hid (ns.length≤400):=by have:=Nd.sizeL_length (ns.map Nm.nd);simp only [It.nd,ls,Nd.size,Nd.sizeL,lm_] at hsz this;exact (by omega:ns.length≤400)
 have HVN:Hid (Nd.sizeL (vs.map fun v=>v.2.nd)≤400):=by simp only [It.nd,ls,Nd.size,Nd.sizeL] at hsz;exact (by omega:Nd.sizeL (vs.map fun v=>v.2.nd)≤400)
 simp only [It.nd,ls,tyOpt,Nd.miss,Nd.name,Nd.size,Nd.sizeL] at hsz
 simp only [It.ty,It.kind]
 obtain ⟨W0,hW0⟩:∃ W,w.alloc (.cells #[.string ⟨#[]⟩,.string ⟨#[]⟩,.slice none 0 0] 24)=W:=⟨_,rfl⟩
 have hk0:Kp No w W0:=by rw [← hW0];exact (Kp.refl No w).alloc _
 have hx0:W0.heap[w.heap.size]?=some (.cells #[.string ⟨#[]⟩,.string ⟨#[]⟩,.slice none 0 0] 24 (0,0)):=by rw [← hW0];exact newOf w _
 have szW:W0.heap.size=w.heap.size+1:=by rw [← hW0];simp
 have HK0:=hd_ hk0;have HBOX:=hd_ hx0;have HW0:=hd_ hW0
 clear hW0 hx0
 have l_nb:=ltb HB.out
 obtain ⟨q1_nb,q2_nb,q3_nb,q4_nb,q5_nb⟩:=lts l_nb
 have nb1:=cO HB.out 1 _ rfl
 have nb2:=cO HB.out 2 _ rfl
 have nb3:=cO HB.out 3 _ rfl
 clear hk0
 go_enter Tryz.func47,Tryz.ntmps47
 go_wp2_with fail
 rw [HW0.out]
 clear HW0
 replace nb1:=(HK0.out.cell l_nb id).trans nb1
 replace nb2:=(HK0.out.cell l_nb id).trans nb2
 replace nb3:=(HK0.out.cell l_nb id).trans nb3
 have lW_nb:b < W0.heap.size:=by omega
 have x0:=cO HBOX.out 0 _ rfl;have x1:=cO HBOX.out 1 _ rfl;have x2:=cO HBOX.out 2 _ rfl
 have g0:=fO HBOX.out 0;have g1:=fO HBOX.out 1;have g2:=fO HBOX.out 2
 have lx:w.heap.size < W0.heap.size:=by omega
 have ne_nb:=World.new_ne W0 _ nb1
 have ne_x:=World.new_ne W0 _ x0
 have d1_nb:b≠w.heap.size:=by omega
 have d2_nb:w.heap.size≠b:=by omega
 go_region_held3 (fun w'=>w'.cell? ⟨b,1,none⟩=some (.slice sp us.length sc)∧w'.cell? ⟨b,2,none⟩=some (.nilIface)∧w'.cell? ⟨b,3,none⟩=some (.slice zp zs.length zc))
  (first | go_keep)
  (first
    | (go_at_call 69
       refine (klistnames_k W0.drew F ⟨#[108,105,115,116]⟩ ns (.slice sp us.length sc) us (AR.out.stay (Stay.of_kp (HK0.out.no (Kp.refl No W0).drew) fun b _ h=>⟨id,h⟩)) (NmsAt.stay (Stay.of_kp (HK0.out.no (Kp.refl No W0).drew) fun b _ h=>⟨id,h⟩) _ _ AN.out) HLN.out).mono ?_
       rintro e w1 ⟨⟨t1,p1,n1,c1,rfl⟩,hK1⟩
       have k1:Kp No W0 w1:=((Kp.refl No W0).drew).trans' hK1
       clear hK1
       have sz1:W0.heap.size≤w1.heap.size:=k1.size
       have nb1_1:=(k1.cell lW_nb id).trans nb1
       have nb2_1:=(k1.cell lW_nb id).trans nb2
       have nb3_1:=(k1.cell lW_nb id).trans nb3
       have l1_nb:b < w1.heap.size:=by omega
       have x0_1:=(k1.cell lx id).trans x0
       have g0_1:=(k1.frozen lx id).trans g0
       have x1_1:=(k1.cell lx id).trans x1
       have g1_1:=(k1.frozen lx id).trans g1
       have x2_1:=(k1.cell lx id).trans x2
       have g2_1:=(k1.frozen lx id).trans g2
       have lx_1:w.heap.size < w1.heap.size:=by omega
       have HK1:=hd_ k1;clear k1)
    | (go_at_call 48
       refine (kexprnil_c w1).mono ?_
       rintro e w2 ⟨⟨t2,p2,n2,c2,rfl⟩,hK2⟩
       have k2:Kp No W0 w2:=(HK1.out).trans' hK2
       clear hK2
       have sz2:W0.heap.size≤w2.heap.size:=k2.size
       have nb1_2:=(k2.cell lW_nb id).trans nb1
       have nb2_2:=(k2.cell lW_nb id).trans nb2
       have nb3_2:=(k2.cell lW_nb id).trans nb3
       have l2_nb:b < w2.heap.size:=by omega
       have x0_2:=(k2.cell lx id).trans x0
       have g0_2:=(k2.frozen lx id).trans g0
       have x1_2:=(k2.cell lx id).trans x1
       have g1_2:=(k2.frozen lx id).trans g1
       have x2_2:=(k2.cell lx id).trans x2
       have g2_2:=(k2.frozen lx id).trans g2
       have lx_2:w.heap.size < w2.heap.size:=by omega
       have HK2:=hd_ k2;clear k2)
    | (go_at_call 70
       refine (klistvals_k w2 F ⟨#[108,105,115,116]⟩ vs (.slice zp zs.length zc) zs (AZ.out.stay (Stay.of_kp (HK0.out.no HK2.out) fun b _ h=>⟨id,h⟩)) (LAt.stay (VlAt.stay (Stay.of_kp (HK0.out.no HK2.out) fun b _ h=>⟨id,h⟩)) _ _ AV.out) HVN.out).mono ?_
       rintro e w3 ⟨⟨t3,p3,n3,c3,rfl⟩,hK3⟩
       have k3:Kp No W0 w3:=(HK2.out).trans' hK3
       clear hK3
       have sz3:W0.heap.size≤w3.heap.size:=k3.size
       have nb1_3:=(k3.cell lW_nb id).trans nb1
       have nb2_3:=(k3.cell lW_nb id).trans nb2
       have nb3_3:=(k3.cell lW_nb id).trans nb3
       have l3_nb:b < w3.heap.size:=by omega
       have x0_3:=(k3.cell lx id).trans x0
       have g0_3:=(k3.frozen lx id).trans g0
       have x1_3:=(k3.cell lx id).trans x1
       have g1_3:=(k3.frozen lx id).trans g1
       have x2_3:=(k3.cell lx id).trans x2
       have g2_3:=(k3.frozen lx id).trans g2
       have lx_3:w.heap.size < w3.heap.size:=by omega
       have HK3:=hd_ k3;clear k3)
    | (go_at_call 66
       refine (kids_c _ _).mono ?_
       rintro e w4 ⟨rfl,hw4⟩
       have k4:Kp No W0 w4:=by rw [hw4];exact HK3.out.alloc _
       clear hw4
       have sz4:W0.heap.size≤w4.heap.size:=k4.size
       have nb1_4:=(k4.cell lW_nb id).trans nb1
       have nb2_4:=(k4.cell lW_nb id).trans nb2
       have nb3_4:=(k4.cell lW_nb id).trans nb3
       have l4_nb:b < w4.heap.size:=by omega
       have x0_4:=(k4.cell lx id).trans x0
       have g0_4:=(k4.frozen lx id).trans g0
       have x1_4:=(k4.cell lx id).trans x1
       have g1_4:=(k4.frozen lx id).trans g1
       have x2_4:=(k4.cell lx id).trans x2
       have g2_4:=(k4.frozen lx id).trans g2
       have lx_4:w.heap.size < w4.heap.size:=by omega
       have HK4:=hd_ k4;clear k4))
 all_goals
  go_wp2_with fail
  have h3:=set3_at (v0:=.string ⟨#[118,97,108,117,101]⟩) (v1:=.string ⟨#[]⟩) (v2:=.slice (some ⟨w3.heap.size,0,none⟩) 3 3) (HK4.out.at HBOX.out id)
  have e0:=cO h3 0 _ rfl;have e1:=cO h3 1 _ rfl;have e2:=cO h3 2 _ rfl
  refine bodyPost_ret (v:=.agg #[.string ⟨#[118,97,108,117,101]⟩,.string ⟨#[]⟩,.slice (some ⟨w3.heap.size,0,none⟩) 3 3]) (by simp [results,Tryz.results47,go_sem,e0,e1,e2]) rfl ⟨⟨_,_,_,_,rfl⟩,(HK0.out.no HK4.out).trans (set3_kp w4 w.heap.size _ _ _) (by intro i hi h;omega)⟩
theorem kvaluet_c (ns:List Nm) (t:Ty) (vs:List (Int × Ty)):KItemP (.value ns (some t) vs):=by
 intro w F u h hok hsz
 simp only [It.At] at h
 simp only [It.ok] at hok
 obtain ⟨s,us,y,z,zs,⟨b,rfl,_,hb⟩,hr,hn,hy,hz,hv⟩:=h
 obtain ⟨sp,sc,rfl⟩:=hr.form
 obtain ⟨zp,zc,rfl⟩:=hz.form
 obtain ⟨x,rfl,hat⟩:=hy
 have HB:=hd_ hb;have AR:=hd_ hr;have AN:=hd_ hn;have AZ:=hd_ hz;have AV:=hd_ hv;clear hb hr hn hz hv
 have HLN:Hid (ns.length≤400):=by have:=Nd.sizeL_length (ns.map Nm.nd);simp only [It.nd,ls,Nd.size,Nd.sizeL,lm_] at hsz this;exact (by omega:ns.length≤400)
 have HVN:Hid (Nd.sizeL (vs.map fun v=>v.2.nd)≤400):=by simp only [It.nd,ls,Nd.size,Nd.sizeL] at hsz;exact (by omega:Nd.sizeL (vs.map fun v=>v.2.nd)≤400)
 have HSZ:Hid (t.nd.size≤400):=by simp only [It.nd,tyOpt,ls,Nd.size,Nd.sizeL] at hsz;exact (by omega:t.nd.size≤400)
 have AT:=hd_ hat;clear hat
 simp only [It.nd,ls,tyOpt,Nd.miss,Nd.name,Nd.size,Nd.sizeL] at hsz
 simp only [It.ty,It.kind]
 obtain ⟨W0,hW0⟩:∃ W,w.alloc (.cells #[.string ⟨#[]⟩,.string ⟨#[]⟩,.slice none 0 0] 24)=W:=⟨_,rfl⟩
 have hk0:Kp No w W0:=by rw [← hW0];exact (Kp.refl No w).alloc _
 have hx0:W0.heap[w.heap.size]?=some (.cells #[.string ⟨#[]⟩,.string ⟨#[]⟩,.slice none 0 0] 24 (0,0)):=by rw [← hW0];exact newOf w _
 have szW:W0.heap.size=w.heap.size+1:=by rw [← hW0];simp
 have HK0:=hd_ hk0;have HBOX:=hd_ hx0;have HW0:=hd_ hW0
 clear hW0 hx0
 have l_nb:=ltb HB.out
 obtain ⟨q1_nb,q2_nb,q3_nb,q4_nb,q5_nb⟩:=lts l_nb
 have nb1:=cO HB.out 1 _ rfl
 have nb2:=cO HB.out 2 _ rfl
 have nb3:=cO HB.out 3 _ rfl
 clear hk0
 go_enter Tryz.func47,Tryz.ntmps47
 go_wp2_with fail
 rw [HW0.out]
 clear HW0
 replace nb1:=(HK0.out.cell l_nb id).trans nb1
 replace nb2:=(HK0.out.cell l_nb id).trans nb2
 replace nb3:=(HK0.out.cell l_nb id).trans nb3
 have lW_nb:b < W0.heap.size:=by omega
 have x0:=cO HBOX.out 0 _ rfl;have x1:=cO HBOX.out 1 _ rfl;have x2:=cO HBOX.out 2 _ rfl
 have g0:=fO HBOX.out 0;have g1:=fO HBOX.out 1;have g2:=fO HBOX.out 2
 have lx:w.heap.size < W0.heap.size:=by omega
 have ne_nb:=World.new_ne W0 _ nb1
 have ne_x:=World.new_ne W0 _ x0
 have d1_nb:b≠w.heap.size:=by omega
 have d2_nb:w.heap.size≠b:=by omega
 go_region_held3 (fun w'=>w'.cell? ⟨b,1,none⟩=some (.slice sp us.length sc)∧w'.cell? ⟨b,2,none⟩=some (.iface t.ty x)∧w'.cell? ⟨b,3,none⟩=some (.slice zp zs.length zc))
  (first | go_keep)
  (first
    | (go_at_call 69
       refine (klistnames_k W0.drew F ⟨#[108,105,115,116]⟩ ns (.slice sp us.length sc) us (AR.out.stay (Stay.of_kp (HK0.out.no (Kp.refl No W0).drew) fun b _ h=>⟨id,h⟩)) (NmsAt.stay (Stay.of_kp (HK0.out.no (Kp.refl No W0).drew) fun b _ h=>⟨id,h⟩) _ _ AN.out) HLN.out).mono ?_
       rintro e w1 ⟨⟨t1,p1,n1,c1,rfl⟩,hK1⟩
       have k1:Kp No W0 w1:=((Kp.refl No W0).drew).trans' hK1
       clear hK1
       have sz1:W0.heap.size≤w1.heap.size:=k1.size
       have nb1_1:=(k1.cell lW_nb id).trans nb1
       have nb2_1:=(k1.cell lW_nb id).trans nb2
       have nb3_1:=(k1.cell lW_nb id).trans nb3
       have l1_nb:b < w1.heap.size:=by omega
       have x0_1:=(k1.cell lx id).trans x0
       have g0_1:=(k1.frozen lx id).trans g0
       have x1_1:=(k1.cell lx id).trans x1
       have g1_1:=(k1.frozen lx id).trans g1
       have x2_1:=(k1.cell lx id).trans x2
       have g2_1:=(k1.frozen lx id).trans g2
       have lx_1:w.heap.size < w1.heap.size:=by omega
       have HK1:=hd_ k1;clear k1)
    | (go_at_call 48
       refine ((kexpr_c t) w1 F x (AT.out.on (HK0.out.no HK1.out) fun b _ h=>⟨id,h⟩) HSZ.out).mono ?_
       rintro e w2 ⟨⟨t2,p2,n2,c2,rfl⟩,hK2⟩
       have k2:Kp No W0 w2:=(HK1.out).trans' hK2
       clear hK2
       have sz2:W0.heap.size≤w2.heap.size:=k2.size
       have nb1_2:=(k2.cell lW_nb id).trans nb1
       have nb2_2:=(k2.cell lW_nb id).trans nb2
       have nb3_2:=(k2.cell lW_nb id).trans nb3
       have l2_nb:b < w2.heap.size:=by omega
       have x0_2:=(k2.cell lx id).trans x0
       have g0_2:=(k2.frozen lx id).trans g0
       have x1_2:=(k2.cell lx id).trans x1
       have g1_2:=(k2.frozen lx id).trans g1
       have x2_2:=(k2.cell lx id).trans x2
       have g2_2:=(k2.frozen lx id).trans g2
       have lx_2:w.heap.size < w2.heap.size:=by omega
       have HK2:=hd_ k2;clear k2)
    | (go_at_call 70
       refine (klistvals_k w2 F ⟨#[108,105,115,116]⟩ vs (.slice zp zs.length zc) zs (AZ.out.stay (Stay.of_kp (HK0.out.no HK2.out) fun b _ h=>⟨id,h⟩)) (LAt.stay (VlAt.stay (Stay.of_kp (HK0.out.no HK2.out) fun b _ h=>⟨id,h⟩)) _ _ AV.out) HVN.out).mono ?_
       rintro e w3 ⟨⟨t3,p3,n3,c3,rfl⟩,hK3⟩
       have k3:Kp No W0 w3:=(HK2.out).trans' hK3
       clear hK3
       have sz3:W0.heap.size≤w3.heap.size:=k3.size
       have nb1_3:=(k3.cell lW_nb id).trans nb1
       have nb2_3:=(k3.cell lW_nb id).trans nb2
       have nb3_3:=(k3.cell lW_nb id).trans nb3
       have l3_nb:b < w3.heap.size:=by omega
       have x0_3:=(k3.cell lx id).trans x0
       have g0_3:=(k3.frozen lx id).trans g0
       have x1_3:=(k3.cell lx id).trans x1
       have g1_3:=(k3.frozen lx id).trans g1
       have x2_3:=(k3.cell lx id).trans x2
       have g2_3:=(k3.frozen lx id).trans g2
       have lx_3:w.heap.size < w3.heap.size:=by omega
       have HK3:=hd_ k3;clear k3)
    | (go_at_call 66
       refine (kids_c _ _).mono ?_
       rintro e w4 ⟨rfl,hw4⟩
       have k4:Kp No W0 w4:=by rw [hw4];exact HK3.out.alloc _
       clear hw4
       have sz4:W0.heap.size≤w4.heap.size:=k4.size
       have nb1_4:=(k4.cell lW_nb id).trans nb1
       have nb2_4:=(k4.cell lW_nb id).trans nb2
       have nb3_4:=(k4.cell lW_nb id).trans nb3
       have l4_nb:b < w4.heap.size:=by omega
       have x0_4:=(k4.cell lx id).trans x0
       have g0_4:=(k4.frozen lx id).trans g0
       have x1_4:=(k4.cell lx id).trans x1
       have g1_4:=(k4.frozen lx id).trans g1
       have x2_4:=(k4.cell lx id).trans x2
       have g2_4:=(k4.frozen lx id).trans g2
       have lx_4:w.heap.size < w4.heap.size:=by omega
       have HK4:=hd_ k4;clear k4))
 all_goals
  go_wp2_with fail
  have h3:=set3_at (v0:=.string ⟨#[118,97,108,117,101]⟩) (v1:=.string ⟨#[]⟩) (v2:=.slice (some ⟨w3.heap.size,0,none⟩) 3 3) (HK4.out.at HBOX.out id)
  have e0:=cO h3 0 _ rfl;have e1:=cO h3 1 _ rfl;have e2:=cO h3 2 _ rfl
  refine bodyPost_ret (v:=.agg #[.string ⟨#[118,97,108,117,101]⟩,.string ⟨#[]⟩,.slice (some ⟨w3.heap.size,0,none⟩) 3 3]) (by simp [results,Tryz.results47,go_sem,e0,e1,e2]) rfl ⟨⟨_,_,_,_,rfl⟩,(HK0.out.no HK4.out).trans (set3_kp w4 w.heap.size _ _ _) (by intro i hi h;omega)⟩
theorem kitem_c:∀ it:It,KItemP it
 | .path p s=>kpath_c p s
 | .pathn q m p s=>kpathn_c q m p s
 | .value ns none vs=>kvaluen_c ns vs
 | .value ns (some t) vs=>kvaluet_c ns t vs
 | .type p s t=>ktype_c p s t
 | .alias p s q t=>kalias_c p s q t
end
section
open Go Go.RowKit
attribute [local go_sem ↓] Go.wp_at_zero Go.wp_at_succ
def LR {α:Type} (At:World→(Nat→Prop)→α→Value→Prop) (toks:List α→List Int) (cs:Value→Array Value) (T E:TypeId) (w0:World) (bb xb:Nat) (all:List α) (rest:List Int) (k:Nat) (wr:World):Prop :=
 ∃ done todo us v,all=done++todo∧k=done.length∧wr.heap[xb]?=some (.cells (cs v) T (0,0))∧Row wr (Fr w0.heap.size) E v us ∧
  LAt At wr (Ex w0.heap.size v) done us∧Bld wr bb (toks todo++rest)∧Kp (fun b=>b=bb∨b=xb) w0 wr
theorem LR.step {α:Type} {At:World→(Nat→Prop)→α→Value→Prop} (hA:∀ {w w':World} {F F':Nat→Prop},Stay F F' w w'→∀ (d:α) (u:Value),At w F d u→At w' F' d u)
 {toks:List α→List Int} {cs:Value→Array Value} {T E:TypeId} {i:Nat} (hcs:∀ v v',(cs v).setIfInBounds i v'=cs v')
 {w0 wr w2 w3:World} {bb xb k g cap:Nat} {all done todo':List α} {d:α} {us:List Value} {rest:List Int} {v u:Value}
 (hfs:all=done++d::todo') (hk:k=done.length) (hxb:wr.heap[xb]?=some (.cells (cs v) T (0,0))) (hrow:Row wr (Fr w0.heap.size) E v us)
 (hat:LAt At wr (Ex w0.heap.size v) done us) (hkp:Kp (fun b=>b=bb∨b=xb) w0 wr)
 (hB2:Bld w2 bb (toks todo'++rest)) (hK2:Kp (On bb) wr w2) (hd:At w2 (Fr wr.heap.size) d u)
 (hlt:bb < xb) (hx0:xb < w0.heap.size)
 (hrow3:Row w3 (fun b=>b=g) E (.slice (some ⟨g,0,none⟩) (us.length+1) cap) (us++[u]))
 (hgrow:(w2.alloc (.cells #[u] E)).grownBy w3 v.ownBlock) (hat3:v.ownBlock=some g∨g=w2.heap.size+1) :
 LR At toks cs T E w0 bb xb all rest (k+1) (w3.setCell ⟨xb,i,none⟩ (.slice (some ⟨g,0,none⟩) (us.length+1) cap)):=by
 have hs1:=hkp.size
 have hs2:=hK2.size
 have hvb:∀ b,v.ownBlock=some b→w0.heap.size≤b∧b < wr.heap.size:=by
  intro b hb
  rcases hrow with ⟨rfl,_⟩ | ⟨g',cap',cur,rfl,hF,hg,_⟩
  ·simp [Value.ownBlock] at hb
  ·simp only [Value.ownBlock,Option.some.injEq] at hb
   subst hb
   exact ⟨hF,ltb hg⟩
 have hst:Stay (Ex w0.heap.size v) (Ex w0.heap.size (.slice (some ⟨g,0,none⟩) (us.length+1) cap)) w2 w3:=by
  intro b hb hF
  have h1:=Stay.grown (n:=us.length+1) (cap:=cap) hgrow (by simpa using hat3) (lo:=w0.heap.size) b (by simp;omega) hF
  exact ⟨h1.1.trans (Below.heap_alloc _ _ _ hb),h1.2⟩
 have hk23:Kp (fun b=>v.ownBlock=some b) w2 w3:=((Kp.refl _ w2).alloc _).grown hgrow fun k hk _=>hk
 have hks:Kp (On xb) w3 (w3.setCell ⟨xb,i,none⟩ (.slice (some ⟨g,0,none⟩) (us.length+1) cap)):=(Kp.refl (On xb) w3).setCell (p:=⟨xb,i,none⟩) (fun _=>rfl) _
 have hgx:w0.heap.size≤g:=by
  rcases hat3 with h | h
  ·exact (hvb _ h).1
  ·omega
 refine ⟨done++[d],todo',us++[u],.slice (some ⟨g,0,none⟩) (us.length+1) cap,by simp [hfs],by simp [hk],?_,?_,?_,?_,?_⟩
 ·rw [← hcs v]
  exact setOf (hk23.at (hK2.at hxb (by omega)) (fun e=>by have:=(hvb _ e).1;omega)) i _
 ·rw [show us.length+1=(us++[u]).length by simp] at hrow3 ⊢
  exact hrow3.stay fun b hb hF=>⟨by simpa using hks.block b hb (by omega),by omega⟩
 ·refine LAt.stay (F:=Ex w0.heap.size (.slice (some ⟨g,0,none⟩) (us.length+1) cap)) (hA fun b hb hF=>⟨hks.block b hb (by have:=hF.1;omega),hF⟩) _ _ ?_
  refine LAt.snoc _ _ _ _ ?_ ?_
  ·refine LAt.stay (hA hst) _ _ (LAt.stay (hA (F':=Ex w0.heap.size v) (w':=w2) ?_) _ _ hat)
   exact fun b hb hF=>⟨hK2.block b hb (by intro e;have:=hF.1;omega),hF⟩
  ·exact hA (F:=Fr wr.heap.size) (fun b hb hF=>hst b hb ⟨by omega,fun e=>by have:=(hvb _ e).2;omega⟩) _ _ hd
 ·exact (hB2.stay fun b hb=>hk23.block b (by omega) fun e=>by have:=(hvb _ e).1;omega).on hks (by omega)
 ·exact ((hkp.trans hK2 fun i hi e=>.inl e).trans hk23 fun i hi e=>by have:=(hvb _ e).1;omega).trans hks fun i hi e=>.inr e
theorem node_field0 (a b c:Value) (w:World):Sem.run Tryz.prog (Instr.field 24 (.agg #[a,b,c]) 0) w=.ok a w:=by kernel_rfl
theorem node_field1 (a b c:Value) (w:World):Sem.run Tryz.prog (Instr.field 24 (.agg #[a,b,c]) 1) w=.ok b w:=by kernel_rfl
theorem node_field2 (a b c:Value) (w:World):Sem.run Tryz.prog (Instr.field 24 (.agg #[a,b,c]) 2) w=.ok c w:=by kernel_rfl
attribute [local go_sem] node_field0 node_field1 node_field2
def ItemP (it:It):Prop:=∀ (w:World) (B bb:Nat) (s:Value) (l:List Int),Bld w bb (it.toks++l)→it.nd.In w B s→B≤bb→it.ok→it.nd.size≤400 →
 Calls Tryz.prog 45 #[.pointer (some ⟨bb,0,none⟩),.agg #[.string it.nd.k,.string it.nd.t,s]] w fun e w' =>
  (∃ v,e=.returned (.iface it.ty v)∧it.At w' (Fr w.heap.size) v)∧Bld w' bb l∧Kp (On bb) w w'
theorem path_c (p:Int) (s0:ByteArray):ItemP (.path p s0):=by
 intro w B bb s l hB hn hBb hok hsz
 simp [It.toks] at hB
 simp only [It.ok] at hok
 simp only [It.nd,Nd.miss,Nd.name,Nd.size,Nd.sizeL] at hsz
 have hlt:=hB.lt
 have HB0:=hd_ hB
 obtain ⟨q,c0,rfl,_⟩:=hn.form
 have HL:=hd_ (Nd.In_iff.1 hn)
 have HO:=hd_ hok
 have HS:=hd_ hsz
 simp [It.nd,Nd.k,Nd.t,Nd.l] at HL ⊢
 clear hn hB hok hsz
 go_enter Tryz.func45,Tryz.ntmps45
 go_wp2_with fail
 refine (kid_c _ B _ _ _ _ 0 (Nd.miss) (HL.out.below ((((Kp.refl (On (w.heap.size+1)) w).alloc _).alloc _).mono (S':=On bb) (by intro i hi h;omega)) (by omega) (fun b hb=>On.not' (by omega))) (by decide) rfl).mono ?_
 rintro e w1 ⟨⟨u1,rfl,hu1⟩,hK1⟩
 have sz1:w.heap.size≤w1.heap.size:=by have:=hK1.size;(try simp at this);omega
 have KT1:Kp (fun k=>k=bb∨k=(w.heap.size+1)) w w1:=(((Kp.refl (fun k=>k=bb∨k=(w.heap.size+1)) w).alloc _).alloc _).trans hK1 (by intro i hi h;first | exact (h:False).elim | omega)
 have hB1:=(HB0.out.on (((Kp.refl (On (w.heap.size+1)) w).alloc _).alloc _) (by omega)).no hK1
 obtain ⟨xb1,x0,x1,x2,xs⟩:=box3 (allocOf (newOf w _) _) hK1 (by exact id)
 have HX1:=hd_ xb1;clear xb1
 have xk1:w1.heap[(w.heap.size+1)]?=some (.cells #[.pointer none,.pointer none,.pointer none,.pointer none,.int .i64 0] 114 (0,0)):=hK1.at (newOf2 w _ _) (by exact id)
 have z0:=cO xk1 0 _ rfl;have f0:=fO xk1 0
 have z1:=cO xk1 1 _ rfl;have f1:=fO xk1 1
 have z2:=cO xk1 2 _ rfl;have f2:=fO xk1 2
 have z3:=cO xk1 3 _ rfl;have f3:=fO xk1 3
 have z4:=cO xk1 4 _ rfl;have f4:=fO xk1 4
 have zs1:=ltb xk1
 have HP1:=hd_ xk1;clear xk1
 have k1:Kp (On bb) w w1:=KT1.mono (by intro i hi h;omega)
 have HK1:=hd_ k1;clear k1 KT1
 have HB1:=hd_ hB1;clear hB1 HB0
 have szw1:w.heap.size≤w1.heap.size:=by omega
 have HU1:=hd_ (hu1.below hK1 (by (try simp);omega) (fun _ _ h=>h.elim));clear hu1 hK1
 simp only [Nd.miss,Nd.name,Nd.k,Nd.t]
 clear HU1
 go_wp2_with fail
 refine (literal_c _ bb (s0) (p) (l) (HB1.out.on (Kp.refl (On (w.heap.size+1)) w1) (by omega)) HO.out.1 HO.out.2).mono ?_
 rintro e w2 ⟨⟨v,rfl,hv2⟩,hB2,hK2⟩
 have sz2:w1.heap.size≤w2.heap.size:=by have:=hK2.size;(try simp at this);omega
 have KT2:Kp (fun k=>k=bb∨k=(w.heap.size+1)) w1 w2:=(Kp.refl (fun k=>k=bb∨k=(w.heap.size+1)) w1).trans hK2 (by intro i hi h;first | exact (h:False).elim | omega)
 obtain ⟨xb2,x0,x1,x2,xs⟩:=box3 HX1.out KT2 (by omega)
 clear HX1
 have HX2:=hd_ xb2;clear xb2
 clear z0 f0 z1 f1 z2 f2 z3 f3 z4 f4
 have xk2:w2.heap[(w.heap.size+1)]?=some (.cells #[.pointer none,.pointer none,.pointer none,.pointer none,.int .i64 0] 114 (0,0)):=hK2.at HP1.out (by exact On.not (by omega))
 have z0:=cO xk2 0 _ rfl;have f0:=fO xk2 0
 have z1:=cO xk2 1 _ rfl;have f1:=fO xk2 1
 have z2:=cO xk2 2 _ rfl;have f2:=fO xk2 2
 have z3:=cO xk2 3 _ rfl;have f3:=fO xk2 3
 have z4:=cO xk2 4 _ rfl;have f4:=fO xk2 4
 have zs2:=ltb xk2
 have HP2:=hd_ xk2;clear xk2 HP1
 have hw2:LitAt w2 (Av (w1.heap.size) ((w.heap.size+1))) (p) (s0) v:=hv2.on (Kp.refl No _) (by intro b hb hF;(try simp at hF);exact ⟨id,by omega⟩)
 clear hv2
 obtain ⟨vb,rfl⟩:=hw2.ptr
 have HV2:=hd_ hw2;clear hw2
 have k2:Kp (On bb) w w2:=HK1.out.trans KT2 (by intro i hi h;omega)
 clear HK1
 have HK2:=hd_ k2;clear k2 KT2
 have HB2:=hd_ hB2;clear hB2 HB1
 have szw2:w.heap.size≤w2.heap.size:=by omega
 clear hK2
 go_wp2_with fail
 go_ret
 refine ⟨⟨_,rfl,?_⟩,(HB2.out.on ((Kp.refl (On (w.heap.size+1)) w2).setCell (p:=⟨(w.heap.size+1),2,none⟩) (fun _=>rfl) _) (by omega)),(HK2.out.trans ((Kp.refl (On (w.heap.size+1)) w2).setCell (p:=⟨(w.heap.size+1),2,none⟩) (fun _=>rfl) _) (by intro i hi h;omega))⟩
 simp only [It.At]
 exact ⟨_,⟨_,rfl,by omega,(setOf HP2.out 2 _)⟩,HV2.out.on ((Kp.refl (On (w.heap.size+1)) w2).setCell (p:=⟨(w.heap.size+1),2,none⟩) (fun _=>rfl) _) (by intro b hb hF;omega)⟩
theorem pathn_c (q1:Int) (m:ByteArray) (p:Int) (s0:ByteArray):ItemP (.pathn q1 m p s0):=by
 intro w B bb s l hB hn hBb hok hsz
 simp [It.toks] at hB
 simp only [It.ok] at hok
 simp only [It.nd,Nd.miss,Nd.name,Nd.size,Nd.sizeL] at hsz
 have hlt:=hB.lt
 have HB0:=hd_ hB
 obtain ⟨q,c0,rfl,_⟩:=hn.form
 have HL:=hd_ (Nd.In_iff.1 hn)
 have HO:=hd_ hok
 have HS:=hd_ hsz
 simp [It.nd,Nd.k,Nd.t,Nd.l] at HL ⊢
 clear hn hB hok hsz
 go_enter Tryz.func45,Tryz.ntmps45
 go_wp2_with fail
 refine (kid_c _ B _ _ _ _ 0 (Nd.name m) (HL.out.below ((((Kp.refl (On (w.heap.size+1)) w).alloc _).alloc _).mono (S':=On bb) (by intro i hi h;omega)) (by omega) (fun b hb=>On.not' (by omega))) (by decide) rfl).mono ?_
 rintro e w1 ⟨⟨u1,rfl,hu1⟩,hK1⟩
 have sz1:w.heap.size≤w1.heap.size:=by have:=hK1.size;(try simp at this);omega
 have KT1:Kp (fun k=>k=bb∨k=(w.heap.size+1)) w w1:=(((Kp.refl (fun k=>k=bb∨k=(w.heap.size+1)) w).alloc _).alloc _).trans hK1 (by intro i hi h;first | exact (h:False).elim | omega)
 have hB1:=(HB0.out.on (((Kp.refl (On (w.heap.size+1)) w).alloc _).alloc _) (by omega)).no hK1
 obtain ⟨xb1,x0,x1,x2,xs⟩:=box3 (allocOf (newOf w _) _) hK1 (by exact id)
 have HX1:=hd_ xb1;clear xb1
 have xk1:w1.heap[(w.heap.size+1)]?=some (.cells #[.pointer none,.pointer none,.pointer none,.pointer none,.int .i64 0] 114 (0,0)):=hK1.at (newOf2 w _ _) (by exact id)
 have z0:=cO xk1 0 _ rfl;have f0:=fO xk1 0
 have z1:=cO xk1 1 _ rfl;have f1:=fO xk1 1
 have z2:=cO xk1 2 _ rfl;have f2:=fO xk1 2
 have z3:=cO xk1 3 _ rfl;have f3:=fO xk1 3
 have z4:=cO xk1 4 _ rfl;have f4:=fO xk1 4
 have zs1:=ltb xk1
 have HP1:=hd_ xk1;clear xk1
 have k1:Kp (On bb) w w1:=KT1.mono (by intro i hi h;omega)
 have HK1:=hd_ k1;clear k1 KT1
 have HB1:=hd_ hB1;clear hB1 HB0
 have szw1:w.heap.size≤w1.heap.size:=by omega
 have HU1:=hd_ (hu1.below hK1 (by (try simp);omega) (fun _ _ h=>h.elim));clear hu1 hK1
 simp only [Nd.miss,Nd.name,Nd.k,Nd.t]
 clear HU1
 go_wp2_with fail
 refine (kid_c _ B _ _ _ _ 0 (Nd.name m) (HL.out.below (HK1.out.trans (Kp.refl (On (w.heap.size+1)) w1) (by intro i hi h;omega)) (by omega) (fun b hb=>On.not' (by omega))) (by decide) rfl).mono ?_
 rintro e w2 ⟨⟨u2,rfl,hu2⟩,hK2⟩
 have sz2:w1.heap.size≤w2.heap.size:=by have:=hK2.size;(try simp at this);omega
 have KT2:Kp (fun k=>k=bb∨k=(w.heap.size+1)) w1 w2:=(Kp.refl (fun k=>k=bb∨k=(w.heap.size+1)) w1).trans hK2 (by intro i hi h;first | exact (h:False).elim | omega)
 have hB2:=(HB1.out.on (Kp.refl (On (w.heap.size+1)) w1) (by omega)).no hK2
 obtain ⟨xb2,x0,x1,x2,xs⟩:=box3 HX1.out KT2 (by omega)
 clear HX1
 have HX2:=hd_ xb2;clear xb2
 clear z0 f0 z1 f1 z2 f2 z3 f3 z4 f4
 have xk2:w2.heap[(w.heap.size+1)]?=some (.cells #[.pointer none,.pointer none,.pointer none,.pointer none,.int .i64 0] 114 (0,0)):=hK2.at HP1.out (by exact id)
 have z0:=cO xk2 0 _ rfl;have f0:=fO xk2 0
 have z1:=cO xk2 1 _ rfl;have f1:=fO xk2 1
 have z2:=cO xk2 2 _ rfl;have f2:=fO xk2 2
 have z3:=cO xk2 3 _ rfl;have f3:=fO xk2 3
 have z4:=cO xk2 4 _ rfl;have f4:=fO xk2 4
 have zs2:=ltb xk2
 have HP2:=hd_ xk2;clear xk2 HP1
 have k2:Kp (On bb) w w2:=HK1.out.trans KT2 (by intro i hi h;omega)
 clear HK1
 have HK2:=hd_ k2;clear k2 KT2
 have HB2:=hd_ hB2;clear hB2 HB1
 have szw2:w.heap.size≤w2.heap.size:=by omega
 have HU2:=hd_ (hu2.below hK2 (by (try simp);omega) (fun _ _ h=>h.elim));clear hu2 hK2
 simp only [Nd.miss,Nd.name,Nd.k,Nd.t]
 clear HU2
 go_wp2_with fail
 refine (ident_c _ bb (m) (q1) (p::l) (HB2.out.on (Kp.refl (On (w.heap.size+1)) w2) (by omega))).mono ?_
 rintro e w3 ⟨⟨u,rfl,hv3⟩,hB3,hK3⟩
 have sz3:w2.heap.size≤w3.heap.size:=by have:=hK3.size;(try simp at this);omega
 have KT3:Kp (fun k=>k=bb∨k=(w.heap.size+1)) w2 w3:=(Kp.refl (fun k=>k=bb∨k=(w.heap.size+1)) w2).trans hK3 (by intro i hi h;first | exact (h:False).elim | omega)
 obtain ⟨xb3,x0,x1,x2,xs⟩:=box3 HX2.out KT3 (by omega)
 clear HX2
 have HX3:=hd_ xb3;clear xb3
 clear z0 f0 z1 f1 z2 f2 z3 f3 z4 f4
 have xk3:w3.heap[(w.heap.size+1)]?=some (.cells #[.pointer none,.pointer none,.pointer none,.pointer none,.int .i64 0] 114 (0,0)):=hK3.at HP2.out (by exact On.not (by omega))
 have z0:=cO xk3 0 _ rfl;have f0:=fO xk3 0
 have z1:=cO xk3 1 _ rfl;have f1:=fO xk3 1
 have z2:=cO xk3 2 _ rfl;have f2:=fO xk3 2
 have z3:=cO xk3 3 _ rfl;have f3:=fO xk3 3
 have z4:=cO xk3 4 _ rfl;have f4:=fO xk3 4
 have zs3:=ltb xk3
 have HP3:=hd_ xk3;clear xk3 HP2
 have hw3:IdAt w3 (Av (w2.heap.size) ((w.heap.size+1))) (q1) (m) u:=hv3.on (Kp.refl No _) (by intro b hb hF;(try simp at hF);exact ⟨id,by omega⟩)
 clear hv3
 obtain ⟨ub,rfl⟩:=hw3.ptr
 have HV3:=hd_ hw3;clear hw3
 have k3:Kp (On bb) w w3:=HK2.out.trans KT3 (by intro i hi h;omega)
 clear HK2
 have HK3:=hd_ k3;clear k3 KT3
 have HB3:=hd_ hB3;clear hB3 HB2
 have szw3:w.heap.size≤w3.heap.size:=by omega
 clear hK3
 go_wp2_with fail
 refine (literal_c _ bb (s0) (p) (l) (HB3.out.on ((Kp.refl (On (w.heap.size+1)) w3).setCell (p:=⟨(w.heap.size+1),1,none⟩) (fun _=>rfl) _) (by omega)) HO.out.2.2.1 HO.out.2.2.2).mono ?_
 rintro e w4 ⟨⟨v,rfl,hv4⟩,hB4,hK4⟩
 have sz4:w3.heap.size≤w4.heap.size:=by have:=hK4.size;(try simp at this);omega
 have KT4:Kp (fun k=>k=bb∨k=(w.heap.size+1)) w3 w4:=((Kp.refl (fun k=>k=bb∨k=(w.heap.size+1)) w3).setCell (p:=⟨(w.heap.size+1),1,none⟩) (fun _=>.inr rfl) _).trans hK4 (by intro i hi h;first | exact (h:False).elim | omega)
 obtain ⟨xb4,x0,x1,x2,xs⟩:=box3 HX3.out KT4 (by omega)
 clear HX3
 have HX4:=hd_ xb4;clear xb4
 clear z0 f0 z1 f1 z2 f2 z3 f3 z4 f4
 have xk4:w4.heap[(w.heap.size+1)]?=some (.cells #[.pointer none,(.pointer (some ⟨ub,0,none⟩)),.pointer none,.pointer none,.int .i64 0] 114 (0,0)):=hK4.at (setOf HP3.out 1 _) (by exact On.not (by omega))
 have z0:=cO xk4 0 _ rfl;have f0:=fO xk4 0
 have z1:=cO xk4 1 _ rfl;have f1:=fO xk4 1
 have z2:=cO xk4 2 _ rfl;have f2:=fO xk4 2
 have z3:=cO xk4 3 _ rfl;have f3:=fO xk4 3
 have z4:=cO xk4 4 _ rfl;have f4:=fO xk4 4
 have zs4:=ltb xk4
 have HP4:=hd_ xk4;clear xk4 HP3
 have HV3_4:IdAt w4 (Av (w2.heap.size) ((w.heap.size+1))) (q1) (m) (.pointer (some ⟨ub,0,none⟩)):=HV3.out.on KT4 (by intro b hb hF;omega)
 have HV3n4:=hd_ HV3_4;clear HV3_4 HV3
 have hw4:LitAt w4 (Av (w3.heap.size) ((w.heap.size+1))) (p) (s0) v:=hv4.on (Kp.refl No _) (by intro b hb hF;(try simp at hF);exact ⟨id,by omega⟩)
 clear hv4
 obtain ⟨vb,rfl⟩:=hw4.ptr
 have HV4:=hd_ hw4;clear hw4
 have k4:Kp (On bb) w w4:=HK3.out.trans KT4 (by intro i hi h;omega)
 clear HK3
 have HK4:=hd_ k4;clear k4 KT4
 have HB4:=hd_ hB4;clear hB4 HB3
 have szw4:w.heap.size≤w4.heap.size:=by omega
 clear hK4
 go_wp2_with fail
 go_ret
 refine ⟨⟨_,rfl,?_⟩,(HB4.out.on ((Kp.refl (On (w.heap.size+1)) w4).setCell (p:=⟨(w.heap.size+1),2,none⟩) (fun _=>rfl) _) (by omega)),(HK4.out.trans ((Kp.refl (On (w.heap.size+1)) w4).setCell (p:=⟨(w.heap.size+1),2,none⟩) (fun _=>rfl) _) (by intro i hi h;omega))⟩
 simp only [It.At]
 exact ⟨_,_,⟨_,rfl,by omega,(setOf HP4.out 2 _)⟩,HV3n4.out.on ((Kp.refl (On (w.heap.size+1)) w4).setCell (p:=⟨(w.heap.size+1),2,none⟩) (fun _=>rfl) _) (by intro b hb hF;omega),HV4.out.on ((Kp.refl (On (w.heap.size+1)) w4).setCell (p:=⟨(w.heap.size+1),2,none⟩) (fun _=>rfl) _) (by intro b hb hF;omega)⟩
theorem type_c (p:Int) (s0:ByteArray) (t:Ty):ItemP (.type p s0 t):=by
 intro w B bb s l hB hn hBb hok hsz
 simp [It.toks] at hB
 simp only [It.ok] at hok
 simp only [It.nd,Nd.miss,Nd.name,Nd.size,Nd.sizeL] at hsz
 have hlt:=hB.lt
 have HB0:=hd_ hB
 obtain ⟨q,c0,rfl,_⟩:=hn.form
 have HL:=hd_ (Nd.In_iff.1 hn)
 have HO:=hd_ hok
 have HS:=hd_ hsz
 simp [It.nd,Nd.k,Nd.t,Nd.l] at HL ⊢
 clear hn hB hok hsz
 go_enter Tryz.func45,Tryz.ntmps45
 go_wp2_with fail
 refine (ident_c _ bb (s0) (p) (t.toks false++l) (HB0.out.on ((Kp.refl (On (w.heap.size+1000000)) w).alloc _) (by omega))).mono ?_
 rintro e w1 ⟨⟨u,rfl,hv1⟩,hB1,hK1⟩
 have sz1:w.heap.size≤w1.heap.size:=by have:=hK1.size;(try simp at this);omega
 have KT1:Kp (fun k=>k=bb∨k=(w.heap.size+1000000)) w w1:=((Kp.refl (fun k=>k=bb∨k=(w.heap.size+1000000)) w).alloc _).trans hK1 (by intro i hi h;first | exact (h:False).elim | omega)
 obtain ⟨xb1,x0,x1,x2,xs⟩:=box3 (newOf w _) hK1 (by exact On.not (by omega))
 have HX1:=hd_ xb1;clear xb1
 have hw1:IdAt w1 (Fr (w.heap.size)) (p) (s0) u:=hv1.on (Kp.refl No _) (by intro b hb hF;(try simp at hF);exact ⟨id,by omega⟩)
 clear hv1
 obtain ⟨ub,rfl⟩:=hw1.ptr
 have HV1:=hd_ hw1;clear hw1
 have k1:Kp (On bb) w w1:=KT1.mono (by intro i hi h;omega)
 have HK1:=hd_ k1;clear k1 KT1
 have HB1:=hd_ hB1;clear hB1 HB0
 have szw1:w.heap.size≤w1.heap.size:=by omega
 clear hK1
 go_wp2_with fail
 refine (kid_c _ B _ _ _ _ 0 (t.nd) (HL.out.below (HK1.out.trans ((Kp.refl (On w1.heap.size) w1).alloc _) (by intro i hi h;omega)) (by omega) (fun b hb=>On.not' (by omega))) (by decide) rfl).mono ?_
 rintro e w2 ⟨⟨u2,rfl,hu2⟩,hK2⟩
 have sz2:w1.heap.size≤w2.heap.size:=by have:=hK2.size;(try simp at this);omega
 have KT2:Kp (fun k=>k=bb∨k=w1.heap.size) w1 w2:=((Kp.refl (fun k=>k=bb∨k=w1.heap.size) w1).alloc _).trans hK2 (by intro i hi h;first | exact (h:False).elim | omega)
 have hB2:=(HB1.out.on ((Kp.refl (On w1.heap.size) w1).alloc _) (by omega)).no hK2
 obtain ⟨xb2,x0,x1,x2,xs⟩:=box3 HX1.out KT2 (by omega)
 clear HX1
 have HX2:=hd_ xb2;clear xb2
 have xk2:w2.heap[w1.heap.size]?=some (.cells #[.pointer none,(.pointer (some ⟨ub,0,none⟩)),.pointer none,.int .i64 0,.nilIface,.pointer none] 125 (0,0)):=hK2.at (newOf w1 _) (by exact id)
 have z0:=cO xk2 0 _ rfl;have f0:=fO xk2 0
 have z1:=cO xk2 1 _ rfl;have f1:=fO xk2 1
 have z2:=cO xk2 2 _ rfl;have f2:=fO xk2 2
 have z3:=cO xk2 3 _ rfl;have f3:=fO xk2 3
 have z4:=cO xk2 4 _ rfl;have f4:=fO xk2 4
 have z5:=cO xk2 5 _ rfl;have f5:=fO xk2 5
 have zs2:=ltb xk2
 have HP2:=hd_ xk2;clear xk2
 have HV1_2:IdAt w2 (Av (w.heap.size) (w1.heap.size)) (p) (s0) (.pointer (some ⟨ub,0,none⟩)):=HV1.out.on KT2 (by intro b hb hF;omega)
 have HV1n2:=hd_ HV1_2;clear HV1_2 HV1
 have k2:Kp (On bb) w w2:=HK1.out.trans KT2 (by intro i hi h;omega)
 clear HK1
 have HK2:=hd_ k2;clear k2 KT2
 have HB2:=hd_ hB2;clear hB2 HB1
 have szw2:w.heap.size≤w2.heap.size:=by omega
 have HU2:=hd_ (hu2.below hK2 (by (try simp);omega) (fun _ _ h=>h.elim));clear hu2 hK2
 have HE:=hd_ (expr_c t)
 go_wp2_with fail
 refine (HE.out _ B bb _ (l) (HB2.out.on (Kp.refl (On w1.heap.size) w2) (by omega)) HU2.out hBb HO.out.2.2 (by have:=HS.out;omega)).mono ?_
 rintro e w3 ⟨⟨x,rfl,hv3⟩,hB3,hK3⟩
 have sz3:w2.heap.size≤w3.heap.size:=by have:=hK3.size;(try simp at this);omega
 have KT3:Kp (fun k=>k=bb∨k=w1.heap.size) w2 w3:=(Kp.refl (fun k=>k=bb∨k=w1.heap.size) w2).trans hK3 (by intro i hi h;first | exact (h:False).elim | omega)
 obtain ⟨xb3,x0,x1,x2,xs⟩:=box3 HX2.out KT3 (by omega)
 clear HX2
 have HX3:=hd_ xb3;clear xb3
 clear z0 f0 z1 f1 z2 f2 z3 f3 z4 f4 z5 f5
 have xk3:w3.heap[w1.heap.size]?=some (.cells #[.pointer none,(.pointer (some ⟨ub,0,none⟩)),.pointer none,.int .i64 0,.nilIface,.pointer none] 125 (0,0)):=hK3.at HP2.out (by exact On.not (by omega))
 have z0:=cO xk3 0 _ rfl;have f0:=fO xk3 0
 have z1:=cO xk3 1 _ rfl;have f1:=fO xk3 1
 have z2:=cO xk3 2 _ rfl;have f2:=fO xk3 2
 have z3:=cO xk3 3 _ rfl;have f3:=fO xk3 3
 have z4:=cO xk3 4 _ rfl;have f4:=fO xk3 4
 have z5:=cO xk3 5 _ rfl;have f5:=fO xk3 5
 have zs3:=ltb xk3
 have HP3:=hd_ xk3;clear xk3 HP2
 have HV1n2_3:IdAt w3 (Av (w.heap.size) (w1.heap.size)) (p) (s0) (.pointer (some ⟨ub,0,none⟩)):=HV1n2.out.on KT3 (by intro b hb hF;omega)
 have HV1n2n3:=hd_ HV1n2_3;clear HV1n2_3 HV1n2
 have hw3:Ty.At w3 (Av (w2.heap.size) (w1.heap.size)) t x:=hv3.on (Kp.refl No _) (by intro b hb hF;(try simp at hF);exact ⟨id,by omega⟩)
 clear hv3
 have HV3:=hd_ hw3;clear hw3
 have k3:Kp (On bb) w w3:=HK2.out.trans KT3 (by intro i hi h;omega)
 clear HK2
 have HK3:=hd_ k3;clear k3 KT3
 have HB3:=hd_ hB3;clear hB3 HB2
 have szw3:w.heap.size≤w3.heap.size:=by omega
 clear hK3 HU2
 go_wp2_with fail
 go_ret
 refine ⟨⟨_,rfl,?_⟩,(HB3.out.on ((Kp.refl (On w1.heap.size) w3).setCell (p:=⟨w1.heap.size,4,none⟩) (fun _=>rfl) _) (by omega)),(HK3.out.trans ((Kp.refl (On w1.heap.size) w3).setCell (p:=⟨w1.heap.size,4,none⟩) (fun _=>rfl) _) (by intro i hi h;omega))⟩
 simp only [It.At]
 exact ⟨_,_,⟨_,rfl,by omega,(setOf HP3.out 4 _)⟩,HV1n2n3.out.on ((Kp.refl (On w1.heap.size) w3).setCell (p:=⟨w1.heap.size,4,none⟩) (fun _=>rfl) _) (by intro b hb hF;omega),HV3.out.on ((Kp.refl (On w1.heap.size) w3).setCell (p:=⟨w1.heap.size,4,none⟩) (fun _=>rfl) _) (by intro b hb hF;omega)⟩
theorem alias_c (p:Int) (s0:ByteArray) (q1:Int) (t:Ty):ItemP (.alias p s0 q1 t):=by
 intro w B bb s l hB hn hBb hok hsz
 simp [It.toks] at hB
 simp only [It.ok] at hok
 simp only [It.nd,Nd.miss,Nd.name,Nd.size,Nd.sizeL] at hsz
 have hlt:=hB.lt
 have HB0:=hd_ hB
 obtain ⟨q,c0,rfl,_⟩:=hn.form
 have HL:=hd_ (Nd.In_iff.1 hn)
 have HO:=hd_ hok
 have HS:=hd_ hsz
 simp [It.nd,Nd.k,Nd.t,Nd.l] at HL ⊢
 clear hn hB hok hsz
 go_enter Tryz.func45,Tryz.ntmps45
 go_wp2_with fail
 refine (ident_c _ bb (s0) (p) (q1::(t.toks false++l)) (HB0.out.on ((Kp.refl (On (w.heap.size+1000000)) w).alloc _) (by omega))).mono ?_
 rintro e w1 ⟨⟨u,rfl,hv1⟩,hB1,hK1⟩
 have sz1:w.heap.size≤w1.heap.size:=by have:=hK1.size;(try simp at this);omega
 have KT1:Kp (fun k=>k=bb∨k=(w.heap.size+1000000)) w w1:=((Kp.refl (fun k=>k=bb∨k=(w.heap.size+1000000)) w).alloc _).trans hK1 (by intro i hi h;first | exact (h:False).elim | omega)
 obtain ⟨xb1,x0,x1,x2,xs⟩:=box3 (newOf w _) hK1 (by exact On.not (by omega))
 have HX1:=hd_ xb1;clear xb1
 have hw1:IdAt w1 (Fr (w.heap.size)) (p) (s0) u:=hv1.on (Kp.refl No _) (by intro b hb hF;(try simp at hF);exact ⟨id,by omega⟩)
 clear hv1
 obtain ⟨ub,rfl⟩:=hw1.ptr
 have HV1:=hd_ hw1;clear hw1
 have k1:Kp (On bb) w w1:=KT1.mono (by intro i hi h;omega)
 have HK1:=hd_ k1;clear k1 KT1
 have HB1:=hd_ hB1;clear hB1 HB0
 have szw1:w.heap.size≤w1.heap.size:=by omega
 clear hK1
 go_wp2_with fail
 refine (next_c _ bb (q1) (t.toks false++l) (HB1.out.on ((Kp.refl (On w1.heap.size) w1).alloc _) (by omega))).mono ?_
 rintro e w2 ⟨rfl,hB2,hK2⟩
 have sz2:w1.heap.size≤w2.heap.size:=by have:=hK2.size;(try simp at this);omega
 have KT2:Kp (fun k=>k=bb∨k=w1.heap.size) w1 w2:=((Kp.refl (fun k=>k=bb∨k=w1.heap.size) w1).alloc _).trans hK2 (by intro i hi h;first | exact (h:False).elim | omega)
 obtain ⟨xb2,x0,x1,x2,xs⟩:=box3 HX1.out KT2 (by omega)
 clear HX1
 have HX2:=hd_ xb2;clear xb2
 have xk2:w2.heap[w1.heap.size]?=some (.cells #[.pointer none,(.pointer (some ⟨ub,0,none⟩)),.pointer none,.int .i64 0,.nilIface,.pointer none] 125 (0,0)):=hK2.at (newOf w1 _) (by exact On.not (by omega))
 have z0:=cO xk2 0 _ rfl;have f0:=fO xk2 0
 have z1:=cO xk2 1 _ rfl;have f1:=fO xk2 1
 have z2:=cO xk2 2 _ rfl;have f2:=fO xk2 2
 have z3:=cO xk2 3 _ rfl;have f3:=fO xk2 3
 have z4:=cO xk2 4 _ rfl;have f4:=fO xk2 4
 have z5:=cO xk2 5 _ rfl;have f5:=fO xk2 5
 have zs2:=ltb xk2
 have HP2:=hd_ xk2;clear xk2
 have HV1_2:IdAt w2 (Av (w.heap.size) (w1.heap.size)) (p) (s0) (.pointer (some ⟨ub,0,none⟩)):=HV1.out.on KT2 (by intro b hb hF;omega)
 have HV1n2:=hd_ HV1_2;clear HV1_2 HV1
 have k2:Kp (On bb) w w2:=HK1.out.trans KT2 (by intro i hi h;omega)
 clear HK1
 have HK2:=hd_ k2;clear k2 KT2
 have HB2:=hd_ hB2;clear hB2 HB1
 have szw2:w.heap.size≤w2.heap.size:=by omega
 clear hK2
 go_wp2_with fail
 refine (kid_c _ B _ _ _ _ 0 (t.nd) (HL.out.below (HK2.out.trans ((Kp.refl (On w1.heap.size) w2).setCell (p:=⟨w1.heap.size,3,none⟩) (fun _=>rfl) _) (by intro i hi h;omega)) (by omega) (fun b hb=>On.not' (by omega))) (by decide) rfl).mono ?_
 rintro e w3 ⟨⟨u3,rfl,hu3⟩,hK3⟩
 have sz3:w2.heap.size≤w3.heap.size:=by have:=hK3.size;(try simp at this);omega
 have KT3:Kp (fun k=>k=bb∨k=w1.heap.size) w2 w3:=((Kp.refl (fun k=>k=bb∨k=w1.heap.size) w2).setCell (p:=⟨w1.heap.size,3,none⟩) (fun _=>.inr rfl) _).trans hK3 (by intro i hi h;first | exact (h:False).elim | omega)
 have hB3:=(HB2.out.on ((Kp.refl (On w1.heap.size) w2).setCell (p:=⟨w1.heap.size,3,none⟩) (fun _=>rfl) _) (by omega)).no hK3
 obtain ⟨xb3,x0,x1,x2,xs⟩:=box3 HX2.out KT3 (by omega)
 clear HX2
 have HX3:=hd_ xb3;clear xb3
 clear z0 f0 z1 f1 z2 f2 z3 f3 z4 f4 z5 f5
 have xk3:w3.heap[w1.heap.size]?=some (.cells #[.pointer none,(.pointer (some ⟨ub,0,none⟩)),.pointer none,.int .i64 q1,.nilIface,.pointer none] 125 (0,0)):=hK3.at (setOf HP2.out 3 _) (by exact id)
 have z0:=cO xk3 0 _ rfl;have f0:=fO xk3 0
 have z1:=cO xk3 1 _ rfl;have f1:=fO xk3 1
 have z2:=cO xk3 2 _ rfl;have f2:=fO xk3 2
 have z3:=cO xk3 3 _ rfl;have f3:=fO xk3 3
 have z4:=cO xk3 4 _ rfl;have f4:=fO xk3 4
 have z5:=cO xk3 5 _ rfl;have f5:=fO xk3 5
 have zs3:=ltb xk3
 have HP3:=hd_ xk3;clear xk3 HP2
 have HV1n2_3:IdAt w3 (Av (w.heap.size) (w1.heap.size)) (p) (s0) (.pointer (some ⟨ub,0,none⟩)):=HV1n2.out.on KT3 (by intro b hb hF;omega)
 have HV1n2n3:=hd_ HV1n2_3;clear HV1n2_3 HV1n2
 have k3:Kp (On bb) w w3:=HK2.out.trans KT3 (by intro i hi h;omega)
 clear HK2
 have HK3:=hd_ k3;clear k3 KT3
 have HB3:=hd_ hB3;clear hB3 HB2
 have szw3:w.heap.size≤w3.heap.size:=by omega
 have HU3:=hd_ (hu3.below hK3 (by (try simp);omega) (fun _ _ h=>h.elim));clear hu3 hK3
 have HE:=hd_ (expr_c t)
 go_wp2_with fail
 refine (HE.out _ B bb _ (l) (HB3.out.on (Kp.refl (On w1.heap.size) w3) (by omega)) HU3.out hBb HO.out.2.2.2 (by have:=HS.out;omega)).mono ?_
 rintro e w4 ⟨⟨x,rfl,hv4⟩,hB4,hK4⟩
 have sz4:w3.heap.size≤w4.heap.size:=by have:=hK4.size;(try simp at this);omega
 have KT4:Kp (fun k=>k=bb∨k=w1.heap.size) w3 w4:=(Kp.refl (fun k=>k=bb∨k=w1.heap.size) w3).trans hK4 (by intro i hi h;first | exact (h:False).elim | omega)
 obtain ⟨xb4,x0,x1,x2,xs⟩:=box3 HX3.out KT4 (by omega)
 clear HX3
 have HX4:=hd_ xb4;clear xb4
 clear z0 f0 z1 f1 z2 f2 z3 f3 z4 f4 z5 f5
 have xk4:w4.heap[w1.heap.size]?=some (.cells #[.pointer none,(.pointer (some ⟨ub,0,none⟩)),.pointer none,.int .i64 q1,.nilIface,.pointer none] 125 (0,0)):=hK4.at HP3.out (by exact On.not (by omega))
 have z0:=cO xk4 0 _ rfl;have f0:=fO xk4 0
 have z1:=cO xk4 1 _ rfl;have f1:=fO xk4 1
 have z2:=cO xk4 2 _ rfl;have f2:=fO xk4 2
 have z3:=cO xk4 3 _ rfl;have f3:=fO xk4 3
 have z4:=cO xk4 4 _ rfl;have f4:=fO xk4 4
 have z5:=cO xk4 5 _ rfl;have f5:=fO xk4 5
 have zs4:=ltb xk4
 have HP4:=hd_ xk4;clear xk4 HP3
 have HV1n2n3_4:IdAt w4 (Av (w.heap.size) (w1.heap.size)) (p) (s0) (.pointer (some ⟨ub,0,none⟩)):=HV1n2n3.out.on KT4 (by intro b hb hF;omega)
 have HV1n2n3n4:=hd_ HV1n2n3_4;clear HV1n2n3_4 HV1n2n3
 have hw4:Ty.At w4 (Av (w3.heap.size) (w1.heap.size)) t x:=hv4.on (Kp.refl No _) (by intro b hb hF;(try simp at hF);exact ⟨id,by omega⟩)
 clear hv4
 have HV4:=hd_ hw4;clear hw4
 have k4:Kp (On bb) w w4:=HK3.out.trans KT4 (by intro i hi h;omega)
 clear HK3
 have HK4:=hd_ k4;clear k4 KT4
 have HB4:=hd_ hB4;clear hB4 HB3
 have szw4:w.heap.size≤w4.heap.size:=by omega
 clear hK4 HU3
 go_wp2_with fail
 go_ret
 refine ⟨⟨_,rfl,?_⟩,(HB4.out.on ((Kp.refl (On w1.heap.size) w4).setCell (p:=⟨w1.heap.size,4,none⟩) (fun _=>rfl) _) (by omega)),(HK4.out.trans ((Kp.refl (On w1.heap.size) w4).setCell (p:=⟨w1.heap.size,4,none⟩) (fun _=>rfl) _) (by intro i hi h;omega))⟩
 simp only [It.At]
 exact ⟨_,_,⟨_,rfl,by omega,(setOf HP4.out 4 _)⟩,HV1n2n3n4.out.on ((Kp.refl (On w1.heap.size) w4).setCell (p:=⟨w1.heap.size,4,none⟩) (fun _=>rfl) _) (by intro b hb hF;omega),HV4.out.on ((Kp.refl (On w1.heap.size) w4).setCell (p:=⟨w1.heap.size,4,none⟩) (fun _=>rfl) _) (by intro b hb hF;omega)⟩
end
end Go.Proofs.YtnkbglhdpmbgfaaGreatFmt
