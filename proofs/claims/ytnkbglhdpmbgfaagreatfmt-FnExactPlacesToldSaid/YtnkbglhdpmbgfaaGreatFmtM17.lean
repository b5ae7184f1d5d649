/- A part of the proof; no condition: BValue, BWord, BBuild. -/
import Derived.Test.YtnkbglhdpmbgfaaGreatFmtM
import Derived.Test.YtnkbglhdpmbgfaaGreatFmtM16
set_option linter.all false
set_option maxHeartbeats 16000000
set_option maxRecDepth 100000
namespace Go.Proofs.YtnkbglhdpmbgfaaGreatFmt
section
open Go Go.RowKit
attribute [local go_sem ↓] Go.wp_at_zero Go.wp_at_succ
attribute [local go_sem] node_field0 node_field1 node_field2
def NmL (w:World) (F:Nat→Prop) (ns:List Nm) (v:Value):Prop:=∃ us,Row w F 70 v us∧NmsAt w F ns us
theorem NmL.on {w w':World} {F F' S:Nat→Prop} {ns:List Nm} {v:Value} (h:NmL w F ns v) (hk:Kp S w w') (hs:∀ b,b < w.heap.size→F b→¬ S b∧F' b):NmL w' F' ns v:=by
 obtain ⟨us,h1,h2⟩:=h
 exact ⟨us,h1.stay (Stay.of_kp hk hs),NmsAt.stay (Stay.of_kp hk hs) _ _ h2⟩
theorem NmL.form {w:World} {F:Nat→Prop} {ns:List Nm} {v:Value} (h:NmL w F ns v):∃ p n c,v=.slice p n c:=by
 obtain ⟨us,h1,_⟩:=h
 obtain ⟨p,c,rfl⟩:=h1.form
 exact ⟨p,_,c,rfl⟩
theorem valuen_c (ns:List Nm) (vs:List (Int × Ty)):ItemP (.value ns none vs):=by
 intro w B bb s l hB hn hBb hok hsz
 simp [It.toks,tyToks] at hB
 simp only [It.ok] at hok
 simp [It.nd,ls,tyOpt,Nd.miss,Nd.size,Nd.sizeL] at hsz
 have hlt:=hB.lt
 have HB0:=hd_ hB
 obtain ⟨q,c0,rfl,_⟩:=hn.form
 have HL:=hd_ (Nd.In_iff.1 hn)
 have HO:=hd_ hok
 have HS:=hd_ hsz
 simp [It.nd,tyOpt,Nd.k,Nd.t,Nd.l] at HL ⊢
 clear hn hB hok hsz
 go_enter Tryz.func45,Tryz.ntmps45
 go_wp2_with fail
 refine (kid_c _ B _ _ _ _ 0 (ls (ns.map Nm.nd)) (HL.out.below (((Kp.refl (On (w.heap.size+1000000)) w).alloc _).mono (S':=On bb) (by intro i hi h;omega)) (by omega) (fun b hb=>On.not' (by omega))) (by decide) rfl).mono ?_
 rintro e w1 ⟨⟨u1,rfl,hu1⟩,hK1⟩
 have sz1:w.heap.size≤w1.heap.size:=by have:=hK1.size;(try simp at this);omega
 have KT1:Kp (fun k=>k=bb∨k=(w.heap.size+1000000)) w w1:=((Kp.refl (fun k=>k=bb∨k=(w.heap.size+1000000)) w).alloc _).trans hK1 (by intro i hi h;first | exact (h:False).elim | omega)
 have hB1:=(HB0.out.on ((Kp.refl (On (w.heap.size+1000000)) w).alloc _) (by omega)).no hK1
 obtain ⟨xb1,x0,x1,x2,xs⟩:=box3 (newOf w _) hK1 (by exact id)
 have HX1:=hd_ xb1;clear xb1
 have k1:Kp (On bb) w w1:=KT1.mono (by intro i hi h;omega)
 have HK1:=hd_ k1;clear k1 KT1
 have HB1:=hd_ hB1;clear hB1 HB0
 have szw1:w.heap.size≤w1.heap.size:=by omega
 have HU1:=hd_ (hu1.below hK1 (by (try simp);omega) (fun _ _ h=>h.elim));clear hu1 hK1
 go_wp2_with fail
 refine (names_c _ B bb _ ns ((vsToks vs++l)) (HB1.out.on (Kp.refl (On (w.heap.size+1000000)) w1) (by omega)) (Nd.In_iff.1 HU1.out) hBb (by have:=HS.out;have:=Nd.sizeL_length (ns.map Nm.nd);simp at this;omega)).mono ?_
 rintro e w2 ⟨⟨v,vus,rfl,hv2a,hv2b⟩,hB2,hK2⟩
 have sz2:w1.heap.size≤w2.heap.size:=by have:=hK2.size;(try simp at this);omega
 have KT2:Kp (fun k=>k=bb∨k=(w.heap.size+1000000)) w1 w2:=(Kp.refl (fun k=>k=bb∨k=(w.heap.size+1000000)) w1).trans hK2 (by intro i hi h;first | exact (h:False).elim | omega)
 obtain ⟨xb2,x0,x1,x2,xs⟩:=box3 HX1.out KT2 (by omega)
 clear HX1
 have HX2:=hd_ xb2;clear xb2
 have k2:Kp (On bb) w w2:=HK1.out.trans KT2 (by intro i hi h;omega)
 clear HK1
 have HK2:=hd_ k2;clear k2 KT2
 have HB2:=hd_ hB2;clear hB2 HB1
 have szw2:w.heap.size≤w2.heap.size:=by omega
 clear hK2 HU1
 have hw2:NmL w2 (Fr (w1.heap.size)) ns v:=⟨vus,hv2a,hv2b⟩
 clear hv2a hv2b
 obtain ⟨np,nn,nc,rfl⟩:=hw2.form
 have HV2:=hd_ hw2;clear hw2
 go_wp2_with fail
 refine (kid_c _ B _ _ _ _ 1 (Nd.miss) (HL.out.below (HK2.out.trans ((Kp.refl (On w2.heap.size) w2).alloc _) (by intro i hi h;omega)) (by omega) (fun b hb=>On.not' (by omega))) (by decide) rfl).mono ?_
 rintro e w3 ⟨⟨u3,rfl,hu3⟩,hK3⟩
 have sz3:w2.heap.size≤w3.heap.size:=by have:=hK3.size;(try simp at this);omega
 have KT3:Kp (fun k=>k=bb∨k=w2.heap.size) w2 w3:=((Kp.refl (fun k=>k=bb∨k=w2.heap.size) w2).alloc _).trans hK3 (by intro i hi h;first | exact (h:False).elim | omega)
 have hB3:=(HB2.out.on ((Kp.refl (On w2.heap.size) w2).alloc _) (by omega)).no hK3
 obtain ⟨xb3,x0,x1,x2,xs⟩:=box3 HX2.out KT3 (by omega)
 clear HX2
 have HX3:=hd_ xb3;clear xb3
 have xk3:w3.heap[w2.heap.size]?=some (.cells #[.pointer none,(.slice np nn nc),.nilIface,.slice none 0 0,.pointer none] 121 (0,0)):=hK3.at (newOf w2 _) (by exact id)
 have z0:=cO xk3 0 _ rfl;have f0:=fO xk3 0
 have z1:=cO xk3 1 _ rfl;have f1:=fO xk3 1
 have z2:=cO xk3 2 _ rfl;have f2:=fO xk3 2
 have z3:=cO xk3 3 _ rfl;have f3:=fO xk3 3
 have z4:=cO xk3 4 _ rfl;have f4:=fO xk3 4
 have zs3:=ltb xk3
 have HP3:=hd_ xk3;clear xk3
 have HV2_3:NmL w3 (Av (w1.heap.size) (w2.heap.size)) ns (.slice np nn nc):=HV2.out.on KT3 (by intro b hb hF;omega)
 have HV2n3:=hd_ HV2_3;clear HV2_3 HV2
 have k3:Kp (On bb) w w3:=HK2.out.trans KT3 (by intro i hi h;omega)
 clear HK2
 have HK3:=hd_ k3;clear k3 KT3
 have HB3:=hd_ hB3;clear hB3 HB2
 have szw3:w.heap.size≤w3.heap.size:=by omega
 have HU3:=hd_ (hu3.below hK3 (by (try simp);omega) (fun _ _ h=>h.elim));clear hu3 hK3
 go_wp2_with fail
 refine (exprmiss_c _ _ _ _ _ rfl).mono ?_
 rintro e w4 ⟨rfl,hK4⟩
 have sz4:w3.heap.size≤w4.heap.size:=by have:=hK4.size;(try simp at this);omega
 have KT4:Kp (fun k=>k=bb∨k=w2.heap.size) w3 w4:=(Kp.refl (fun k=>k=bb∨k=w2.heap.size) w3).trans hK4 (by intro i hi h;first | exact (h:False).elim | omega)
 have hB4:=(HB3.out.on (Kp.refl (On w2.heap.size) w3) (by omega)).no hK4
 obtain ⟨xb4,x0,x1,x2,xs⟩:=box3 HX3.out KT4 (by omega)
 clear HX3
 have HX4:=hd_ xb4;clear xb4
 clear z0 f0 z1 f1 z2 f2 z3 f3 z4 f4
 have xk4:w4.heap[w2.heap.size]?=some (.cells #[.pointer none,(.slice np nn nc),.nilIface,.slice none 0 0,.pointer none] 121 (0,0)):=hK4.at HP3.out (by exact id)
 have z0:=cO xk4 0 _ rfl;have f0:=fO xk4 0
 have z1:=cO xk4 1 _ rfl;have f1:=fO xk4 1
 have z2:=cO xk4 2 _ rfl;have f2:=fO xk4 2
 have z3:=cO xk4 3 _ rfl;have f3:=fO xk4 3
 have z4:=cO xk4 4 _ rfl;have f4:=fO xk4 4
 have zs4:=ltb xk4
 have HP4:=hd_ xk4;clear xk4 HP3
 have HV2n3_4:NmL w4 (Av (w1.heap.size) (w2.heap.size)) ns (.slice np nn nc):=HV2n3.out.on KT4 (by intro b hb hF;omega)
 have HV2n3n4:=hd_ HV2n3_4;clear HV2n3_4 HV2n3
 have k4:Kp (On bb) w w4:=HK3.out.trans KT4 (by intro i hi h;omega)
 clear HK3
 have HK4:=hd_ k4;clear k4 KT4
 have HB4:=hd_ hB4;clear hB4 HB3
 have szw4:w.heap.size≤w4.heap.size:=by omega
 clear hK4 HU3
 go_wp2_with fail
 refine (kid_c _ B _ _ _ _ 2 (ls (vs.map fun v=>v.2.nd)) (HL.out.below (HK4.out.trans ((Kp.refl (On w2.heap.size) w4).setCell (p:=⟨w2.heap.size,2,none⟩) (fun _=>rfl) _) (by intro i hi h;omega)) (by omega) (fun b hb=>On.not' (by omega))) (by decide) rfl).mono ?_
 rintro e w5 ⟨⟨u5,rfl,hu5⟩,hK5⟩
 have sz5:w4.heap.size≤w5.heap.size:=by have:=hK5.size;(try simp at this);omega
 have KT5:Kp (fun k=>k=bb∨k=w2.heap.size) w4 w5:=((Kp.refl (fun k=>k=bb∨k=w2.heap.size) w4).setCell (p:=⟨w2.heap.size,2,none⟩) (fun _=>.inr rfl) _).trans hK5 (by intro i hi h;first | exact (h:False).elim | omega)
 have hB5:=(HB4.out.on ((Kp.refl (On w2.heap.size) w4).setCell (p:=⟨w2.heap.size,2,none⟩) (fun _=>rfl) _) (by omega)).no hK5
 obtain ⟨xb5,x0,x1,x2,xs⟩:=box3 HX4.out KT5 (by omega)
 clear HX4
 have HX5:=hd_ xb5;clear xb5
 clear z0 f0 z1 f1 z2 f2 z3 f3 z4 f4
 have xk5:w5.heap[w2.heap.size]?=some (.cells #[.pointer none,(.slice np nn nc),.nilIface,.slice none 0 0,.pointer none] 121 (0,0)):=hK5.at (setOf HP4.out 2 _) (by exact id)
 have z0:=cO xk5 0 _ rfl;have f0:=fO xk5 0
 have z1:=cO xk5 1 _ rfl;have f1:=fO xk5 1
 have z2:=cO xk5 2 _ rfl;have f2:=fO xk5 2
 have z3:=cO xk5 3 _ rfl;have f3:=fO xk5 3
 have z4:=cO xk5 4 _ rfl;have f4:=fO xk5 4
 have zs5:=ltb xk5
 have HP5:=hd_ xk5;clear xk5 HP4
 have HV2n3n4_5:NmL w5 (Av (w1.heap.size) (w2.heap.size)) ns (.slice np nn nc):=HV2n3n4.out.on KT5 (by intro b hb hF;omega)
 have HV2n3n4n5:=hd_ HV2n3n4_5;clear HV2n3n4_5 HV2n3n4
 have k5:Kp (On bb) w w5:=HK4.out.trans KT5 (by intro i hi h;omega)
 clear HK4
 have HK5:=hd_ k5;clear k5 KT5
 have HB5:=hd_ hB5;clear hB5 HB4
 have szw5:w.heap.size≤w5.heap.size:=by omega
 have HU5:=hd_ (hu5.below hK5 (by (try simp);omega) (fun _ _ h=>h.elim));clear hu5 hK5
 have hl:=Nd.In_iff.1 HU5.out
 simp only [ls,Nd.k,Nd.t,Nd.l] at hl ⊢
 obtain ⟨lp,lc,rfl,lcc,_⟩:=id hl
 simp only [lm_] at lcc
 have HLL:Hid (Ls w5 B (.slice lp (vs.map fun v=>v.2.nd).length lc) (vs.map fun v=>v.2.nd)):=hl;clear hl HU5
 rw [lm_]
 have hlen:vs.length≤400:=by have:=HS.out;have:=Nd.sizeL_length (vs.map fun v=>v.2.nd);simp at this;omega
 have HR:Hid (LR VlAt vsToks (fun z=>#[.pointer none,.slice np nn nc,.nilIface,z,.pointer none]) 121 94 w5 bb w2.heap.size vs l 0 w5):=⟨[],vs,[],.slice none 0 0,rfl,rfl,HP5.out,.inl ⟨rfl,rfl⟩,rfl,HB5.out,Kp.refl _ _⟩
 have hltx:bb < w2.heap.size:=by omega
 go_wp2_with fail
 go_loopw [57] (fun i wr=>∃ k:Nat,k≤vs.length∧i=.int .i64 k∧LR VlAt vsToks (fun z=>#[.pointer none,.slice np nn nc,.nilIface,z,.pointer none]) 121 94 w5 bb w2.heap.size vs (l) k wr) (fun i _=>vs.length - (intOf i).toNat)
 case atStart=>exact ⟨0,Nat.zero_le _,rfl,HR.out⟩
 case round =>
  obtain ⟨k,hk,rfl,hr⟩:=hrel
  by_cases hlt':k < vs.length
  ·obtain ⟨done,todo,us,v,hns,hk',hxk,hrow,hat,hbld,hkp⟩:=hr
   have hul:=hat.length
   obtain ⟨d,todo',rfl⟩:∃ n todo',todo=n::todo':=by
    cases todo with
    | nil=>rw [hns] at hlt';simp at hlt';omega
    | cons n t=>exact ⟨n,t,rfl⟩
   have hdm:d∈vs:=by rw [hns];simp
   have hsz:=hkp.size
   have hne:(vs.map fun v=>v.2.nd)[k]?=some d.2.nd:=by rw [hns,hk'];simp
   obtain ⟨b,oo,c',q,dd,he,_,hb,hi,h1,h2,h3,h4,h5⟩:=(HLL.out.below hkp (by omega) (fun b hb h=>by omega)).get hne
   cases he
   have H:Hid (vs=done++d::todo'∧k=done.length∧wr.heap[w2.heap.size]?=some (.cells ((fun z=>#[.pointer none,.slice np nn nc,.nilIface,z,.pointer none]) v) 121 (0,0))∧Row wr (Fr w5.heap.size) 94 v us∧LAt VlAt wr (Ex w5.heap.size v) done us∧Bld wr bb (vsToks (d::todo')++l)∧Kp (fun b=>b=bb∨b=w2.heap.size) w5 wr∧us.length=done.length∧d∈vs) :=
    ⟨hns,hk',hxk,hrow,hat,hbld,hkp,hul,hdm⟩
   have H4:=hd_ h4
   have HV:Hid (∀ bk,v.ownBlock=some bk→w5.heap.size≤bk∧bk < wr.heap.size):=by
    intro bk hb
    rcases hrow with ⟨rfl,_⟩ | ⟨g',cap',cur,rfl,hF,hg,_⟩
    ·simp [Value.ownBlock] at hb
    ·simp only [Value.ownBlock,Option.some.injEq] at hb
     subst hb
     exact ⟨hF,ltb hg⟩
   obtain ⟨vp,vc,rfl⟩:=hrow.form
   have xl:=ltb hxk
   clear hns hrow hat hbld hkp h4 hne hi hul hxk hdm x0 x1 x2 xs z0 f0 z1 f1 z2 f2 z3 f3 z4 f4
   clear hk'
   go_wp2_with fail
   refine (next_c _ bb d.1 (d.2.toks false++(vsToks todo'++l)) ?_).mono ?_
   ·have:=H.out.2.2.2.2.2.1
    simp only [vsToks,List.cons_append,aa_] at this
    exact this.on (xb:=wr.heap.size) ((Kp.refl (On wr.heap.size) wr).alloc _) (by omega)
   rintro e wa ⟨rfl,hB2,hK2⟩
   obtain ⟨yb,y0,y1,y2,ys⟩:=box3 (newOf wr _) hK2 (On.not (by omega))
   have KT:Kp (On bb) wr wa:=((Kp.refl (On bb) wr).alloc _).trans' hK2
   have z1:wa.cell? ⟨w2.heap.size,3,none⟩=some (.slice vp us.length vc):=cO (KT.at H.out.2.2.1 (by omega)) 3 _ rfl
   have f1:=fO (KT.at H.out.2.2.1 (by omega)) 3
   have H2:=a3_ hB2 KT yb
   clear hB2 hK2 KT yb
   go_wp2_with fail
   have sz2:=H2.out.2.1.size
   have FC0:=expr_c d.2 wa.drew B bb (.slice q d.2.nd.l.length dd) (vsToks todo'++l) (show Bld wa bb _ from H2.out.1) (show d.2.nd.In wa.drew B _ from (show d.2.nd.In wr B _ from H4.out).below H2.out.2.1.drew (by omega) (fun b hb h=>by omega)) hBb
    ((HO.out.2.2.2 d H.out.2.2.2.2.2.2.2.2).2) (Nat.le_trans (Nd.sizeL_mem (List.mem_map_of_mem (f:=fun v:Int × Ty=>v.2.nd) H.out.2.2.2.2.2.2.2.2)) (by have:=HS.out;omega))
   have FC:=hd_ FC0
   have n1:=World.new_ne wa _ z1
   have n2:=World.new_ne wa _ y0
   clear FC0
   go_region_law
    (first
      | (refine step_is_call 63 rfl ?_;go_simp;go_at_call 63;refine FC.out.mono ?_;rintro e wb ⟨⟨u,rfl,hu⟩,hB3,hK3⟩
         have sz3:wa.heap.size≤wb.heap.size:=hK3.size
         have zz1:wb.cell? ⟨w2.heap.size,3,none⟩=some (.slice vp us.length vc):=(hK3.cell (show w2.heap.size < wa.heap.size by omega) (by omega)).trans z1
         have yy0:wb.cell? ⟨wr.heap.size,0,none⟩=some (.string d.2.nd.k):=(hK3.cell (show wr.heap.size < wa.heap.size by omega) (by omega)).trans y0
         have yy1:wb.cell? ⟨wr.heap.size,1,none⟩=some (.string d.2.nd.t):=(hK3.cell (show wr.heap.size < wa.heap.size by omega) (by omega)).trans y1
         have yy2:wb.cell? ⟨wr.heap.size,2,none⟩=some (.slice q d.2.nd.l.length dd):=(hK3.cell (show wr.heap.size < wa.heap.size by omega) (by omega)).trans y2
         have ff1:wb.frozen? ⟨w2.heap.size,3,none⟩=false:=(hK3.frozen (show w2.heap.size < wa.heap.size by omega) (by omega)).trans f1
         have gg1:w2.heap.size < wb.heap.size:=by omega
         have gg2:wr.heap.size < wb.heap.size:=by omega
         have HR3:Hid (Row (wb.alloc (.cells #[.iface d.2.ty u] 94)) (Fr w5.heap.size) 94 (.slice vp us.length vc) us) :=
          Row.stay H.out.2.2.2.1 (fun i hi hF=>⟨(Below.heap_alloc wb _ _ (by omega)).trans ((hK3.block i (show i < wa.heap.size by omega) (by omega)).trans (H2.out.2.1.block i hi (by omega))),hF⟩)
         have HC3:=hd_ (cO (newOf wb (.cells #[.iface d.2.ty u] 94)) 0 _ rfl)
         have lw1:w2.heap.size < (wb.alloc (.cells #[.iface d.2.ty u] 94)).heap.size:=by rw [World.size_alloc];omega
         have lw2:wr.heap.size < (wb.alloc (.cells #[.iface d.2.ty u] 94)).heap.size:=by rw [World.size_alloc];omega
         have LW:=a2_ lw1 lw2
         clear lw1 lw2
         have zc1:=(World.cell?_alloc_past (w:=wb) (.cells #[.iface d.2.ty u] 94) w2.heap.size 3 (by omega)).trans zz1
         have yc0:=(World.cell?_alloc_past (w:=wb) (.cells #[.iface d.2.ty u] 94) wr.heap.size 0 (by omega)).trans yy0
         have yc1:=(World.cell?_alloc_past (w:=wb) (.cells #[.iface d.2.ty u] 94) wr.heap.size 1 (by omega)).trans yy1
         have yc2:=(World.cell?_alloc_past (w:=wb) (.cells #[.iface d.2.ty u] 94) wr.heap.size 2 (by omega)).trans yy2
         have fc1:=(World.frozen?_of_block (w:=wb) (a:=⟨w2.heap.size,3,none⟩) (Below.heap_alloc wb (.cells #[.iface d.2.ty u] 94) w2.heap.size (by omega))).trans ff1
         have HC:=a5_ zc1 yc0 yc1 yc2 fc1
         clear zc1 yc0 yc1 yc2 fc1
         have HN:Hid (us.length≤1048576):=(by have:=H.out.2.2.2.2.2.2.2.1;have:=H.out.2.1;omega:us.length≤1048576)
         have H3:=a3_ hu hB3 hK3
         clear hu hB3 hK3)
      | (refine step_is_append rfl ?_
         refine step_append_row (c:=1) (by rfl) (.tmp 67) (.tmp 71) 119 (by rfl) Tryz.underlying119 Tryz.type94 rfl rfl (by decide) rfl (by rfl) HR3.out (by rfl) HC3.out (by rfl) HN.out (wb.heap.size+1) (by simp) ?_
         intro g cap wc hrow4 hgrow4 hat4 hlt4
         have q1:some w2.heap.size≠(Value.slice vp us.length vc).ownBlock:=fun e=>by have:=(HV.out _ e.symm).1;omega
         have q2:some wr.heap.size≠(Value.slice vp us.length vc).ownBlock:=fun e=>by have:=(HV.out _ e.symm).2;omega
         have zw1:=(hgrow4.cell_far ⟨w2.heap.size,3,none⟩ LW.out.1 q1).trans HC.out.1
         have yw0:=(hgrow4.cell_far ⟨wr.heap.size,0,none⟩ LW.out.2 q2).trans HC.out.2.1
         have yw1:=(hgrow4.cell_far ⟨wr.heap.size,1,none⟩ LW.out.2 q2).trans HC.out.2.2.1
         have yw2:=(hgrow4.cell_far ⟨wr.heap.size,2,none⟩ LW.out.2 q2).trans HC.out.2.2.2.1
         have fw1:=(hgrow4.frozen_far ⟨w2.heap.size,3,none⟩ LW.out.1 q1).trans HC.out.2.2.2.2
         have H5:=a3_ hrow4 hgrow4 hat4
         clear hrow4 hgrow4 hat4 q1 q2))
   all_goals
    go_wp2
    go_roundw
    case rel =>
     refine ⟨k+1,by omega,by go_num,?_⟩
     exact LR.step VlAt.stay (fun _ _=>rfl) H.out.1 H.out.2.1 H.out.2.2.1 H.out.2.2.2.1 H.out.2.2.2.2.1 H.out.2.2.2.2.2.2.1 H3.out.2.1 (H2.out.2.1.drew.trans' H3.out.2.2) ⟨_,rfl,Ty.At.stay (Stay.of_kp (Kp.refl No _) (by intro b hb hF;exact ⟨id,Nat.le_trans sz2 hF⟩)) _ _ H3.out.1⟩ hltx (by omega) H5.out.1 H5.out.2.1 H5.out.2.2
    case measure=>simp [intOf];omega
  ·obtain ⟨done,todo,us,v,hns,hk',hxk,hrow,hat,hbld,hkp⟩:=hr
   have hto:todo=[]:=by
    cases todo with
    | nil=>rfl
    | cons n t=>rw [hns] at hlt';simp at hlt';omega
   subst hto
   rw [List.append_nil] at hns
   subst hns
   simp only [vsToks,List.nil_append] at hbld
   have hsz:=hkp.size
   have H:=a5_ hxk hrow hat hbld hkp
   clear hrow hat hbld hkp hk' hxk x0 x1 x2
   go_wp2_with fail
   go_ret
   obtain ⟨hxk,hrow,hat,hbld,hkp⟩:=H.out
   refine ⟨⟨_,rfl,?_⟩,hbld,HK5.out.trans hkp (by intro i hi h;omega)⟩
   obtain ⟨nus,hn1,hn2⟩:=HV2n3n4n5.out.on (F':=Fr w.heap.size) hkp (by intro b hb hF;omega)
   refine ⟨_,nus,_,v,us,⟨_,rfl,by omega,hxk⟩,hn1,hn2,?_,hrow.stay (Stay.of_kp (Kp.refl No _) fun b hb hF=>⟨id,by omega⟩),LAt.stay (VlAt.stay (Stay.of_kp (Kp.refl No _) fun b hb hF=>⟨id,by have:=hF.1;omega⟩)) _ _ hat⟩
   rfl
theorem valuet_c (ns:List Nm) (t:Ty) (vs:List (Int × Ty)):ItemP (.value ns (some t) vs):=by
 intro w B bb s l hB hn hBb hok hsz
 simp [It.toks,tyToks] at hB
 simp only [It.ok] at hok
 simp [It.nd,ls,tyOpt,Nd.miss,Nd.size,Nd.sizeL] at hsz
 have hlt:=hB.lt
 have HB0:=hd_ hB
 obtain ⟨q,c0,rfl,_⟩:=hn.form
 have HL:=hd_ (Nd.In_iff.1 hn)
 have HO:=hd_ hok
 have HS:=hd_ hsz
 simp [It.nd,tyOpt,Nd.k,Nd.t,Nd.l] at HL ⊢
 clear hn hB hok hsz
 go_enter Tryz.func45,Tryz.ntmps45
 go_wp2_with fail
 refine (kid_c _ B _ _ _ _ 0 (ls (ns.map Nm.nd)) (HL.out.below (((Kp.refl (On (w.heap.size+1000000)) w).alloc _).mono (S':=On bb) (by intro i hi h;omega)) (by omega) (fun b hb=>On.not' (by omega))) (by decide) rfl).mono ?_
 rintro e w1 ⟨⟨u1,rfl,hu1⟩,hK1⟩
 have sz1:w.heap.size≤w1.heap.size:=by have:=hK1.size;(try simp at this);omega
 have KT1:Kp (fun k=>k=bb∨k=(w.heap.size+1000000)) w w1:=((Kp.refl (fun k=>k=bb∨k=(w.heap.size+1000000)) w).alloc _).trans hK1 (by intro i hi h;first | exact (h:False).elim | omega)
 have hB1:=(HB0.out.on ((Kp.refl (On (w.heap.size+1000000)) w).alloc _) (by omega)).no hK1
 obtain ⟨xb1,x0,x1,x2,xs⟩:=box3 (newOf w _) hK1 (by exact id)
 have HX1:=hd_ xb1;clear xb1
 have k1:Kp (On bb) w w1:=KT1.mono (by intro i hi h;omega)
 have HK1:=hd_ k1;clear k1 KT1
 have HB1:=hd_ hB1;clear hB1 HB0
 have szw1:w.heap.size≤w1.heap.size:=by omega
 have HU1:=hd_ (hu1.below hK1 (by (try simp);omega) (fun _ _ h=>h.elim));clear hu1 hK1
 go_wp2_with fail
 refine (names_c _ B bb _ ns (t.toks false++(vsToks vs++l)) (HB1.out.on (Kp.refl (On (w.heap.size+1000000)) w1) (by omega)) (Nd.In_iff.1 HU1.out) hBb (by have:=HS.out;have:=Nd.sizeL_length (ns.map Nm.nd);simp at this;omega)).mono ?_
 rintro e w2 ⟨⟨v,vus,rfl,hv2a,hv2b⟩,hB2,hK2⟩
 have sz2:w1.heap.size≤w2.heap.size:=by have:=hK2.size;(try simp at this);omega
 have KT2:Kp (fun k=>k=bb∨k=(w.heap.size+1000000)) w1 w2:=(Kp.refl (fun k=>k=bb∨k=(w.heap.size+1000000)) w1).trans hK2 (by intro i hi h;first | exact (h:False).elim | omega)
 obtain ⟨xb2,x0,x1,x2,xs⟩:=box3 HX1.out KT2 (by omega)
 clear HX1
 have HX2:=hd_ xb2;clear xb2
 have k2:Kp (On bb) w w2:=HK1.out.trans KT2 (by intro i hi h;omega)
 clear HK1
 have HK2:=hd_ k2;clear k2 KT2
 have HB2:=hd_ hB2;clear hB2 HB1
 have szw2:w.heap.size≤w2.heap.size:=by omega
 clear hK2 HU1
 have hw2:NmL w2 (Fr (w1.heap.size)) ns v:=⟨vus,hv2a,hv2b⟩
 clear hv2a hv2b
 obtain ⟨np,nn,nc,rfl⟩:=hw2.form
 have HV2:=hd_ hw2;clear hw2
 go_wp2_with fail
 refine (kid_c _ B _ _ _ _ 1 (t.nd) (HL.out.below (HK2.out.trans ((Kp.refl (On w2.heap.size) w2).alloc _) (by intro i hi h;omega)) (by omega) (fun b hb=>On.not' (by omega))) (by decide) rfl).mono ?_
 rintro e w3 ⟨⟨u3,rfl,hu3⟩,hK3⟩
 have sz3:w2.heap.size≤w3.heap.size:=by have:=hK3.size;(try simp at this);omega
 have KT3:Kp (fun k=>k=bb∨k=w2.heap.size) w2 w3:=((Kp.refl (fun k=>k=bb∨k=w2.heap.size) w2).alloc _).trans hK3 (by intro i hi h;first | exact (h:False).elim | omega)
 have hB3:=(HB2.out.on ((Kp.refl (On w2.heap.size) w2).alloc _) (by omega)).no hK3
 obtain ⟨xb3,x0,x1,x2,xs⟩:=box3 HX2.out KT3 (by omega)
 clear HX2
 have HX3:=hd_ xb3;clear xb3
 have xk3:w3.heap[w2.heap.size]?=some (.cells #[.pointer none,(.slice np nn nc),.nilIface,.slice none 0 0,.pointer none] 121 (0,0)):=hK3.at (newOf w2 _) (by exact id)
 have z0:=cO xk3 0 _ rfl;have f0:=fO xk3 0
 have z1:=cO xk3 1 _ rfl;have f1:=fO xk3 1
 have z2:=cO xk3 2 _ rfl;have f2:=fO xk3 2
 have z3:=cO xk3 3 _ rfl;have f3:=fO xk3 3
 have z4:=cO xk3 4 _ rfl;have f4:=fO xk3 4
 have zs3:=ltb xk3
 have HP3:=hd_ xk3;clear xk3
 have HV2_3:NmL w3 (Av (w1.heap.size) (w2.heap.size)) ns (.slice np nn nc):=HV2.out.on KT3 (by intro b hb hF;omega)
 have HV2n3:=hd_ HV2_3;clear HV2_3 HV2
 have k3:Kp (On bb) w w3:=HK2.out.trans KT3 (by intro i hi h;omega)
 clear HK2
 have HK3:=hd_ k3;clear k3 KT3
 have HB3:=hd_ hB3;clear hB3 HB2
 have szw3:w.heap.size≤w3.heap.size:=by omega
 have HU3:=hd_ (hu3.below hK3 (by (try simp);omega) (fun _ _ h=>h.elim));clear hu3 hK3
 have HE:=hd_ (expr_c t)
 go_wp2_with fail
 refine (HE.out _ B bb _ (vsToks vs++l) (HB3.out.on (Kp.refl (On w2.heap.size) w3) (by omega)) HU3.out hBb (HO.out.2.2.1 t rfl) (by have:=HS.out;omega)).mono ?_
 rintro e w4 ⟨⟨x,rfl,hv4⟩,hB4,hK4⟩
 have sz4:w3.heap.size≤w4.heap.size:=by have:=hK4.size;(try simp at this);omega
 have KT4:Kp (fun k=>k=bb∨k=w2.heap.size) w3 w4:=(Kp.refl (fun k=>k=bb∨k=w2.heap.size) w3).trans hK4 (by intro i hi h;first | exact (h:False).elim | omega)
 obtain ⟨xb4,x0,x1,x2,xs⟩:=box3 HX3.out KT4 (by omega)
 clear HX3
 have HX4:=hd_ xb4;clear xb4
 clear z0 f0 z1 f1 z2 f2 z3 f3 z4 f4
 have xk4:w4.heap[w2.heap.size]?=some (.cells #[.pointer none,(.slice np nn nc),.nilIface,.slice none 0 0,.pointer none] 121 (0,0)):=hK4.at HP3.out (by exact On.not (by omega))
 have z0:=cO xk4 0 _ rfl;have f0:=fO xk4 0
 have z1:=cO xk4 1 _ rfl;have f1:=fO xk4 1
 have z2:=cO xk4 2 _ rfl;have f2:=fO xk4 2
 have z3:=cO xk4 3 _ rfl;have f3:=fO xk4 3
 have z4:=cO xk4 4 _ rfl;have f4:=fO xk4 4
 have zs4:=ltb xk4
 have HP4:=hd_ xk4;clear xk4 HP3
 have HV2n3_4:NmL w4 (Av (w1.heap.size) (w2.heap.size)) ns (.slice np nn nc):=HV2n3.out.on KT4 (by intro b hb hF;omega)
 have HV2n3n4:=hd_ HV2n3_4;clear HV2n3_4 HV2n3
 have hw4:Ty.At w4 (Av (w3.heap.size) (w2.heap.size)) t x:=hv4.on (Kp.refl No _) (by intro b hb hF;(try simp at hF);exact ⟨id,by omega⟩)
 clear hv4
 have HV4:=hd_ hw4;clear hw4
 have k4:Kp (On bb) w w4:=HK3.out.trans KT4 (by intro i hi h;omega)
 clear HK3
 have HK4:=hd_ k4;clear k4 KT4
 have HB4:=hd_ hB4;clear hB4 HB3
 have szw4:w.heap.size≤w4.heap.size:=by omega
 clear hK4 HU3
 go_wp2_with fail
 refine (kid_c _ B _ _ _ _ 2 (ls (vs.map fun v=>v.2.nd)) (HL.out.below (HK4.out.trans ((Kp.refl (On w2.heap.size) w4).setCell (p:=⟨w2.heap.size,2,none⟩) (fun _=>rfl) _) (by intro i hi h;omega)) (by omega) (fun b hb=>On.not' (by omega))) (by decide) rfl).mono ?_
 rintro e w5 ⟨⟨u5,rfl,hu5⟩,hK5⟩
 have sz5:w4.heap.size≤w5.heap.size:=by have:=hK5.size;(try simp at this);omega
 have KT5:Kp (fun k=>k=bb∨k=w2.heap.size) w4 w5:=((Kp.refl (fun k=>k=bb∨k=w2.heap.size) w4).setCell (p:=⟨w2.heap.size,2,none⟩) (fun _=>.inr rfl) _).trans hK5 (by intro i hi h;first | exact (h:False).elim | omega)
 have hB5:=(HB4.out.on ((Kp.refl (On w2.heap.size) w4).setCell (p:=⟨w2.heap.size,2,none⟩) (fun _=>rfl) _) (by omega)).no hK5
 obtain ⟨xb5,x0,x1,x2,xs⟩:=box3 HX4.out KT5 (by omega)
 clear HX4
 have HX5:=hd_ xb5;clear xb5
 clear z0 f0 z1 f1 z2 f2 z3 f3 z4 f4
 have xk5:w5.heap[w2.heap.size]?=some (.cells #[.pointer none,(.slice np nn nc),.iface t.ty x,.slice none 0 0,.pointer none] 121 (0,0)):=hK5.at (setOf HP4.out 2 _) (by exact id)
 have z0:=cO xk5 0 _ rfl;have f0:=fO xk5 0
 have z1:=cO xk5 1 _ rfl;have f1:=fO xk5 1
 have z2:=cO xk5 2 _ rfl;have f2:=fO xk5 2
 have z3:=cO xk5 3 _ rfl;have f3:=fO xk5 3
 have z4:=cO xk5 4 _ rfl;have f4:=fO xk5 4
 have zs5:=ltb xk5
 have HP5:=hd_ xk5;clear xk5 HP4
 have HV2n3n4_5:NmL w5 (Av (w1.heap.size) (w2.heap.size)) ns (.slice np nn nc):=HV2n3n4.out.on KT5 (by intro b hb hF;omega)
 have HV2n3n4n5:=hd_ HV2n3n4_5;clear HV2n3n4_5 HV2n3n4
 have HV4_5:Ty.At w5 (Av (w3.heap.size) (w2.heap.size)) t x:=HV4.out.on KT5 (by intro b hb hF;omega)
 have HV4n5:=hd_ HV4_5;clear HV4_5 HV4
 have k5:Kp (On bb) w w5:=HK4.out.trans KT5 (by intro i hi h;omega)
 clear HK4
 have HK5:=hd_ k5;clear k5 KT5
 have HB5:=hd_ hB5;clear hB5 HB4
 have szw5:w.heap.size≤w5.heap.size:=by omega
 have HU5:=hd_ (hu5.below hK5 (by (try simp);omega) (fun _ _ h=>h.elim));clear hu5 hK5
 have hl:=Nd.In_iff.1 HU5.out
 simp only [ls,Nd.k,Nd.t,Nd.l] at hl ⊢
 obtain ⟨lp,lc,rfl,lcc,_⟩:=id hl
 simp only [lm_] at lcc
 have HLL:Hid (Ls w5 B (.slice lp (vs.map fun v=>v.2.nd).length lc) (vs.map fun v=>v.2.nd)):=hl;clear hl HU5
 rw [lm_]
 have hlen:vs.length≤400:=by have:=HS.out;have:=Nd.sizeL_length (vs.map fun v=>v.2.nd);simp at this;omega
 have HR:Hid (LR VlAt vsToks (fun z=>#[.pointer none,.slice np nn nc,.iface t.ty x,z,.pointer none]) 121 94 w5 bb w2.heap.size vs l 0 w5):=⟨[],vs,[],.slice none 0 0,rfl,rfl,HP5.out,.inl ⟨rfl,rfl⟩,rfl,HB5.out,Kp.refl _ _⟩
 have hltx:bb < w2.heap.size:=by omega
 go_wp2_with fail
 go_loopw [57] (fun i wr=>∃ k:Nat,k≤vs.length∧i=.int .i64 k∧LR VlAt vsToks (fun z=>#[.pointer none,.slice np nn nc,.iface t.ty x,z,.pointer none]) 121 94 w5 bb w2.heap.size vs (l) k wr) (fun i _=>vs.length - (intOf i).toNat)
 case atStart=>exact ⟨0,Nat.zero_le _,rfl,HR.out⟩
 case round =>
  obtain ⟨k,hk,rfl,hr⟩:=hrel
  by_cases hlt':k < vs.length
  ·obtain ⟨done,todo,us,v,hns,hk',hxk,hrow,hat,hbld,hkp⟩:=hr
   have hul:=hat.length
   obtain ⟨d,todo',rfl⟩:∃ n todo',todo=n::todo':=by
    cases todo with
    | nil=>rw [hns] at hlt';simp at hlt';omega
    | cons n t=>exact ⟨n,t,rfl⟩
   have hdm:d∈vs:=by rw [hns];simp
   have hsz:=hkp.size
   have hne:(vs.map fun v=>v.2.nd)[k]?=some d.2.nd:=by rw [hns,hk'];simp
   obtain ⟨b,oo,c',q,dd,he,_,hb,hi,h1,h2,h3,h4,h5⟩:=(HLL.out.below hkp (by omega) (fun b hb h=>by omega)).get hne
   cases he
   have H:Hid (vs=done++d::todo'∧k=done.length∧wr.heap[w2.heap.size]?=some (.cells ((fun z=>#[.pointer none,.slice np nn nc,.iface t.ty x,z,.pointer none]) v) 121 (0,0))∧Row wr (Fr w5.heap.size) 94 v us∧LAt VlAt wr (Ex w5.heap.size v) done us∧Bld wr bb (vsToks (d::todo')++l)∧Kp (fun b=>b=bb∨b=w2.heap.size) w5 wr∧us.length=done.length∧d∈vs) :=
    ⟨hns,hk',hxk,hrow,hat,hbld,hkp,hul,hdm⟩
   have H4:=hd_ h4
   have HV:Hid (∀ bk,v.ownBlock=some bk→w5.heap.size≤bk∧bk < wr.heap.size):=by
    intro bk hb
    rcases hrow with ⟨rfl,_⟩ | ⟨g',cap',cur,rfl,hF,hg,_⟩
    ·simp [Value.ownBlock] at hb
    ·simp only [Value.ownBlock,Option.some.injEq] at hb
     subst hb
     exact ⟨hF,ltb hg⟩
   obtain ⟨vp,vc,rfl⟩:=hrow.form
   have xl:=ltb hxk
   clear hns hrow hat hbld hkp h4 hne hi hul hxk hdm x0 x1 x2 xs z0 f0 z1 f1 z2 f2 z3 f3 z4 f4
   clear hk'
   go_wp2_with fail
   refine (next_c _ bb d.1 (d.2.toks false++(vsToks todo'++l)) ?_).mono ?_
   ·have:=H.out.2.2.2.2.2.1
    simp only [vsToks,List.cons_append,aa_] at this
    exact this.on (xb:=wr.heap.size) ((Kp.refl (On wr.heap.size) wr).alloc _) (by omega)
   rintro e wa ⟨rfl,hB2,hK2⟩
   obtain ⟨yb,y0,y1,y2,ys⟩:=box3 (newOf wr _) hK2 (On.not (by omega))
   have KT:Kp (On bb) wr wa:=((Kp.refl (On bb) wr).alloc _).trans' hK2
   have z1:wa.cell? ⟨w2.heap.size,3,none⟩=some (.slice vp us.length vc):=cO (KT.at H.out.2.2.1 (by omega)) 3 _ rfl
   have f1:=fO (KT.at H.out.2.2.1 (by omega)) 3
   have H2:=a3_ hB2 KT yb
   clear hB2 hK2 KT yb
   go_wp2_with fail
   have sz2:=H2.out.2.1.size
   have FC0:=expr_c d.2 wa.drew B bb (.slice q d.2.nd.l.length dd) (vsToks todo'++l) (show Bld wa bb _ from H2.out.1) (show d.2.nd.In wa.drew B _ from (show d.2.nd.In wr B _ from H4.out).below H2.out.2.1.drew (by omega) (fun b hb h=>by omega)) hBb
    ((HO.out.2.2.2 d H.out.2.2.2.2.2.2.2.2).2) (Nat.le_trans (Nd.sizeL_mem (List.mem_map_of_mem (f:=fun v:Int × Ty=>v.2.nd) H.out.2.2.2.2.2.2.2.2)) (by have:=HS.out;omega))
   have FC:=hd_ FC0
   have n1:=World.new_ne wa _ z1
   have n2:=World.new_ne wa _ y0
   clear FC0
   go_region_law
    (first
      | (refine step_is_call 63 rfl ?_;go_simp;go_at_call 63;refine FC.out.mono ?_;rintro e wb ⟨⟨u,rfl,hu⟩,hB3,hK3⟩
         have sz3:wa.heap.size≤wb.heap.size:=hK3.size
         have zz1:wb.cell? ⟨w2.heap.size,3,none⟩=some (.slice vp us.length vc):=(hK3.cell (show w2.heap.size < wa.heap.size by omega) (by omega)).trans z1
         have yy0:wb.cell? ⟨wr.heap.size,0,none⟩=some (.string d.2.nd.k):=(hK3.cell (show wr.heap.size < wa.heap.size by omega) (by omega)).trans y0
         have yy1:wb.cell? ⟨wr.heap.size,1,none⟩=some (.string d.2.nd.t):=(hK3.cell (show wr.heap.size < wa.heap.size by omega) (by omega)).trans y1
         have yy2:wb.cell? ⟨wr.heap.size,2,none⟩=some (.slice q d.2.nd.l.length dd):=(hK3.cell (show wr.heap.size < wa.heap.size by omega) (by omega)).trans y2
         have ff1:wb.frozen? ⟨w2.heap.size,3,none⟩=false:=(hK3.frozen (show w2.heap.size < wa.heap.size by omega) (by omega)).trans f1
         have gg1:w2.heap.size < wb.heap.size:=by omega
         have gg2:wr.heap.size < wb.heap.size:=by omega
         have HR3:Hid (Row (wb.alloc (.cells #[.iface d.2.ty u] 94)) (Fr w5.heap.size) 94 (.slice vp us.length vc) us) :=
          Row.stay H.out.2.2.2.1 (fun i hi hF=>⟨(Below.heap_alloc wb _ _ (by omega)).trans ((hK3.block i (show i < wa.heap.size by omega) (by omega)).trans (H2.out.2.1.block i hi (by omega))),hF⟩)
         have HC3:=hd_ (cO (newOf wb (.cells #[.iface d.2.ty u] 94)) 0 _ rfl)
         have lw1:w2.heap.size < (wb.alloc (.cells #[.iface d.2.ty u] 94)).heap.size:=by rw [World.size_alloc];omega
         have lw2:wr.heap.size < (wb.alloc (.cells #[.iface d.2.ty u] 94)).heap.size:=by rw [World.size_alloc];omega
         have LW:=a2_ lw1 lw2
         clear lw1 lw2
         have zc1:=(World.cell?_alloc_past (w:=wb) (.cells #[.iface d.2.ty u] 94) w2.heap.size 3 (by omega)).trans zz1
         have yc0:=(World.cell?_alloc_past (w:=wb) (.cells #[.iface d.2.ty u] 94) wr.heap.size 0 (by omega)).trans yy0
         have yc1:=(World.cell?_alloc_past (w:=wb) (.cells #[.iface d.2.ty u] 94) wr.heap.size 1 (by omega)).trans yy1
         have yc2:=(World.cell?_alloc_past (w:=wb) (.cells #[.iface d.2.ty u] 94) wr.heap.size 2 (by omega)).trans yy2
         have fc1:=(World.frozen?_of_block (w:=wb) (a:=⟨w2.heap.size,3,none⟩) (Below.heap_alloc wb (.cells #[.iface d.2.ty u] 94) w2.heap.size (by omega))).trans ff1
         have HC:=a5_ zc1 yc0 yc1 yc2 fc1
         clear zc1 yc0 yc1 yc2 fc1
         have HN:Hid (us.length≤1048576):=(by have:=H.out.2.2.2.2.2.2.2.1;have:=H.out.2.1;omega:us.length≤1048576)
         have H3:=a3_ hu hB3 hK3
         clear hu hB3 hK3)
      | (refine step_is_append rfl ?_
         refine step_append_row (c:=1) (by rfl) (.tmp 67) (.tmp 71) 119 (by rfl) Tryz.underlying119 Tryz.type94 rfl rfl (by decide) rfl (by rfl) HR3.out (by rfl) HC3.out (by rfl) HN.out (wb.heap.size+1) (by simp) ?_
         intro g cap wc hrow4 hgrow4 hat4 hlt4
         have q1:some w2.heap.size≠(Value.slice vp us.length vc).ownBlock:=fun e=>by have:=(HV.out _ e.symm).1;omega
         have q2:some wr.heap.size≠(Value.slice vp us.length vc).ownBlock:=fun e=>by have:=(HV.out _ e.symm).2;omega
         have zw1:=(hgrow4.cell_far ⟨w2.heap.size,3,none⟩ LW.out.1 q1).trans HC.out.1
         have yw0:=(hgrow4.cell_far ⟨wr.heap.size,0,none⟩ LW.out.2 q2).trans HC.out.2.1
         have yw1:=(hgrow4.cell_far ⟨wr.heap.size,1,none⟩ LW.out.2 q2).trans HC.out.2.2.1
         have yw2:=(hgrow4.cell_far ⟨wr.heap.size,2,none⟩ LW.out.2 q2).trans HC.out.2.2.2.1
         have fw1:=(hgrow4.frozen_far ⟨w2.heap.size,3,none⟩ LW.out.1 q1).trans HC.out.2.2.2.2
         have H5:=a3_ hrow4 hgrow4 hat4
         clear hrow4 hgrow4 hat4 q1 q2))
   all_goals
    go_wp2
    go_roundw
    case rel =>
     refine ⟨k+1,by omega,by go_num,?_⟩
     exact LR.step VlAt.stay (fun _ _=>rfl) H.out.1 H.out.2.1 H.out.2.2.1 H.out.2.2.2.1 H.out.2.2.2.2.1 H.out.2.2.2.2.2.2.1 H3.out.2.1 (H2.out.2.1.drew.trans' H3.out.2.2) ⟨_,rfl,Ty.At.stay (Stay.of_kp (Kp.refl No _) (by intro b hb hF;exact ⟨id,Nat.le_trans sz2 hF⟩)) _ _ H3.out.1⟩ hltx (by omega) H5.out.1 H5.out.2.1 H5.out.2.2
    case measure=>simp [intOf];omega
  ·obtain ⟨done,todo,us,v,hns,hk',hxk,hrow,hat,hbld,hkp⟩:=hr
   have hto:todo=[]:=by
    cases todo with
    | nil=>rfl
    | cons n t=>rw [hns] at hlt';simp at hlt';omega
   subst hto
   rw [List.append_nil] at hns
   subst hns
   simp only [vsToks,List.nil_append] at hbld
   have hsz:=hkp.size
   have H:=a5_ hxk hrow hat hbld hkp
   clear hrow hat hbld hkp hk' hxk x0 x1 x2
   go_wp2_with fail
   go_ret
   obtain ⟨hxk,hrow,hat,hbld,hkp⟩:=H.out
   refine ⟨⟨_,rfl,?_⟩,hbld,HK5.out.trans hkp (by intro i hi h;omega)⟩
   obtain ⟨nus,hn1,hn2⟩:=HV2n3n4n5.out.on (F':=Fr w.heap.size) hkp (by intro b hb hF;omega)
   refine ⟨_,nus,_,v,us,⟨_,rfl,by omega,hxk⟩,hn1,hn2,?_,hrow.stay (Stay.of_kp (Kp.refl No _) fun b hb hF=>⟨id,by omega⟩),LAt.stay (VlAt.stay (Stay.of_kp (Kp.refl No _) fun b hb hF=>⟨id,by have:=hF.1;omega⟩)) _ _ hat⟩
   exact ⟨_,rfl,HV4n5.out.on (F':=Fr w.heap.size) hkp (by intro b hb hF;omega)⟩
end
section
open Go Go.RowKit
def tokTab:List ByteArray:=[⟨#[73,76,76,69,71,65,76]⟩,⟨#[69,79,70]⟩,⟨#[67,79,77,77,69,78,84]⟩,⟨#[]⟩,⟨#[73,68,69,78,84]⟩,⟨#[73,78,84]⟩,⟨#[70,76,79,65,84]⟩,⟨#[73,77,65,71]⟩,⟨#[67,72,65,82]⟩,⟨#[83,84,82,73,78,71]⟩,⟨#[]⟩,⟨#[]⟩,⟨#[43]⟩,⟨#[45]⟩,⟨#[42]⟩,⟨#[47]⟩,⟨#[37]⟩,⟨#[38]⟩,⟨#[124]⟩,⟨#[94]⟩,⟨#[60,60]⟩,⟨#[62,62]⟩,⟨#[38,94]⟩,⟨#[43,61]⟩,⟨#[45,61]⟩,⟨#[42,61]⟩,⟨#[47,61]⟩,⟨#[37,61]⟩,⟨#[38,61]⟩,⟨#[124,61]⟩,⟨#[94,61]⟩,⟨#[60,60,61]⟩,⟨#[62,62,61]⟩,⟨#[38,94,61]⟩,⟨#[38,38]⟩,⟨#[124,124]⟩,⟨#[60,45]⟩,⟨#[43,43]⟩,⟨#[45,45]⟩,⟨#[61,61]⟩,⟨#[60]⟩,⟨#[62]⟩,⟨#[61]⟩,⟨#[33]⟩,⟨#[33,61]⟩,⟨#[60,61]⟩,⟨#[62,61]⟩,⟨#[58,61]⟩,⟨#[46,46,46]⟩,⟨#[40]⟩,⟨#[91]⟩,⟨#[123]⟩,⟨#[44]⟩,⟨#[46]⟩,⟨#[41]⟩,⟨#[93]⟩,⟨#[125]⟩,⟨#[59]⟩,⟨#[58]⟩,⟨#[]⟩,⟨#[]⟩,⟨#[98,114,101,97,107]⟩,⟨#[99,97,115,101]⟩,⟨#[99,104,97,110]⟩,⟨#[99,111,110,115,116]⟩,⟨#[99,111,110,116,105,110,117,101]⟩,⟨#[100,101,102,97,117,108,116]⟩,⟨#[100,101,102,101,114]⟩,⟨#[101,108,115,101]⟩,⟨#[102,97,108,108,116,104,114,111,117,103,104]⟩,⟨#[102,111,114]⟩,⟨#[102,117,110,99]⟩,⟨#[103,111]⟩,⟨#[103,111,116,111]⟩,⟨#[105,102]⟩,⟨#[105,109,112,111,114,116]⟩,⟨#[105,110,116,101,114,102,97,99,101]⟩,⟨#[109,97,112]⟩,⟨#[112,97,99,107,97,103,101]⟩,⟨#[114,97,110,103,101]⟩,⟨#[114,101,116,117,114,110]⟩,⟨#[115,101,108,101,99,116]⟩,⟨#[115,116,114,117,99,116]⟩,⟨#[115,119,105,116,99,104]⟩,⟨#[116,121,112,101]⟩,⟨#[118,97,114]⟩,⟨#[]⟩,⟨#[]⟩,⟨#[126]⟩]
def tokS (k:Nat):ByteArray:=tokTab.getD k ⟨#[]⟩
def Tok (w:World):Prop:=∀ k,k < 89→w.cell? ⟨0,k,none⟩=some (.string (tokS k))
theorem Tok.stay {w w':World} {S:Nat→Prop} (h:Tok w) (hk:Kp S w w') (h0:¬ S 0):Tok w':=fun k hl =>
 (hk.cell (Nat.pos_of_ne_zero (fun e=>by have:=World.block_lt_of_cell? w _ (h k hl);simp at this;omega)) h0).trans (h k hl)
theorem tokstr_c (w:World) (k:Nat) (s:ByteArray) (h:w.cell? ⟨0,k,none⟩=some (.string s)) (hk:k < 89) (hs:s.size≠0) :
 Calls Tryz.prog 60 #[.int .i64 k] w fun e w'=>e=.returned (.string s)∧Kp No w w':=by
 have hn:=World.block_lt_of_cell? w _ h
 obtain ⟨s1,s2⟩:=bs_ne hs
 go_enter Tryz.func60,Tryz.ntmps60
 go_wp2_with fail
 go_ret
 exact ⟨rfl,Kp.refl No _⟩
theorem tokS_at:∀ wd:Wd,tokS wd.tok=wd.word∧61≤wd.tok∧wd.tok < 88∧wd.word.size≠0:=by
 intro wd;cases wd <;> decide
theorem tokS_before:∀ (wd:Wd) (k:Nat),61≤k→k < wd.tok→(tokS k).size≠0∧decide (tokS k=wd.word)=false:=by
 have h:∀ wd:Wd,∀ j:Fin 25,61+j.val < wd.tok→(tokS (61+j.val)).size≠0∧decide (tokS (61+j.val)=wd.word)=false:=by
  intro wd;cases wd <;> decide
 intro wd k h1 h2
 have h3:wd.tok≤85:=by cases wd <;> decide
 have:=h wd ⟨k - 61,by omega⟩ (by simp only;omega)
 simpa [show 61+(k - 61)=k by omega] using this
theorem bs_list_ne {t s:ByteArray} (h:decide (t=s)=false):(t.toList == s.toList)=false:=by
 have h':¬ t=s:=by simpa using h
 simp only [beq_eq_false_iff_ne,ne_eq]
 intro e
 rw [ByteArray.toList_eq,ByteArray.toList_eq] at e
 exact h' (ByteArray.ext (Array.ext' e))
theorem word_c (w:World) (wd:Wd) (h:Tok w):Calls Tryz.prog 44 #[.string wd.word] w fun e w'=>e=.returned (.int .i64 wd.tok)∧Kp No w w':=by
 obtain ⟨e1,e2,e3,e4⟩:=tokS_at wd
 have H:Hid (Tok w):=h
 clear h
 generalize hs:wd.word=s at *
 generalize hn:wd.tok=n at *
 go_enter Tryz.func44,Tryz.ntmps44
 go_wp2_with fail
 go_loopw [3] (fun i wr=>∃ k:Nat,61≤k∧k≤n∧i=.int .i64 k∧Kp No w wr) (fun i _=>n - (intOf i).toNat)
 case atStart=>exact ⟨61,by omega,by omega,rfl,Kp.refl No _⟩
 case round =>
  obtain ⟨k,hk1,hk2,rfl,hkp⟩:=hrel
  have HK:=hd_ hkp
  have ht:=(H.out.stay hkp id) k (by omega)
  clear hkp
  by_cases hk:k < n
  ·obtain ⟨h1,h2⟩:=tokS_before wd k hk1 (by omega)
   rw [hs] at h2
   have h3:=bs_list_ne h2
   clear h2
   go_wp2_with fail
   refine (tokstr_c _ k _ ht (by omega) h1).mono ?_
   rintro e w1 ⟨rfl,hK1⟩
   have HK1:=hd_ (HK.out.no hK1)
   clear hK1
   go_wp2_with fail
   exact ⟨⟨k+1,by omega,by omega,by go_num,HK1.out⟩,by simp [intOf];omega⟩
  ·obtain rfl:k=n:=by omega
   rw [e1] at ht
   go_wp2_with fail
   refine (tokstr_c _ k _ ht (by omega) e4).mono ?_
   rintro e w1 ⟨rfl,hK1⟩
   have HK1:=hd_ (HK.out.no hK1)
   clear hK1
   go_wp2_with fail
   go_ret
   exact ⟨rfl,HK1.out⟩
end
section
open Go Go.RowKit
attribute [local go_sem ↓] Go.wp_at_zero Go.wp_at_succ
attribute [local go_sem] node_field0 node_field1 node_field2
theorem item_c:∀ it:It,ItemP it
 | .path p s=>path_c p s
 | .pathn q m p s=>pathn_c q m p s
 | .value ns none vs=>valuen_c ns vs
 | .value ns (some t) vs=>valuet_c ns t vs
 | .type p s t=>type_c p s t
 | .alias p s q t=>alias_c p s q t
theorem Ints.up {w:World} {B B':Nat} {s:Value} {l:List Int} (h:Ints w B s l) (hB:B≤B'):Ints w B' s l:=by
 obtain ⟨p,c,rfl,hc,h⟩:=h
 refine ⟨p,c,rfl,hc,?_⟩
 rcases h with h | ⟨b,o,rfl,hb,hr⟩
 ·exact .inl h
 ·exact .inr ⟨b,o,rfl,Nat.lt_of_lt_of_le hb hB,hr⟩
theorem wd_not_func (wd:Wd):(wd.kind.toList == [102,117,110,99])=false:=by
 rw [ByteArray.toList_eq];cases wd <;> decide
theorem Ty.At.ptr {w:World} {F:Nat→Prop} {t:Ty} {u:Value} (h:t.At w F u):∃ b,u=.pointer (some ⟨b,0,none⟩):=by
 cases t <;> simp only [Ty.At] at h
 case name=>exact IdAt.ptr h
 case lit=>exact LitAt.ptr h
 case sel=>obtain ⟨_,_,⟨b,h,_⟩,_⟩:=h;exact ⟨b,h⟩
 case star=>obtain ⟨_,⟨b,h,_⟩,_⟩:=h;exact ⟨b,h⟩
 case sl=>obtain ⟨_,⟨b,h,_⟩,_⟩:=h;exact ⟨b,h⟩
 case arr=>obtain ⟨_,_,⟨b,h,_⟩,_⟩:=h;exact ⟨b,h⟩
 case map=>obtain ⟨_,_,⟨b,h,_⟩,_⟩:=h;exact ⟨b,h⟩
 case ch=>obtain ⟨_,_,⟨b,h,_⟩,_⟩:=h;exact ⟨b,h⟩
 case chs=>obtain ⟨_,_,⟨b,h,_⟩,_⟩:=h;exact ⟨b,h⟩
 case chr=>obtain ⟨_,_,⟨b,h,_⟩,_⟩:=h;exact ⟨b,h⟩
 case sig=>obtain ⟨_,_,⟨b,h,_⟩,_⟩:=h;exact ⟨b,h⟩
 case struct=>obtain ⟨_,⟨b,h,_⟩,_⟩:=h;exact ⟨b,h⟩
 case iface=>obtain ⟨_,⟨b,h,_⟩,_⟩:=h;exact ⟨b,h⟩
def GenAt (w:World) (F:Nat→Prop) (p tok l:Int) (its:List It) (r:Int) (v:Value):Prop :=
 ∃ z zs,Blk w F v 85 #[.pointer none,.int .i64 p,.int .i64 tok,.int .i64 l,z,.int .i64 r]∧Row w F 88 z zs∧LAt ItAt w F its zs
def BuildP (d:Dc):Prop:=∀ (w:World) (B:Nat) (s at_:Value),Ints w B at_ d.toks→d.nd.In w B s→B≤w.heap.size→Tok w→d.ok→d.nd.size≤400 →
 Calls Tryz.prog 15 #[.agg #[.string d.nd.k,.string d.nd.t,s],at_] w fun e w' =>
  (∃ v,e=.returned (.iface d.ty v)∧d.At w' (Fr w.heap.size) v)∧Kp No w w'
theorem gen_c (wd:Wd) (p:Int) (its:List It) (wz:World) (B:Nat) (s at_:Value) (hI:Ints wz B at_ (p::(itsToks its++[]))) (hl:Ls wz B s (its.map It.nd)) (hBw:B≤wz.heap.size) (hT:Tok wz) (hok:∀ it∈its,it.ok) (hsz:Nd.sizeL (its.map It.nd)≤400) :
 Calls Tryz.prog 15 #[.agg #[.string wd.kind,.string ⟨#[]⟩,s],at_] wz fun e w' =>
  (∃ v,e=.returned (.iface 81 v)∧GenAt w' (Fr wz.heap.size) p wd.tok 0 its 0 v)∧Kp No wz w':=by
 have HI:=hd_ hI
 obtain ⟨q,c0,rfl,hc0,_⟩:=id hl
 obtain ⟨ip,ic,rfl,_⟩:=id hI
 have HL0:=hd_ hl;have HT0:=hd_ hT;have HO:=hd_ hok;have HS:=hd_ hsz
 have hlen:its.length≤400:=by have:=Nd.sizeL_length (its.map It.nd);simp at this;omega
 simp only [lm_] at hc0 HL0 ⊢
 clear hl hok hsz hI hT
 have hks2:=wd_not_func wd
 have hks1:wd.kind.size=8+wd.word.size∧wd.word.size≤6∧0 < wd.word.size:=by cases wd <;> decide
 have hext:wd.kind.extract 8 (8+wd.word.size)=wd.word:=by cases wd <;> decide
 obtain ⟨hks1,hks3,hks4⟩:=hks1
 generalize hwk:wd.kind=kd at *
 generalize htn:(List.length (_::_))=tn at *
 go_enter Tryz.func15,Tryz.ntmps15
 go_wp2_with fail
 obtain ⟨w,hw⟩:∃ W,(wz.alloc (.cells #[.string kd,.string ⟨#[]⟩,.slice q its.length c0] 24)).alloc (.cells #[.slice ip tn ic] 65)=W:=⟨_,rfl⟩
 rw [hw]
 have hx0:w.heap[wz.heap.size]?=some (.cells #[.string kd,.string ⟨#[]⟩,.slice q its.length c0] 24 (0,0)):=by rw [← hw];exact allocOf (newOf wz _) _
 have hb0:w.heap[wz.heap.size+1]?=some (.cells #[.slice ip tn ic] 65 (0,0)):=by rw [← hw];exact newOf2 wz _ _
 have hk0:Kp No wz w:=by rw [← hw];exact ((Kp.refl No wz).alloc _).alloc _
 have szz:w.heap.size=wz.heap.size+2:=by rw [← hw];simp
 have HB0:Hid (Bld w (wz.heap.size+1) (p::(itsToks its++[]))):=⟨_,hb0,(HI.out.stay (fun b hb=>hk0.block b (Nat.lt_of_lt_of_le hb hBw) id)).up (by omega)⟩
 have HL:Hid (Ls w B (.slice q its.length c0) (its.map It.nd)):=HL0.out.below hk0 hBw fun b hb h=>h
 have HT:Hid (Tok w):=HT0.out.stay hk0 id
 have HX0:=hd_ hx0
 have x0:=cO hx0 0 _ rfl;have x1:=cO hx0 1 _ rfl;have x2:=cO hx0 2 _ rfl;have xs:=ltb hx0
 have HK0:=hd_ hk0
 clear hx0 hb0 hk0 hw HI HL0 HT0
 generalize hnb:wz.heap.size=nb at *
 generalize hbb:nb+1=bb at *
 have hlt:bb < w.heap.size:=by omega
 have hBb:B≤bb:=by omega
 go_wp2_with fail
 refine (next_c _ bb (p) ((itsToks its++[])) (HB0.out.on (Kp.refl (On (w.heap.size+1000000)) w) (by omega))).mono ?_
 rintro e w1 ⟨rfl,hB1,hK1⟩
 have sz1:w.heap.size≤w1.heap.size:=by have:=hK1.size;(try simp at this);omega
 have KT1:Kp (fun k=>k=bb∨k=bb) w w1:=(Kp.refl (fun k=>k=bb∨k=bb) w).trans hK1 (by intro i hi h;first | exact (h:False).elim | omega)
 obtain ⟨xb1,x0,x1,x2,xs⟩:=box3 HX0.out KT1 (by omega)
 clear HX0
 have HX1:=hd_ xb1;clear xb1
 have k1:Kp (On bb) w w1:=KT1.mono (by intro i hi h;omega)
 have HK1:=hd_ k1;clear k1 KT1
 have HB1:=hd_ hB1;clear hB1 HB0
 have szw1:w.heap.size≤w1.heap.size:=by omega
 clear hK1
 go_wp2_with fail
 refine (word_c _ wd (HT.out.stay ((HK1.out).trans ((Kp.refl (On w1.heap.size) w1).alloc _) (by intro i hi h;omega)) (by omega))).mono ?_
 rintro e w2 ⟨rfl,hK2⟩
 have sz2:w1.heap.size≤w2.heap.size:=by have:=hK2.size;(try simp at this);omega
 have KT2:Kp (fun k=>k=bb∨k=w1.heap.size) w1 w2:=((Kp.refl (fun k=>k=bb∨k=w1.heap.size) w1).alloc _).trans hK2 (by intro i hi h;first | exact (h:False).elim | omega)
 have hB2:=(HB1.out.on ((Kp.refl (On w1.heap.size) w1).alloc _) (by omega)).no hK2
 obtain ⟨xb2,x0,x1,x2,xs⟩:=box3 HX1.out KT2 (by omega)
 clear HX1
 have HX2:=hd_ xb2;clear xb2
 have xk2:w2.heap[w1.heap.size]?=some (.cells #[.pointer none,.int .i64 p,.int .i64 0,.int .i64 0,.slice none 0 0,.int .i64 0] 85 (0,0)):=hK2.at (newOf w1 _) (by exact id)
 have z0:=cO xk2 0 _ rfl;have f0:=fO xk2 0
 have z1:=cO xk2 1 _ rfl;have f1:=fO xk2 1
 have z2:=cO xk2 2 _ rfl;have f2:=fO xk2 2
 have z3:=cO xk2 3 _ rfl;have f3:=fO xk2 3
 have z4:=cO xk2 4 _ rfl;have f4:=fO xk2 4
 have z5:=cO xk2 5 _ rfl;have f5:=fO xk2 5
 have zs2:=ltb xk2
 have HP2:=hd_ xk2;clear xk2
 have k2:Kp (On bb) w w2:=HK1.out.trans KT2 (by intro i hi h;omega)
 clear HK1
 have HK2:=hd_ k2;clear k2 KT2
 have HB2:=hd_ hB2;clear hB2 HB1
 have szw2:w.heap.size≤w2.heap.size:=by omega
 clear hK2
 go_wp2_with fail
 obtain ⟨wl,hwl⟩:∃ W,w2.setCell ⟨w1.heap.size,2,none⟩ (.int .i64 wd.tok)=W:=⟨_,rfl⟩
 rw [hwl]
 have hks:Kp (On w1.heap.size) w2 wl:=by rw [← hwl];exact (Kp.refl (On w1.heap.size) w2).setCell (p:=⟨w1.heap.size,2,none⟩) (fun _=>rfl) _
 have hxk:wl.heap[w1.heap.size]?=some (.cells #[.pointer none,.int .i64 p,.int .i64 wd.tok,.int .i64 0,.slice none 0 0,.int .i64 0] 85 (0,0)):=by rw [← hwl];exact setOf HP2.out 2 _
 have szl:wl.heap.size=w2.heap.size:=by rw [← hwl];simp [World.setCell]
 have hbl:=HB2.out.on hks (by omega)
 have hkl:Kp (On bb) w wl:=HK2.out.trans hks (by intro i hi h;omega)
 have hboxl:=hks.at HX2.out (by omega)
 have HLL:Hid (Ls wl B (.slice q (its.map It.nd).length c0) (its.map It.nd)):=by rw [lm_];exact HL.out.below hkl (by omega) (fun b hb h=>by omega)
 have HR:Hid (LR ItAt itsToks (fun z=>#[.pointer none,.int .i64 p,.int .i64 wd.tok,.int .i64 0,z,.int .i64 0]) 85 88 wl bb w1.heap.size its [] 0 wl):=⟨[],its,[],.slice none 0 0,rfl,rfl,hxk,.inl ⟨rfl,rfl⟩,rfl,hbl,Kp.refl _ _⟩
 have hltx:bb < w1.heap.size:=by omega
 have HBX:=hd_ hboxl;have HKL:=hd_ hkl
 clear hwl hks hxk hbl hboxl hkl HX2 HB2 HP2
 go_loopw [84] (fun i wr=>∃ k:Nat,k≤its.length∧i=.int .i64 k∧LR ItAt itsToks (fun z=>#[.pointer none,.int .i64 p,.int .i64 wd.tok,.int .i64 0,z,.int .i64 0]) 85 88 wl bb w1.heap.size its ([]) k wr) (fun i _=>its.length - (intOf i).toNat)
 case atStart=>exact ⟨0,Nat.zero_le _,rfl,HR.out⟩
 case round =>
  obtain ⟨k,hk,rfl,hr⟩:=hrel
  by_cases hlt':k < its.length
  ·obtain ⟨done,todo,us,v,hns,hk',hxk,hrow,hat,hbld,hkp⟩:=hr
   have hul:=hat.length
   obtain ⟨d,todo',rfl⟩:∃ n todo',todo=n::todo':=by
    cases todo with
    | nil=>rw [hns] at hlt';simp at hlt';omega
    | cons n t=>exact ⟨n,t,rfl⟩
   have hdm:d∈its:=by rw [hns];simp
   have hsz:=hkp.size
   have hne:(its.map It.nd)[k]?=some d.nd:=by rw [hns,hk'];simp
   obtain ⟨b,oo,c',q_1,dd,he,_,hb,hi,h1,h2,h3,h4,h5⟩:=(HLL.out.below hkp (by omega) (fun b hb h=>by omega)).get hne
   cases he
   have H:Hid (its=done++d::todo'∧k=done.length∧wr.heap[w1.heap.size]?=some (.cells ((fun z=>#[.pointer none,.int .i64 p,.int .i64 wd.tok,.int .i64 0,z,.int .i64 0]) v) 85 (0,0))∧Row wr (Fr wl.heap.size) 88 v us∧LAt ItAt wr (Ex wl.heap.size v) done us∧Bld wr bb (itsToks (d::todo')++[])∧Kp (fun b=>b=bb∨b=w1.heap.size) wl wr∧us.length=done.length∧d∈its) :=
    ⟨hns,hk',hxk,hrow,hat,hbld,hkp,hul,hdm⟩
   have H4:=hd_ h4
   have HV:Hid (∀ bk,v.ownBlock=some bk→wl.heap.size≤bk∧bk < wr.heap.size):=by
    intro bk hb
    rcases hrow with ⟨rfl,_⟩ | ⟨g',cap',cur,rfl,hF,hg,_⟩
    ·simp [Value.ownBlock] at hb
    ·simp only [Value.ownBlock,Option.some.injEq] at hb
     subst hb
     exact ⟨hF,ltb hg⟩
   obtain ⟨vp,vc,rfl⟩:=hrow.form
   have xl:=ltb hxk
   clear hns hrow hat hbld hkp h4 hne hi hul hxk hdm x0 x1 x2 xs z0 f0 z1 f1 z2 f2 z3 f3 z4 f4 z5 f5
   clear hk'
   go_wp2_with fail
   obtain ⟨wa,hwa⟩:∃ W,wr.alloc (.cells #[.string d.nd.k,.string d.nd.t,.slice q_1 d.nd.l.length dd] 24)=W:=⟨_,rfl⟩
   rw [hwa]
   have hb2:wa.heap[wr.heap.size]?=some (.cells #[.string d.nd.k,.string d.nd.t,.slice q_1 d.nd.l.length dd] 24 (0,0)):=by rw [← hwa];exact newOf wr _
   have KT:Kp (On bb) wr wa:=by rw [← hwa];exact (Kp.refl (On bb) wr).alloc _
   have hB2:Bld wa bb (d.toks++(itsToks todo'++[])):=by
    have:=H.out.2.2.2.2.2.1
    simp only [itsToks,aa_] at this
    rw [← hwa]
    exact this.on (xb:=wr.heap.size) ((Kp.refl (On wr.heap.size) wr).alloc _) (by omega)
   have y0:=cO hb2 0 _ rfl
   have y1:=cO hb2 1 _ rfl
   have y2:=cO hb2 2 _ rfl
   have ys:=ltb hb2
   have z1:wa.cell? ⟨w1.heap.size,4,none⟩=some (.slice vp us.length vc):=cO (KT.at H.out.2.2.1 (by omega)) 4 _ rfl
   have f1:=fO (KT.at H.out.2.2.1 (by omega)) 4
   have H2:=a3_ hB2 KT hb2
   clear hB2 KT hb2 hwa
   have sz2:=H2.out.2.1.size
   have FC0:=item_c d wa.drew B bb (.slice q_1 d.nd.l.length dd) (itsToks todo'++[]) (show Bld wa bb _ from H2.out.1) (show d.nd.In wa.drew B _ from (show d.nd.In wr B _ from H4.out).below H2.out.2.1.drew (by omega) (fun b hb h=>by omega)) hBb
    (HO.out d H.out.2.2.2.2.2.2.2.2) (Nat.le_trans (Nd.sizeL_mem (List.mem_map_of_mem (f:=It.nd) H.out.2.2.2.2.2.2.2.2)) HS.out)
   have FC:=hd_ FC0
   have n1:=World.new_ne wa _ z1
   have n2:=World.new_ne wa _ y0
   clear FC0
   go_region_law
    (first
      | (refine step_is_call 45 rfl ?_;go_simp;go_at_call 45;refine FC.out.mono ?_;rintro e wb ⟨⟨u,rfl,hu⟩,hB3,hK3⟩
         have sz3:wa.heap.size≤wb.heap.size:=hK3.size
         have zz1:wb.cell? ⟨w1.heap.size,4,none⟩=some (.slice vp us.length vc):=(hK3.cell (show w1.heap.size < wa.heap.size by omega) (by omega)).trans z1
         have yy0:wb.cell? ⟨wr.heap.size,0,none⟩=some (.string d.nd.k):=(hK3.cell (show wr.heap.size < wa.heap.size by omega) (by omega)).trans y0
         have yy1:wb.cell? ⟨wr.heap.size,1,none⟩=some (.string d.nd.t):=(hK3.cell (show wr.heap.size < wa.heap.size by omega) (by omega)).trans y1
         have yy2:wb.cell? ⟨wr.heap.size,2,none⟩=some (.slice q_1 d.nd.l.length dd):=(hK3.cell (show wr.heap.size < wa.heap.size by omega) (by omega)).trans y2
         have ff1:wb.frozen? ⟨w1.heap.size,4,none⟩=false:=(hK3.frozen (show w1.heap.size < wa.heap.size by omega) (by omega)).trans f1
         have gg1:w1.heap.size < wb.heap.size:=by omega
         have gg2:wr.heap.size < wb.heap.size:=by omega
         have HR3:Hid (Row (wb.alloc (.cells #[.iface d.ty u] 88)) (Fr wl.heap.size) 88 (.slice vp us.length vc) us) :=
          Row.stay H.out.2.2.2.1 (fun i hi hF=>⟨(Below.heap_alloc wb _ _ (by omega)).trans ((hK3.block i (show i < wa.heap.size by omega) (by omega)).trans (H2.out.2.1.block i hi (by omega))),hF⟩)
         have HC3:=hd_ (cO (newOf wb (.cells #[.iface d.ty u] 88)) 0 _ rfl)
         have lw1:w1.heap.size < (wb.alloc (.cells #[.iface d.ty u] 88)).heap.size:=by rw [World.size_alloc];omega
         have lw2:wr.heap.size < (wb.alloc (.cells #[.iface d.ty u] 88)).heap.size:=by rw [World.size_alloc];omega
         have LW:=a2_ lw1 lw2
         clear lw1 lw2
         have zc1:=(World.cell?_alloc_past (w:=wb) (.cells #[.iface d.ty u] 88) w1.heap.size 4 (by omega)).trans zz1
         have yc0:=(World.cell?_alloc_past (w:=wb) (.cells #[.iface d.ty u] 88) wr.heap.size 0 (by omega)).trans yy0
         have yc1:=(World.cell?_alloc_past (w:=wb) (.cells #[.iface d.ty u] 88) wr.heap.size 1 (by omega)).trans yy1
         have yc2:=(World.cell?_alloc_past (w:=wb) (.cells #[.iface d.ty u] 88) wr.heap.size 2 (by omega)).trans yy2
         have fc1:=(World.frozen?_of_block (w:=wb) (a:=⟨w1.heap.size,4,none⟩) (Below.heap_alloc wb (.cells #[.iface d.ty u] 88) w1.heap.size (by omega))).trans ff1
         have HC:=a5_ zc1 yc0 yc1 yc2 fc1
         clear zc1 yc0 yc1 yc2 fc1
         have HN:Hid (us.length≤1048576):=(by have:=H.out.2.2.2.2.2.2.2.1;have:=H.out.2.1;omega:us.length≤1048576)
         have H3:=a3_ hu hB3 hK3
         clear hu hB3 hK3)
      | (refine step_is_append rfl ?_
         refine step_append_row (c:=1) (by rfl) (.tmp 92) (.tmp 96) 83 (by rfl) Tryz.underlying83 Tryz.type88 rfl rfl (by decide) rfl (by rfl) HR3.out (by rfl) HC3.out (by rfl) HN.out (wb.heap.size+1) (by simp) ?_
         intro g cap wc hrow4 hgrow4 hat4 hlt4
         have q1:some w1.heap.size≠(Value.slice vp us.length vc).ownBlock:=fun e=>by have:=(HV.out _ e.symm).1;omega
         have q2:some wr.heap.size≠(Value.slice vp us.length vc).ownBlock:=fun e=>by have:=(HV.out _ e.symm).2;omega
         have zw1:=(hgrow4.cell_far ⟨w1.heap.size,4,none⟩ LW.out.1 q1).trans HC.out.1
         have yw0:=(hgrow4.cell_far ⟨wr.heap.size,0,none⟩ LW.out.2 q2).trans HC.out.2.1
         have yw1:=(hgrow4.cell_far ⟨wr.heap.size,1,none⟩ LW.out.2 q2).trans HC.out.2.2.1
         have yw2:=(hgrow4.cell_far ⟨wr.heap.size,2,none⟩ LW.out.2 q2).trans HC.out.2.2.2.1
         have fw1:=(hgrow4.frozen_far ⟨w1.heap.size,4,none⟩ LW.out.1 q1).trans HC.out.2.2.2.2
         have H5:=a3_ hrow4 hgrow4 hat4
         clear hrow4 hgrow4 hat4 q1 q2))
   all_goals
    go_wp2
    go_roundw
    case rel =>
     refine ⟨k+1,by omega,by go_num,?_⟩
     exact LR.step ItAt.stay (fun _ _=>rfl) H.out.1 H.out.2.1 H.out.2.2.1 H.out.2.2.2.1 H.out.2.2.2.2.1 H.out.2.2.2.2.2.2.1 H3.out.2.1 (H2.out.2.1.drew.trans' H3.out.2.2) ⟨_,rfl,It.At.stay (Stay.of_kp (Kp.refl No _) (by intro b hb hF;exact ⟨id,Nat.le_trans sz2 hF⟩)) _ _ H3.out.1⟩ hltx (by omega) H5.out.1 H5.out.2.1 H5.out.2.2
    case measure=>simp [intOf];omega
  ·obtain ⟨done,todo,us,v,hns,hk',hxk,hrow,hat,hbld,hkp⟩:=hr
   have hto:todo=[]:=by
    cases todo with
    | nil=>rfl
    | cons n t=>rw [hns] at hlt';simp at hlt';omega
   subst hto
   rw [List.append_nil] at hns
   subst hns
   simp only [itsToks,List.nil_append] at hbld
   have hsz:=hkp.size
   have HWR:=a5_ hxk hrow hat hbld hkp
   have x1:=cO (hkp.at HBX.out (by omega)) 1 _ rfl
   have xs:=ltb (hkp.at HBX.out (by omega))
   clear hrow hat hbld hkp hk' hxk
   go_wp2_with fail
   go_ret
   obtain ⟨hxk,hrow,hat,hbld,hkp⟩:=HWR.out
   refine ⟨⟨_,rfl,v,us,⟨_,rfl,by omega,hxk⟩,hrow.stay (Stay.of_kp (Kp.refl No _) fun b hb hF=>⟨id,by omega⟩),LAt.stay (ItAt.stay (Stay.of_kp (Kp.refl No _) fun b hb hF=>⟨id,by have:=hF.1;omega⟩)) _ _ hat⟩,(HK0.out.trans HKL.out (by intro i hi h;omega)).trans hkp (by intro i hi h;omega)⟩
theorem group_c (wd:Wd) (p o:Int) (its:List It) (c:Int) (wz:World) (B:Nat) (s at_:Value) (hI:Ints wz B at_ (p::o::(itsToks its++[c]))) (hl:Ls wz B s (its.map It.nd)) (hBw:B≤wz.heap.size) (hT:Tok wz) (hok:∀ it∈its,it.ok) (hsz:Nd.sizeL (its.map It.nd)≤400) :
 Calls Tryz.prog 15 #[.agg #[.string wd.kind,.string ⟨#[103,114,111,117,112]⟩,s],at_] wz fun e w' =>
  (∃ v,e=.returned (.iface 81 v)∧GenAt w' (Fr wz.heap.size) p wd.tok o its c v)∧Kp No wz w':=by
 have HI:=hd_ hI
 obtain ⟨q,c0,rfl,hc0,_⟩:=id hl
 obtain ⟨ip,ic,rfl,_⟩:=id hI
 have HL0:=hd_ hl;have HT0:=hd_ hT;have HO:=hd_ hok;have HS:=hd_ hsz
 have hlen:its.length≤400:=by have:=Nd.sizeL_length (its.map It.nd);simp at this;omega
 simp only [lm_] at hc0 HL0 ⊢
 clear hl hok hsz hI hT
 have hks2:=wd_not_func wd
 have hks1:wd.kind.size=8+wd.word.size∧wd.word.size≤6∧0 < wd.word.size:=by cases wd <;> decide
 have hext:wd.kind.extract 8 (8+wd.word.size)=wd.word:=by cases wd <;> decide
 obtain ⟨hks1,hks3,hks4⟩:=hks1
 generalize hwk:wd.kind=kd at *
 generalize htn:(List.length (_::_))=tn at *
 go_enter Tryz.func15,Tryz.ntmps15
 go_wp2_with fail
 obtain ⟨w,hw⟩:∃ W,(wz.alloc (.cells #[.string kd,.string ⟨#[103,114,111,117,112]⟩,.slice q its.length c0] 24)).alloc (.cells #[.slice ip tn ic] 65)=W:=⟨_,rfl⟩
 rw [hw]
 have hx0:w.heap[wz.heap.size]?=some (.cells #[.string kd,.string ⟨#[103,114,111,117,112]⟩,.slice q its.length c0] 24 (0,0)):=by rw [← hw];exact allocOf (newOf wz _) _
 have hb0:w.heap[wz.heap.size+1]?=some (.cells #[.slice ip tn ic] 65 (0,0)):=by rw [← hw];exact newOf2 wz _ _
 have hk0:Kp No wz w:=by rw [← hw];exact ((Kp.refl No wz).alloc _).alloc _
 have szz:w.heap.size=wz.heap.size+2:=by rw [← hw];simp
 have HB0:Hid (Bld w (wz.heap.size+1) (p::o::(itsToks its++[c]))):=⟨_,hb0,(HI.out.stay (fun b hb=>hk0.block b (Nat.lt_of_lt_of_le hb hBw) id)).up (by omega)⟩
 have HL:Hid (Ls w B (.slice q its.length c0) (its.map It.nd)):=HL0.out.below hk0 hBw fun b hb h=>h
 have HT:Hid (Tok w):=HT0.out.stay hk0 id
 have HX0:=hd_ hx0
 have x0:=cO hx0 0 _ rfl;have x1:=cO hx0 1 _ rfl;have x2:=cO hx0 2 _ rfl;have xs:=ltb hx0
 have HK0:=hd_ hk0
 clear hx0 hb0 hk0 hw HI HL0 HT0
 generalize hnb:wz.heap.size=nb at *
 generalize hbb:nb+1=bb at *
 have hlt:bb < w.heap.size:=by omega
 have hBb:B≤bb:=by omega
 go_wp2_with fail
 refine (next_c _ bb (p) ((o::(itsToks its++[c]))) (HB0.out.on (Kp.refl (On (w.heap.size+1000000)) w) (by omega))).mono ?_
 rintro e w1 ⟨rfl,hB1,hK1⟩
 have sz1:w.heap.size≤w1.heap.size:=by have:=hK1.size;(try simp at this);omega
 have KT1:Kp (fun k=>k=bb∨k=bb) w w1:=(Kp.refl (fun k=>k=bb∨k=bb) w).trans hK1 (by intro i hi h;first | exact (h:False).elim | omega)
 obtain ⟨xb1,x0,x1,x2,xs⟩:=box3 HX0.out KT1 (by omega)
 clear HX0
 have HX1:=hd_ xb1;clear xb1
 have k1:Kp (On bb) w w1:=KT1.mono (by intro i hi h;omega)
 have HK1:=hd_ k1;clear k1 KT1
 have HB1:=hd_ hB1;clear hB1 HB0
 have szw1:w.heap.size≤w1.heap.size:=by omega
 clear hK1
 go_wp2_with fail
 refine (word_c _ wd (HT.out.stay ((HK1.out).trans ((Kp.refl (On w1.heap.size) w1).alloc _) (by intro i hi h;omega)) (by omega))).mono ?_
 rintro e w2 ⟨rfl,hK2⟩
 have sz2:w1.heap.size≤w2.heap.size:=by have:=hK2.size;(try simp at this);omega
 have KT2:Kp (fun k=>k=bb∨k=w1.heap.size) w1 w2:=((Kp.refl (fun k=>k=bb∨k=w1.heap.size) w1).alloc _).trans hK2 (by intro i hi h;first | exact (h:False).elim | omega)
 have hB2:=(HB1.out.on ((Kp.refl (On w1.heap.size) w1).alloc _) (by omega)).no hK2
 obtain ⟨xb2,x0,x1,x2,xs⟩:=box3 HX1.out KT2 (by omega)
 clear HX1
 have HX2:=hd_ xb2;clear xb2
 have xk2:w2.heap[w1.heap.size]?=some (.cells #[.pointer none,.int .i64 p,.int .i64 0,.int .i64 0,.slice none 0 0,.int .i64 0] 85 (0,0)):=hK2.at (newOf w1 _) (by exact id)
 have z0:=cO xk2 0 _ rfl;have f0:=fO xk2 0
 have z1:=cO xk2 1 _ rfl;have f1:=fO xk2 1
 have z2:=cO xk2 2 _ rfl;have f2:=fO xk2 2
 have z3:=cO xk2 3 _ rfl;have f3:=fO xk2 3
 have z4:=cO xk2 4 _ rfl;have f4:=fO xk2 4
 have z5:=cO xk2 5 _ rfl;have f5:=fO xk2 5
 have zs2:=ltb xk2
 have HP2:=hd_ xk2;clear xk2
 have k2:Kp (On bb) w w2:=HK1.out.trans KT2 (by intro i hi h;omega)
 clear HK1
 have HK2:=hd_ k2;clear k2 KT2
 have HB2:=hd_ hB2;clear hB2 HB1
 have szw2:w.heap.size≤w2.heap.size:=by omega
 clear hK2
 go_wp2_with fail
 refine (next_c _ bb (o) (itsToks its++[c]) (HB2.out.on ((Kp.refl (On w1.heap.size) w2).setCell (p:=⟨w1.heap.size,2,none⟩) (fun _=>rfl) _) (by omega))).mono ?_
 rintro e w3 ⟨rfl,hB3,hK3⟩
 have sz3:w2.heap.size≤w3.heap.size:=by have:=hK3.size;(try simp at this);omega
 have KT3:Kp (fun k=>k=bb∨k=w1.heap.size) w2 w3:=((Kp.refl (fun k=>k=bb∨k=w1.heap.size) w2).setCell (p:=⟨w1.heap.size,2,none⟩) (fun _=>.inr rfl) _).trans hK3 (by intro i hi h;first | exact (h:False).elim | omega)
 obtain ⟨xb3,x0,x1,x2,xs⟩:=box3 HX2.out KT3 (by omega)
 clear HX2
 have HX3:=hd_ xb3;clear xb3
 clear z0 f0 z1 f1 z2 f2 z3 f3 z4 f4 z5 f5
 have xk3:w3.heap[w1.heap.size]?=some (.cells #[.pointer none,.int .i64 p,.int .i64 wd.tok,.int .i64 0,.slice none 0 0,.int .i64 0] 85 (0,0)):=hK3.at (setOf HP2.out 2 _) (by exact On.not (by omega))
 have z0:=cO xk3 0 _ rfl;have f0:=fO xk3 0
 have z1:=cO xk3 1 _ rfl;have f1:=fO xk3 1
 have z2:=cO xk3 2 _ rfl;have f2:=fO xk3 2
 have z3:=cO xk3 3 _ rfl;have f3:=fO xk3 3
 have z4:=cO xk3 4 _ rfl;have f4:=fO xk3 4
 have z5:=cO xk3 5 _ rfl;have f5:=fO xk3 5
 have zs3:=ltb xk3
 have HP3:=hd_ xk3;clear xk3 HP2
 have k3:Kp (On bb) w w3:=HK2.out.trans KT3 (by intro i hi h;omega)
 clear HK2
 have HK3:=hd_ k3;clear k3 KT3
 have HB3:=hd_ hB3;clear hB3 HB2
 have szw3:w.heap.size≤w3.heap.size:=by omega
 clear hK3
 go_wp2_with fail
 obtain ⟨wl,hwl⟩:∃ W,w3.setCell ⟨w1.heap.size,3,none⟩ (.int .i64 o)=W:=⟨_,rfl⟩
 rw [hwl]
 have hks:Kp (On w1.heap.size) w3 wl:=by rw [← hwl];exact (Kp.refl (On w1.heap.size) w3).setCell (p:=⟨w1.heap.size,3,none⟩) (fun _=>rfl) _
 have hxk:wl.heap[w1.heap.size]?=some (.cells #[.pointer none,.int .i64 p,.int .i64 wd.tok,.int .i64 o,.slice none 0 0,.int .i64 0] 85 (0,0)):=by rw [← hwl];exact setOf HP3.out 3 _
 have szl:wl.heap.size=w3.heap.size:=by rw [← hwl];simp [World.setCell]
 have hbl:=HB3.out.on hks (by omega)
 have hkl:Kp (On bb) w wl:=HK3.out.trans hks (by intro i hi h;omega)
 have hboxl:=hks.at HX3.out (by omega)
 have HLL:Hid (Ls wl B (.slice q (its.map It.nd).length c0) (its.map It.nd)):=by rw [lm_];exact HL.out.below hkl (by omega) (fun b hb h=>by omega)
 have HR:Hid (LR ItAt itsToks (fun z=>#[.pointer none,.int .i64 p,.int .i64 wd.tok,.int .i64 o,z,.int .i64 0]) 85 88 wl bb w1.heap.size its [c] 0 wl):=⟨[],its,[],.slice none 0 0,rfl,rfl,hxk,.inl ⟨rfl,rfl⟩,rfl,hbl,Kp.refl _ _⟩
 have hltx:bb < w1.heap.size:=by omega
 have HBX:=hd_ hboxl;have HKL:=hd_ hkl
 clear hwl hks hxk hbl hboxl hkl HX3 HB3 HP3
 go_loopw [84] (fun i wr=>∃ k:Nat,k≤its.length∧i=.int .i64 k∧LR ItAt itsToks (fun z=>#[.pointer none,.int .i64 p,.int .i64 wd.tok,.int .i64 o,z,.int .i64 0]) 85 88 wl bb w1.heap.size its ([c]) k wr) (fun i _=>its.length - (intOf i).toNat)
 case atStart=>exact ⟨0,Nat.zero_le _,rfl,HR.out⟩
 case round =>
  obtain ⟨k,hk,rfl,hr⟩:=hrel
  by_cases hlt':k < its.length
  ·obtain ⟨done,todo,us,v,hns,hk',hxk,hrow,hat,hbld,hkp⟩:=hr
   have hul:=hat.length
   obtain ⟨d,todo',rfl⟩:∃ n todo',todo=n::todo':=by
    cases todo with
    | nil=>rw [hns] at hlt';simp at hlt';omega
    | cons n t=>exact ⟨n,t,rfl⟩
   have hdm:d∈its:=by rw [hns];simp
   have hsz:=hkp.size
   have hne:(its.map It.nd)[k]?=some d.nd:=by rw [hns,hk'];simp
   obtain ⟨b,oo,c',q_1,dd,he,_,hb,hi,h1,h2,h3,h4,h5⟩:=(HLL.out.below hkp (by omega) (fun b hb h=>by omega)).get hne
   cases he
   have H:Hid (its=done++d::todo'∧k=done.length∧wr.heap[w1.heap.size]?=some (.cells ((fun z=>#[.pointer none,.int .i64 p,.int .i64 wd.tok,.int .i64 o,z,.int .i64 0]) v) 85 (0,0))∧Row wr (Fr wl.heap.size) 88 v us∧LAt ItAt wr (Ex wl.heap.size v) done us∧Bld wr bb (itsToks (d::todo')++[c])∧Kp (fun b=>b=bb∨b=w1.heap.size) wl wr∧us.length=done.length∧d∈its) :=
    ⟨hns,hk',hxk,hrow,hat,hbld,hkp,hul,hdm⟩
   have H4:=hd_ h4
   have HV:Hid (∀ bk,v.ownBlock=some bk→wl.heap.size≤bk∧bk < wr.heap.size):=by
    intro bk hb
    rcases hrow with ⟨rfl,_⟩ | ⟨g',cap',cur,rfl,hF,hg,_⟩
    ·simp [Value.ownBlock] at hb
    ·simp only [Value.ownBlock,Option.some.injEq] at hb
     subst hb
     exact ⟨hF,ltb hg⟩
   obtain ⟨vp,vc,rfl⟩:=hrow.form
   have xl:=ltb hxk
   clear hns hrow hat hbld hkp h4 hne hi hul hxk hdm x0 x1 x2 xs z0 f0 z1 f1 z2 f2 z3 f3 z4 f4 z5 f5
   clear hk'
   go_wp2_with fail
   obtain ⟨wa,hwa⟩:∃ W,wr.alloc (.cells #[.string d.nd.k,.string d.nd.t,.slice q_1 d.nd.l.length dd] 24)=W:=⟨_,rfl⟩
   rw [hwa]
   have hb2:wa.heap[wr.heap.size]?=some (.cells #[.string d.nd.k,.string d.nd.t,.slice q_1 d.nd.l.length dd] 24 (0,0)):=by rw [← hwa];exact newOf wr _
   have KT:Kp (On bb) wr wa:=by rw [← hwa];exact (Kp.refl (On bb) wr).alloc _
   have hB2:Bld wa bb (d.toks++(itsToks todo'++[c])):=by
    have:=H.out.2.2.2.2.2.1
    simp only [itsToks,aa_] at this
    rw [← hwa]
    exact this.on (xb:=wr.heap.size) ((Kp.refl (On wr.heap.size) wr).alloc _) (by omega)
   have y0:=cO hb2 0 _ rfl
   have y1:=cO hb2 1 _ rfl
   have y2:=cO hb2 2 _ rfl
   have ys:=ltb hb2
   have z1:wa.cell? ⟨w1.heap.size,4,none⟩=some (.slice vp us.length vc):=cO (KT.at H.out.2.2.1 (by omega)) 4 _ rfl
   have f1:=fO (KT.at H.out.2.2.1 (by omega)) 4
   have H2:=a3_ hB2 KT hb2
   clear hB2 KT hb2 hwa
   have sz2:=H2.out.2.1.size
   have FC0:=item_c d wa.drew B bb (.slice q_1 d.nd.l.length dd) (itsToks todo'++[c]) (show Bld wa bb _ from H2.out.1) (show d.nd.In wa.drew B _ from (show d.nd.In wr B _ from H4.out).below H2.out.2.1.drew (by omega) (fun b hb h=>by omega)) hBb
    (HO.out d H.out.2.2.2.2.2.2.2.2) (Nat.le_trans (Nd.sizeL_mem (List.mem_map_of_mem (f:=It.nd) H.out.2.2.2.2.2.2.2.2)) HS.out)
   have FC:=hd_ FC0
   have n1:=World.new_ne wa _ z1
   have n2:=World.new_ne wa _ y0
   clear FC0
   go_region_law
    (first
      | (refine step_is_call 45 rfl ?_;go_simp;go_at_call 45;refine FC.out.mono ?_;rintro e wb ⟨⟨u,rfl,hu⟩,hB3,hK3⟩
         have sz3:wa.heap.size≤wb.heap.size:=hK3.size
         have zz1:wb.cell? ⟨w1.heap.size,4,none⟩=some (.slice vp us.length vc):=(hK3.cell (show w1.heap.size < wa.heap.size by omega) (by omega)).trans z1
         have yy0:wb.cell? ⟨wr.heap.size,0,none⟩=some (.string d.nd.k):=(hK3.cell (show wr.heap.size < wa.heap.size by omega) (by omega)).trans y0
         have yy1:wb.cell? ⟨wr.heap.size,1,none⟩=some (.string d.nd.t):=(hK3.cell (show wr.heap.size < wa.heap.size by omega) (by omega)).trans y1
         have yy2:wb.cell? ⟨wr.heap.size,2,none⟩=some (.slice q_1 d.nd.l.length dd):=(hK3.cell (show wr.heap.size < wa.heap.size by omega) (by omega)).trans y2
         have ff1:wb.frozen? ⟨w1.heap.size,4,none⟩=false:=(hK3.frozen (show w1.heap.size < wa.heap.size by omega) (by omega)).trans f1
         have gg1:w1.heap.size < wb.heap.size:=by omega
         have gg2:wr.heap.size < wb.heap.size:=by omega
         have HR3:Hid (Row (wb.alloc (.cells #[.iface d.ty u] 88)) (Fr wl.heap.size) 88 (.slice vp us.length vc) us) :=
          Row.stay H.out.2.2.2.1 (fun i hi hF=>⟨(Below.heap_alloc wb _ _ (by omega)).trans ((hK3.block i (show i < wa.heap.size by omega) (by omega)).trans (H2.out.2.1.block i hi (by omega))),hF⟩)
         have HC3:=hd_ (cO (newOf wb (.cells #[.iface d.ty u] 88)) 0 _ rfl)
         have lw1:w1.heap.size < (wb.alloc (.cells #[.iface d.ty u] 88)).heap.size:=by rw [World.size_alloc];omega
         have lw2:wr.heap.size < (wb.alloc (.cells #[.iface d.ty u] 88)).heap.size:=by rw [World.size_alloc];omega
         have LW:=a2_ lw1 lw2
         clear lw1 lw2
         have zc1:=(World.cell?_alloc_past (w:=wb) (.cells #[.iface d.ty u] 88) w1.heap.size 4 (by omega)).trans zz1
         have yc0:=(World.cell?_alloc_past (w:=wb) (.cells #[.iface d.ty u] 88) wr.heap.size 0 (by omega)).trans yy0
         have yc1:=(World.cell?_alloc_past (w:=wb) (.cells #[.iface d.ty u] 88) wr.heap.size 1 (by omega)).trans yy1
         have yc2:=(World.cell?_alloc_past (w:=wb) (.cells #[.iface d.ty u] 88) wr.heap.size 2 (by omega)).trans yy2
         have fc1:=(World.frozen?_of_block (w:=wb) (a:=⟨w1.heap.size,4,none⟩) (Below.heap_alloc wb (.cells #[.iface d.ty u] 88) w1.heap.size (by omega))).trans ff1
         have HC:=a5_ zc1 yc0 yc1 yc2 fc1
         clear zc1 yc0 yc1 yc2 fc1
         have HN:Hid (us.length≤1048576):=(by have:=H.out.2.2.2.2.2.2.2.1;have:=H.out.2.1;omega:us.length≤1048576)
         have H3:=a3_ hu hB3 hK3
         clear hu hB3 hK3)
      | (refine step_is_append rfl ?_
         refine step_append_row (c:=1) (by rfl) (.tmp 92) (.tmp 96) 83 (by rfl) Tryz.underlying83 Tryz.type88 rfl rfl (by decide) rfl (by rfl) HR3.out (by rfl) HC3.out (by rfl) HN.out (wb.heap.size+1) (by simp) ?_
         intro g cap wc hrow4 hgrow4 hat4 hlt4
         have q1:some w1.heap.size≠(Value.slice vp us.length vc).ownBlock:=fun e=>by have:=(HV.out _ e.symm).1;omega
         have q2:some wr.heap.size≠(Value.slice vp us.length vc).ownBlock:=fun e=>by have:=(HV.out _ e.symm).2;omega
         have zw1:=(hgrow4.cell_far ⟨w1.heap.size,4,none⟩ LW.out.1 q1).trans HC.out.1
         have yw0:=(hgrow4.cell_far ⟨wr.heap.size,0,none⟩ LW.out.2 q2).trans HC.out.2.1
         have yw1:=(hgrow4.cell_far ⟨wr.heap.size,1,none⟩ LW.out.2 q2).trans HC.out.2.2.1
         have yw2:=(hgrow4.cell_far ⟨wr.heap.size,2,none⟩ LW.out.2 q2).trans HC.out.2.2.2.1
         have fw1:=(hgrow4.frozen_far ⟨w1.heap.size,4,none⟩ LW.out.1 q1).trans HC.out.2.2.2.2
         have H5:=a3_ hrow4 hgrow4 hat4
         clear hrow4 hgrow4 hat4 q1 q2))
   all_goals
    go_wp2
    go_roundw
    case rel =>
     refine ⟨k+1,by omega,by go_num,?_⟩
     exact LR.step ItAt.stay (fun _ _=>rfl) H.out.1 H.out.2.1 H.out.2.2.1 H.out.2.2.2.1 H.out.2.2.2.2.1 H.out.2.2.2.2.2.2.1 H3.out.2.1 (H2.out.2.1.drew.trans' H3.out.2.2) ⟨_,rfl,It.At.stay (Stay.of_kp (Kp.refl No _) (by intro b hb hF;exact ⟨id,Nat.le_trans sz2 hF⟩)) _ _ H3.out.1⟩ hltx (by omega) H5.out.1 H5.out.2.1 H5.out.2.2
    case measure=>simp [intOf];omega
  ·obtain ⟨done,todo,us,v,hns,hk',hxk,hrow,hat,hbld,hkp⟩:=hr
   have hto:todo=[]:=by
    cases todo with
    | nil=>rfl
    | cons n t=>rw [hns] at hlt';simp at hlt';omega
   subst hto
   rw [List.append_nil] at hns
   subst hns
   simp only [itsToks,List.nil_append] at hbld
   have hsz:=hkp.size
   have HWR:=a5_ hxk hrow hat hbld hkp
   have x1:=cO (hkp.at HBX.out (by omega)) 1 _ rfl
   have xs:=ltb (hkp.at HBX.out (by omega))
   clear hrow hat hbld hkp hk' hxk
   go_wp2_with fail
   refine (next_c _ bb c [] HWR.out.2.2.2.1).mono ?_
   rintro e wy ⟨rfl,hBy,hKy⟩
   have hxy:=hKy.at HWR.out.1 (by omega)
   have z5:=cO hxy 5 _ rfl
   have f5:=fO hxy 5
   have HY:=a2_ hKy hxy
   clear hBy hKy hxy
   go_wp2_with fail
   go_ret
   obtain ⟨hxk,hrow,hat,hbld,hkp⟩:=HWR.out
   obtain ⟨hKy,hxy⟩:=HY.out
   have hsy:=(Kp.refl (On w1.heap.size) wy).setCell (p:=⟨w1.heap.size,5,none⟩) (fun _=>rfl) (.int .i64 c)
   have hall:Kp (fun b=>b=bb∨b=w1.heap.size) wr (wy.setCell ⟨w1.heap.size,5,none⟩ (.int .i64 c)):=((Kp.refl _ wr).trans hKy fun i hi h=>.inl h).trans hsy fun i hi h=>.inr h
   refine ⟨⟨_,rfl,v,us,⟨_,rfl,by omega,setOf hxy 5 _⟩,hrow.stay (Stay.of_kp hall fun b hb hF=>⟨by omega,by omega⟩),LAt.stay (ItAt.stay (Stay.of_kp hall fun b hb hF=>⟨by have:=hF.1;omega,by have:=hF.1;omega⟩)) _ _ hat⟩,((HK0.out.trans HKL.out (by intro i hi h;omega)).trans hkp (by intro i hi h;omega)).trans hall (by intro i hi h;omega)⟩
end
end Go.Proofs.YtnkbglhdpmbgfaaGreatFmt
