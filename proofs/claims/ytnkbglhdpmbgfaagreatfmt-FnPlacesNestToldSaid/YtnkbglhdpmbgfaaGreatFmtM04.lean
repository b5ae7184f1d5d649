/- A part of the proof; no condition: BParams, PlC, LawA, ShA, ShB, ShC, ShD. -/
import Derived.Test.YtnkbglhdpmbgfaaGreatFmtM
import Derived.Test.YtnkbglhdpmbgfaaGreatFmtM03
import Derived.Test.YtnkbglhdpmbgfaaGreatFmtM00
import Derived.Deep.RegionHeld3
import Derived.Deep.RegionLaw
import Derived.Deep.DrawnRows
import Derived.Deep.QuietTactic
import Derived.BigQuiet
import Derived.IntWalk
import Derived.KernelRfl
set_option linter.all false
set_option maxHeartbeats 16000000
set_option maxRecDepth 100000
namespace Go.Proofs.YtnkbglhdpmbgfaaGreatFmt
section
open Go Go.RowKit
attribute [local go_sem ↓] Go.wp_at_zero Go.wp_at_succ
def isApp (o:Oper):Bool:=match o.op with | .call { callee:=.builtin .append,.. }=>true | _=>false
theorem step_is_append {P:Program} {o:Oper} {a:Act} {w:World} {K:Act→World→Prop} {Q:Exit→Act→World→Prop} {E C:Prop} [Decidable C] (_:isApp o=true) (h:if C then Oper.wp P o a w K Q else E):if C then Oper.wp P o a w K Q else E:=h
def isCall (n:Nat) (o:Oper):Bool:=match o.op with | .call { callee:=.value (.func m),.. }=>m == n | _=>false
theorem step_is_call {P:Program} {o:Oper} {a:Act} {w:World} {K:Act→World→Prop} {Q:Exit→Act→World→Prop} {E C:Prop} [Decidable C] (n:Nat) (_:isCall n o=true) (h:if C then Oper.wp P o a w K Q else E):if C then Oper.wp P o a w K Q else E:=h
def FlR (w0:World) (bb xb:Nat) (o:Int) (fs:List Fd) (comma meth:Bool) (rest:List Int) (k:Nat) (wr:World):Prop :=
 ∃ done todo us v,fs=done++todo∧k=done.length∧wr.heap[xb]?=some (.cells #[.int .i64 o,v,.int .i64 0] 102 (0,0))∧Row wr (Fr (xb+1)) 92 v us ∧
  FdsAt wr (Ex (xb+1) v) done us∧Bld wr bb (fdsToks comma meth done.isEmpty todo++rest)∧Kp (On bb) w0 wr
theorem FlR.step {w0 wr w2 w3:World} {bb xb k g cap bu:Nat} {o:Int} {fs done todo':List Fd} {d:Fd} {us:List Value} {rest:List Int} {v:Value} {comma meth:Bool}
 (hfs:fs=done++d::todo') (hk:k=done.length) (hxb:wr.heap[xb]?=some (.cells #[.int .i64 o,v,.int .i64 0] 102 (0,0))) (hrow:Row wr (Fr (xb+1)) 92 v us)
 (hat:FdsAt wr (Ex (xb+1) v) done us) (hkp:Kp (On bb) w0 wr)
 (hB2:Bld w2 bb (fdsToks comma meth false todo'++rest)) (hK2:Kp (On bb) wr w2) (hd:d.at w2 (Fr wr.heap.size) (.pointer (some ⟨bu,0,none⟩)))
 (hlt:bb < w0.heap.size) (hx0:w0.heap.size≤xb)
 (hrow3:Row w3 (fun b=>b=g) 92 (.slice (some ⟨g,0,none⟩) (us.length+1) cap) (us++[.pointer (some ⟨bu,0,none⟩)]))
 (hgrow:(w2.alloc (.cells #[.pointer (some ⟨bu,0,none⟩)] 92)).grownBy w3 v.ownBlock) (hat3:v.ownBlock=some g∨g=w2.heap.size+1) :
 FlR w0 bb xb o fs comma meth rest (k+1) (w3.setCell ⟨xb,1,none⟩ (.slice (some ⟨g,0,none⟩) (us.length+1) cap)):=by
 have hs1:=hkp.size
 have hs2:=hK2.size
 have hxl:=ltb hxb
 have hvb:∀ b,v.ownBlock=some b→xb+1≤b∧b < wr.heap.size:=by
  intro b hb
  rcases hrow with ⟨rfl,_⟩ | ⟨g',cap',cur,rfl,hF,hg,_⟩
  ·simp [Value.ownBlock] at hb
  ·simp only [Value.ownBlock,Option.some.injEq] at hb
   subst hb
   exact ⟨hF,ltb hg⟩
 have hst:Stay (Ex (xb+1) v) (Ex (xb+1) (.slice (some ⟨g,0,none⟩) (us.length+1) cap)) w2 w3:=by
  intro b hb hF
  have h1:=Stay.grown (n:=us.length+1) (cap:=cap) hgrow (by simpa using hat3) (lo:=xb+1) b (by simp;omega) hF
  exact ⟨h1.1.trans (Below.heap_alloc _ _ _ hb),h1.2⟩
 have hk23:Kp (fun b=>v.ownBlock=some b) w2 w3:=((Kp.refl _ w2).alloc _).grown hgrow fun k hk _=>hk
 have hks:Kp (On xb) w3 (w3.setCell ⟨xb,1,none⟩ (.slice (some ⟨g,0,none⟩) (us.length+1) cap)):=(Kp.refl (On xb) w3).setCell (p:=⟨xb,1,none⟩) (fun _=>rfl) _
 have hgx:xb+1≤g:=by
  rcases hat3 with h | h
  ·exact (hvb _ h).1
  ·omega
 refine ⟨done++[d],todo',us++[.pointer (some ⟨bu,0,none⟩)],.slice (some ⟨g,0,none⟩) (us.length+1) cap,by simp [hfs],by simp [hk],?_,?_,?_,?_,?_⟩
 ·exact setOf (hk23.at (hK2.at hxb (by omega)) (fun e=>by have:=(hvb _ e).1;omega)) 1 _
 ·exact hrow3.stay fun b hb hF=>⟨hks.block b hb (by omega),by omega⟩
 ·refine FdsAt.stay (F:=Ex (xb+1) (.slice (some ⟨g,0,none⟩) (us.length+1) cap)) (fun b hb hF=>⟨hks.block b hb (by have:=hF.1;omega),hF⟩) _ _ ?_
  refine FdsAt.snoc _ _ _ _ ?_ ?_
  ·refine FdsAt.stay hst _ _ (FdsAt.stay (F':=Ex (xb+1) v) (w':=w2) ?_ _ _ hat)
   exact fun b hb hF=>⟨hK2.block b hb (by intro e;have:=hF.1;omega),hF⟩
  ·have hd':=FdsAt.stay (l:=[d]) (us:=[.pointer (some ⟨bu,0,none⟩)]) (F':=Ex (xb+1) (.slice (some ⟨g,0,none⟩) (us.length+1) cap)) (w':=w3)
    (fun b hb hF=>hst b hb ⟨by omega,fun e=>by have:=(hvb _ e).2;omega⟩) ⟨_,_,rfl,hd,rfl⟩
   obtain ⟨_,_,he,hd',_⟩:=hd'
   cases he
   exact hd'
 ·rw [show (done++[d]).isEmpty=false by cases done <;> rfl]
  exact (hB2.stay fun b hb=>hk23.block b (by omega) fun e=>by have:=(hvb _ e).1;omega).on hks (by omega)
 ·exact ((hkp.trans' hK2).trans hk23 fun i hi e=>by have:=(hvb _ e).1;omega).trans hks fun i hi e=>by omega
theorem params_c (f:Fs) (hF:∀ d∈f.fds,FieldP d.ns d.t d.tp d.tag):ParamsP f:=by
 intro w B bb s o c l hB hl hBb hok hsz
 rw [Fs.toks_fds] at hB
 rw [Fs.nds_fds] at hl hsz
 rw [Fs.ok_fds] at hok
 generalize hfs:f.fds=fs at *
 have hnd:(fl f.nds).k=⟨#[102,105,101,108,100,115]⟩∧(fl f.nds).t=⟨#[]⟩:=⟨rfl,rfl⟩
 rw [hnd.1,hnd.2]
 have hlt:=hB.lt
 obtain ⟨p,cp,rfl,hc,_⟩:=id hl
 have hlen:fs.length≤400:=by have:=Nd.sizeL_length (fs.map Fd.nd);simp at this;omega
 have HL:Hid (Ls w B (.slice p (fs.map Fd.nd).length cp) (fs.map Fd.nd)):=hl
 have HB:=hd_ hB
 have HO:=hd_ hok
 have HF:=hd_ hF
 have HS:=hd_ hsz
 have Hfs:=hd_ hfs
 simp only [lm_] at hc ⊢
 clear hB hl hok hF hsz hfs hnd
 go_enter Tryz.func40,Tryz.ntmps40
 go_wp2_with fail
 refine (next_c _ bb o (fdsToks true false true fs++c::l) (HB.out.on (xb:=w.heap.size) ((Kp.refl (On w.heap.size) w).alloc _) (by omega))).mono ?_
 rintro e w1 ⟨rfl,hB1,hK1⟩
 have sz1:w.heap.size+1≤w1.heap.size:=by have:=hK1.size;simp at this;omega
 obtain ⟨xb1,x0,x1,x2,xs⟩:=box3 (newOf w _) hK1 (On.not hlt)
 have HK1:=hd_ (((Kp.refl (On bb) w).alloc _).trans' hK1)
 have HB1:=hd_ hB1
 clear hK1 hB1 xb1
 go_wp2_with fail
 have HR:Hid (FlR w bb w1.heap.size o fs true false (c::l) 0 (w1.alloc (.cells #[.int .i64 o,.slice none 0 0,.int .i64 0] 102))) :=
  ⟨[],fs,[],.slice none 0 0,rfl,rfl,newOf w1 _,.inl ⟨rfl,rfl⟩,rfl,HB1.out.on (xb:=w1.heap.size) ((Kp.refl (On w1.heap.size) w1).alloc _) (by omega),HK1.out.alloc _⟩
 go_loopw [18] (fun i wr=>∃ k:Nat,k≤fs.length∧i=.int .i64 k∧FlR w bb w1.heap.size o fs true false (c::l) k wr) (fun i _=>fs.length - (intOf i).toNat)
 case atStart=>exact ⟨0,Nat.zero_le _,rfl,HR.out⟩
 case round =>
  obtain ⟨k,hk,rfl,hr⟩:=hrel
  by_cases hlt':k < fs.length
  ·obtain ⟨done,todo,us,v,hns,hk',hxk,hrow,hat,hbld,hkp⟩:=hr
   have hul:=hat.length
   obtain ⟨d,todo',rfl⟩:∃ n todo',todo=n::todo':=by
    cases todo with
    | nil=>rw [hns] at hlt';simp at hlt';omega
    | cons n t=>exact ⟨n,t,rfl⟩
   have hdm:d∈fs:=by rw [hns];simp
   have hsz:=hkp.size
   have hne:(fs.map Fd.nd)[k]?=some d.nd:=by rw [hns,hk'];simp
   obtain ⟨b,oo,c',q,dd,he,_,hb,hi,h1,h2,h3,h4,h5⟩:=(HL.out.below hkp (by omega) (fun b hb h=>by omega)).get hne
   cases he
   simp only [Fd.nd,fdNd,Nd.k,Nd.t,Nd.l,lc_,lm_] at h1 h2 h3 h4
   have H:Hid (fs=done++d::todo'∧k=done.length∧wr.heap[w1.heap.size]?=some (.cells #[.int .i64 o,v,.int .i64 0] 102 (0,0))∧Row wr (Fr (w1.heap.size+1)) 92 v us∧FdsAt wr (Ex (w1.heap.size+1) v) done us∧Bld wr bb (fdsToks true false done.isEmpty (d::todo')++c::l)∧Kp (On bb) w wr∧us.length=done.length∧d∈fs) :=
    ⟨hns,hk',hxk,hrow,hat,hbld,hkp,hul,hdm⟩
   have H4:=hd_ h4
   have HV:Hid (∀ bk,v.ownBlock=some bk→w1.heap.size+1≤bk∧bk < wr.heap.size):=by
    intro bk hb
    rcases hrow with ⟨rfl,_⟩ | ⟨g',cap',cur,rfl,hF,hg,_⟩
    ·simp [Value.ownBlock] at hb
    ·simp only [Value.ownBlock,Option.some.injEq] at hb
     subst hb
     exact ⟨hF,ltb hg⟩
   obtain ⟨vp,vc,rfl⟩:=hrow.form
   have xl:=ltb hxk
   clear hns hrow hat hbld hkp h4 hne hi hul hxk hdm x0 x1 x2
   by_cases hk0:k=0
   ·have hk2:done.isEmpty=true:=by cases done with | nil=>rfl | cons _ _=>simp at hk';omega
    have hk1:decide (0 < k)=false:=by simp;omega
    clear hk' hk0
    go_wp2_with fail
    obtain ⟨w2,hw2⟩:∃ W,wr.alloc (.cells #[.string ⟨#[102,105,101,108,100]⟩,.string d.tag,.slice q (d.ns.length+1) dd] 24)=W:=⟨_,rfl⟩
    rw [hw2]
    have hb2:w2.heap[wr.heap.size]?=some (.cells #[.string ⟨#[102,105,101,108,100]⟩,.string d.tag,.slice q (d.ns.length+1) dd] 24 (0,0)):=by rw [← hw2];exact newOf wr _
    have KT:Kp (On bb) wr w2:=by rw [← hw2];exact (Kp.refl (On bb) wr).alloc _
    have hB2:Bld w2 bb (d.toks false++(fdsToks true false false todo'++c::l)):=by
     have:=H.out.2.2.2.2.2.1
     rw [hk2] at this
     simp only [fdsToks,Bool.not_true,Bool.and_false,Bool.false_eq_true,if_false,List.nil_append,aa_] at this
     rw [← hw2]
     exact this.on (xb:=wr.heap.size) ((Kp.refl (On wr.heap.size) wr).alloc _) (by omega)
    have y0:=cO hb2 0 _ rfl
    have y1:=cO hb2 1 _ rfl
    have y2:=cO hb2 2 _ rfl
    have ys:=ltb hb2
    have z1:w2.cell? ⟨w1.heap.size,1,none⟩=some _:=cO (KT.at H.out.2.2.1 (by omega)) 1 _ rfl
    have H2:=a3_ hB2 KT hb2
    clear hB2 KT hb2 hw2
    have sz2:=H2.out.2.1.size
    have FC0:=(HF.out d H.out.2.2.2.2.2.2.2.2) w2.drew B bb (.slice q (d.ns.length+1) dd) false (fdsToks true false false todo'++c::l)
     (show Bld w2 bb _ from by simpa [Fd.toks] using H2.out.1) (show (fdNd d.ns d.t d.tag).In w2.drew B _ from (show (fdNd d.ns d.t d.tag).In wr B _ from H4.out).below H2.out.2.1.drew (by omega) (fun b hb h=>by omega)) hBb
     ((HO.out d H.out.2.2.2.2.2.2.2.2).2.1) ((HO.out d H.out.2.2.2.2.2.2.2.2).2.2.1) ((HO.out d H.out.2.2.2.2.2.2.2.2).2.2.2.1) ((HO.out d H.out.2.2.2.2.2.2.2.2).2.2.2.2)
     (Nat.le_trans (Nd.sizeL_mem (List.mem_map_of_mem (f:=Fd.nd) H.out.2.2.2.2.2.2.2.2)) HS.out)
    have FC:=hd_ FC0
    have f1:=fO (H2.out.2.1.at H.out.2.2.1 (by omega)) 1
    have n1:=World.new_ne w2 _ z1
    have n2:=World.new_ne w2 _ y0
    clear FC0
    go_region_law
     (first
       | (refine step_is_call 58 rfl ?_;go_simp;go_at_call 58;refine FC.out.mono ?_;rintro e w3 ⟨⟨u,rfl,hu⟩,hB3,hK3⟩;obtain ⟨bu,rfl⟩:=Fd.at.ptr (d:=d) hu
          have sz3:w2.heap.size≤w3.heap.size:=hK3.size
          have zz1:w3.cell? ⟨w1.heap.size,1,none⟩=some (.slice vp us.length vc):=(hK3.cell (show w1.heap.size < w2.heap.size by omega) (by omega)).trans z1
          have yy0:w3.cell? ⟨wr.heap.size,0,none⟩=some (.string ⟨#[102,105,101,108,100]⟩):=(hK3.cell (show wr.heap.size < w2.heap.size by omega) (by omega)).trans y0
          have yy1:w3.cell? ⟨wr.heap.size,1,none⟩=some (.string d.tag):=(hK3.cell (show wr.heap.size < w2.heap.size by omega) (by omega)).trans y1
          have yy2:w3.cell? ⟨wr.heap.size,2,none⟩=some (.slice q (d.ns.length+1) dd):=(hK3.cell (show wr.heap.size < w2.heap.size by omega) (by omega)).trans y2
          have ff1:w3.frozen? ⟨w1.heap.size,1,none⟩=false:=(hK3.frozen (show w1.heap.size < w2.heap.size by omega) (by omega)).trans f1
          have gg1:w1.heap.size < w3.heap.size:=by omega
          have gg2:wr.heap.size < w3.heap.size:=by omega
          have HR3:Hid (Row (w3.alloc (.cells #[.pointer (some ⟨bu,0,none⟩)] 92)) (Fr (w1.heap.size+1)) 92 (.slice vp us.length vc) us) :=
           Row.stay H.out.2.2.2.1 (fun i hi hF=>⟨(Below.heap_alloc w3 _ _ (by omega)).trans ((hK3.block i (show i < w2.heap.size by omega) (by omega)).trans (H2.out.2.1.block i hi (by omega))),hF⟩)
          have HC3:=hd_ (cO (newOf w3 (.cells #[.pointer (some ⟨bu,0,none⟩)] 92)) 0 _ rfl)
          have lw1:w1.heap.size < (w3.alloc (.cells #[.pointer (some ⟨bu,0,none⟩)] 92)).heap.size:=by rw [World.size_alloc];omega
          have lw2:wr.heap.size < (w3.alloc (.cells #[.pointer (some ⟨bu,0,none⟩)] 92)).heap.size:=by rw [World.size_alloc];omega
          have LW:=a2_ lw1 lw2
          clear lw1 lw2
          have zc1:=(World.cell?_alloc_past (w:=w3) (.cells #[.pointer (some ⟨bu,0,none⟩)] 92) w1.heap.size 1 (by omega)).trans zz1
          have yc0:=(World.cell?_alloc_past (w:=w3) (.cells #[.pointer (some ⟨bu,0,none⟩)] 92) wr.heap.size 0 (by omega)).trans yy0
          have yc1:=(World.cell?_alloc_past (w:=w3) (.cells #[.pointer (some ⟨bu,0,none⟩)] 92) wr.heap.size 1 (by omega)).trans yy1
          have yc2:=(World.cell?_alloc_past (w:=w3) (.cells #[.pointer (some ⟨bu,0,none⟩)] 92) wr.heap.size 2 (by omega)).trans yy2
          have fc1:=(World.frozen?_of_block (w:=w3) (a:=⟨w1.heap.size,1,none⟩) (Below.heap_alloc w3 (.cells #[.pointer (some ⟨bu,0,none⟩)] 92) w1.heap.size (by omega))).trans ff1
          have HC:=a5_ zc1 yc0 yc1 yc2 fc1
          clear zc1 yc0 yc1 yc2 fc1
          have HN:Hid (us.length≤1048576):=(by have:=H.out.2.2.2.2.2.2.2.1;have:=H.out.2.1;omega:us.length≤1048576)
          have H3:=a3_ hu hB3 hK3
          clear hu hB3 hK3)
       | (refine step_is_append rfl ?_
          refine step_append_row (c:=1) (by rfl) (.tmp 31) (.tmp 35) 100 (by rfl) Tryz.underlying100 Tryz.type92 rfl rfl (by decide) rfl (by rfl) HR3.out (by rfl) HC3.out (by rfl) HN.out (w3.heap.size+1) (by simp) ?_
          intro g cap w4 hrow4 hgrow4 hat4 hlt4
          have q1:some w1.heap.size≠(Value.slice vp us.length vc).ownBlock:=fun e=>by have:=(HV.out _ e.symm).1;omega
          have q2:some wr.heap.size≠(Value.slice vp us.length vc).ownBlock:=fun e=>by have:=(HV.out _ e.symm).2;omega
          have zw1:=(hgrow4.cell_far ⟨w1.heap.size,1,none⟩ LW.out.1 q1).trans HC.out.1
          have yw0:=(hgrow4.cell_far ⟨wr.heap.size,0,none⟩ LW.out.2 q2).trans HC.out.2.1
          have yw1:=(hgrow4.cell_far ⟨wr.heap.size,1,none⟩ LW.out.2 q2).trans HC.out.2.2.1
          have yw2:=(hgrow4.cell_far ⟨wr.heap.size,2,none⟩ LW.out.2 q2).trans HC.out.2.2.2.1
          have fw1:=(hgrow4.frozen_far ⟨w1.heap.size,1,none⟩ LW.out.1 q1).trans HC.out.2.2.2.2
          have H5:=a3_ hrow4 hgrow4 hat4
          clear hrow4 hgrow4 hat4 q1 q2))
    all_goals
     go_wp2
     go_roundw
     case rel =>
      refine ⟨k+1,by omega,by go_num,?_⟩
      exact FlR.step H.out.1 H.out.2.1 H.out.2.2.1 H.out.2.2.2.1 H.out.2.2.2.2.1 H.out.2.2.2.2.2.2.1 H3.out.2.1 (H2.out.2.1.drew.trans' H3.out.2.2) (Fd.at.on (F:=Fr w2.drew.heap.size) (d:=d) H3.out.1 (Kp.refl No _) (by intro b hb hF;exact ⟨id,Nat.le_trans sz2 hF⟩)) hlt (by omega) H5.out.1 H5.out.2.1 H5.out.2.2
     case measure=>simp [intOf];omega
   ·have hk1:0 < (k:Int):=by omega
    have hk2:done.isEmpty=false:=by cases done with | nil=>simp at hk';omega | cons _ _=>rfl
    clear hk'
    go_wp2_with fail
    refine (next_c _ bb d.c (d.toks false++(fdsToks true false false todo'++c::l)) ?_).mono ?_
    ·have:=H.out.2.2.2.2.2.1
     rw [hk2] at this
     simp only [fdsToks,Bool.not_false,Bool.and_self,if_true,List.cons_append,List.nil_append,aa_] at this
     exact this.on (xb:=wr.heap.size) ((Kp.refl (On wr.heap.size) wr).alloc _) (by omega)
    rintro e w2 ⟨rfl,hB2,hK2⟩
    obtain ⟨yb,y0,y1,y2,ys⟩:=box3 (newOf wr _) hK2 (On.not (by omega))
    have KT:Kp (On bb) wr w2:=((Kp.refl (On bb) wr).alloc _).trans' hK2
    have z1:w2.cell? ⟨w1.heap.size,1,none⟩=some _:=cO (KT.at H.out.2.2.1 (by omega)) 1 _ rfl
    have H2:=a3_ hB2 KT yb
    clear hB2 hK2 KT yb
    go_wp2_with fail
    have sz2:=H2.out.2.1.size
    have FC0:=(HF.out d H.out.2.2.2.2.2.2.2.2) w2.drew B bb (.slice q (d.ns.length+1) dd) false (fdsToks true false false todo'++c::l)
     (show Bld w2 bb _ from by simpa [Fd.toks] using H2.out.1) (show (fdNd d.ns d.t d.tag).In w2.drew B _ from (show (fdNd d.ns d.t d.tag).In wr B _ from H4.out).below H2.out.2.1.drew (by omega) (fun b hb h=>by omega)) hBb
     ((HO.out d H.out.2.2.2.2.2.2.2.2).2.1) ((HO.out d H.out.2.2.2.2.2.2.2.2).2.2.1) ((HO.out d H.out.2.2.2.2.2.2.2.2).2.2.2.1) ((HO.out d H.out.2.2.2.2.2.2.2.2).2.2.2.2)
     (Nat.le_trans (Nd.sizeL_mem (List.mem_map_of_mem (f:=Fd.nd) H.out.2.2.2.2.2.2.2.2)) HS.out)
    have FC:=hd_ FC0
    have f1:=fO (H2.out.2.1.at H.out.2.2.1 (by omega)) 1
    have n1:=World.new_ne w2 _ z1
    have n2:=World.new_ne w2 _ y0
    clear FC0
    go_region_law
     (first
       | (refine step_is_call 58 rfl ?_;go_simp;go_at_call 58;refine FC.out.mono ?_;rintro e w3 ⟨⟨u,rfl,hu⟩,hB3,hK3⟩;obtain ⟨bu,rfl⟩:=Fd.at.ptr (d:=d) hu
          have sz3:w2.heap.size≤w3.heap.size:=hK3.size
          have zz1:w3.cell? ⟨w1.heap.size,1,none⟩=some (.slice vp us.length vc):=(hK3.cell (show w1.heap.size < w2.heap.size by omega) (by omega)).trans z1
          have yy0:w3.cell? ⟨wr.heap.size,0,none⟩=some (.string ⟨#[102,105,101,108,100]⟩):=(hK3.cell (show wr.heap.size < w2.heap.size by omega) (by omega)).trans y0
          have yy1:w3.cell? ⟨wr.heap.size,1,none⟩=some (.string d.tag):=(hK3.cell (show wr.heap.size < w2.heap.size by omega) (by omega)).trans y1
          have yy2:w3.cell? ⟨wr.heap.size,2,none⟩=some (.slice q (d.ns.length+1) dd):=(hK3.cell (show wr.heap.size < w2.heap.size by omega) (by omega)).trans y2
          have ff1:w3.frozen? ⟨w1.heap.size,1,none⟩=false:=(hK3.frozen (show w1.heap.size < w2.heap.size by omega) (by omega)).trans f1
          have gg1:w1.heap.size < w3.heap.size:=by omega
          have gg2:wr.heap.size < w3.heap.size:=by omega
          have HR3:Hid (Row (w3.alloc (.cells #[.pointer (some ⟨bu,0,none⟩)] 92)) (Fr (w1.heap.size+1)) 92 (.slice vp us.length vc) us) :=
           Row.stay H.out.2.2.2.1 (fun i hi hF=>⟨(Below.heap_alloc w3 _ _ (by omega)).trans ((hK3.block i (show i < w2.heap.size by omega) (by omega)).trans (H2.out.2.1.block i hi (by omega))),hF⟩)
          have HC3:=hd_ (cO (newOf w3 (.cells #[.pointer (some ⟨bu,0,none⟩)] 92)) 0 _ rfl)
          have lw1:w1.heap.size < (w3.alloc (.cells #[.pointer (some ⟨bu,0,none⟩)] 92)).heap.size:=by rw [World.size_alloc];omega
          have lw2:wr.heap.size < (w3.alloc (.cells #[.pointer (some ⟨bu,0,none⟩)] 92)).heap.size:=by rw [World.size_alloc];omega
          have LW:=a2_ lw1 lw2
          clear lw1 lw2
          have zc1:=(World.cell?_alloc_past (w:=w3) (.cells #[.pointer (some ⟨bu,0,none⟩)] 92) w1.heap.size 1 (by omega)).trans zz1
          have yc0:=(World.cell?_alloc_past (w:=w3) (.cells #[.pointer (some ⟨bu,0,none⟩)] 92) wr.heap.size 0 (by omega)).trans yy0
          have yc1:=(World.cell?_alloc_past (w:=w3) (.cells #[.pointer (some ⟨bu,0,none⟩)] 92) wr.heap.size 1 (by omega)).trans yy1
          have yc2:=(World.cell?_alloc_past (w:=w3) (.cells #[.pointer (some ⟨bu,0,none⟩)] 92) wr.heap.size 2 (by omega)).trans yy2
          have fc1:=(World.frozen?_of_block (w:=w3) (a:=⟨w1.heap.size,1,none⟩) (Below.heap_alloc w3 (.cells #[.pointer (some ⟨bu,0,none⟩)] 92) w1.heap.size (by omega))).trans ff1
          have HC:=a5_ zc1 yc0 yc1 yc2 fc1
          clear zc1 yc0 yc1 yc2 fc1
          have HN:Hid (us.length≤1048576):=(by have:=H.out.2.2.2.2.2.2.2.1;have:=H.out.2.1;omega:us.length≤1048576)
          have H3:=a3_ hu hB3 hK3
          clear hu hB3 hK3)
       | (refine step_is_append rfl ?_
          refine step_append_row (c:=1) (by rfl) (.tmp 31) (.tmp 35) 100 (by rfl) Tryz.underlying100 Tryz.type92 rfl rfl (by decide) rfl (by rfl) HR3.out (by rfl) HC3.out (by rfl) HN.out (w3.heap.size+1) (by simp) ?_
          intro g cap w4 hrow4 hgrow4 hat4 hlt4
          have q1:some w1.heap.size≠(Value.slice vp us.length vc).ownBlock:=fun e=>by have:=(HV.out _ e.symm).1;omega
          have q2:some wr.heap.size≠(Value.slice vp us.length vc).ownBlock:=fun e=>by have:=(HV.out _ e.symm).2;omega
          have zw1:=(hgrow4.cell_far ⟨w1.heap.size,1,none⟩ LW.out.1 q1).trans HC.out.1
          have yw0:=(hgrow4.cell_far ⟨wr.heap.size,0,none⟩ LW.out.2 q2).trans HC.out.2.1
          have yw1:=(hgrow4.cell_far ⟨wr.heap.size,1,none⟩ LW.out.2 q2).trans HC.out.2.2.1
          have yw2:=(hgrow4.cell_far ⟨wr.heap.size,2,none⟩ LW.out.2 q2).trans HC.out.2.2.2.1
          have fw1:=(hgrow4.frozen_far ⟨w1.heap.size,1,none⟩ LW.out.1 q1).trans HC.out.2.2.2.2
          have H5:=a3_ hrow4 hgrow4 hat4
          clear hrow4 hgrow4 hat4 q1 q2))
    all_goals
     go_wp2
     go_roundw
     case rel =>
      refine ⟨k+1,by omega,by go_num,?_⟩
      exact FlR.step H.out.1 H.out.2.1 H.out.2.2.1 H.out.2.2.2.1 H.out.2.2.2.2.1 H.out.2.2.2.2.2.2.1 H3.out.2.1 (H2.out.2.1.drew.trans' H3.out.2.2) (Fd.at.on (F:=Fr w2.drew.heap.size) (d:=d) H3.out.1 (Kp.refl No _) (by intro b hb hF;exact ⟨id,Nat.le_trans sz2 hF⟩)) hlt (by omega) H5.out.1 H5.out.2.1 H5.out.2.2
     case measure=>simp [intOf];omega
  ·obtain ⟨done,todo,us,v,hns,hk',hxk,hrow,hat,hbld,hkp⟩:=hr
   have hto:todo=[]:=by
    cases todo with
    | nil=>rfl
    | cons n t=>rw [hns] at hlt';simp at hlt';omega
   subst hto
   rw [List.append_nil] at hns
   subst hns
   simp only [fdsToks,List.nil_append] at hbld
   have hsz:=hkp.size
   have H:=a5_ hxk hrow hat hbld hkp
   clear hrow hat hbld hkp hk' hxk x0 x1 x2
   go_wp2_with fail
   refine (next_c _ bb c l H.out.2.2.2.1).mono ?_
   rintro e w2 ⟨rfl,hB2,hK2⟩
   have hx2:=hK2.at H.out.1 (by omega)
   have z2:=cO hx2 2 _ rfl
   have f2:=fO hx2 2
   have H2:=a3_ hB2 hK2 hx2
   clear hB2 hK2 hx2
   go_wp2_with fail
   go_ret
   obtain ⟨hxk,hrow,hat,hbld,hkp⟩:=H.out
   obtain ⟨hB2,hK2,hx2⟩:=H2.out
   have hks:=(Kp.refl (On w1.heap.size) w2).setCell (p:=⟨w1.heap.size,2,none⟩) (fun _=>rfl) (.int .i64 c)
   refine ⟨⟨_,rfl,v,us,⟨_,rfl,by omega,setOf hx2 2 _⟩,?_,?_⟩,hB2.on hks (by omega),(hkp.trans' hK2).trans hks fun i hi h=>by omega⟩
   ·exact (hrow.stay (Stay.of_kp (F':=Fr (w1.heap.size+1)) hK2 fun b hb hF=>by omega)).stay (Stay.of_kp hks fun b hb hF=>by omega)
   ·rw [Fs.at_fds,Hfs.out]
    exact FdsAt.stay (Stay.of_kp hks fun b hb hF=>by omega) _ _ (FdsAt.stay (Stay.of_kp (F':=Fr (w1.heap.size+1)) hK2 fun b hb hF=>by have:=hF.1;omega) _ _ hat)
theorem fieldsIn_c (f:Fs) (hF:∀ d∈f.fds,FieldP d.ns d.t d.tp d.tag):FieldsInP f:=by
 intro w B bb s meth o c l hB hl hBb hok hsz
 rw [Fs.toks_fds] at hB
 rw [Fs.nds_fds] at hl hsz
 rw [Fs.ok_fds] at hok
 generalize hfs:f.fds=fs at *
 have hnd:(fl f.nds).k=⟨#[102,105,101,108,100,115]⟩∧(fl f.nds).t=⟨#[]⟩:=⟨rfl,rfl⟩
 rw [hnd.1,hnd.2]
 have hlt:=hB.lt
 obtain ⟨p,cp,rfl,hc,_⟩:=id hl
 have hlen:fs.length≤400:=by have:=Nd.sizeL_length (fs.map Fd.nd);simp at this;omega
 have HL:Hid (Ls w B (.slice p (fs.map Fd.nd).length cp) (fs.map Fd.nd)):=hl
 have HB:=hd_ hB
 have HO:=hd_ hok
 have HF:=hd_ hF
 have HS:=hd_ hsz
 have Hfs:=hd_ hfs
 simp only [lm_] at hc ⊢
 clear hB hl hok hF hsz hfs hnd
 go_enter Tryz.func84,Tryz.ntmps84
 go_wp2_with fail
 refine (next_c _ bb o (fdsToks false meth true fs++c::l) (HB.out.on (xb:=w.heap.size) ((Kp.refl (On w.heap.size) w).alloc _) (by omega))).mono ?_
 rintro e w1 ⟨rfl,hB1,hK1⟩
 have sz1:w.heap.size+1≤w1.heap.size:=by have:=hK1.size;simp at this;omega
 obtain ⟨xb1,x0,x1,x2,xs⟩:=box3 (newOf w _) hK1 (On.not hlt)
 have HK1:=hd_ (((Kp.refl (On bb) w).alloc _).trans' hK1)
 have HB1:=hd_ hB1
 clear hK1 hB1 xb1
 go_wp2_with fail
 have HR:Hid (FlR w bb w1.heap.size o fs false meth (c::l) 0 (w1.alloc (.cells #[.int .i64 o,.slice none 0 0,.int .i64 0] 102))) :=
  ⟨[],fs,[],.slice none 0 0,rfl,rfl,newOf w1 _,.inl ⟨rfl,rfl⟩,rfl,HB1.out.on (xb:=w1.heap.size) ((Kp.refl (On w1.heap.size) w1).alloc _) (by omega),HK1.out.alloc _⟩
 go_loopw [17] (fun i wr=>∃ k:Nat,k≤fs.length∧i=.int .i64 k∧FlR w bb w1.heap.size o fs false meth (c::l) k wr) (fun i _=>fs.length - (intOf i).toNat)
 case atStart=>exact ⟨0,Nat.zero_le _,rfl,HR.out⟩
 case round =>
  obtain ⟨k,hk,rfl,hr⟩:=hrel
  by_cases hlt':k < fs.length
  ·obtain ⟨done,todo,us,v,hns,hk',hxk,hrow,hat,hbld,hkp⟩:=hr
   have hul:=hat.length
   obtain ⟨d,todo',rfl⟩:∃ n todo',todo=n::todo':=by
    cases todo with
    | nil=>rw [hns] at hlt';simp at hlt';omega
    | cons n t=>exact ⟨n,t,rfl⟩
   have hdm:d∈fs:=by rw [hns];simp
   have hsz:=hkp.size
   have hne:(fs.map Fd.nd)[k]?=some d.nd:=by rw [hns,hk'];simp
   obtain ⟨b,oo,c',q,dd,he,_,hb,hi,h1,h2,h3,h4,h5⟩:=(HL.out.below hkp (by omega) (fun b hb h=>by omega)).get hne
   cases he
   simp only [Fd.nd,fdNd,Nd.k,Nd.t,Nd.l,lc_,lm_] at h1 h2 h3 h4
   have H:Hid (fs=done++d::todo'∧k=done.length∧wr.heap[w1.heap.size]?=some (.cells #[.int .i64 o,v,.int .i64 0] 102 (0,0))∧Row wr (Fr (w1.heap.size+1)) 92 v us∧FdsAt wr (Ex (w1.heap.size+1) v) done us∧Bld wr bb (fdsToks false meth done.isEmpty (d::todo')++c::l)∧Kp (On bb) w wr∧us.length=done.length∧d∈fs) :=
    ⟨hns,hk',hxk,hrow,hat,hbld,hkp,hul,hdm⟩
   have H4:=hd_ h4
   have HV:Hid (∀ bk,v.ownBlock=some bk→w1.heap.size+1≤bk∧bk < wr.heap.size):=by
    intro bk hb
    rcases hrow with ⟨rfl,_⟩ | ⟨g',cap',cur,rfl,hF,hg,_⟩
    ·simp [Value.ownBlock] at hb
    ·simp only [Value.ownBlock,Option.some.injEq] at hb
     subst hb
     exact ⟨hF,ltb hg⟩
   obtain ⟨vp,vc,rfl⟩:=hrow.form
   have xl:=ltb hxk
   clear hns hrow hat hbld hkp h4 hne hi hul hxk hdm x0 x1 x2
   clear hk'
   go_wp2_with fail
   obtain ⟨w2,hw2⟩:∃ W,wr.alloc (.cells #[.string ⟨#[102,105,101,108,100]⟩,.string d.tag,.slice q (d.ns.length+1) dd] 24)=W:=⟨_,rfl⟩
   rw [hw2]
   have hb2:w2.heap[wr.heap.size]?=some (.cells #[.string ⟨#[102,105,101,108,100]⟩,.string d.tag,.slice q (d.ns.length+1) dd] 24 (0,0)):=by rw [← hw2];exact newOf wr _
   have KT:Kp (On bb) wr w2:=by rw [← hw2];exact (Kp.refl (On bb) wr).alloc _
   have hB2:Bld w2 bb (d.toks meth++(fdsToks false meth false todo'++c::l)):=by
    have:=H.out.2.2.2.2.2.1
    simp only [fdsToks,Bool.false_and,Bool.false_eq_true,if_false,List.nil_append,aa_] at this
    rw [← hw2]
    exact this.on (xb:=wr.heap.size) ((Kp.refl (On wr.heap.size) wr).alloc _) (by omega)
   have y0:=cO hb2 0 _ rfl
   have y1:=cO hb2 1 _ rfl
   have y2:=cO hb2 2 _ rfl
   have ys:=ltb hb2
   have z1:w2.cell? ⟨w1.heap.size,1,none⟩=some _:=cO (KT.at H.out.2.2.1 (by omega)) 1 _ rfl
   have H2:=a3_ hB2 KT hb2
   clear hB2 KT hb2 hw2
   have sz2:=H2.out.2.1.size
   have FC0:=(HF.out d H.out.2.2.2.2.2.2.2.2) w2.drew B bb (.slice q (d.ns.length+1) dd) meth (fdsToks false meth false todo'++c::l)
    (show Bld w2 bb _ from by simpa [Fd.toks] using H2.out.1) (show (fdNd d.ns d.t d.tag).In w2.drew B _ from (show (fdNd d.ns d.t d.tag).In wr B _ from H4.out).below H2.out.2.1.drew (by omega) (fun b hb h=>by omega)) hBb
    ((HO.out d H.out.2.2.2.2.2.2.2.2).2.1) ((HO.out d H.out.2.2.2.2.2.2.2.2).2.2.1) ((HO.out d H.out.2.2.2.2.2.2.2.2).2.2.2.1) ((HO.out d H.out.2.2.2.2.2.2.2.2).2.2.2.2)
    (Nat.le_trans (Nd.sizeL_mem (List.mem_map_of_mem (f:=Fd.nd) H.out.2.2.2.2.2.2.2.2)) HS.out)
   have FC:=hd_ FC0
   have f1:=fO (H2.out.2.1.at H.out.2.2.1 (by omega)) 1
   have n1:=World.new_ne w2 _ z1
   have n2:=World.new_ne w2 _ y0
   clear FC0
   go_region_law
    (first
      | (refine step_is_call 58 rfl ?_;go_simp;go_at_call 58;refine FC.out.mono ?_;rintro e w3 ⟨⟨u,rfl,hu⟩,hB3,hK3⟩;obtain ⟨bu,rfl⟩:=Fd.at.ptr (d:=d) hu
         have sz3:w2.heap.size≤w3.heap.size:=hK3.size
         have zz1:w3.cell? ⟨w1.heap.size,1,none⟩=some (.slice vp us.length vc):=(hK3.cell (show w1.heap.size < w2.heap.size by omega) (by omega)).trans z1
         have yy0:w3.cell? ⟨wr.heap.size,0,none⟩=some (.string ⟨#[102,105,101,108,100]⟩):=(hK3.cell (show wr.heap.size < w2.heap.size by omega) (by omega)).trans y0
         have yy1:w3.cell? ⟨wr.heap.size,1,none⟩=some (.string d.tag):=(hK3.cell (show wr.heap.size < w2.heap.size by omega) (by omega)).trans y1
         have yy2:w3.cell? ⟨wr.heap.size,2,none⟩=some (.slice q (d.ns.length+1) dd):=(hK3.cell (show wr.heap.size < w2.heap.size by omega) (by omega)).trans y2
         have ff1:w3.frozen? ⟨w1.heap.size,1,none⟩=false:=(hK3.frozen (show w1.heap.size < w2.heap.size by omega) (by omega)).trans f1
         have gg1:w1.heap.size < w3.heap.size:=by omega
         have gg2:wr.heap.size < w3.heap.size:=by omega
         have HR3:Hid (Row (w3.alloc (.cells #[.pointer (some ⟨bu,0,none⟩)] 92)) (Fr (w1.heap.size+1)) 92 (.slice vp us.length vc) us) :=
          Row.stay H.out.2.2.2.1 (fun i hi hF=>⟨(Below.heap_alloc w3 _ _ (by omega)).trans ((hK3.block i (show i < w2.heap.size by omega) (by omega)).trans (H2.out.2.1.block i hi (by omega))),hF⟩)
         have HC3:=hd_ (cO (newOf w3 (.cells #[.pointer (some ⟨bu,0,none⟩)] 92)) 0 _ rfl)
         have lw1:w1.heap.size < (w3.alloc (.cells #[.pointer (some ⟨bu,0,none⟩)] 92)).heap.size:=by rw [World.size_alloc];omega
         have lw2:wr.heap.size < (w3.alloc (.cells #[.pointer (some ⟨bu,0,none⟩)] 92)).heap.size:=by rw [World.size_alloc];omega
         have LW:=a2_ lw1 lw2
         clear lw1 lw2
         have zc1:=(World.cell?_alloc_past (w:=w3) (.cells #[.pointer (some ⟨bu,0,none⟩)] 92) w1.heap.size 1 (by omega)).trans zz1
         have yc0:=(World.cell?_alloc_past (w:=w3) (.cells #[.pointer (some ⟨bu,0,none⟩)] 92) wr.heap.size 0 (by omega)).trans yy0
         have yc1:=(World.cell?_alloc_past (w:=w3) (.cells #[.pointer (some ⟨bu,0,none⟩)] 92) wr.heap.size 1 (by omega)).trans yy1
         have yc2:=(World.cell?_alloc_past (w:=w3) (.cells #[.pointer (some ⟨bu,0,none⟩)] 92) wr.heap.size 2 (by omega)).trans yy2
         have fc1:=(World.frozen?_of_block (w:=w3) (a:=⟨w1.heap.size,1,none⟩) (Below.heap_alloc w3 (.cells #[.pointer (some ⟨bu,0,none⟩)] 92) w1.heap.size (by omega))).trans ff1
         have HC:=a5_ zc1 yc0 yc1 yc2 fc1
         clear zc1 yc0 yc1 yc2 fc1
         have HN:Hid (us.length≤1048576):=(by have:=H.out.2.2.2.2.2.2.2.1;have:=H.out.2.1;omega:us.length≤1048576)
         have H3:=a3_ hu hB3 hK3
         clear hu hB3 hK3)
      | (refine step_is_append rfl ?_
         refine step_append_row (c:=1) (by rfl) (.tmp 25) (.tmp 30) 100 (by rfl) Tryz.underlying100 Tryz.type92 rfl rfl (by decide) rfl (by rfl) HR3.out (by rfl) HC3.out (by rfl) HN.out (w3.heap.size+1) (by simp) ?_
         intro g cap w4 hrow4 hgrow4 hat4 hlt4
         have q1:some w1.heap.size≠(Value.slice vp us.length vc).ownBlock:=fun e=>by have:=(HV.out _ e.symm).1;omega
         have q2:some wr.heap.size≠(Value.slice vp us.length vc).ownBlock:=fun e=>by have:=(HV.out _ e.symm).2;omega
         have zw1:=(hgrow4.cell_far ⟨w1.heap.size,1,none⟩ LW.out.1 q1).trans HC.out.1
         have yw0:=(hgrow4.cell_far ⟨wr.heap.size,0,none⟩ LW.out.2 q2).trans HC.out.2.1
         have yw1:=(hgrow4.cell_far ⟨wr.heap.size,1,none⟩ LW.out.2 q2).trans HC.out.2.2.1
         have yw2:=(hgrow4.cell_far ⟨wr.heap.size,2,none⟩ LW.out.2 q2).trans HC.out.2.2.2.1
         have fw1:=(hgrow4.frozen_far ⟨w1.heap.size,1,none⟩ LW.out.1 q1).trans HC.out.2.2.2.2
         have H5:=a3_ hrow4 hgrow4 hat4
         clear hrow4 hgrow4 hat4 q1 q2))
   all_goals
    go_wp2
    go_roundw
    case rel =>
     refine ⟨k+1,by omega,by go_num,?_⟩
     exact FlR.step H.out.1 H.out.2.1 H.out.2.2.1 H.out.2.2.2.1 H.out.2.2.2.2.1 H.out.2.2.2.2.2.2.1 H3.out.2.1 (H2.out.2.1.drew.trans' H3.out.2.2) (Fd.at.on (F:=Fr w2.drew.heap.size) (d:=d) H3.out.1 (Kp.refl No _) (by intro b hb hF;exact ⟨id,Nat.le_trans sz2 hF⟩)) hlt (by omega) H5.out.1 H5.out.2.1 H5.out.2.2
    case measure=>simp [intOf];omega
  ·obtain ⟨done,todo,us,v,hns,hk',hxk,hrow,hat,hbld,hkp⟩:=hr
   have hto:todo=[]:=by
    cases todo with
    | nil=>rfl
    | cons n t=>rw [hns] at hlt';simp at hlt';omega
   subst hto
   rw [List.append_nil] at hns
   subst hns
   simp only [fdsToks,List.nil_append] at hbld
   have hsz:=hkp.size
   have H:=a5_ hxk hrow hat hbld hkp
   clear hrow hat hbld hkp hk' hxk x0 x1 x2
   go_wp2_with fail
   refine (next_c _ bb c l H.out.2.2.2.1).mono ?_
   rintro e w2 ⟨rfl,hB2,hK2⟩
   have hx2:=hK2.at H.out.1 (by omega)
   have z2:=cO hx2 2 _ rfl
   have f2:=fO hx2 2
   have H2:=a3_ hB2 hK2 hx2
   clear hB2 hK2 hx2
   go_wp2_with fail
   go_ret
   obtain ⟨hxk,hrow,hat,hbld,hkp⟩:=H.out
   obtain ⟨hB2,hK2,hx2⟩:=H2.out
   have hks:=(Kp.refl (On w1.heap.size) w2).setCell (p:=⟨w1.heap.size,2,none⟩) (fun _=>rfl) (.int .i64 c)
   refine ⟨⟨_,rfl,v,us,⟨_,rfl,by omega,setOf hx2 2 _⟩,?_,?_⟩,hB2.on hks (by omega),(hkp.trans' hK2).trans hks fun i hi h=>by omega⟩
   ·exact (hrow.stay (Stay.of_kp (F':=Fr (w1.heap.size+1)) hK2 fun b hb hF=>by omega)).stay (Stay.of_kp hks fun b hb hF=>by omega)
   ·rw [Fs.at_fds,Hfs.out]
    exact FdsAt.stay (Stay.of_kp hks fun b hb hF=>by omega) _ _ (FdsAt.stay (Stay.of_kp (F':=Fr (w1.heap.size+1)) hK2 fun b hb hF=>by have:=hF.1;omega) _ _ hat)
end
section
open Go Go.RowKit
theorem PStx.opn {w w1 w3:World} {base pb gb cap:Nat} {g at_:List Int} {e:Int} {out:List Pl} {gv av ov:Value} {p:Pl} (h:PStx w base pb g at_ e out gv av ov) (hk0:Kp No w w1)
 (hrow:PlRow w3 base (.slice (some ⟨gb,0,none⟩) (out.length+1) cap) (out++[p]))
 (hg:w1.grownBy w3 ov.ownBlock) :
 PStx (w3.setCell ⟨pb,3,none⟩ (.slice (some ⟨gb,0,none⟩) (out.length+1) cap)) base pb g at_ e (out++[p]) gv av (.slice (some ⟨gb,0,none⟩) (out.length+1) cap) ∧
  Kp (fun b=>b=pb∨ov.ownBlock=some b) w (w3.setCell ⟨pb,3,none⟩ (.slice (some ⟨gb,0,none⟩) (out.length+1) cap))∧w3.heap[pb]?=some (.cells #[gv,av,.int .i64 e,ov] 37 (0,0))∧Kp (fun b=>b=pb∨ov.ownBlock=some b) w w3:=by
 obtain ⟨h1,h2,h3,h4,h5,h6⟩:=h
 have hk3:Kp (fun b=>b=pb∨ov.ownBlock=some b) w w3:=((Kp.refl (fun b=>b=pb∨ov.ownBlock=some b) w).no hk0).grown hg fun k hk _=>.inr hk
 have hne:∀ b,ov.ownBlock=some b→b≠pb:=by
  intro b hb
  obtain ⟨_,cur,hc⟩:=h4.blk hb
  exact ne_blk hc h1 (by simp)
 have hpb3:w3.heap[pb]?=some (.cells #[gv,av,.int .i64 e,ov] 37 (0,0)):=by
  have h7:=hk0.at h1 (by simp)
  exact (hg.block pb (ltb h7) (fun e=>hne pb e.symm rfl)).trans h7
 have hk4:Kp (fun b=>b=pb) w3 (w3.setCell ⟨pb,3,none⟩ (.slice (some ⟨gb,0,none⟩) (out.length+1) cap)):=(Kp.refl (fun b=>b=pb) w3).setCell (p:=⟨pb,3,none⟩) (fun _=>rfl) _
 have hkk:=hk3.trans hk4 fun i _ h=>.inl h
 refine ⟨⟨setOf hpb3 3 _,?_,?_,?_,h5,Nat.le_trans h6 hkk.size⟩,hkk,hpb3,hk3⟩
 ·refine h2.stay fun b hb=>hkk.block b (by omega) ?_
  rintro (h | h)
  ·omega
  ·have:=(h4.blk h).1;omega
 ·refine (h3.keep fun b cur hc=>hkk.block b (ltb hc) ?_)
  rintro (h | h)
  ·exact ne_blk hc h1 (by simp) h
  ·obtain ⟨_,cur',hc'⟩:=h4.blk h
   rw [hc] at hc'
   simp at hc'
 ·refine hrow.on hk4 ?_
  rintro b hb h
  obtain ⟨_,cur,hc⟩:=hrow.blk hb
  exact ne_blk hc hpb3 (by simp) h
theorem open_c (w:World) (base pb:Nat) (g at_:List Int) (e:Int) (out:List Pl) (k t:ByteArray) (s:Value) (h:PSt w base pb g at_ e out) (he:0≤e) (he2:e≤1125899906842624) (ho:out.length≤1048575) (hf:∃ p n c,s=.slice p n c) :
 Calls Tryz.prog 29 #[.pointer (some ⟨pb,0,none⟩),.agg #[.string k,.string t,s]] w fun e' w'=>e'=.returned (.int .i64 out.length)∧PSt w' base pb g at_ e (out++[⟨k,e+gapOf g at_.length,0⟩])∧Kq base w w':=by
 obtain ⟨sp,sn,sc,rfl⟩:=hf
 have H:=hd_ h
 obtain ⟨gv,av,ov,h⟩:=h
 have h:PStx w base pb g at_ e out gv av ov:=h
 have lpb:=ltb h.1
 obtain ⟨hg1,hg2⟩:=gapOf_le g at_.length
 have hwr:IntKind.i64.wrap (e+gapOf g at_.length)=e+gapOf g at_.length:=IntWalk.i64_in _ (by omega)
 obtain ⟨W0,hW0⟩:∃ W0,W0=w.alloc (.cells #[.string k,.string t,.slice sp sn sc] 24 (0,0)):=⟨_,rfl⟩
 have k0:Kp No w W0:=by rw [hW0];exact (Kp.refl No w).alloc _
 have hb0:W0.heap[w.heap.size]?=some (.cells #[.string k,.string t,.slice sp sn sc] 24 (0,0)):=by rw [hW0];exact newOf w _
 have h0:=h.drew k0
 obtain ⟨op,oc,hov⟩:=h.2.2.2.1.form
 subst hov
 have c2:W0.cell? ⟨pb,2,none⟩=some (.int .i64 e):=cO h0.1 2 _ rfl
 have c3:W0.cell? ⟨pb,3,none⟩=some (.slice op out.length oc):=cO h0.1 3 _ rfl
 have f3:=fO h0.1 3
 have b0:W0.cell? ⟨w.heap.size,0,none⟩=some (.string k):=cO hb0 0 _ rfl
 have n1:=World.new_ne W0 _ c3
 have n2:=World.new_ne W0 _ b0
 have lb0:=ltb hb0
 have lpb0:=ltb h0.1
 have hne1:pb≠w.heap.size:=by omega
 have hne2:w.heap.size≠pb:=by omega
 have HGC:Hid (∀ W,Kp No W0 W→Calls Tryz.prog 26 #[.pointer (some ⟨pb,0,none⟩)] W fun e' w'=>e'=.returned (.int .i64 (gapOf g at_.length))∧∃ m,w'=W.drewN m) :=
  fun W hk=>gap_c W base pb g at_ e out ((H.out.on k0 (by simp)).on hk (by simp))
 have HNE:Hid (∀ b,(Value.slice op out.length oc).ownBlock=some b→b≠pb∧b≠w.heap.size):=by
  intro b hb
  obtain ⟨_,cur,hc⟩:=h0.2.2.2.1.blk hb
  exact ⟨ne_blk hc h0.1 (by simp),ne_blk hc hb0 (by simp)⟩
 have HO:Hid (out.length≤1048575):=ho
 have HX:=a3_ h0 k0 hb0
 clear h h0 k0 hb0 ho
 go_enter Tryz.func29,Tryz.ntmps29
 go_wp2_with fail
 rw [← hW0]
 clear hW0
 go_region_law (first
  | (refine step_is_append rfl ?_
     refine step_append_pl (c:=1) (p:=⟨k,e+gapOf g at_.length,0⟩) (by rfl) (.tmp 9) (.tmp 20) 27 (by rfl) Tryz.underlying27 Tryz.type32 rfl rfl (by decide) rfl (by rfl) (HX.out.1.2.2.2.1.on (HK9.out.alloc _) (by simp)) (by rfl) (newOf w9 _) (by have:=HO.out;omega) (by have:=HX.out.1.2.2.2.2.2;have:=HK9.out.size;simp;omega) (w9.heap.size+1) (by simp) ?_
     intro gb cap w3 hrow3 hgrow3 hat3 hlt3
     have hq:=PStx.opn HX.out.1 (HK9.out.alloc _) hrow3 hgrow3
     have d2:w3.cell? ⟨pb,2,none⟩=some (.int .i64 e):=cO hq.2.2.1 2 _ rfl
     have d3:w3.cell? ⟨pb,3,none⟩=some (.slice op out.length oc):=cO hq.2.2.1 3 _ rfl
     have g3:=fO hq.2.2.1 3
     have lp3:=ltb hq.2.2.1
     have d0:w3.cell? ⟨w.heap.size,0,none⟩=some (.string k):=(hq.2.2.2.cell lb0 (fun h=>h.elim (fun h=>hne2 h) (fun h=>(HNE.out _ h).2 rfl))).trans b0
     have HQ:=hd_ hq
     clear hrow3 hgrow3 hat3 hlt3 hq)
  | (go_simp
     go_at_call 26
     refine (HGC.out _ (by first | exact (Kp.refl No W0).drew | exact (Kp.refl No W0).drewN _)).mono ?_
     rintro e9 w9 ⟨rfl,m,hw9⟩
     have k9:Kp No W0 w9:=by rw [hw9];first | exact ((Kp.refl No W0).drew).drewN _ | exact ((Kp.refl No W0).drewN _).drewN _
     have y2:=(k9.cell lpb0 (by simp)).trans c2
     have y3:=(k9.cell lpb0 (by simp)).trans c3
     have yf:=(k9.frozen lpb0 (by simp)).trans f3
     have yb:=(k9.cell lb0 (by simp)).trans b0
     have l9:pb < w9.heap.size:=Nat.lt_of_lt_of_le lpb0 k9.size
     have l9b:w.heap.size < w9.heap.size:=Nat.lt_of_lt_of_le lb0 k9.size
     have n9:=World.new_ne w9 _ y3
     have n9b:=World.new_ne w9 _ yb
     have HK9:=hd_ k9
     clear hw9 k9
     (try go_wp2_with fail)))
 all_goals
  have ho9:=HO.out
  go_wp2_with fail
  go_ret
  refine ⟨by first | rfl | (simp;done) | (simp;go_num),⟨_,_,_,HQ.out.1⟩,(Kq.of_no HX.out.2.1).trans (Kq.of_kp HQ.out.2.1 ?_ ?_)⟩
  ·rintro i (h | h)
   ·have:=HX.out.1.2.2.2.2.1;omega
   ·exact (HX.out.1.2.2.2.1.blk h).1
  ·rintro i cur T fr (h | h) hi
   ·subst h
    rw [HX.out.1.1] at hi
    simp at hi
    exact .inl hi.2.1.symm
   ·obtain ⟨_,cur',hc'⟩:=HX.out.1.2.2.2.1.blk h
    rw [hc'] at hi
    simp at hi
    exact .inr (.inr hi.2.1.symm)
theorem pident_c (w:World) (s:ByteArray):Calls Tryz.prog 33 #[.string s] w fun e w'=>e=.returned (.agg #[.string ⟨#[110,97,109,101]⟩,.string s,.slice none 0 0])∧Kp No w w':=by
 go_enter Tryz.func33,Tryz.ntmps33
 go_wp2_with fail
 exact bodyPost_ret (v:=.agg #[.string ⟨#[110,97,109,101]⟩,.string s,.slice none 0 0]) (by simp [results,Tryz.results33,go_sem]) rfl ⟨rfl,(Kp.refl No _).alloc _⟩
theorem pliteral_c (w:World) (s:ByteArray):Calls Tryz.prog 31 #[.string s] w fun e w'=>e=.returned (.agg #[.string ⟨#[108,105,116,101,114,97,108]⟩,.string s,.slice none 0 0])∧Kp No w w':=by
 go_enter Tryz.func31,Tryz.ntmps31
 go_wp2_with fail
 exact bodyPost_ret (v:=.agg #[.string ⟨#[108,105,116,101,114,97,108]⟩,.string s,.slice none 0 0]) (by simp [results,Tryz.results31,go_sem]) rfl ⟨rfl,(Kp.refl No _).alloc _⟩
theorem plCells_append (a b:List Pl):plCells (a++b)=plCells a++plCells b:=by
 unfold plCells
 rw [List.flatMap_append]
theorem PlRow.close {w:World} {base gb n cap:Nat} {l1 mid:List Pl} {k:ByteArray} {a b e:Int} (h:PlRow w base (.slice (some ⟨gb,0,none⟩) n cap) (l1++⟨k,a,b⟩::mid)) :
 PlRow (w.setCell ⟨gb,l1.length*3+2,none⟩ (.int .i64 e)) base (.slice (some ⟨gb,0,none⟩) n cap) (l1++⟨k,a,e⟩::mid):=by
 obtain ⟨h1,h2⟩:=h
 refine ⟨by simpa [plCells_len] using h1,?_⟩
 rcases h2 with ⟨h2,_⟩ | ⟨g',cap',cur,he,hb,h3,h4,h5,h6,h7⟩
 ·cases h2
 ·have h9:some (⟨gb,0,none⟩:Addr)=some ⟨g',0,none⟩:=by injection he
  obtain rfl:gb=g':=by injection h9 with h9;injection h9
  have h10:n=(l1++⟨k,a,b⟩::mid).length∧cap=cap':=by injection he with _ x y;exact ⟨x,y⟩
  obtain ⟨rfl,rfl⟩:=h10
  refine .inr ⟨gb,cap,cur.setIfInBounds (l1.length*3+2) (.int .i64 e),by simp,hb,setOf h3 _ _,by simpa using h4,h5,by simpa using h6,?_⟩
  have hl:(l1++(⟨k,a,e⟩:Pl)::mid).length=(l1++(⟨k,a,b⟩:Pl)::mid).length:=by simp
  rw [hl,Array.toList_setIfInBounds,List.take_set,h7,plCells_append,plCells_append,plCells_cons,plCells_cons]
  rw [List.set_append_right _ _ (by rw [plCells_len];omega),plCells_len,show l1.length*3+2 - l1.length*3=2 by omega]
  rfl
theorem PStx.close {w w':World} {base pb gb n cap:Nat} {g at_:List Int} {e e2:Int} {l1 mid:List Pl} {k:ByteArray} {a b:Int} {gv av:Value} (h:PStx w base pb g at_ e (l1++⟨k,a,b⟩::mid) gv av (.slice (some ⟨gb,0,none⟩) n cap)) (hk:Kp No w w') :
 PSt (w'.setCell ⟨gb,l1.length*3+2,none⟩ (.int .i64 e2)) base pb g at_ e (l1++⟨k,a,e2⟩::mid)∧Kq base w (w'.setCell ⟨gb,l1.length*3+2,none⟩ (.int .i64 e2)):=by
 obtain ⟨h1,h2,h3,h4,h5,h6⟩:=h.drew hk
 obtain ⟨hbg,cur,hc⟩:=h4.blk (g:=gb) rfl
 have hne:pb≠gb:=ne_blk h1 hc (by simp)
 have hk2:Kp (fun b=>b=gb) w' (w'.setCell ⟨gb,l1.length*3+2,none⟩ (.int .i64 e2)):=(Kp.refl (fun b=>b=gb) w').setCell (p:=⟨gb,l1.length*3+2,none⟩) (fun _=>rfl) _
 refine ⟨⟨gv,av,_,setOther h1 hne _,h2.stay fun b hb=>hk2.block b (by omega) (by omega),h3.keep fun b cur' hc'=>hk2.block b (ltb hc') ?_,h4.close,h5,Nat.le_trans h6 hk2.size⟩,(Kq.of_no hk).trans (Kq.of_kp hk2 (fun i h=>by subst h;exact hbg) fun i cur' T fr h hi=>by subst h;rw [hc] at hi;simp at hi;exact .inr (.inr hi.2.1.symm))⟩
 exact ne_blk hc' hc (by simp)
end
section
open Go Go.RowKit
theorem Ints.of_row {w:World} {F:Nat→Prop} {v:Value} {l:List Int} (h:Row w F 3 v (l.map fun q=>.int .i64 q)):Ints w w.heap.size v l:=by
 rcases h with ⟨rfl,h⟩ | ⟨g,cap,cur,rfl,_,hg,h1,h2,h3,h4⟩
 ·have h0:l=[]:=by simpa using h
  subst h0
  exact ⟨none,0,rfl,Nat.le_refl _,.inl rfl⟩
 ·rw [lm_] at h1 h4 ⊢
  refine ⟨_,cap,rfl,h1,.inr ⟨g,0,rfl,ltb hg,fun i q hq=>cO hg _ _ ?_⟩⟩
  have hi:i < l.length:=(List.getElem?_eq_some_iff.1 hq).1
  have h5:(cur.toList.take l.length)[i]?=some (.int .i64 q):=by rw [h4,List.getElem?_map,hq];rfl
  rw [List.getElem?_take,if_pos hi] at h5
  simpa using h5
theorem Ints.form {w:World} {B:Nat} {v:Value} {l:List Int} (h:Ints w B v l):∃ p c,v=.slice p l.length c:=by
 obtain ⟨p,c,rfl,_⟩:=h
 exact ⟨p,c,rfl⟩
theorem equal_c (w:World) (b1 b2:Nat) (u v:Value) (l:List Pl) (hu:PlRow w b1 u l) (hv:PlRow w b2 v l) (hlen:l.length≤1048576) :
 Calls Tryz.prog 9 #[u,v] w fun e w'=>e=.returned (.bool true)∧Kp No w w':=by
 have HU:=hd_ hu;have HV:=hd_ hv
 obtain ⟨p1,c1,rfl⟩:=hu.form
 obtain ⟨p2,c2,rfl⟩:=hv.form
 clear hu hv
 go_enter Tryz.func9,Tryz.ntmps9
 go_wp2_with fail
 go_loopw [5,13] (fun _ i wr=>∃ k:Nat,k≤l.length∧i=.int .i64 k∧Kp No w wr) (fun _ i _=>l.length - (intOf i).toNat)
 case atStart=>exact ⟨0,Nat.zero_le _,rfl,Kp.refl No _⟩
 case round =>
  obtain ⟨k,hk,rfl,hkp⟩:=hrel
  by_cases hlt:k < l.length
  ·obtain ⟨x,hx⟩:∃ x,l[k]?=some x:=⟨_,List.getElem?_eq_getElem hlt⟩
   obtain ⟨g1,cc1,he1,_,_,_,_,s1,s2,s3⟩:=(HU.out.on hkp (by simp)).get hx
   obtain ⟨g2,cc2,he2,_,_,_,_,t1,t2,t3⟩:=(HV.out.on hkp (by simp)).get hx
   cases he1
   cases he2
   have HK:=hd_ hkp
   clear hkp hx
   go_wp2_with fail
   go_region_held3 (fun w'=>w'.cell? ⟨g1,k*3,none⟩=some (.string x.k)∧w'.cell? ⟨g1,k*3+1,none⟩=some (.int .i64 x.a)∧w'.cell? ⟨g1,k*3+2,none⟩=some (.int .i64 x.b)∧w'.cell? ⟨g2,k*3,none⟩=some (.string x.k)∧w'.cell? ⟨g2,k*3+1,none⟩=some (.int .i64 x.a)∧w'.cell? ⟨g2,k*3+2,none⟩=some (.int .i64 x.b))
    (first | (go_keep;done))
    (fail)
   go_wp2_with fail
   go_roundw
   case rel=>exact ⟨k+1,by omega,by go_num,HK.out.drew⟩
   case measure=>simp [intOf];omega
  ·have HK:=hd_ hkp
   clear hkp
   go_wp2_with fail
   go_ret
   exact ⟨rfl,HK.out⟩
end
section
open Go Go.RowKit
abbrev ndv (n:Nd) (s:Value):Value:=.agg #[.string n.k,.string n.t,s]
theorem bs_lit {t:ByteArray} {l:List UInt8} (h:t.toList=l):t=⟨⟨l⟩⟩:=by
 rw [ByteArray.toList_eq] at h
 cases t with | mk d=>cases d with | mk l'=>simpa using h
theorem bs_lit_iff {t:ByteArray} {l:List UInt8}:t=⟨⟨l⟩⟩↔t.toList=l:=⟨fun h=>by subst h;rw [ByteArray.toList_eq],bs_lit⟩
abbrev Says (w:World) (P:Prop) (e:Ending) (w':World):Prop:=∃ b,e=.returned (.bool b)∧Kp No w w'∧(b=true→P)
theorem miss_c (n:Nd) (w:World) (B:Nat) (s:Value) (h:n.In w B s) :
 Calls Tryz.prog 25 #[ndv n s] w fun e w'=>∃ b,e=.returned (.bool b)∧Kp No w w'∧(b=true↔n=.miss):=by
 obtain ⟨q,c,rfl,hc⟩:=h.form
 obtain ⟨k,t,l⟩:=n
 clear h
 go_enter Tryz.func25,Tryz.ntmps25
 go_wp2_with fail
 ·rename_i h1 h2
  go_ret
  refine ⟨_,rfl,(Kp.refl No _).alloc _,?_⟩
  have e1:=bs_lit h1;have e2:=bs_lit h2
  simp only [Nd.k,Nd.t] at e1 e2
  subst e1;subst e2
  simp [Nd.miss,Nd.l]
 ·rename_i h1 h2
  go_ret
  refine ⟨_,rfl,(Kp.refl No _).alloc _,?_⟩
  simp only [Nd.miss,Nd.mk.injEq]
  simp only [Nd.t] at h2
  exact ⟨fun h=>by simp at h,fun h=>absurd (bs_lit_iff.1 h.2.1) h2⟩
 ·rename_i h1
  go_ret
  refine ⟨_,rfl,(Kp.refl No _).alloc _,?_⟩
  simp only [Nd.miss,Nd.mk.injEq]
  simp only [Nd.k] at h1
  exact ⟨fun h=>by simp at h,fun h=>absurd (bs_lit_iff.1 h.1) h1⟩
theorem isname_c (n:Nd) (w:World) (B:Nat) (s:Value) (h:n.In w B s) :
 Calls Tryz.prog 51 #[ndv n s] w (Says w (∃ s,n=.name s)):=by
 obtain ⟨q,c,rfl,hc⟩:=h.form
 obtain ⟨k,t,l⟩:=n
 clear h
 go_enter Tryz.func51,Tryz.ntmps51
 go_wp2_with fail
 ·rename_i h1
  go_ret
  refine ⟨_,rfl,(Kp.refl No _).alloc _,fun h=>⟨t,?_⟩⟩
  have e1:=bs_lit h1
  simp only [Nd.k] at e1
  subst e1
  simp only [Nd.l,beq_iff_eq,Int.natCast_eq_zero,List.length_eq_zero_iff] at h
  subst h
  rfl
 ·go_ret
  exact ⟨_,rfl,(Kp.refl No _).alloc _,fun h=>by simp at h⟩
theorem bare_c (n:Nd) (w:World) (B:Nat) (s:Value) (h:n.In w B s) :
 Calls Tryz.prog 53 #[ndv n s] w (Says w (n.t=⟨#[]⟩)):=by
 obtain ⟨q,c,rfl,hc⟩:=h.form
 obtain ⟨k,t,l⟩:=n
 clear h
 go_enter Tryz.func53,Tryz.ntmps53
 go_wp2_with fail
 go_ret
 exact ⟨_,rfl,(Kp.refl No _).alloc _,fun h=>bs_lit (by simpa using h)⟩
theorem any_c (n:Nd) (w:World) (B:Nat) (s:Value) (h:n.In w B s) :
 Calls Tryz.prog 54 #[ndv n s] w (Says w True):=by
 obtain ⟨q,c,rfl,hc⟩:=h.form
 obtain ⟨k,t,l⟩:=n
 clear h
 go_enter Tryz.func54,Tryz.ntmps54
 go_wp2_with fail
 go_ret
 exact ⟨_,rfl,(Kp.refl No _).alloc _,fun _=>trivial⟩
theorem fits_c (n:Nd) (w:World) (B:Nat) (s:Value) (h:n.In w B s) :
 Calls Tryz.prog 5 #[ndv n s] w (Says w True):=by
 obtain ⟨q,c,rfl,hc⟩:=h.form
 obtain ⟨k,t,l⟩:=n
 clear h
 go_enter Tryz.func5,Tryz.ntmps5
 go_wp2_with fail
 all_goals
  go_ret
  exact ⟨_,rfl,(Kp.refl No _).alloc _,fun _=>trivial⟩
end
section
open Go Go.RowKit
theorem Nd.size_pos (n:Nd):1≤n.size:=by cases n;simp only [Nd.size];omega
theorem Nd.sizeL_get:∀ (l:List Nd) (i:Nat) (x:Nd),l[i]?=some x→x.size≤Nd.sizeL l
 | [],_,_,h=>by simp at h
 | n::l,0,x,h=>by
  simp only [List.getElem?_cons_zero,Option.some.injEq] at h
  subst h
  simp only [Nd.sizeL];omega
 | n::l,i+1,x,h=>by
  simp only [List.getElem?_cons_succ] at h
  have:=Nd.sizeL_get l i x h
  simp only [Nd.sizeL];omega
theorem Nd.length_le:∀ (l:List Nd),l.length≤Nd.sizeL l
 | []=>by simp
 | n::l=>by
  have:=Nd.length_le l
  have:=n.size_pos
  simp only [Nd.sizeL,lc_];omega
theorem Nd.shortL_of:∀ (l:List Nd),(∀ (j:Nat) (x:Nd),l[j]?=some x→x.short)→Nd.shortL l
 | [],_=>by simp only [Nd.shortL]
 | n::l,h=>by
  simp only [Nd.shortL]
  exact ⟨h 0 n rfl,Nd.shortL_of l fun j x hx=>h (j+1) x (by simpa using hx)⟩
theorem short_c:∀ (m:Nat) (n:Nd),n.size≤m→m≤400→∀ (w:World) (B:Nat) (s:Value),n.In w B s→B≤w.heap.size →
 Calls Tryz.prog 11 #[ndv n s] w (Says w n.short):=by
 intro m
 induction m with
 | zero=>intro n h;have:=n.size_pos;omega
 | succ m IH =>
 intro n hn hm w B s hin hB
 have hL:=hd_ (Nd.In_iff.1 hin)
 obtain ⟨q,c,rfl,hc⟩:=hin.form
 obtain ⟨k,t,l⟩:=n
 have IH:=hd_ IH
 simp only [Nd.size] at hn
 have hlen:=Nd.length_le l
 have hsz:=hd_ hn
 have hl4:l.length≤400:=by omega
 simp only [Nd.l] at hc
 show Calls _ _ #[.agg #[.string k,.string t,.slice q l.length c]] _ _
 have hL:Hid (Ls w B (.slice q l.length c) l):=hL
 clear hin hn hlen
 go_enter Tryz.func11,Tryz.ntmps11
 go_wp2_with fail
 ·go_ret
  exact ⟨_,rfl,(Kp.refl No _).alloc _,fun h=>by simp at h⟩
 ·rename_i ht
  have HT:=hd_ ht
  go_loopw [4,12] (fun _ i wr=>∃ j:Nat,j≤l.length∧i=.int .i64 j∧Kp No w wr∧∀ a x,a < j→l[a]?=some x→x.short) (fun _ i _=>l.length - (intOf i).toNat)
  case atStart=>exact ⟨0,Nat.zero_le _,rfl,(Kp.refl No _).alloc _,fun a x h=>by omega⟩
  case round =>
   obtain ⟨j,hj,rfl,hkp,hsh⟩:=hrel
   by_cases hlt:j < l.length
   ·obtain ⟨x,hx⟩:∃ x,l[j]?=some x:=⟨_,List.getElem?_eq_getElem hlt⟩
    have hsx:=hd_ (Nd.sizeL_get l j x hx)
    have hks:=hkp.size
    obtain ⟨b,o,c',q',d,he,_,hb,hi,h1,h2,h3,h4,h5⟩:=(hL.out.stay (w':=wr) (fun i hi=>hkp.block i (by omega) (by simp))).get hx
    cases he
    have hX:=a4_ h4 hkp hsh hx
    clear h4 hkp hsh hx hi
    go_wp2_with fail
    refine (IH.out x (by have:=hsx.out;have:=hsz.out;omega) (by omega) _ B _ (hX.out.1.stay fun b hb=>Below.heap_alloc _ _ _ (by omega)) (by simp;omega)).mono ?_
    rintro e w2 ⟨b2,rfl,hk2,hp⟩
    have hk2:Kp No wr w2:=((Kp.refl No wr).alloc _).trans' hk2
    have H2:=a2_ hk2 hp
    clear hk2 hp
    cases b2
    ·go_wp2_with fail
     go_ret
     exact ⟨_,rfl,hX.out.2.1.trans' H2.out.1,fun h=>by simp at h⟩
    ·go_wp2_with fail
     go_roundw
     case rel =>
      refine ⟨j+1,by omega,by go_num,hX.out.2.1.trans' H2.out.1,fun a y ha hy=>?_⟩
      by_cases haj:a=j
      ·subst haj
       rw [hX.out.2.2.2] at hy
       cases hy
       exact H2.out.2 (by trivial)
      ·exact hX.out.2.2.1 a y (by omega) hy
     case measure=>simp [intOf];omega
   ·have hjl:j=l.length:=by omega
    have hX:=a2_ hkp hsh
    clear hkp hsh
    go_wp2_with fail
    go_ret
    refine ⟨_,rfl,hX.out.1,fun _=>?_⟩
    simp only [Nd.short]
    exact ⟨by have ht:=HT.out;first | omega | trace_state,Nd.shortL_of l fun a x hx=>hX.out.2 a x (by have:=(List.getElem?_eq_some_iff.1 hx).1;omega) hx⟩
end
section
open Go Go.RowKit
theorem Nd.sizeL_take:∀ (l:List Nd) (i:Nat) (x:Nd),l[i]?=some x→Nd.sizeL (l.take (i+1))=Nd.sizeL (l.take i)+x.size
 | [],_,_,h=>by simp at h
 | n::l,0,x,h=>by
  simp only [List.getElem?_cons_zero,Option.some.injEq] at h
  subst h
  simp [Nd.sizeL]
 | n::l,i+1,x,h=>by
  simp only [List.getElem?_cons_succ] at h
  have:=Nd.sizeL_take l i x h
  simp only [List.take_succ_cons,Nd.sizeL];omega
def Cnt (w:World) (bl:Nat) (L:Nat):Prop:=w.heap[bl]?=some (.cells #[.int .i64 L] 3 (0,0))
theorem count_c:∀ (m:Nat) (n:Nd),n.size≤m→∀ (w:World) (B bl L:Nat) (dp:Int) (s:Value),n.In w B s→B≤bl→Cnt w bl L→L≤400→0≤dp→dp≤61 →
 Calls Tryz.prog 17 #[ndv n s,.pointer (some ⟨bl,0,none⟩),.int .i64 dp] w fun e w'=>∃ b,e=.returned (.bool b)∧Kp (On bl) w w'∧(b=true→n.size≤L∧Cnt w' bl (L - n.size)):=by
 intro m
 induction m with
 | zero=>intro n h;have:=n.size_pos;omega
 | succ m IH =>
 intro n hn w B bl L dp s hin hB hcnt hL hd0 hd1
 have hLs:=hd_ (Nd.In_iff.1 hin)
 obtain ⟨q,c,rfl,hc⟩:=hin.form
 obtain ⟨k,t,l⟩:=n
 replace IH:=hd_ IH
 simp only [Nd.size] at hn
 have hsz:=hd_ hn
 simp only [Nd.l] at hc
 show Calls _ _ #[.agg #[.string k,.string t,.slice q l.length c],_,_] _ _
 have hLs:Hid (Ls w B (.slice q l.length c) l):=hLs
 have x0:=cO hcnt 0 _ rfl
 have x1:=fO hcnt 0
 have hbl:=ltb hcnt
 have HC:=hd_ hcnt
 clear hin hn hcnt
 have hend:∀ (w':World),Kp (On bl) w w'→∃ b,Ending.returned (.bool false)=.returned (.bool b)∧Kp (On bl) w w'∧(b=true→(Nd.mk k t l).size≤L∧Cnt w' bl (L - (Nd.mk k t l).size)):=fun w' hw=>⟨false,rfl,hw,fun h=>by simp at h⟩
 have HEND:=hd_ hend
 clear hend
 by_cases h1:(L:Int) - 1 < 0
 ·go_enter Tryz.func17,Tryz.ntmps17
  go_wp2_with fail
  go_quiet (fail)
  go_wp2_with fail
  go_ret
  exact HEND.out _ ((((Kp.refl (On bl) _).setCell (p:=⟨bl,0,none⟩) (fun _=>rfl) _).alloc _).drewN _)
 have d1:=decide_eq_false h1
 by_cases h2:60 < dp
 ·go_enter Tryz.func17,Tryz.ntmps17
  go_wp2_with fail
  go_quiet (fail)
  go_wp2_with fail
  go_ret
  exact HEND.out _ ((((Kp.refl (On bl) _).setCell (p:=⟨bl,0,none⟩) (fun _=>rfl) _).alloc _).drewN _)
 have d2:=decide_eq_false h2
 by_cases h3:(L:Int) - 1 < l.length
 ·go_enter Tryz.func17,Tryz.ntmps17
  go_wp2_with fail
  go_quiet (fail)
  go_wp2_with fail
  go_ret
  exact HEND.out _ ((((Kp.refl (On bl) _).setCell (p:=⟨bl,0,none⟩) (fun _=>rfl) _).alloc _).drewN _)
 have d3:=decide_eq_false h3
 ·go_enter Tryz.func17,Tryz.ntmps17
  go_wp2_with fail
  go_quiet (fail)
  go_wp2_with fail
  have hl4:l.length≤400:=by omega
  have H3:=hd_ h3
  have H2:=hd_ h2
  have H1:=hd_ h1
  clear d1 d2 d3 h1 h2 h3
  go_loopw [8,34] (fun _ i wr=>∃ j Lr:Nat,j≤l.length∧i=.int .i64 j∧Kp (On bl) w wr∧Lr+Nd.sizeL (l.take j)=L - 1∧Cnt wr bl Lr) (fun _ i _=>l.length - (intOf i).toNat)
  case atStart=>exact ⟨0,L - 1,Nat.zero_le _,rfl,(((Kp.refl (On bl) _).setCell (p:=⟨bl,0,none⟩) (fun _=>rfl) _).alloc _).drewN _,by simp [Nd.sizeL],by
   have:=H1.out
   show (World.heap _)[bl]?=_
   rw [show ((L - 1:Nat):Int)=(L:Int) - 1 by omega]
   exact allocOf (setOf HC.out 0 _) _⟩
  case round =>
   obtain ⟨j,Lr,hj,rfl,hkp,hsum,hcr⟩:=hrel
   have hbr:=ltb hcr
   by_cases hlt:j < l.length
   ·obtain ⟨x,hx⟩:∃ x,l[j]?=some x:=⟨_,List.getElem?_eq_getElem hlt⟩
    have hsx:=hd_ (Nd.sizeL_get l j x hx)
    have htk:=Nd.sizeL_take l j x hx
    have hks:=hkp.size
    obtain ⟨b,o,c',q',d,he,_,hb,hi,g1,g2,g3,g4,g5⟩:=(hLs.out.stay (w':=wr) (fun i hi=>hkp.block i (by omega) (by simp;omega))).get hx
    cases he
    have hX:=a5_ g4 hkp hsum hcr htk
    clear g4 hkp hsum hcr hx hi htk
    go_wp2_with fail
    refine (IH.out x (by have:=hsx.out;have:=hsz.out;omega) _ B bl Lr (dp+1) _ (hX.out.1.stay fun b hb=>Below.heap_alloc _ _ _ (by omega)) hB (allocOf hX.out.2.2.2.1 _) (by have:=hX.out.2.2.1;omega) (by omega) (by have:=H2.out;omega)).mono ?_
    rintro e w2 ⟨b2,rfl,hk2,hp⟩
    have hk2:Kp (On bl) wr w2:=((Kp.refl (On bl) wr).alloc _).trans' hk2
    have H4:=a2_ hk2 hp
    clear hk2 hp
    cases b2
    ·go_wp2_with fail
     go_ret
     exact HEND.out _ (hX.out.2.1.trans' H4.out.1)
    ·go_wp2_with fail
     go_roundw
     case rel =>
      obtain ⟨h5,h6⟩:=H4.out.2 (by trivial)
      obtain ⟨h7,h8,h9⟩:=hX.out.2.2
      exact ⟨j+1,Lr - x.size,by omega,by go_num,hX.out.2.1.trans' H4.out.1,by omega,h6⟩
     case measure=>simp [intOf];omega
   ·have hjl:j=l.length:=by omega
    have hX:=a3_ hkp hsum hcr
    clear hkp hsum hcr
    go_wp2_with fail
    go_ret
    refine ⟨_,rfl,hX.out.1,fun _=>?_⟩
    obtain ⟨h6,h7⟩:=hX.out.2
    subst hjl
    rw [List.take_length] at h6
    have:=H1.out
    simp only [Nd.size]
    refine ⟨by omega,?_⟩
    rw [show L - (1+Nd.sizeL l)=Lr by omega]
    exact h7
theorem few_c (n:Nd) (w:World) (B:Nat) (s:Value) (hin:n.In w B s) (hB:B≤w.heap.size) :
 Calls Tryz.prog 10 #[ndv n s] w (Says w (n.size≤400)):=by
 obtain ⟨q,c,rfl,hc⟩:=hin.form
 have HI:=hd_ hin
 clear hin
 go_enter Tryz.func10,Tryz.ntmps10
 go_wp2_with fail
 refine (count_c n.size n (Nat.le_refl _) _ B (w.heap.size+1) 400 0 _ (HI.out.stay fun b hb=>(Below.heap_alloc _ _ _ (by simp;omega)).trans (Below.heap_alloc _ _ _ (by omega))) (by omega) (newOf2 w _ _) (by omega) (by omega) (by omega)).mono ?_
 rintro e w2 ⟨b2,rfl,hk2,hp⟩
 have H2:=a2_ hk2 hp
 clear hk2 hp
 go_wp2_with fail
 go_ret
 exact ⟨_,rfl,(((Kp.refl No w).alloc _).alloc _).trans H2.out.1 (fun i hi h=>by have h:i=w.heap.size+1:=h;exfalso;omega),fun h=>(H2.out.2 h).1⟩
end
section
open Go Go.RowKit
def Entr (id:Nat):Prop:=∀ (args:Array Value) (w:World),(callFunc id args).run Tryz.prog w=.ok (.enter id args) w
theorem Entr.of {id:Nat} {fn:Func} {c:Code} (hf:Tryz.prog.funcs[id]?=some fn) (hname:(fn.name == "runtime.NumGoroutine")=false) (hb:fn.body=some c):Entr id:=by
 intro args w
 have h1:fn.name≠ "runtime.NumGoroutine":=by simpa using hname
 simp [callFunc,hf,h1,hb]
def Ask (w:World) (B:Nat) (id:Nat) (cap:Array Value) (l:List Nd) (P:Nd→Prop):Prop :=
 Entr id∧∀ (w':World),Kp No w w'→∀ (i:Nat) (n:Nd),l[i]?=some n→∀ (s:Value),n.In w' B s→Calls Tryz.prog id (#[ndv n s]++cap) w' (Says w' (P n))
theorem Ask.on {w w2:World} {B id:Nat} {cap:Array Value} {l:List Nd} {P:Nd→Prop} (h:Ask w B id cap l P) (hk:Kp No w w2):Ask w2 B id cap l P:=⟨h.1,fun w' hw=>h.2 w' (hk.trans' hw)⟩
theorem ev1_c (w:World) (B id b3 i:Nat) (cap:Array Value) (l:List Nd) (P:Nd→Prop) (n:Nd) (s:Value) (h3:w.heap[b3]?=some (.cells #[.func (.func id) #[] cap] 26 (0,0))) (hin:n.In w B s) (hB:B≤w.heap.size) (hA:Ask w B id cap l P) (hl:l[i]?=some n) :
 Calls Tryz.prog 50 #[ndv n s,.pointer (some ⟨b3,0,none⟩)] w fun e w'=>∃ b,e=.returned (.bool b)∧Kp No w w'∧(b=false→P n):=by
 obtain ⟨q,c,rfl,hc⟩:=hin.form
 have HI:=hd_ hin;have HA:=hd_ hA;have HL:=hd_ hl
 have c3:=cO h3 0 _ rfl
 have hb:=ltb h3
 clear hin hA hl h3
 go_enter Tryz.func50,Tryz.ntmps50
 go_wp2_with fail
 rw [HA.out.1,Oper.upon_enter]
 refine (HA.out.2 _ ((Kp.refl No _).alloc _) i n HL.out _ (HI.out.stay fun b hb=>Below.heap_alloc _ _ _ (by omega))).mono ?_
 rintro e w2 ⟨b2,rfl,hk2,hp⟩
 have H2:=a2_ hk2 hp
 clear hk2 hp
 go_wp2_with fail
 go_ret
 exact ⟨_,rfl,((Kp.refl No w).alloc _).trans' H2.out.1,fun h=>H2.out.2 (by simpa using h)⟩
theorem evix_c (w:World) (B id b3:Nat) (cap:Array Value) (l:List Nd) (P:Nd→Prop) (s:Value) (h3:w.heap[b3]?=some (.cells #[.func (.func id) #[] cap] 26 (0,0))) (hl:Ls w B s l) (hB:B≤w.heap.size) (hA:Ask w B id cap l P) (hn:l.length≤400) :
 Calls Tryz.prog 72 #[s,.func (.func 50) #[] #[.pointer (some ⟨b3,0,none⟩)]] w fun e w'=>∃ i:Int,e=.returned (.int .i64 i)∧Kp No w w'∧(i < 0→∀ (i:Nat) (n:Nd),l[i]?=some n→P n):=by
 have hLs:=hd_ hl
 obtain ⟨p,c,rfl,hc,_⟩:=hl
 have HA:=hd_ hA;have H3:=hd_ h3
 have hb:=ltb h3
 clear hA h3
 go_enter Tryz.func72,Tryz.ntmps72
 go_wp2_with fail
 go_loopw [5,8] (fun _ i wr=>∃ j:Nat,j≤l.length∧i=.int .i64 j∧Kp No w wr∧∀ (a:Nat) (x:Nd),a < j→l[a]?=some x→P x) (fun _ i _=>l.length - (intOf i).toNat)
 case atStart=>exact ⟨0,Nat.zero_le _,rfl,Kp.refl No _,fun a x h=>by omega⟩
 case round =>
  obtain ⟨j,hj,rfl,hkp,hsh⟩:=hrel
  by_cases hlt:j < l.length
  ·obtain ⟨x,hx⟩:∃ x,l[j]?=some x:=⟨_,List.getElem?_eq_getElem hlt⟩
   have hks:=hkp.size
   obtain ⟨b,o,c',q',d,he,_,hb,hi,g1,g2,g3,g4,g5⟩:=(hLs.out.stay (w':=wr) (fun i hi=>hkp.block i (by omega) (by simp))).get hx
   cases he
   have hX:=a4_ g4 hkp hsh hx
   clear g4 hkp hsh hx hi
   go_wp2_with fail
   refine (ev1_c _ B id b3 j cap l P x _ (hX.out.2.1.at H3.out (by simp)) hX.out.1 (by omega) (HA.out.on hX.out.2.1) hX.out.2.2.2).mono ?_
   rintro e w2 ⟨b2,rfl,hk2,hp⟩
   have H2:=a2_ hk2 hp
   clear hk2 hp
   cases b2
   ·go_wp2_with fail
    go_roundw
    case rel =>
     refine ⟨j+1,by omega,by go_num,hX.out.2.1.trans' H2.out.1,fun a y ha hy=>?_⟩
     by_cases haj:a=j
     ·subst haj
      rw [hX.out.2.2.2] at hy
      cases hy
      exact H2.out.2 (by trivial)
     ·exact hX.out.2.2.1 a y (by omega) hy
    case measure=>simp [intOf];omega
   ·go_wp2_with fail
    go_ret
    exact ⟨_,rfl,hX.out.2.1.trans' H2.out.1,fun h=>by omega⟩
  ·have hjl:j=l.length:=by omega
   have hX:=a2_ hkp hsh
   clear hkp hsh
   go_wp2_with fail
   go_ret
   exact ⟨_,rfl,hX.out.1,fun _ a x hx=>hX.out.2 a x (by have:=(List.getElem?_eq_some_iff.1 hx).1;omega) hx⟩
theorem every_c (w:World) (B id:Nat) (cap:Array Value) (l:List Nd) (P:Nd→Prop) (s:Value) (hl:Ls w B s l) (hB:B≤w.heap.size) (hA:Ask w B id cap l P) (hn:l.length≤400) :
 Calls Tryz.prog 18 #[s,.func (.func id) #[] cap] w (Says w (∀ (i:Nat) (n:Nd),l[i]?=some n→P n)):=by
 have hLs:=hd_ hl
 obtain ⟨p,c,rfl,hc,_⟩:=hl
 have HA:=hd_ hA
 clear hA
 go_enter Tryz.func18,Tryz.ntmps18
 go_wp2_with fail
 have hcf:Calls Tryz.prog 49 #[.slice p l.length c,.func (.func 50) #[] #[.pointer (some ⟨w.heap.size,0,none⟩)]] (w.alloc (.cells #[.func (.func id) #[] cap] 26 (0,0))) fun e w'=>∃ b,e=.returned (.bool b)∧Kp No w w'∧(b=false→∀ (i:Nat) (n:Nd),l[i]?=some n→P n):=by
  go_enter Tryz.func49,Tryz.ntmps49
  go_wp2_with fail
  refine (evix_c _ B id w.heap.size cap l P _ (newOf w _) (hLs.out.stay fun b hb=>Below.heap_alloc _ _ _ (by omega)) (by simp;omega) (HA.out.on ((Kp.refl No _).alloc _)) hn).mono ?_
  rintro e w2 ⟨i,rfl,hk2,hp⟩
  have H2:=a2_ hk2 hp
  clear hk2 hp
  go_wp2_with fail
  go_ret
  exact ⟨_,rfl,((Kp.refl No w).alloc _).trans' H2.out.1,fun h=>H2.out.2 (by simpa using h)⟩
 refine hcf.mono ?_
 rintro e w2 ⟨b2,rfl,hk2,hp⟩
 have H2:=a2_ hk2 hp
 clear hk2 hp hcf
 go_wp2_with fail
 go_ret
 exact ⟨_,rfl,H2.out.1,fun h=>H2.out.2 (by simpa using h)⟩
theorem or_c (w:World) (B id:Nat) (cap:Array Value) (n:Nd) (P:Nd→Prop) (s:Value) (hin:n.In w B s) (hB:B≤w.heap.size) (hA:Ask w B id cap [n] P) :
 Calls Tryz.prog 22 #[ndv n s,.func (.func id) #[] cap] w (Says w (n=.miss∨P n)):=by
 obtain ⟨q,c,rfl,hc⟩:=hin.form
 have HI:=hd_ hin;have HA:=hd_ hA
 clear hin hA
 go_enter Tryz.func22,Tryz.ntmps22
 go_wp2_with fail
 refine (miss_c n _ B _ (HI.out.stay fun b hb=>Below.heap_alloc _ _ _ (by omega))).mono ?_
 rintro e w2 ⟨b2,rfl,hk2,hp⟩
 have x0:w2.cell? ⟨w.heap.size,0,none⟩=some (.string n.k):=cO (hk2.at (newOf w _) (by simp)) 0 _ rfl
 have x1:w2.cell? ⟨w.heap.size,1,none⟩=some (.string n.t):=cO (hk2.at (newOf w _) (by simp)) 1 _ rfl
 have x2:w2.cell? ⟨w.heap.size,2,none⟩=some (.slice q n.l.length c):=cO (hk2.at (newOf w _) (by simp)) 2 _ rfl
 have hk2:Kp No w w2:=((Kp.refl No w).alloc _).trans' hk2
 have H2:=a2_ hk2 hp
 clear hk2 hp
 cases b2
 ·go_wp2_with fail
  rw [HA.out.1,Oper.upon_enter]
  refine (HA.out.2 _ H2.out.1 0 n rfl _ (HI.out.stay fun b hb=>H2.out.1.block b (by omega) (by simp))).mono ?_
  rintro e w3 ⟨b3,rfl,hk3,hp3⟩
  have H3:=a2_ hk3 hp3
  clear hk3 hp3
  go_wp2_with fail
  go_ret
  exact ⟨_,rfl,H2.out.1.trans' H3.out.1,fun h=>.inr (H3.out.2 (by simpa using h))⟩
 ·go_wp2_with fail
  go_ret
  exact ⟨_,rfl,H2.out.1,fun h=>.inl (H2.out.2.1 (by trivial))⟩
end
end Go.Proofs.YtnkbglhdpmbgfaaGreatFmt
