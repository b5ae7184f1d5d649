/- A part of the proof; no condition: ShE, ShF, ShG, PlD. -/
import Derived.Test.YtnkbglhdpmbgfaaGreatFmtM
import Derived.Test.YtnkbglhdpmbgfaaGreatFmtM04
import Derived.Test.YtnkbglhdpmbgfaaGreatFmtM03
import Derived.Test.YtnkbglhdpmbgfaaGreatFmtM00
set_option linter.all false
set_option maxHeartbeats 16000000
set_option maxRecDepth 100000
namespace Go.Proofs.YtnkbglhdpmbgfaaGreatFmt
section
open Go Go.RowKit
theorem Ls.zero {w:World} {B c:Nat} {p:Option Addr} {l:List Nd} (h:l.length=0):Ls w B (.slice p l.length c) l:=⟨p,c,rfl,by omega,.inl (List.eq_nil_of_length_eq_zero h)⟩
theorem nbox {w w2:World} {k t:ByteArray} {s:Value} {T:TypeId} (h:Kp No (w.alloc (.cells #[.string k,.string t,s] T (0,0))) w2) :
 w2.cell? ⟨w.heap.size,0,none⟩=some (.string k)∧w2.cell? ⟨w.heap.size,1,none⟩=some (.string t)∧w2.cell? ⟨w.heap.size,2,none⟩=some s :=
 ⟨cO (h.at (newOf w _) (by simp)) 0 _ rfl,cO (h.at (newOf w _) (by simp)) 1 _ rfl,cO (h.at (newOf w _) (by simp)) 2 _ rfl⟩
theorem Ask.fn {w:World} {B id:Nat} {fn:Func} {c:Code} {l:List Nd} {P:Nd→Prop} (hf:Tryz.prog.funcs[id]?=some fn) (hname:(fn.name == "runtime.NumGoroutine")=false) (hb:fn.body=some c) (hB:B≤w.heap.size)
 (h:∀ (w':World) (i:Nat) (n:Nd) (s:Value),l[i]?=some n→n.In w' B s→B≤w'.heap.size→Calls Tryz.prog id #[ndv n s] w' (Says w' (P n))):Ask w B id #[] l P :=
 ⟨Entr.of hf hname hb,fun w' hw i n hi s hs=>by simpa using h w' i n s hi hs (Nat.le_trans hB hw.size)⟩
theorem ask_name {w:World} {B:Nat} {l:List Nd} (hB:B≤w.heap.size):Ask w B 51 #[] l (fun n=>∃ s,n=.name s) :=
 Ask.fn Tryz.func51 (by kernel_rfl) rfl hB fun w' _ n s _ hs _=>isname_c n w' B s hs
theorem ask_bare {w:World} {B:Nat} {l:List Nd} (hB:B≤w.heap.size):Ask w B 53 #[] l (fun n=>n.t=⟨#[]⟩) :=
 Ask.fn Tryz.func53 (by kernel_rfl) rfl hB fun w' _ n s _ hs _=>bare_c n w' B s hs
theorem ask_any {w:World} {B:Nat} {l:List Nd} (hB:B≤w.heap.size):Ask w B 54 #[] l (fun _=>True) :=
 Ask.fn Tryz.func54 (by kernel_rfl) rfl hB fun w' _ n s _ hs _=>any_c n w' B s hs
def TyShP (Q:Nd→Prop) (n:Nd):Prop:=∀ (w:World) (B:Nat) (s:Value),n.In w B s→B≤w.heap.size→Calls Tryz.prog 24 #[ndv n s] w (Says w (Q n))
theorem meth_c (n:Nd) (w:World) (B:Nat) (s:Value) (h:n.In w B s) (hB:B≤w.heap.size) (hn:n.l.length≤400) :
 Calls Tryz.prog 74 #[ndv n s] w (Says w (n.t=⟨#[]⟩∧(n.l.length=1∨n.l.length=2∧∀ x,n.l[0]?=some x→x.k=⟨#[115,105,103,110,97,116,117,114,101]⟩))):=by
 have hLs:=hd_ (Nd.In_iff.1 h)
 obtain ⟨q,c,rfl,hc⟩:=h.form
 have HI:=hd_ h
 clear h
 go_enter Tryz.func74,Tryz.ntmps74
 go_wp2_with fail
 refine (bare_c n _ B _ (HI.out.stay fun b hb=>Below.heap_alloc _ _ _ (by omega))).mono ?_
 rintro e w2 ⟨b2,rfl,hk2,hp⟩
 obtain ⟨x0,x1,x2⟩:=nbox hk2
 have hk2:Kp No w w2:=((Kp.refl No w).alloc _).trans' hk2
 have H2:=a2_ hk2 hp
 have hks:=hk2.size
 clear hk2 hp
 cases b2
 ·go_wp2_with fail
  go_ret
  exact ⟨_,rfl,H2.out.1,fun h=>by simp at h⟩
 by_cases h1:n.l.length=1
 ·have HH:=hd_ h1
  go_wp2_with fail
  go_ret
  exact ⟨_,rfl,H2.out.1,fun _=>⟨H2.out.2 (by trivial),.inl HH.out⟩⟩
 have d1:((n.l.length:Int) == 1)=false:=by simp;omega
 by_cases h2:n.l.length=2
 ·have HH:=hd_ h2
  obtain ⟨x,hx⟩:∃ x,n.l[0]?=some x:=⟨_,List.getElem?_eq_getElem (by omega)⟩
  obtain ⟨b,o,c',q',d,he,_,hb,hi,g1,g2,g3,g4,g5⟩:=(hLs.out.stay (w':=w2) (fun i hi=>H2.out.1.block i (by omega) (by simp))).get hx
  cases he
  have HX:=hd_ hx
  clear hx g4 d1 h1
  simp only [Nat.zero_mul,Nat.add_zero] at g1 g2 g3
  go_wp2_with fail
  go_ret
  refine ⟨_,rfl,H2.out.1,fun h=>⟨H2.out.2 (by trivial),.inr ⟨HH.out,fun y hy=>?_⟩⟩⟩
  rw [HX.out] at hy
  cases hy
  exact bs_lit (by simpa using h)
 ·have d2:((n.l.length:Int) == 2)=false:=by simp;omega
  clear h1 h2
  go_wp2_with fail
  go_ret
  exact ⟨_,rfl,H2.out.1,fun h=>by simp at h⟩
def FldQ (Q M:Nd→Prop) (n:Nd):Prop:=n.k=⟨#[102,105,101,108,100]⟩∧∃ x l,n.l=x::l∧Q x∧(∀ (i:Nat) (n:Nd),l[i]?=some n→∃ s,n=.name s)∧M n
theorem fld_c (Q M:Nd→Prop) (n:Nd) (w:World) (B b3 id:Nat) (cap:Array Value) (s:Value) (h:n.In w B s) (hB:B≤w.heap.size) (hn:n.l.length≤400) (h3:w.heap[b3]?=some (.cells #[.func (.func id) #[] cap] 26 (0,0)))
 (hQ:∀ x,n.l[0]?=some x→TyShP Q x) (hA:Ask w B id cap [n] M) :
 Calls Tryz.prog 73 #[ndv n s,.pointer (some ⟨b3,0,none⟩)] w (Says w (FldQ Q M n)):=by
 have hLs:=hd_ (Nd.In_iff.1 h)
 obtain ⟨q,c,rfl,hc⟩:=h.form
 have HI:=hd_ h;have HQ:=hd_ hQ;have HA:=hd_ hA;have H3:=hd_ h3
 have hb3:=ltb h3
 clear h hQ hA h3
 obtain ⟨k,t,l⟩:=n
 cases l with
 | nil =>
  go_enter Tryz.func73,Tryz.ntmps73
  go_wp2_with fail
  all_goals
   go_ret
   exact ⟨_,rfl,(Kp.refl No w).alloc _,fun h=>by simp at h⟩
 | cons x l =>
  simp only [Nd.l,lc_] at hn hc
  show Calls _ _ #[.agg #[.string k,.string t,.slice q (l.length+1) c],_] _ _
  have hLs:Hid (Ls w B (.slice q (l.length+1) c) (x::l)):=hLs
  have HI:Hid ((Nd.mk k t (x::l)).In w B (.slice q (l.length+1) c)):=HI
  obtain ⟨b,o,c',q',d,he,_,hb,hi,g1,g2,g3,g4,g5⟩:=hLs.out.get (i:=0) rfl
  cases he
  have HX:=hd_ g4
  clear g4 hi
  simp only [Nat.zero_mul,Nat.add_zero] at g1 g2 g3
  have hz:(0:Int) < (l.length:Int)+1:=by omega
  by_cases hk:k=⟨#[102,105,101,108,100]⟩
  ·subst hk
   rcases (by omega:c=1∧l.length=0∨1 < c) with ⟨rfl,hl0⟩ | hc1
   ·obtain rfl:=List.eq_nil_of_length_eq_zero hl0
    go_enter Tryz.func73,Tryz.ntmps73
    go_wp2_with fail
    refine (HQ.out x rfl _ B _ (HX.out.stay fun b hb=>Below.heap_alloc _ _ _ (by omega)) (by simp;omega)).mono ?_
    rintro e w2 ⟨b2,rfl,hk2,hp⟩
    obtain ⟨x0,x1,x2⟩:=nbox hk2
    have hk2:Kp No w w2:=((Kp.refl No w).alloc _).trans' hk2
    have hks:=hk2.size
    have H2:=a2_ hk2 hp
    clear hk2 hp
    cases b2
    ·go_wp2_with fail
     go_ret
     exact ⟨_,rfl,H2.out.1,fun h=>by simp at h⟩
    go_wp2_with fail
    all_goals
     refine (every_c w2 B 51 #[] [] _ _ (by first | exact (Ls.tail hLs.out).stay fun b hb=>H2.out.1.block b (by omega) (by simp) | exact ⟨_,_,rfl,by simp,.inl rfl⟩) (by omega) (ask_name (by omega)) (by omega)).mono ?_
     rintro e w3 ⟨b3',rfl,hk3,hp3⟩
     have hws:w.heap.size < w2.heap.size:=World.block_lt_of_cell? w2 _ x0
     have y0:=(hk3.cell hws (by simp)).trans x0
     have y1:=(hk3.cell hws (by simp)).trans x1
     have y2:=(hk3.cell hws (by simp)).trans x2
     have hk3:Kp No w w3:=H2.out.1.trans' hk3
     have c3:=cO (hk3.at H3.out (by simp)) 0 _ rfl
     have hks3:=hk3.size
     have H4:=a2_ hk3 hp3
     clear hk3 hp3
     cases b3'
     ·go_wp2_with fail
      go_ret
      exact ⟨_,rfl,H4.out.1,fun h=>by simp at h⟩
     go_wp2_with fail
     rw [HA.out.1,Oper.upon_enter]
     refine (HA.out.2 w3 H4.out.1 0 _ rfl _ (HI.out.stay fun b hb=>H4.out.1.block b (by omega) (by simp))).mono ?_
     rintro e w4 ⟨b4,rfl,hk4,hp4⟩
     have H5:=a2_ hk4 hp4
     clear hk4 hp4
     go_wp2_with fail
     go_ret
     exact ⟨_,rfl,H4.out.1.trans' H5.out.1,fun h=>⟨rfl,x,[],rfl,H2.out.2 (by trivial),H4.out.2 (by trivial),H5.out.2 (by simpa using h)⟩⟩
   ·skip
    go_enter Tryz.func73,Tryz.ntmps73
    go_wp2_with fail
    refine (HQ.out x rfl _ B _ (HX.out.stay fun b hb=>Below.heap_alloc _ _ _ (by omega)) (by simp;omega)).mono ?_
    rintro e w2 ⟨b2,rfl,hk2,hp⟩
    obtain ⟨x0,x1,x2⟩:=nbox hk2
    have hk2:Kp No w w2:=((Kp.refl No w).alloc _).trans' hk2
    have hks:=hk2.size
    have H2:=a2_ hk2 hp
    clear hk2 hp
    cases b2
    ·go_wp2_with fail
     go_ret
     exact ⟨_,rfl,H2.out.1,fun h=>by simp at h⟩
    go_wp2_with fail
    all_goals
     refine (every_c w2 B 51 #[] l _ _ (by first | exact (Ls.tail hLs.out).stay fun b hb=>H2.out.1.block b (by omega) (by simp) | exact ⟨_,_,rfl,by simp,.inl rfl⟩) (by omega) (ask_name (by omega)) (by omega)).mono ?_
     rintro e w3 ⟨b3',rfl,hk3,hp3⟩
     have hws:w.heap.size < w2.heap.size:=World.block_lt_of_cell? w2 _ x0
     have y0:=(hk3.cell hws (by simp)).trans x0
     have y1:=(hk3.cell hws (by simp)).trans x1
     have y2:=(hk3.cell hws (by simp)).trans x2
     have hk3:Kp No w w3:=H2.out.1.trans' hk3
     have c3:=cO (hk3.at H3.out (by simp)) 0 _ rfl
     have hks3:=hk3.size
     have H4:=a2_ hk3 hp3
     clear hk3 hp3
     cases b3'
     ·go_wp2_with fail
      go_ret
      exact ⟨_,rfl,H4.out.1,fun h=>by simp at h⟩
     go_wp2_with fail
     rw [HA.out.1,Oper.upon_enter]
     refine (HA.out.2 w3 H4.out.1 0 _ rfl _ (HI.out.stay fun b hb=>H4.out.1.block b (by omega) (by simp))).mono ?_
     rintro e w4 ⟨b4,rfl,hk4,hp4⟩
     have H5:=a2_ hk4 hp4
     clear hk4 hp4
     go_wp2_with fail
     go_ret
     exact ⟨_,rfl,H4.out.1.trans' H5.out.1,fun h=>⟨rfl,x,l,rfl,H2.out.2 (by trivial),H4.out.2 (by trivial),H5.out.2 (by simpa using h)⟩⟩
  ·have hk:¬ k.toList=((⟨#[102,105,101,108,100]⟩:ByteArray)).data.toList:=fun h=>hk (bs_lit h)
   simp only at hk
   go_enter Tryz.func73,Tryz.ntmps73
   go_wp2_with fail
   go_ret
   exact ⟨_,rfl,(Kp.refl No w).alloc _,fun h=>by simp at h⟩
theorem Ask.one {w:World} {B id i:Nat} {cap:Array Value} {l:List Nd} {P:Nd→Prop} {n:Nd} (h:Ask w B id cap l P) (hi:l[i]?=some n):Ask w B id cap [n] P:=by
 refine ⟨h.1,fun w' hw j m hj s hs=>h.2 w' hw i m ?_ s hs⟩
 cases j with
 | zero=>simp only [List.getElem?_cons_zero,Option.some.injEq] at hj;subst hj;exact hi
 | succ j=>simp at hj
theorem Nd.kids_le {n f:Nd} {i:Nat} (h:n.l[i]?=some f):f.l.length+1≤f.size∧f.size+1≤n.size:=by
 obtain ⟨k,t,l⟩:=n
 have h1:=Nd.sizeL_get l i f h
 obtain ⟨k',t',l'⟩:=f
 have h2:=Nd.length_le l'
 simp only [Nd.size,Nd.l] at *
 omega
theorem ask_fld {Q M:Nd→Prop} {w:World} {B b3 id:Nat} {cap:Array Value} {l:List Nd} (hB:B≤w.heap.size) (hs:∀ (i:Nat) (f:Nd),l[i]?=some f→f.l.length≤400) (h3:w.heap[b3]?=some (.cells #[.func (.func id) #[] cap] 26 (0,0)))
 (hQ:∀ (i:Nat) (f:Nd),l[i]?=some f→∀ x,f.l[0]?=some x→TyShP Q x) (hA:Ask w B id cap l M):Ask w B 73 #[.pointer (some ⟨b3,0,none⟩)] l (FldQ Q M) :=
 ⟨Entr.of Tryz.func73 (by kernel_rfl) rfl,fun w' hw i n hi s hin=>by
  simpa using fld_c Q M n w' B b3 id cap s hin (Nat.le_trans hB hw.size) (hs i n hi) (hw.at h3 (by simp)) (hQ i n hi) ((hA.on hw).one hi)⟩
theorem flds_c (Q M:Nd→Prop) (n:Nd) (w:World) (B id:Nat) (cap:Array Value) (s:Value) (h:n.In w B s) (hB:B≤w.heap.size) (hn:n.size≤400)
 (hQ:∀ (i:Nat) (f:Nd),n.l[i]?=some f→∀ x,f.l[0]?=some x→TyShP Q x) (hA:Ask w B id cap n.l M) :
 Calls Tryz.prog 52 #[ndv n s,.func (.func id) #[] cap] w (Says w (n.k=⟨#[102,105,101,108,100,115]⟩∧n.t=⟨#[]⟩∧∀ (i:Nat) (f:Nd),n.l[i]?=some f→FldQ Q M f)):=by
 have hLs:=hd_ (Nd.In_iff.1 h)
 obtain ⟨q,c,rfl,hc⟩:=h.form
 have HQ:=hd_ hQ;have HA:=hd_ hA;have HN:=hd_ hn
 clear h hQ hA hn
 have hl4:n.l.length≤400:=by
  have:=HN.out
  obtain ⟨k,t,l⟩:=n
  have:=Nd.length_le l
  simp only [Nd.size,Nd.l] at *
  omega
 obtain ⟨k,t,l⟩:=n
 simp only [Nd.l] at hc hl4
 show Calls _ _ #[.agg #[.string k,.string t,.slice q l.length c],_] _ _
 have hLs:Hid (Ls w B (.slice q l.length c) l):=hLs
 by_cases hk:k=⟨#[102,105,101,108,100,115]⟩
 ·subst hk
  by_cases ht:t=⟨#[]⟩
  ·subst ht
   go_enter Tryz.func52,Tryz.ntmps52
   go_wp2_with fail
   have hk0:Kp No w ((w.alloc (.cells #[.string ⟨#[102,105,101,108,100,115]⟩,.string ⟨#[]⟩,.slice q l.length c] 24 (0,0))).alloc (.cells #[.func (.func id) #[] cap] 26 (0,0))):=((Kp.refl No w).alloc _).alloc _
   refine (every_c _ B 73 _ l (FldQ Q M) _ (hLs.out.stay fun b hb=>hk0.block b (by omega) (by simp)) (by simp;omega) (ask_fld (by simp;omega) (fun i f hi=>by have:=Nd.kids_le (n:=.mk ⟨#[102,105,101,108,100,115]⟩ ⟨#[]⟩ l) hi;have:=HN.out;omega) (newOf2 w _ _) HQ.out (HA.out.on hk0)) hl4).mono ?_
   rintro e w2 ⟨b2,rfl,hk2,hp⟩
   have H2:=a2_ (hk0.trans' hk2) hp
   clear hk2 hp hk0
   go_wp2_with fail
   go_ret
   exact ⟨_,rfl,H2.out.1,fun h=>⟨rfl,rfl,H2.out.2 (by simpa using h)⟩⟩
  ·have ht:¬ t.toList=((⟨#[]⟩:ByteArray)).data.toList:=fun h=>ht (bs_lit h)
   simp only at ht
   go_enter Tryz.func52,Tryz.ntmps52
   go_wp2_with fail
   go_ret
   refine ⟨_,rfl,((Kp.refl No w).alloc _).alloc _,fun h=>by simp at h⟩
 ·have hk:¬ k.toList=((⟨#[102,105,101,108,100,115]⟩:ByteArray)).data.toList:=fun h=>hk (bs_lit h)
  simp only at hk
  go_enter Tryz.func52,Tryz.ntmps52
  go_wp2_with fail
  go_ret
  refine ⟨_,rfl,((Kp.refl No w).alloc _).alloc _,fun h=>by simp at h⟩
def PrmQ (Q:Nd→Prop) (n:Nd):Prop:=n.k=⟨#[102,105,101,108,100,115]⟩∧n.t=⟨#[]⟩∧∀ (i:Nat) (f:Nd),n.l[i]?=some f→FldQ Q (fun n=>n.t=⟨#[]⟩) f
theorem prms_c (Q:Nd→Prop) (n:Nd) (w:World) (B:Nat) (s:Value) (h:n.In w B s) (hB:B≤w.heap.size) (hn:n.size≤400)
 (hQ:∀ (i:Nat) (f:Nd),n.l[i]?=some f→∀ x,f.l[0]?=some x→TyShP Q x) :
 Calls Tryz.prog 23 #[ndv n s] w (Says w (PrmQ Q n)):=by
 have HI:=hd_ h;have HQ:=hd_ hQ;have HN:=hd_ hn
 obtain ⟨q,c,rfl,hc⟩:=h.form
 clear h hQ hn
 go_enter Tryz.func23,Tryz.ntmps23
 go_wp2_with fail
 refine (flds_c Q _ n _ B 53 #[] _ (HI.out.stay fun b hb=>Below.heap_alloc _ _ _ (by omega)) (by simp;omega) HN.out HQ.out (ask_bare (by simp;omega))).mono ?_
 rintro e w2 ⟨b2,rfl,hk2,hp⟩
 have H2:=a2_ (((Kp.refl No w).alloc _).trans' hk2) hp
 clear hk2 hp
 go_wp2_with fail
 go_ret
 exact ⟨_,rfl,H2.out.1,fun h=>H2.out.2 (by simpa using h)⟩
def MthQ (n:Nd):Prop:=n.t=⟨#[]⟩∧(n.l.length=1∨n.l.length=2∧∀ x,n.l[0]?=some x→x.k=⟨#[115,105,103,110,97,116,117,114,101]⟩)
theorem mths_c (Q:Nd→Prop) (n:Nd) (w:World) (B:Nat) (s:Value) (h:n.In w B s) (hB:B≤w.heap.size) (hn:n.size≤400)
 (hQ:∀ (i:Nat) (f:Nd),n.l[i]?=some f→∀ x,f.l[0]?=some x→TyShP Q x) :
 Calls Tryz.prog 55 #[ndv n s] w (Says w (n.k=⟨#[102,105,101,108,100,115]⟩∧n.t=⟨#[]⟩∧∀ (i:Nat) (f:Nd),n.l[i]?=some f→FldQ Q MthQ f)):=by
 have HI:=hd_ h;have HQ:=hd_ hQ;have HN:=hd_ hn
 obtain ⟨q,c,rfl,hc⟩:=h.form
 clear h hQ hn
 go_enter Tryz.func55,Tryz.ntmps55
 go_wp2_with fail
 refine (flds_c Q MthQ n _ B 74 #[] _ (HI.out.stay fun b hb=>Below.heap_alloc _ _ _ (by omega)) (by simp;omega) HN.out HQ.out (Ask.fn Tryz.func74 (by kernel_rfl) rfl (by simp;omega) fun w' i m s hm hs hB'=>meth_c m w' B s hs hB' (by have:=Nd.kids_le hm;have:=HN.out;omega))).mono ?_
 rintro e w2 ⟨b2,rfl,hk2,hp⟩
 have H2:=a2_ (((Kp.refl No w).alloc _).trans' hk2) hp
 clear hk2 hp
 go_wp2_with fail
 go_ret
 exact ⟨_,rfl,H2.out.1,fun h=>H2.out.2 (by simpa using h)⟩
end
section
open Go Go.RowKit
mutual
def Ty.shp:Bool→Ty→Prop
 | z,.name ..=>z=false
 | z,.lit ..=>z=false
 | z,.sel x _ _ _=>z=false∧x.shp false
 | z,.star _ x=>z=false∧x.shp false
 | z,.sl _ _ x=>z=false∧x.shp false
 | z,.arr _ l _ x=>z=false∧l.shp false∧x.shp false
 | z,.map _ _ k _ v=>z=false∧k.shp false∧v.shp false
 | z,.ch _ x=>z=false∧x.shp false
 | z,.chs _ _ x=>z=false∧x.shp false
 | z,.chr _ _ x=>z=false∧x.shp false
 | _,.sig _ _ ps _ b _ rs _=>ps.shp false∧(if b then rs.shp false else rs=.nil)
 | z,.struct _ _ f _=>z=false∧f.shp false
 | z,.iface _ _ f _=>z=false∧f.shp true
def Fs.shp:Bool→Fs→Prop
 | _,.nil=>True
 | meth,.cons _ ns t _ _ l=>t.shp (meth && !ns.isEmpty)∧l.shp meth
end
def TyQ (n:Nd):Prop:=∃ t:Ty,t.nd=n∧t.shp false
theorem TyQ.sig {n:Nd} (h:TyQ n) (hk:n.k=⟨#[115,105,103,110,97,116,117,114,101]⟩):∃ t:Ty,t.nd=n∧t.shp true:=by
 obtain ⟨t,rfl,hs⟩:=h
 rw [Ty.nd_k] at hk
 cases t <;> simp [Ty.kind] at hk
 refine ⟨_,rfl,?_⟩
 simpa only [Ty.shp] using hs
theorem names_of:∀ (l:List Nd),(∀ (i:Nat) (n:Nd),l[i]?=some n→∃ s,n=.name s)→∃ ns:List Nm,ns.map Nm.nd=l
 | [],_=>⟨[],rfl⟩
 | n::l,h=>by
  obtain ⟨ns,hns⟩:=names_of l fun i m hm=>h (i+1) m (by simpa using hm)
  obtain ⟨s,rfl⟩:=h 0 n rfl
  exact ⟨⟨0,0,s⟩::ns,by simp [hns,Nm.nd]⟩
theorem fs_of (M:Nd→Prop) (meth:Bool) (hM:meth=true→∀ (f x:Nd) (l:List Nd),M f→f.l=x::l→l≠[]→x.k=⟨#[115,105,103,110,97,116,117,114,101]⟩):∀ (l:List Nd),(∀ (i:Nat) (f:Nd),l[i]?=some f→FldQ TyQ M f)→∃ f:Fs,f.nds=l∧f.shp meth
 | [],_=>⟨.nil,by simp only [Fs.nds],by simp only [Fs.shp]⟩
 | n::l,h=>by
  obtain ⟨f,hf,hs⟩:=fs_of M meth hM l fun i m hm=>h (i+1) m (by simpa using hm)
  obtain ⟨hk,x,l',hl,hx,hn,hm⟩:=h 0 n rfl
  obtain ⟨ns,rfl⟩:=names_of l' hn
  obtain ⟨t,rfl,ht⟩:∃ t:Ty,t.nd=x∧t.shp (meth && !ns.isEmpty):=by
   by_cases hz:meth=true∧ns≠[]
   ·have hz2:(meth && !ns.isEmpty)=true:=by
     cases ns with
     | nil=>exact absurd rfl hz.2
     | cons _ _=>simp [hz.1]
    rw [hz2]
    exact hx.sig (hM hz.1 n x _ hm hl (by simpa using hz.2))
   ·have hz2:(meth && !ns.isEmpty)=false:=by
     cases meth with
     | false=>rfl
     | true=>cases ns with
      | nil=>rfl
      | cons _ _=>simp at hz
    rw [hz2]
    exact hx
  refine ⟨.cons 0 ns t 0 n.t f,?_,?_⟩
  ·obtain ⟨k,u,l'⟩:=n
   simp only [Nd.k,Nd.l] at hk hl
   subst hk;subst hl
   simp only [Fs.nds,hf,Nd.t]
  ·simp only [Fs.shp]
   exact ⟨ht,hs⟩
theorem prm_of {n:Nd} (h:PrmQ TyQ n):∃ f:Fs,fl f.nds=n∧f.shp false:=by
 obtain ⟨hk,ht,hf⟩:=h
 obtain ⟨f,h1,h2⟩:=fs_of _ false (by simp) n.l hf
 refine ⟨f,?_,h2⟩
 obtain ⟨k,t,l⟩:=n
 simp only [Nd.k,Nd.t,Nd.l] at hk ht h1
 subst hk;subst ht;subst h1
 rfl
theorem flds_of {M:Nd→Prop} {meth:Bool} {n:Nd} (hM:meth=true→∀ (f x:Nd) (l:List Nd),M f→f.l=x::l→l≠[]→x.k=⟨#[115,105,103,110,97,116,117,114,101]⟩) (h:n.k=⟨#[102,105,101,108,100,115]⟩∧n.t=⟨#[]⟩∧∀ (i:Nat) (f:Nd),n.l[i]?=some f→FldQ TyQ M f):∃ f:Fs,fl f.nds=n∧f.shp meth:=by
 obtain ⟨hk,ht,hf⟩:=h
 obtain ⟨f,h1,h2⟩:=fs_of M meth hM n.l hf
 refine ⟨f,?_,h2⟩
 obtain ⟨k,t,l⟩:=n
 simp only [Nd.k,Nd.t,Nd.l] at hk ht h1
 subst hk;subst ht;subst h1
 rfl
theorem mth_sig (f x:Nd) (l:List Nd) (h:MthQ f) (hl:f.l=x::l) (hne:l≠[]):x.k=⟨#[115,105,103,110,97,116,117,114,101]⟩:=by
 rcases h.2 with h | ⟨_,h⟩
 ·rw [hl] at h
  cases l with
  | nil=>exact absurd rfl hne
  | cons _ _=>simp at h
 ·exact h x (by rw [hl];rfl)
theorem len1 {l:List Nd} (h:l.length=1):∃ x,l=[x]:=by
 match l,h with
 | [x],_=>exact ⟨x,rfl⟩
theorem len2 {l:List Nd} (h:l.length=2):∃ x y,l=[x,y]:=by
 match l,h with
 | [x,y],_=>exact ⟨x,y,rfl⟩
theorem bs_not {k s:ByteArray} (h:¬ k=s):¬ k.toList=s.data.toList:=fun e=>h (bs_lit e)
theorem bs_bne {k s:ByteArray} (h:¬ k=s):(k.toList == s.data.toList)=false:=by
 rw [beq_eq_false_iff_ne]
 exact fun e=>h (bs_lit e)
theorem Ask.fn1 {w:World} {B id:Nat} {fn:Func} {c:Code} {n:Nd} {P:Nd→Prop} (hf:Tryz.prog.funcs[id]?=some fn) (hname:(fn.name == "runtime.NumGoroutine")=false) (hb:fn.body=some c) (hB:B≤w.heap.size)
 (h:∀ (w':World) (s:Value),n.In w' B s→B≤w'.heap.size→Calls Tryz.prog id #[ndv n s] w' (Says w' (P n))):Ask w B id #[] [n] P :=
 Ask.fn hf hname hb hB fun w' i m s hm hs hB'=>by
  cases i with
  | zero=>simp only [List.getElem?_cons_zero,Option.some.injEq] at hm;subst hm;exact h w' s hs hB'
  | succ i=>simp at hm
theorem says_no (w w':World) (P:Prop) (hk:Kp No w w'):Says w P (.returned (.bool false)) w':=⟨false,rfl,hk,fun h=>by simp at h⟩
theorem cell3 {w w':World} {b o:Nat} {x y z:Value} (hk:Kp No w w') (hb:b < w.heap.size) (h1:w.cell? ⟨b,o,none⟩=some x) (h2:w.cell? ⟨b,o+1,none⟩=some y) (h3:w.cell? ⟨b,o+2,none⟩=some z) :
 w'.cell? ⟨b,o,none⟩=some x∧w'.cell? ⟨b,o+1,none⟩=some y∧w'.cell? ⟨b,o+2,none⟩=some z :=
 ⟨(hk.cell hb (by simp)).trans h1,(hk.cell hb (by simp)).trans h2,(hk.cell hb (by simp)).trans h3⟩
theorem q_sel {t:ByteArray} {x:Nd} (h:TyQ x):TyQ (.mk ⟨#[115,101,108,101,99,116]⟩ t [x]):=by
 obtain ⟨T,rfl,h⟩:=h
 exact ⟨.sel T 0 0 t,by simp only [Ty.nd],by simp only [Ty.shp];exact ⟨trivial,h⟩⟩
theorem q_star {x:Nd} (h:TyQ x):TyQ (.mk ⟨#[115,116,97,114]⟩ ⟨#[]⟩ [x]):=by
 obtain ⟨T,rfl,h⟩:=h
 exact ⟨.star 0 T,by simp only [Ty.nd],by simp only [Ty.shp];exact ⟨trivial,h⟩⟩
theorem q_arr {x y:Nd} (h:x=.miss∨TyQ x) (k:TyQ y):TyQ (.mk ⟨#[97,114,114,97,121]⟩ ⟨#[]⟩ [x,y]):=by
 obtain ⟨T,rfl,k⟩:=k
 rcases h with rfl | ⟨U,rfl,h⟩
 ·exact ⟨.sl 0 0 T,by simp only [Ty.nd],by simp only [Ty.shp];exact ⟨trivial,k⟩⟩
 ·exact ⟨.arr 0 U 0 T,by simp only [Ty.nd],by simp only [Ty.shp];exact ⟨trivial,h,k⟩⟩
theorem q_map {x y:Nd} (h:∀ (i:Nat) (n:Nd),[x,y][i]?=some n→TyQ n):TyQ (.mk ⟨#[109,97,112]⟩ ⟨#[]⟩ [x,y]):=by
 obtain ⟨T,rfl,k⟩:=h 0 x rfl
 obtain ⟨U,rfl,k'⟩:=h 1 y rfl
 exact ⟨.map 0 0 T 0 U,by simp only [Ty.nd],by simp only [Ty.shp];exact ⟨trivial,k,k'⟩⟩
theorem q_ch {x:Nd} (h:TyQ x):TyQ (.mk ⟨#[99,104,97,110]⟩ ⟨#[]⟩ [x]):=by
 obtain ⟨T,rfl,h⟩:=h
 exact ⟨.ch 0 T,by simp only [Ty.nd],by simp only [Ty.shp];exact ⟨trivial,h⟩⟩
theorem q_chs {x:Nd} (h:TyQ x):TyQ (.mk ⟨#[99,104,97,110]⟩ ⟨#[115,101,110,100]⟩ [x]):=by
 obtain ⟨T,rfl,h⟩:=h
 exact ⟨.chs 0 0 T,by simp only [Ty.nd],by simp only [Ty.shp];exact ⟨trivial,h⟩⟩
theorem q_chr {x:Nd} (h:TyQ x):TyQ (.mk ⟨#[99,104,97,110]⟩ ⟨#[114,101,99,101,105,118,101]⟩ [x]):=by
 obtain ⟨T,rfl,h⟩:=h
 exact ⟨.chr 0 0 T,by simp only [Ty.nd],by simp only [Ty.shp];exact ⟨trivial,h⟩⟩
theorem q_sig {x y:Nd} (h:PrmQ TyQ x) (k:y=.miss∨PrmQ TyQ y):TyQ (.mk ⟨#[115,105,103,110,97,116,117,114,101]⟩ ⟨#[]⟩ [x,y]):=by
 obtain ⟨f,rfl,hs⟩:=prm_of h
 rcases k with rfl | k
 ·exact ⟨.sig 0 0 f 0 false 0 .nil 0,by simp [Ty.nd],by simp [Ty.shp,hs]⟩
 ·obtain ⟨g,rfl,ks⟩:=prm_of k
  exact ⟨.sig 0 0 f 0 true 0 g 0,by simp [Ty.nd],by simp [Ty.shp,hs,ks]⟩
theorem q_struct {x:Nd} (h:x.k=⟨#[102,105,101,108,100,115]⟩∧x.t=⟨#[]⟩∧∀ (i:Nat) (f:Nd),x.l[i]?=some f→FldQ TyQ (fun _=>True) f):TyQ (.mk ⟨#[115,116,114,117,99,116]⟩ ⟨#[]⟩ [x]):=by
 obtain ⟨f,rfl,hs⟩:=flds_of (meth:=false) (by simp) h
 exact ⟨.struct 0 0 f 0,by simp only [Ty.nd],by simp only [Ty.shp];exact ⟨trivial,hs⟩⟩
theorem q_iface {x:Nd} (h:x.k=⟨#[102,105,101,108,100,115]⟩∧x.t=⟨#[]⟩∧∀ (i:Nat) (f:Nd),x.l[i]?=some f→FldQ TyQ MthQ f):TyQ (.mk ⟨#[105,110,116,101,114,102,97,99,101]⟩ ⟨#[]⟩ [x]):=by
 obtain ⟨f,rfl,hs⟩:=flds_of (meth:=true) (fun _=>mth_sig) h
 exact ⟨.iface 0 0 f 0,by simp only [Ty.nd],by simp only [Ty.shp];exact ⟨trivial,hs⟩⟩
theorem she_name (t:ByteArray) (l:List Nd) (w:World) (B:Nat) (s:Value) (h:(Nd.mk ⟨#[110,97,109,101]⟩ t l).In w B s) (hB:B≤w.heap.size) (hn:(Nd.mk ⟨#[110,97,109,101]⟩ t l).size≤400) (hIH:∀ x:Nd,x.size < (Nd.mk ⟨#[110,97,109,101]⟩ t l).size→TyShP TyQ x) :
 Calls Tryz.prog 24 #[ndv (Nd.mk ⟨#[110,97,109,101]⟩ t l) s] w (Says w (TyQ (Nd.mk ⟨#[110,97,109,101]⟩ t l))):=by
 have hLs:=hd_ (Nd.In_iff.1 h)
 obtain ⟨q,c,rfl,hc⟩:=h.form
 have HI:=hd_ h;have HQ:=hd_ hIH;have HN:=hd_ hn
 clear h hIH hn
 simp only [Nd.l] at hc
 show Calls _ _ #[.agg #[.string ⟨#[110,97,109,101]⟩,.string t,.slice q l.length c]] _ _
 have hLs:Hid (Ls w B (.slice q l.length c) l):=hLs
 by_cases hl:l.length=0
 ·obtain rfl:=List.eq_nil_of_length_eq_zero hl
  clear hl
  go_enter Tryz.func24,Tryz.ntmps24
  go_wp2_with fail
  go_ret
  exact ⟨_,rfl,(Kp.refl No w).alloc _,fun _=>⟨.name 0 t,by simp [Ty.nd,Nd.name,Nd.lit],by simp only [Ty.shp]⟩⟩
 ·have d:((l.length:Int) == 0)=false:=by rw [beq_eq_false_iff_ne];omega
  go_enter Tryz.func24,Tryz.ntmps24
  go_wp2_with fail
  go_ret
  exact says_no _ _ _ ((Kp.refl No w).alloc _)
theorem she_literal (t:ByteArray) (l:List Nd) (w:World) (B:Nat) (s:Value) (h:(Nd.mk ⟨#[108,105,116,101,114,97,108]⟩ t l).In w B s) (hB:B≤w.heap.size) (hn:(Nd.mk ⟨#[108,105,116,101,114,97,108]⟩ t l).size≤400) (hIH:∀ x:Nd,x.size < (Nd.mk ⟨#[108,105,116,101,114,97,108]⟩ t l).size→TyShP TyQ x) :
 Calls Tryz.prog 24 #[ndv (Nd.mk ⟨#[108,105,116,101,114,97,108]⟩ t l) s] w (Says w (TyQ (Nd.mk ⟨#[108,105,116,101,114,97,108]⟩ t l))):=by
 have hLs:=hd_ (Nd.In_iff.1 h)
 obtain ⟨q,c,rfl,hc⟩:=h.form
 have HI:=hd_ h;have HQ:=hd_ hIH;have HN:=hd_ hn
 clear h hIH hn
 simp only [Nd.l] at hc
 show Calls _ _ #[.agg #[.string ⟨#[108,105,116,101,114,97,108]⟩,.string t,.slice q l.length c]] _ _
 have hLs:Hid (Ls w B (.slice q l.length c) l):=hLs
 by_cases hl:l.length=0
 ·obtain rfl:=List.eq_nil_of_length_eq_zero hl
  clear hl
  go_enter Tryz.func24,Tryz.ntmps24
  go_wp2_with fail
  go_ret
  exact ⟨_,rfl,(Kp.refl No w).alloc _,fun _=>⟨.lit 0 t,by simp [Ty.nd,Nd.name,Nd.lit],by simp only [Ty.shp]⟩⟩
 ·have d:((l.length:Int) == 0)=false:=by rw [beq_eq_false_iff_ne];omega
  go_enter Tryz.func24,Tryz.ntmps24
  go_wp2_with fail
  go_ret
  exact says_no _ _ _ ((Kp.refl No w).alloc _)
theorem she_select (t:ByteArray) (l:List Nd) (w:World) (B:Nat) (s:Value) (h:(Nd.mk ⟨#[115,101,108,101,99,116]⟩ t l).In w B s) (hB:B≤w.heap.size) (hn:(Nd.mk ⟨#[115,101,108,101,99,116]⟩ t l).size≤400) (hIH:∀ x:Nd,x.size < (Nd.mk ⟨#[115,101,108,101,99,116]⟩ t l).size→TyShP TyQ x) :
 Calls Tryz.prog 24 #[ndv (Nd.mk ⟨#[115,101,108,101,99,116]⟩ t l) s] w (Says w (TyQ (Nd.mk ⟨#[115,101,108,101,99,116]⟩ t l))):=by
 have hLs:=hd_ (Nd.In_iff.1 h)
 obtain ⟨q,c,rfl,hc⟩:=h.form
 have HI:=hd_ h;have HQ:=hd_ hIH;have HN:=hd_ hn
 clear h hIH hn
 simp only [Nd.l] at hc
 show Calls _ _ #[.agg #[.string ⟨#[115,101,108,101,99,116]⟩,.string t,.slice q l.length c]] _ _
 have hLs:Hid (Ls w B (.slice q l.length c) l):=hLs
 by_cases hl:l.length=1
 ·obtain ⟨x,rfl⟩:=len1 hl
  clear hl
  have hsx:x.size≤400∧x.size < (Nd.mk ⟨#[115,101,108,101,99,116]⟩ t [x]).size:=by
   have:=HN.out
   have:=x.size_pos
   simp only [Nd.size,Nd.sizeL] at *
   omega
  have HSX:=hd_ hsx
  clear hsx
  obtain ⟨b,o,c',q',d,he,_,hb,hi,g1,g2,g3,g4,g5⟩:=hLs.out.get (i:=0) rfl
  cases he
  have HX:=hd_ g4
  clear g4 hi
  simp only [Nat.zero_mul,Nat.add_zero] at g1 g2 g3
  simp only [lc_,ln_,Nat.zero_add,Nat.reduceAdd] at hc
  go_enter Tryz.func24,Tryz.ntmps24
  go_wp2_with fail
  refine (HQ.out x HSX.out.2 _ B _ (HX.out.stay fun b hb=>Below.heap_alloc _ _ _ (by omega)) (by simp;omega)).mono ?_
  rintro e w2 ⟨b2,rfl,hk2,hp⟩
  have hk2:Kp No w w2:=((Kp.refl No w).alloc _).trans' hk2
  have hks:=hk2.size
  have H2:=a2_ hk2 hp
  clear hk2 hp
  go_wp2_with fail
  go_ret
  exact ⟨_,rfl,H2.out.1,fun h=>q_sel (H2.out.2 (by simpa using h))⟩
 ·have d:((l.length:Int) == 1)=false:=by rw [beq_eq_false_iff_ne];omega
  go_enter Tryz.func24,Tryz.ntmps24
  go_wp2_with fail
  go_ret
  exact says_no _ _ _ ((Kp.refl No w).alloc _)
theorem she_star (t:ByteArray) (l:List Nd) (w:World) (B:Nat) (s:Value) (h:(Nd.mk ⟨#[115,116,97,114]⟩ t l).In w B s) (hB:B≤w.heap.size) (hn:(Nd.mk ⟨#[115,116,97,114]⟩ t l).size≤400) (hIH:∀ x:Nd,x.size < (Nd.mk ⟨#[115,116,97,114]⟩ t l).size→TyShP TyQ x) :
 Calls Tryz.prog 24 #[ndv (Nd.mk ⟨#[115,116,97,114]⟩ t l) s] w (Says w (TyQ (Nd.mk ⟨#[115,116,97,114]⟩ t l))):=by
 have hLs:=hd_ (Nd.In_iff.1 h)
 obtain ⟨q,c,rfl,hc⟩:=h.form
 have HI:=hd_ h;have HQ:=hd_ hIH;have HN:=hd_ hn
 clear h hIH hn
 simp only [Nd.l] at hc
 show Calls _ _ #[.agg #[.string ⟨#[115,116,97,114]⟩,.string t,.slice q l.length c]] _ _
 have hLs:Hid (Ls w B (.slice q l.length c) l):=hLs
 by_cases ht:t=⟨#[]⟩
 ·subst ht
  by_cases hl:l.length=1
  ·obtain ⟨x,rfl⟩:=len1 hl
   clear hl
   have hsx:x.size≤400∧x.size < (Nd.mk ⟨#[115,116,97,114]⟩ ⟨#[]⟩ [x]).size:=by
    have:=HN.out
    have:=x.size_pos
    simp only [Nd.size,Nd.sizeL] at *
    omega
   have HSX:=hd_ hsx
   clear hsx
   obtain ⟨b,o,c',q',d,he,_,hb,hi,g1,g2,g3,g4,g5⟩:=hLs.out.get (i:=0) rfl
   cases he
   have HX:=hd_ g4
   clear g4 hi
   simp only [Nat.zero_mul,Nat.add_zero] at g1 g2 g3
   simp only [lc_,ln_,Nat.zero_add,Nat.reduceAdd] at hc
   go_enter Tryz.func24,Tryz.ntmps24
   go_wp2_with fail
   refine (HQ.out x HSX.out.2 _ B _ (HX.out.stay fun b hb=>Below.heap_alloc _ _ _ (by omega)) (by simp;omega)).mono ?_
   rintro e w2 ⟨b2,rfl,hk2,hp⟩
   have hk2:Kp No w w2:=((Kp.refl No w).alloc _).trans' hk2
   have hks:=hk2.size
   have H2:=a2_ hk2 hp
   clear hk2 hp
   go_wp2_with fail
   go_ret
   exact ⟨_,rfl,H2.out.1,fun h=>q_star (H2.out.2 (by simpa using h))⟩
  ·have d:((l.length:Int) == 1)=false:=by rw [beq_eq_false_iff_ne];omega
   go_enter Tryz.func24,Tryz.ntmps24
   go_wp2_with fail
   go_ret
   exact says_no _ _ _ ((Kp.refl No w).alloc _)
 ·have ht:=bs_not ht
  simp only at ht
  go_enter Tryz.func24,Tryz.ntmps24
  go_wp2_with fail
  go_ret
  exact says_no _ _ _ ((Kp.refl No w).alloc _)
theorem she_array (t:ByteArray) (l:List Nd) (w:World) (B:Nat) (s:Value) (h:(Nd.mk ⟨#[97,114,114,97,121]⟩ t l).In w B s) (hB:B≤w.heap.size) (hn:(Nd.mk ⟨#[97,114,114,97,121]⟩ t l).size≤400) (hIH:∀ x:Nd,x.size < (Nd.mk ⟨#[97,114,114,97,121]⟩ t l).size→TyShP TyQ x) :
 Calls Tryz.prog 24 #[ndv (Nd.mk ⟨#[97,114,114,97,121]⟩ t l) s] w (Says w (TyQ (Nd.mk ⟨#[97,114,114,97,121]⟩ t l))):=by
 have hLs:=hd_ (Nd.In_iff.1 h)
 obtain ⟨q,c,rfl,hc⟩:=h.form
 have HI:=hd_ h;have HQ:=hd_ hIH;have HN:=hd_ hn
 clear h hIH hn
 simp only [Nd.l] at hc
 show Calls _ _ #[.agg #[.string ⟨#[97,114,114,97,121]⟩,.string t,.slice q l.length c]] _ _
 have hLs:Hid (Ls w B (.slice q l.length c) l):=hLs
 by_cases ht:t=⟨#[]⟩
 ·subst ht
  by_cases hl:l.length=2
  ·obtain ⟨x,y,rfl⟩:=len2 hl
   clear hl
   have hsx:x.size≤400∧x.size < (Nd.mk ⟨#[97,114,114,97,121]⟩ ⟨#[]⟩ [x,y]).size:=by
    have:=HN.out
    have:=x.size_pos
    simp only [Nd.size,Nd.sizeL] at *
    omega
   have HSX:=hd_ hsx
   clear hsx
   obtain ⟨b,o,c',q',d,he,_,hb,hi,g1,g2,g3,g4,g5⟩:=hLs.out.get (i:=0) rfl
   cases he
   have HX:=hd_ g4
   clear g4 hi
   simp only [Nat.zero_mul,Nat.add_zero] at g1 g2 g3
   simp only [lc_,ln_,Nat.zero_add,Nat.reduceAdd] at hc
   have hsy:y.size≤400∧y.size < (Nd.mk ⟨#[97,114,114,97,121]⟩ ⟨#[]⟩ [x,y]).size:=by
    have:=HN.out
    have:=y.size_pos
    simp only [Nd.size,Nd.sizeL] at *
    omega
   have HSY:=hd_ hsy
   clear hsy
   obtain ⟨b1,o1,c1,q1,d1,he,_,hb1,hi,k1,k2,k3,k4,k5⟩:=hLs.out.get (i:=1) rfl
   cases he
   have HY:=hd_ k4
   clear k4 hi
   simp only [Nat.one_mul] at k1 k2 k3
   go_enter Tryz.func24,Tryz.ntmps24
   go_wp2_with fail
   refine (or_c _ B 24 #[] x TyQ _ (HX.out.stay fun b hb=>Below.heap_alloc _ _ _ (by omega)) (by simp;omega) (Ask.fn1 Tryz.func24 (by kernel_rfl) rfl (by simp;omega) fun w' s hs hB'=>HQ.out x HSX.out.2 w' B s hs hB')).mono ?_
   rintro e w2 ⟨b2,rfl,hk2,hp⟩
   have hk2:Kp No w w2:=((Kp.refl No w).alloc _).trans' hk2
   have hks:=hk2.size
   obtain ⟨m1,m2,m3⟩:=cell3 hk2 k5 k1 k2 k3
   have H2:=a2_ hk2 hp
   clear hk2 hp
   cases b2
   ·go_wp2_with fail
    go_ret
    exact says_no _ _ _ H2.out.1
   go_wp2_with fail
   refine (HQ.out y HSY.out.2 _ B _ (HY.out.stay fun b hb=>H2.out.1.block b (by omega) (by simp)) (by omega)).mono ?_
   rintro e w3 ⟨b3,rfl,hk3,hp3⟩
   have H3:=a2_ hk3 hp3
   clear hk3 hp3
   go_wp2_with fail
   go_ret
   exact ⟨_,rfl,H2.out.1.trans' H3.out.1,fun h=>q_arr (H2.out.2 (by trivial)) (H3.out.2 (by simpa using h))⟩
  ·have d:((l.length:Int) == 2)=false:=by rw [beq_eq_false_iff_ne];omega
   go_enter Tryz.func24,Tryz.ntmps24
   go_wp2_with fail
   go_ret
   exact says_no _ _ _ ((Kp.refl No w).alloc _)
 ·have ht:=bs_not ht
  simp only at ht
  go_enter Tryz.func24,Tryz.ntmps24
  go_wp2_with fail
  go_ret
  exact says_no _ _ _ ((Kp.refl No w).alloc _)
theorem she_map (t:ByteArray) (l:List Nd) (w:World) (B:Nat) (s:Value) (h:(Nd.mk ⟨#[109,97,112]⟩ t l).In w B s) (hB:B≤w.heap.size) (hn:(Nd.mk ⟨#[109,97,112]⟩ t l).size≤400) (hIH:∀ x:Nd,x.size < (Nd.mk ⟨#[109,97,112]⟩ t l).size→TyShP TyQ x) :
 Calls Tryz.prog 24 #[ndv (Nd.mk ⟨#[109,97,112]⟩ t l) s] w (Says w (TyQ (Nd.mk ⟨#[109,97,112]⟩ t l))):=by
 have hLs:=hd_ (Nd.In_iff.1 h)
 obtain ⟨q,c,rfl,hc⟩:=h.form
 have HI:=hd_ h;have HQ:=hd_ hIH;have HN:=hd_ hn
 clear h hIH hn
 simp only [Nd.l] at hc
 show Calls _ _ #[.agg #[.string ⟨#[109,97,112]⟩,.string t,.slice q l.length c]] _ _
 have hLs:Hid (Ls w B (.slice q l.length c) l):=hLs
 by_cases ht:t=⟨#[]⟩
 ·subst ht
  by_cases hl:l.length=2
  ·obtain ⟨x,y,rfl⟩:=len2 hl
   clear hl
   have hsx:x.size≤400∧x.size < (Nd.mk ⟨#[109,97,112]⟩ ⟨#[]⟩ [x,y]).size:=by
    have:=HN.out
    have:=x.size_pos
    simp only [Nd.size,Nd.sizeL] at *
    omega
   have HSX:=hd_ hsx
   clear hsx
   obtain ⟨b,o,c',q',d,he,_,hb,hi,g1,g2,g3,g4,g5⟩:=hLs.out.get (i:=0) rfl
   cases he
   have HX:=hd_ g4
   clear g4 hi
   simp only [Nat.zero_mul,Nat.add_zero] at g1 g2 g3
   simp only [lc_,ln_,Nat.zero_add,Nat.reduceAdd] at hc
   have hsy:y.size≤400∧y.size < (Nd.mk ⟨#[109,97,112]⟩ ⟨#[]⟩ [x,y]).size:=by
    have:=HN.out
    have:=y.size_pos
    simp only [Nd.size,Nd.sizeL] at *
    omega
   have HSY:=hd_ hsy
   clear hsy
   obtain ⟨b1,o1,c1,q1,d1,he,_,hb1,hi,k1,k2,k3,k4,k5⟩:=hLs.out.get (i:=1) rfl
   cases he
   have HY:=hd_ k4
   clear k4 hi
   simp only [Nat.one_mul] at k1 k2 k3
   go_enter Tryz.func24,Tryz.ntmps24
   go_wp2_with fail
   refine (every_c _ B 24 #[] [x,y] TyQ _ (hLs.out.stay fun b hb=>Below.heap_alloc _ _ _ (by omega)) (by simp;omega) (Ask.fn Tryz.func24 (by kernel_rfl) rfl (by simp;omega) fun w' i m s hm hs hB'=>HQ.out m (by have h2:=List.mem_of_getElem? hm;simp only [List.mem_cons,List.not_mem_nil,or_false] at h2;rcases h2 with h2 | h2;(subst h2;exact HSX.out.2);(subst h2;exact HSY.out.2)) w' B s hs hB') (by simp)).mono ?_
   rintro e w2 ⟨b2,rfl,hk2,hp⟩
   have hk2:Kp No w w2:=((Kp.refl No w).alloc _).trans' hk2
   have hks:=hk2.size
   have H2:=a2_ hk2 hp
   clear hk2 hp
   go_wp2_with fail
   go_ret
   exact ⟨_,rfl,H2.out.1,fun h=>q_map (H2.out.2 (by simpa using h))⟩
  ·have d:((l.length:Int) == 2)=false:=by rw [beq_eq_false_iff_ne];omega
   go_enter Tryz.func24,Tryz.ntmps24
   go_wp2_with fail
   go_ret
   exact says_no _ _ _ ((Kp.refl No w).alloc _)
 ·have ht:=bs_not ht
  simp only at ht
  go_enter Tryz.func24,Tryz.ntmps24
  go_wp2_with fail
  go_ret
  exact says_no _ _ _ ((Kp.refl No w).alloc _)
theorem she_chan (t:ByteArray) (l:List Nd) (w:World) (B:Nat) (s:Value) (h:(Nd.mk ⟨#[99,104,97,110]⟩ t l).In w B s) (hB:B≤w.heap.size) (hn:(Nd.mk ⟨#[99,104,97,110]⟩ t l).size≤400) (hIH:∀ x:Nd,x.size < (Nd.mk ⟨#[99,104,97,110]⟩ t l).size→TyShP TyQ x) :
 Calls Tryz.prog 24 #[ndv (Nd.mk ⟨#[99,104,97,110]⟩ t l) s] w (Says w (TyQ (Nd.mk ⟨#[99,104,97,110]⟩ t l))):=by
 have hLs:=hd_ (Nd.In_iff.1 h)
 obtain ⟨q,c,rfl,hc⟩:=h.form
 have HI:=hd_ h;have HQ:=hd_ hIH;have HN:=hd_ hn
 clear h hIH hn
 simp only [Nd.l] at hc
 show Calls _ _ #[.agg #[.string ⟨#[99,104,97,110]⟩,.string t,.slice q l.length c]] _ _
 have hLs:Hid (Ls w B (.slice q l.length c) l):=hLs
 by_cases ht:t=⟨#[]⟩
 ·subst ht
  by_cases hl:l.length=1
  ·obtain ⟨x,rfl⟩:=len1 hl
   clear hl
   have hsx:x.size≤400∧x.size < (Nd.mk ⟨#[99,104,97,110]⟩ ⟨#[]⟩ [x]).size:=by
    have:=HN.out
    have:=x.size_pos
    simp only [Nd.size,Nd.sizeL] at *
    omega
   have HSX:=hd_ hsx
   clear hsx
   obtain ⟨b,o,c',q',d,he,_,hb,hi,g1,g2,g3,g4,g5⟩:=hLs.out.get (i:=0) rfl
   cases he
   have HX:=hd_ g4
   clear g4 hi
   simp only [Nat.zero_mul,Nat.add_zero] at g1 g2 g3
   simp only [lc_,ln_,Nat.zero_add,Nat.reduceAdd] at hc
   go_enter Tryz.func24,Tryz.ntmps24
   go_wp2_with fail
   refine (HQ.out x HSX.out.2 _ B _ (HX.out.stay fun b hb=>Below.heap_alloc _ _ _ (by omega)) (by simp;omega)).mono ?_
   rintro e w2 ⟨b2,rfl,hk2,hp⟩
   have hk2:Kp No w w2:=((Kp.refl No w).alloc _).trans' hk2
   have hks:=hk2.size
   have H2:=a2_ hk2 hp
   clear hk2 hp
   go_wp2_with fail
   go_ret
   exact ⟨_,rfl,H2.out.1,fun h=>q_ch (H2.out.2 (by simpa using h))⟩
  ·have d:((l.length:Int) == 1)=false:=by rw [beq_eq_false_iff_ne];omega
   go_enter Tryz.func24,Tryz.ntmps24
   go_wp2_with fail
   go_ret
   exact says_no _ _ _ ((Kp.refl No w).alloc _)
 by_cases ht1:t=⟨#[115,101,110,100]⟩
 ·subst ht1
  by_cases hl:l.length=1
  ·obtain ⟨x,rfl⟩:=len1 hl
   clear hl
   have hsx:x.size≤400∧x.size < (Nd.mk ⟨#[99,104,97,110]⟩ ⟨#[115,101,110,100]⟩ [x]).size:=by
    have:=HN.out
    have:=x.size_pos
    simp only [Nd.size,Nd.sizeL] at *
    omega
   have HSX:=hd_ hsx
   clear hsx
   obtain ⟨b,o,c',q',d,he,_,hb,hi,g1,g2,g3,g4,g5⟩:=hLs.out.get (i:=0) rfl
   cases he
   have HX:=hd_ g4
   clear g4 hi
   simp only [Nat.zero_mul,Nat.add_zero] at g1 g2 g3
   simp only [lc_,ln_,Nat.zero_add,Nat.reduceAdd] at hc
   go_enter Tryz.func24,Tryz.ntmps24
   go_wp2_with fail
   refine (HQ.out x HSX.out.2 _ B _ (HX.out.stay fun b hb=>Below.heap_alloc _ _ _ (by omega)) (by simp;omega)).mono ?_
   rintro e w2 ⟨b2,rfl,hk2,hp⟩
   have hk2:Kp No w w2:=((Kp.refl No w).alloc _).trans' hk2
   have hks:=hk2.size
   have H2:=a2_ hk2 hp
   clear hk2 hp
   go_wp2_with fail
   go_ret
   exact ⟨_,rfl,H2.out.1,fun h=>q_chs (H2.out.2 (by simpa using h))⟩
  ·have d:((l.length:Int) == 1)=false:=by rw [beq_eq_false_iff_ne];omega
   go_enter Tryz.func24,Tryz.ntmps24
   go_wp2_with fail
   go_ret
   exact says_no _ _ _ ((Kp.refl No w).alloc _)
 by_cases ht2:t=⟨#[114,101,99,101,105,118,101]⟩
 ·subst ht2
  by_cases hl:l.length=1
  ·obtain ⟨x,rfl⟩:=len1 hl
   clear hl
   have hsx:x.size≤400∧x.size < (Nd.mk ⟨#[99,104,97,110]⟩ ⟨#[114,101,99,101,105,118,101]⟩ [x]).size:=by
    have:=HN.out
    have:=x.size_pos
    simp only [Nd.size,Nd.sizeL] at *
    omega
   have HSX:=hd_ hsx
   clear hsx
   obtain ⟨b,o,c',q',d,he,_,hb,hi,g1,g2,g3,g4,g5⟩:=hLs.out.get (i:=0) rfl
   cases he
   have HX:=hd_ g4
   clear g4 hi
   simp only [Nat.zero_mul,Nat.add_zero] at g1 g2 g3
   simp only [lc_,ln_,Nat.zero_add,Nat.reduceAdd] at hc
   go_enter Tryz.func24,Tryz.ntmps24
   go_wp2_with fail
   refine (HQ.out x HSX.out.2 _ B _ (HX.out.stay fun b hb=>Below.heap_alloc _ _ _ (by omega)) (by simp;omega)).mono ?_
   rintro e w2 ⟨b2,rfl,hk2,hp⟩
   have hk2:Kp No w w2:=((Kp.refl No w).alloc _).trans' hk2
   have hks:=hk2.size
   have H2:=a2_ hk2 hp
   clear hk2 hp
   go_wp2_with fail
   go_ret
   exact ⟨_,rfl,H2.out.1,fun h=>q_chr (H2.out.2 (by simpa using h))⟩
  ·have d:((l.length:Int) == 1)=false:=by rw [beq_eq_false_iff_ne];omega
   go_enter Tryz.func24,Tryz.ntmps24
   go_wp2_with fail
   go_ret
   exact says_no _ _ _ ((Kp.refl No w).alloc _)
 have ht:=bs_not ht
 have ht1:=bs_not ht1
 have ht2:=bs_not ht2
 simp only at ht ht1 ht2
 go_enter Tryz.func24,Tryz.ntmps24
 go_wp2_with fail
 go_ret
 exact says_no _ _ _ ((Kp.refl No w).alloc _)
theorem she_signature (t:ByteArray) (l:List Nd) (w:World) (B:Nat) (s:Value) (h:(Nd.mk ⟨#[115,105,103,110,97,116,117,114,101]⟩ t l).In w B s) (hB:B≤w.heap.size) (hn:(Nd.mk ⟨#[115,105,103,110,97,116,117,114,101]⟩ t l).size≤400) (hIH:∀ x:Nd,x.size < (Nd.mk ⟨#[115,105,103,110,97,116,117,114,101]⟩ t l).size→TyShP TyQ x) :
 Calls Tryz.prog 24 #[ndv (Nd.mk ⟨#[115,105,103,110,97,116,117,114,101]⟩ t l) s] w (Says w (TyQ (Nd.mk ⟨#[115,105,103,110,97,116,117,114,101]⟩ t l))):=by
 have hLs:=hd_ (Nd.In_iff.1 h)
 obtain ⟨q,c,rfl,hc⟩:=h.form
 have HI:=hd_ h;have HQ:=hd_ hIH;have HN:=hd_ hn
 clear h hIH hn
 simp only [Nd.l] at hc
 show Calls _ _ #[.agg #[.string ⟨#[115,105,103,110,97,116,117,114,101]⟩,.string t,.slice q l.length c]] _ _
 have hLs:Hid (Ls w B (.slice q l.length c) l):=hLs
 by_cases ht:t=⟨#[]⟩
 ·subst ht
  by_cases hl:l.length=2
  ·obtain ⟨x,y,rfl⟩:=len2 hl
   clear hl
   have hsx:x.size≤400∧x.size < (Nd.mk ⟨#[115,105,103,110,97,116,117,114,101]⟩ ⟨#[]⟩ [x,y]).size:=by
    have:=HN.out
    have:=x.size_pos
    simp only [Nd.size,Nd.sizeL] at *
    omega
   have HSX:=hd_ hsx
   clear hsx
   obtain ⟨b,o,c',q',d,he,_,hb,hi,g1,g2,g3,g4,g5⟩:=hLs.out.get (i:=0) rfl
   cases he
   have HX:=hd_ g4
   clear g4 hi
   simp only [Nat.zero_mul,Nat.add_zero] at g1 g2 g3
   simp only [lc_,ln_,Nat.zero_add,Nat.reduceAdd] at hc
   have hsy:y.size≤400∧y.size < (Nd.mk ⟨#[115,105,103,110,97,116,117,114,101]⟩ ⟨#[]⟩ [x,y]).size:=by
    have:=HN.out
    have:=y.size_pos
    simp only [Nd.size,Nd.sizeL] at *
    omega
   have HSY:=hd_ hsy
   clear hsy
   obtain ⟨b1,o1,c1,q1,d1,he,_,hb1,hi,k1,k2,k3,k4,k5⟩:=hLs.out.get (i:=1) rfl
   cases he
   have HY:=hd_ k4
   clear k4 hi
   simp only [Nat.one_mul] at k1 k2 k3
   go_enter Tryz.func24,Tryz.ntmps24
   go_wp2_with fail
   refine (prms_c TyQ x _ B _ (HX.out.stay fun b hb=>Below.heap_alloc _ _ _ (by omega)) (by simp;omega) HSX.out.1 (fun i f hi y hy=>HQ.out y (by have:=Nd.kids_le hi;have:=Nd.kids_le hy;have:=HSX.out.2;omega))).mono ?_
   rintro e w2 ⟨b2,rfl,hk2,hp⟩
   have hk2:Kp No w w2:=((Kp.refl No w).alloc _).trans' hk2
   have hks:=hk2.size
   obtain ⟨m1,m2,m3⟩:=cell3 hk2 k5 k1 k2 k3
   have H2:=a2_ hk2 hp
   clear hk2 hp
   cases b2
   ·go_wp2_with fail
    go_ret
    exact says_no _ _ _ H2.out.1
   go_wp2_with fail
   refine (or_c _ B 23 #[] y (PrmQ TyQ) _ (HY.out.stay fun b hb=>H2.out.1.block b (by omega) (by simp)) (by omega) (Ask.fn1 Tryz.func23 (by kernel_rfl) rfl (by omega) fun w' s hs hB'=>prms_c TyQ y w' B s hs hB' HSY.out.1 (fun i f hi z hz=>HQ.out z (by have:=Nd.kids_le hi;have:=Nd.kids_le hz;have:=HSY.out.2;omega)))).mono ?_
   rintro e w3 ⟨b3,rfl,hk3,hp3⟩
   have H3:=a2_ hk3 hp3
   clear hk3 hp3
   go_wp2_with fail
   go_ret
   exact ⟨_,rfl,H2.out.1.trans' H3.out.1,fun h=>q_sig (H2.out.2 (by trivial)) (H3.out.2 (by simpa using h))⟩
  ·have d:((l.length:Int) == 2)=false:=by rw [beq_eq_false_iff_ne];omega
   go_enter Tryz.func24,Tryz.ntmps24
   go_wp2_with fail
   go_ret
   exact says_no _ _ _ ((Kp.refl No w).alloc _)
 ·have ht:=bs_not ht
  simp only at ht
  go_enter Tryz.func24,Tryz.ntmps24
  go_wp2_with fail
  go_ret
  exact says_no _ _ _ ((Kp.refl No w).alloc _)
theorem she_struct (t:ByteArray) (l:List Nd) (w:World) (B:Nat) (s:Value) (h:(Nd.mk ⟨#[115,116,114,117,99,116]⟩ t l).In w B s) (hB:B≤w.heap.size) (hn:(Nd.mk ⟨#[115,116,114,117,99,116]⟩ t l).size≤400) (hIH:∀ x:Nd,x.size < (Nd.mk ⟨#[115,116,114,117,99,116]⟩ t l).size→TyShP TyQ x) :
 Calls Tryz.prog 24 #[ndv (Nd.mk ⟨#[115,116,114,117,99,116]⟩ t l) s] w (Says w (TyQ (Nd.mk ⟨#[115,116,114,117,99,116]⟩ t l))):=by
 have hLs:=hd_ (Nd.In_iff.1 h)
 obtain ⟨q,c,rfl,hc⟩:=h.form
 have HI:=hd_ h;have HQ:=hd_ hIH;have HN:=hd_ hn
 clear h hIH hn
 simp only [Nd.l] at hc
 show Calls _ _ #[.agg #[.string ⟨#[115,116,114,117,99,116]⟩,.string t,.slice q l.length c]] _ _
 have hLs:Hid (Ls w B (.slice q l.length c) l):=hLs
 by_cases ht:t=⟨#[]⟩
 ·subst ht
  by_cases hl:l.length=1
  ·obtain ⟨x,rfl⟩:=len1 hl
   clear hl
   have hsx:x.size≤400∧x.size < (Nd.mk ⟨#[115,116,114,117,99,116]⟩ ⟨#[]⟩ [x]).size:=by
    have:=HN.out
    have:=x.size_pos
    simp only [Nd.size,Nd.sizeL] at *
    omega
   have HSX:=hd_ hsx
   clear hsx
   obtain ⟨b,o,c',q',d,he,_,hb,hi,g1,g2,g3,g4,g5⟩:=hLs.out.get (i:=0) rfl
   cases he
   have HX:=hd_ g4
   clear g4 hi
   simp only [Nat.zero_mul,Nat.add_zero] at g1 g2 g3
   simp only [lc_,ln_,Nat.zero_add,Nat.reduceAdd] at hc
   go_enter Tryz.func24,Tryz.ntmps24
   go_wp2_with fail
   refine (flds_c TyQ (fun _=>True) x _ B 54 #[] _ (HX.out.stay fun b hb=>Below.heap_alloc _ _ _ (by omega)) (by simp;omega) HSX.out.1 (fun i f hi y hy=>HQ.out y (by have:=Nd.kids_le hi;have:=Nd.kids_le hy;have:=HSX.out.2;omega)) (ask_any (by simp;omega))).mono ?_
   rintro e w2 ⟨b2,rfl,hk2,hp⟩
   have hk2:Kp No w w2:=((Kp.refl No w).alloc _).trans' hk2
   have hks:=hk2.size
   have H2:=a2_ hk2 hp
   clear hk2 hp
   go_wp2_with fail
   go_ret
   exact ⟨_,rfl,H2.out.1,fun h=>q_struct (H2.out.2 (by simpa using h))⟩
  ·have d:((l.length:Int) == 1)=false:=by rw [beq_eq_false_iff_ne];omega
   go_enter Tryz.func24,Tryz.ntmps24
   go_wp2_with fail
   go_ret
   exact says_no _ _ _ ((Kp.refl No w).alloc _)
 ·have ht:=bs_not ht
  simp only at ht
  go_enter Tryz.func24,Tryz.ntmps24
  go_wp2_with fail
  go_ret
  exact says_no _ _ _ ((Kp.refl No w).alloc _)
theorem she_interface (t:ByteArray) (l:List Nd) (w:World) (B:Nat) (s:Value) (h:(Nd.mk ⟨#[105,110,116,101,114,102,97,99,101]⟩ t l).In w B s) (hB:B≤w.heap.size) (hn:(Nd.mk ⟨#[105,110,116,101,114,102,97,99,101]⟩ t l).size≤400) (hIH:∀ x:Nd,x.size < (Nd.mk ⟨#[105,110,116,101,114,102,97,99,101]⟩ t l).size→TyShP TyQ x) :
 Calls Tryz.prog 24 #[ndv (Nd.mk ⟨#[105,110,116,101,114,102,97,99,101]⟩ t l) s] w (Says w (TyQ (Nd.mk ⟨#[105,110,116,101,114,102,97,99,101]⟩ t l))):=by
 have hLs:=hd_ (Nd.In_iff.1 h)
 obtain ⟨q,c,rfl,hc⟩:=h.form
 have HI:=hd_ h;have HQ:=hd_ hIH;have HN:=hd_ hn
 clear h hIH hn
 simp only [Nd.l] at hc
 show Calls _ _ #[.agg #[.string ⟨#[105,110,116,101,114,102,97,99,101]⟩,.string t,.slice q l.length c]] _ _
 have hLs:Hid (Ls w B (.slice q l.length c) l):=hLs
 by_cases ht:t=⟨#[]⟩
 ·subst ht
  by_cases hl:l.length=1
  ·obtain ⟨x,rfl⟩:=len1 hl
   clear hl
   have hsx:x.size≤400∧x.size < (Nd.mk ⟨#[105,110,116,101,114,102,97,99,101]⟩ ⟨#[]⟩ [x]).size:=by
    have:=HN.out
    have:=x.size_pos
    simp only [Nd.size,Nd.sizeL] at *
    omega
   have HSX:=hd_ hsx
   clear hsx
   obtain ⟨b,o,c',q',d,he,_,hb,hi,g1,g2,g3,g4,g5⟩:=hLs.out.get (i:=0) rfl
   cases he
   have HX:=hd_ g4
   clear g4 hi
   simp only [Nat.zero_mul,Nat.add_zero] at g1 g2 g3
   simp only [lc_,ln_,Nat.zero_add,Nat.reduceAdd] at hc
   go_enter Tryz.func24,Tryz.ntmps24
   go_wp2_with fail
   refine (mths_c TyQ x _ B _ (HX.out.stay fun b hb=>Below.heap_alloc _ _ _ (by omega)) (by simp;omega) HSX.out.1 (fun i f hi y hy=>HQ.out y (by have:=Nd.kids_le hi;have:=Nd.kids_le hy;have:=HSX.out.2;omega))).mono ?_
   rintro e w2 ⟨b2,rfl,hk2,hp⟩
   have hk2:Kp No w w2:=((Kp.refl No w).alloc _).trans' hk2
   have hks:=hk2.size
   have H2:=a2_ hk2 hp
   clear hk2 hp
   go_wp2_with fail
   go_ret
   exact ⟨_,rfl,H2.out.1,fun h=>q_iface (H2.out.2 (by simpa using h))⟩
  ·have d:((l.length:Int) == 1)=false:=by rw [beq_eq_false_iff_ne];omega
   go_enter Tryz.func24,Tryz.ntmps24
   go_wp2_with fail
   go_ret
   exact says_no _ _ _ ((Kp.refl No w).alloc _)
 ·have ht:=bs_not ht
  simp only at ht
  go_enter Tryz.func24,Tryz.ntmps24
  go_wp2_with fail
  go_ret
  exact says_no _ _ _ ((Kp.refl No w).alloc _)
theorem she_c:∀ (m:Nat) (n:Nd),n.size≤m→m≤400→TyShP TyQ n:=by
 intro m
 induction m with
 | zero=>intro n h;have:=n.size_pos;omega
 | succ m IH =>
 intro n hn hm w B s h hB
 obtain ⟨k,t,l⟩:=n
 have hIH:∀ x:Nd,x.size < (Nd.mk k t l).size→TyShP TyQ x:=fun x hx=>IH x (by omega) (by omega)
 by_cases h0:k=⟨#[110,97,109,101]⟩
 ·subst h0
  exact she_name t l w B s h hB (by omega) hIH
 by_cases h1:k=⟨#[108,105,116,101,114,97,108]⟩
 ·subst h1
  exact she_literal t l w B s h hB (by omega) hIH
 by_cases h2:k=⟨#[115,101,108,101,99,116]⟩
 ·subst h2
  exact she_select t l w B s h hB (by omega) hIH
 by_cases h3:k=⟨#[115,116,97,114]⟩
 ·subst h3
  exact she_star t l w B s h hB (by omega) hIH
 by_cases h4:k=⟨#[97,114,114,97,121]⟩
 ·subst h4
  exact she_array t l w B s h hB (by omega) hIH
 by_cases h5:k=⟨#[109,97,112]⟩
 ·subst h5
  exact she_map t l w B s h hB (by omega) hIH
 by_cases h6:k=⟨#[99,104,97,110]⟩
 ·subst h6
  exact she_chan t l w B s h hB (by omega) hIH
 by_cases h7:k=⟨#[115,105,103,110,97,116,117,114,101]⟩
 ·subst h7
  exact she_signature t l w B s h hB (by omega) hIH
 by_cases h8:k=⟨#[115,116,114,117,99,116]⟩
 ·subst h8
  exact she_struct t l w B s h hB (by omega) hIH
 by_cases h9:k=⟨#[105,110,116,101,114,102,97,99,101]⟩
 ·subst h9
  exact she_interface t l w B s h hB (by omega) hIH
 obtain ⟨q,c,rfl,hc⟩:=h.form
 clear IH hIH h
 have h0:=bs_bne h0
 have h1:=bs_bne h1
 have h2:=bs_bne h2
 have h3:=bs_bne h3
 have h4:=bs_bne h4
 have h5:=bs_bne h5
 have h6:=bs_bne h6
 have h7:=bs_bne h7
 have h8:=bs_bne h8
 have h9:=bs_bne h9
 simp only at h0 h1 h2 h3 h4 h5 h6 h7 h8 h9
 show Calls _ _ #[.agg #[.string k,.string t,.slice q l.length c]] _ _
 go_enter Tryz.func24,Tryz.ntmps24
 go_wp2_with fail
 go_ret
 exact says_no _ _ _ ((Kp.refl No w).alloc _)
end
section
open Go Go.RowKit
def It.shp:It→Prop
 | .path ..=>True
 | .pathn ..=>True
 | .value ns t vs=>ns≠[]∧(∀ x,t=some x→x.shp false)∧∀ v∈vs,v.2.shp false
 | .type _ _ t=>t.shp false
 | .alias _ _ _ t=>t.shp false
def PathQ (n:Nd):Prop:=∃ i:It,i.nd=n∧i.shp
def ValueQ (n:Nd):Prop:=∃ i:It,i.nd=n∧i.shp
def TypeQ (n:Nd):Prop:=∃ i:It,i.nd=n∧i.shp
theorem tys_of:∀ (l:List Nd),(∀ (i:Nat) (n:Nd),l[i]?=some n→TyQ n)→∃ vs:List (Int × Ty),(vs.map fun v=>v.2.nd)=l∧∀ v∈vs,v.2.shp false
 | [],_=>⟨[],rfl,by simp⟩
 | n::l,h=>by
  obtain ⟨vs,hv,hs⟩:=tys_of l fun i m hm=>h (i+1) m (by simpa using hm)
  obtain ⟨t,rfl,ht⟩:=h 0 n rfl
  refine ⟨(0,t)::vs,by simp [hv],?_⟩
  intro v hv
  rcases List.mem_cons.1 hv with rfl | hv
  ·exact ht
  ·exact hs v hv
theorem bs_ne2 {t:ByteArray} (h:¬ t=⟨#[]⟩):¬ t.toList=[]∧t.toList.isEmpty=false :=
 bs_ne fun e=>h (bs_empty e)
theorem q_path {t:ByteArray} {x:Nd} (h:x=.miss∨∃ s,x=.name s):PathQ (.mk ⟨#[112,97,116,104]⟩ t [x]):=by
 rcases h with rfl | ⟨m,rfl⟩
 ·exact ⟨.path 0 t,rfl,trivial⟩
 ·exact ⟨.pathn 0 m 0 t,rfl,trivial⟩
theorem q_type {t:ByteArray} {x:Nd} (h:TyQ x):TypeQ (.mk ⟨#[116,121,112,101]⟩ t [x]):=by
 obtain ⟨T,rfl,h⟩:=h
 exact ⟨.type 0 t T,rfl,h⟩
theorem q_alias {t:ByteArray} {x:Nd} (h:TyQ x):TypeQ (.mk ⟨#[97,108,105,97,115]⟩ t [x]):=by
 obtain ⟨T,rfl,h⟩:=h
 exact ⟨.alias 0 t 0 T,rfl,h⟩
theorem q_value {a c:List Nd} {y:Nd} (h0:0 < a.length) (h1:∀ (i:Nat) (n:Nd),a[i]?=some n→∃ s,n=.name s) (h2:y=.miss∨TyQ y) (h3:∀ (i:Nat) (n:Nd),c[i]?=some n→TyQ n):ValueQ (.mk ⟨#[118,97,108,117,101]⟩ ⟨#[]⟩ [.mk ⟨#[108,105,115,116]⟩ ⟨#[]⟩ a,y,.mk ⟨#[108,105,115,116]⟩ ⟨#[]⟩ c]):=by
 obtain ⟨ns,rfl⟩:=names_of a h1
 obtain ⟨vs,rfl,hv⟩:=tys_of c h3
 have hne:ns≠[]:=by rintro rfl;simp at h0
 rcases h2 with rfl | ⟨T,rfl,hT⟩
 ·exact ⟨.value ns none vs,rfl,hne,by simp,hv⟩
 ·refine ⟨.value ns (some T) vs,rfl,hne,?_,hv⟩
  intro x hx
  cases hx
  exact hT
theorem shpath_c (n:Nd) (w:World) (B:Nat) (s:Value) (h:n.In w B s) (hB:B≤w.heap.size) (hn:n.size≤400) :
 Calls Tryz.prog 19 #[ndv n s] w (Says w (PathQ n)):=by
 have hLs:=hd_ (Nd.In_iff.1 h)
 obtain ⟨q,c,rfl,hc⟩:=h.form
 have HN:=hd_ hn
 clear h hn
 obtain ⟨k,t,l⟩:=n
 simp only [Nd.l] at hc
 show Calls _ _ #[.agg #[.string k,.string t,.slice q l.length c]] _ _
 have hLs:Hid (Ls w B (.slice q l.length c) l):=hLs
 by_cases hk:k=⟨#[112,97,116,104]⟩
 ·subst hk
  by_cases hl:l.length=1
  ·obtain ⟨x,rfl⟩:=len1 hl
   clear hl
   have hsx:x.size≤400:=by
    have:=HN.out
    simp only [Nd.size,Nd.sizeL] at *
    omega
   have HSx:=hd_ hsx
   clear hsx
   obtain ⟨b0,o0,c0,q0,d0,he,_,hb0,hi,g1,g2,g3,g4,g5⟩:=hLs.out.get (i:=0) rfl
   cases he
   have Hx:=hd_ g4
   clear g4 hi
   simp only [Nat.zero_mul,Nat.one_mul,Nat.add_zero,Nat.reduceMul] at g1 g2 g3
   simp only [lc_,ln_,Nat.zero_add,Nat.reduceAdd] at hc
   go_enter Tryz.func19,Tryz.ntmps19
   go_wp2_with fail
   refine (or_c _ B 51 #[] x _ _ (Hx.out.stay fun b hb=>Below.heap_alloc _ _ _ (by omega)) (by simp;omega) (ask_name (by simp;omega))).mono ?_
   rintro e w2 ⟨b2,rfl,hk2,hp⟩
   have hk2:Kp No w w2:=((Kp.refl No w).alloc _).trans' hk2
   have hks:=hk2.size
   have H2:=a2_ hk2 hp
   clear hk2 hp
   go_wp2_with fail
   go_ret
   exact ⟨_,rfl,H2.out.1,fun h=>q_path (H2.out.2 (by simpa using h))⟩
  ·have d:((l.length:Int) == 1)=false:=by rw [beq_eq_false_iff_ne];omega
   go_enter Tryz.func19,Tryz.ntmps19
   go_wp2_with fail
   go_ret
   exact says_no _ _ _ ((Kp.refl No w).alloc _)
 ·have hk:=bs_bne hk
  simp only at hk
  go_enter Tryz.func19,Tryz.ntmps19
  go_wp2_with fail
  go_ret
  exact says_no _ _ _ ((Kp.refl No w).alloc _)
theorem shtype_c (n:Nd) (w:World) (B:Nat) (s:Value) (h:n.In w B s) (hB:B≤w.heap.size) (hn:n.size≤400) :
 Calls Tryz.prog 21 #[ndv n s] w (Says w (TypeQ n)):=by
 have hLs:=hd_ (Nd.In_iff.1 h)
 obtain ⟨q,c,rfl,hc⟩:=h.form
 have HN:=hd_ hn
 clear h hn
 obtain ⟨k,t,l⟩:=n
 simp only [Nd.l] at hc
 show Calls _ _ #[.agg #[.string k,.string t,.slice q l.length c]] _ _
 have hLs:Hid (Ls w B (.slice q l.length c) l):=hLs
 by_cases hk:k=⟨#[116,121,112,101]⟩
 ·subst hk
  by_cases hl:l.length=1
  ·obtain ⟨x,rfl⟩:=len1 hl
   clear hl
   have hsx:x.size≤400:=by
    have:=HN.out
    simp only [Nd.size,Nd.sizeL] at *
    omega
   have HSx:=hd_ hsx
   clear hsx
   obtain ⟨b0,o0,c0,q0,d0,he,_,hb0,hi,g1,g2,g3,g4,g5⟩:=hLs.out.get (i:=0) rfl
   cases he
   have Hx:=hd_ g4
   clear g4 hi
   simp only [Nat.zero_mul,Nat.one_mul,Nat.add_zero,Nat.reduceMul] at g1 g2 g3
   simp only [lc_,ln_,Nat.zero_add,Nat.reduceAdd] at hc
   go_enter Tryz.func21,Tryz.ntmps21
   go_wp2_with fail
   refine (she_c x.size x (Nat.le_refl _) HSx.out _ B _ (Hx.out.stay fun b hb=>Below.heap_alloc _ _ _ (by omega)) (by simp;omega)).mono ?_
   rintro e w2 ⟨b2,rfl,hk2,hp⟩
   have hk2:Kp No w w2:=((Kp.refl No w).alloc _).trans' hk2
   have hks:=hk2.size
   have H2:=a2_ hk2 hp
   clear hk2 hp
   go_wp2_with fail
   go_ret
   exact ⟨_,rfl,H2.out.1,fun h=>q_type (H2.out.2 (by simpa using h))⟩
  ·have d:((l.length:Int) == 1)=false:=by rw [beq_eq_false_iff_ne];omega
   go_enter Tryz.func21,Tryz.ntmps21
   go_wp2_with fail
   go_ret
   exact says_no _ _ _ ((Kp.refl No w).alloc _)
 ·have hk:=bs_bne hk
  simp only at hk
  by_cases hj:k=⟨#[97,108,105,97,115]⟩
  ·subst hj
   clear hk
   by_cases hl:l.length=1
   ·obtain ⟨x,rfl⟩:=len1 hl
    clear hl
    have hsx:x.size≤400:=by
     have:=HN.out
     simp only [Nd.size,Nd.sizeL] at *
     omega
    have HSx:=hd_ hsx
    clear hsx
    obtain ⟨b0,o0,c0,q0,d0,he,_,hb0,hi,g1,g2,g3,g4,g5⟩:=hLs.out.get (i:=0) rfl
    cases he
    have Hx:=hd_ g4
    clear g4 hi
    simp only [Nat.zero_mul,Nat.one_mul,Nat.add_zero,Nat.reduceMul] at g1 g2 g3
    simp only [lc_,ln_,Nat.zero_add,Nat.reduceAdd] at hc
    go_enter Tryz.func21,Tryz.ntmps21
    go_wp2_with fail
    refine (she_c x.size x (Nat.le_refl _) HSx.out _ B _ (Hx.out.stay fun b hb=>Below.heap_alloc _ _ _ (by omega)) (by simp;omega)).mono ?_
    rintro e w2 ⟨b2,rfl,hk2,hp⟩
    have hk2:Kp No w w2:=((Kp.refl No w).alloc _).trans' hk2
    have hks:=hk2.size
    have H2:=a2_ hk2 hp
    clear hk2 hp
    go_wp2_with fail
    go_ret
    exact ⟨_,rfl,H2.out.1,fun h=>q_alias (H2.out.2 (by simpa using h))⟩
   ·have d:((l.length:Int) == 1)=false:=by rw [beq_eq_false_iff_ne];omega
    go_enter Tryz.func21,Tryz.ntmps21
    go_wp2_with fail
    go_ret
    exact says_no _ _ _ ((Kp.refl No w).alloc _)
  ·have hj:=bs_bne hj
   simp only at hj
   go_enter Tryz.func21,Tryz.ntmps21
   go_wp2_with fail
   go_ret
   exact says_no _ _ _ ((Kp.refl No w).alloc _)
theorem len3 {l:List Nd} (h:l.length=3):∃ x y z,l=[x,y,z]:=by
 match l,h with
 | [x,y,z],_=>exact ⟨x,y,z,rfl⟩
theorem shvalue_c (n:Nd) (w:World) (B:Nat) (s:Value) (h:n.In w B s) (hB:B≤w.heap.size) (hn:n.size≤400) :
 Calls Tryz.prog 20 #[ndv n s] w (Says w (ValueQ n)):=by
 have hLs:=hd_ (Nd.In_iff.1 h)
 obtain ⟨q,c,rfl,hc⟩:=h.form
 have HN:=hd_ hn
 clear h hn
 obtain ⟨k,t,l⟩:=n
 simp only [Nd.l] at hc
 show Calls _ _ #[.agg #[.string k,.string t,.slice q l.length c]] _ _
 have hLs:Hid (Ls w B (.slice q l.length c) l):=hLs
 by_cases hk:k=⟨#[118,97,108,117,101]⟩
 ·subst hk
  by_cases ht:t=⟨#[]⟩
  ·subst ht
   by_cases hl:l.length=3
   ·obtain ⟨x,y,z,rfl⟩:=len3 hl
    clear hl
    have hsx:x.size≤400:=by
     have:=HN.out
     simp only [Nd.size,Nd.sizeL] at *
     omega
    have HSx:=hd_ hsx
    clear hsx
    obtain ⟨b0,o0,c0,q0,d0,he,_,hb0,hi,g1,g2,g3,g4,g5⟩:=hLs.out.get (i:=0) rfl
    cases he
    have Hx:=hd_ g4
    clear g4 hi
    simp only [Nat.zero_mul,Nat.one_mul,Nat.add_zero,Nat.reduceMul] at g1 g2 g3
    have hsy:y.size≤400:=by
     have:=HN.out
     simp only [Nd.size,Nd.sizeL] at *
     omega
    have HSy:=hd_ hsy
    clear hsy
    obtain ⟨b1,o1,c1,q1,d1,he,_,hb1,hi,k1,k2,k3,k4,k5⟩:=hLs.out.get (i:=1) rfl
    cases he
    have Hy:=hd_ k4
    clear k4 hi
    simp only [Nat.zero_mul,Nat.one_mul,Nat.add_zero,Nat.reduceMul] at k1 k2 k3
    have hsz:z.size≤400:=by
     have:=HN.out
     simp only [Nd.size,Nd.sizeL] at *
     omega
    have HSz:=hd_ hsz
    clear hsz
    obtain ⟨b2,o2,c2,q2,d2,he,_,hb2,hi,m1,m2,m3,m4,m5⟩:=hLs.out.get (i:=2) rfl
    cases he
    have Hz:=hd_ m4
    clear m4 hi
    simp only [Nat.zero_mul,Nat.one_mul,Nat.add_zero,Nat.reduceMul] at m1 m2 m3
    simp only [lc_,ln_,Nat.zero_add,Nat.reduceAdd] at hc
    obtain ⟨ka,ta,la⟩:=x
    obtain ⟨kc,tc,lc⟩:=z
    simp only [Nd.k,Nd.t,Nd.l] at g1 g2 g3 m1 m2 m3
    by_cases hka:ka=⟨#[108,105,115,116]⟩
    ·subst hka
     by_cases hta:ta=⟨#[]⟩
     ·subst hta
      by_cases hkc:kc=⟨#[108,105,115,116]⟩
      ·subst hkc
       by_cases htc:tc=⟨#[]⟩
       ·subst htc
        by_cases h0:0 < la.length
        ·have hd:decide (0 < (la.length:Int))=true:=decide_eq_true (by omega)
         have hla:la.length≤400:=by have:=HSx.out;have:=Nd.length_le la;simp only [Nd.size] at *;omega
         have hlc:lc.length≤400:=by have:=HSz.out;have:=Nd.length_le lc;simp only [Nd.size] at *;omega
         have H0:=hd_ h0
         clear h0
         go_enter Tryz.func20,Tryz.ntmps20
         go_wp2_with fail
         have LA:Hid (Ls w B (.slice q0 la.length d0) la):=Nd.In_iff.1 Hx.out
         have LC:Hid (Ls w B (.slice q2 lc.length d2) lc):=Nd.In_iff.1 Hz.out
         refine (every_c _ B 51 #[] la _ _ (LA.out.stay fun b hb=>Below.heap_alloc _ _ _ (by omega)) (by simp;omega) (ask_name (by simp;omega)) hla).mono ?_
         rintro e w2 ⟨b2,rfl,hk2,hp⟩
         have hk2:Kp No w w2:=((Kp.refl No w).alloc _).trans' hk2
         have hks:=hk2.size
         obtain ⟨n1,n2,n3⟩:=cell3 hk2 k5 k1 k2 k3
         obtain ⟨r1,r2,r3⟩:=cell3 hk2 m5 m1 m2 m3
         have H2:=a2_ hk2 hp
         clear hk2 hp
         cases b2
         ·go_wp2_with fail
          go_ret
          exact says_no _ _ _ H2.out.1
         go_wp2_with fail
         refine (or_c w2 B 24 #[] y TyQ _ (Hy.out.stay fun b hb=>H2.out.1.block b (by omega) (by simp)) (by omega) (Ask.fn1 Tryz.func24 (by kernel_rfl) rfl (by omega) fun w' s hs hB'=>she_c y.size y (Nat.le_refl _) HSy.out w' B s hs hB')).mono ?_
         rintro e w3 ⟨b3,rfl,hk3,hp3⟩
         have hk3:Kp No w w3:=H2.out.1.trans' hk3
         have hks3:=hk3.size
         obtain ⟨s1,s2,s3⟩:=cell3 hk3 m5 m1 m2 m3
         have H3:=a2_ hk3 hp3
         clear hk3 hp3
         cases b3
         ·go_wp2_with fail
          go_ret
          exact says_no _ _ _ H3.out.1
         go_wp2_with fail
         refine (every_c w3 B 24 #[] lc TyQ _ (LC.out.stay fun b hb=>H3.out.1.block b (by omega) (by simp)) (by omega) (Ask.fn Tryz.func24 (by kernel_rfl) rfl (by omega) fun w' i m s hm hs hB'=>she_c m.size m (Nat.le_refl _) (by have h1:=Nd.sizeL_get lc i m hm;have h2:=HSz.out;simp only [Nd.size] at h2;omega) w' B s hs hB') hlc).mono ?_
         rintro e w4 ⟨b4,rfl,hk4,hp4⟩
         have H4:=a2_ hk4 hp4
         clear hk4 hp4
         go_wp2_with fail
         go_ret
         exact ⟨_,rfl,H3.out.1.trans' H4.out.1,fun h=>q_value H0.out (H2.out.2 (by trivial)) (H3.out.2 (by trivial)) (H4.out.2 (by simpa using h))⟩
        ·have hd:decide (0 < (la.length:Int))=false:=decide_eq_false (by omega)
         go_enter Tryz.func20,Tryz.ntmps20
         go_wp2_with fail
         go_ret
         exact says_no _ _ _ ((Kp.refl No w).alloc _)
       ·obtain ⟨htc,htce⟩:=bs_ne2 htc
        go_enter Tryz.func20,Tryz.ntmps20
        go_wp2_with fail
        go_ret
        exact says_no _ _ _ ((Kp.refl No w).alloc _)
      ·have hkc:=bs_bne hkc
       simp only at hkc
       go_enter Tryz.func20,Tryz.ntmps20
       go_wp2_with fail
       go_ret
       exact says_no _ _ _ ((Kp.refl No w).alloc _)
     ·obtain ⟨hta,htae⟩:=bs_ne2 hta
      go_enter Tryz.func20,Tryz.ntmps20
      go_wp2_with fail
      go_ret
      exact says_no _ _ _ ((Kp.refl No w).alloc _)
    ·have hka:=bs_bne hka
     simp only at hka
     go_enter Tryz.func20,Tryz.ntmps20
     go_wp2_with fail
     go_ret
     exact says_no _ _ _ ((Kp.refl No w).alloc _)
   ·have d:((l.length:Int) == 3)=false:=by rw [beq_eq_false_iff_ne];omega
    go_enter Tryz.func20,Tryz.ntmps20
    go_wp2_with fail
    go_ret
    exact says_no _ _ _ ((Kp.refl No w).alloc _)
  ·obtain ⟨ht,hte⟩:=bs_ne2 ht
   go_enter Tryz.func20,Tryz.ntmps20
   go_wp2_with fail
   go_ret
   exact says_no _ _ _ ((Kp.refl No w).alloc _)
 ·have hk:=bs_bne hk
  simp only at hk
  go_enter Tryz.func20,Tryz.ntmps20
  go_wp2_with fail
  go_ret
  exact says_no _ _ _ ((Kp.refl No w).alloc _)
end
section
open Go Go.RowKit
def own (k:ByteArray):Prop:=k=⟨#[115,105,103,110,97,116,117,114,101]⟩∨k=⟨#[112,97,116,104]⟩∨k=⟨#[118,97,108,117,101]⟩∨k=⟨#[116,121,112,101]⟩∨k=⟨#[97,108,105,97,115]⟩∨k=⟨#[102,117,110,99]⟩∨k=⟨#[98,111,100,121]⟩∨k=⟨#[100,101,99,108,97,114,101,32,105,109,112,111,114,116]⟩∨k=⟨#[100,101,99,108,97,114,101,32,99,111,110,115,116]⟩∨k=⟨#[100,101,99,108,97,114,101,32,118,97,114]⟩∨k=⟨#[100,101,99,108,97,114,101,32,116,121,112,101]⟩
theorem node_ex {R:List Int→Int→List Pl→Prop} (k t:ByteArray) (hk:¬ own k) (w:World) (base pb:Nat) (g at_:List Int) (e:Int) (out:List Pl) (s:Value) (h:PSt w base pb g at_ e out) (he:0≤e) (he2:e≤1125899906842624) (ho:out.length≤1048575) (hf:∃ p n c,s=.slice p n c)
 (hE:∀ w1,Kq base w w1→PSt w1 base pb g at_ e (out++[⟨k,e+gapOf g at_.length,0⟩])→Calls Tryz.prog 35 #[.pointer (some ⟨pb,0,none⟩),.agg #[.string k,.string t,s]] w1 fun e' w'=>(∃ v,e'=.returned v)∧∃ tk f mid,R tk f mid∧PSt w' base pb g (at_++tk) f ((out++[⟨k,e+gapOf g at_.length,0⟩])++mid)∧Kq base w1 w') :
 Calls Tryz.prog 13 #[.pointer (some ⟨pb,0,none⟩),.agg #[.string k,.string t,s]] w fun e' w'=>(∃ v,e'=.returned v)∧∃ tk f mid,R tk f mid∧PSt w' base pb g (at_++tk) f (out++⟨k,e+gapOf g at_.length,f⟩::mid)∧Kq base w w':=by
 unfold own at hk
 simp only [not_or] at hk
 obtain ⟨q1,q2,q3,q4,q5,q6,q7,q8,q9,q10,q11⟩:=hk
 replace q1:=bs_bne q1;replace q2:=bs_bne q2;replace q3:=bs_bne q3;replace q4:=bs_bne q4;replace q5:=bs_bne q5;replace q6:=bs_bne q6;replace q7:=bs_bne q7;replace q8:=bs_bne q8;replace q9:=bs_bne q9;replace q10:=bs_bne q10;replace q11:=bs_bne q11
 simp only at q1 q2 q3 q4 q5 q6 q7 q8 q9 q10 q11
 obtain ⟨sp,sn,sc,rfl⟩:=hf
 have H:=hd_ h;have HE:=hd_ hE;have HO:=hd_ ho
 have hgap:=gapOf_le g at_.length
 clear h hE ho
 go_enter Tryz.func13,Tryz.ntmps13
 go_wp2_with fail
 have hk0:Kp No w (w.alloc (.cells #[.string k,.string t,.slice sp sn sc] 24 (0,0))):=(Kp.refl No w).alloc _
 refine (open_c _ base pb g at_ e out k t (.slice sp sn sc) (H.out.on hk0 (by simp)) he he2 HO.out ⟨_,_,_,rfl⟩).mono ?_
 rintro e1 w1 ⟨rfl,hp1,hq1⟩
 have hb1:=hq1.kn w.heap.size _ _ _ (newOf w _) (by decide) (by decide) (by decide)
 have b0:w1.cell? ⟨w.heap.size,0,none⟩=some (.string k):=cO hb1 0 _ rfl
 have b1:w1.cell? ⟨w.heap.size,1,none⟩=some (.string t):=cO hb1 1 _ rfl
 have b2:w1.cell? ⟨w.heap.size,2,none⟩=some (.slice sp sn sc):=cO hb1 2 _ rfl
 have H1:=a2_ hp1 ((Kq.of_no hk0).trans hq1)
 clear hp1 hq1 hb1 hk0
 go_wp2_with fail
 refine (HE.out w1 H1.out.2 H1.out.1).mono ?_
 rintro e2 w2 ⟨⟨v2,rfl⟩,tk,f,mid,hR,hp2,hq2⟩
 rw [aa_,List.singleton_append] at hp2
 obtain ⟨gv,av,ov,hp2⟩:=hp2
 have hp2:PStx w2 base pb g (at_++tk) f (out++⟨k,e+gapOf g at_.length,0⟩::mid) gv av ov:=hp2
 obtain ⟨gb,cap,hov,_,_,hlt,lgb,_,_,x2⟩:=hp2.2.2.2.1.get (i:=out.length) (p:=⟨k,e+gapOf g at_.length,0⟩) (by simp)
 obtain ⟨N,hN⟩:∃ N,N=(out++(⟨k,e+gapOf g at_.length,0⟩:Pl)::mid).length:=⟨_,rfl⟩
 rw [← hN] at hov hlt
 subst hov
 obtain ⟨_,cur,hgc⟩:=hp2.2.2.2.1.blk (g:=gb) rfl
 have c2:w2.cell? ⟨pb,2,none⟩=some (.int .i64 f):=cO hp2.1 2 _ rfl
 have c3:w2.cell? ⟨pb,3,none⟩=some (.slice (some ⟨gb,0,none⟩) N cap):=cO hp2.1 3 _ rfl
 have fx:=fO hgc (out.length*3+2)
 have lpb:=ltb hp2.1
 have ne1:pb≠gb:=ne_blk hp2.1 hgc (by simp)
 have ne2:gb≠pb:=ne1.symm
 have hNl:Hid (N≤9223372036854775807):=by
  rcases hp2.2.2.2.1.2 with ⟨h,_⟩ | ⟨g',cap',cur',he',_,_,h3,h4,_⟩
  ·cases h
  ·unfold maxLen at h4
   injection he' with _ h5 h6
   show N≤_
   omega
 have H2:=a3_ hR hp2 (H1.out.2.trans hq2)
 clear hR hp2 hq2 hgc hN
 go_wp2_with fail
 go_region_held3 (fun w'=>w'.cell? ⟨pb,2,none⟩=some (.int .i64 f)∧w'.cell? ⟨pb,3,none⟩=some (.slice (some ⟨gb,0,none⟩) N cap))
  (first | (go_keep;done))
  (fail)
 have hc:=PStx.close (e2:=f) H2.out.2.1 ((Kp.refl No w2).drew)
 exact bodyPost_end (v:=.tuple #[]) (by simp [results,Tryz.results13,go_sem]) rfl ⟨⟨_,rfl⟩,tk,f,mid,H2.out.1,hc.1,H2.out.2.2.trans hc.2⟩
def Bnd (at_:List Int) (e:Int) (out:List Pl) (n:Nat):Prop:=1≤e∧e+16777216*n≤1125899906842624∧at_.length+8*n≤1048576∧out.length+4*n≤1048575
structure TyG (g at_:List Int) (e:Int) (t t':Ty):Prop where
 nd:t'.nd=t.nd
 ok:t'.ok false
 pos:t'.pos=e+gapOf g at_.length
 le:t'.pos≤t'.fin
 nest:Nest t'.pos t'.fin t'.pre
 fin:t'.fin≤e+16777216*t.nd.size
 tk:(t'.toks false).length≤8*t.nd.size
 pl:t'.pre.length≤4*t.nd.size
def TyC (t:Ty):Prop:=∀ (w:World) (B base pb:Nat) (g at_:List Int) (e:Int) (out:List Pl) (s:Value),PSt w base pb g at_ e out→t.nd.In w B s→B≤base→Bnd at_ e out t.nd.size→t.nd.short →
 Calls Tryz.prog 13 #[.pointer (some ⟨pb,0,none⟩),ndv t.nd s] w fun e' w'=>(∃ v,e'=.returned v)∧∃ t',TyG g at_ e t t'∧PSt w' base pb g (at_++t'.toks false) t'.fin (out++t'.pre)∧Kq base w w'
def ExC (t:Ty):Prop:=∀ (w:World) (B base pb:Nat) (g at_:List Int) (e:Int) (out:List Pl) (s:Value),PSt w base pb g at_ e out→t.nd.In w B s→B≤base→Bnd at_ e out t.nd.size→t.nd.short →
 Calls Tryz.prog 35 #[.pointer (some ⟨pb,0,none⟩),ndv t.nd s] w fun e' w'=>(∃ v,e'=.returned v)∧∃ t',TyG g at_ e t t'∧PSt w' base pb g (at_++t'.toks false) t'.fin (out++t'.pre.tail)∧Kq base w w'
theorem Ty.pre_head (t:Ty):t.pre=⟨t.kind,t.pos,t.fin⟩::t.pre.tail:=by
 cases t <;> simp only [Ty.pre,Ty.kind,Ty.pos,Ty.fin,List.tail_cons,List.cons_append]
theorem not_own {t:Ty} (h:t.kind≠⟨#[115,105,103,110,97,116,117,114,101]⟩):¬ own t.kind:=by
 unfold own
 cases t <;> simp [Ty.kind] at h ⊢
theorem TyG.kind {g at_:List Int} {e:Int} {t t':Ty} (h:TyG g at_ e t t'):t'.kind=t.kind:=by
 rw [← Ty.nd_k,← Ty.nd_k,h.nd]
theorem node_of_ex (t:Ty) (hk:t.kind≠⟨#[115,105,103,110,97,116,117,114,101]⟩) (hE:∀ (w:World) (B base pb:Nat) (g at_:List Int) (e:Int) (out:List Pl) (s:Value),PSt w base pb g at_ e out→t.nd.In w B s→B≤base→1≤e∧e+16777216*t.nd.size≤1125899906842624∧at_.length+8*t.nd.size≤1048576∧out.length+4*t.nd.size≤1048576→t.nd.short →
 Calls Tryz.prog 35 #[.pointer (some ⟨pb,0,none⟩),ndv t.nd s] w fun e' w'=>(∃ v,e'=.returned v)∧∃ t',TyG g at_ e t t'∧PSt w' base pb g (at_++t'.toks false) t'.fin (out++t'.pre.tail)∧Kq base w w'):TyC t:=by
 intro w B base pb g at_ e out s hp hin hB hb hs
 obtain ⟨b1,b2,b3,b4⟩:=hb
 obtain ⟨q,c,rfl,hc⟩:=hin.form
 have hbs:base≤w.heap.size:=by obtain ⟨_,_,_,_,_,_,_,_,h⟩:=hp;exact h
 refine (node_ex (R:=fun tk f mid=>∃ t',TyG g at_ e t t'∧tk=t'.toks false∧f=t'.fin∧mid=t'.pre.tail) t.nd.k t.nd.t (by rw [Ty.nd_k];exact not_own hk) w base pb g at_ e out _ hp (by omega) (by omega) (by omega) ⟨_,_,_,rfl⟩ ?_).mono ?_
 ·intro w1 hq hp1
  refine (hE w1 B base pb g at_ e _ _ hp1 (hin.stay fun b hb=>hq.kp.block b (by omega) (by simp only [Fr];omega)) hB ⟨b1,b2,b3,by simp;omega⟩ hs).mono ?_
  rintro e' w' ⟨hv,t',hg,hp',hq'⟩
  exact ⟨hv,_,_,_,⟨t',hg,rfl,rfl,rfl⟩,hp',hq'⟩
 ·rintro e' w' ⟨hv,_,_,_,⟨t',hg,rfl,rfl,rfl⟩,hp',hq'⟩
  refine ⟨hv,t',hg,?_,hq'⟩
  rw [Ty.pre_head t',hg.kind,hg.pos]
  rw [Ty.nd_k] at hp'
  exact hp'
end
end Go.Proofs.YtnkbglhdpmbgfaaGreatFmt
