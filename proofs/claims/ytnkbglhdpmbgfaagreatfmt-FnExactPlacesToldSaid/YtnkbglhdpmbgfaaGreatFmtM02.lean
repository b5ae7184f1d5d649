/- A part of the proof; no condition: BExpr. -/
import Derived.Test.YtnkbglhdpmbgfaaGreatFmtM
import Derived.Test.YtnkbglhdpmbgfaaGreatFmtM00
import Derived.Test.YtnkbglhdpmbgfaaGreatFmtM01
set_option linter.all false
set_option maxHeartbeats 16000000
set_option maxRecDepth 100000
namespace Go.Proofs.YtnkbglhdpmbgfaaGreatFmt
section
open Go Go.RowKit
def ExprP (t:Ty):Prop:=∀ (w:World) (B bb:Nat) (s:Value) (l:List Int),Bld w bb (t.toks false++l)→t.nd.In w B s→B≤bb→t.ok false→t.nd.size≤400 →
 Calls Tryz.prog 63 #[.pointer (some ⟨bb,0,none⟩),.agg #[.string t.nd.k,.string t.nd.t,s]] w fun e w' =>
  (∃ v,e=.returned (.iface t.ty v)∧t.At w' (Fr w.heap.size) v)∧Bld w' bb l∧Kp (On bb) w w'
theorem box3 {S:Nat→Prop} {w w1:World} {b:Nat} {v0 v1 v2:Value} {T:TypeId} (h:w.heap[b]?=some (.cells #[v0,v1,v2] T (0,0))) (hk:Kp S w w1) (hn:¬ S b) :
 w1.heap[b]?=some (.cells #[v0,v1,v2] T (0,0))∧w1.cell? ⟨b,0,none⟩=some v0∧w1.cell? ⟨b,1,none⟩=some v1∧w1.cell? ⟨b,2,none⟩=some v2∧b < w1.heap.size:=by
 have h1:=hk.at h hn
 exact ⟨h1,cO h1 0 _ rfl,cO h1 1 _ rfl,cO h1 2 _ rfl,ltb h1⟩
theorem Nd.In.below {w w':World} {S:Nat→Prop} {B:Nat} {s:Value} {n:Nd} (h:n.In w B s) (hk:Kp S w w') (hB:B≤w.heap.size) (hS:∀ b,b < B→¬ S b):n.In w' B s :=
 Nd.In.stay (fun b hb=>hk.block b (Nat.lt_of_lt_of_le hb hB) (hS b hb)) n s h
theorem Ls.below {w w':World} {S:Nat→Prop} {B:Nat} {s:Value} {l:List Nd} (h:Ls w B s l) (hk:Kp S w w') (hB:B≤w.heap.size) (hS:∀ b,b < B→¬ S b):Ls w' B s l :=
 h.stay (fun b hb=>hk.block b (Nat.lt_of_lt_of_le hb hB) (hS b hb))
theorem Bld.no {w w':World} {bb:Nat} {l:List Int} (h:Bld w bb l) (hk:Kp No w w'):Bld w' bb l :=
 h.stay fun b hb=>hk.block b (Nat.lt_of_le_of_lt hb h.lt) id
theorem On.not {bb b:Nat} (h:bb < b):¬ On bb b:=by omega
theorem On.not' {bb b:Nat} (h:b < bb):¬ On bb b:=by omega
theorem Bld.on {w w':World} {bb xb:Nat} {l:List Int} (h:Bld w bb l) (hk:Kp (On xb) w w') (hx:bb < xb):Bld w' bb l :=
 h.stay fun b hb=>hk.block b (Nat.lt_of_le_of_lt hb h.lt) (by omega)
abbrev Av (lo xb:Nat):Nat→Prop:=fun b=>lo≤b∧b≠xb
section
variable {w w':World} {F F' S:Nat→Prop}
theorem Ty.At.on {t:Ty} {u:Value} (h:t.At w F u) (hk:Kp S w w') (hs:∀ b,b < w.heap.size→F b→¬ S b∧F' b):t.At w' F' u:=Ty.At.stay (Stay.of_kp hk hs) t u h
theorem IdAt.on {p:Int} {s:ByteArray} {u:Value} (h:IdAt w F p s u) (hk:Kp S w w') (hs:∀ b,b < w.heap.size→F b→¬ S b∧F' b):IdAt w' F' p s u:=Blk.stay h (Stay.of_kp hk hs)
theorem LitAt.on {p:Int} {s:ByteArray} {u:Value} (h:LitAt w F p s u) (hk:Kp S w w') (hs:∀ b,b < w.heap.size→F b→¬ S b∧F' b):LitAt w' F' p s u:=Blk.stay h (Stay.of_kp hk hs)
theorem FlAt.on {o:Int} {f:Fs} {c:Int} {u:Value} (h:FlAt w F o f c u) (hk:Kp S w w') (hs:∀ b,b < w.heap.size→F b→¬ S b∧F' b):FlAt w' F' o f c u:=FlAt.stay h (Stay.of_kp hk hs)
theorem IdAt.ptr {p:Int} {s:ByteArray} {u:Value} (h:IdAt w F p s u):∃ b,u=.pointer (some ⟨b,0,none⟩):=by obtain ⟨b,h,_⟩:=h;exact ⟨b,h⟩
theorem LitAt.ptr {p:Int} {s:ByteArray} {u:Value} (h:LitAt w F p s u):∃ b,u=.pointer (some ⟨b,0,none⟩):=by obtain ⟨b,h,_⟩:=h;exact ⟨b,h⟩
theorem FlAt.ptr {o:Int} {f:Fs} {c:Int} {u:Value} (h:FlAt w F o f c u):∃ b,u=.pointer (some ⟨b,0,none⟩):=by obtain ⟨_,_,⟨b,h,_⟩,_⟩:=h;exact ⟨b,h⟩
end
def FieldsInP (f:Fs):Prop:=∀ (w:World) (B bb:Nat) (s:Value) (meth:Bool) (o c:Int) (l:List Int),Bld w bb (o::(f.toks false true meth++c::l))→Ls w B s f.nds→B≤bb→f.ok meth→Nd.sizeL f.nds≤400 →
 Calls Tryz.prog 84 #[.pointer (some ⟨bb,0,none⟩),.agg #[.string (fl f.nds).k,.string (fl f.nds).t,s],.bool meth] w fun e w' =>
  (∃ v,e=.returned v∧FlAt w' (Fr w.heap.size) o f c v)∧Bld w' bb l∧Kp (On bb) w w'
def ParamsP (f:Fs):Prop:=∀ (w:World) (B bb:Nat) (s:Value) (o c:Int) (l:List Int),Bld w bb (o::(f.toks true true false++c::l))→Ls w B s f.nds→B≤bb→f.ok false→Nd.sizeL f.nds≤400 →
 Calls Tryz.prog 40 #[.pointer (some ⟨bb,0,none⟩),.agg #[.string (fl f.nds).k,.string (fl f.nds).t,s]] w fun e w' =>
  (∃ v,e=.returned v∧FlAt w' (Fr w.heap.size) o f c v)∧Bld w' bb l∧Kp (On bb) w w'
def SigP (t:Ty):Prop:=∀ (w:World) (B bb:Nat) (s:Value) (p o:Int) (ps:Fs) (c:Int) (b:Bool) (o':Int) (rs:Fs) (c':Int) (l:List Int),t=.sig p o ps c b o' rs c'→Bld w bb (t.toks true++l)→t.nd.In w B s→B≤bb→(Ty.sig 0 o ps c b o' rs c').ok true→t.nd.size≤400 →
 Calls Tryz.prog 43 #[.pointer (some ⟨bb,0,none⟩),.agg #[.string t.nd.k,.string t.nd.t,s],.int .i64 p] w fun e w' =>
  (∃ v,e=.returned v∧t.At w' (Fr w.heap.size) v)∧Bld w' bb l∧Kp (On bb) w w'
theorem exprmiss_c (w:World) (v u:Value) (s t:ByteArray) (hs:s=⟨#[110,111,110,101]⟩):Calls Tryz.prog 63 #[v,.agg #[.string s,.string t,u]] w fun e w'=>e=.returned .nilIface∧Kp No w w':=by
 subst hs
 go_enter Tryz.func63,Tryz.ntmps63
 go_wp2_with fail
 go_ret
 exact ⟨rfl,(Kp.refl No _).alloc _⟩
theorem name_c (p:Int) (s0:ByteArray):ExprP (.name p s0):=by
 intro w B bb s l hB hn hBb hok hsz
 simp [Ty.toks] at hB
 simp only [Ty.ok] at hok
 simp only [Ty.nd,Nd.name,Nd.size,Nd.sizeL] at hsz
 have hlt:=hB.lt
 have HB0:=hd_ hB
 obtain ⟨q,c0,rfl,_⟩:=hn.form
 have HL:=hd_ (Nd.In_iff.1 hn)
 have HO:=hd_ hok
 have HS:=hd_ hsz
 simp [Ty.nd,Nd.k,Nd.t,Nd.l,Nd.name] at HL ⊢
 clear hn hB hok hsz
 go_enter Tryz.func63,Tryz.ntmps63
 go_wp2_with fail
 refine (ident_c _ bb (s0) (p) (l) (HB0.out.on ((Kp.refl (On (w.heap.size+1000000)) w).alloc _) (by omega))).mono ?_
 rintro e w1 ⟨⟨u,rfl,hv1⟩,hB1,hK1⟩
 have sz1:w.heap.size≤w1.heap.size:=by have:=hK1.size;(try simp at this);omega
 have KT1:Kp (fun k=>k=bb∨k=(w.heap.size+1000000)) w w1:=((Kp.refl (fun k=>k=bb∨k=(w.heap.size+1000000)) w).alloc _).trans hK1 (by intro i hi h;first | exact (h:False).elim | omega)
 obtain ⟨xb1,x0,x1,x2,xs⟩:=box3 (newOf w _) hK1 (by exact On.not (by omega))
 have HX1:=hd_ xb1;clear xb1
 have hw1:IdAt w1 (Fr (w.heap.size)) (p) (s0) u:=hv1.on (Kp.refl No _) (by intro b hb hF;(try simp at hF);exact ⟨id,by omega⟩)
 clear hv1
 obtain ⟨ub,rfl⟩:=hw1.ptr
 have HV1:=hd_ hw1;clear hw1
 have k1:Kp (On bb) w w1:=KT1.mono (by intro i hi h;omega)
 have HK1:=hd_ k1;clear k1 KT1
 have HB1:=hd_ hB1;clear hB1 HB0
 have szw1:w.heap.size≤w1.heap.size:=by omega
 clear hK1
 go_wp2_with fail
 go_ret
 refine ⟨⟨_,rfl,?_⟩,(HB1.out.on (Kp.refl (On (w.heap.size+1000000)) w1) (by omega)),(HK1.out.trans (Kp.refl (On (w.heap.size+1000000)) w1) (by intro i hi h;omega))⟩
 simp only [Ty.At]
 exact HV1.out.on (Kp.refl No _) (by intro b hb hF;exact ⟨id,by omega⟩)
theorem lit_c (p:Int) (s0:ByteArray):ExprP (.lit p s0):=by
 intro w B bb s l hB hn hBb hok hsz
 simp [Ty.toks] at hB
 simp only [Ty.ok] at hok
 simp only [Ty.nd,Nd.lit,Nd.size,Nd.sizeL] at hsz
 have hlt:=hB.lt
 have HB0:=hd_ hB
 obtain ⟨q,c0,rfl,_⟩:=hn.form
 have HL:=hd_ (Nd.In_iff.1 hn)
 have HO:=hd_ hok
 have HS:=hd_ hsz
 simp [Ty.nd,Nd.k,Nd.t,Nd.l,Nd.lit] at HL ⊢
 clear hn hB hok hsz
 go_enter Tryz.func63,Tryz.ntmps63
 go_wp2_with fail
 refine (literal_c _ bb (s0) (p) (l) (HB0.out.on ((Kp.refl (On (w.heap.size+1000000)) w).alloc _) (by omega)) HO.out.2.1 HO.out.2.2).mono ?_
 rintro e w1 ⟨⟨u,rfl,hv1⟩,hB1,hK1⟩
 have sz1:w.heap.size≤w1.heap.size:=by have:=hK1.size;(try simp at this);omega
 have KT1:Kp (fun k=>k=bb∨k=(w.heap.size+1000000)) w w1:=((Kp.refl (fun k=>k=bb∨k=(w.heap.size+1000000)) w).alloc _).trans hK1 (by intro i hi h;first | exact (h:False).elim | omega)
 obtain ⟨xb1,x0,x1,x2,xs⟩:=box3 (newOf w _) hK1 (by exact On.not (by omega))
 have HX1:=hd_ xb1;clear xb1
 have hw1:LitAt w1 (Fr (w.heap.size)) (p) (s0) u:=hv1.on (Kp.refl No _) (by intro b hb hF;(try simp at hF);exact ⟨id,by omega⟩)
 clear hv1
 obtain ⟨ub,rfl⟩:=hw1.ptr
 have HV1:=hd_ hw1;clear hw1
 have k1:Kp (On bb) w w1:=KT1.mono (by intro i hi h;omega)
 have HK1:=hd_ k1;clear k1 KT1
 have HB1:=hd_ hB1;clear hB1 HB0
 have szw1:w.heap.size≤w1.heap.size:=by omega
 clear hK1
 go_wp2_with fail
 go_ret
 refine ⟨⟨_,rfl,?_⟩,(HB1.out.on (Kp.refl (On (w.heap.size+1000000)) w1) (by omega)),(HK1.out.trans (Kp.refl (On (w.heap.size+1000000)) w1) (by intro i hi h;omega))⟩
 simp only [Ty.At]
 exact HV1.out.on (Kp.refl No _) (by intro b hb hF;exact ⟨id,by omega⟩)
theorem sel_c (x:Ty) (d p:Int) (s0:ByteArray) (hx:ExprP x):ExprP (.sel x d p s0):=by
 intro w B bb s l hB hn hBb hok hsz
 simp [Ty.toks] at hB
 simp only [Ty.ok] at hok
 simp only [Ty.nd,Nd.size,Nd.sizeL] at hsz
 have hlt:=hB.lt
 have HB0:=hd_ hB
 obtain ⟨q,c0,rfl,_⟩:=hn.form
 have HL:=hd_ (Nd.In_iff.1 hn)
 have HO:=hd_ hok
 have HS:=hd_ hsz
 simp [Ty.nd,Nd.k,Nd.t,Nd.l,lc_] at HL ⊢
 have HX:=hd_ hx
 clear hn hB hok hsz hx
 go_enter Tryz.func63,Tryz.ntmps63
 go_wp2_with fail
 refine (kid_c _ B _ _ _ _ 0 (x.nd) (HL.out.below (((Kp.refl (On (w.heap.size+1000000)) w).alloc _).mono (S':=On bb) (by intro i hi h;omega)) (by omega) (fun b hb=>On.not' (by omega))) (by decide) rfl).mono ?_
 rintro e w1 ⟨⟨u1,rfl,hu1⟩,hK1⟩
 have sz1:w.heap.size≤w1.heap.size:=by have:=hK1.size;(try simp at this);omega
 have KT1:Kp (fun k=>k=bb∨k=(w.heap.size+1000000)) w w1:=((Kp.refl (fun k=>k=bb∨k=(w.heap.size+1000000)) w).alloc _).trans hK1 (by intro i hi h;first | exact (h:False).elim | omega)
 have hB1:=(HB0.out.on ((Kp.refl (On (w.heap.size+1000000)) w).alloc _) (by omega)).no hK1
 obtain ⟨xb1,x0,x1,x2,xs⟩:=box3 (newOf w _) hK1 (by exact id)
 have HX1:=hd_ xb1;clear xb1
 have k1:Kp (On bb) w w1:=KT1.mono (by intro i hi h;omega)
 have HK1:=hd_ k1;clear k1 KT1
 have HB1:=hd_ hB1;clear hB1 HB0
 have szw1:w.heap.size≤w1.heap.size:=by omega
 have HU1:=hd_ (hu1.below hK1 (by (try simp);omega) (fun _ _ h=>h.elim));clear hu1 hK1
 go_wp2_with fail
 refine (HX.out _ B bb _ (d::p::l) (HB1.out.on (Kp.refl (On (w.heap.size+1000000)) w1) (by omega)) HU1.out hBb HO.out.2.1 (by have:=HS.out;omega)).mono ?_
 rintro e w2 ⟨⟨v,rfl,hv2⟩,hB2,hK2⟩
 have sz2:w1.heap.size≤w2.heap.size:=by have:=hK2.size;(try simp at this);omega
 have KT2:Kp (fun k=>k=bb∨k=(w.heap.size+1000000)) w1 w2:=(Kp.refl (fun k=>k=bb∨k=(w.heap.size+1000000)) w1).trans hK2 (by intro i hi h;first | exact (h:False).elim | omega)
 obtain ⟨xb2,x0,x1,x2,xs⟩:=box3 HX1.out KT2 (by omega)
 clear HX1
 have HX2:=hd_ xb2;clear xb2
 have hw2:Ty.At w2 (Fr (w1.heap.size)) x v:=hv2.on (Kp.refl No _) (by intro b hb hF;(try simp at hF);exact ⟨id,by omega⟩)
 clear hv2
 have HV2:=hd_ hw2;clear hw2
 have k2:Kp (On bb) w w2:=HK1.out.trans KT2 (by intro i hi h;omega)
 clear HK1
 have HK2:=hd_ k2;clear k2 KT2
 have HB2:=hd_ hB2;clear hB2 HB1
 have szw2:w.heap.size≤w2.heap.size:=by omega
 clear hK2 HU1
 go_wp2_with fail
 refine (next_c _ bb (d) (p::l) (HB2.out.on ((Kp.refl (On w2.heap.size) w2).alloc _) (by omega))).mono ?_
 rintro e w3 ⟨rfl,hB3,hK3⟩
 have sz3:w2.heap.size≤w3.heap.size:=by have:=hK3.size;(try simp at this);omega
 have KT3:Kp (fun k=>k=bb∨k=w2.heap.size) w2 w3:=((Kp.refl (fun k=>k=bb∨k=w2.heap.size) w2).alloc _).trans hK3 (by intro i hi h;first | exact (h:False).elim | omega)
 obtain ⟨xb3,x0,x1,x2,xs⟩:=box3 HX2.out KT3 (by omega)
 clear HX2
 have HX3:=hd_ xb3;clear xb3
 have xk3:w3.heap[w2.heap.size]?=some (.cells #[.iface x.ty v,.pointer none] 137 (0,0)):=hK3.at (newOf w2 _) (by exact On.not (by omega))
 have z0:=cO xk3 0 _ rfl;have f0:=fO xk3 0
 have z1:=cO xk3 1 _ rfl;have f1:=fO xk3 1
 have zs3:=ltb xk3
 have HP3:=hd_ xk3;clear xk3
 have HV2_3:Ty.At w3 (Av (w1.heap.size) (w2.heap.size)) x v:=HV2.out.on KT3 (by intro b hb hF;omega)
 have HV2n3:=hd_ HV2_3;clear HV2_3 HV2
 have k3:Kp (On bb) w w3:=HK2.out.trans KT3 (by intro i hi h;omega)
 clear HK2
 have HK3:=hd_ k3;clear k3 KT3
 have HB3:=hd_ hB3;clear hB3 HB2
 have szw3:w.heap.size≤w3.heap.size:=by omega
 clear hK3
 go_wp2_with fail
 refine (ident_c _ bb (s0) (p) (l) (HB3.out.on (Kp.refl (On w2.heap.size) w3) (by omega))).mono ?_
 rintro e w4 ⟨⟨u,rfl,hv4⟩,hB4,hK4⟩
 have sz4:w3.heap.size≤w4.heap.size:=by have:=hK4.size;(try simp at this);omega
 have KT4:Kp (fun k=>k=bb∨k=w2.heap.size) w3 w4:=(Kp.refl (fun k=>k=bb∨k=w2.heap.size) w3).trans hK4 (by intro i hi h;first | exact (h:False).elim | omega)
 obtain ⟨xb4,x0,x1,x2,xs⟩:=box3 HX3.out KT4 (by omega)
 clear HX3
 have HX4:=hd_ xb4;clear xb4
 clear z0 f0 z1 f1
 have xk4:w4.heap[w2.heap.size]?=some (.cells #[.iface x.ty v,.pointer none] 137 (0,0)):=hK4.at HP3.out (by exact On.not (by omega))
 have z0:=cO xk4 0 _ rfl;have f0:=fO xk4 0
 have z1:=cO xk4 1 _ rfl;have f1:=fO xk4 1
 have zs4:=ltb xk4
 have HP4:=hd_ xk4;clear xk4 HP3
 have HV2n3_4:Ty.At w4 (Av (w1.heap.size) (w2.heap.size)) x v:=HV2n3.out.on KT4 (by intro b hb hF;omega)
 have HV2n3n4:=hd_ HV2n3_4;clear HV2n3_4 HV2n3
 have hw4:IdAt w4 (Av (w3.heap.size) (w2.heap.size)) (p) (s0) u:=hv4.on (Kp.refl No _) (by intro b hb hF;(try simp at hF);exact ⟨id,by omega⟩)
 clear hv4
 obtain ⟨ub,rfl⟩:=hw4.ptr
 have HV4:=hd_ hw4;clear hw4
 have k4:Kp (On bb) w w4:=HK3.out.trans KT4 (by intro i hi h;omega)
 clear HK3
 have HK4:=hd_ k4;clear k4 KT4
 have HB4:=hd_ hB4;clear hB4 HB3
 have szw4:w.heap.size≤w4.heap.size:=by omega
 clear hK4
 go_wp2_with fail
 go_ret
 refine ⟨⟨_,rfl,?_⟩,(HB4.out.on ((Kp.refl (On w2.heap.size) w4).setCell (p:=⟨w2.heap.size,1,none⟩) (fun _=>rfl) _) (by omega)),(HK4.out.trans ((Kp.refl (On w2.heap.size) w4).setCell (p:=⟨w2.heap.size,1,none⟩) (fun _=>rfl) _) (by intro i hi h;omega))⟩
 simp only [Ty.At]
 exact ⟨v,_,⟨_,rfl,by omega,(setOf HP4.out 1 _)⟩,HV2n3n4.out.on ((Kp.refl (On w2.heap.size) w4).setCell (p:=⟨w2.heap.size,1,none⟩) (fun _=>rfl) _) (by intro b hb hF;omega),HV4.out.on ((Kp.refl (On w2.heap.size) w4).setCell (p:=⟨w2.heap.size,1,none⟩) (fun _=>rfl) _) (by intro b hb hF;omega)⟩
theorem star_c (p:Int) (x:Ty) (hx:ExprP x):ExprP (.star p x):=by
 intro w B bb s l hB hn hBb hok hsz
 simp [Ty.toks] at hB
 simp only [Ty.ok] at hok
 simp only [Ty.nd,Nd.size,Nd.sizeL] at hsz
 have hlt:=hB.lt
 have HB0:=hd_ hB
 obtain ⟨q,c0,rfl,_⟩:=hn.form
 have HL:=hd_ (Nd.In_iff.1 hn)
 have HO:=hd_ hok
 have HS:=hd_ hsz
 simp [Ty.nd,Nd.k,Nd.t,Nd.l,lc_] at HL ⊢
 have HX:=hd_ hx
 clear hn hB hok hsz hx
 go_enter Tryz.func63,Tryz.ntmps63
 go_wp2_with fail
 refine (next_c _ bb (p) (x.toks false++l) (HB0.out.on ((Kp.refl (On (w.heap.size+1000000)) w).alloc _) (by omega))).mono ?_
 rintro e w1 ⟨rfl,hB1,hK1⟩
 have sz1:w.heap.size≤w1.heap.size:=by have:=hK1.size;(try simp at this);omega
 have KT1:Kp (fun k=>k=bb∨k=(w.heap.size+1000000)) w w1:=((Kp.refl (fun k=>k=bb∨k=(w.heap.size+1000000)) w).alloc _).trans hK1 (by intro i hi h;first | exact (h:False).elim | omega)
 obtain ⟨xb1,x0,x1,x2,xs⟩:=box3 (newOf w _) hK1 (by exact On.not (by omega))
 have HX1:=hd_ xb1;clear xb1
 have k1:Kp (On bb) w w1:=KT1.mono (by intro i hi h;omega)
 have HK1:=hd_ k1;clear k1 KT1
 have HB1:=hd_ hB1;clear hB1 HB0
 have szw1:w.heap.size≤w1.heap.size:=by omega
 clear hK1
 go_wp2_with fail
 refine (kid_c _ B _ _ _ _ 0 (x.nd) (HL.out.below (HK1.out.trans ((Kp.refl (On w1.heap.size) w1).alloc _) (by intro i hi h;omega)) (by omega) (fun b hb=>On.not' (by omega))) (by decide) rfl).mono ?_
 rintro e w2 ⟨⟨u2,rfl,hu2⟩,hK2⟩
 have sz2:w1.heap.size≤w2.heap.size:=by have:=hK2.size;(try simp at this);omega
 have KT2:Kp (fun k=>k=bb∨k=w1.heap.size) w1 w2:=((Kp.refl (fun k=>k=bb∨k=w1.heap.size) w1).alloc _).trans hK2 (by intro i hi h;first | exact (h:False).elim | omega)
 have hB2:=(HB1.out.on ((Kp.refl (On w1.heap.size) w1).alloc _) (by omega)).no hK2
 obtain ⟨xb2,x0,x1,x2,xs⟩:=box3 HX1.out KT2 (by omega)
 clear HX1
 have HX2:=hd_ xb2;clear xb2
 have xk2:w2.heap[w1.heap.size]?=some (.cells #[.int .i64 p,.nilIface] 140 (0,0)):=hK2.at (newOf w1 _) (by exact id)
 have z0:=cO xk2 0 _ rfl;have f0:=fO xk2 0
 have z1:=cO xk2 1 _ rfl;have f1:=fO xk2 1
 have zs2:=ltb xk2
 have HP2:=hd_ xk2;clear xk2
 have k2:Kp (On bb) w w2:=HK1.out.trans KT2 (by intro i hi h;omega)
 clear HK1
 have HK2:=hd_ k2;clear k2 KT2
 have HB2:=hd_ hB2;clear hB2 HB1
 have szw2:w.heap.size≤w2.heap.size:=by omega
 have HU2:=hd_ (hu2.below hK2 (by (try simp);omega) (fun _ _ h=>h.elim));clear hu2 hK2
 go_wp2_with fail
 refine (HX.out _ B bb _ (l) (HB2.out.on (Kp.refl (On w1.heap.size) w2) (by omega)) HU2.out hBb HO.out.2.2 (by have:=HS.out;omega)).mono ?_
 rintro e w3 ⟨⟨v,rfl,hv3⟩,hB3,hK3⟩
 have sz3:w2.heap.size≤w3.heap.size:=by have:=hK3.size;(try simp at this);omega
 have KT3:Kp (fun k=>k=bb∨k=w1.heap.size) w2 w3:=(Kp.refl (fun k=>k=bb∨k=w1.heap.size) w2).trans hK3 (by intro i hi h;first | exact (h:False).elim | omega)
 obtain ⟨xb3,x0,x1,x2,xs⟩:=box3 HX2.out KT3 (by omega)
 clear HX2
 have HX3:=hd_ xb3;clear xb3
 clear z0 f0 z1 f1
 have xk3:w3.heap[w1.heap.size]?=some (.cells #[.int .i64 p,.nilIface] 140 (0,0)):=hK3.at HP2.out (by exact On.not (by omega))
 have z0:=cO xk3 0 _ rfl;have f0:=fO xk3 0
 have z1:=cO xk3 1 _ rfl;have f1:=fO xk3 1
 have zs3:=ltb xk3
 have HP3:=hd_ xk3;clear xk3 HP2
 have hw3:Ty.At w3 (Av (w2.heap.size) (w1.heap.size)) x v:=hv3.on (Kp.refl No _) (by intro b hb hF;(try simp at hF);exact ⟨id,by omega⟩)
 clear hv3
 have HV3:=hd_ hw3;clear hw3
 have k3:Kp (On bb) w w3:=HK2.out.trans KT3 (by intro i hi h;omega)
 clear HK2
 have HK3:=hd_ k3;clear k3 KT3
 have HB3:=hd_ hB3;clear hB3 HB2
 have szw3:w.heap.size≤w3.heap.size:=by omega
 clear hK3 HU2
 go_wp2_with fail
 go_ret
 refine ⟨⟨_,rfl,?_⟩,(HB3.out.on ((Kp.refl (On w1.heap.size) w3).setCell (p:=⟨w1.heap.size,1,none⟩) (fun _=>rfl) _) (by omega)),(HK3.out.trans ((Kp.refl (On w1.heap.size) w3).setCell (p:=⟨w1.heap.size,1,none⟩) (fun _=>rfl) _) (by intro i hi h;omega))⟩
 simp only [Ty.At]
 exact ⟨v,⟨_,rfl,by omega,(setOf HP3.out 1 _)⟩,HV3.out.on ((Kp.refl (On w1.heap.size) w3).setCell (p:=⟨w1.heap.size,1,none⟩) (fun _=>rfl) _) (by intro b hb hF;omega)⟩
theorem sl_c (p q1:Int) (x:Ty) (hx:ExprP x):ExprP (.sl p q1 x):=by
 intro w B bb s l hB hn hBb hok hsz
 simp [Ty.toks] at hB
 simp only [Ty.ok] at hok
 simp only [Ty.nd,Nd.miss,Nd.size,Nd.sizeL] at hsz
 have hlt:=hB.lt
 have HB0:=hd_ hB
 obtain ⟨q,c0,rfl,_⟩:=hn.form
 have HL:=hd_ (Nd.In_iff.1 hn)
 have HO:=hd_ hok
 have HS:=hd_ hsz
 simp [Ty.nd,Nd.k,Nd.t,Nd.l,Nd.miss] at HL ⊢
 have HX:=hd_ hx
 clear hn hB hok hsz hx
 go_enter Tryz.func63,Tryz.ntmps63
 go_wp2_with fail
 refine (next_c _ bb (p) (q1::(x.toks false++l)) (HB0.out.on ((Kp.refl (On (w.heap.size+1000000)) w).alloc _) (by omega))).mono ?_
 rintro e w1 ⟨rfl,hB1,hK1⟩
 have sz1:w.heap.size≤w1.heap.size:=by have:=hK1.size;(try simp at this);omega
 have KT1:Kp (fun k=>k=bb∨k=(w.heap.size+1000000)) w w1:=((Kp.refl (fun k=>k=bb∨k=(w.heap.size+1000000)) w).alloc _).trans hK1 (by intro i hi h;first | exact (h:False).elim | omega)
 obtain ⟨xb1,x0,x1,x2,xs⟩:=box3 (newOf w _) hK1 (by exact On.not (by omega))
 have HX1:=hd_ xb1;clear xb1
 have k1:Kp (On bb) w w1:=KT1.mono (by intro i hi h;omega)
 have HK1:=hd_ k1;clear k1 KT1
 have HB1:=hd_ hB1;clear hB1 HB0
 have szw1:w.heap.size≤w1.heap.size:=by omega
 clear hK1
 go_wp2_with fail
 refine (kid_c _ B _ _ _ _ 0 (Nd.miss) (HL.out.below (HK1.out.trans ((Kp.refl (On w1.heap.size) w1).alloc _) (by intro i hi h;omega)) (by omega) (fun b hb=>On.not' (by omega))) (by decide) rfl).mono ?_
 rintro e w2 ⟨⟨u2,rfl,hu2⟩,hK2⟩
 have sz2:w1.heap.size≤w2.heap.size:=by have:=hK2.size;(try simp at this);omega
 have KT2:Kp (fun k=>k=bb∨k=w1.heap.size) w1 w2:=((Kp.refl (fun k=>k=bb∨k=w1.heap.size) w1).alloc _).trans hK2 (by intro i hi h;first | exact (h:False).elim | omega)
 have hB2:=(HB1.out.on ((Kp.refl (On w1.heap.size) w1).alloc _) (by omega)).no hK2
 obtain ⟨xb2,x0,x1,x2,xs⟩:=box3 HX1.out KT2 (by omega)
 clear HX1
 have HX2:=hd_ xb2;clear xb2
 have xk2:w2.heap[w1.heap.size]?=some (.cells #[.int .i64 p,.nilIface,.nilIface] 143 (0,0)):=hK2.at (newOf w1 _) (by exact id)
 have z0:=cO xk2 0 _ rfl;have f0:=fO xk2 0
 have z1:=cO xk2 1 _ rfl;have f1:=fO xk2 1
 have z2:=cO xk2 2 _ rfl;have f2:=fO xk2 2
 have zs2:=ltb xk2
 have HP2:=hd_ xk2;clear xk2
 have k2:Kp (On bb) w w2:=HK1.out.trans KT2 (by intro i hi h;omega)
 clear HK1
 have HK2:=hd_ k2;clear k2 KT2
 have HB2:=hd_ hB2;clear hB2 HB1
 have szw2:w.heap.size≤w2.heap.size:=by omega
 have HU2:=hd_ (hu2.below hK2 (by (try simp);omega) (fun _ _ h=>h.elim));clear hu2 hK2
 go_wp2_with fail
 refine (exprmiss_c _ _ _ _ _ rfl).mono ?_
 rintro e w3 ⟨rfl,hK3⟩
 have sz3:w2.heap.size≤w3.heap.size:=by have:=hK3.size;(try simp at this);omega
 have KT3:Kp (fun k=>k=bb∨k=w1.heap.size) w2 w3:=(Kp.refl (fun k=>k=bb∨k=w1.heap.size) w2).trans hK3 (by intro i hi h;first | exact (h:False).elim | omega)
 have hB3:=(HB2.out.on (Kp.refl (On w1.heap.size) w2) (by omega)).no hK3
 obtain ⟨xb3,x0,x1,x2,xs⟩:=box3 HX2.out KT3 (by omega)
 clear HX2
 have HX3:=hd_ xb3;clear xb3
 clear z0 f0 z1 f1 z2 f2
 have xk3:w3.heap[w1.heap.size]?=some (.cells #[.int .i64 p,.nilIface,.nilIface] 143 (0,0)):=hK3.at HP2.out (by exact id)
 have z0:=cO xk3 0 _ rfl;have f0:=fO xk3 0
 have z1:=cO xk3 1 _ rfl;have f1:=fO xk3 1
 have z2:=cO xk3 2 _ rfl;have f2:=fO xk3 2
 have zs3:=ltb xk3
 have HP3:=hd_ xk3;clear xk3 HP2
 have k3:Kp (On bb) w w3:=HK2.out.trans KT3 (by intro i hi h;omega)
 clear HK2
 have HK3:=hd_ k3;clear k3 KT3
 have HB3:=hd_ hB3;clear hB3 HB2
 have szw3:w.heap.size≤w3.heap.size:=by omega
 clear hK3 HU2
 go_wp2_with fail
 refine (next_c _ bb (q1) (x.toks false++l) (HB3.out.on ((Kp.refl (On w1.heap.size) w3).setCell (p:=⟨w1.heap.size,1,none⟩) (fun _=>rfl) _) (by omega))).mono ?_
 rintro e w4 ⟨rfl,hB4,hK4⟩
 have sz4:w3.heap.size≤w4.heap.size:=by have:=hK4.size;(try simp at this);omega
 have KT4:Kp (fun k=>k=bb∨k=w1.heap.size) w3 w4:=((Kp.refl (fun k=>k=bb∨k=w1.heap.size) w3).setCell (p:=⟨w1.heap.size,1,none⟩) (fun _=>.inr rfl) _).trans hK4 (by intro i hi h;first | exact (h:False).elim | omega)
 obtain ⟨xb4,x0,x1,x2,xs⟩:=box3 HX3.out KT4 (by omega)
 clear HX3
 have HX4:=hd_ xb4;clear xb4
 clear z0 f0 z1 f1 z2 f2
 have xk4:w4.heap[w1.heap.size]?=some (.cells #[.int .i64 p,.nilIface,.nilIface] 143 (0,0)):=hK4.at (setOf HP3.out 1 _) (by exact On.not (by omega))
 have z0:=cO xk4 0 _ rfl;have f0:=fO xk4 0
 have z1:=cO xk4 1 _ rfl;have f1:=fO xk4 1
 have z2:=cO xk4 2 _ rfl;have f2:=fO xk4 2
 have zs4:=ltb xk4
 have HP4:=hd_ xk4;clear xk4 HP3
 have k4:Kp (On bb) w w4:=HK3.out.trans KT4 (by intro i hi h;omega)
 clear HK3
 have HK4:=hd_ k4;clear k4 KT4
 have HB4:=hd_ hB4;clear hB4 HB3
 have szw4:w.heap.size≤w4.heap.size:=by omega
 clear hK4
 go_wp2_with fail
 refine (kid_c _ B _ _ _ _ 1 (x.nd) (HL.out.below (HK4.out.trans (Kp.refl (On w1.heap.size) w4) (by intro i hi h;omega)) (by omega) (fun b hb=>On.not' (by omega))) (by decide) rfl).mono ?_
 rintro e w5 ⟨⟨u5,rfl,hu5⟩,hK5⟩
 have sz5:w4.heap.size≤w5.heap.size:=by have:=hK5.size;(try simp at this);omega
 have KT5:Kp (fun k=>k=bb∨k=w1.heap.size) w4 w5:=(Kp.refl (fun k=>k=bb∨k=w1.heap.size) w4).trans hK5 (by intro i hi h;first | exact (h:False).elim | omega)
 have hB5:=(HB4.out.on (Kp.refl (On w1.heap.size) w4) (by omega)).no hK5
 obtain ⟨xb5,x0,x1,x2,xs⟩:=box3 HX4.out KT5 (by omega)
 clear HX4
 have HX5:=hd_ xb5;clear xb5
 clear z0 f0 z1 f1 z2 f2
 have xk5:w5.heap[w1.heap.size]?=some (.cells #[.int .i64 p,.nilIface,.nilIface] 143 (0,0)):=hK5.at HP4.out (by exact id)
 have z0:=cO xk5 0 _ rfl;have f0:=fO xk5 0
 have z1:=cO xk5 1 _ rfl;have f1:=fO xk5 1
 have z2:=cO xk5 2 _ rfl;have f2:=fO xk5 2
 have zs5:=ltb xk5
 have HP5:=hd_ xk5;clear xk5 HP4
 have k5:Kp (On bb) w w5:=HK4.out.trans KT5 (by intro i hi h;omega)
 clear HK4
 have HK5:=hd_ k5;clear k5 KT5
 have HB5:=hd_ hB5;clear hB5 HB4
 have szw5:w.heap.size≤w5.heap.size:=by omega
 have HU5:=hd_ (hu5.below hK5 (by (try simp);omega) (fun _ _ h=>h.elim));clear hu5 hK5
 go_wp2_with fail
 refine (HX.out _ B bb _ (l) (HB5.out.on (Kp.refl (On w1.heap.size) w5) (by omega)) HU5.out hBb HO.out.2.2.2 (by have:=HS.out;omega)).mono ?_
 rintro e w6 ⟨⟨v,rfl,hv6⟩,hB6,hK6⟩
 have sz6:w5.heap.size≤w6.heap.size:=by have:=hK6.size;(try simp at this);omega
 have KT6:Kp (fun k=>k=bb∨k=w1.heap.size) w5 w6:=(Kp.refl (fun k=>k=bb∨k=w1.heap.size) w5).trans hK6 (by intro i hi h;first | exact (h:False).elim | omega)
 obtain ⟨xb6,x0,x1,x2,xs⟩:=box3 HX5.out KT6 (by omega)
 clear HX5
 have HX6:=hd_ xb6;clear xb6
 clear z0 f0 z1 f1 z2 f2
 have xk6:w6.heap[w1.heap.size]?=some (.cells #[.int .i64 p,.nilIface,.nilIface] 143 (0,0)):=hK6.at HP5.out (by exact On.not (by omega))
 have z0:=cO xk6 0 _ rfl;have f0:=fO xk6 0
 have z1:=cO xk6 1 _ rfl;have f1:=fO xk6 1
 have z2:=cO xk6 2 _ rfl;have f2:=fO xk6 2
 have zs6:=ltb xk6
 have HP6:=hd_ xk6;clear xk6 HP5
 have hw6:Ty.At w6 (Av (w5.heap.size) (w1.heap.size)) x v:=hv6.on (Kp.refl No _) (by intro b hb hF;(try simp at hF);exact ⟨id,by omega⟩)
 clear hv6
 have HV6:=hd_ hw6;clear hw6
 have k6:Kp (On bb) w w6:=HK5.out.trans KT6 (by intro i hi h;omega)
 clear HK5
 have HK6:=hd_ k6;clear k6 KT6
 have HB6:=hd_ hB6;clear hB6 HB5
 have szw6:w.heap.size≤w6.heap.size:=by omega
 clear hK6 HU5
 go_wp2_with fail
 go_ret
 refine ⟨⟨_,rfl,?_⟩,(HB6.out.on ((Kp.refl (On w1.heap.size) w6).setCell (p:=⟨w1.heap.size,2,none⟩) (fun _=>rfl) _) (by omega)),(HK6.out.trans ((Kp.refl (On w1.heap.size) w6).setCell (p:=⟨w1.heap.size,2,none⟩) (fun _=>rfl) _) (by intro i hi h;omega))⟩
 simp only [Ty.At]
 exact ⟨v,⟨_,rfl,by omega,(setOf HP6.out 2 _)⟩,HV6.out.on ((Kp.refl (On w1.heap.size) w6).setCell (p:=⟨w1.heap.size,2,none⟩) (fun _=>rfl) _) (by intro b hb hF;omega)⟩
theorem arr_c (p q1:Int) (y x:Ty) (hy:ExprP y) (hx:ExprP x):ExprP (.arr p y q1 x):=by
 intro w B bb s l hB hn hBb hok hsz
 simp [Ty.toks] at hB
 simp only [Ty.ok] at hok
 simp only [Ty.nd,Nd.size,Nd.sizeL] at hsz
 have hlt:=hB.lt
 have HB0:=hd_ hB
 obtain ⟨q,c0,rfl,_⟩:=hn.form
 have HL:=hd_ (Nd.In_iff.1 hn)
 have HO:=hd_ hok
 have HS:=hd_ hsz
 simp [Ty.nd,Nd.k,Nd.t,Nd.l,lc_] at HL ⊢
 have HX:=hd_ hx
 have HY:=hd_ hy
 clear hn hB hok hsz hx hy
 go_enter Tryz.func63,Tryz.ntmps63
 go_wp2_with fail
 refine (next_c _ bb (p) (y.toks false++q1::(x.toks false++l)) (HB0.out.on ((Kp.refl (On (w.heap.size+1000000)) w).alloc _) (by omega))).mono ?_
 rintro e w1 ⟨rfl,hB1,hK1⟩
 have sz1:w.heap.size≤w1.heap.size:=by have:=hK1.size;(try simp at this);omega
 have KT1:Kp (fun k=>k=bb∨k=(w.heap.size+1000000)) w w1:=((Kp.refl (fun k=>k=bb∨k=(w.heap.size+1000000)) w).alloc _).trans hK1 (by intro i hi h;first | exact (h:False).elim | omega)
 obtain ⟨xb1,x0,x1,x2,xs⟩:=box3 (newOf w _) hK1 (by exact On.not (by omega))
 have HX1:=hd_ xb1;clear xb1
 have k1:Kp (On bb) w w1:=KT1.mono (by intro i hi h;omega)
 have HK1:=hd_ k1;clear k1 KT1
 have HB1:=hd_ hB1;clear hB1 HB0
 have szw1:w.heap.size≤w1.heap.size:=by omega
 clear hK1
 go_wp2_with fail
 refine (kid_c _ B _ _ _ _ 0 (y.nd) (HL.out.below (HK1.out.trans ((Kp.refl (On w1.heap.size) w1).alloc _) (by intro i hi h;omega)) (by omega) (fun b hb=>On.not' (by omega))) (by decide) rfl).mono ?_
 rintro e w2 ⟨⟨u2,rfl,hu2⟩,hK2⟩
 have sz2:w1.heap.size≤w2.heap.size:=by have:=hK2.size;(try simp at this);omega
 have KT2:Kp (fun k=>k=bb∨k=w1.heap.size) w1 w2:=((Kp.refl (fun k=>k=bb∨k=w1.heap.size) w1).alloc _).trans hK2 (by intro i hi h;first | exact (h:False).elim | omega)
 have hB2:=(HB1.out.on ((Kp.refl (On w1.heap.size) w1).alloc _) (by omega)).no hK2
 obtain ⟨xb2,x0,x1,x2,xs⟩:=box3 HX1.out KT2 (by omega)
 clear HX1
 have HX2:=hd_ xb2;clear xb2
 have xk2:w2.heap[w1.heap.size]?=some (.cells #[.int .i64 p,.nilIface,.nilIface] 143 (0,0)):=hK2.at (newOf w1 _) (by exact id)
 have z0:=cO xk2 0 _ rfl;have f0:=fO xk2 0
 have z1:=cO xk2 1 _ rfl;have f1:=fO xk2 1
 have z2:=cO xk2 2 _ rfl;have f2:=fO xk2 2
 have zs2:=ltb xk2
 have HP2:=hd_ xk2;clear xk2
 have k2:Kp (On bb) w w2:=HK1.out.trans KT2 (by intro i hi h;omega)
 clear HK1
 have HK2:=hd_ k2;clear k2 KT2
 have HB2:=hd_ hB2;clear hB2 HB1
 have szw2:w.heap.size≤w2.heap.size:=by omega
 have HU2:=hd_ (hu2.below hK2 (by (try simp);omega) (fun _ _ h=>h.elim));clear hu2 hK2
 go_wp2_with fail
 refine (HY.out _ B bb _ (q1::(x.toks false++l)) (HB2.out.on (Kp.refl (On w1.heap.size) w2) (by omega)) HU2.out hBb HO.out.2.2.1 (by have:=HS.out;omega)).mono ?_
 rintro e w3 ⟨⟨v,rfl,hv3⟩,hB3,hK3⟩
 have sz3:w2.heap.size≤w3.heap.size:=by have:=hK3.size;(try simp at this);omega
 have KT3:Kp (fun k=>k=bb∨k=w1.heap.size) w2 w3:=(Kp.refl (fun k=>k=bb∨k=w1.heap.size) w2).trans hK3 (by intro i hi h;first | exact (h:False).elim | omega)
 obtain ⟨xb3,x0,x1,x2,xs⟩:=box3 HX2.out KT3 (by omega)
 clear HX2
 have HX3:=hd_ xb3;clear xb3
 clear z0 f0 z1 f1 z2 f2
 have xk3:w3.heap[w1.heap.size]?=some (.cells #[.int .i64 p,.nilIface,.nilIface] 143 (0,0)):=hK3.at HP2.out (by exact On.not (by omega))
 have z0:=cO xk3 0 _ rfl;have f0:=fO xk3 0
 have z1:=cO xk3 1 _ rfl;have f1:=fO xk3 1
 have z2:=cO xk3 2 _ rfl;have f2:=fO xk3 2
 have zs3:=ltb xk3
 have HP3:=hd_ xk3;clear xk3 HP2
 have hw3:Ty.At w3 (Av (w2.heap.size) (w1.heap.size)) y v:=hv3.on (Kp.refl No _) (by intro b hb hF;(try simp at hF);exact ⟨id,by omega⟩)
 clear hv3
 have HV3:=hd_ hw3;clear hw3
 have k3:Kp (On bb) w w3:=HK2.out.trans KT3 (by intro i hi h;omega)
 clear HK2
 have HK3:=hd_ k3;clear k3 KT3
 have HB3:=hd_ hB3;clear hB3 HB2
 have szw3:w.heap.size≤w3.heap.size:=by omega
 clear hK3 HU2
 go_wp2_with fail
 refine (next_c _ bb (q1) (x.toks false++l) (HB3.out.on ((Kp.refl (On w1.heap.size) w3).setCell (p:=⟨w1.heap.size,1,none⟩) (fun _=>rfl) _) (by omega))).mono ?_
 rintro e w4 ⟨rfl,hB4,hK4⟩
 have sz4:w3.heap.size≤w4.heap.size:=by have:=hK4.size;(try simp at this);omega
 have KT4:Kp (fun k=>k=bb∨k=w1.heap.size) w3 w4:=((Kp.refl (fun k=>k=bb∨k=w1.heap.size) w3).setCell (p:=⟨w1.heap.size,1,none⟩) (fun _=>.inr rfl) _).trans hK4 (by intro i hi h;first | exact (h:False).elim | omega)
 obtain ⟨xb4,x0,x1,x2,xs⟩:=box3 HX3.out KT4 (by omega)
 clear HX3
 have HX4:=hd_ xb4;clear xb4
 clear z0 f0 z1 f1 z2 f2
 have xk4:w4.heap[w1.heap.size]?=some (.cells #[.int .i64 p,.iface y.ty v,.nilIface] 143 (0,0)):=hK4.at (setOf HP3.out 1 _) (by exact On.not (by omega))
 have z0:=cO xk4 0 _ rfl;have f0:=fO xk4 0
 have z1:=cO xk4 1 _ rfl;have f1:=fO xk4 1
 have z2:=cO xk4 2 _ rfl;have f2:=fO xk4 2
 have zs4:=ltb xk4
 have HP4:=hd_ xk4;clear xk4 HP3
 have HV3_4:Ty.At w4 (Av (w2.heap.size) (w1.heap.size)) y v:=HV3.out.on KT4 (by intro b hb hF;omega)
 have HV3n4:=hd_ HV3_4;clear HV3_4 HV3
 have k4:Kp (On bb) w w4:=HK3.out.trans KT4 (by intro i hi h;omega)
 clear HK3
 have HK4:=hd_ k4;clear k4 KT4
 have HB4:=hd_ hB4;clear hB4 HB3
 have szw4:w.heap.size≤w4.heap.size:=by omega
 clear hK4
 go_wp2_with fail
 refine (kid_c _ B _ _ _ _ 1 (x.nd) (HL.out.below (HK4.out.trans (Kp.refl (On w1.heap.size) w4) (by intro i hi h;omega)) (by omega) (fun b hb=>On.not' (by omega))) (by decide) rfl).mono ?_
 rintro e w5 ⟨⟨u5,rfl,hu5⟩,hK5⟩
 have sz5:w4.heap.size≤w5.heap.size:=by have:=hK5.size;(try simp at this);omega
 have KT5:Kp (fun k=>k=bb∨k=w1.heap.size) w4 w5:=(Kp.refl (fun k=>k=bb∨k=w1.heap.size) w4).trans hK5 (by intro i hi h;first | exact (h:False).elim | omega)
 have hB5:=(HB4.out.on (Kp.refl (On w1.heap.size) w4) (by omega)).no hK5
 obtain ⟨xb5,x0,x1,x2,xs⟩:=box3 HX4.out KT5 (by omega)
 clear HX4
 have HX5:=hd_ xb5;clear xb5
 clear z0 f0 z1 f1 z2 f2
 have xk5:w5.heap[w1.heap.size]?=some (.cells #[.int .i64 p,.iface y.ty v,.nilIface] 143 (0,0)):=hK5.at HP4.out (by exact id)
 have z0:=cO xk5 0 _ rfl;have f0:=fO xk5 0
 have z1:=cO xk5 1 _ rfl;have f1:=fO xk5 1
 have z2:=cO xk5 2 _ rfl;have f2:=fO xk5 2
 have zs5:=ltb xk5
 have HP5:=hd_ xk5;clear xk5 HP4
 have HV3n4_5:Ty.At w5 (Av (w2.heap.size) (w1.heap.size)) y v:=HV3n4.out.on KT5 (by intro b hb hF;omega)
 have HV3n4n5:=hd_ HV3n4_5;clear HV3n4_5 HV3n4
 have k5:Kp (On bb) w w5:=HK4.out.trans KT5 (by intro i hi h;omega)
 clear HK4
 have HK5:=hd_ k5;clear k5 KT5
 have HB5:=hd_ hB5;clear hB5 HB4
 have szw5:w.heap.size≤w5.heap.size:=by omega
 have HU5:=hd_ (hu5.below hK5 (by (try simp);omega) (fun _ _ h=>h.elim));clear hu5 hK5
 go_wp2_with fail
 refine (HX.out _ B bb _ (l) (HB5.out.on (Kp.refl (On w1.heap.size) w5) (by omega)) HU5.out hBb HO.out.2.2.2.2 (by have:=HS.out;omega)).mono ?_
 rintro e w6 ⟨⟨v1,rfl,hv6⟩,hB6,hK6⟩
 have sz6:w5.heap.size≤w6.heap.size:=by have:=hK6.size;(try simp at this);omega
 have KT6:Kp (fun k=>k=bb∨k=w1.heap.size) w5 w6:=(Kp.refl (fun k=>k=bb∨k=w1.heap.size) w5).trans hK6 (by intro i hi h;first | exact (h:False).elim | omega)
 obtain ⟨xb6,x0,x1,x2,xs⟩:=box3 HX5.out KT6 (by omega)
 clear HX5
 have HX6:=hd_ xb6;clear xb6
 clear z0 f0 z1 f1 z2 f2
 have xk6:w6.heap[w1.heap.size]?=some (.cells #[.int .i64 p,.iface y.ty v,.nilIface] 143 (0,0)):=hK6.at HP5.out (by exact On.not (by omega))
 have z0:=cO xk6 0 _ rfl;have f0:=fO xk6 0
 have z1:=cO xk6 1 _ rfl;have f1:=fO xk6 1
 have z2:=cO xk6 2 _ rfl;have f2:=fO xk6 2
 have zs6:=ltb xk6
 have HP6:=hd_ xk6;clear xk6 HP5
 have HV3n4n5_6:Ty.At w6 (Av (w2.heap.size) (w1.heap.size)) y v:=HV3n4n5.out.on KT6 (by intro b hb hF;omega)
 have HV3n4n5n6:=hd_ HV3n4n5_6;clear HV3n4n5_6 HV3n4n5
 have hw6:Ty.At w6 (Av (w5.heap.size) (w1.heap.size)) x v1:=hv6.on (Kp.refl No _) (by intro b hb hF;(try simp at hF);exact ⟨id,by omega⟩)
 clear hv6
 have HV6:=hd_ hw6;clear hw6
 have k6:Kp (On bb) w w6:=HK5.out.trans KT6 (by intro i hi h;omega)
 clear HK5
 have HK6:=hd_ k6;clear k6 KT6
 have HB6:=hd_ hB6;clear hB6 HB5
 have szw6:w.heap.size≤w6.heap.size:=by omega
 clear hK6 HU5
 go_wp2_with fail
 go_ret
 refine ⟨⟨_,rfl,?_⟩,(HB6.out.on ((Kp.refl (On w1.heap.size) w6).setCell (p:=⟨w1.heap.size,2,none⟩) (fun _=>rfl) _) (by omega)),(HK6.out.trans ((Kp.refl (On w1.heap.size) w6).setCell (p:=⟨w1.heap.size,2,none⟩) (fun _=>rfl) _) (by intro i hi h;omega))⟩
 simp only [Ty.At]
 exact ⟨v,v1,⟨_,rfl,by omega,(setOf HP6.out 2 _)⟩,HV3n4n5n6.out.on ((Kp.refl (On w1.heap.size) w6).setCell (p:=⟨w1.heap.size,2,none⟩) (fun _=>rfl) _) (by intro b hb hF;omega),HV6.out.on ((Kp.refl (On w1.heap.size) w6).setCell (p:=⟨w1.heap.size,2,none⟩) (fun _=>rfl) _) (by intro b hb hF;omega)⟩
theorem map_c (p q1 r:Int) (y x:Ty) (hy:ExprP y) (hx:ExprP x):ExprP (.map p q1 y r x):=by
 intro w B bb s l hB hn hBb hok hsz
 simp [Ty.toks] at hB
 simp only [Ty.ok] at hok
 simp only [Ty.nd,Nd.size,Nd.sizeL] at hsz
 have hlt:=hB.lt
 have HB0:=hd_ hB
 obtain ⟨q,c0,rfl,_⟩:=hn.form
 have HL:=hd_ (Nd.In_iff.1 hn)
 have HO:=hd_ hok
 have HS:=hd_ hsz
 simp [Ty.nd,Nd.k,Nd.t,Nd.l,lc_] at HL ⊢
 have HX:=hd_ hx
 have HY:=hd_ hy
 clear hn hB hok hsz hx hy
 go_enter Tryz.func63,Tryz.ntmps63
 go_wp2_with fail
 refine (next_c _ bb (p) (q1::(y.toks false++r::(x.toks false++l))) (HB0.out.on ((Kp.refl (On (w.heap.size+1000000)) w).alloc _) (by omega))).mono ?_
 rintro e w1 ⟨rfl,hB1,hK1⟩
 have sz1:w.heap.size≤w1.heap.size:=by have:=hK1.size;(try simp at this);omega
 have KT1:Kp (fun k=>k=bb∨k=(w.heap.size+1000000)) w w1:=((Kp.refl (fun k=>k=bb∨k=(w.heap.size+1000000)) w).alloc _).trans hK1 (by intro i hi h;first | exact (h:False).elim | omega)
 obtain ⟨xb1,x0,x1,x2,xs⟩:=box3 (newOf w _) hK1 (by exact On.not (by omega))
 have HX1:=hd_ xb1;clear xb1
 have k1:Kp (On bb) w w1:=KT1.mono (by intro i hi h;omega)
 have HK1:=hd_ k1;clear k1 KT1
 have HB1:=hd_ hB1;clear hB1 HB0
 have szw1:w.heap.size≤w1.heap.size:=by omega
 clear hK1
 go_wp2_with fail
 refine (next_c _ bb (q1) (y.toks false++r::(x.toks false++l)) (HB1.out.on ((Kp.refl (On w1.heap.size) w1).alloc _) (by omega))).mono ?_
 rintro e w2 ⟨rfl,hB2,hK2⟩
 have sz2:w1.heap.size≤w2.heap.size:=by have:=hK2.size;(try simp at this);omega
 have KT2:Kp (fun k=>k=bb∨k=w1.heap.size) w1 w2:=((Kp.refl (fun k=>k=bb∨k=w1.heap.size) w1).alloc _).trans hK2 (by intro i hi h;first | exact (h:False).elim | omega)
 obtain ⟨xb2,x0,x1,x2,xs⟩:=box3 HX1.out KT2 (by omega)
 clear HX1
 have HX2:=hd_ xb2;clear xb2
 have xk2:w2.heap[w1.heap.size]?=some (.cells #[.int .i64 p,.nilIface,.nilIface] 146 (0,0)):=hK2.at (newOf w1 _) (by exact On.not (by omega))
 have z0:=cO xk2 0 _ rfl;have f0:=fO xk2 0
 have z1:=cO xk2 1 _ rfl;have f1:=fO xk2 1
 have z2:=cO xk2 2 _ rfl;have f2:=fO xk2 2
 have zs2:=ltb xk2
 have HP2:=hd_ xk2;clear xk2
 have k2:Kp (On bb) w w2:=HK1.out.trans KT2 (by intro i hi h;omega)
 clear HK1
 have HK2:=hd_ k2;clear k2 KT2
 have HB2:=hd_ hB2;clear hB2 HB1
 have szw2:w.heap.size≤w2.heap.size:=by omega
 clear hK2
 go_wp2_with fail
 refine (kid_c _ B _ _ _ _ 0 (y.nd) (HL.out.below (HK2.out.trans (Kp.refl (On w1.heap.size) w2) (by intro i hi h;omega)) (by omega) (fun b hb=>On.not' (by omega))) (by decide) rfl).mono ?_
 rintro e w3 ⟨⟨u3,rfl,hu3⟩,hK3⟩
 have sz3:w2.heap.size≤w3.heap.size:=by have:=hK3.size;(try simp at this);omega
 have KT3:Kp (fun k=>k=bb∨k=w1.heap.size) w2 w3:=(Kp.refl (fun k=>k=bb∨k=w1.heap.size) w2).trans hK3 (by intro i hi h;first | exact (h:False).elim | omega)
 have hB3:=(HB2.out.on (Kp.refl (On w1.heap.size) w2) (by omega)).no hK3
 obtain ⟨xb3,x0,x1,x2,xs⟩:=box3 HX2.out KT3 (by omega)
 clear HX2
 have HX3:=hd_ xb3;clear xb3
 clear z0 f0 z1 f1 z2 f2
 have xk3:w3.heap[w1.heap.size]?=some (.cells #[.int .i64 p,.nilIface,.nilIface] 146 (0,0)):=hK3.at HP2.out (by exact id)
 have z0:=cO xk3 0 _ rfl;have f0:=fO xk3 0
 have z1:=cO xk3 1 _ rfl;have f1:=fO xk3 1
 have z2:=cO xk3 2 _ rfl;have f2:=fO xk3 2
 have zs3:=ltb xk3
 have HP3:=hd_ xk3;clear xk3 HP2
 have k3:Kp (On bb) w w3:=HK2.out.trans KT3 (by intro i hi h;omega)
 clear HK2
 have HK3:=hd_ k3;clear k3 KT3
 have HB3:=hd_ hB3;clear hB3 HB2
 have szw3:w.heap.size≤w3.heap.size:=by omega
 have HU3:=hd_ (hu3.below hK3 (by (try simp);omega) (fun _ _ h=>h.elim));clear hu3 hK3
 go_wp2_with fail
 refine (HY.out _ B bb _ (r::(x.toks false++l)) (HB3.out.on (Kp.refl (On w1.heap.size) w3) (by omega)) HU3.out hBb HO.out.2.2.2.1 (by have:=HS.out;omega)).mono ?_
 rintro e w4 ⟨⟨v,rfl,hv4⟩,hB4,hK4⟩
 have sz4:w3.heap.size≤w4.heap.size:=by have:=hK4.size;(try simp at this);omega
 have KT4:Kp (fun k=>k=bb∨k=w1.heap.size) w3 w4:=(Kp.refl (fun k=>k=bb∨k=w1.heap.size) w3).trans hK4 (by intro i hi h;first | exact (h:False).elim | omega)
 obtain ⟨xb4,x0,x1,x2,xs⟩:=box3 HX3.out KT4 (by omega)
 clear HX3
 have HX4:=hd_ xb4;clear xb4
 clear z0 f0 z1 f1 z2 f2
 have xk4:w4.heap[w1.heap.size]?=some (.cells #[.int .i64 p,.nilIface,.nilIface] 146 (0,0)):=hK4.at HP3.out (by exact On.not (by omega))
 have z0:=cO xk4 0 _ rfl;have f0:=fO xk4 0
 have z1:=cO xk4 1 _ rfl;have f1:=fO xk4 1
 have z2:=cO xk4 2 _ rfl;have f2:=fO xk4 2
 have zs4:=ltb xk4
 have HP4:=hd_ xk4;clear xk4 HP3
 have hw4:Ty.At w4 (Av (w3.heap.size) (w1.heap.size)) y v:=hv4.on (Kp.refl No _) (by intro b hb hF;(try simp at hF);exact ⟨id,by omega⟩)
 clear hv4
 have HV4:=hd_ hw4;clear hw4
 have k4:Kp (On bb) w w4:=HK3.out.trans KT4 (by intro i hi h;omega)
 clear HK3
 have HK4:=hd_ k4;clear k4 KT4
 have HB4:=hd_ hB4;clear hB4 HB3
 have szw4:w.heap.size≤w4.heap.size:=by omega
 clear hK4 HU3
 go_wp2_with fail
 refine (next_c _ bb (r) (x.toks false++l) (HB4.out.on ((Kp.refl (On w1.heap.size) w4).setCell (p:=⟨w1.heap.size,1,none⟩) (fun _=>rfl) _) (by omega))).mono ?_
 rintro e w5 ⟨rfl,hB5,hK5⟩
 have sz5:w4.heap.size≤w5.heap.size:=by have:=hK5.size;(try simp at this);omega
 have KT5:Kp (fun k=>k=bb∨k=w1.heap.size) w4 w5:=((Kp.refl (fun k=>k=bb∨k=w1.heap.size) w4).setCell (p:=⟨w1.heap.size,1,none⟩) (fun _=>.inr rfl) _).trans hK5 (by intro i hi h;first | exact (h:False).elim | omega)
 obtain ⟨xb5,x0,x1,x2,xs⟩:=box3 HX4.out KT5 (by omega)
 clear HX4
 have HX5:=hd_ xb5;clear xb5
 clear z0 f0 z1 f1 z2 f2
 have xk5:w5.heap[w1.heap.size]?=some (.cells #[.int .i64 p,.iface y.ty v,.nilIface] 146 (0,0)):=hK5.at (setOf HP4.out 1 _) (by exact On.not (by omega))
 have z0:=cO xk5 0 _ rfl;have f0:=fO xk5 0
 have z1:=cO xk5 1 _ rfl;have f1:=fO xk5 1
 have z2:=cO xk5 2 _ rfl;have f2:=fO xk5 2
 have zs5:=ltb xk5
 have HP5:=hd_ xk5;clear xk5 HP4
 have HV4_5:Ty.At w5 (Av (w3.heap.size) (w1.heap.size)) y v:=HV4.out.on KT5 (by intro b hb hF;omega)
 have HV4n5:=hd_ HV4_5;clear HV4_5 HV4
 have k5:Kp (On bb) w w5:=HK4.out.trans KT5 (by intro i hi h;omega)
 clear HK4
 have HK5:=hd_ k5;clear k5 KT5
 have HB5:=hd_ hB5;clear hB5 HB4
 have szw5:w.heap.size≤w5.heap.size:=by omega
 clear hK5
 go_wp2_with fail
 refine (kid_c _ B _ _ _ _ 1 (x.nd) (HL.out.below (HK5.out.trans (Kp.refl (On w1.heap.size) w5) (by intro i hi h;omega)) (by omega) (fun b hb=>On.not' (by omega))) (by decide) rfl).mono ?_
 rintro e w6 ⟨⟨u6,rfl,hu6⟩,hK6⟩
 have sz6:w5.heap.size≤w6.heap.size:=by have:=hK6.size;(try simp at this);omega
 have KT6:Kp (fun k=>k=bb∨k=w1.heap.size) w5 w6:=(Kp.refl (fun k=>k=bb∨k=w1.heap.size) w5).trans hK6 (by intro i hi h;first | exact (h:False).elim | omega)
 have hB6:=(HB5.out.on (Kp.refl (On w1.heap.size) w5) (by omega)).no hK6
 obtain ⟨xb6,x0,x1,x2,xs⟩:=box3 HX5.out KT6 (by omega)
 clear HX5
 have HX6:=hd_ xb6;clear xb6
 clear z0 f0 z1 f1 z2 f2
 have xk6:w6.heap[w1.heap.size]?=some (.cells #[.int .i64 p,.iface y.ty v,.nilIface] 146 (0,0)):=hK6.at HP5.out (by exact id)
 have z0:=cO xk6 0 _ rfl;have f0:=fO xk6 0
 have z1:=cO xk6 1 _ rfl;have f1:=fO xk6 1
 have z2:=cO xk6 2 _ rfl;have f2:=fO xk6 2
 have zs6:=ltb xk6
 have HP6:=hd_ xk6;clear xk6 HP5
 have HV4n5_6:Ty.At w6 (Av (w3.heap.size) (w1.heap.size)) y v:=HV4n5.out.on KT6 (by intro b hb hF;omega)
 have HV4n5n6:=hd_ HV4n5_6;clear HV4n5_6 HV4n5
 have k6:Kp (On bb) w w6:=HK5.out.trans KT6 (by intro i hi h;omega)
 clear HK5
 have HK6:=hd_ k6;clear k6 KT6
 have HB6:=hd_ hB6;clear hB6 HB5
 have szw6:w.heap.size≤w6.heap.size:=by omega
 have HU6:=hd_ (hu6.below hK6 (by (try simp);omega) (fun _ _ h=>h.elim));clear hu6 hK6
 go_wp2_with fail
 refine (HX.out _ B bb _ (l) (HB6.out.on (Kp.refl (On w1.heap.size) w6) (by omega)) HU6.out hBb HO.out.2.2.2.2.2 (by have:=HS.out;omega)).mono ?_
 rintro e w7 ⟨⟨v1,rfl,hv7⟩,hB7,hK7⟩
 have sz7:w6.heap.size≤w7.heap.size:=by have:=hK7.size;(try simp at this);omega
 have KT7:Kp (fun k=>k=bb∨k=w1.heap.size) w6 w7:=(Kp.refl (fun k=>k=bb∨k=w1.heap.size) w6).trans hK7 (by intro i hi h;first | exact (h:False).elim | omega)
 obtain ⟨xb7,x0,x1,x2,xs⟩:=box3 HX6.out KT7 (by omega)
 clear HX6
 have HX7:=hd_ xb7;clear xb7
 clear z0 f0 z1 f1 z2 f2
 have xk7:w7.heap[w1.heap.size]?=some (.cells #[.int .i64 p,.iface y.ty v,.nilIface] 146 (0,0)):=hK7.at HP6.out (by exact On.not (by omega))
 have z0:=cO xk7 0 _ rfl;have f0:=fO xk7 0
 have z1:=cO xk7 1 _ rfl;have f1:=fO xk7 1
 have z2:=cO xk7 2 _ rfl;have f2:=fO xk7 2
 have zs7:=ltb xk7
 have HP7:=hd_ xk7;clear xk7 HP6
 have HV4n5n6_7:Ty.At w7 (Av (w3.heap.size) (w1.heap.size)) y v:=HV4n5n6.out.on KT7 (by intro b hb hF;omega)
 have HV4n5n6n7:=hd_ HV4n5n6_7;clear HV4n5n6_7 HV4n5n6
 have hw7:Ty.At w7 (Av (w6.heap.size) (w1.heap.size)) x v1:=hv7.on (Kp.refl No _) (by intro b hb hF;(try simp at hF);exact ⟨id,by omega⟩)
 clear hv7
 have HV7:=hd_ hw7;clear hw7
 have k7:Kp (On bb) w w7:=HK6.out.trans KT7 (by intro i hi h;omega)
 clear HK6
 have HK7:=hd_ k7;clear k7 KT7
 have HB7:=hd_ hB7;clear hB7 HB6
 have szw7:w.heap.size≤w7.heap.size:=by omega
 clear hK7 HU6
 go_wp2_with fail
 go_ret
 refine ⟨⟨_,rfl,?_⟩,(HB7.out.on ((Kp.refl (On w1.heap.size) w7).setCell (p:=⟨w1.heap.size,2,none⟩) (fun _=>rfl) _) (by omega)),(HK7.out.trans ((Kp.refl (On w1.heap.size) w7).setCell (p:=⟨w1.heap.size,2,none⟩) (fun _=>rfl) _) (by intro i hi h;omega))⟩
 simp only [Ty.At]
 exact ⟨v,v1,⟨_,rfl,by omega,(setOf HP7.out 2 _)⟩,HV4n5n6n7.out.on ((Kp.refl (On w1.heap.size) w7).setCell (p:=⟨w1.heap.size,2,none⟩) (fun _=>rfl) _) (by intro b hb hF;omega),HV7.out.on ((Kp.refl (On w1.heap.size) w7).setCell (p:=⟨w1.heap.size,2,none⟩) (fun _=>rfl) _) (by intro b hb hF;omega)⟩
theorem ch_c (p:Int) (x:Ty) (hx:ExprP x):ExprP (.ch p x):=by
 intro w B bb s l hB hn hBb hok hsz
 simp [Ty.toks] at hB
 simp only [Ty.ok] at hok
 simp only [Ty.nd,Nd.size,Nd.sizeL] at hsz
 have hlt:=hB.lt
 have HB0:=hd_ hB
 obtain ⟨q,c0,rfl,_⟩:=hn.form
 have HL:=hd_ (Nd.In_iff.1 hn)
 have HO:=hd_ hok
 have HS:=hd_ hsz
 simp [Ty.nd,Nd.k,Nd.t,Nd.l,lc_] at HL ⊢
 have HX:=hd_ hx
 clear hn hB hok hsz hx
 go_enter Tryz.func63,Tryz.ntmps63
 go_wp2_with fail
 refine (next_c _ bb (p) (x.toks false++l) (HB0.out.on ((Kp.refl (On (w.heap.size+1000000)) w).alloc _) (by omega))).mono ?_
 rintro e w1 ⟨rfl,hB1,hK1⟩
 have sz1:w.heap.size≤w1.heap.size:=by have:=hK1.size;(try simp at this);omega
 have KT1:Kp (fun k=>k=bb∨k=(w.heap.size+1000000)) w w1:=((Kp.refl (fun k=>k=bb∨k=(w.heap.size+1000000)) w).alloc _).trans hK1 (by intro i hi h;first | exact (h:False).elim | omega)
 obtain ⟨xb1,x0,x1,x2,xs⟩:=box3 (newOf w _) hK1 (by exact On.not (by omega))
 have HX1:=hd_ xb1;clear xb1
 have k1:Kp (On bb) w w1:=KT1.mono (by intro i hi h;omega)
 have HK1:=hd_ k1;clear k1 KT1
 have HB1:=hd_ hB1;clear hB1 HB0
 have szw1:w.heap.size≤w1.heap.size:=by omega
 clear hK1
 go_wp2_with fail
 refine (kid_c _ B _ _ _ _ 0 (x.nd) (HL.out.below (HK1.out.trans ((Kp.refl (On w1.heap.size) w1).alloc _) (by intro i hi h;omega)) (by omega) (fun b hb=>On.not' (by omega))) (by decide) rfl).mono ?_
 rintro e w2 ⟨⟨u2,rfl,hu2⟩,hK2⟩
 have sz2:w1.heap.size≤w2.heap.size:=by have:=hK2.size;(try simp at this);omega
 have KT2:Kp (fun k=>k=bb∨k=w1.heap.size) w1 w2:=((Kp.refl (fun k=>k=bb∨k=w1.heap.size) w1).alloc _).trans hK2 (by intro i hi h;first | exact (h:False).elim | omega)
 have hB2:=(HB1.out.on ((Kp.refl (On w1.heap.size) w1).alloc _) (by omega)).no hK2
 obtain ⟨xb2,x0,x1,x2,xs⟩:=box3 HX1.out KT2 (by omega)
 clear HX1
 have HX2:=hd_ xb2;clear xb2
 have xk2:w2.heap[w1.heap.size]?=some (.cells #[.int .i64 p,.int .i64 0,.int .i64 3,.nilIface] 151 (0,0)):=hK2.at (newOf w1 _) (by exact id)
 have z0:=cO xk2 0 _ rfl;have f0:=fO xk2 0
 have z1:=cO xk2 1 _ rfl;have f1:=fO xk2 1
 have z2:=cO xk2 2 _ rfl;have f2:=fO xk2 2
 have z3:=cO xk2 3 _ rfl;have f3:=fO xk2 3
 have zs2:=ltb xk2
 have HP2:=hd_ xk2;clear xk2
 have k2:Kp (On bb) w w2:=HK1.out.trans KT2 (by intro i hi h;omega)
 clear HK1
 have HK2:=hd_ k2;clear k2 KT2
 have HB2:=hd_ hB2;clear hB2 HB1
 have szw2:w.heap.size≤w2.heap.size:=by omega
 have HU2:=hd_ (hu2.below hK2 (by (try simp);omega) (fun _ _ h=>h.elim));clear hu2 hK2
 go_wp2_with fail
 refine (HX.out _ B bb _ (l) (HB2.out.on (Kp.refl (On w1.heap.size) w2) (by omega)) HU2.out hBb HO.out.2.2 (by have:=HS.out;omega)).mono ?_
 rintro e w3 ⟨⟨v,rfl,hv3⟩,hB3,hK3⟩
 have sz3:w2.heap.size≤w3.heap.size:=by have:=hK3.size;(try simp at this);omega
 have KT3:Kp (fun k=>k=bb∨k=w1.heap.size) w2 w3:=(Kp.refl (fun k=>k=bb∨k=w1.heap.size) w2).trans hK3 (by intro i hi h;first | exact (h:False).elim | omega)
 obtain ⟨xb3,x0,x1,x2,xs⟩:=box3 HX2.out KT3 (by omega)
 clear HX2
 have HX3:=hd_ xb3;clear xb3
 clear z0 f0 z1 f1 z2 f2 z3 f3
 have xk3:w3.heap[w1.heap.size]?=some (.cells #[.int .i64 p,.int .i64 0,.int .i64 3,.nilIface] 151 (0,0)):=hK3.at HP2.out (by exact On.not (by omega))
 have z0:=cO xk3 0 _ rfl;have f0:=fO xk3 0
 have z1:=cO xk3 1 _ rfl;have f1:=fO xk3 1
 have z2:=cO xk3 2 _ rfl;have f2:=fO xk3 2
 have z3:=cO xk3 3 _ rfl;have f3:=fO xk3 3
 have zs3:=ltb xk3
 have HP3:=hd_ xk3;clear xk3 HP2
 have hw3:Ty.At w3 (Av (w2.heap.size) (w1.heap.size)) x v:=hv3.on (Kp.refl No _) (by intro b hb hF;(try simp at hF);exact ⟨id,by omega⟩)
 clear hv3
 have HV3:=hd_ hw3;clear hw3
 have k3:Kp (On bb) w w3:=HK2.out.trans KT3 (by intro i hi h;omega)
 clear HK2
 have HK3:=hd_ k3;clear k3 KT3
 have HB3:=hd_ hB3;clear hB3 HB2
 have szw3:w.heap.size≤w3.heap.size:=by omega
 clear hK3 HU2
 go_wp2_with fail
 go_ret
 refine ⟨⟨_,rfl,?_⟩,(HB3.out.on ((Kp.refl (On w1.heap.size) w3).setCell (p:=⟨w1.heap.size,3,none⟩) (fun _=>rfl) _) (by omega)),(HK3.out.trans ((Kp.refl (On w1.heap.size) w3).setCell (p:=⟨w1.heap.size,3,none⟩) (fun _=>rfl) _) (by intro i hi h;omega))⟩
 simp only [Ty.At]
 exact ⟨0,v,⟨_,rfl,by omega,(setOf HP3.out 3 _)⟩,HV3.out.on ((Kp.refl (On w1.heap.size) w3).setCell (p:=⟨w1.heap.size,3,none⟩) (fun _=>rfl) _) (by intro b hb hF;omega)⟩
theorem chs_c (p q1:Int) (x:Ty) (hx:ExprP x):ExprP (.chs p q1 x):=by
 intro w B bb s l hB hn hBb hok hsz
 simp [Ty.toks] at hB
 simp only [Ty.ok] at hok
 simp only [Ty.nd,Nd.size,Nd.sizeL] at hsz
 have hlt:=hB.lt
 have HB0:=hd_ hB
 obtain ⟨q,c0,rfl,_⟩:=hn.form
 have HL:=hd_ (Nd.In_iff.1 hn)
 have HO:=hd_ hok
 have HS:=hd_ hsz
 simp [Ty.nd,Nd.k,Nd.t,Nd.l,lc_] at HL ⊢
 have HX:=hd_ hx
 clear hn hB hok hsz hx
 go_enter Tryz.func63,Tryz.ntmps63
 go_wp2_with fail
 refine (next_c _ bb (p) (q1::(x.toks false++l)) (HB0.out.on ((Kp.refl (On (w.heap.size+1000000)) w).alloc _) (by omega))).mono ?_
 rintro e w1 ⟨rfl,hB1,hK1⟩
 have sz1:w.heap.size≤w1.heap.size:=by have:=hK1.size;(try simp at this);omega
 have KT1:Kp (fun k=>k=bb∨k=(w.heap.size+1000000)) w w1:=((Kp.refl (fun k=>k=bb∨k=(w.heap.size+1000000)) w).alloc _).trans hK1 (by intro i hi h;first | exact (h:False).elim | omega)
 obtain ⟨xb1,x0,x1,x2,xs⟩:=box3 (newOf w _) hK1 (by exact On.not (by omega))
 have HX1:=hd_ xb1;clear xb1
 have k1:Kp (On bb) w w1:=KT1.mono (by intro i hi h;omega)
 have HK1:=hd_ k1;clear k1 KT1
 have HB1:=hd_ hB1;clear hB1 HB0
 have szw1:w.heap.size≤w1.heap.size:=by omega
 clear hK1
 go_wp2_with fail
 refine (next_c _ bb (q1) (x.toks false++l) (HB1.out.on ((Kp.refl (On w1.heap.size) w1).alloc _) (by omega))).mono ?_
 rintro e w2 ⟨rfl,hB2,hK2⟩
 have sz2:w1.heap.size≤w2.heap.size:=by have:=hK2.size;(try simp at this);omega
 have KT2:Kp (fun k=>k=bb∨k=w1.heap.size) w1 w2:=((Kp.refl (fun k=>k=bb∨k=w1.heap.size) w1).alloc _).trans hK2 (by intro i hi h;first | exact (h:False).elim | omega)
 obtain ⟨xb2,x0,x1,x2,xs⟩:=box3 HX1.out KT2 (by omega)
 clear HX1
 have HX2:=hd_ xb2;clear xb2
 have xk2:w2.heap[w1.heap.size]?=some (.cells #[.int .i64 p,.int .i64 0,.int .i64 3,.nilIface] 151 (0,0)):=hK2.at (newOf w1 _) (by exact On.not (by omega))
 have z0:=cO xk2 0 _ rfl;have f0:=fO xk2 0
 have z1:=cO xk2 1 _ rfl;have f1:=fO xk2 1
 have z2:=cO xk2 2 _ rfl;have f2:=fO xk2 2
 have z3:=cO xk2 3 _ rfl;have f3:=fO xk2 3
 have zs2:=ltb xk2
 have HP2:=hd_ xk2;clear xk2
 have k2:Kp (On bb) w w2:=HK1.out.trans KT2 (by intro i hi h;omega)
 clear HK1
 have HK2:=hd_ k2;clear k2 KT2
 have HB2:=hd_ hB2;clear hB2 HB1
 have szw2:w.heap.size≤w2.heap.size:=by omega
 clear hK2
 go_wp2_with fail
 refine (kid_c _ B _ _ _ _ 0 (x.nd) (HL.out.below (HK2.out.trans (((Kp.refl (On w1.heap.size) w2).setCell (p:=⟨w1.heap.size,1,none⟩) (fun _=>rfl) _).setCell (p:=⟨w1.heap.size,2,none⟩) (fun _=>rfl) _) (by intro i hi h;omega)) (by omega) (fun b hb=>On.not' (by omega))) (by decide) rfl).mono ?_
 rintro e w3 ⟨⟨u3,rfl,hu3⟩,hK3⟩
 have sz3:w2.heap.size≤w3.heap.size:=by have:=hK3.size;(try simp at this);omega
 have KT3:Kp (fun k=>k=bb∨k=w1.heap.size) w2 w3:=(((Kp.refl (fun k=>k=bb∨k=w1.heap.size) w2).setCell (p:=⟨w1.heap.size,1,none⟩) (fun _=>.inr rfl) _).setCell (p:=⟨w1.heap.size,2,none⟩) (fun _=>.inr rfl) _).trans hK3 (by intro i hi h;first | exact (h:False).elim | omega)
 have hB3:=(HB2.out.on (((Kp.refl (On w1.heap.size) w2).setCell (p:=⟨w1.heap.size,1,none⟩) (fun _=>rfl) _).setCell (p:=⟨w1.heap.size,2,none⟩) (fun _=>rfl) _) (by omega)).no hK3
 obtain ⟨xb3,x0,x1,x2,xs⟩:=box3 HX2.out KT3 (by omega)
 clear HX2
 have HX3:=hd_ xb3;clear xb3
 clear z0 f0 z1 f1 z2 f2 z3 f3
 have xk3:w3.heap[w1.heap.size]?=some (.cells #[.int .i64 p,.int .i64 q1,.int .i64 1,.nilIface] 151 (0,0)):=hK3.at (setOf (setOf HP2.out 1 _) 2 _) (by exact id)
 have z0:=cO xk3 0 _ rfl;have f0:=fO xk3 0
 have z1:=cO xk3 1 _ rfl;have f1:=fO xk3 1
 have z2:=cO xk3 2 _ rfl;have f2:=fO xk3 2
 have z3:=cO xk3 3 _ rfl;have f3:=fO xk3 3
 have zs3:=ltb xk3
 have HP3:=hd_ xk3;clear xk3 HP2
 have k3:Kp (On bb) w w3:=HK2.out.trans KT3 (by intro i hi h;omega)
 clear HK2
 have HK3:=hd_ k3;clear k3 KT3
 have HB3:=hd_ hB3;clear hB3 HB2
 have szw3:w.heap.size≤w3.heap.size:=by omega
 have HU3:=hd_ (hu3.below hK3 (by (try simp);omega) (fun _ _ h=>h.elim));clear hu3 hK3
 go_wp2_with fail
 refine (HX.out _ B bb _ (l) (HB3.out.on (Kp.refl (On w1.heap.size) w3) (by omega)) HU3.out hBb HO.out.2.2.2 (by have:=HS.out;omega)).mono ?_
 rintro e w4 ⟨⟨v,rfl,hv4⟩,hB4,hK4⟩
 have sz4:w3.heap.size≤w4.heap.size:=by have:=hK4.size;(try simp at this);omega
 have KT4:Kp (fun k=>k=bb∨k=w1.heap.size) w3 w4:=(Kp.refl (fun k=>k=bb∨k=w1.heap.size) w3).trans hK4 (by intro i hi h;first | exact (h:False).elim | omega)
 obtain ⟨xb4,x0,x1,x2,xs⟩:=box3 HX3.out KT4 (by omega)
 clear HX3
 have HX4:=hd_ xb4;clear xb4
 clear z0 f0 z1 f1 z2 f2 z3 f3
 have xk4:w4.heap[w1.heap.size]?=some (.cells #[.int .i64 p,.int .i64 q1,.int .i64 1,.nilIface] 151 (0,0)):=hK4.at HP3.out (by exact On.not (by omega))
 have z0:=cO xk4 0 _ rfl;have f0:=fO xk4 0
 have z1:=cO xk4 1 _ rfl;have f1:=fO xk4 1
 have z2:=cO xk4 2 _ rfl;have f2:=fO xk4 2
 have z3:=cO xk4 3 _ rfl;have f3:=fO xk4 3
 have zs4:=ltb xk4
 have HP4:=hd_ xk4;clear xk4 HP3
 have hw4:Ty.At w4 (Av (w3.heap.size) (w1.heap.size)) x v:=hv4.on (Kp.refl No _) (by intro b hb hF;(try simp at hF);exact ⟨id,by omega⟩)
 clear hv4
 have HV4:=hd_ hw4;clear hw4
 have k4:Kp (On bb) w w4:=HK3.out.trans KT4 (by intro i hi h;omega)
 clear HK3
 have HK4:=hd_ k4;clear k4 KT4
 have HB4:=hd_ hB4;clear hB4 HB3
 have szw4:w.heap.size≤w4.heap.size:=by omega
 clear hK4 HU3
 go_wp2_with fail
 go_ret
 refine ⟨⟨_,rfl,?_⟩,(HB4.out.on ((Kp.refl (On w1.heap.size) w4).setCell (p:=⟨w1.heap.size,3,none⟩) (fun _=>rfl) _) (by omega)),(HK4.out.trans ((Kp.refl (On w1.heap.size) w4).setCell (p:=⟨w1.heap.size,3,none⟩) (fun _=>rfl) _) (by intro i hi h;omega))⟩
 simp only [Ty.At]
 exact ⟨q1,v,⟨_,rfl,by omega,(setOf HP4.out 3 _)⟩,HV4.out.on ((Kp.refl (On w1.heap.size) w4).setCell (p:=⟨w1.heap.size,3,none⟩) (fun _=>rfl) _) (by intro b hb hF;omega)⟩
theorem chr_c (p q1:Int) (x:Ty) (hx:ExprP x):ExprP (.chr p q1 x):=by
 intro w B bb s l hB hn hBb hok hsz
 simp [Ty.toks] at hB
 simp only [Ty.ok] at hok
 simp only [Ty.nd,Nd.size,Nd.sizeL] at hsz
 have hlt:=hB.lt
 have HB0:=hd_ hB
 obtain ⟨q,c0,rfl,_⟩:=hn.form
 have HL:=hd_ (Nd.In_iff.1 hn)
 have HO:=hd_ hok
 have HS:=hd_ hsz
 simp [Ty.nd,Nd.k,Nd.t,Nd.l,lc_] at HL ⊢
 have HX:=hd_ hx
 clear hn hB hok hsz hx
 go_enter Tryz.func63,Tryz.ntmps63
 go_wp2_with fail
 refine (next_c _ bb (p) (q1::(x.toks false++l)) (HB0.out.on ((Kp.refl (On (w.heap.size+1000000)) w).alloc _) (by omega))).mono ?_
 rintro e w1 ⟨rfl,hB1,hK1⟩
 have sz1:w.heap.size≤w1.heap.size:=by have:=hK1.size;(try simp at this);omega
 have KT1:Kp (fun k=>k=bb∨k=(w.heap.size+1000000)) w w1:=((Kp.refl (fun k=>k=bb∨k=(w.heap.size+1000000)) w).alloc _).trans hK1 (by intro i hi h;first | exact (h:False).elim | omega)
 obtain ⟨xb1,x0,x1,x2,xs⟩:=box3 (newOf w _) hK1 (by exact On.not (by omega))
 have HX1:=hd_ xb1;clear xb1
 have k1:Kp (On bb) w w1:=KT1.mono (by intro i hi h;omega)
 have HK1:=hd_ k1;clear k1 KT1
 have HB1:=hd_ hB1;clear hB1 HB0
 have szw1:w.heap.size≤w1.heap.size:=by omega
 clear hK1
 go_wp2_with fail
 refine (next_c _ bb (q1) (x.toks false++l) (HB1.out.on ((Kp.refl (On w1.heap.size) w1).alloc _) (by omega))).mono ?_
 rintro e w2 ⟨rfl,hB2,hK2⟩
 have sz2:w1.heap.size≤w2.heap.size:=by have:=hK2.size;(try simp at this);omega
 have KT2:Kp (fun k=>k=bb∨k=w1.heap.size) w1 w2:=((Kp.refl (fun k=>k=bb∨k=w1.heap.size) w1).alloc _).trans hK2 (by intro i hi h;first | exact (h:False).elim | omega)
 obtain ⟨xb2,x0,x1,x2,xs⟩:=box3 HX1.out KT2 (by omega)
 clear HX1
 have HX2:=hd_ xb2;clear xb2
 have xk2:w2.heap[w1.heap.size]?=some (.cells #[.int .i64 p,.int .i64 p,.int .i64 3,.nilIface] 151 (0,0)):=hK2.at (newOf w1 _) (by exact On.not (by omega))
 have z0:=cO xk2 0 _ rfl;have f0:=fO xk2 0
 have z1:=cO xk2 1 _ rfl;have f1:=fO xk2 1
 have z2:=cO xk2 2 _ rfl;have f2:=fO xk2 2
 have z3:=cO xk2 3 _ rfl;have f3:=fO xk2 3
 have zs2:=ltb xk2
 have HP2:=hd_ xk2;clear xk2
 have k2:Kp (On bb) w w2:=HK1.out.trans KT2 (by intro i hi h;omega)
 clear HK1
 have HK2:=hd_ k2;clear k2 KT2
 have HB2:=hd_ hB2;clear hB2 HB1
 have szw2:w.heap.size≤w2.heap.size:=by omega
 clear hK2
 go_wp2_with fail
 refine (kid_c _ B _ _ _ _ 0 (x.nd) (HL.out.below (HK2.out.trans ((Kp.refl (On w1.heap.size) w2).setCell (p:=⟨w1.heap.size,2,none⟩) (fun _=>rfl) _) (by intro i hi h;omega)) (by omega) (fun b hb=>On.not' (by omega))) (by decide) rfl).mono ?_
 rintro e w3 ⟨⟨u3,rfl,hu3⟩,hK3⟩
 have sz3:w2.heap.size≤w3.heap.size:=by have:=hK3.size;(try simp at this);omega
 have KT3:Kp (fun k=>k=bb∨k=w1.heap.size) w2 w3:=((Kp.refl (fun k=>k=bb∨k=w1.heap.size) w2).setCell (p:=⟨w1.heap.size,2,none⟩) (fun _=>.inr rfl) _).trans hK3 (by intro i hi h;first | exact (h:False).elim | omega)
 have hB3:=(HB2.out.on ((Kp.refl (On w1.heap.size) w2).setCell (p:=⟨w1.heap.size,2,none⟩) (fun _=>rfl) _) (by omega)).no hK3
 obtain ⟨xb3,x0,x1,x2,xs⟩:=box3 HX2.out KT3 (by omega)
 clear HX2
 have HX3:=hd_ xb3;clear xb3
 clear z0 f0 z1 f1 z2 f2 z3 f3
 have xk3:w3.heap[w1.heap.size]?=some (.cells #[.int .i64 p,.int .i64 p,.int .i64 2,.nilIface] 151 (0,0)):=hK3.at (setOf HP2.out 2 _) (by exact id)
 have z0:=cO xk3 0 _ rfl;have f0:=fO xk3 0
 have z1:=cO xk3 1 _ rfl;have f1:=fO xk3 1
 have z2:=cO xk3 2 _ rfl;have f2:=fO xk3 2
 have z3:=cO xk3 3 _ rfl;have f3:=fO xk3 3
 have zs3:=ltb xk3
 have HP3:=hd_ xk3;clear xk3 HP2
 have k3:Kp (On bb) w w3:=HK2.out.trans KT3 (by intro i hi h;omega)
 clear HK2
 have HK3:=hd_ k3;clear k3 KT3
 have HB3:=hd_ hB3;clear hB3 HB2
 have szw3:w.heap.size≤w3.heap.size:=by omega
 have HU3:=hd_ (hu3.below hK3 (by (try simp);omega) (fun _ _ h=>h.elim));clear hu3 hK3
 go_wp2_with fail
 refine (HX.out _ B bb _ (l) (HB3.out.on (Kp.refl (On w1.heap.size) w3) (by omega)) HU3.out hBb HO.out.2.2.2 (by have:=HS.out;omega)).mono ?_
 rintro e w4 ⟨⟨v,rfl,hv4⟩,hB4,hK4⟩
 have sz4:w3.heap.size≤w4.heap.size:=by have:=hK4.size;(try simp at this);omega
 have KT4:Kp (fun k=>k=bb∨k=w1.heap.size) w3 w4:=(Kp.refl (fun k=>k=bb∨k=w1.heap.size) w3).trans hK4 (by intro i hi h;first | exact (h:False).elim | omega)
 obtain ⟨xb4,x0,x1,x2,xs⟩:=box3 HX3.out KT4 (by omega)
 clear HX3
 have HX4:=hd_ xb4;clear xb4
 clear z0 f0 z1 f1 z2 f2 z3 f3
 have xk4:w4.heap[w1.heap.size]?=some (.cells #[.int .i64 p,.int .i64 p,.int .i64 2,.nilIface] 151 (0,0)):=hK4.at HP3.out (by exact On.not (by omega))
 have z0:=cO xk4 0 _ rfl;have f0:=fO xk4 0
 have z1:=cO xk4 1 _ rfl;have f1:=fO xk4 1
 have z2:=cO xk4 2 _ rfl;have f2:=fO xk4 2
 have z3:=cO xk4 3 _ rfl;have f3:=fO xk4 3
 have zs4:=ltb xk4
 have HP4:=hd_ xk4;clear xk4 HP3
 have hw4:Ty.At w4 (Av (w3.heap.size) (w1.heap.size)) x v:=hv4.on (Kp.refl No _) (by intro b hb hF;(try simp at hF);exact ⟨id,by omega⟩)
 clear hv4
 have HV4:=hd_ hw4;clear hw4
 have k4:Kp (On bb) w w4:=HK3.out.trans KT4 (by intro i hi h;omega)
 clear HK3
 have HK4:=hd_ k4;clear k4 KT4
 have HB4:=hd_ hB4;clear hB4 HB3
 have szw4:w.heap.size≤w4.heap.size:=by omega
 clear hK4 HU3
 go_wp2_with fail
 go_ret
 refine ⟨⟨_,rfl,?_⟩,(HB4.out.on ((Kp.refl (On w1.heap.size) w4).setCell (p:=⟨w1.heap.size,3,none⟩) (fun _=>rfl) _) (by omega)),(HK4.out.trans ((Kp.refl (On w1.heap.size) w4).setCell (p:=⟨w1.heap.size,3,none⟩) (fun _=>rfl) _) (by intro i hi h;omega))⟩
 simp only [Ty.At]
 exact ⟨p,v,⟨_,rfl,by omega,(setOf HP4.out 3 _)⟩,HV4.out.on ((Kp.refl (On w1.heap.size) w4).setCell (p:=⟨w1.heap.size,3,none⟩) (fun _=>rfl) _) (by intro b hb hF;omega)⟩
theorem struct_c (p o:Int) (f:Fs) (c:Int) (hf:FieldsInP f):ExprP (.struct p o f c):=by
 intro w B bb s l hB hn hBb hok hsz
 simp [Ty.toks] at hB
 simp only [Ty.ok] at hok
 simp only [Ty.nd,fl,Nd.size,Nd.sizeL] at hsz
 have hlt:=hB.lt
 have HB0:=hd_ hB
 obtain ⟨q,c0,rfl,_⟩:=hn.form
 have HL:=hd_ (Nd.In_iff.1 hn)
 have HO:=hd_ hok
 have HS:=hd_ hsz
 simp [Ty.nd,Nd.k,Nd.t,Nd.l,fl] at HL ⊢
 have HF:=hd_ hf
 clear hn hB hok hsz hf
 go_enter Tryz.func63,Tryz.ntmps63
 go_wp2_with fail
 refine (next_c _ bb (p) (o::(f.toks false true false++c::l)) (HB0.out.on ((Kp.refl (On (w.heap.size+1000000)) w).alloc _) (by omega))).mono ?_
 rintro e w1 ⟨rfl,hB1,hK1⟩
 have sz1:w.heap.size≤w1.heap.size:=by have:=hK1.size;(try simp at this);omega
 have KT1:Kp (fun k=>k=bb∨k=(w.heap.size+1000000)) w w1:=((Kp.refl (fun k=>k=bb∨k=(w.heap.size+1000000)) w).alloc _).trans hK1 (by intro i hi h;first | exact (h:False).elim | omega)
 obtain ⟨xb1,x0,x1,x2,xs⟩:=box3 (newOf w _) hK1 (by exact On.not (by omega))
 have HX1:=hd_ xb1;clear xb1
 have k1:Kp (On bb) w w1:=KT1.mono (by intro i hi h;omega)
 have HK1:=hd_ k1;clear k1 KT1
 have HB1:=hd_ hB1;clear hB1 HB0
 have szw1:w.heap.size≤w1.heap.size:=by omega
 clear hK1
 go_wp2_with fail
 refine (kid_c _ B _ _ _ _ 0 (fl f.nds) (HL.out.below (HK1.out.trans ((Kp.refl (On w1.heap.size) w1).alloc _) (by intro i hi h;omega)) (by omega) (fun b hb=>On.not' (by omega))) (by decide) rfl).mono ?_
 rintro e w2 ⟨⟨u2,rfl,hu2⟩,hK2⟩
 have sz2:w1.heap.size≤w2.heap.size:=by have:=hK2.size;(try simp at this);omega
 have KT2:Kp (fun k=>k=bb∨k=w1.heap.size) w1 w2:=((Kp.refl (fun k=>k=bb∨k=w1.heap.size) w1).alloc _).trans hK2 (by intro i hi h;first | exact (h:False).elim | omega)
 have hB2:=(HB1.out.on ((Kp.refl (On w1.heap.size) w1).alloc _) (by omega)).no hK2
 obtain ⟨xb2,x0,x1,x2,xs⟩:=box3 HX1.out KT2 (by omega)
 clear HX1
 have HX2:=hd_ xb2;clear xb2
 have xk2:w2.heap[w1.heap.size]?=some (.cells #[.int .i64 p,.pointer none,.bool false] 154 (0,0)):=hK2.at (newOf w1 _) (by exact id)
 have z0:=cO xk2 0 _ rfl;have f0:=fO xk2 0
 have z1:=cO xk2 1 _ rfl;have f1:=fO xk2 1
 have z2:=cO xk2 2 _ rfl;have f2:=fO xk2 2
 have zs2:=ltb xk2
 have HP2:=hd_ xk2;clear xk2
 have k2:Kp (On bb) w w2:=HK1.out.trans KT2 (by intro i hi h;omega)
 clear HK1
 have HK2:=hd_ k2;clear k2 KT2
 have HB2:=hd_ hB2;clear hB2 HB1
 have szw2:w.heap.size≤w2.heap.size:=by omega
 have HU2:=hd_ (hu2.below hK2 (by (try simp);omega) (fun _ _ h=>h.elim));clear hu2 hK2
 go_wp2_with fail
 refine (HF.out _ B bb _ false o c l (HB2.out.on (Kp.refl (On w1.heap.size) w2) (by omega)) (Nd.In_iff.1 HU2.out) hBb HO.out.2.2.2.1 (by have:=HS.out;omega)).mono ?_
 rintro e w3 ⟨⟨v,rfl,hv3⟩,hB3,hK3⟩
 have sz3:w2.heap.size≤w3.heap.size:=by have:=hK3.size;(try simp at this);omega
 have KT3:Kp (fun k=>k=bb∨k=w1.heap.size) w2 w3:=(Kp.refl (fun k=>k=bb∨k=w1.heap.size) w2).trans hK3 (by intro i hi h;first | exact (h:False).elim | omega)
 obtain ⟨xb3,x0,x1,x2,xs⟩:=box3 HX2.out KT3 (by omega)
 clear HX2
 have HX3:=hd_ xb3;clear xb3
 clear z0 f0 z1 f1 z2 f2
 have xk3:w3.heap[w1.heap.size]?=some (.cells #[.int .i64 p,.pointer none,.bool false] 154 (0,0)):=hK3.at HP2.out (by exact On.not (by omega))
 have z0:=cO xk3 0 _ rfl;have f0:=fO xk3 0
 have z1:=cO xk3 1 _ rfl;have f1:=fO xk3 1
 have z2:=cO xk3 2 _ rfl;have f2:=fO xk3 2
 have zs3:=ltb xk3
 have HP3:=hd_ xk3;clear xk3 HP2
 have hw3:FlAt w3 (Av (w2.heap.size) (w1.heap.size)) o f c v:=hv3.on (Kp.refl No _) (by intro b hb hF;(try simp at hF);exact ⟨id,by omega⟩)
 clear hv3
 obtain ⟨vb,rfl⟩:=hw3.ptr
 have HV3:=hd_ hw3;clear hw3
 have k3:Kp (On bb) w w3:=HK2.out.trans KT3 (by intro i hi h;omega)
 clear HK2
 have HK3:=hd_ k3;clear k3 KT3
 have HB3:=hd_ hB3;clear hB3 HB2
 have szw3:w.heap.size≤w3.heap.size:=by omega
 clear hK3 HU2
 go_wp2_with fail
 go_ret
 refine ⟨⟨_,rfl,?_⟩,(HB3.out.on ((Kp.refl (On w1.heap.size) w3).setCell (p:=⟨w1.heap.size,1,none⟩) (fun _=>rfl) _) (by omega)),(HK3.out.trans ((Kp.refl (On w1.heap.size) w3).setCell (p:=⟨w1.heap.size,1,none⟩) (fun _=>rfl) _) (by intro i hi h;omega))⟩
 simp only [Ty.At]
 exact ⟨_,⟨_,rfl,by omega,(setOf HP3.out 1 _)⟩,HV3.out.on ((Kp.refl (On w1.heap.size) w3).setCell (p:=⟨w1.heap.size,1,none⟩) (fun _=>rfl) _) (by intro b hb hF;omega)⟩
theorem iface_c (p o:Int) (f:Fs) (c:Int) (hf:FieldsInP f):ExprP (.iface p o f c):=by
 intro w B bb s l hB hn hBb hok hsz
 simp [Ty.toks] at hB
 simp only [Ty.ok] at hok
 simp only [Ty.nd,fl,Nd.size,Nd.sizeL] at hsz
 have hlt:=hB.lt
 have HB0:=hd_ hB
 obtain ⟨q,c0,rfl,_⟩:=hn.form
 have HL:=hd_ (Nd.In_iff.1 hn)
 have HO:=hd_ hok
 have HS:=hd_ hsz
 simp [Ty.nd,Nd.k,Nd.t,Nd.l,fl] at HL ⊢
 have HF:=hd_ hf
 clear hn hB hok hsz hf
 go_enter Tryz.func63,Tryz.ntmps63
 go_wp2_with fail
 refine (next_c _ bb (p) (o::(f.toks false true true++c::l)) (HB0.out.on ((Kp.refl (On (w.heap.size+1000000)) w).alloc _) (by omega))).mono ?_
 rintro e w1 ⟨rfl,hB1,hK1⟩
 have sz1:w.heap.size≤w1.heap.size:=by have:=hK1.size;(try simp at this);omega
 have KT1:Kp (fun k=>k=bb∨k=(w.heap.size+1000000)) w w1:=((Kp.refl (fun k=>k=bb∨k=(w.heap.size+1000000)) w).alloc _).trans hK1 (by intro i hi h;first | exact (h:False).elim | omega)
 obtain ⟨xb1,x0,x1,x2,xs⟩:=box3 (newOf w _) hK1 (by exact On.not (by omega))
 have HX1:=hd_ xb1;clear xb1
 have k1:Kp (On bb) w w1:=KT1.mono (by intro i hi h;omega)
 have HK1:=hd_ k1;clear k1 KT1
 have HB1:=hd_ hB1;clear hB1 HB0
 have szw1:w.heap.size≤w1.heap.size:=by omega
 clear hK1
 go_wp2_with fail
 refine (kid_c _ B _ _ _ _ 0 (fl f.nds) (HL.out.below (HK1.out.trans ((Kp.refl (On w1.heap.size) w1).alloc _) (by intro i hi h;omega)) (by omega) (fun b hb=>On.not' (by omega))) (by decide) rfl).mono ?_
 rintro e w2 ⟨⟨u2,rfl,hu2⟩,hK2⟩
 have sz2:w1.heap.size≤w2.heap.size:=by have:=hK2.size;(try simp at this);omega
 have KT2:Kp (fun k=>k=bb∨k=w1.heap.size) w1 w2:=((Kp.refl (fun k=>k=bb∨k=w1.heap.size) w1).alloc _).trans hK2 (by intro i hi h;first | exact (h:False).elim | omega)
 have hB2:=(HB1.out.on ((Kp.refl (On w1.heap.size) w1).alloc _) (by omega)).no hK2
 obtain ⟨xb2,x0,x1,x2,xs⟩:=box3 HX1.out KT2 (by omega)
 clear HX1
 have HX2:=hd_ xb2;clear xb2
 have xk2:w2.heap[w1.heap.size]?=some (.cells #[.int .i64 p,.pointer none,.bool false] 157 (0,0)):=hK2.at (newOf w1 _) (by exact id)
 have z0:=cO xk2 0 _ rfl;have f0:=fO xk2 0
 have z1:=cO xk2 1 _ rfl;have f1:=fO xk2 1
 have z2:=cO xk2 2 _ rfl;have f2:=fO xk2 2
 have zs2:=ltb xk2
 have HP2:=hd_ xk2;clear xk2
 have k2:Kp (On bb) w w2:=HK1.out.trans KT2 (by intro i hi h;omega)
 clear HK1
 have HK2:=hd_ k2;clear k2 KT2
 have HB2:=hd_ hB2;clear hB2 HB1
 have szw2:w.heap.size≤w2.heap.size:=by omega
 have HU2:=hd_ (hu2.below hK2 (by (try simp);omega) (fun _ _ h=>h.elim));clear hu2 hK2
 go_wp2_with fail
 refine (HF.out _ B bb _ true o c l (HB2.out.on (Kp.refl (On w1.heap.size) w2) (by omega)) (Nd.In_iff.1 HU2.out) hBb HO.out.2.2.2.1 (by have:=HS.out;omega)).mono ?_
 rintro e w3 ⟨⟨v,rfl,hv3⟩,hB3,hK3⟩
 have sz3:w2.heap.size≤w3.heap.size:=by have:=hK3.size;(try simp at this);omega
 have KT3:Kp (fun k=>k=bb∨k=w1.heap.size) w2 w3:=(Kp.refl (fun k=>k=bb∨k=w1.heap.size) w2).trans hK3 (by intro i hi h;first | exact (h:False).elim | omega)
 obtain ⟨xb3,x0,x1,x2,xs⟩:=box3 HX2.out KT3 (by omega)
 clear HX2
 have HX3:=hd_ xb3;clear xb3
 clear z0 f0 z1 f1 z2 f2
 have xk3:w3.heap[w1.heap.size]?=some (.cells #[.int .i64 p,.pointer none,.bool false] 157 (0,0)):=hK3.at HP2.out (by exact On.not (by omega))
 have z0:=cO xk3 0 _ rfl;have f0:=fO xk3 0
 have z1:=cO xk3 1 _ rfl;have f1:=fO xk3 1
 have z2:=cO xk3 2 _ rfl;have f2:=fO xk3 2
 have zs3:=ltb xk3
 have HP3:=hd_ xk3;clear xk3 HP2
 have hw3:FlAt w3 (Av (w2.heap.size) (w1.heap.size)) o f c v:=hv3.on (Kp.refl No _) (by intro b hb hF;(try simp at hF);exact ⟨id,by omega⟩)
 clear hv3
 obtain ⟨vb,rfl⟩:=hw3.ptr
 have HV3:=hd_ hw3;clear hw3
 have k3:Kp (On bb) w w3:=HK2.out.trans KT3 (by intro i hi h;omega)
 clear HK2
 have HK3:=hd_ k3;clear k3 KT3
 have HB3:=hd_ hB3;clear hB3 HB2
 have szw3:w.heap.size≤w3.heap.size:=by omega
 clear hK3 HU2
 go_wp2_with fail
 go_ret
 refine ⟨⟨_,rfl,?_⟩,(HB3.out.on ((Kp.refl (On w1.heap.size) w3).setCell (p:=⟨w1.heap.size,1,none⟩) (fun _=>rfl) _) (by omega)),(HK3.out.trans ((Kp.refl (On w1.heap.size) w3).setCell (p:=⟨w1.heap.size,1,none⟩) (fun _=>rfl) _) (by intro i hi h;omega))⟩
 simp only [Ty.At]
 exact ⟨_,⟨_,rfl,by omega,(setOf HP3.out 1 _)⟩,HV3.out.on ((Kp.refl (On w1.heap.size) w3).setCell (p:=⟨w1.heap.size,1,none⟩) (fun _=>rfl) _) (by intro b hb hF;omega)⟩
theorem sigty_c (p o:Int) (ps:Fs) (c:Int) (b:Bool) (o':Int) (rs:Fs) (c':Int) (hg:SigP (.sig p o ps c b o' rs c')):ExprP ((.sig p o ps c b o' rs c')):=by
 intro w B bb s l hB hn hBb hok hsz
 have hB:Bld w bb (p::((Ty.sig p o ps c b o' rs c').toks true++l)):=by simpa [Ty.toks] using hB
 simp only [Ty.ok] at hok
 simp only [Ty.nd,Nd.size,Nd.sizeL] at hsz
 have hlt:=hB.lt
 have HB0:=hd_ hB
 obtain ⟨q,c0,rfl,_⟩:=hn.form
 have HL:=hd_ (Nd.In_iff.1 hn)
 have HO:=hd_ hok
 have HS:=hd_ hsz
 simp [Ty.nd,Nd.k,Nd.t,Nd.l,lc_] at HL ⊢
 have HG:=hd_ hg
 clear hn hB hok hsz hg
 go_enter Tryz.func63,Tryz.ntmps63
 go_wp2_with fail
 refine (next_c _ bb (p) ((Ty.sig p o ps c b o' rs c').toks true++l) (HB0.out.on ((Kp.refl (On (w.heap.size+1000000)) w).alloc _) (by omega))).mono ?_
 rintro e w1 ⟨rfl,hB1,hK1⟩
 have sz1:w.heap.size≤w1.heap.size:=by have:=hK1.size;(try simp at this);omega
 have KT1:Kp (fun k=>k=bb∨k=(w.heap.size+1000000)) w w1:=((Kp.refl (fun k=>k=bb∨k=(w.heap.size+1000000)) w).alloc _).trans hK1 (by intro i hi h;first | exact (h:False).elim | omega)
 obtain ⟨xb1,x0,x1,x2,xs⟩:=box3 (newOf w _) hK1 (by exact On.not (by omega))
 have HX1:=hd_ xb1;clear xb1
 have k1:Kp (On bb) w w1:=KT1.mono (by intro i hi h;omega)
 have HK1:=hd_ k1;clear k1 KT1
 have HB1:=hd_ hB1;clear hB1 HB0
 have szw1:w.heap.size≤w1.heap.size:=by omega
 clear hK1
 go_wp2_with fail
 refine (HG.out _ B bb _ p o ps c b o' rs c' l rfl (HB1.out.on (Kp.refl (On (w.heap.size+1000000)) w1) (by omega)) (Nd.In_iff.2 (HL.out.below HK1.out (by omega) (fun b hb=>On.not' (by omega)))) hBb ⟨rfl,HO.out.2⟩ HS.out).mono ?_
 rintro e w2 ⟨⟨v,rfl,hv2⟩,hB2,hK2⟩
 have sz2:w1.heap.size≤w2.heap.size:=by have:=hK2.size;(try simp at this);omega
 have KT2:Kp (fun k=>k=bb∨k=(w.heap.size+1000000)) w1 w2:=(Kp.refl (fun k=>k=bb∨k=(w.heap.size+1000000)) w1).trans hK2 (by intro i hi h;first | exact (h:False).elim | omega)
 obtain ⟨xb2,x0,x1,x2,xs⟩:=box3 HX1.out KT2 (by omega)
 clear HX1
 have HX2:=hd_ xb2;clear xb2
 have hw2:Ty.At w2 (Fr (w1.heap.size)) (Ty.sig p o ps c b o' rs c') v:=hv2.on (Kp.refl No _) (by intro b hb hF;(try simp at hF);exact ⟨id,by omega⟩)
 clear hv2
 have HV2:=hd_ hw2;clear hw2
 have k2:Kp (On bb) w w2:=HK1.out.trans KT2 (by intro i hi h;omega)
 clear HK1
 have HK2:=hd_ k2;clear k2 KT2
 have HB2:=hd_ hB2;clear hB2 HB1
 have szw2:w.heap.size≤w2.heap.size:=by omega
 clear hK2
 go_wp2_with fail
 go_ret
 refine ⟨⟨_,rfl,?_⟩,(HB2.out.on (Kp.refl (On (w.heap.size+1000000)) w2) (by omega)),(HK2.out.trans (Kp.refl (On (w.heap.size+1000000)) w2) (by intro i hi h;omega))⟩
 simp only [Ty.At]
 exact HV2.out.on (Kp.refl No _) (by intro b hb hF;exact ⟨id,by omega⟩)
end
end Go.Proofs.YtnkbglhdpmbgfaaGreatFmt
