/- A part of the proof; no condition: PlE, PlF. -/
import Derived.Test.YtnkbglhdpmbgfaaGreatFmtM
import Derived.Test.YtnkbglhdpmbgfaaGreatFmtM05
set_option linter.all false
set_option maxHeartbeats 16000000
set_option maxRecDepth 100000
namespace Go.Proofs.YtnkbglhdpmbgfaaGreatFmt
section
open Go Go.RowKit
theorem tok1_c (w:World) (base pb b c:Nat) (g at_:List Int) (e:Int) (out:List Pl) (s:ByteArray) (h:PSt w base pb g at_ e out) (hb:w.heap[b]?=some (.cells #[.string s] 9 (0,0))) (hc:c=1)
 (hs:s.size≤1048576) (he:0≤e) (he2:e≤1125899906842624) (ha:at_.length+1≤1048576) :
 Calls Tryz.prog 27 #[.pointer (some ⟨pb,0,none⟩),.slice (some ⟨b,0,none⟩) 1 c] w fun e' w'=>(∃ v,e'=.returned v)∧∃ q,q=e+gapOf g at_.length∧PSt w' base pb g (at_++[q]) (q+s.size) out∧Kq base w w':=by
 subst hc
 refine (tokens_c w base pb g at_ e out [s] _ h (.inr ⟨b,1,#[.string s],rfl,trivial,hb,by simp,by decide,rfl,rfl⟩) (by simpa using hs) (by simp) he he2 (by simpa using ha)).mono ?_
 rintro e' w' ⟨hv,hp,hq⟩
 exact ⟨hv,_,rfl,hp,hq⟩
theorem tok2_c (w:World) (base pb b c:Nat) (g at_:List Int) (e:Int) (out:List Pl) (s s2:ByteArray) (h:PSt w base pb g at_ e out) (hb:w.heap[b]?=some (.cells #[.string s,.string s2] 9 (0,0))) (hc:c=2)
 (hs:s.size≤1048576) (hs2:s2.size≤1048576) (he:0≤e) (he2:e≤1125899906842624) (ha:at_.length+2≤1048576) :
 Calls Tryz.prog 27 #[.pointer (some ⟨pb,0,none⟩),.slice (some ⟨b,0,none⟩) 2 c] w fun e' w'=>(∃ v,e'=.returned v)∧∃ q r,q=e+gapOf g at_.length∧q+s.size≤r∧r≤q+s.size+1000∧PSt w' base pb g (at_++[q,r]) (r+s2.size) out∧Kq base w w':=by
 subst hc
 refine (tokens_c w base pb g at_ e out [s,s2] _ h (.inr ⟨b,2,#[.string s,.string s2],rfl,trivial,hb,by simp,by decide,rfl,rfl⟩) (by simp;exact ⟨hs,hs2⟩) (by simp) he he2 (by simpa using ha)).mono ?_
 rintro e' w' ⟨hv,hp,hq⟩
 have hg:=gapOf_le g (at_++[e+gapOf g at_.length]).length
 refine ⟨hv,e+gapOf g at_.length,e+gapOf g at_.length+s.size+gapOf g (at_++[e+gapOf g at_.length]).length,rfl,by omega,by omega,?_,hq⟩
 simpa [tkAt,aa_] using hp
theorem part_miss (w:World) (B pb:Nat) (s:Value) (h:Nd.miss.In w B s) (hB:B≤w.heap.size):Calls Tryz.prog 30 #[.pointer (some ⟨pb,0,none⟩),ndv .miss s] w fun e' w'=>(∃ v,e'=.returned v)∧Kp No w w':=by
 have HI:=hd_ h
 obtain ⟨q,c,rfl,hc⟩:=h.form
 clear h
 go_enter Tryz.func30,Tryz.ntmps30
 go_wp2_with fail
 refine (miss_c .miss _ B _ (HI.out.stay fun b hb=>Below.heap_alloc _ _ _ (by omega))).mono ?_
 rintro e w2 ⟨b2,rfl,hk2,hp⟩
 have hb2:b2=true:=hp.2 rfl
 subst hb2
 have HK:=hd_ (((Kp.refl No w).alloc _).trans' hk2)
 clear hk2 hp
 go_wp2_with fail
 exact bodyPost_end (v:=.tuple #[]) (by simp [results,Tryz.results30,go_sem]) rfl ⟨⟨_,rfl⟩,HK.out⟩
theorem ty_not_miss (t:Ty):t.nd≠.miss:=by
 intro h
 have:=congrArg Nd.k h
 rw [Ty.nd_k] at this
 cases t <;> simp [Ty.kind,Nd.miss,Nd.k] at this
theorem part_node (t:Ty) (ht:TyC t) (w:World) (B base pb:Nat) (g at_:List Int) (e:Int) (out:List Pl) (s:Value) (h:PSt w base pb g at_ e out) (hin:t.nd.In w B s) (hB:B≤base) (hb:Bnd at_ e out t.nd.size) (hs:t.nd.short) :
 Calls Tryz.prog 30 #[.pointer (some ⟨pb,0,none⟩),ndv t.nd s] w fun e' w'=>(∃ v,e'=.returned v)∧∃ t',TyG g at_ e t t'∧PSt w' base pb g (at_++t'.toks false) t'.fin (out++t'.pre)∧Kq base w w':=by
 have HI:=hd_ hin;have HP:=hd_ h;have HT:=hd_ ht;have HB:=hd_ hb;have HS:=hd_ hs
 have hbs:base≤w.heap.size:=by obtain ⟨_,_,_,_,_,_,_,_,h⟩:=h;exact h
 obtain ⟨q,c,rfl,hc⟩:=hin.form
 clear hin h ht hb hs
 go_enter Tryz.func30,Tryz.ntmps30
 go_wp2_with fail
 refine (miss_c t.nd _ B _ (HI.out.stay fun b hb=>Below.heap_alloc _ _ _ (by omega))).mono ?_
 rintro e' w2 ⟨b2,rfl,hk2,hp⟩
 have hb2:b2=false:=by
  cases b2 with
  | false=>rfl
  | true=>exact absurd (hp.1 rfl) (ty_not_miss t)
 subst hb2
 obtain ⟨x0,x1,x2⟩:=nbox hk2
 have hk3:Kp No w w2:=((Kp.refl No w).alloc _).trans' hk2
 have HK:=hd_ hk3
 clear hk2 hp hk3
 go_wp2_with fail
 refine (HT.out w2 B base pb g at_ e out _ (HP.out.on HK.out (by simp)) (HI.out.stay fun b hb=>HK.out.block b (by omega) (by simp)) hB HB.out HS.out).mono ?_
 rintro e2 w3 ⟨⟨v,rfl⟩,t',hg,hp,hq⟩
 have H3:=a3_ hg hp hq
 clear hg hp hq
 go_wp2_with fail
 exact bodyPost_end (v:=.tuple #[]) (by simp [results,Tryz.results30,go_sem]) rfl ⟨⟨_,rfl⟩,t',H3.out.1,H3.out.2.1,(Kq.of_no HK.out).trans H3.out.2.2⟩
structure FlG (g at_:List Int) (e:Int) (f:Fs) (cm m:Bool) (f':Fs) (o c:Int):Prop where
 nds:f'.nds=f.nds
 ok:f'.ok m
 pos:o=e+gapOf g at_.length
 lt:o+1≤c
 nest:Nest o (c+1) f'.pre
 fin:c+1≤e+16777216*(1+Nd.sizeL f.nds)
 tk:(f'.toks cm true m).length+2≤8*(1+Nd.sizeL f.nds)
 pl:f'.pre.length+1≤4*(1+Nd.sizeL f.nds)
def frS (cm:Bool):ByteArray:=if cm then ⟨#[40]⟩ else ⟨#[123]⟩
def cmS (cm:Bool):ByteArray:=if cm then ⟨#[44]⟩ else ⟨#[]⟩
def toS (cm:Bool):ByteArray:=if cm then ⟨#[41]⟩ else ⟨#[125]⟩
def FlC (f:Fs) (cm m:Bool):Prop:=∀ (w:World) (B base pb:Nat) (g at_:List Int) (e:Int) (out:List Pl) (s:Value),PSt w base pb g at_ e out→(fl f.nds).In w B s→B≤base→Bnd at_ e out (1+Nd.sizeL f.nds)→(fl f.nds).short →
 Calls Tryz.prog 34 #[.pointer (some ⟨pb,0,none⟩),ndv (fl f.nds) s,.string (frS cm),.string (cmS cm),.string (toS cm),.bool m] w fun e' w'=>(∃ v,e'=.returned v)∧∃ f' o c,FlG g at_ e f cm m f' o c∧PSt w' base pb g (at_++(o::(f'.toks cm true m++[c]))) (c+1) (out++⟨⟨#[102,105,101,108,100,115]⟩,o,c+1⟩::f'.pre)∧Kq base w w'
end
section
open Go Go.RowKit
theorem In_none (n:ByteArray × ByteArray) (w:World) (B:Nat):(Nd.mk n.1 n.2 []).In w B (.slice none 0 0):=by
 simp only [Nd.In]
 exact ⟨none,0,rfl,by simp,.inl (by trivial)⟩
theorem PSt.size {w:World} {base pb:Nat} {g at_:List Int} {e:Int} {out:List Pl} (h:PSt w base pb g at_ e out):base≤w.heap.size:=by
 obtain ⟨_,_,_,_,_,_,_,_,h⟩:=h;exact h
theorem cellq {w w':World} {base b o:Nat} {x y z:Value} (hk:Kq base w w') (hb:b < base) (hbs:base≤w.heap.size) (h1:w.cell? ⟨b,o,none⟩=some x) (h2:w.cell? ⟨b,o+1,none⟩=some y) (h3:w.cell? ⟨b,o+2,none⟩=some z) :
 w'.cell? ⟨b,o,none⟩=some x∧w'.cell? ⟨b,o+1,none⟩=some y∧w'.cell? ⟨b,o+2,none⟩=some z :=
 ⟨(hk.kp.cell (by omega) (by simp only [Fr];omega)).trans h1,(hk.kp.cell (by omega) (by simp only [Fr];omega)).trans h2,(hk.kp.cell (by omega) (by simp only [Fr];omega)).trans h3⟩
theorem Ty.size_pos (t:Ty):1≤t.nd.size:=Nd.size_pos _
abbrev BndE (at_:List Int) (e:Int) (out:List Pl) (n:Nat):Prop:=1≤e∧e+16777216*n≤1125899906842624∧at_.length+8*n≤1048576∧out.length+4*n≤1048576
def ExB (t:Ty):Prop:=∀ (w:World) (B base pb:Nat) (g at_:List Int) (e:Int) (out:List Pl) (s:Value),PSt w base pb g at_ e out→t.nd.In w B s→B≤base→BndE at_ e out t.nd.size→t.nd.short →
 Calls Tryz.prog 35 #[.pointer (some ⟨pb,0,none⟩),ndv t.nd s] w fun e' w'=>(∃ v,e'=.returned v)∧∃ t',TyG g at_ e t t'∧PSt w' base pb g (at_++t'.toks false) t'.fin (out++t'.pre.tail)∧Kq base w w'
theorem exl_name (w:World) (base pb:Nat) (g at_:List Int) (e:Int) (out:List Pl) (s0:ByteArray) (q:Option Addr) (c:Nat) (hp:PSt w base pb g at_ e out) (he:0≤e) (he2:e≤1125899906842624) (ha:at_.length+1≤1048576) (hs:s0.size≤1048576) :
 Calls Tryz.prog 35 #[.pointer (some ⟨pb,0,none⟩),.agg #[.string ⟨#[110,97,109,101]⟩,.string s0,.slice q 0 c]] w fun e' w'=>(∃ v,e'=.returned v)∧∃ p,p=e+gapOf g at_.length∧PSt w' base pb g (at_++[p]) (p+s0.size) out∧Kq base w w':=by
 have HP:=hd_ hp
 clear hp
 go_enter Tryz.func35,Tryz.ntmps35
 have hk0:Kp No w (w.alloc (.cells #[.string ⟨#[110,97,109,101]⟩,.string s0,.slice q 0 c] 24 (0,0))):=(Kp.refl No w).alloc _
 have hq0:Kq base w _:=Kq.of_no hk0
 have hp0:=HP.out.on hk0 (by simp)
 have hx0:=newOf w (.cells #[.string ⟨#[110,97,109,101]⟩,.string s0,.slice q 0 c] 24 (0,0))
 generalize hw0:w.alloc (.cells #[.string ⟨#[110,97,109,101]⟩,.string s0,.slice q 0 c] 24 (0,0))=w0 at hk0 hq0 hp0 hx0
 have xs0:w0.heap.size > w.heap.size:=ltb hx0
 have x0_0:=cO hx0 0 _ rfl
 have x1_0:=cO hx0 1 _ rfl
 have x2_0:=cO hx0 2 _ rfl
 have HS0:=a3_ hp0 hq0 hx0
 clear hp0 hq0 hx0 hk0
 go_wp2_with fail
 try rw [hw0]
 clear hw0
 have ka0:Kp No w0 (w0.alloc (.cells #[.string s0] 9 (0,0))):=(Kp.refl No w0).alloc _
 refine (tok1_c _ base pb _ 1 g _ _ _ s0 (HS0.out.1.on ka0 (by simp)) (newOf w0 _) rfl hs he he2 ha).mono ?_
 rintro e1 w1 ⟨⟨v1,rfl⟩,p1,hpq1,hp1,hr1⟩
 have H1:=a3_ hpq1 hp1 ((HS0.out.2.1.no ka0).trans hr1)
 clear hpq1 hp1 hr1 ka0
 go_wp2_with fail
 exact bodyPost_end (v:=.tuple #[]) (by simp [results,Tryz.results35,go_sem]) rfl ⟨⟨_,rfl⟩,p1,H1.out⟩
theorem node_name (w:World) (base pb:Nat) (g at_:List Int) (e:Int) (out:List Pl) (s0:ByteArray) (q:Option Addr) (c:Nat) (hp:PSt w base pb g at_ e out) (he:0≤e) (he2:e≤1125899906842624) (ha:at_.length+1≤1048576) (ho:out.length≤1048575) (hs:s0.size≤1048576) :
 Calls Tryz.prog 13 #[.pointer (some ⟨pb,0,none⟩),.agg #[.string ⟨#[110,97,109,101]⟩,.string s0,.slice q 0 c]] w fun e' w'=>(∃ v,e'=.returned v)∧∃ p,p=e+gapOf g at_.length∧PSt w' base pb g (at_++[p]) (p+s0.size) (out++[⟨⟨#[110,97,109,101]⟩,p,p+s0.size⟩])∧Kq base w w':=by
 refine (node_ex (R:=fun tk f mid=>tk=[e+gapOf g at_.length]∧f=e+gapOf g at_.length+s0.size∧mid=[]) ⟨#[110,97,109,101]⟩ s0 (by unfold own;simp) w base pb g at_ e out _ hp he he2 ho ⟨_,_,_,rfl⟩ ?_).mono ?_
 ·intro w1 hq hp1
  refine (exl_name w1 base pb g at_ e _ s0 q c hp1 he he2 ha hs).mono ?_
  rintro e' w' ⟨hv,p,rfl,hp',hq'⟩
  exact ⟨hv,_,_,[],⟨rfl,rfl,rfl⟩,by simpa using hp',hq'⟩
 ·rintro e' w' ⟨hv,_,_,_,⟨rfl,rfl,rfl⟩,hp',hq'⟩
  exact ⟨hv,_,rfl,hp',hq'⟩
theorem tyc_name (p0:Int) (s0:ByteArray):TyC (.name p0 s0):=by
 intro w B base pb g at_ e out s hp hin hB hb hs
 simp only [Ty.nd,Nd.name,Nd.lit] at hin hs ⊢
 simp only [Ty.nd,Nd.name,Nd.lit,Bnd,Nd.size,Nd.sizeL] at hb
 simp only [Nd.short,Nd.shortL] at hs
 obtain ⟨b1,b2,b3,b4⟩:=hb
 obtain ⟨q,c,rfl,hc⟩:=hin.form
 have hg:=gapOf_le g at_.length
 refine (node_name w base pb g at_ e out s0 q c hp (by omega) (by omega) (by omega) (by omega) hs.1).mono ?_
 rintro e' w' ⟨hv,p,hpq,hp',hq'⟩
 refine ⟨hv,.name p s0,⟨by simp only [Ty.nd,Nd.name,Nd.lit],by simp only [Ty.ok];exact ⟨trivial,by constructor <;> omega,hs.1⟩,by simp only [Ty.pos];exact hpq,by simp only [Ty.pos,Ty.fin];omega,by simp only [Ty.pos,Ty.fin,Ty.pre];exact Nest.one (by omega) _,?_,?_,?_⟩,?_,hq'⟩
 ·simp only [Ty.fin,Ty.nd,Nd.name,Nd.lit,Nd.size,Nd.sizeL];omega
 ·simp [Ty.toks,Ty.nd,Nd.name,Nd.lit,Nd.size,Nd.sizeL]
 ·simp [Ty.pre,Ty.nd,Nd.name,Nd.lit,Nd.size,Nd.sizeL]
 ·simpa [Ty.toks,Ty.pre,Ty.fin] using hp'
theorem exl_literal (w:World) (base pb:Nat) (g at_:List Int) (e:Int) (out:List Pl) (s0:ByteArray) (q:Option Addr) (c:Nat) (hp:PSt w base pb g at_ e out) (he:0≤e) (he2:e≤1125899906842624) (ha:at_.length+1≤1048576) (hs:s0.size≤1048576) :
 Calls Tryz.prog 35 #[.pointer (some ⟨pb,0,none⟩),.agg #[.string ⟨#[108,105,116,101,114,97,108]⟩,.string s0,.slice q 0 c]] w fun e' w'=>(∃ v,e'=.returned v)∧∃ p,p=e+gapOf g at_.length∧PSt w' base pb g (at_++[p]) (p+s0.size) out∧Kq base w w':=by
 have HP:=hd_ hp
 clear hp
 go_enter Tryz.func35,Tryz.ntmps35
 have hk0:Kp No w (w.alloc (.cells #[.string ⟨#[108,105,116,101,114,97,108]⟩,.string s0,.slice q 0 c] 24 (0,0))):=(Kp.refl No w).alloc _
 have hq0:Kq base w _:=Kq.of_no hk0
 have hp0:=HP.out.on hk0 (by simp)
 have hx0:=newOf w (.cells #[.string ⟨#[108,105,116,101,114,97,108]⟩,.string s0,.slice q 0 c] 24 (0,0))
 generalize hw0:w.alloc (.cells #[.string ⟨#[108,105,116,101,114,97,108]⟩,.string s0,.slice q 0 c] 24 (0,0))=w0 at hk0 hq0 hp0 hx0
 have xs0:w0.heap.size > w.heap.size:=ltb hx0
 have x0_0:=cO hx0 0 _ rfl
 have x1_0:=cO hx0 1 _ rfl
 have x2_0:=cO hx0 2 _ rfl
 have HS0:=a3_ hp0 hq0 hx0
 clear hp0 hq0 hx0 hk0
 go_wp2_with fail
 try rw [hw0]
 clear hw0
 have ka0:Kp No w0 (w0.alloc (.cells #[.string s0] 9 (0,0))):=(Kp.refl No w0).alloc _
 refine (tok1_c _ base pb _ 1 g _ _ _ s0 (HS0.out.1.on ka0 (by simp)) (newOf w0 _) rfl hs he he2 ha).mono ?_
 rintro e1 w1 ⟨⟨v1,rfl⟩,p1,hpq1,hp1,hr1⟩
 have H1:=a3_ hpq1 hp1 ((HS0.out.2.1.no ka0).trans hr1)
 clear hpq1 hp1 hr1 ka0
 go_wp2_with fail
 exact bodyPost_end (v:=.tuple #[]) (by simp [results,Tryz.results35,go_sem]) rfl ⟨⟨_,rfl⟩,p1,H1.out⟩
theorem node_literal (w:World) (base pb:Nat) (g at_:List Int) (e:Int) (out:List Pl) (s0:ByteArray) (q:Option Addr) (c:Nat) (hp:PSt w base pb g at_ e out) (he:0≤e) (he2:e≤1125899906842624) (ha:at_.length+1≤1048576) (ho:out.length≤1048575) (hs:s0.size≤1048576) :
 Calls Tryz.prog 13 #[.pointer (some ⟨pb,0,none⟩),.agg #[.string ⟨#[108,105,116,101,114,97,108]⟩,.string s0,.slice q 0 c]] w fun e' w'=>(∃ v,e'=.returned v)∧∃ p,p=e+gapOf g at_.length∧PSt w' base pb g (at_++[p]) (p+s0.size) (out++[⟨⟨#[108,105,116,101,114,97,108]⟩,p,p+s0.size⟩])∧Kq base w w':=by
 refine (node_ex (R:=fun tk f mid=>tk=[e+gapOf g at_.length]∧f=e+gapOf g at_.length+s0.size∧mid=[]) ⟨#[108,105,116,101,114,97,108]⟩ s0 (by unfold own;simp) w base pb g at_ e out _ hp he he2 ho ⟨_,_,_,rfl⟩ ?_).mono ?_
 ·intro w1 hq hp1
  refine (exl_literal w1 base pb g at_ e _ s0 q c hp1 he he2 ha hs).mono ?_
  rintro e' w' ⟨hv,p,rfl,hp',hq'⟩
  exact ⟨hv,_,_,[],⟨rfl,rfl,rfl⟩,by simpa using hp',hq'⟩
 ·rintro e' w' ⟨hv,_,_,_,⟨rfl,rfl,rfl⟩,hp',hq'⟩
  exact ⟨hv,_,rfl,hp',hq'⟩
theorem tyc_literal (p0:Int) (s0:ByteArray):TyC (.lit p0 s0):=by
 intro w B base pb g at_ e out s hp hin hB hb hs
 simp only [Ty.nd,Nd.name,Nd.lit] at hin hs ⊢
 simp only [Ty.nd,Nd.name,Nd.lit,Bnd,Nd.size,Nd.sizeL] at hb
 simp only [Nd.short,Nd.shortL] at hs
 obtain ⟨b1,b2,b3,b4⟩:=hb
 obtain ⟨q,c,rfl,hc⟩:=hin.form
 have hg:=gapOf_le g at_.length
 refine (node_literal w base pb g at_ e out s0 q c hp (by omega) (by omega) (by omega) (by omega) hs.1).mono ?_
 rintro e' w' ⟨hv,p,hpq,hp',hq'⟩
 refine ⟨hv,.lit p s0,⟨by simp only [Ty.nd,Nd.name,Nd.lit],by simp only [Ty.ok];exact ⟨trivial,by constructor <;> omega,hs.1⟩,by simp only [Ty.pos];exact hpq,by simp only [Ty.pos,Ty.fin];omega,by simp only [Ty.pos,Ty.fin,Ty.pre];exact Nest.one (by omega) _,?_,?_,?_⟩,?_,hq'⟩
 ·simp only [Ty.fin,Ty.nd,Nd.name,Nd.lit,Nd.size,Nd.sizeL];omega
 ·simp [Ty.toks,Ty.nd,Nd.name,Nd.lit,Nd.size,Nd.sizeL]
 ·simp [Ty.pre,Ty.nd,Nd.name,Nd.lit,Nd.size,Nd.sizeL]
 ·simpa [Ty.toks,Ty.pre,Ty.fin] using hp'
theorem ex_star (p:Int) (x:Ty) (htx:TyC x):ExB (.star p x):=by
 intro w B base pb g at_ e out s hp hin hB hb hs
 have hbs:=hp.size
 simp only [Ty.nd] at hin hb hs ⊢
 simp only [Nd.size,Nd.sizeL,Nd.miss,Nd.name,Nd.lit,fl] at hb
 simp only [Nd.short,Nd.shortL,Nd.miss,Nd.name,Nd.lit] at hs
 obtain ⟨b1,b2,b3,b4⟩:=hb
 have hLs:=hd_ (Nd.In_iff.1 hin)
 obtain ⟨q,c,rfl,hc⟩:=hin.form
 obtain ⟨bb0,o0,c0,q0,d0,he,_,hb0,hi,k01,k02,k03,k04,k05⟩:=hLs.out.get (i:=0) rfl
 cases he
 have HK0:=hd_ k04
 clear k04 hi
 simp only [Nat.zero_mul,Nat.one_mul,Nat.add_zero] at k01 k02 k03
 have HP:=hd_ hp
 clear hp hin hLs
 simp only [Nd.l,la_,lc_,ln_,Nat.zero_add,Nat.reduceAdd] at hc
 show Calls _ _ #[_,.agg #[.string ⟨#[115,116,97,114]⟩,.string ⟨#[]⟩,.slice (some ⟨bb0,o0,none⟩) 1 c]] _ _
 have HTX:=hd_ htx
 clear htx
 go_enter Tryz.func35,Tryz.ntmps35
 have hk0:Kp No w (w.alloc (.cells #[.string ⟨#[115,116,97,114]⟩,.string ⟨#[]⟩,.slice (some ⟨bb0,o0,none⟩) 1 c] 24 (0,0))):=(Kp.refl No w).alloc _
 have hq0:Kq base w _:=Kq.of_no hk0
 have hp0:=HP.out.on hk0 (by simp)
 have hx0:=newOf w (.cells #[.string ⟨#[115,116,97,114]⟩,.string ⟨#[]⟩,.slice (some ⟨bb0,o0,none⟩) 1 c] 24 (0,0))
 generalize hw0:w.alloc (.cells #[.string ⟨#[115,116,97,114]⟩,.string ⟨#[]⟩,.slice (some ⟨bb0,o0,none⟩) 1 c] 24 (0,0))=w0 at hk0 hq0 hp0 hx0
 obtain ⟨k01_0,k02_0,k03_0⟩:=cellq hq0 (by omega) hbs k01 k02 k03
 have xs0:w0.heap.size > w.heap.size:=ltb hx0
 have x0_0:=cO hx0 0 _ rfl
 have x1_0:=cO hx0 1 _ rfl
 have x2_0:=cO hx0 2 _ rfl
 have zs0:=hq0.kp.size
 have HS0:=a3_ hp0 hq0 hx0
 clear hp0 hq0 hx0
 clear hk0
 go_wp2_with fail
 try rw [hw0]
 clear hw0
 have ka0:Kp No w0 (w0.alloc (.cells #[.string ⟨#[42]⟩] 9 (0,0))):=(Kp.refl No w0).alloc _
 refine (tok1_c _ base pb _ 1 g _ _ _ ⟨#[42]⟩ (HS0.out.1.on ka0 (by simp)) (newOf w0 _) rfl (by decide) (by omega) (by omega) (by (try simp only [la_,lc_,ln_]);omega)).mono ?_
 rintro e1 w1 ⟨⟨v1,rfl⟩,p1,hpq1,hp1,hr1⟩
 have hgp1:=gapOf_le g (at_).length
 have hz1:(⟨#[42]⟩:ByteArray).size=1:=rfl
 rw [hz1] at hp1
 have hq1:=(HS0.out.2.1.no ka0).trans hr1
 have hx1:=hr1.kn w.heap.size _ _ _ (ka0.at HS0.out.2.2 (by simp)) (by decide) (by decide) (by decide)
 clear hr1 ka0
 clear k01_0 k02_0 k03_0 x0_0 x1_0 x2_0
 obtain ⟨k01_1,k02_1,k03_1⟩:=cellq hq1 (by omega) hbs k01 k02 k03
 have xs1:w1.heap.size > w.heap.size:=ltb hx1
 have x0_1:=cO hx1 0 _ rfl
 have x1_1:=cO hx1 1 _ rfl
 have x2_1:=cO hx1 2 _ rfl
 have zs1:=hq1.kp.size
 have HS1:=a3_ hp1 hq1 hx1
 clear hp1 hq1 hx1
 go_wp2_with fail
 have hin2:=HK0.out.stay (w':=w1) fun b hb=>HS1.out.2.1.kp.block b (by omega) (by simp only [Fr];omega)
 have hsz2:=Ty.size_pos x
 refine (HTX.out w1 B base pb g _ _ _ _ HS1.out.1 hin2 hB (by unfold Bnd;(try simp only [la_,lc_,ln_]);refine ⟨by omega,by omega,by omega,by omega⟩) hs.2.1).mono ?_
 rintro e2 w2 ⟨⟨v2,rfl⟩,x',gx,hp2,hr2⟩
 have hgpx:=gapOf_le g (at_++[p1]).length
 have gpx:=gx.pos;have glx:=gx.le;have gfx:=gx.fin;have gtx:=gx.tk;have gqx:=gx.pl
 have hq2:=HS1.out.2.1.trans hr2
 have hx2:=hr2.kn w.heap.size _ _ _ HS1.out.2.2 (by decide) (by decide) (by decide)
 clear hr2 hin2
 clear k01_1 k02_1 k03_1 x0_1 x1_1 x2_1
 obtain ⟨k01_2,k02_2,k03_2⟩:=cellq hq2 (by omega) hbs k01 k02 k03
 have xs2:w2.heap.size > w.heap.size:=ltb hx2
 have x0_2:=cO hx2 0 _ rfl
 have x1_2:=cO hx2 1 _ rfl
 have x2_2:=cO hx2 2 _ rfl
 have zs2:=hq2.kp.size
 have HS2:=a3_ hp2 hq2 hx2
 clear hp2 hq2 hx2
 go_wp2_with fail
 have HF:=HS2.out
 refine bodyPost_end (v:=.tuple #[]) (by simp [results,Tryz.results35,go_sem]) rfl ⟨⟨_,rfl⟩,.star p1 x',⟨?_,?_,?_,?_,?_,?_,?_,?_⟩,?_,HF.2.1⟩
 ·simp only [Ty.nd,gx.nd]
 ·simp only [Ty.ok];exact ⟨trivial,by constructor <;> omega,gx.ok⟩
 ·simp only [Ty.pos];exact hpq1
 ·simp only [Ty.pos,Ty.fin];omega
 ·simp only [Ty.pos,Ty.fin,Ty.pre];exact ((gx.nest.mono (by omega) (Int.le_refl _)).cons (by omega) _)
 ·simp only [Ty.fin];simp only [Ty.nd,Nd.size,Nd.sizeL,Nd.miss,Nd.name,Nd.lit,fl];omega
 ·simp only [Ty.toks,la_,lc_,ln_];simp only [Ty.nd,Nd.size,Nd.sizeL,Nd.miss,Nd.name,Nd.lit,fl];omega
 ·simp only [Ty.pre,la_,lc_,ln_];simp only [Ty.nd,Nd.size,Nd.sizeL,Nd.miss,Nd.name,Nd.lit,fl];omega
 ·have h9:=HF.1
  simpa [Ty.toks,Ty.pre,Ty.fin] using h9
theorem ex_ch (p:Int) (x:Ty) (htx:TyC x):ExB (.ch p x):=by
 intro w B base pb g at_ e out s hp hin hB hb hs
 have hbs:=hp.size
 simp only [Ty.nd] at hin hb hs ⊢
 simp only [Nd.size,Nd.sizeL,Nd.miss,Nd.name,Nd.lit,fl] at hb
 simp only [Nd.short,Nd.shortL,Nd.miss,Nd.name,Nd.lit] at hs
 obtain ⟨b1,b2,b3,b4⟩:=hb
 have hLs:=hd_ (Nd.In_iff.1 hin)
 obtain ⟨q,c,rfl,hc⟩:=hin.form
 obtain ⟨bb0,o0,c0,q0,d0,he,_,hb0,hi,k01,k02,k03,k04,k05⟩:=hLs.out.get (i:=0) rfl
 cases he
 have HK0:=hd_ k04
 clear k04 hi
 simp only [Nat.zero_mul,Nat.one_mul,Nat.add_zero] at k01 k02 k03
 have HP:=hd_ hp
 clear hp hin hLs
 simp only [Nd.l,la_,lc_,ln_,Nat.zero_add,Nat.reduceAdd] at hc
 show Calls _ _ #[_,.agg #[.string ⟨#[99,104,97,110]⟩,.string ⟨#[]⟩,.slice (some ⟨bb0,o0,none⟩) 1 c]] _ _
 have HTX:=hd_ htx
 clear htx
 go_enter Tryz.func35,Tryz.ntmps35
 have hk0:Kp No w (w.alloc (.cells #[.string ⟨#[99,104,97,110]⟩,.string ⟨#[]⟩,.slice (some ⟨bb0,o0,none⟩) 1 c] 24 (0,0))):=(Kp.refl No w).alloc _
 have hq0:Kq base w _:=Kq.of_no hk0
 have hp0:=HP.out.on hk0 (by simp)
 have hx0:=newOf w (.cells #[.string ⟨#[99,104,97,110]⟩,.string ⟨#[]⟩,.slice (some ⟨bb0,o0,none⟩) 1 c] 24 (0,0))
 generalize hw0:w.alloc (.cells #[.string ⟨#[99,104,97,110]⟩,.string ⟨#[]⟩,.slice (some ⟨bb0,o0,none⟩) 1 c] 24 (0,0))=w0 at hk0 hq0 hp0 hx0
 obtain ⟨k01_0,k02_0,k03_0⟩:=cellq hq0 (by omega) hbs k01 k02 k03
 have xs0:w0.heap.size > w.heap.size:=ltb hx0
 have x0_0:=cO hx0 0 _ rfl
 have x1_0:=cO hx0 1 _ rfl
 have x2_0:=cO hx0 2 _ rfl
 have zs0:=hq0.kp.size
 have HS0:=a3_ hp0 hq0 hx0
 clear hp0 hq0 hx0
 clear hk0
 go_wp2_with fail
 try rw [hw0]
 clear hw0
 have ka0:Kp No w0 (w0.alloc (.cells #[.string ⟨#[99,104,97,110]⟩] 9 (0,0))):=(Kp.refl No w0).alloc _
 refine (tok1_c _ base pb _ 1 g _ _ _ ⟨#[99,104,97,110]⟩ (HS0.out.1.on ka0 (by simp)) (newOf w0 _) rfl (by decide) (by omega) (by omega) (by (try simp only [la_,lc_,ln_]);omega)).mono ?_
 rintro e1 w1 ⟨⟨v1,rfl⟩,p1,hpq1,hp1,hr1⟩
 have hgp1:=gapOf_le g (at_).length
 have hz1:(⟨#[99,104,97,110]⟩:ByteArray).size=4:=rfl
 rw [hz1] at hp1
 have hq1:=(HS0.out.2.1.no ka0).trans hr1
 have hx1:=hr1.kn w.heap.size _ _ _ (ka0.at HS0.out.2.2 (by simp)) (by decide) (by decide) (by decide)
 clear hr1 ka0
 clear k01_0 k02_0 k03_0 x0_0 x1_0 x2_0
 obtain ⟨k01_1,k02_1,k03_1⟩:=cellq hq1 (by omega) hbs k01 k02 k03
 have xs1:w1.heap.size > w.heap.size:=ltb hx1
 have x0_1:=cO hx1 0 _ rfl
 have x1_1:=cO hx1 1 _ rfl
 have x2_1:=cO hx1 2 _ rfl
 have zs1:=hq1.kp.size
 have HS1:=a3_ hp1 hq1 hx1
 clear hp1 hq1 hx1
 go_wp2_with fail
 have hin2:=HK0.out.stay (w':=w1) fun b hb=>HS1.out.2.1.kp.block b (by omega) (by simp only [Fr];omega)
 have hsz2:=Ty.size_pos x
 refine (HTX.out w1 B base pb g _ _ _ _ HS1.out.1 hin2 hB (by unfold Bnd;(try simp only [la_,lc_,ln_]);refine ⟨by omega,by omega,by omega,by omega⟩) hs.2.1).mono ?_
 rintro e2 w2 ⟨⟨v2,rfl⟩,x',gx,hp2,hr2⟩
 have hgpx:=gapOf_le g (at_++[p1]).length
 have gpx:=gx.pos;have glx:=gx.le;have gfx:=gx.fin;have gtx:=gx.tk;have gqx:=gx.pl
 have hq2:=HS1.out.2.1.trans hr2
 have hx2:=hr2.kn w.heap.size _ _ _ HS1.out.2.2 (by decide) (by decide) (by decide)
 clear hr2 hin2
 clear k01_1 k02_1 k03_1 x0_1 x1_1 x2_1
 obtain ⟨k01_2,k02_2,k03_2⟩:=cellq hq2 (by omega) hbs k01 k02 k03
 have xs2:w2.heap.size > w.heap.size:=ltb hx2
 have x0_2:=cO hx2 0 _ rfl
 have x1_2:=cO hx2 1 _ rfl
 have x2_2:=cO hx2 2 _ rfl
 have zs2:=hq2.kp.size
 have HS2:=a3_ hp2 hq2 hx2
 clear hp2 hq2 hx2
 go_wp2_with fail
 have HF:=HS2.out
 refine bodyPost_end (v:=.tuple #[]) (by simp [results,Tryz.results35,go_sem]) rfl ⟨⟨_,rfl⟩,.ch p1 x',⟨?_,?_,?_,?_,?_,?_,?_,?_⟩,?_,HF.2.1⟩
 ·simp only [Ty.nd,gx.nd]
 ·simp only [Ty.ok];exact ⟨trivial,by constructor <;> omega,gx.ok⟩
 ·simp only [Ty.pos];exact hpq1
 ·simp only [Ty.pos,Ty.fin];omega
 ·simp only [Ty.pos,Ty.fin,Ty.pre];exact ((gx.nest.mono (by omega) (Int.le_refl _)).cons (by omega) _)
 ·simp only [Ty.fin];simp only [Ty.nd,Nd.size,Nd.sizeL,Nd.miss,Nd.name,Nd.lit,fl];omega
 ·simp only [Ty.toks,la_,lc_,ln_];simp only [Ty.nd,Nd.size,Nd.sizeL,Nd.miss,Nd.name,Nd.lit,fl];omega
 ·simp only [Ty.pre,la_,lc_,ln_];simp only [Ty.nd,Nd.size,Nd.sizeL,Nd.miss,Nd.name,Nd.lit,fl];omega
 ·have h9:=HF.1
  simpa [Ty.toks,Ty.pre,Ty.fin] using h9
theorem ex_chs (p q:Int) (x:Ty) (htx:TyC x):ExB (.chs p q x):=by
 intro w B base pb g at_ e out s hp hin hB hb hs
 have hbs:=hp.size
 simp only [Ty.nd] at hin hb hs ⊢
 simp only [Nd.size,Nd.sizeL,Nd.miss,Nd.name,Nd.lit,fl] at hb
 simp only [Nd.short,Nd.shortL,Nd.miss,Nd.name,Nd.lit] at hs
 obtain ⟨b1,b2,b3,b4⟩:=hb
 have hLs:=hd_ (Nd.In_iff.1 hin)
 obtain ⟨q,c,rfl,hc⟩:=hin.form
 obtain ⟨bb0,o0,c0,q0,d0,he,_,hb0,hi,k01,k02,k03,k04,k05⟩:=hLs.out.get (i:=0) rfl
 cases he
 have HK0:=hd_ k04
 clear k04 hi
 simp only [Nat.zero_mul,Nat.one_mul,Nat.add_zero] at k01 k02 k03
 have HP:=hd_ hp
 clear hp hin hLs
 simp only [Nd.l,la_,lc_,ln_,Nat.zero_add,Nat.reduceAdd] at hc
 show Calls _ _ #[_,.agg #[.string ⟨#[99,104,97,110]⟩,.string ⟨#[115,101,110,100]⟩,.slice (some ⟨bb0,o0,none⟩) 1 c]] _ _
 have HTX:=hd_ htx
 clear htx
 go_enter Tryz.func35,Tryz.ntmps35
 have hk0:Kp No w (w.alloc (.cells #[.string ⟨#[99,104,97,110]⟩,.string ⟨#[115,101,110,100]⟩,.slice (some ⟨bb0,o0,none⟩) 1 c] 24 (0,0))):=(Kp.refl No w).alloc _
 have hq0:Kq base w _:=Kq.of_no hk0
 have hp0:=HP.out.on hk0 (by simp)
 have hx0:=newOf w (.cells #[.string ⟨#[99,104,97,110]⟩,.string ⟨#[115,101,110,100]⟩,.slice (some ⟨bb0,o0,none⟩) 1 c] 24 (0,0))
 generalize hw0:w.alloc (.cells #[.string ⟨#[99,104,97,110]⟩,.string ⟨#[115,101,110,100]⟩,.slice (some ⟨bb0,o0,none⟩) 1 c] 24 (0,0))=w0 at hk0 hq0 hp0 hx0
 obtain ⟨k01_0,k02_0,k03_0⟩:=cellq hq0 (by omega) hbs k01 k02 k03
 have xs0:w0.heap.size > w.heap.size:=ltb hx0
 have x0_0:=cO hx0 0 _ rfl
 have x1_0:=cO hx0 1 _ rfl
 have x2_0:=cO hx0 2 _ rfl
 have zs0:=hq0.kp.size
 have HS0:=a3_ hp0 hq0 hx0
 clear hp0 hq0 hx0
 clear hk0
 go_wp2_with fail
 try rw [hw0]
 clear hw0
 have ka0:Kp No w0 (w0.alloc (.cells #[.string ⟨#[99,104,97,110]⟩,.string ⟨#[60,45]⟩] 9 (0,0))):=(Kp.refl No w0).alloc _
 refine (tok2_c _ base pb _ 2 g _ _ _ ⟨#[99,104,97,110]⟩ ⟨#[60,45]⟩ (HS0.out.1.on ka0 (by simp)) (newOf w0 _) rfl (by decide) (by decide) (by omega) (by omega) (by (try simp only [la_,lc_,ln_]);omega)).mono ?_
 rintro e1 w1 ⟨⟨v1,rfl⟩,p1,p2,hpq1,hpr1,hps1,hp1,hr1⟩
 have hgp1:=gapOf_le g (at_).length
 have hz1:(⟨#[60,45]⟩:ByteArray).size=2:=rfl
 rw [hz1] at hp1
 have hy1:(⟨#[99,104,97,110]⟩:ByteArray).size=4:=rfl
 rw [hy1] at hpr1 hps1
 have hq1:=(HS0.out.2.1.no ka0).trans hr1
 have hx1:=hr1.kn w.heap.size _ _ _ (ka0.at HS0.out.2.2 (by simp)) (by decide) (by decide) (by decide)
 clear hr1 ka0
 clear k01_0 k02_0 k03_0 x0_0 x1_0 x2_0
 obtain ⟨k01_1,k02_1,k03_1⟩:=cellq hq1 (by omega) hbs k01 k02 k03
 have xs1:w1.heap.size > w.heap.size:=ltb hx1
 have x0_1:=cO hx1 0 _ rfl
 have x1_1:=cO hx1 1 _ rfl
 have x2_1:=cO hx1 2 _ rfl
 have zs1:=hq1.kp.size
 have HS1:=a3_ hp1 hq1 hx1
 clear hp1 hq1 hx1
 go_wp2_with fail
 have hin2:=HK0.out.stay (w':=w1) fun b hb=>HS1.out.2.1.kp.block b (by omega) (by simp only [Fr];omega)
 have hsz2:=Ty.size_pos x
 refine (HTX.out w1 B base pb g _ _ _ _ HS1.out.1 hin2 hB (by unfold Bnd;(try simp only [la_,lc_,ln_]);refine ⟨by omega,by omega,by omega,by omega⟩) hs.2.1).mono ?_
 rintro e2 w2 ⟨⟨v2,rfl⟩,x',gx,hp2,hr2⟩
 have hgpx:=gapOf_le g (at_++[p1,p2]).length
 have gpx:=gx.pos;have glx:=gx.le;have gfx:=gx.fin;have gtx:=gx.tk;have gqx:=gx.pl
 have hq2:=HS1.out.2.1.trans hr2
 have hx2:=hr2.kn w.heap.size _ _ _ HS1.out.2.2 (by decide) (by decide) (by decide)
 clear hr2 hin2
 clear k01_1 k02_1 k03_1 x0_1 x1_1 x2_1
 obtain ⟨k01_2,k02_2,k03_2⟩:=cellq hq2 (by omega) hbs k01 k02 k03
 have xs2:w2.heap.size > w.heap.size:=ltb hx2
 have x0_2:=cO hx2 0 _ rfl
 have x1_2:=cO hx2 1 _ rfl
 have x2_2:=cO hx2 2 _ rfl
 have zs2:=hq2.kp.size
 have HS2:=a3_ hp2 hq2 hx2
 clear hp2 hq2 hx2
 go_wp2_with fail
 have HF:=HS2.out
 refine bodyPost_end (v:=.tuple #[]) (by simp [results,Tryz.results35,go_sem]) rfl ⟨⟨_,rfl⟩,.chs p1 p2 x',⟨?_,?_,?_,?_,?_,?_,?_,?_⟩,?_,HF.2.1⟩
 ·simp only [Ty.nd,gx.nd]
 ·simp only [Ty.ok];exact ⟨trivial,by constructor <;> omega,by constructor <;> omega,gx.ok⟩
 ·simp only [Ty.pos];exact hpq1
 ·simp only [Ty.pos,Ty.fin];omega
 ·simp only [Ty.pos,Ty.fin,Ty.pre];exact ((gx.nest.mono (by omega) (Int.le_refl _)).cons (by omega) _)
 ·simp only [Ty.fin];simp only [Ty.nd,Nd.size,Nd.sizeL,Nd.miss,Nd.name,Nd.lit,fl];omega
 ·simp only [Ty.toks,la_,lc_,ln_];simp only [Ty.nd,Nd.size,Nd.sizeL,Nd.miss,Nd.name,Nd.lit,fl];omega
 ·simp only [Ty.pre,la_,lc_,ln_];simp only [Ty.nd,Nd.size,Nd.sizeL,Nd.miss,Nd.name,Nd.lit,fl];omega
 ·have h9:=HF.1
  simpa [Ty.toks,Ty.pre,Ty.fin] using h9
theorem ex_chr (p q:Int) (x:Ty) (htx:TyC x):ExB (.chr p q x):=by
 intro w B base pb g at_ e out s hp hin hB hb hs
 have hbs:=hp.size
 simp only [Ty.nd] at hin hb hs ⊢
 simp only [Nd.size,Nd.sizeL,Nd.miss,Nd.name,Nd.lit,fl] at hb
 simp only [Nd.short,Nd.shortL,Nd.miss,Nd.name,Nd.lit] at hs
 obtain ⟨b1,b2,b3,b4⟩:=hb
 have hLs:=hd_ (Nd.In_iff.1 hin)
 obtain ⟨q,c,rfl,hc⟩:=hin.form
 obtain ⟨bb0,o0,c0,q0,d0,he,_,hb0,hi,k01,k02,k03,k04,k05⟩:=hLs.out.get (i:=0) rfl
 cases he
 have HK0:=hd_ k04
 clear k04 hi
 simp only [Nat.zero_mul,Nat.one_mul,Nat.add_zero] at k01 k02 k03
 have HP:=hd_ hp
 clear hp hin hLs
 simp only [Nd.l,la_,lc_,ln_,Nat.zero_add,Nat.reduceAdd] at hc
 show Calls _ _ #[_,.agg #[.string ⟨#[99,104,97,110]⟩,.string ⟨#[114,101,99,101,105,118,101]⟩,.slice (some ⟨bb0,o0,none⟩) 1 c]] _ _
 have HTX:=hd_ htx
 clear htx
 go_enter Tryz.func35,Tryz.ntmps35
 have hk0:Kp No w (w.alloc (.cells #[.string ⟨#[99,104,97,110]⟩,.string ⟨#[114,101,99,101,105,118,101]⟩,.slice (some ⟨bb0,o0,none⟩) 1 c] 24 (0,0))):=(Kp.refl No w).alloc _
 have hq0:Kq base w _:=Kq.of_no hk0
 have hp0:=HP.out.on hk0 (by simp)
 have hx0:=newOf w (.cells #[.string ⟨#[99,104,97,110]⟩,.string ⟨#[114,101,99,101,105,118,101]⟩,.slice (some ⟨bb0,o0,none⟩) 1 c] 24 (0,0))
 generalize hw0:w.alloc (.cells #[.string ⟨#[99,104,97,110]⟩,.string ⟨#[114,101,99,101,105,118,101]⟩,.slice (some ⟨bb0,o0,none⟩) 1 c] 24 (0,0))=w0 at hk0 hq0 hp0 hx0
 obtain ⟨k01_0,k02_0,k03_0⟩:=cellq hq0 (by omega) hbs k01 k02 k03
 have xs0:w0.heap.size > w.heap.size:=ltb hx0
 have x0_0:=cO hx0 0 _ rfl
 have x1_0:=cO hx0 1 _ rfl
 have x2_0:=cO hx0 2 _ rfl
 have zs0:=hq0.kp.size
 have HS0:=a3_ hp0 hq0 hx0
 clear hp0 hq0 hx0
 clear hk0
 go_wp2_with fail
 try rw [hw0]
 clear hw0
 have ka0:Kp No w0 (w0.alloc (.cells #[.string ⟨#[60,45]⟩,.string ⟨#[99,104,97,110]⟩] 9 (0,0))):=(Kp.refl No w0).alloc _
 refine (tok2_c _ base pb _ 2 g _ _ _ ⟨#[60,45]⟩ ⟨#[99,104,97,110]⟩ (HS0.out.1.on ka0 (by simp)) (newOf w0 _) rfl (by decide) (by decide) (by omega) (by omega) (by (try simp only [la_,lc_,ln_]);omega)).mono ?_
 rintro e1 w1 ⟨⟨v1,rfl⟩,p1,p2,hpq1,hpr1,hps1,hp1,hr1⟩
 have hgp1:=gapOf_le g (at_).length
 have hz1:(⟨#[99,104,97,110]⟩:ByteArray).size=4:=rfl
 rw [hz1] at hp1
 have hy1:(⟨#[60,45]⟩:ByteArray).size=2:=rfl
 rw [hy1] at hpr1 hps1
 have hq1:=(HS0.out.2.1.no ka0).trans hr1
 have hx1:=hr1.kn w.heap.size _ _ _ (ka0.at HS0.out.2.2 (by simp)) (by decide) (by decide) (by decide)
 clear hr1 ka0
 clear k01_0 k02_0 k03_0 x0_0 x1_0 x2_0
 obtain ⟨k01_1,k02_1,k03_1⟩:=cellq hq1 (by omega) hbs k01 k02 k03
 have xs1:w1.heap.size > w.heap.size:=ltb hx1
 have x0_1:=cO hx1 0 _ rfl
 have x1_1:=cO hx1 1 _ rfl
 have x2_1:=cO hx1 2 _ rfl
 have zs1:=hq1.kp.size
 have HS1:=a3_ hp1 hq1 hx1
 clear hp1 hq1 hx1
 go_wp2_with fail
 have hin2:=HK0.out.stay (w':=w1) fun b hb=>HS1.out.2.1.kp.block b (by omega) (by simp only [Fr];omega)
 have hsz2:=Ty.size_pos x
 refine (HTX.out w1 B base pb g _ _ _ _ HS1.out.1 hin2 hB (by unfold Bnd;(try simp only [la_,lc_,ln_]);refine ⟨by omega,by omega,by omega,by omega⟩) hs.2.1).mono ?_
 rintro e2 w2 ⟨⟨v2,rfl⟩,x',gx,hp2,hr2⟩
 have hgpx:=gapOf_le g (at_++[p1,p2]).length
 have gpx:=gx.pos;have glx:=gx.le;have gfx:=gx.fin;have gtx:=gx.tk;have gqx:=gx.pl
 have hq2:=HS1.out.2.1.trans hr2
 have hx2:=hr2.kn w.heap.size _ _ _ HS1.out.2.2 (by decide) (by decide) (by decide)
 clear hr2 hin2
 clear k01_1 k02_1 k03_1 x0_1 x1_1 x2_1
 obtain ⟨k01_2,k02_2,k03_2⟩:=cellq hq2 (by omega) hbs k01 k02 k03
 have xs2:w2.heap.size > w.heap.size:=ltb hx2
 have x0_2:=cO hx2 0 _ rfl
 have x1_2:=cO hx2 1 _ rfl
 have x2_2:=cO hx2 2 _ rfl
 have zs2:=hq2.kp.size
 have HS2:=a3_ hp2 hq2 hx2
 clear hp2 hq2 hx2
 go_wp2_with fail
 have HF:=HS2.out
 refine bodyPost_end (v:=.tuple #[]) (by simp [results,Tryz.results35,go_sem]) rfl ⟨⟨_,rfl⟩,.chr p1 p2 x',⟨?_,?_,?_,?_,?_,?_,?_,?_⟩,?_,HF.2.1⟩
 ·simp only [Ty.nd,gx.nd]
 ·simp only [Ty.ok];exact ⟨trivial,by constructor <;> omega,by constructor <;> omega,gx.ok⟩
 ·simp only [Ty.pos];exact hpq1
 ·simp only [Ty.pos,Ty.fin];omega
 ·simp only [Ty.pos,Ty.fin,Ty.pre];exact ((gx.nest.mono (by omega) (Int.le_refl _)).cons (by omega) _)
 ·simp only [Ty.fin];simp only [Ty.nd,Nd.size,Nd.sizeL,Nd.miss,Nd.name,Nd.lit,fl];omega
 ·simp only [Ty.toks,la_,lc_,ln_];simp only [Ty.nd,Nd.size,Nd.sizeL,Nd.miss,Nd.name,Nd.lit,fl];omega
 ·simp only [Ty.pre,la_,lc_,ln_];simp only [Ty.nd,Nd.size,Nd.sizeL,Nd.miss,Nd.name,Nd.lit,fl];omega
 ·have h9:=HF.1
  simpa [Ty.toks,Ty.pre,Ty.fin] using h9
theorem ex_sl (p q:Int) (x:Ty) (htx:TyC x):ExB (.sl p q x):=by
 intro w B base pb g at_ e out s hp hin hB hb hs
 have hbs:=hp.size
 simp only [Ty.nd] at hin hb hs ⊢
 simp only [Nd.size,Nd.sizeL,Nd.miss,Nd.name,Nd.lit,fl] at hb
 simp only [Nd.short,Nd.shortL,Nd.miss,Nd.name,Nd.lit] at hs
 obtain ⟨b1,b2,b3,b4⟩:=hb
 have hLs:=hd_ (Nd.In_iff.1 hin)
 obtain ⟨q,c,rfl,hc⟩:=hin.form
 obtain ⟨bb0,o0,c0,q0,d0,he,_,hb0,hi,k01,k02,k03,k04,k05⟩:=hLs.out.get (i:=0) rfl
 cases he
 have HK0:=hd_ k04
 clear k04 hi
 simp only [Nat.zero_mul,Nat.one_mul,Nat.add_zero] at k01 k02 k03
 obtain ⟨bb1,o1,c1,q1,d1,he,_,hb1,hi,k11,k12,k13,k14,k15⟩:=hLs.out.get (i:=1) rfl
 cases he
 have HK1:=hd_ k14
 clear k14 hi
 simp only [Nat.zero_mul,Nat.one_mul,Nat.add_zero] at k11 k12 k13
 have HP:=hd_ hp
 clear hp hin hLs
 simp only [Nd.l,la_,lc_,ln_,Nat.zero_add,Nat.reduceAdd] at hc
 show Calls _ _ #[_,.agg #[.string ⟨#[97,114,114,97,121]⟩,.string ⟨#[]⟩,.slice (some ⟨bb0,o0,none⟩) 2 c]] _ _
 have HTX:=hd_ htx
 clear htx
 go_enter Tryz.func35,Tryz.ntmps35
 have hk0:Kp No w (w.alloc (.cells #[.string ⟨#[97,114,114,97,121]⟩,.string ⟨#[]⟩,.slice (some ⟨bb0,o0,none⟩) 2 c] 24 (0,0))):=(Kp.refl No w).alloc _
 have hq0:Kq base w _:=Kq.of_no hk0
 have hp0:=HP.out.on hk0 (by simp)
 have hx0:=newOf w (.cells #[.string ⟨#[97,114,114,97,121]⟩,.string ⟨#[]⟩,.slice (some ⟨bb0,o0,none⟩) 2 c] 24 (0,0))
 generalize hw0:w.alloc (.cells #[.string ⟨#[97,114,114,97,121]⟩,.string ⟨#[]⟩,.slice (some ⟨bb0,o0,none⟩) 2 c] 24 (0,0))=w0 at hk0 hq0 hp0 hx0
 obtain ⟨k01_0,k02_0,k03_0⟩:=cellq hq0 (by omega) hbs k01 k02 k03
 obtain ⟨k11_0,k12_0,k13_0⟩:=cellq hq0 (by omega) hbs k11 k12 k13
 have xs0:w0.heap.size > w.heap.size:=ltb hx0
 have x0_0:=cO hx0 0 _ rfl
 have x1_0:=cO hx0 1 _ rfl
 have x2_0:=cO hx0 2 _ rfl
 have zs0:=hq0.kp.size
 have HS0:=a3_ hp0 hq0 hx0
 clear hp0 hq0 hx0
 clear hk0
 go_wp2_with fail
 try rw [hw0]
 clear hw0
 have ka0:Kp No w0 (w0.alloc (.cells #[.string ⟨#[91]⟩] 9 (0,0))):=(Kp.refl No w0).alloc _
 refine (tok1_c _ base pb _ 1 g _ _ _ ⟨#[91]⟩ (HS0.out.1.on ka0 (by simp)) (newOf w0 _) rfl (by decide) (by omega) (by omega) (by (try simp only [la_,lc_,ln_]);omega)).mono ?_
 rintro e1 w1 ⟨⟨v1,rfl⟩,p1,hpq1,hp1,hr1⟩
 have hgp1:=gapOf_le g (at_).length
 have hz1:(⟨#[91]⟩:ByteArray).size=1:=rfl
 rw [hz1] at hp1
 have hq1:=(HS0.out.2.1.no ka0).trans hr1
 have hx1:=hr1.kn w.heap.size _ _ _ (ka0.at HS0.out.2.2 (by simp)) (by decide) (by decide) (by decide)
 clear hr1 ka0
 clear k01_0 k02_0 k03_0 k11_0 k12_0 k13_0 x0_0 x1_0 x2_0
 obtain ⟨k01_1,k02_1,k03_1⟩:=cellq hq1 (by omega) hbs k01 k02 k03
 obtain ⟨k11_1,k12_1,k13_1⟩:=cellq hq1 (by omega) hbs k11 k12 k13
 have xs1:w1.heap.size > w.heap.size:=ltb hx1
 have x0_1:=cO hx1 0 _ rfl
 have x1_1:=cO hx1 1 _ rfl
 have x2_1:=cO hx1 2 _ rfl
 have zs1:=hq1.kp.size
 have HS1:=a3_ hp1 hq1 hx1
 clear hp1 hq1 hx1
 go_wp2_with fail
 have hin2:=HK0.out.stay (w':=w1) fun b hb=>HS1.out.2.1.kp.block b (by omega) (by simp only [Fr];omega)
 refine (part_miss w1 B pb _ hin2 (by omega)).mono ?_
 rintro e2 w2 ⟨⟨v2,rfl⟩,hr2⟩
 have hp2:=HS1.out.1.on hr2 (by simp)
 have hq2:=HS1.out.2.1.no hr2
 have hx2:=hr2.at HS1.out.2.2 (by simp)
 clear hr2 hin2
 clear k01_1 k02_1 k03_1 k11_1 k12_1 k13_1 x0_1 x1_1 x2_1
 obtain ⟨k01_2,k02_2,k03_2⟩:=cellq hq2 (by omega) hbs k01 k02 k03
 obtain ⟨k11_2,k12_2,k13_2⟩:=cellq hq2 (by omega) hbs k11 k12 k13
 have xs2:w2.heap.size > w.heap.size:=ltb hx2
 have x0_2:=cO hx2 0 _ rfl
 have x1_2:=cO hx2 1 _ rfl
 have x2_2:=cO hx2 2 _ rfl
 have zs2:=hq2.kp.size
 have HS2:=a3_ hp2 hq2 hx2
 clear hp2 hq2 hx2
 go_wp2_with fail
 have ka2:Kp No w2 (w2.alloc (.cells #[.string ⟨#[93]⟩] 9 (0,0))):=(Kp.refl No w2).alloc _
 refine (tok1_c _ base pb _ 1 g _ _ _ ⟨#[93]⟩ (HS2.out.1.on ka2 (by simp)) (newOf w2 _) rfl (by decide) (by omega) (by omega) (by (try simp only [la_,lc_,ln_]);omega)).mono ?_
 rintro e3 w3 ⟨⟨v3,rfl⟩,p2,hpq2,hp3,hr3⟩
 have hgp2:=gapOf_le g (at_++[p1]).length
 have hz3:(⟨#[93]⟩:ByteArray).size=1:=rfl
 rw [hz3] at hp3
 have hq3:=(HS2.out.2.1.no ka2).trans hr3
 have hx3:=hr3.kn w.heap.size _ _ _ (ka2.at HS2.out.2.2 (by simp)) (by decide) (by decide) (by decide)
 clear hr3 ka2
 clear k01_2 k02_2 k03_2 k11_2 k12_2 k13_2 x0_2 x1_2 x2_2
 obtain ⟨k01_3,k02_3,k03_3⟩:=cellq hq3 (by omega) hbs k01 k02 k03
 obtain ⟨k11_3,k12_3,k13_3⟩:=cellq hq3 (by omega) hbs k11 k12 k13
 have xs3:w3.heap.size > w.heap.size:=ltb hx3
 have x0_3:=cO hx3 0 _ rfl
 have x1_3:=cO hx3 1 _ rfl
 have x2_3:=cO hx3 2 _ rfl
 have zs3:=hq3.kp.size
 have HS3:=a3_ hp3 hq3 hx3
 clear hp3 hq3 hx3
 go_wp2_with fail
 have hin4:=HK1.out.stay (w':=w3) fun b hb=>HS3.out.2.1.kp.block b (by omega) (by simp only [Fr];omega)
 have hsz4:=Ty.size_pos x
 refine (HTX.out w3 B base pb g _ _ _ _ HS3.out.1 hin4 hB (by unfold Bnd;(try simp only [la_,lc_,ln_]);refine ⟨by omega,by omega,by omega,by omega⟩) hs.2.2.1).mono ?_
 rintro e4 w4 ⟨⟨v4,rfl⟩,x',gx,hp4,hr4⟩
 have hgpx:=gapOf_le g (at_++[p1]++[p2]).length
 have gpx:=gx.pos;have glx:=gx.le;have gfx:=gx.fin;have gtx:=gx.tk;have gqx:=gx.pl
 have hq4:=HS3.out.2.1.trans hr4
 have hx4:=hr4.kn w.heap.size _ _ _ HS3.out.2.2 (by decide) (by decide) (by decide)
 clear hr4 hin4
 clear k01_3 k02_3 k03_3 k11_3 k12_3 k13_3 x0_3 x1_3 x2_3
 obtain ⟨k01_4,k02_4,k03_4⟩:=cellq hq4 (by omega) hbs k01 k02 k03
 obtain ⟨k11_4,k12_4,k13_4⟩:=cellq hq4 (by omega) hbs k11 k12 k13
 have xs4:w4.heap.size > w.heap.size:=ltb hx4
 have x0_4:=cO hx4 0 _ rfl
 have x1_4:=cO hx4 1 _ rfl
 have x2_4:=cO hx4 2 _ rfl
 have zs4:=hq4.kp.size
 have HS4:=a3_ hp4 hq4 hx4
 clear hp4 hq4 hx4
 go_wp2_with fail
 have HF:=HS4.out
 refine bodyPost_end (v:=.tuple #[]) (by simp [results,Tryz.results35,go_sem]) rfl ⟨⟨_,rfl⟩,.sl p1 p2 x',⟨?_,?_,?_,?_,?_,?_,?_,?_⟩,?_,HF.2.1⟩
 ·simp only [Ty.nd,gx.nd]
 ·simp only [Ty.ok];exact ⟨trivial,by constructor <;> omega,by constructor <;> omega,gx.ok⟩
 ·simp only [Ty.pos];exact hpq1
 ·simp only [Ty.pos,Ty.fin];omega
 ·simp only [Ty.pos,Ty.fin,Ty.pre];exact ((gx.nest.mono (by omega) (Int.le_refl _)).cons (by omega) _)
 ·simp only [Ty.fin];simp only [Ty.nd,Nd.size,Nd.sizeL,Nd.miss,Nd.name,Nd.lit,fl];omega
 ·simp only [Ty.toks,la_,lc_,ln_];simp only [Ty.nd,Nd.size,Nd.sizeL,Nd.miss,Nd.name,Nd.lit,fl];omega
 ·simp only [Ty.pre,la_,lc_,ln_];simp only [Ty.nd,Nd.size,Nd.sizeL,Nd.miss,Nd.name,Nd.lit,fl];omega
 ·have h9:=HF.1
  simpa [Ty.toks,Ty.pre,Ty.fin] using h9
theorem ex_arr (p q:Int) (y x:Ty) (hty:TyC y) (htx:TyC x):ExB (.arr p y q x):=by
 intro w B base pb g at_ e out s hp hin hB hb hs
 have hbs:=hp.size
 simp only [Ty.nd] at hin hb hs ⊢
 simp only [Nd.size,Nd.sizeL,Nd.miss,Nd.name,Nd.lit,fl] at hb
 simp only [Nd.short,Nd.shortL,Nd.miss,Nd.name,Nd.lit] at hs
 obtain ⟨b1,b2,b3,b4⟩:=hb
 have hLs:=hd_ (Nd.In_iff.1 hin)
 obtain ⟨q,c,rfl,hc⟩:=hin.form
 obtain ⟨bb0,o0,c0,q0,d0,he,_,hb0,hi,k01,k02,k03,k04,k05⟩:=hLs.out.get (i:=0) rfl
 cases he
 have HK0:=hd_ k04
 clear k04 hi
 simp only [Nat.zero_mul,Nat.one_mul,Nat.add_zero] at k01 k02 k03
 obtain ⟨bb1,o1,c1,q1,d1,he,_,hb1,hi,k11,k12,k13,k14,k15⟩:=hLs.out.get (i:=1) rfl
 cases he
 have HK1:=hd_ k14
 clear k14 hi
 simp only [Nat.zero_mul,Nat.one_mul,Nat.add_zero] at k11 k12 k13
 have HP:=hd_ hp
 clear hp hin hLs
 simp only [Nd.l,la_,lc_,ln_,Nat.zero_add,Nat.reduceAdd] at hc
 show Calls _ _ #[_,.agg #[.string ⟨#[97,114,114,97,121]⟩,.string ⟨#[]⟩,.slice (some ⟨bb0,o0,none⟩) 2 c]] _ _
 have HTY:=hd_ hty
 have HTX:=hd_ htx
 clear hty htx
 go_enter Tryz.func35,Tryz.ntmps35
 have hk0:Kp No w (w.alloc (.cells #[.string ⟨#[97,114,114,97,121]⟩,.string ⟨#[]⟩,.slice (some ⟨bb0,o0,none⟩) 2 c] 24 (0,0))):=(Kp.refl No w).alloc _
 have hq0:Kq base w _:=Kq.of_no hk0
 have hp0:=HP.out.on hk0 (by simp)
 have hx0:=newOf w (.cells #[.string ⟨#[97,114,114,97,121]⟩,.string ⟨#[]⟩,.slice (some ⟨bb0,o0,none⟩) 2 c] 24 (0,0))
 generalize hw0:w.alloc (.cells #[.string ⟨#[97,114,114,97,121]⟩,.string ⟨#[]⟩,.slice (some ⟨bb0,o0,none⟩) 2 c] 24 (0,0))=w0 at hk0 hq0 hp0 hx0
 obtain ⟨k01_0,k02_0,k03_0⟩:=cellq hq0 (by omega) hbs k01 k02 k03
 obtain ⟨k11_0,k12_0,k13_0⟩:=cellq hq0 (by omega) hbs k11 k12 k13
 have xs0:w0.heap.size > w.heap.size:=ltb hx0
 have x0_0:=cO hx0 0 _ rfl
 have x1_0:=cO hx0 1 _ rfl
 have x2_0:=cO hx0 2 _ rfl
 have zs0:=hq0.kp.size
 have HS0:=a3_ hp0 hq0 hx0
 clear hp0 hq0 hx0
 clear hk0
 go_wp2_with fail
 try rw [hw0]
 clear hw0
 have ka0:Kp No w0 (w0.alloc (.cells #[.string ⟨#[91]⟩] 9 (0,0))):=(Kp.refl No w0).alloc _
 refine (tok1_c _ base pb _ 1 g _ _ _ ⟨#[91]⟩ (HS0.out.1.on ka0 (by simp)) (newOf w0 _) rfl (by decide) (by omega) (by omega) (by (try simp only [la_,lc_,ln_]);omega)).mono ?_
 rintro e1 w1 ⟨⟨v1,rfl⟩,p1,hpq1,hp1,hr1⟩
 have hgp1:=gapOf_le g (at_).length
 have hz1:(⟨#[91]⟩:ByteArray).size=1:=rfl
 rw [hz1] at hp1
 have hq1:=(HS0.out.2.1.no ka0).trans hr1
 have hx1:=hr1.kn w.heap.size _ _ _ (ka0.at HS0.out.2.2 (by simp)) (by decide) (by decide) (by decide)
 clear hr1 ka0
 clear k01_0 k02_0 k03_0 k11_0 k12_0 k13_0 x0_0 x1_0 x2_0
 obtain ⟨k01_1,k02_1,k03_1⟩:=cellq hq1 (by omega) hbs k01 k02 k03
 obtain ⟨k11_1,k12_1,k13_1⟩:=cellq hq1 (by omega) hbs k11 k12 k13
 have xs1:w1.heap.size > w.heap.size:=ltb hx1
 have x0_1:=cO hx1 0 _ rfl
 have x1_1:=cO hx1 1 _ rfl
 have x2_1:=cO hx1 2 _ rfl
 have zs1:=hq1.kp.size
 have HS1:=a3_ hp1 hq1 hx1
 clear hp1 hq1 hx1
 go_wp2_with fail
 have hin2:=HK0.out.stay (w':=w1) fun b hb=>HS1.out.2.1.kp.block b (by omega) (by simp only [Fr];omega)
 have hsz2:=Ty.size_pos y
 refine (part_node y HTY.out w1 B base pb g _ _ _ _ HS1.out.1 hin2 hB (by unfold Bnd;(try simp only [la_,lc_,ln_]);refine ⟨by omega,by omega,by omega,by omega⟩) hs.2.1).mono ?_
 rintro e2 w2 ⟨⟨v2,rfl⟩,y',gy,hp2,hr2⟩
 have hgpy:=gapOf_le g (at_++[p1]).length
 have gpy:=gy.pos;have gly:=gy.le;have gfy:=gy.fin;have gty:=gy.tk;have gqy:=gy.pl
 have hq2:=HS1.out.2.1.trans hr2
 have hx2:=hr2.kn w.heap.size _ _ _ HS1.out.2.2 (by decide) (by decide) (by decide)
 clear hr2 hin2
 clear k01_1 k02_1 k03_1 k11_1 k12_1 k13_1 x0_1 x1_1 x2_1
 obtain ⟨k01_2,k02_2,k03_2⟩:=cellq hq2 (by omega) hbs k01 k02 k03
 obtain ⟨k11_2,k12_2,k13_2⟩:=cellq hq2 (by omega) hbs k11 k12 k13
 have xs2:w2.heap.size > w.heap.size:=ltb hx2
 have x0_2:=cO hx2 0 _ rfl
 have x1_2:=cO hx2 1 _ rfl
 have x2_2:=cO hx2 2 _ rfl
 have zs2:=hq2.kp.size
 have HS2:=a3_ hp2 hq2 hx2
 clear hp2 hq2 hx2
 go_wp2_with fail
 have ka2:Kp No w2 (w2.alloc (.cells #[.string ⟨#[93]⟩] 9 (0,0))):=(Kp.refl No w2).alloc _
 refine (tok1_c _ base pb _ 1 g _ _ _ ⟨#[93]⟩ (HS2.out.1.on ka2 (by simp)) (newOf w2 _) rfl (by decide) (by omega) (by omega) (by (try simp only [la_,lc_,ln_]);omega)).mono ?_
 rintro e3 w3 ⟨⟨v3,rfl⟩,p2,hpq2,hp3,hr3⟩
 have hgp2:=gapOf_le g (at_++[p1]++y'.toks false).length
 have hz3:(⟨#[93]⟩:ByteArray).size=1:=rfl
 rw [hz3] at hp3
 have hq3:=(HS2.out.2.1.no ka2).trans hr3
 have hx3:=hr3.kn w.heap.size _ _ _ (ka2.at HS2.out.2.2 (by simp)) (by decide) (by decide) (by decide)
 clear hr3 ka2
 clear k01_2 k02_2 k03_2 k11_2 k12_2 k13_2 x0_2 x1_2 x2_2
 obtain ⟨k01_3,k02_3,k03_3⟩:=cellq hq3 (by omega) hbs k01 k02 k03
 obtain ⟨k11_3,k12_3,k13_3⟩:=cellq hq3 (by omega) hbs k11 k12 k13
 have xs3:w3.heap.size > w.heap.size:=ltb hx3
 have x0_3:=cO hx3 0 _ rfl
 have x1_3:=cO hx3 1 _ rfl
 have x2_3:=cO hx3 2 _ rfl
 have zs3:=hq3.kp.size
 have HS3:=a3_ hp3 hq3 hx3
 clear hp3 hq3 hx3
 go_wp2_with fail
 have hin4:=HK1.out.stay (w':=w3) fun b hb=>HS3.out.2.1.kp.block b (by omega) (by simp only [Fr];omega)
 have hsz4:=Ty.size_pos x
 refine (HTX.out w3 B base pb g _ _ _ _ HS3.out.1 hin4 hB (by unfold Bnd;(try simp only [la_,lc_,ln_]);refine ⟨by omega,by omega,by omega,by omega⟩) hs.2.2.1).mono ?_
 rintro e4 w4 ⟨⟨v4,rfl⟩,x',gx,hp4,hr4⟩
 have hgpx:=gapOf_le g (at_++[p1]++y'.toks false++[p2]).length
 have gpx:=gx.pos;have glx:=gx.le;have gfx:=gx.fin;have gtx:=gx.tk;have gqx:=gx.pl
 have hq4:=HS3.out.2.1.trans hr4
 have hx4:=hr4.kn w.heap.size _ _ _ HS3.out.2.2 (by decide) (by decide) (by decide)
 clear hr4 hin4
 clear k01_3 k02_3 k03_3 k11_3 k12_3 k13_3 x0_3 x1_3 x2_3
 obtain ⟨k01_4,k02_4,k03_4⟩:=cellq hq4 (by omega) hbs k01 k02 k03
 obtain ⟨k11_4,k12_4,k13_4⟩:=cellq hq4 (by omega) hbs k11 k12 k13
 have xs4:w4.heap.size > w.heap.size:=ltb hx4
 have x0_4:=cO hx4 0 _ rfl
 have x1_4:=cO hx4 1 _ rfl
 have x2_4:=cO hx4 2 _ rfl
 have zs4:=hq4.kp.size
 have HS4:=a3_ hp4 hq4 hx4
 clear hp4 hq4 hx4
 go_wp2_with fail
 have HF:=HS4.out
 refine bodyPost_end (v:=.tuple #[]) (by simp [results,Tryz.results35,go_sem]) rfl ⟨⟨_,rfl⟩,.arr p1 y' p2 x',⟨?_,?_,?_,?_,?_,?_,?_,?_⟩,?_,HF.2.1⟩
 ·simp only [Ty.nd,gx.nd,gy.nd]
 ·simp only [Ty.ok];exact ⟨trivial,by constructor <;> omega,gy.ok,by constructor <;> omega,gx.ok⟩
 ·simp only [Ty.pos];exact hpq1
 ·simp only [Ty.pos,Ty.fin];omega
 ·simp only [Ty.pos,Ty.fin,Ty.pre];exact ((((gy.nest.mono (a':=p1) (by omega) (Int.le_refl _)).append (gx.nest) (by omega) (by omega) (by omega))).cons (by omega) _)
 ·simp only [Ty.fin];simp only [Ty.nd,Nd.size,Nd.sizeL,Nd.miss,Nd.name,Nd.lit,fl];omega
 ·simp only [Ty.toks,la_,lc_,ln_];simp only [Ty.nd,Nd.size,Nd.sizeL,Nd.miss,Nd.name,Nd.lit,fl];omega
 ·simp only [Ty.pre,la_,lc_,ln_];simp only [Ty.nd,Nd.size,Nd.sizeL,Nd.miss,Nd.name,Nd.lit,fl];omega
 ·have h9:=HF.1
  simpa [Ty.toks,Ty.pre,Ty.fin] using h9
theorem ex_map (p q r:Int) (y x:Ty) (hty:TyC y) (htx:TyC x):ExB (.map p q y r x):=by
 intro w B base pb g at_ e out s hp hin hB hb hs
 have hbs:=hp.size
 simp only [Ty.nd] at hin hb hs ⊢
 simp only [Nd.size,Nd.sizeL,Nd.miss,Nd.name,Nd.lit,fl] at hb
 simp only [Nd.short,Nd.shortL,Nd.miss,Nd.name,Nd.lit] at hs
 obtain ⟨b1,b2,b3,b4⟩:=hb
 have hLs:=hd_ (Nd.In_iff.1 hin)
 obtain ⟨q,c,rfl,hc⟩:=hin.form
 obtain ⟨bb0,o0,c0,q0,d0,he,_,hb0,hi,k01,k02,k03,k04,k05⟩:=hLs.out.get (i:=0) rfl
 cases he
 have HK0:=hd_ k04
 clear k04 hi
 simp only [Nat.zero_mul,Nat.one_mul,Nat.add_zero] at k01 k02 k03
 obtain ⟨bb1,o1,c1,q1,d1,he,_,hb1,hi,k11,k12,k13,k14,k15⟩:=hLs.out.get (i:=1) rfl
 cases he
 have HK1:=hd_ k14
 clear k14 hi
 simp only [Nat.zero_mul,Nat.one_mul,Nat.add_zero] at k11 k12 k13
 have HP:=hd_ hp
 clear hp hin hLs
 simp only [Nd.l,la_,lc_,ln_,Nat.zero_add,Nat.reduceAdd] at hc
 show Calls _ _ #[_,.agg #[.string ⟨#[109,97,112]⟩,.string ⟨#[]⟩,.slice (some ⟨bb0,o0,none⟩) 2 c]] _ _
 have HTY:=hd_ hty
 have HTX:=hd_ htx
 clear hty htx
 go_enter Tryz.func35,Tryz.ntmps35
 have hk0:Kp No w (w.alloc (.cells #[.string ⟨#[109,97,112]⟩,.string ⟨#[]⟩,.slice (some ⟨bb0,o0,none⟩) 2 c] 24 (0,0))):=(Kp.refl No w).alloc _
 have hq0:Kq base w _:=Kq.of_no hk0
 have hp0:=HP.out.on hk0 (by simp)
 have hx0:=newOf w (.cells #[.string ⟨#[109,97,112]⟩,.string ⟨#[]⟩,.slice (some ⟨bb0,o0,none⟩) 2 c] 24 (0,0))
 generalize hw0:w.alloc (.cells #[.string ⟨#[109,97,112]⟩,.string ⟨#[]⟩,.slice (some ⟨bb0,o0,none⟩) 2 c] 24 (0,0))=w0 at hk0 hq0 hp0 hx0
 obtain ⟨k01_0,k02_0,k03_0⟩:=cellq hq0 (by omega) hbs k01 k02 k03
 obtain ⟨k11_0,k12_0,k13_0⟩:=cellq hq0 (by omega) hbs k11 k12 k13
 have xs0:w0.heap.size > w.heap.size:=ltb hx0
 have x0_0:=cO hx0 0 _ rfl
 have x1_0:=cO hx0 1 _ rfl
 have x2_0:=cO hx0 2 _ rfl
 have zs0:=hq0.kp.size
 have HS0:=a3_ hp0 hq0 hx0
 clear hp0 hq0 hx0
 clear hk0
 go_wp2_with fail
 try rw [hw0]
 clear hw0
 have ka0:Kp No w0 (w0.alloc (.cells #[.string ⟨#[109,97,112]⟩,.string ⟨#[91]⟩] 9 (0,0))):=(Kp.refl No w0).alloc _
 refine (tok2_c _ base pb _ 2 g _ _ _ ⟨#[109,97,112]⟩ ⟨#[91]⟩ (HS0.out.1.on ka0 (by simp)) (newOf w0 _) rfl (by decide) (by decide) (by omega) (by omega) (by (try simp only [la_,lc_,ln_]);omega)).mono ?_
 rintro e1 w1 ⟨⟨v1,rfl⟩,p1,p2,hpq1,hpr1,hps1,hp1,hr1⟩
 have hgp1:=gapOf_le g (at_).length
 have hz1:(⟨#[91]⟩:ByteArray).size=1:=rfl
 rw [hz1] at hp1
 have hy1:(⟨#[109,97,112]⟩:ByteArray).size=3:=rfl
 rw [hy1] at hpr1 hps1
 have hq1:=(HS0.out.2.1.no ka0).trans hr1
 have hx1:=hr1.kn w.heap.size _ _ _ (ka0.at HS0.out.2.2 (by simp)) (by decide) (by decide) (by decide)
 clear hr1 ka0
 clear k01_0 k02_0 k03_0 k11_0 k12_0 k13_0 x0_0 x1_0 x2_0
 obtain ⟨k01_1,k02_1,k03_1⟩:=cellq hq1 (by omega) hbs k01 k02 k03
 obtain ⟨k11_1,k12_1,k13_1⟩:=cellq hq1 (by omega) hbs k11 k12 k13
 have xs1:w1.heap.size > w.heap.size:=ltb hx1
 have x0_1:=cO hx1 0 _ rfl
 have x1_1:=cO hx1 1 _ rfl
 have x2_1:=cO hx1 2 _ rfl
 have zs1:=hq1.kp.size
 have HS1:=a3_ hp1 hq1 hx1
 clear hp1 hq1 hx1
 go_wp2_with fail
 have hin2:=HK0.out.stay (w':=w1) fun b hb=>HS1.out.2.1.kp.block b (by omega) (by simp only [Fr];omega)
 have hsz2:=Ty.size_pos y
 refine (HTY.out w1 B base pb g _ _ _ _ HS1.out.1 hin2 hB (by unfold Bnd;(try simp only [la_,lc_,ln_]);refine ⟨by omega,by omega,by omega,by omega⟩) hs.2.1).mono ?_
 rintro e2 w2 ⟨⟨v2,rfl⟩,y',gy,hp2,hr2⟩
 have hgpy:=gapOf_le g (at_++[p1,p2]).length
 have gpy:=gy.pos;have gly:=gy.le;have gfy:=gy.fin;have gty:=gy.tk;have gqy:=gy.pl
 have hq2:=HS1.out.2.1.trans hr2
 have hx2:=hr2.kn w.heap.size _ _ _ HS1.out.2.2 (by decide) (by decide) (by decide)
 clear hr2 hin2
 clear k01_1 k02_1 k03_1 k11_1 k12_1 k13_1 x0_1 x1_1 x2_1
 obtain ⟨k01_2,k02_2,k03_2⟩:=cellq hq2 (by omega) hbs k01 k02 k03
 obtain ⟨k11_2,k12_2,k13_2⟩:=cellq hq2 (by omega) hbs k11 k12 k13
 have xs2:w2.heap.size > w.heap.size:=ltb hx2
 have x0_2:=cO hx2 0 _ rfl
 have x1_2:=cO hx2 1 _ rfl
 have x2_2:=cO hx2 2 _ rfl
 have zs2:=hq2.kp.size
 have HS2:=a3_ hp2 hq2 hx2
 clear hp2 hq2 hx2
 go_wp2_with fail
 have ka2:Kp No w2 (w2.alloc (.cells #[.string ⟨#[93]⟩] 9 (0,0))):=(Kp.refl No w2).alloc _
 refine (tok1_c _ base pb _ 1 g _ _ _ ⟨#[93]⟩ (HS2.out.1.on ka2 (by simp)) (newOf w2 _) rfl (by decide) (by omega) (by omega) (by (try simp only [la_,lc_,ln_]);omega)).mono ?_
 rintro e3 w3 ⟨⟨v3,rfl⟩,p3,hpq3,hp3,hr3⟩
 have hgp3:=gapOf_le g (at_++[p1,p2]++y'.toks false).length
 have hz3:(⟨#[93]⟩:ByteArray).size=1:=rfl
 rw [hz3] at hp3
 have hq3:=(HS2.out.2.1.no ka2).trans hr3
 have hx3:=hr3.kn w.heap.size _ _ _ (ka2.at HS2.out.2.2 (by simp)) (by decide) (by decide) (by decide)
 clear hr3 ka2
 clear k01_2 k02_2 k03_2 k11_2 k12_2 k13_2 x0_2 x1_2 x2_2
 obtain ⟨k01_3,k02_3,k03_3⟩:=cellq hq3 (by omega) hbs k01 k02 k03
 obtain ⟨k11_3,k12_3,k13_3⟩:=cellq hq3 (by omega) hbs k11 k12 k13
 have xs3:w3.heap.size > w.heap.size:=ltb hx3
 have x0_3:=cO hx3 0 _ rfl
 have x1_3:=cO hx3 1 _ rfl
 have x2_3:=cO hx3 2 _ rfl
 have zs3:=hq3.kp.size
 have HS3:=a3_ hp3 hq3 hx3
 clear hp3 hq3 hx3
 go_wp2_with fail
 have hin4:=HK1.out.stay (w':=w3) fun b hb=>HS3.out.2.1.kp.block b (by omega) (by simp only [Fr];omega)
 have hsz4:=Ty.size_pos x
 refine (HTX.out w3 B base pb g _ _ _ _ HS3.out.1 hin4 hB (by unfold Bnd;(try simp only [la_,lc_,ln_]);refine ⟨by omega,by omega,by omega,by omega⟩) hs.2.2.1).mono ?_
 rintro e4 w4 ⟨⟨v4,rfl⟩,x',gx,hp4,hr4⟩
 have hgpx:=gapOf_le g (at_++[p1,p2]++y'.toks false++[p3]).length
 have gpx:=gx.pos;have glx:=gx.le;have gfx:=gx.fin;have gtx:=gx.tk;have gqx:=gx.pl
 have hq4:=HS3.out.2.1.trans hr4
 have hx4:=hr4.kn w.heap.size _ _ _ HS3.out.2.2 (by decide) (by decide) (by decide)
 clear hr4 hin4
 clear k01_3 k02_3 k03_3 k11_3 k12_3 k13_3 x0_3 x1_3 x2_3
 obtain ⟨k01_4,k02_4,k03_4⟩:=cellq hq4 (by omega) hbs k01 k02 k03
 obtain ⟨k11_4,k12_4,k13_4⟩:=cellq hq4 (by omega) hbs k11 k12 k13
 have xs4:w4.heap.size > w.heap.size:=ltb hx4
 have x0_4:=cO hx4 0 _ rfl
 have x1_4:=cO hx4 1 _ rfl
 have x2_4:=cO hx4 2 _ rfl
 have zs4:=hq4.kp.size
 have HS4:=a3_ hp4 hq4 hx4
 clear hp4 hq4 hx4
 go_wp2_with fail
 have HF:=HS4.out
 refine bodyPost_end (v:=.tuple #[]) (by simp [results,Tryz.results35,go_sem]) rfl ⟨⟨_,rfl⟩,.map p1 p2 y' p3 x',⟨?_,?_,?_,?_,?_,?_,?_,?_⟩,?_,HF.2.1⟩
 ·simp only [Ty.nd,gx.nd,gy.nd]
 ·simp only [Ty.ok];exact ⟨trivial,by constructor <;> omega,by constructor <;> omega,gy.ok,by constructor <;> omega,gx.ok⟩
 ·simp only [Ty.pos];exact hpq1
 ·simp only [Ty.pos,Ty.fin];omega
 ·simp only [Ty.pos,Ty.fin,Ty.pre];exact ((((gy.nest.mono (a':=p1) (by omega) (Int.le_refl _)).append (gx.nest) (by omega) (by omega) (by omega))).cons (by omega) _)
 ·simp only [Ty.fin];simp only [Ty.nd,Nd.size,Nd.sizeL,Nd.miss,Nd.name,Nd.lit,fl];omega
 ·simp only [Ty.toks,la_,lc_,ln_];simp only [Ty.nd,Nd.size,Nd.sizeL,Nd.miss,Nd.name,Nd.lit,fl];omega
 ·simp only [Ty.pre,la_,lc_,ln_];simp only [Ty.nd,Nd.size,Nd.sizeL,Nd.miss,Nd.name,Nd.lit,fl];omega
 ·have h9:=HF.1
  simpa [Ty.toks,Ty.pre,Ty.fin] using h9
theorem ex_sel (d p:Int) (s0:ByteArray) (x:Ty) (htx:TyC x):ExB (.sel x d p s0):=by
 intro w B base pb g at_ e out s hp hin hB hb hs
 have hbs:=hp.size
 simp only [Ty.nd] at hin hb hs ⊢
 simp only [Nd.size,Nd.sizeL,Nd.miss,Nd.name,Nd.lit,fl] at hb
 simp only [Nd.short,Nd.shortL,Nd.miss,Nd.name,Nd.lit] at hs
 obtain ⟨b1,b2,b3,b4⟩:=hb
 have hLs:=hd_ (Nd.In_iff.1 hin)
 obtain ⟨q,c,rfl,hc⟩:=hin.form
 obtain ⟨bb0,o0,c0,q0,d0,he,_,hb0,hi,k01,k02,k03,k04,k05⟩:=hLs.out.get (i:=0) rfl
 cases he
 have HK0:=hd_ k04
 clear k04 hi
 simp only [Nat.zero_mul,Nat.one_mul,Nat.add_zero] at k01 k02 k03
 have HP:=hd_ hp
 clear hp hin hLs
 simp only [Nd.l,la_,lc_,ln_,Nat.zero_add,Nat.reduceAdd] at hc
 show Calls _ _ #[_,.agg #[.string ⟨#[115,101,108,101,99,116]⟩,.string s0,.slice (some ⟨bb0,o0,none⟩) 1 c]] _ _
 have HTX:=hd_ htx
 clear htx
 go_enter Tryz.func35,Tryz.ntmps35
 have hk0:Kp No w (w.alloc (.cells #[.string ⟨#[115,101,108,101,99,116]⟩,.string s0,.slice (some ⟨bb0,o0,none⟩) 1 c] 24 (0,0))):=(Kp.refl No w).alloc _
 have hq0:Kq base w _:=Kq.of_no hk0
 have hp0:=HP.out.on hk0 (by simp)
 have hx0:=newOf w (.cells #[.string ⟨#[115,101,108,101,99,116]⟩,.string s0,.slice (some ⟨bb0,o0,none⟩) 1 c] 24 (0,0))
 generalize hw0:w.alloc (.cells #[.string ⟨#[115,101,108,101,99,116]⟩,.string s0,.slice (some ⟨bb0,o0,none⟩) 1 c] 24 (0,0))=w0 at hk0 hq0 hp0 hx0
 obtain ⟨k01_0,k02_0,k03_0⟩:=cellq hq0 (by omega) hbs k01 k02 k03
 have xs0:w0.heap.size > w.heap.size:=ltb hx0
 have x0_0:=cO hx0 0 _ rfl
 have x1_0:=cO hx0 1 _ rfl
 have x2_0:=cO hx0 2 _ rfl
 have zs0:=hq0.kp.size
 have HS0:=a3_ hp0 hq0 hx0
 clear hp0 hq0 hx0
 clear hk0
 go_wp2_with fail
 try rw [hw0]
 clear hw0
 have hin1:=HK0.out.stay (w':=w0) fun b hb=>HS0.out.2.1.kp.block b (by omega) (by simp only [Fr];omega)
 have hsz1:=Ty.size_pos x
 refine (HTX.out w0 B base pb g _ _ _ _ HS0.out.1 hin1 hB (by unfold Bnd;(try simp only [la_,lc_,ln_]);refine ⟨by omega,by omega,by omega,by omega⟩) hs.2.1).mono ?_
 rintro e1 w1 ⟨⟨v1,rfl⟩,x',gx,hp1,hr1⟩
 have hgpx:=gapOf_le g (at_).length
 have gpx:=gx.pos;have glx:=gx.le;have gfx:=gx.fin;have gtx:=gx.tk;have gqx:=gx.pl
 have hq1:=HS0.out.2.1.trans hr1
 have hx1:=hr1.kn w.heap.size _ _ _ HS0.out.2.2 (by decide) (by decide) (by decide)
 clear hr1 hin1
 clear k01_0 k02_0 k03_0 x0_0 x1_0 x2_0
 obtain ⟨k01_1,k02_1,k03_1⟩:=cellq hq1 (by omega) hbs k01 k02 k03
 have xs1:w1.heap.size > w.heap.size:=ltb hx1
 have x0_1:=cO hx1 0 _ rfl
 have x1_1:=cO hx1 1 _ rfl
 have x2_1:=cO hx1 2 _ rfl
 have zs1:=hq1.kp.size
 have HS1:=a3_ hp1 hq1 hx1
 clear hp1 hq1 hx1
 go_wp2_with fail
 have ka1:Kp No w1 (w1.alloc (.cells #[.string ⟨#[46]⟩] 9 (0,0))):=(Kp.refl No w1).alloc _
 refine (tok1_c _ base pb _ 1 g _ _ _ ⟨#[46]⟩ (HS1.out.1.on ka1 (by simp)) (newOf w1 _) rfl (by decide) (by omega) (by omega) (by (try simp only [la_,lc_,ln_]);omega)).mono ?_
 rintro e2 w2 ⟨⟨v2,rfl⟩,p1,hpq1,hp2,hr2⟩
 have hgp1:=gapOf_le g (at_++x'.toks false).length
 have hz2:(⟨#[46]⟩:ByteArray).size=1:=rfl
 rw [hz2] at hp2
 have hq2:=(HS1.out.2.1.no ka1).trans hr2
 have hx2:=hr2.kn w.heap.size _ _ _ (ka1.at HS1.out.2.2 (by simp)) (by decide) (by decide) (by decide)
 clear hr2 ka1
 clear k01_1 k02_1 k03_1 x0_1 x1_1 x2_1
 obtain ⟨k01_2,k02_2,k03_2⟩:=cellq hq2 (by omega) hbs k01 k02 k03
 have xs2:w2.heap.size > w.heap.size:=ltb hx2
 have x0_2:=cO hx2 0 _ rfl
 have x1_2:=cO hx2 1 _ rfl
 have x2_2:=cO hx2 2 _ rfl
 have zs2:=hq2.kp.size
 have HS2:=a3_ hp2 hq2 hx2
 clear hp2 hq2 hx2
 go_wp2_with fail
 refine (pident_c w2 s0).mono ?_
 rintro e3 wi ⟨rfl,hri⟩
 have hpi:=HS2.out.1.on hri (by simp)
 have hqi:=HS2.out.2.1.no hri
 have hxi:=hri.at HS2.out.2.2 (by simp)
 have HI:=a3_ hpi hqi hxi
 clear hpi hqi hxi hri
 clear k01_2 k02_2 k03_2 x0_2 x1_2 x2_2
 go_wp2_with fail
 refine (node_name wi base pb g _ _ _ s0 none 0 HI.out.1 (by omega) (by omega) (by (try simp only [la_,lc_,ln_]);omega) (by (try simp only [la_,lc_,ln_]);omega) (hs.1)).mono ?_
 rintro e4 w3 ⟨⟨v3,rfl⟩,pn,gpn,hp3,hr3⟩
 have hgpn:=gapOf_le g (at_++x'.toks false++[p1]).length
 have hq3:=HI.out.2.1.trans hr3
 have hx3:=hr3.kn w.heap.size _ _ _ HI.out.2.2 (by decide) (by decide) (by decide)
 clear hr3
 obtain ⟨k01_3,k02_3,k03_3⟩:=cellq hq3 (by omega) hbs k01 k02 k03
 have xs3:w3.heap.size > w.heap.size:=ltb hx3
 have x0_3:=cO hx3 0 _ rfl
 have x1_3:=cO hx3 1 _ rfl
 have x2_3:=cO hx3 2 _ rfl
 have zs3:=hq3.kp.size
 have HS3:=a3_ hp3 hq3 hx3
 clear hp3 hq3 hx3
 go_wp2_with fail
 have HF:=HS3.out
 refine bodyPost_end (v:=.tuple #[]) (by simp [results,Tryz.results35,go_sem]) rfl ⟨⟨_,rfl⟩,.sel x' p1 pn s0,⟨?_,?_,?_,?_,?_,?_,?_,?_⟩,?_,HF.2.1⟩
 ·simp only [Ty.nd,gx.nd]
 ·simp only [Ty.ok];exact ⟨trivial,gx.ok,by constructor <;> omega,by constructor <;> omega,hs.1⟩
 ·simp only [Ty.pos];exact gpx
 ·simp only [Ty.pos,Ty.fin];omega
 ·simp only [Ty.pos,Ty.fin,Ty.pre];exact ((gx.nest.append (Nest.one (a:=pn) (b:=pn+s0.size) (by omega) ⟨#[110,97,109,101]⟩) (by omega) (by omega) (by omega)).cons (by omega) _)
 ·simp only [Ty.fin];simp only [Ty.nd,Nd.size,Nd.sizeL,Nd.miss,Nd.name,Nd.lit,fl];omega
 ·simp only [Ty.toks,la_,lc_,ln_];simp only [Ty.nd,Nd.size,Nd.sizeL,Nd.miss,Nd.name,Nd.lit,fl];omega
 ·simp only [Ty.pre,la_,lc_,ln_];simp only [Ty.nd,Nd.size,Nd.sizeL,Nd.miss,Nd.name,Nd.lit,fl];omega
 ·have h9:=HF.1
  simpa [Ty.toks,Ty.pre,Ty.fin] using h9
theorem ex_struct (p o:Int) (f:Fs) (c9:Int) (htf:FlC f false false):ExB (.struct p o f c9):=by
 intro w B base pb g at_ e out s hp hin hB hb hs
 have hbs:=hp.size
 simp only [Ty.nd] at hin hb hs ⊢
 simp only [Nd.size,Nd.sizeL,Nd.miss,Nd.name,Nd.lit,fl] at hb
 simp only [Nd.short,Nd.shortL,Nd.miss,Nd.name,Nd.lit] at hs
 obtain ⟨b1,b2,b3,b4⟩:=hb
 have hLs:=hd_ (Nd.In_iff.1 hin)
 obtain ⟨q,c,rfl,hc⟩:=hin.form
 obtain ⟨bb0,o0,c0,q0,d0,he,_,hb0,hi,k01,k02,k03,k04,k05⟩:=hLs.out.get (i:=0) rfl
 cases he
 have HK0:=hd_ k04
 clear k04 hi
 simp only [Nat.zero_mul,Nat.one_mul,Nat.add_zero] at k01 k02 k03
 have HP:=hd_ hp
 clear hp hin hLs
 simp only [Nd.l,la_,lc_,ln_,Nat.zero_add,Nat.reduceAdd] at hc
 show Calls _ _ #[_,.agg #[.string ⟨#[115,116,114,117,99,116]⟩,.string ⟨#[]⟩,.slice (some ⟨bb0,o0,none⟩) 1 c]] _ _
 have HTF:=hd_ htf
 clear htf
 go_enter Tryz.func35,Tryz.ntmps35
 have hk0:Kp No w (w.alloc (.cells #[.string ⟨#[115,116,114,117,99,116]⟩,.string ⟨#[]⟩,.slice (some ⟨bb0,o0,none⟩) 1 c] 24 (0,0))):=(Kp.refl No w).alloc _
 have hq0:Kq base w _:=Kq.of_no hk0
 have hp0:=HP.out.on hk0 (by simp)
 have hx0:=newOf w (.cells #[.string ⟨#[115,116,114,117,99,116]⟩,.string ⟨#[]⟩,.slice (some ⟨bb0,o0,none⟩) 1 c] 24 (0,0))
 generalize hw0:w.alloc (.cells #[.string ⟨#[115,116,114,117,99,116]⟩,.string ⟨#[]⟩,.slice (some ⟨bb0,o0,none⟩) 1 c] 24 (0,0))=w0 at hk0 hq0 hp0 hx0
 obtain ⟨k01_0,k02_0,k03_0⟩:=cellq hq0 (by omega) hbs k01 k02 k03
 have xs0:w0.heap.size > w.heap.size:=ltb hx0
 have x0_0:=cO hx0 0 _ rfl
 have x1_0:=cO hx0 1 _ rfl
 have x2_0:=cO hx0 2 _ rfl
 have zs0:=hq0.kp.size
 have HS0:=a3_ hp0 hq0 hx0
 clear hp0 hq0 hx0
 clear hk0
 go_wp2_with fail
 try rw [hw0]
 clear hw0
 have ka0:Kp No w0 (w0.alloc (.cells #[.string ⟨#[115,116,114,117,99,116]⟩] 9 (0,0))):=(Kp.refl No w0).alloc _
 refine (tok1_c _ base pb _ 1 g _ _ _ ⟨#[115,116,114,117,99,116]⟩ (HS0.out.1.on ka0 (by simp)) (newOf w0 _) rfl (by decide) (by omega) (by omega) (by (try simp only [la_,lc_,ln_]);omega)).mono ?_
 rintro e1 w1 ⟨⟨v1,rfl⟩,p1,hpq1,hp1,hr1⟩
 have hgp1:=gapOf_le g (at_).length
 have hz1:(⟨#[115,116,114,117,99,116]⟩:ByteArray).size=6:=rfl
 rw [hz1] at hp1
 have hq1:=(HS0.out.2.1.no ka0).trans hr1
 have hx1:=hr1.kn w.heap.size _ _ _ (ka0.at HS0.out.2.2 (by simp)) (by decide) (by decide) (by decide)
 clear hr1 ka0
 clear k01_0 k02_0 k03_0 x0_0 x1_0 x2_0
 obtain ⟨k01_1,k02_1,k03_1⟩:=cellq hq1 (by omega) hbs k01 k02 k03
 have xs1:w1.heap.size > w.heap.size:=ltb hx1
 have x0_1:=cO hx1 0 _ rfl
 have x1_1:=cO hx1 1 _ rfl
 have x2_1:=cO hx1 2 _ rfl
 have zs1:=hq1.kp.size
 have HS1:=a3_ hp1 hq1 hx1
 clear hp1 hq1 hx1
 go_wp2_with fail
 have hin2:=HK0.out.stay (w':=w1) fun b hb=>HS1.out.2.1.kp.block b (by omega) (by simp only [Fr];omega)
 refine (HTF.out w1 B base pb g _ _ _ _ HS1.out.1 hin2 hB (by unfold Bnd;(try simp only [la_,lc_,ln_]);refine ⟨by omega,by omega,by omega,by omega⟩) (by simp only [fl,Nd.short,Nd.shortL] at hs ⊢;exact hs.2.1)).mono ?_
 rintro e2 w2 ⟨⟨v2,rfl⟩,f',o',c',gf,hp2,hr2⟩
 have hgpf:=gapOf_le g (at_++[p1]).length
 have gpf:=gf.pos;have glf:=gf.lt;have gff:=gf.fin;have gtf:=gf.tk;have gqf:=gf.pl
 have hq2:=HS1.out.2.1.trans hr2
 have hx2:=hr2.kn w.heap.size _ _ _ HS1.out.2.2 (by decide) (by decide) (by decide)
 clear hr2 hin2
 clear k01_1 k02_1 k03_1 x0_1 x1_1 x2_1
 obtain ⟨k01_2,k02_2,k03_2⟩:=cellq hq2 (by omega) hbs k01 k02 k03
 have xs2:w2.heap.size > w.heap.size:=ltb hx2
 have x0_2:=cO hx2 0 _ rfl
 have x1_2:=cO hx2 1 _ rfl
 have x2_2:=cO hx2 2 _ rfl
 have zs2:=hq2.kp.size
 have HS2:=a3_ hp2 hq2 hx2
 clear hp2 hq2 hx2
 go_wp2_with fail
 have HF:=HS2.out
 refine bodyPost_end (v:=.tuple #[]) (by simp [results,Tryz.results35,go_sem]) rfl ⟨⟨_,rfl⟩,.struct p1 o' f' c',⟨?_,?_,?_,?_,?_,?_,?_,?_⟩,?_,HF.2.1⟩
 ·simp only [Ty.nd,gf.nds]
 ·simp only [Ty.ok];exact ⟨trivial,by constructor <;> omega,by constructor <;> omega,gf.ok,by constructor <;> omega⟩
 ·simp only [Ty.pos];exact hpq1
 ·simp only [Ty.pos,Ty.fin];omega
 ·simp only [Ty.pos,Ty.fin,Ty.pre];exact ((((gf.nest).cons (by omega) (⟨#[102,105,101,108,100,115]⟩:ByteArray)).mono (by omega) (Int.le_refl _)).cons (by omega) _)
 ·simp only [Ty.fin];simp only [Ty.nd,Nd.size,Nd.sizeL,Nd.miss,Nd.name,Nd.lit,fl];omega
 ·simp only [Ty.toks,la_,lc_,ln_];simp only [Ty.nd,Nd.size,Nd.sizeL,Nd.miss,Nd.name,Nd.lit,fl];omega
 ·simp only [Ty.pre,la_,lc_,ln_];simp only [Ty.nd,Nd.size,Nd.sizeL,Nd.miss,Nd.name,Nd.lit,fl];omega
 ·have h9:=HF.1
  simpa [Ty.toks,Ty.pre,Ty.fin] using h9
theorem ex_iface (p o:Int) (f:Fs) (c9:Int) (htf:FlC f false true):ExB (.iface p o f c9):=by
 intro w B base pb g at_ e out s hp hin hB hb hs
 have hbs:=hp.size
 simp only [Ty.nd] at hin hb hs ⊢
 simp only [Nd.size,Nd.sizeL,Nd.miss,Nd.name,Nd.lit,fl] at hb
 simp only [Nd.short,Nd.shortL,Nd.miss,Nd.name,Nd.lit] at hs
 obtain ⟨b1,b2,b3,b4⟩:=hb
 have hLs:=hd_ (Nd.In_iff.1 hin)
 obtain ⟨q,c,rfl,hc⟩:=hin.form
 obtain ⟨bb0,o0,c0,q0,d0,he,_,hb0,hi,k01,k02,k03,k04,k05⟩:=hLs.out.get (i:=0) rfl
 cases he
 have HK0:=hd_ k04
 clear k04 hi
 simp only [Nat.zero_mul,Nat.one_mul,Nat.add_zero] at k01 k02 k03
 have HP:=hd_ hp
 clear hp hin hLs
 simp only [Nd.l,la_,lc_,ln_,Nat.zero_add,Nat.reduceAdd] at hc
 show Calls _ _ #[_,.agg #[.string ⟨#[105,110,116,101,114,102,97,99,101]⟩,.string ⟨#[]⟩,.slice (some ⟨bb0,o0,none⟩) 1 c]] _ _
 have HTF:=hd_ htf
 clear htf
 go_enter Tryz.func35,Tryz.ntmps35
 have hk0:Kp No w (w.alloc (.cells #[.string ⟨#[105,110,116,101,114,102,97,99,101]⟩,.string ⟨#[]⟩,.slice (some ⟨bb0,o0,none⟩) 1 c] 24 (0,0))):=(Kp.refl No w).alloc _
 have hq0:Kq base w _:=Kq.of_no hk0
 have hp0:=HP.out.on hk0 (by simp)
 have hx0:=newOf w (.cells #[.string ⟨#[105,110,116,101,114,102,97,99,101]⟩,.string ⟨#[]⟩,.slice (some ⟨bb0,o0,none⟩) 1 c] 24 (0,0))
 generalize hw0:w.alloc (.cells #[.string ⟨#[105,110,116,101,114,102,97,99,101]⟩,.string ⟨#[]⟩,.slice (some ⟨bb0,o0,none⟩) 1 c] 24 (0,0))=w0 at hk0 hq0 hp0 hx0
 obtain ⟨k01_0,k02_0,k03_0⟩:=cellq hq0 (by omega) hbs k01 k02 k03
 have xs0:w0.heap.size > w.heap.size:=ltb hx0
 have x0_0:=cO hx0 0 _ rfl
 have x1_0:=cO hx0 1 _ rfl
 have x2_0:=cO hx0 2 _ rfl
 have zs0:=hq0.kp.size
 have HS0:=a3_ hp0 hq0 hx0
 clear hp0 hq0 hx0
 clear hk0
 go_wp2_with fail
 try rw [hw0]
 clear hw0
 have ka0:Kp No w0 (w0.alloc (.cells #[.string ⟨#[105,110,116,101,114,102,97,99,101]⟩] 9 (0,0))):=(Kp.refl No w0).alloc _
 refine (tok1_c _ base pb _ 1 g _ _ _ ⟨#[105,110,116,101,114,102,97,99,101]⟩ (HS0.out.1.on ka0 (by simp)) (newOf w0 _) rfl (by decide) (by omega) (by omega) (by (try simp only [la_,lc_,ln_]);omega)).mono ?_
 rintro e1 w1 ⟨⟨v1,rfl⟩,p1,hpq1,hp1,hr1⟩
 have hgp1:=gapOf_le g (at_).length
 have hz1:(⟨#[105,110,116,101,114,102,97,99,101]⟩:ByteArray).size=9:=rfl
 rw [hz1] at hp1
 have hq1:=(HS0.out.2.1.no ka0).trans hr1
 have hx1:=hr1.kn w.heap.size _ _ _ (ka0.at HS0.out.2.2 (by simp)) (by decide) (by decide) (by decide)
 clear hr1 ka0
 clear k01_0 k02_0 k03_0 x0_0 x1_0 x2_0
 obtain ⟨k01_1,k02_1,k03_1⟩:=cellq hq1 (by omega) hbs k01 k02 k03
 have xs1:w1.heap.size > w.heap.size:=ltb hx1
 have x0_1:=cO hx1 0 _ rfl
 have x1_1:=cO hx1 1 _ rfl
 have x2_1:=cO hx1 2 _ rfl
 have zs1:=hq1.kp.size
 have HS1:=a3_ hp1 hq1 hx1
 clear hp1 hq1 hx1
 go_wp2_with fail
 have hin2:=HK0.out.stay (w':=w1) fun b hb=>HS1.out.2.1.kp.block b (by omega) (by simp only [Fr];omega)
 refine (HTF.out w1 B base pb g _ _ _ _ HS1.out.1 hin2 hB (by unfold Bnd;(try simp only [la_,lc_,ln_]);refine ⟨by omega,by omega,by omega,by omega⟩) (by simp only [fl,Nd.short,Nd.shortL] at hs ⊢;exact hs.2.1)).mono ?_
 rintro e2 w2 ⟨⟨v2,rfl⟩,f',o',c',gf,hp2,hr2⟩
 have hgpf:=gapOf_le g (at_++[p1]).length
 have gpf:=gf.pos;have glf:=gf.lt;have gff:=gf.fin;have gtf:=gf.tk;have gqf:=gf.pl
 have hq2:=HS1.out.2.1.trans hr2
 have hx2:=hr2.kn w.heap.size _ _ _ HS1.out.2.2 (by decide) (by decide) (by decide)
 clear hr2 hin2
 clear k01_1 k02_1 k03_1 x0_1 x1_1 x2_1
 obtain ⟨k01_2,k02_2,k03_2⟩:=cellq hq2 (by omega) hbs k01 k02 k03
 have xs2:w2.heap.size > w.heap.size:=ltb hx2
 have x0_2:=cO hx2 0 _ rfl
 have x1_2:=cO hx2 1 _ rfl
 have x2_2:=cO hx2 2 _ rfl
 have zs2:=hq2.kp.size
 have HS2:=a3_ hp2 hq2 hx2
 clear hp2 hq2 hx2
 go_wp2_with fail
 have HF:=HS2.out
 refine bodyPost_end (v:=.tuple #[]) (by simp [results,Tryz.results35,go_sem]) rfl ⟨⟨_,rfl⟩,.iface p1 o' f' c',⟨?_,?_,?_,?_,?_,?_,?_,?_⟩,?_,HF.2.1⟩
 ·simp only [Ty.nd,gf.nds]
 ·simp only [Ty.ok];exact ⟨trivial,by constructor <;> omega,by constructor <;> omega,gf.ok,by constructor <;> omega⟩
 ·simp only [Ty.pos];exact hpq1
 ·simp only [Ty.pos,Ty.fin];omega
 ·simp only [Ty.pos,Ty.fin,Ty.pre];exact ((((gf.nest).cons (by omega) (⟨#[102,105,101,108,100,115]⟩:ByteArray)).mono (by omega) (Int.le_refl _)).cons (by omega) _)
 ·simp only [Ty.fin];simp only [Ty.nd,Nd.size,Nd.sizeL,Nd.miss,Nd.name,Nd.lit,fl];omega
 ·simp only [Ty.toks,la_,lc_,ln_];simp only [Ty.nd,Nd.size,Nd.sizeL,Nd.miss,Nd.name,Nd.lit,fl];omega
 ·simp only [Ty.pre,la_,lc_,ln_];simp only [Ty.nd,Nd.size,Nd.sizeL,Nd.miss,Nd.name,Nd.lit,fl];omega
 ·have h9:=HF.1
  simpa [Ty.toks,Ty.pre,Ty.fin] using h9
end
end Go.Proofs.YtnkbglhdpmbgfaaGreatFmt
