/- A part of the proof; no condition: PlM, PlN, PlO. -/
import Derived.Test.YtnkbglhdpmbgfaaGreatFmtM
import Derived.Test.YtnkbglhdpmbgfaaGreatFmtM08
import Derived.Test.YtnkbglhdpmbgfaaGreatFmtM00
set_option linter.all false
set_option maxHeartbeats 16000000
set_option maxRecDepth 100000
namespace Go.Proofs.YtnkbglhdpmbgfaaGreatFmt
section
open Go Go.RowKit
theorem SgG.ty {g at1:List Int} {e1:Int} {ps rs ps' rs':Fs} {b:Bool} {o c o' c' f p0 o0 c0 o0' c0' pp:Int} {z:Bool} (h:SgG g at1 e1 ps rs b ps' o c o' rs' c' f) (he:1≤e1) (hM:e1+16777216*((Ty.sig p0 o0 ps c0 b o0' rs c0').nd.size - 1:Nat)≤1125899906842624) (hz:if z then pp=0 else Pk pp) :
 (Ty.sig pp o ps' c b o' rs' c').nd=(Ty.sig p0 o0 ps c0 b o0' rs c0').nd∧(Ty.sig pp o ps' c b o' rs' c').ok z∧(Ty.sig pp o ps' c b o' rs' c').fin=f∧(Ty.sig pp o ps' c b o' rs' c').toks true=sgToks ps' o c b o' rs' c' ∧
   (Ty.sig pp o ps' c b o' rs' c').pre=⟨⟨#[115,105,103,110,97,116,117,114,101]⟩,(Ty.sig pp o ps' c b o' rs' c').pos,f⟩::sgPre ps' o c b o' rs' c'∧Nest o f (sgPre ps' o c b o' rs' c')∧o=e1+gapOf g at1.length∧o≤f∧f≤e1+16777216*((Ty.sig p0 o0 ps c0 b o0' rs c0').nd.size - 1:Nat) ∧
   (sgToks ps' o c b o' rs' c').length≤8*((Ty.sig p0 o0 ps c0 b o0' rs c0').nd.size - 1)∧(sgPre ps' o c b o' rs' c').length≤4*((Ty.sig p0 o0 ps c0 b o0' rs c0').nd.size - 1):=by
 obtain ⟨h1,h2⟩:=h
 have hg:=gapOf_le g at1.length
 have hp:=h1.pos;have hl:=h1.lt;have hf:=h1.fin;have ht:=h1.tk;have hq:=h1.pl;have hn:=h1.nest;have hok:=h1.ok;have hnd:=h1.nds
 cases b with
 | true =>
  simp only [if_true] at h2
  obtain ⟨at2,h2,rfl⟩:=h2
  have hg2:=gapOf_le g at2.length
  have hp2:=h2.pos;have hl2:=h2.lt;have hf2:=h2.fin;have ht2:=h2.tk;have hq2:=h2.pl;have hn2:=h2.nest
  simp only [Ty.nd,fl,if_true,Nd.size,Nd.sizeL] at hM ⊢
  refine ⟨by rw [hnd,h2.nds],?_,rfl,by simp [Ty.toks,sgToks],by simp [Ty.pre,Ty.pos,sgPre],?_,hp,by omega,by omega,?_,?_⟩
  ·simp only [Ty.ok,if_true]
   exact ⟨hz,by constructor <;> omega,hok,by constructor <;> omega,by constructor <;> omega,h2.ok,by constructor <;> omega⟩
  ·simp only [sgPre,if_true]
   exact (hn.cons (by omega) _).append (hn2.cons (by omega) _) (by omega) (by omega) (by omega)
  ·simp only [sgToks,if_true,la_,lc_,ln_] at ht ht2 ⊢;omega
  ·simp only [sgPre,if_true,la_,lc_] at hq hq2 ⊢;omega
 | false =>
  simp only [Bool.false_eq_true,if_false] at h2
  obtain ⟨rfl,rfl⟩:=h2
  simp only [Ty.nd,fl,Bool.false_eq_true,if_false,Nd.miss,Nd.size,Nd.sizeL] at hM ⊢
  refine ⟨by rw [hnd],?_,rfl,by simp [Ty.toks,sgToks],by simp [Ty.pre,Ty.pos,sgPre],?_,hp,by omega,by omega,?_,?_⟩
  ·simp only [Ty.ok,Bool.false_eq_true,if_false]
   exact ⟨hz,by constructor <;> omega,hok,by constructor <;> omega,by trivial⟩
  ·simp only [sgPre,Bool.false_eq_true,if_false,List.append_nil]
   exact hn.cons (by omega) _
  ·simp only [sgToks,Bool.false_eq_true,if_false,List.append_nil,la_,lc_,ln_] at ht ⊢;omega
  ·simp only [sgPre,Bool.false_eq_true,if_false,List.append_nil,lc_] at hq ⊢;omega
theorem sig_any (p0 o0:Int) (ps:Fs) (c0:Int) (b:Bool) (o0':Int) (rs:Fs) (c0':Int) (hps:FlC ps true false) (hrs:b=true→FlC rs true false) (w:World) (B base pb:Nat) (g at_:List Int) (e fr:Int) (out:List Pl) (s:Value) (hp:PSt w base pb g at_ e out) (hin:(Ty.sig p0 o0 ps c0 b o0' rs c0').nd.In w B s) (hB:B≤base)
 (hb1:1≤e) (hb2:e+16777216*((Ty.sig p0 o0 ps c0 b o0' rs c0').nd.size - 1:Nat)≤1125899906842624) (hb3:at_.length+8*((Ty.sig p0 o0 ps c0 b o0' rs c0').nd.size - 1)≤1048576) (hb4:out.length+4*((Ty.sig p0 o0 ps c0 b o0' rs c0').nd.size - 1)+1≤1048575) (hs:(Ty.sig p0 o0 ps c0 b o0' rs c0').nd.short) :
 Calls Tryz.prog 28 #[.pointer (some ⟨pb,0,none⟩),ndv (Ty.sig p0 o0 ps c0 b o0' rs c0').nd s,.int .i64 fr] w fun e' w'=>(∃ v,e'=.returned v)∧∃ ps' o c o' rs' c' f,SgG g at_ e ps rs b ps' o c o' rs' c' f∧PSt w' base pb g (at_++sgToks ps' o c b o' rs' c') f (out++⟨⟨#[115,105,103,110,97,116,117,114,101]⟩,fr,f⟩::sgPre ps' o c b o' rs' c')∧Kq base w w':=by
 cases b with
 | true =>
  simp only [Ty.nd,if_true,Nd.size,Nd.sizeL] at hb2 hb3 hb4
  simp only [Ty.nd,if_true,Nd.short,Nd.shortL] at hs
  have hf1:(fl ps.nds).size=1+Nd.sizeL ps.nds:=by simp only [fl,Nd.size]
  have hf2:(fl rs.nds).size=1+Nd.sizeL rs.nds:=by simp only [fl,Nd.size]
  rw [hf1,hf2] at hb2 hb3 hb4
  exact signature_true ps rs hps (hrs rfl) w B base pb g at_ e fr out s hp (by simpa [Ty.nd] using hin) hB hb1 (by omega) (by omega) (by omega) hs.2.1 hs.2.2.1
 | false =>
  simp only [Ty.nd,Bool.false_eq_true,if_false,Nd.miss,Nd.size,Nd.sizeL] at hb2 hb3 hb4
  simp only [Ty.nd,Bool.false_eq_true,if_false,Nd.short,Nd.shortL] at hs
  have hf1:(fl ps.nds).size=1+Nd.sizeL ps.nds:=by simp only [fl,Nd.size]
  rw [hf1] at hb2 hb3 hb4
  exact signature_false ps rs hps w B base pb g at_ e fr out s hp (by simpa [Ty.nd] using hin) hB hb1 (by omega) (by omega) (by omega) hs.2.1
theorem sigM_sig (p0 o0:Int) (ps:Fs) (c0:Int) (b:Bool) (o0':Int) (rs:Fs) (c0':Int) (hps:FlC ps true false) (hrs:b=true→FlC rs true false):SigM (.sig p0 o0 ps c0 b o0' rs c0'):=by
 intro w B base pb g at_ e out s hp hin hB hb hs
 obtain ⟨b1,b2,b3,b4⟩:=hb
 have hsz:=Nd.size_pos (Ty.sig p0 o0 ps c0 b o0' rs c0').nd
 refine (sig_any p0 o0 ps c0 b o0' rs c0' hps hrs w B base pb g at_ e _ out s hp hin hB b1 (by omega) (by omega) (by omega) hs).mono ?_
 rintro e' w' ⟨hv,ps',o,c,o',rs',c',f,hg,hp',hq⟩
 obtain ⟨k1,k2,k3,k4,k5,k6,k7,k8,k9,k10,k11⟩:=hg.ty (p0:=p0) (o0:=o0) (c0:=c0) (o0':=o0') (c0':=c0') (pp:=0) (z:=true) b1 (by omega) (by simp)
 have hpos:(Ty.sig 0 o ps' c b o' rs' c').pos=o:=by simp [Ty.pos]
 have hk5:=congrArg List.length k5
 simp only [lc_] at hk5
 refine ⟨hv,_,⟨k1,k2,by rw [hpos];exact k7,by rw [hpos,k3];exact k8,by rw [k5,hpos,k3];exact k6.cons k8 _,by rw [k3];omega,by rw [k4];omega,by omega⟩,?_,hq⟩
 rw [k4,k3,k5,hpos]
 rw [← k7] at hp'
 exact hp'
theorem tyc_sig (p0 o0:Int) (ps:Fs) (c0:Int) (b:Bool) (o0':Int) (rs:Fs) (c0':Int) (hps:FlC ps true false) (hrs:b=true→FlC rs true false):TyC (.sig p0 o0 ps c0 b o0' rs c0'):=by
 intro w B base pb g at_ e out s hp hin hB hb hs
 obtain ⟨b1,b2,b3,b4⟩:=hb
 have hsz:=Nd.size_pos (Ty.sig p0 o0 ps c0 b o0' rs c0').nd
 have hbs:=hp.size
 have hgap:=gapOf_le g at_.length
 obtain ⟨q,c,rfl,hc⟩:=hin.form
 have hk:(Ty.sig p0 o0 ps c0 b o0' rs c0').nd.k=⟨#[115,105,103,110,97,116,117,114,101]⟩:=by simp only [Ty.nd,Nd.k]
 have HSG:Hid (∀ W at1 e1 out1,Kq base w W→PSt W base pb g at1 e1 out1→1≤e1→e1≤e+2000→at1.length=at_.length+1→out1.length=out.length→Calls Tryz.prog 28 #[.pointer (some ⟨pb,0,none⟩),(.agg #[.string ⟨#[115,105,103,110,97,116,117,114,101]⟩,.string ⟨#[]⟩,.slice q 2 c]),.int .i64 (e+gapOf g at_.length)] W fun e' w'=>(∃ v,e'=.returned v)∧∃ ps' o c o' rs' c' f,SgG g at1 e1 ps rs b ps' o c o' rs' c' f∧PSt w' base pb g (at1++sgToks ps' o c b o' rs' c') f (out1++⟨⟨#[115,105,103,110,97,116,117,114,101]⟩,e+gapOf g at_.length,f⟩::sgPre ps' o c b o' rs' c')∧Kq base W w'):=by
  intro W at1 e1 out1 hq hp1 he1 he2 ha1 ho1
  exact sig_any p0 o0 ps c0 b o0' rs c0' hps hrs W B base pb g at1 e1 _ out1 _ hp1 (hin.stay fun b hb=>hq.kp.block b (by omega) (by simp only [Fr];omega)) hB he1 (by omega) (by omega) (by omega) hs
 have HP:=hd_ hp
 have HGC:Hid (∀ W,Kp No w W→Calls Tryz.prog 26 #[.pointer (some ⟨pb,0,none⟩)] W fun e' w'=>e'=.returned (.int .i64 (gapOf g at_.length))∧∃ m,w'=W.drewN m):=fun W hk=>gap_c W base pb g at_ e out (HP.out.on hk (by simp))
 obtain ⟨gv,av,ov,hpx⟩:=hp
 have hpx:PStx w base pb g at_ e out gv av ov:=hpx
 have c2:w.cell? ⟨pb,2,none⟩=some (.int .i64 e):=cO hpx.1 2 _ rfl
 have lpb:=ltb hpx.1
 clear hpx hin hk
 show Calls _ _ #[_,.agg #[.string ⟨#[115,105,103,110,97,116,117,114,101]⟩,.string ⟨#[]⟩,.slice q 2 c]] _ _
 go_enter Tryz.func13,Tryz.ntmps13
 go_wp2_with fail
 go_quiet ((go_at_call 26;exact Calls.quiet_of (HGC.out _ (((Kp.refl No w).alloc _).drewN _))))
 have hk1:Kp No w ((w.alloc (.cells #[.string ⟨#[115,105,103,110,97,116,117,114,101]⟩,.string ⟨#[]⟩,.slice q 2 c] 24 (0,0))).drewN nq):=((Kp.refl No w).alloc _).drewN _
 have hx1:((w.alloc (.cells #[.string ⟨#[115,105,103,110,97,116,117,114,101]⟩,.string ⟨#[]⟩,.slice q 2 c] 24 (0,0))).drewN nq).heap[w.heap.size]?=some (.cells #[.string ⟨#[115,105,103,110,97,116,117,114,101]⟩,.string ⟨#[]⟩,.slice q 2 c] 24 (0,0)):=newOf w _
 generalize (w.alloc (.cells #[.string ⟨#[115,105,103,110,97,116,117,114,101]⟩,.string ⟨#[]⟩,.slice q 2 c] 24 (0,0))).drewN nq=w1 at hk1 hx1 ⊢
 have H1:=a2_ hk1 hx1
 have l1:=ltb hx1
 clear hk1 hx1
 go_wp2_with fail
 have ka1:Kp No w1 (w1.alloc (.cells #[.string ⟨#[102,117,110,99]⟩] 9 (0,0))):=(Kp.refl No w1).alloc _
 refine (tok1_c _ base pb _ 1 g at_ e out ⟨#[102,117,110,99]⟩ (HP.out.on (H1.out.1.trans' ka1) (by simp)) (newOf w1 _) rfl (by decide) (by omega) (by omega) (by omega)).mono ?_
 rintro e2 w2 ⟨⟨v2,rfl⟩,p1,hpq,hp2,hr2⟩
 have hz2:((⟨#[102,117,110,99]⟩:ByteArray)).size=4:=rfl
 rw [hz2] at hp2
 have hx2:=hr2.kn w.heap.size _ _ _ (ka1.at H1.out.2 (by simp)) (by decide) (by decide) (by decide)
 have hq2:=(Kq.of_no (base:=base) (H1.out.1.trans' ka1)).trans hr2
 have xs2:=ltb hx2
 have x0:=cO hx2 0 _ rfl;have x1:=cO hx2 1 _ rfl;have x2:=cO hx2 2 _ rfl
 have hpb:e≤p1∧p1≤e+1000:=by rw [hpq];omega
 have H2:=a3_ hp2 hq2 hpq
 clear hp2 hq2 hx2 hr2 ka1 hpq
 go_wp2_with fail
 refine (HSG.out w2 _ _ _ H2.out.2.1 H2.out.1 (by omega) (by omega) (by simp) rfl).mono ?_
 rintro e3 w3 ⟨⟨v3,rfl⟩,ps',o,c9,o',rs',c',f,hg,hp3,hq3⟩
 have H3:=a3_ hg hp3 (H2.out.2.1.trans hq3)
 clear hg hp3 hq3
 go_wp2_with fail
 obtain ⟨k1,k2,k3,k4,k5,k6,k7,k8,k9,k10,k11⟩:=H3.out.1.ty (p0:=p0) (o0:=o0) (c0:=c0) (o0':=o0') (c0':=c0') (pp:=p1) (z:=false) (by omega) (by omega) (by simp only [Bool.false_eq_true,if_false];constructor <;> omega)
 have hgo:=gapOf_le g (at_++[p1]).length
 have hpos:(Ty.sig p1 o ps' c9 b o' rs' c').pos=p1:=by simp only [Ty.pos];rw [if_neg (by omega)]
 have htk:(Ty.sig p1 o ps' c9 b o' rs' c').toks false=p1::sgToks ps' o c9 b o' rs' c':=by simp [Ty.toks,sgToks]
 have hk5:=congrArg List.length k5
 simp only [lc_] at hk5
 have hfin:PSt w3 base pb g (at_++(Ty.sig p1 o ps' c9 b o' rs' c').toks false) (Ty.sig p1 o ps' c9 b o' rs' c').fin (out++(Ty.sig p1 o ps' c9 b o' rs' c').pre):=by
  have h9:=H3.out.2.1
  rw [← H2.out.2.2] at h9
  rw [htk,k3,k5,hpos]
  simpa [aa_] using h9
 exact bodyPost_ret (v:=.tuple #[]) (by simp [results,Tryz.results13,go_sem]) rfl ⟨⟨_,rfl⟩,_,⟨k1,k2,by rw [hpos];exact H2.out.2.2,by rw [hpos,k3];omega,by rw [k5,hpos,k3];exact (k6.mono (by omega) (Int.le_refl _)).cons (by omega) _,by rw [k3];omega,by rw [htk,lc_];omega,by omega⟩,hfin,H3.out.2.2⟩
end
section
open Go Go.RowKit
theorem shp_fds (m:Bool):∀ (f:Fs),f.shp m→∀ d∈f.fds,d.t.shp (m && !d.ns.isEmpty)
 | .nil,_=>by simp [Fs.fds]
 | .cons c ns t tp tag l,h=>by
  simp only [Fs.shp] at h
  intro d hd
  simp only [Fs.fds,List.mem_cons] at hd
  rcases hd with rfl | hd
  ·exact h.1
  ·exact shp_fds m l h.2 d hd
theorem sz_fds:∀ (f:Fs),∀ d∈f.fds,d.t.sz < f.sz
 | .nil=>by simp [Fs.fds]
 | .cons c ns t tp tag l=>by
  intro d hd
  simp only [Fs.fds,List.mem_cons] at hd
  rcases hd with rfl | hd
  ·simp only [Fs.sz];omega
  ·have:=sz_fds l d hd
   simp only [Fs.sz];omega
theorem plc:∀ n:Nat,(∀ t:Ty,t.sz < n→(t.shp false→TyC t)∧(t.shp true→SigM t))∧(∀ f:Fs,f.sz < n→∀ cm m,f.shp m→FlC f cm m)
 | 0=>⟨fun _ h=>absurd h (by omega),fun _ h=>absurd h (by omega)⟩
 | n+1=>by
  obtain ⟨ihT,ihF⟩:=plc n
  refine ⟨fun t ht=>⟨fun hs=>?_,fun hs=>?_⟩,fun f hf cm m hs=>?_⟩
  ·cases t with
   | name p s=>exact tyc_name p s
   | lit p s=>exact tyc_literal p s
   | sel x d p s =>
    simp only [Ty.sz] at ht;simp only [Ty.shp] at hs
    exact node_of_ex _ (by simp [Ty.kind]) (ex_sel d p s x ((ihT x (by omega)).1 hs.2))
   | star p x =>
    simp only [Ty.sz] at ht;simp only [Ty.shp] at hs
    exact node_of_ex _ (by simp [Ty.kind]) (ex_star p x ((ihT x (by omega)).1 hs.2))
   | sl p q x =>
    simp only [Ty.sz] at ht;simp only [Ty.shp] at hs
    exact node_of_ex _ (by simp [Ty.kind]) (ex_sl p q x ((ihT x (by omega)).1 hs.2))
   | arr p l q x =>
    simp only [Ty.sz] at ht;simp only [Ty.shp] at hs
    exact node_of_ex _ (by simp [Ty.kind]) (ex_arr p q l x ((ihT l (by omega)).1 hs.2.1) ((ihT x (by omega)).1 hs.2.2))
   | map p q k r v =>
    simp only [Ty.sz] at ht;simp only [Ty.shp] at hs
    exact node_of_ex _ (by simp [Ty.kind]) (ex_map p q r k v ((ihT k (by omega)).1 hs.2.1) ((ihT v (by omega)).1 hs.2.2))
   | ch p x =>
    simp only [Ty.sz] at ht;simp only [Ty.shp] at hs
    exact node_of_ex _ (by simp [Ty.kind]) (ex_ch p x ((ihT x (by omega)).1 hs.2))
   | chs p q x =>
    simp only [Ty.sz] at ht;simp only [Ty.shp] at hs
    exact node_of_ex _ (by simp [Ty.kind]) (ex_chs p q x ((ihT x (by omega)).1 hs.2))
   | chr p q x =>
    simp only [Ty.sz] at ht;simp only [Ty.shp] at hs
    exact node_of_ex _ (by simp [Ty.kind]) (ex_chr p q x ((ihT x (by omega)).1 hs.2))
   | sig p o ps c b o' rs c' =>
    simp only [Ty.sz] at ht;simp only [Ty.shp] at hs
    exact tyc_sig p o ps c b o' rs c' (ihF ps (by omega) true false hs.1) fun hb=>ihF rs (by omega) true false (by have:=hs.2;rw [if_pos hb] at this;exact this)
   | struct p o f c =>
    simp only [Ty.sz] at ht;simp only [Ty.shp] at hs
    exact node_of_ex _ (by simp [Ty.kind]) (ex_struct p o f c (ihF f (by omega) false false hs.2))
   | iface p o f c =>
    simp only [Ty.sz] at ht;simp only [Ty.shp] at hs
    exact node_of_ex _ (by simp [Ty.kind]) (ex_iface p o f c (ihF f (by omega) false true hs.2))
  ·cases t with
   | sig p o ps c b o' rs c' =>
    simp only [Ty.sz] at ht;simp only [Ty.shp] at hs
    exact sigM_sig p o ps c b o' rs c' (ihF ps (by omega) true false hs.1) fun hb=>ihF rs (by omega) true false (by have:=hs.2;rw [if_pos hb] at this;exact this)
   | _=>simp [Ty.shp] at hs
  ·refine fields_c f cm m fun d hd=>?_
   have h1:=shp_fds m f hs d hd
   have h2:=sz_fds f d hd
   exact fdc d m (fun hz=>(ihT d.t (by omega)).1 (by rw [hz] at h1;exact h1)) (fun hz=>(ihT d.t (by omega)).2 (by rw [hz] at h1;exact h1))
theorem ty_c (t:Ty) (h:t.shp false):TyC t:=((plc (t.sz+1)).1 t (by omega)).1 h
theorem fl_c (f:Fs) (cm m:Bool) (h:f.shp m):FlC f cm m:=(plc (f.sz+1)).2 f (by omega) cm m h
end
section
open Go Go.RowKit
structure ItG (g at_:List Int) (e:Int) (i i':It):Prop where
 nd:i'.nd=i.nd
 ok:i'.ok
 pos:i'.pos=e+gapOf g at_.length
 le:i'.pos≤i'.fin
 nest:Nest i'.pos i'.fin i'.pre
 fin:i'.fin≤e+16777216*i.nd.size
 tk:i'.toks.length≤8*i.nd.size
 pl:i'.pre.length≤4*i.nd.size
def ItC (i:It):Prop:=∀ (w:World) (B base pb:Nat) (g at_:List Int) (e:Int) (out:List Pl) (s:Value),PSt w base pb g at_ e out→i.nd.In w B s→B≤base→Bnd at_ e out i.nd.size→i.nd.short →
 Calls Tryz.prog 13 #[.pointer (some ⟨pb,0,none⟩),ndv i.nd s] w fun e' w'=>(∃ v,e'=.returned v)∧∃ i',ItG g at_ e i i'∧PSt w' base pb g (at_++i'.toks) i'.fin (out++i'.pre)∧Kq base w w'
theorem it_type (p:Int) (s0:ByteArray) (x:Ty) (htx:TyC x):ItC (.type p s0 x):=by
 intro w B base pb g at_ e out s hp hin hB hb hs
 have hbs:=hp.size
 simp only [It.nd] at hin hb hs ⊢
 simp only [Bnd,Nd.size,Nd.sizeL,Nd.miss,Nd.name,Nd.lit,fl,ls] at hb
 simp only [Nd.short,Nd.shortL,Nd.miss,Nd.name,Nd.lit] at hs
 obtain ⟨b1,b2,b3,b4⟩:=hb
 have hLs:=hd_ (Nd.In_iff.1 hin)
 obtain ⟨q,c,rfl,hc⟩:=hin.form
 obtain ⟨bb0,o0,c0,q0,d0,he,_,hb0,hi,k01,k02,k03,k04,k05⟩:=hLs.out.get (i:=0) rfl
 cases he
 have HK0:=hd_ k04
 clear k04 hi
 simp only [Nat.zero_mul,Nat.one_mul,Nat.add_zero] at k01 k02 k03
 have HP:=hd_ hp
 clear hp hin hLs
 simp only [Nd.l,la_,lc_,ln_,Nat.zero_add,Nat.reduceAdd] at hc
 show Calls _ _ #[_,.agg #[.string ⟨#[116,121,112,101]⟩,.string s0,.slice (some ⟨bb0,o0,none⟩) 1 c]] _ _
 have HTX:=hd_ htx
 clear htx
 go_enter Tryz.func13,Tryz.ntmps13
 have hk0:Kp No w (w.alloc (.cells #[.string ⟨#[116,121,112,101]⟩,.string s0,.slice (some ⟨bb0,o0,none⟩) 1 c] 24 (0,0))):=(Kp.refl No w).alloc _
 have hq0:Kq base w _:=Kq.of_no hk0
 have hp0:=HP.out.on hk0 (by simp)
 have hx0:=newOf w (.cells #[.string ⟨#[116,121,112,101]⟩,.string s0,.slice (some ⟨bb0,o0,none⟩) 1 c] 24 (0,0))
 generalize hw0:w.alloc (.cells #[.string ⟨#[116,121,112,101]⟩,.string s0,.slice (some ⟨bb0,o0,none⟩) 1 c] 24 (0,0))=w0 at hk0 hq0 hp0 hx0
 obtain ⟨k01_0,k02_0,k03_0⟩:=cellq hq0 (by omega) hbs k01 k02 k03
 have xs0:w0.heap.size > w.heap.size:=ltb hx0
 have x0_0:=cO hx0 0 _ rfl
 have x1_0:=cO hx0 1 _ rfl
 have x2_0:=cO hx0 2 _ rfl
 have zs0:=hq0.kp.size
 have HS0:=a3_ hp0 hq0 hx0
 clear hp0 hq0 hx0
 clear hk0
 go_wp2_with fail
 try rw [hw0]
 clear hw0
 refine (open_c _ base pb g at_ e out ⟨#[116,121,112,101]⟩ s0 _ HS0.out.1 (by omega) (by omega) (by omega) ⟨_,_,_,rfl⟩).mono ?_
 rintro eo wo ⟨rfl,hpo,hro⟩
 have hqo:=HS0.out.2.1.trans hro
 have hxo:=hro.kn w.heap.size _ _ _ HS0.out.2.2 (by decide) (by decide) (by decide)
 clear hro HS0 k01_0 k02_0 k03_0 x0_0 x1_0 x2_0
 obtain ⟨k01_0,k02_0,k03_0⟩:=cellq hqo (by omega) hbs k01 k02 k03
 have xso:wo.heap.size > w.heap.size:=ltb hxo
 have x0_0:=cO hxo 0 _ rfl
 have x1_0:=cO hxo 1 _ rfl
 have x2_0:=cO hxo 2 _ rfl
 have zso:=hqo.kp.size
 have HS0:=a3_ hpo hqo hxo
 clear hpo hqo hxo
 go_wp2_with fail
 refine (pident_c wo s0).mono ?_
 rintro e1 wi ⟨rfl,hri⟩
 have hpi:=HS0.out.1.on hri (by simp)
 have hqi:=HS0.out.2.1.no hri
 have hxi:=hri.at HS0.out.2.2 (by simp)
 have HI:=a3_ hpi hqi hxi
 clear hpi hqi hxi hri
 clear k01_0 k02_0 k03_0 x0_0 x1_0 x2_0
 go_wp2_with fail
 refine (node_name wi base pb g _ _ _ s0 none 0 HI.out.1 (by omega) (by omega) (by (try simp only [la_,lc_,ln_]);omega) (by (try simp only [la_,lc_,ln_]);omega) (hs.1)).mono ?_
 rintro e2 w1 ⟨⟨v1,rfl⟩,pn,gpn,hp1,hr1⟩
 have hgpn:=gapOf_le g (at_).length
 have gpb:e≤pn∧pn≤e+1000:=by rw [gpn];constructor <;> omega
 have GPN:=hd_ gpn
 clear gpn
 have hq1:=HI.out.2.1.trans hr1
 have hx1:=hr1.kn w.heap.size _ _ _ HI.out.2.2 (by decide) (by decide) (by decide)
 clear hr1
 obtain ⟨k01_1,k02_1,k03_1⟩:=cellq hq1 (by omega) hbs k01 k02 k03
 have xs1:w1.heap.size > w.heap.size:=ltb hx1
 have x0_1:=cO hx1 0 _ rfl
 have x1_1:=cO hx1 1 _ rfl
 have x2_1:=cO hx1 2 _ rfl
 have zs1:=hq1.kp.size
 have HS1:=a3_ hp1 hq1 hx1
 clear hp1 hq1 hx1
 go_wp2_with fail
 have hin2:=HK0.out.stay (w':=w1) fun b hb=>HS1.out.2.1.kp.block b (by omega) (by simp only [Fr];omega)
 have hsz2:=Ty.size_pos x
 refine (HTX.out w1 B base pb g _ _ _ _ HS1.out.1 hin2 hB (by unfold Bnd;(try simp only [la_,lc_,ln_]);refine ⟨by omega,by omega,by omega,by omega⟩) hs.2.1).mono ?_
 rintro e2 w2 ⟨⟨v2,rfl⟩,x',gx,hp2,hr2⟩
 have hgpx:=gapOf_le g (at_++[pn]).length
 have gpx:=gx.pos;have glx:=gx.le;have gfx:=gx.fin;have gtx:=gx.tk;have gqx:=gx.pl
 have hq2:=HS1.out.2.1.trans hr2
 have hx2:=hr2.kn w.heap.size _ _ _ HS1.out.2.2 (by decide) (by decide) (by decide)
 clear hr2 hin2
 clear k01_1 k02_1 k03_1 x0_1 x1_1 x2_1
 obtain ⟨k01_2,k02_2,k03_2⟩:=cellq hq2 (by omega) hbs k01 k02 k03
 have xs2:w2.heap.size > w.heap.size:=ltb hx2
 have x0_2:=cO hx2 0 _ rfl
 have x1_2:=cO hx2 1 _ rfl
 have x2_2:=cO hx2 2 _ rfl
 have zs2:=hq2.kp.size
 have HS2:=a3_ hp2 hq2 hx2
 clear hp2 hq2 hx2
 have hp9:PSt w2 base pb g (at_++(pn::x'.toks false)) (x'.fin) (out++⟨⟨#[116,121,112,101]⟩,e+gapOf g at_.length,0⟩::(⟨⟨#[110,97,109,101]⟩,pn,pn+s0.size⟩::x'.pre)):=by simpa [aa_] using HS2.out.1
 obtain ⟨gv,av,ov,hp5⟩:=hp9
 have hp5:PStx w2 base pb g (at_++(pn::x'.toks false)) (x'.fin) (out++⟨⟨#[116,121,112,101]⟩,e+gapOf g at_.length,0⟩::(⟨⟨#[110,97,109,101]⟩,pn,pn+s0.size⟩::x'.pre)) gv av ov:=hp5
 obtain ⟨gb,cap,hov,_,_,hlt5,lgb,_,_,xx2⟩:=hp5.2.2.2.1.get (i:=out.length) (p:=⟨⟨#[116,121,112,101]⟩,e+gapOf g at_.length,0⟩) (by simp)
 obtain ⟨N,hN⟩:∃ N,N=(out++(⟨⟨#[116,121,112,101]⟩,e+gapOf g at_.length,0⟩:Pl)::(⟨⟨#[110,97,109,101]⟩,pn,pn+s0.size⟩::x'.pre)).length:=⟨_,rfl⟩
 rw [← hN] at hov hlt5
 subst hov
 obtain ⟨_,cur,hgc⟩:=hp5.2.2.2.1.blk (g:=gb) rfl
 have cc2:w2.cell? ⟨pb,2,none⟩=some (.int .i64 (x'.fin)):=cO hp5.1 2 _ rfl
 have cc3:w2.cell? ⟨pb,3,none⟩=some (.slice (some ⟨gb,0,none⟩) N cap):=cO hp5.1 3 _ rfl
 have fx:=fO hgc (out.length*3+2)
 have lpb:=ltb hp5.1
 have ne1:pb≠gb:=ne_blk hp5.1 hgc (by simp)
 have ne2:gb≠pb:=ne1.symm
 have H5:=hd_ hp5
 clear hp5 hgc hN
 go_wp2_with fail
 go_region_held3 (fun w'=>w'.cell? ⟨pb,2,none⟩=some (.int .i64 (x'.fin))∧w'.cell? ⟨pb,3,none⟩=some (.slice (some ⟨gb,0,none⟩) N cap))
  (first | (go_keep;done))
  (fail)
 have hcl:=PStx.close (e2:=x'.fin) H5.out ((Kp.refl No w2).drew)
 refine bodyPost_end (v:=.tuple #[]) (by simp [results,Tryz.results13,go_sem]) rfl ⟨⟨_,rfl⟩,.type pn s0 x',⟨?_,?_,?_,?_,?_,?_,?_,?_⟩,?_,HS2.out.2.1.trans hcl.2⟩
 ·simp only [It.nd,gx.nd]
 ·simp only [It.ok];exact ⟨by constructor <;> omega,hs.1,gx.ok⟩
 ·simp only [It.pos];exact GPN.out
 ·simp only [It.pos,It.fin];omega
 ·simp only [It.pos,It.fin,It.pre];exact ((((Nest.one (a:=pn) (b:=pn+s0.size) (by omega) (⟨#[110,97,109,101]⟩:ByteArray)).append gx.nest (by omega) (by omega) (by omega))).cons (by omega) _)
 ·simp only [It.fin];simp only [It.nd,Nd.size,Nd.sizeL,Nd.miss,Nd.name,Nd.lit,fl,ls];omega
 ·simp only [It.toks,la_,lc_,ln_];simp only [It.nd,Nd.size,Nd.sizeL,Nd.miss,Nd.name,Nd.lit,fl,ls];omega
 ·simp only [It.pre,la_,lc_,ln_];simp only [It.nd,Nd.size,Nd.sizeL,Nd.miss,Nd.name,Nd.lit,fl,ls];omega
 ·have h9:=hcl.1
  simp only [It.toks,It.pre,It.fin,It.kind]
  have hps:pn=e+gapOf g at_.length:=by first | assumption | exact GPN.out
  rw [← hps] at h9
  exact h9
theorem it_alias (p:Int) (s0:ByteArray) (q0:Int) (x:Ty) (htx:TyC x):ItC (.alias p s0 q0 x):=by
 intro w B base pb g at_ e out s hp hin hB hb hs
 have hbs:=hp.size
 simp only [It.nd] at hin hb hs ⊢
 simp only [Bnd,Nd.size,Nd.sizeL,Nd.miss,Nd.name,Nd.lit,fl,ls] at hb
 simp only [Nd.short,Nd.shortL,Nd.miss,Nd.name,Nd.lit] at hs
 obtain ⟨b1,b2,b3,b4⟩:=hb
 have hLs:=hd_ (Nd.In_iff.1 hin)
 obtain ⟨q,c,rfl,hc⟩:=hin.form
 obtain ⟨bb0,o0,c0,q0,d0,he,_,hb0,hi,k01,k02,k03,k04,k05⟩:=hLs.out.get (i:=0) rfl
 cases he
 have HK0:=hd_ k04
 clear k04 hi
 simp only [Nat.zero_mul,Nat.one_mul,Nat.add_zero] at k01 k02 k03
 have HP:=hd_ hp
 clear hp hin hLs
 simp only [Nd.l,la_,lc_,ln_,Nat.zero_add,Nat.reduceAdd] at hc
 show Calls _ _ #[_,.agg #[.string ⟨#[97,108,105,97,115]⟩,.string s0,.slice (some ⟨bb0,o0,none⟩) 1 c]] _ _
 have HTX:=hd_ htx
 clear htx
 go_enter Tryz.func13,Tryz.ntmps13
 have hk0:Kp No w (w.alloc (.cells #[.string ⟨#[97,108,105,97,115]⟩,.string s0,.slice (some ⟨bb0,o0,none⟩) 1 c] 24 (0,0))):=(Kp.refl No w).alloc _
 have hq0:Kq base w _:=Kq.of_no hk0
 have hp0:=HP.out.on hk0 (by simp)
 have hx0:=newOf w (.cells #[.string ⟨#[97,108,105,97,115]⟩,.string s0,.slice (some ⟨bb0,o0,none⟩) 1 c] 24 (0,0))
 generalize hw0:w.alloc (.cells #[.string ⟨#[97,108,105,97,115]⟩,.string s0,.slice (some ⟨bb0,o0,none⟩) 1 c] 24 (0,0))=w0 at hk0 hq0 hp0 hx0
 obtain ⟨k01_0,k02_0,k03_0⟩:=cellq hq0 (by omega) hbs k01 k02 k03
 have xs0:w0.heap.size > w.heap.size:=ltb hx0
 have x0_0:=cO hx0 0 _ rfl
 have x1_0:=cO hx0 1 _ rfl
 have x2_0:=cO hx0 2 _ rfl
 have zs0:=hq0.kp.size
 have HS0:=a3_ hp0 hq0 hx0
 clear hp0 hq0 hx0
 clear hk0
 go_wp2_with fail
 try rw [hw0]
 clear hw0
 refine (open_c _ base pb g at_ e out ⟨#[97,108,105,97,115]⟩ s0 _ HS0.out.1 (by omega) (by omega) (by omega) ⟨_,_,_,rfl⟩).mono ?_
 rintro eo wo ⟨rfl,hpo,hro⟩
 have hqo:=HS0.out.2.1.trans hro
 have hxo:=hro.kn w.heap.size _ _ _ HS0.out.2.2 (by decide) (by decide) (by decide)
 clear hro HS0 k01_0 k02_0 k03_0 x0_0 x1_0 x2_0
 obtain ⟨k01_0,k02_0,k03_0⟩:=cellq hqo (by omega) hbs k01 k02 k03
 have xso:wo.heap.size > w.heap.size:=ltb hxo
 have x0_0:=cO hxo 0 _ rfl
 have x1_0:=cO hxo 1 _ rfl
 have x2_0:=cO hxo 2 _ rfl
 have zso:=hqo.kp.size
 have HS0:=a3_ hpo hqo hxo
 clear hpo hqo hxo
 go_wp2_with fail
 refine (pident_c wo s0).mono ?_
 rintro e1 wi ⟨rfl,hri⟩
 have hpi:=HS0.out.1.on hri (by simp)
 have hqi:=HS0.out.2.1.no hri
 have hxi:=hri.at HS0.out.2.2 (by simp)
 have HI:=a3_ hpi hqi hxi
 clear hpi hqi hxi hri
 clear k01_0 k02_0 k03_0 x0_0 x1_0 x2_0
 go_wp2_with fail
 refine (node_name wi base pb g _ _ _ s0 none 0 HI.out.1 (by omega) (by omega) (by (try simp only [la_,lc_,ln_]);omega) (by (try simp only [la_,lc_,ln_]);omega) (hs.1)).mono ?_
 rintro e2 w1 ⟨⟨v1,rfl⟩,pn,gpn,hp1,hr1⟩
 have hgpn:=gapOf_le g (at_).length
 have gpb:e≤pn∧pn≤e+1000:=by rw [gpn];constructor <;> omega
 have GPN:=hd_ gpn
 clear gpn
 have hq1:=HI.out.2.1.trans hr1
 have hx1:=hr1.kn w.heap.size _ _ _ HI.out.2.2 (by decide) (by decide) (by decide)
 clear hr1
 obtain ⟨k01_1,k02_1,k03_1⟩:=cellq hq1 (by omega) hbs k01 k02 k03
 have xs1:w1.heap.size > w.heap.size:=ltb hx1
 have x0_1:=cO hx1 0 _ rfl
 have x1_1:=cO hx1 1 _ rfl
 have x2_1:=cO hx1 2 _ rfl
 have zs1:=hq1.kp.size
 have HS1:=a3_ hp1 hq1 hx1
 clear hp1 hq1 hx1
 go_wp2_with fail
 have ka1:Kp No w1 (w1.alloc (.cells #[.string ⟨#[61]⟩] 9 (0,0))):=(Kp.refl No w1).alloc _
 refine (tok1_c _ base pb _ 1 g _ _ _ ⟨#[61]⟩ (HS1.out.1.on ka1 (by simp)) (newOf w1 _) rfl (by decide) (by omega) (by omega) (by (try simp only [la_,lc_,ln_]);omega)).mono ?_
 rintro e2 w2 ⟨⟨v2,rfl⟩,p1,hpq1,hp2,hr2⟩
 have hgp1:=gapOf_le g (at_++[pn]).length
 have hz2:(⟨#[61]⟩:ByteArray).size=1:=rfl
 rw [hz2] at hp2
 have hq2:=(HS1.out.2.1.no ka1).trans hr2
 have hx2:=hr2.kn w.heap.size _ _ _ (ka1.at HS1.out.2.2 (by simp)) (by decide) (by decide) (by decide)
 clear hr2 ka1
 clear k01_1 k02_1 k03_1 x0_1 x1_1 x2_1
 obtain ⟨k01_2,k02_2,k03_2⟩:=cellq hq2 (by omega) hbs k01 k02 k03
 have xs2:w2.heap.size > w.heap.size:=ltb hx2
 have x0_2:=cO hx2 0 _ rfl
 have x1_2:=cO hx2 1 _ rfl
 have x2_2:=cO hx2 2 _ rfl
 have zs2:=hq2.kp.size
 have HS2:=a3_ hp2 hq2 hx2
 clear hp2 hq2 hx2
 go_wp2_with fail
 have hin3:=HK0.out.stay (w':=w2) fun b hb=>HS2.out.2.1.kp.block b (by omega) (by simp only [Fr];omega)
 have hsz3:=Ty.size_pos x
 refine (HTX.out w2 B base pb g _ _ _ _ HS2.out.1 hin3 hB (by unfold Bnd;(try simp only [la_,lc_,ln_]);refine ⟨by omega,by omega,by omega,by omega⟩) hs.2.1).mono ?_
 rintro e3 w3 ⟨⟨v3,rfl⟩,x',gx,hp3,hr3⟩
 have hgpx:=gapOf_le g (at_++[pn]++[p1]).length
 have gpx:=gx.pos;have glx:=gx.le;have gfx:=gx.fin;have gtx:=gx.tk;have gqx:=gx.pl
 have hq3:=HS2.out.2.1.trans hr3
 have hx3:=hr3.kn w.heap.size _ _ _ HS2.out.2.2 (by decide) (by decide) (by decide)
 clear hr3 hin3
 clear k01_2 k02_2 k03_2 x0_2 x1_2 x2_2
 obtain ⟨k01_3,k02_3,k03_3⟩:=cellq hq3 (by omega) hbs k01 k02 k03
 have xs3:w3.heap.size > w.heap.size:=ltb hx3
 have x0_3:=cO hx3 0 _ rfl
 have x1_3:=cO hx3 1 _ rfl
 have x2_3:=cO hx3 2 _ rfl
 have zs3:=hq3.kp.size
 have HS3:=a3_ hp3 hq3 hx3
 clear hp3 hq3 hx3
 have hp9:PSt w3 base pb g (at_++(pn::p1::x'.toks false)) (x'.fin) (out++⟨⟨#[97,108,105,97,115]⟩,e+gapOf g at_.length,0⟩::(⟨⟨#[110,97,109,101]⟩,pn,pn+s0.size⟩::x'.pre)):=by simpa [aa_] using HS3.out.1
 obtain ⟨gv,av,ov,hp5⟩:=hp9
 have hp5:PStx w3 base pb g (at_++(pn::p1::x'.toks false)) (x'.fin) (out++⟨⟨#[97,108,105,97,115]⟩,e+gapOf g at_.length,0⟩::(⟨⟨#[110,97,109,101]⟩,pn,pn+s0.size⟩::x'.pre)) gv av ov:=hp5
 obtain ⟨gb,cap,hov,_,_,hlt5,lgb,_,_,xx2⟩:=hp5.2.2.2.1.get (i:=out.length) (p:=⟨⟨#[97,108,105,97,115]⟩,e+gapOf g at_.length,0⟩) (by simp)
 obtain ⟨N,hN⟩:∃ N,N=(out++(⟨⟨#[97,108,105,97,115]⟩,e+gapOf g at_.length,0⟩:Pl)::(⟨⟨#[110,97,109,101]⟩,pn,pn+s0.size⟩::x'.pre)).length:=⟨_,rfl⟩
 rw [← hN] at hov hlt5
 subst hov
 obtain ⟨_,cur,hgc⟩:=hp5.2.2.2.1.blk (g:=gb) rfl
 have cc2:w3.cell? ⟨pb,2,none⟩=some (.int .i64 (x'.fin)):=cO hp5.1 2 _ rfl
 have cc3:w3.cell? ⟨pb,3,none⟩=some (.slice (some ⟨gb,0,none⟩) N cap):=cO hp5.1 3 _ rfl
 have fx:=fO hgc (out.length*3+2)
 have lpb:=ltb hp5.1
 have ne1:pb≠gb:=ne_blk hp5.1 hgc (by simp)
 have ne2:gb≠pb:=ne1.symm
 have H5:=hd_ hp5
 clear hp5 hgc hN
 go_wp2_with fail
 go_region_held3 (fun w'=>w'.cell? ⟨pb,2,none⟩=some (.int .i64 (x'.fin))∧w'.cell? ⟨pb,3,none⟩=some (.slice (some ⟨gb,0,none⟩) N cap))
  (first | (go_keep;done))
  (fail)
 have hcl:=PStx.close (e2:=x'.fin) H5.out ((Kp.refl No w3).drew)
 refine bodyPost_end (v:=.tuple #[]) (by simp [results,Tryz.results13,go_sem]) rfl ⟨⟨_,rfl⟩,.alias pn s0 p1 x',⟨?_,?_,?_,?_,?_,?_,?_,?_⟩,?_,HS3.out.2.1.trans hcl.2⟩
 ·simp only [It.nd,gx.nd]
 ·simp only [It.ok];exact ⟨by constructor <;> omega,hs.1,by constructor <;> omega,gx.ok⟩
 ·simp only [It.pos];exact GPN.out
 ·simp only [It.pos,It.fin];omega
 ·simp only [It.pos,It.fin,It.pre];exact ((((Nest.one (a:=pn) (b:=pn+s0.size) (by omega) (⟨#[110,97,109,101]⟩:ByteArray)).append gx.nest (by omega) (by omega) (by omega))).cons (by omega) _)
 ·simp only [It.fin];simp only [It.nd,Nd.size,Nd.sizeL,Nd.miss,Nd.name,Nd.lit,fl,ls];omega
 ·simp only [It.toks,la_,lc_,ln_];simp only [It.nd,Nd.size,Nd.sizeL,Nd.miss,Nd.name,Nd.lit,fl,ls];omega
 ·simp only [It.pre,la_,lc_,ln_];simp only [It.nd,Nd.size,Nd.sizeL,Nd.miss,Nd.name,Nd.lit,fl,ls];omega
 ·have h9:=hcl.1
  simp only [It.toks,It.pre,It.fin,It.kind]
  have hps:pn=e+gapOf g at_.length:=by first | assumption | exact GPN.out
  rw [← hps] at h9
  exact h9
theorem it_path (p:Int) (s0:ByteArray) :ItC (.path p s0):=by
 intro w B base pb g at_ e out s hp hin hB hb hs
 have hbs:=hp.size
 simp only [It.nd] at hin hb hs ⊢
 simp only [Bnd,Nd.size,Nd.sizeL,Nd.miss,Nd.name,Nd.lit,fl,ls] at hb
 simp only [Nd.short,Nd.shortL,Nd.miss,Nd.name,Nd.lit] at hs
 obtain ⟨b1,b2,b3,b4⟩:=hb
 have hLs:=hd_ (Nd.In_iff.1 hin)
 obtain ⟨q,c,rfl,hc⟩:=hin.form
 obtain ⟨bb0,o0,c0,q0,d0,he,_,hb0,hi,k01,k02,k03,k04,k05⟩:=hLs.out.get (i:=0) rfl
 cases he
 have HK0:=hd_ k04
 clear k04 hi
 simp only [Nat.zero_mul,Nat.one_mul,Nat.add_zero] at k01 k02 k03
 have HP:=hd_ hp
 clear hp hin hLs
 simp only [Nd.l,la_,lc_,ln_,Nat.zero_add,Nat.reduceAdd] at hc
 show Calls _ _ #[_,.agg #[.string ⟨#[112,97,116,104]⟩,.string s0,.slice (some ⟨bb0,o0,none⟩) 1 c]] _ _
 go_enter Tryz.func13,Tryz.ntmps13
 have hk0:Kp No w (w.alloc (.cells #[.string ⟨#[112,97,116,104]⟩,.string s0,.slice (some ⟨bb0,o0,none⟩) 1 c] 24 (0,0))):=(Kp.refl No w).alloc _
 have hq0:Kq base w _:=Kq.of_no hk0
 have hp0:=HP.out.on hk0 (by simp)
 have hx0:=newOf w (.cells #[.string ⟨#[112,97,116,104]⟩,.string s0,.slice (some ⟨bb0,o0,none⟩) 1 c] 24 (0,0))
 generalize hw0:w.alloc (.cells #[.string ⟨#[112,97,116,104]⟩,.string s0,.slice (some ⟨bb0,o0,none⟩) 1 c] 24 (0,0))=w0 at hk0 hq0 hp0 hx0
 obtain ⟨k01_0,k02_0,k03_0⟩:=cellq hq0 (by omega) hbs k01 k02 k03
 have xs0:w0.heap.size > w.heap.size:=ltb hx0
 have x0_0:=cO hx0 0 _ rfl
 have x1_0:=cO hx0 1 _ rfl
 have x2_0:=cO hx0 2 _ rfl
 have zs0:=hq0.kp.size
 have HS0:=a3_ hp0 hq0 hx0
 clear hp0 hq0 hx0
 clear hk0
 go_wp2_with fail
 try rw [hw0]
 clear hw0
 refine (open_c _ base pb g at_ e out ⟨#[112,97,116,104]⟩ s0 _ HS0.out.1 (by omega) (by omega) (by omega) ⟨_,_,_,rfl⟩).mono ?_
 rintro eo wo ⟨rfl,hpo,hro⟩
 have hqo:=HS0.out.2.1.trans hro
 have hxo:=hro.kn w.heap.size _ _ _ HS0.out.2.2 (by decide) (by decide) (by decide)
 clear hro HS0 k01_0 k02_0 k03_0 x0_0 x1_0 x2_0
 obtain ⟨k01_0,k02_0,k03_0⟩:=cellq hqo (by omega) hbs k01 k02 k03
 have xso:wo.heap.size > w.heap.size:=ltb hxo
 have x0_0:=cO hxo 0 _ rfl
 have x1_0:=cO hxo 1 _ rfl
 have x2_0:=cO hxo 2 _ rfl
 have zso:=hqo.kp.size
 have HS0:=a3_ hpo hqo hxo
 clear hpo hqo hxo
 go_wp2_with fail
 have hin1:=HK0.out.stay (w':=wo) fun b hb=>HS0.out.2.1.kp.block b (by omega) (by simp only [Fr];omega)
 refine (part_miss wo B pb _ hin1 (by omega)).mono ?_
 rintro e1 w1 ⟨⟨v1,rfl⟩,hr1⟩
 have hp1:=HS0.out.1.on hr1 (by simp)
 have hq1:=HS0.out.2.1.no hr1
 have hx1:=hr1.at HS0.out.2.2 (by simp)
 clear hr1 hin1
 clear k01_0 k02_0 k03_0 x0_0 x1_0 x2_0
 obtain ⟨k01_1,k02_1,k03_1⟩:=cellq hq1 (by omega) hbs k01 k02 k03
 have xs1:w1.heap.size > w.heap.size:=ltb hx1
 have x0_1:=cO hx1 0 _ rfl
 have x1_1:=cO hx1 1 _ rfl
 have x2_1:=cO hx1 2 _ rfl
 have zs1:=hq1.kp.size
 have HS1:=a3_ hp1 hq1 hx1
 clear hp1 hq1 hx1
 go_wp2_with fail
 refine (pliteral_c w1 s0).mono ?_
 rintro e2 wi ⟨rfl,hri⟩
 have hpi:=HS1.out.1.on hri (by simp)
 have hqi:=HS1.out.2.1.no hri
 have hxi:=hri.at HS1.out.2.2 (by simp)
 have HI:=a3_ hpi hqi hxi
 clear hpi hqi hxi hri
 clear k01_1 k02_1 k03_1 x0_1 x1_1 x2_1
 go_wp2_with fail
 refine (node_literal wi base pb g _ _ _ s0 none 0 HI.out.1 (by omega) (by omega) (by (try simp only [la_,lc_,ln_]);omega) (by (try simp only [la_,lc_,ln_]);omega) (hs.1)).mono ?_
 rintro e3 w2 ⟨⟨v2,rfl⟩,pn,gpn,hp2,hr2⟩
 have hgpn:=gapOf_le g (at_).length
 have gpb:e≤pn∧pn≤e+1000:=by rw [gpn];constructor <;> omega
 have GPN:=hd_ gpn
 clear gpn
 have hq2:=HI.out.2.1.trans hr2
 have hx2:=hr2.kn w.heap.size _ _ _ HI.out.2.2 (by decide) (by decide) (by decide)
 clear hr2
 obtain ⟨k01_2,k02_2,k03_2⟩:=cellq hq2 (by omega) hbs k01 k02 k03
 have xs2:w2.heap.size > w.heap.size:=ltb hx2
 have x0_2:=cO hx2 0 _ rfl
 have x1_2:=cO hx2 1 _ rfl
 have x2_2:=cO hx2 2 _ rfl
 have zs2:=hq2.kp.size
 have HS2:=a3_ hp2 hq2 hx2
 clear hp2 hq2 hx2
 have hp9:PSt w2 base pb g (at_++([pn])) (pn+s0.size) (out++⟨⟨#[112,97,116,104]⟩,e+gapOf g at_.length,0⟩::([⟨⟨#[108,105,116,101,114,97,108]⟩,pn,pn+s0.size⟩])):=by simpa [aa_] using HS2.out.1
 obtain ⟨gv,av,ov,hp5⟩:=hp9
 have hp5:PStx w2 base pb g (at_++([pn])) (pn+s0.size) (out++⟨⟨#[112,97,116,104]⟩,e+gapOf g at_.length,0⟩::([⟨⟨#[108,105,116,101,114,97,108]⟩,pn,pn+s0.size⟩])) gv av ov:=hp5
 obtain ⟨gb,cap,hov,_,_,hlt5,lgb,_,_,xx2⟩:=hp5.2.2.2.1.get (i:=out.length) (p:=⟨⟨#[112,97,116,104]⟩,e+gapOf g at_.length,0⟩) (by simp)
 obtain ⟨N,hN⟩:∃ N,N=(out++(⟨⟨#[112,97,116,104]⟩,e+gapOf g at_.length,0⟩:Pl)::([⟨⟨#[108,105,116,101,114,97,108]⟩,pn,pn+s0.size⟩])).length:=⟨_,rfl⟩
 rw [← hN] at hov hlt5
 subst hov
 obtain ⟨_,cur,hgc⟩:=hp5.2.2.2.1.blk (g:=gb) rfl
 have cc2:w2.cell? ⟨pb,2,none⟩=some (.int .i64 (pn+s0.size)):=cO hp5.1 2 _ rfl
 have cc3:w2.cell? ⟨pb,3,none⟩=some (.slice (some ⟨gb,0,none⟩) N cap):=cO hp5.1 3 _ rfl
 have fx:=fO hgc (out.length*3+2)
 have lpb:=ltb hp5.1
 have ne1:pb≠gb:=ne_blk hp5.1 hgc (by simp)
 have ne2:gb≠pb:=ne1.symm
 have H5:=hd_ hp5
 clear hp5 hgc hN
 go_wp2_with fail
 go_region_held3 (fun w'=>w'.cell? ⟨pb,2,none⟩=some (.int .i64 (pn+s0.size))∧w'.cell? ⟨pb,3,none⟩=some (.slice (some ⟨gb,0,none⟩) N cap))
  (first | (go_keep;done))
  (fail)
 have hcl:=PStx.close (e2:=pn+s0.size) H5.out ((Kp.refl No w2).drew)
 refine bodyPost_end (v:=.tuple #[]) (by simp [results,Tryz.results13,go_sem]) rfl ⟨⟨_,rfl⟩,.path pn s0,⟨?_,?_,?_,?_,?_,?_,?_,?_⟩,?_,HS2.out.2.1.trans hcl.2⟩
 ·simp only [It.nd]
 ·simp only [It.ok];exact ⟨by constructor <;> omega,hs.1⟩
 ·simp only [It.pos];exact GPN.out
 ·simp only [It.pos,It.fin];omega
 ·simp only [It.pos,It.fin,It.pre];exact ((Nest.one (a:=pn) (b:=pn+s0.size) (by omega) (⟨#[108,105,116,101,114,97,108]⟩:ByteArray)).cons (by omega) _)
 ·simp only [It.fin];simp only [It.nd,Nd.size,Nd.sizeL,Nd.miss,Nd.name,Nd.lit,fl,ls];omega
 ·simp only [It.toks,la_,lc_,ln_];simp only [It.nd,Nd.size,Nd.sizeL,Nd.miss,Nd.name,Nd.lit,fl,ls];omega
 ·simp only [It.pre,la_,lc_,ln_];simp only [It.nd,Nd.size,Nd.sizeL,Nd.miss,Nd.name,Nd.lit,fl,ls];omega
 ·have h9:=hcl.1
  simp only [It.toks,It.pre,It.fin,It.kind]
  have hps:pn=e+gapOf g at_.length:=by first | assumption | exact GPN.out
  rw [← hps] at h9
  exact h9
theorem it_pathn (q0:Int) (m:ByteArray) (p:Int) (s0:ByteArray) :ItC (.pathn q0 m p s0):=by
 intro w B base pb g at_ e out s hp hin hB hb hs
 have hbs:=hp.size
 simp only [It.nd] at hin hb hs ⊢
 simp only [Bnd,Nd.size,Nd.sizeL,Nd.miss,Nd.name,Nd.lit,fl,ls] at hb
 simp only [Nd.short,Nd.shortL,Nd.miss,Nd.name,Nd.lit] at hs
 obtain ⟨b1,b2,b3,b4⟩:=hb
 have hLs:=hd_ (Nd.In_iff.1 hin)
 obtain ⟨q,c,rfl,hc⟩:=hin.form
 obtain ⟨bb0,o0,c0,q0,d0,he,_,hb0,hi,k01,k02,k03,k04,k05⟩:=hLs.out.get (i:=0) rfl
 cases he
 have HK0:=hd_ k04
 clear k04 hi
 simp only [Nat.zero_mul,Nat.one_mul,Nat.add_zero] at k01 k02 k03
 have HP:=hd_ hp
 clear hp hin hLs
 simp only [Nd.l,la_,lc_,ln_,Nat.zero_add,Nat.reduceAdd] at hc
 show Calls _ _ #[_,.agg #[.string ⟨#[112,97,116,104]⟩,.string s0,.slice (some ⟨bb0,o0,none⟩) 1 c]] _ _
 go_enter Tryz.func13,Tryz.ntmps13
 have hk0:Kp No w (w.alloc (.cells #[.string ⟨#[112,97,116,104]⟩,.string s0,.slice (some ⟨bb0,o0,none⟩) 1 c] 24 (0,0))):=(Kp.refl No w).alloc _
 have hq0:Kq base w _:=Kq.of_no hk0
 have hp0:=HP.out.on hk0 (by simp)
 have hx0:=newOf w (.cells #[.string ⟨#[112,97,116,104]⟩,.string s0,.slice (some ⟨bb0,o0,none⟩) 1 c] 24 (0,0))
 generalize hw0:w.alloc (.cells #[.string ⟨#[112,97,116,104]⟩,.string s0,.slice (some ⟨bb0,o0,none⟩) 1 c] 24 (0,0))=w0 at hk0 hq0 hp0 hx0
 obtain ⟨k01_0,k02_0,k03_0⟩:=cellq hq0 (by omega) hbs k01 k02 k03
 have xs0:w0.heap.size > w.heap.size:=ltb hx0
 have x0_0:=cO hx0 0 _ rfl
 have x1_0:=cO hx0 1 _ rfl
 have x2_0:=cO hx0 2 _ rfl
 have zs0:=hq0.kp.size
 have HS0:=a3_ hp0 hq0 hx0
 clear hp0 hq0 hx0
 clear hk0
 go_wp2_with fail
 try rw [hw0]
 clear hw0
 refine (open_c _ base pb g at_ e out ⟨#[112,97,116,104]⟩ s0 _ HS0.out.1 (by omega) (by omega) (by omega) ⟨_,_,_,rfl⟩).mono ?_
 rintro eo wo ⟨rfl,hpo,hro⟩
 have hqo:=HS0.out.2.1.trans hro
 have hxo:=hro.kn w.heap.size _ _ _ HS0.out.2.2 (by decide) (by decide) (by decide)
 clear hro HS0 k01_0 k02_0 k03_0 x0_0 x1_0 x2_0
 obtain ⟨k01_0,k02_0,k03_0⟩:=cellq hqo (by omega) hbs k01 k02 k03
 have xso:wo.heap.size > w.heap.size:=ltb hxo
 have x0_0:=cO hxo 0 _ rfl
 have x1_0:=cO hxo 1 _ rfl
 have x2_0:=cO hxo 2 _ rfl
 have zso:=hqo.kp.size
 have HS0:=a3_ hpo hqo hxo
 clear hpo hqo hxo
 go_wp2_with fail
 have hin1:=HK0.out.stay (w':=wo) fun b hb=>HS0.out.2.1.kp.block b (by omega) (by simp only [Fr];omega)
 have hsz1:=Ty.size_pos (.name 0 m)
 refine (part_node (.name 0 m) (tyc_name 0 m) wo B base pb g _ _ _ _ HS0.out.1 hin1 hB (by unfold Bnd;(try simp only [Ty.nd,Nd.name,Nd.size,Nd.sizeL,la_,lc_,ln_]);refine ⟨by omega,by omega,by omega,by omega⟩) (by simp only [Ty.nd,Nd.name,Nd.short,Nd.shortL];exact ⟨hs.2.1.1,trivial⟩)).mono ?_
 rintro e1 w1 ⟨⟨v1,rfl⟩,x',gx,hp1,hr1⟩
 have hgpx:=gapOf_le g (at_).length
 obtain ⟨qn,rfl⟩:∃ qn,x'=.name qn m:=by
  have h9:=gx.nd
  cases x' <;> simp [Ty.nd,Nd.name,Nd.lit] at h9
  exact ⟨_,by rw [h9]⟩
 have gpx:=gx.pos;simp only [Ty.pos] at gpx
 have hm9:m.size≤1048576:=hs.2.1.1
 simp only [Ty.toks,Ty.fin,Ty.pre] at hp1
 clear gx
 have hq1:=HS0.out.2.1.trans hr1
 have hx1:=hr1.kn w.heap.size _ _ _ HS0.out.2.2 (by decide) (by decide) (by decide)
 clear hr1 hin1
 clear k01_0 k02_0 k03_0 x0_0 x1_0 x2_0
 obtain ⟨k01_1,k02_1,k03_1⟩:=cellq hq1 (by omega) hbs k01 k02 k03
 have xs1:w1.heap.size > w.heap.size:=ltb hx1
 have x0_1:=cO hx1 0 _ rfl
 have x1_1:=cO hx1 1 _ rfl
 have x2_1:=cO hx1 2 _ rfl
 have zs1:=hq1.kp.size
 have HS1:=a3_ hp1 hq1 hx1
 clear hp1 hq1 hx1
 go_wp2_with fail
 refine (pliteral_c w1 s0).mono ?_
 rintro e2 wi ⟨rfl,hri⟩
 have hpi:=HS1.out.1.on hri (by simp)
 have hqi:=HS1.out.2.1.no hri
 have hxi:=hri.at HS1.out.2.2 (by simp)
 have HI:=a3_ hpi hqi hxi
 clear hpi hqi hxi hri
 clear k01_1 k02_1 k03_1 x0_1 x1_1 x2_1
 go_wp2_with fail
 refine (node_literal wi base pb g _ _ _ s0 none 0 HI.out.1 (by omega) (by omega) (by (try simp only [la_,lc_,ln_]);omega) (by (try simp only [la_,lc_,ln_]);omega) (hs.1)).mono ?_
 rintro e3 w2 ⟨⟨v2,rfl⟩,pn,gpn,hp2,hr2⟩
 have hgpn:=gapOf_le g (at_++[qn]).length
 have gpb:(qn+m.size)≤pn∧pn≤(qn+m.size)+1000:=by rw [gpn];constructor <;> omega
 have GPN:=hd_ gpn
 clear gpn
 have hq2:=HI.out.2.1.trans hr2
 have hx2:=hr2.kn w.heap.size _ _ _ HI.out.2.2 (by decide) (by decide) (by decide)
 clear hr2
 obtain ⟨k01_2,k02_2,k03_2⟩:=cellq hq2 (by omega) hbs k01 k02 k03
 have xs2:w2.heap.size > w.heap.size:=ltb hx2
 have x0_2:=cO hx2 0 _ rfl
 have x1_2:=cO hx2 1 _ rfl
 have x2_2:=cO hx2 2 _ rfl
 have zs2:=hq2.kp.size
 have HS2:=a3_ hp2 hq2 hx2
 clear hp2 hq2 hx2
 have hp9:PSt w2 base pb g (at_++([qn,pn])) (pn+s0.size) (out++⟨⟨#[112,97,116,104]⟩,e+gapOf g at_.length,0⟩::(⟨⟨#[110,97,109,101]⟩,qn,qn+m.size⟩::[⟨⟨#[108,105,116,101,114,97,108]⟩,pn,pn+s0.size⟩])):=by simpa [aa_] using HS2.out.1
 obtain ⟨gv,av,ov,hp5⟩:=hp9
 have hp5:PStx w2 base pb g (at_++([qn,pn])) (pn+s0.size) (out++⟨⟨#[112,97,116,104]⟩,e+gapOf g at_.length,0⟩::(⟨⟨#[110,97,109,101]⟩,qn,qn+m.size⟩::[⟨⟨#[108,105,116,101,114,97,108]⟩,pn,pn+s0.size⟩])) gv av ov:=hp5
 obtain ⟨gb,cap,hov,_,_,hlt5,lgb,_,_,xx2⟩:=hp5.2.2.2.1.get (i:=out.length) (p:=⟨⟨#[112,97,116,104]⟩,e+gapOf g at_.length,0⟩) (by simp)
 obtain ⟨N,hN⟩:∃ N,N=(out++(⟨⟨#[112,97,116,104]⟩,e+gapOf g at_.length,0⟩:Pl)::(⟨⟨#[110,97,109,101]⟩,qn,qn+m.size⟩::[⟨⟨#[108,105,116,101,114,97,108]⟩,pn,pn+s0.size⟩])).length:=⟨_,rfl⟩
 rw [← hN] at hov hlt5
 subst hov
 obtain ⟨_,cur,hgc⟩:=hp5.2.2.2.1.blk (g:=gb) rfl
 have cc2:w2.cell? ⟨pb,2,none⟩=some (.int .i64 (pn+s0.size)):=cO hp5.1 2 _ rfl
 have cc3:w2.cell? ⟨pb,3,none⟩=some (.slice (some ⟨gb,0,none⟩) N cap):=cO hp5.1 3 _ rfl
 have fx:=fO hgc (out.length*3+2)
 have lpb:=ltb hp5.1
 have ne1:pb≠gb:=ne_blk hp5.1 hgc (by simp)
 have ne2:gb≠pb:=ne1.symm
 have H5:=hd_ hp5
 clear hp5 hgc hN
 go_wp2_with fail
 go_region_held3 (fun w'=>w'.cell? ⟨pb,2,none⟩=some (.int .i64 (pn+s0.size))∧w'.cell? ⟨pb,3,none⟩=some (.slice (some ⟨gb,0,none⟩) N cap))
  (first | (go_keep;done))
  (fail)
 have hcl:=PStx.close (e2:=pn+s0.size) H5.out ((Kp.refl No w2).drew)
 refine bodyPost_end (v:=.tuple #[]) (by simp [results,Tryz.results13,go_sem]) rfl ⟨⟨_,rfl⟩,.pathn qn m pn s0,⟨?_,?_,?_,?_,?_,?_,?_,?_⟩,?_,HS2.out.2.1.trans hcl.2⟩
 ·simp only [It.nd]
 ·simp only [It.ok];exact ⟨by constructor <;> omega,hs.2.1.1,by constructor <;> omega,hs.1⟩
 ·simp only [It.pos];exact gpx
 ·simp only [It.pos,It.fin];omega
 ·simp only [It.pos,It.fin,It.pre];exact ((((Nest.one (a:=qn) (b:=qn+m.size) (by omega) (⟨#[110,97,109,101]⟩:ByteArray)).append (Nest.one (a:=pn) (b:=pn+s0.size) (by omega) ⟨#[108,105,116,101,114,97,108]⟩) (by omega) (by omega) (by omega))).cons (by omega) _)
 ·simp only [It.fin];simp only [It.nd,Nd.size,Nd.sizeL,Nd.miss,Nd.name,Nd.lit,fl,ls];omega
 ·simp only [It.toks,la_,lc_,ln_];simp only [It.nd,Nd.size,Nd.sizeL,Nd.miss,Nd.name,Nd.lit,fl,ls];omega
 ·simp only [It.pre,la_,lc_,ln_];simp only [It.nd,Nd.size,Nd.sizeL,Nd.miss,Nd.name,Nd.lit,fl,ls];omega
 ·have h9:=hcl.1
  simp only [It.toks,It.pre,It.fin,It.kind]
  have hps:qn=e+gapOf g at_.length:=by first | assumption | exact GPN.out
  rw [← hps] at h9
  exact h9
end
end Go.Proofs.YtnkbglhdpmbgfaaGreatFmt
