/- A part of the proof; no condition: Tk, PlR, PlP, PlS, PlTnn. -/
import Derived.Test.YtnkbglhdpmbgfaaGreatFmtM
import Derived.Test.YtnkbglhdpmbgfaaGreatFmtM00
import Derived.Test.YtnkbglhdpmbgfaaGreatFmtM09
import Derived.Test.YtnkbglhdpmbgfaaGreatFmtM08
import Derived.Test.YtnkbglhdpmbgfaaGreatFmtM06
import Derived.Test.YtnkbglhdpmbgfaaGreatFmtM05
set_option linter.all false
set_option maxHeartbeats 16000000
set_option maxRecDepth 100000
namespace Go.Proofs.YtnkbglhdpmbgfaaGreatFmt
section
open Go Go.RowKit
theorem nmToks_len:∀ (l:List Nm) (b:Bool),(nmToks b l).length≤2*l.length
 | [],_=>by simp [nmToks]
 | n::l,b=>by
  have:=nmToks_len l false
  have h:(if b=true then ([]:List Int) else [n.c]).length≤1:=by split <;> simp
  simp only [nmToks,la_,lc_]
  omega
theorem nms_sizeL:∀ (l:List Nm),Nd.sizeL (l.map Nm.nd)=l.length
 | []=>rfl
 | n::l=>by simp only [List.map_cons,Nd.sizeL,nms_sizeL l,Nm.nd,Nd.name,Nd.size,lc_];omega
mutual
theorem Ty.tk_le:∀ (t:Ty) (z:Bool),(t.toks z).length+1≤8*t.nd.size
 | .name _ _,_=>by simp [Ty.toks,Ty.nd,Nd.name,Nd.size,Nd.sizeL]
 | .lit _ _,_=>by simp [Ty.toks,Ty.nd,Nd.lit,Nd.size,Nd.sizeL]
 | .sel x _ _ _,_=>by have:=Ty.tk_le x false;simp only [Ty.toks,Ty.nd,Nd.size,Nd.sizeL,la_,lc_,ln_];omega
 | .star _ x,_=>by have:=Ty.tk_le x false;simp only [Ty.toks,Ty.nd,Nd.size,Nd.sizeL,la_,lc_,ln_];omega
 | .sl _ _ x,_=>by have:=Ty.tk_le x false;simp only [Ty.toks,Ty.nd,Nd.miss,Nd.size,Nd.sizeL,la_,lc_,ln_];omega
 | .arr _ l _ x,_=>by have:=Ty.tk_le x false;have:=Ty.tk_le l false;simp only [Ty.toks,Ty.nd,Nd.size,Nd.sizeL,la_,lc_,ln_];omega
 | .map _ _ l _ x,_=>by have:=Ty.tk_le x false;have:=Ty.tk_le l false;simp only [Ty.toks,Ty.nd,Nd.size,Nd.sizeL,la_,lc_,ln_];omega
 | .ch _ x,_=>by have:=Ty.tk_le x false;simp only [Ty.toks,Ty.nd,Nd.size,Nd.sizeL,la_,lc_,ln_];omega
 | .chs _ _ x,_=>by have:=Ty.tk_le x false;simp only [Ty.toks,Ty.nd,Nd.size,Nd.sizeL,la_,lc_,ln_];omega
 | .chr _ _ x,_=>by have:=Ty.tk_le x false;simp only [Ty.toks,Ty.nd,Nd.size,Nd.sizeL,la_,lc_,ln_];omega
 | .sig _ _ ps _ b _ rs _,z=>by
  have:=Fs.tk_le ps true true false;have:=Fs.tk_le rs true true false
  have h:(if z=true then ([]:List Int) else [0]).length≤1:=by split <;> simp
  cases z <;> cases b <;> simp only [Ty.toks,Ty.nd,fl,Nd.miss,Nd.size,Nd.sizeL,la_,lc_,ln_,if_true,Bool.false_eq_true,if_false] <;> omega
 | .struct _ _ f _,_=>by have:=Fs.tk_le f false true false;simp only [Ty.toks,Ty.nd,fl,Nd.size,Nd.sizeL,la_,lc_,ln_];omega
 | .iface _ _ f _,_=>by have:=Fs.tk_le f false true true;simp only [Ty.toks,Ty.nd,fl,Nd.size,Nd.sizeL,la_,lc_,ln_];omega
theorem Fs.tk_le:∀ (f:Fs) (cm b m:Bool),(f.toks cm b m).length≤8*Nd.sizeL f.nds
 | .nil,_,_,_=>by simp [Fs.toks]
 | .cons c ns t tp tag l,cm,b,m=>by
  have h1:=Ty.tk_le t (m && !ns.isEmpty);have h2:=Fs.tk_le l cm false m;have h3:=nmToks_len ns true;have h4:=nms_sizeL ns
  have h5:(if (cm && !b)=true then [c] else ([]:List Int)).length≤1:=by split <;> simp
  have h6:(if tag.size=0 then ([]:List Int) else [tp]).length≤1:=by split <;> simp
  simp only [Fs.toks,Fs.nds,Nd.size,Nd.sizeL,la_] at h5 h6 ⊢
  omega
end
theorem vsToks_len:∀ (l:List (Int × Ty)),(vsToks l).length≤8*Nd.sizeL (l.map fun v=>v.2.nd)
 | []=>by simp [vsToks]
 | v::l=>by
  have:=Ty.tk_le v.2 false;have:=vsToks_len l
  simp only [vsToks,List.map_cons,Nd.sizeL,la_,lc_]
  omega
end
section
open Go Go.RowKit
theorem vsPre_snoc (d:Int × Ty):∀ l:List (Int × Ty),vsPre (l++[d])=vsPre l++d.2.pre
 | []=>by simp [vsPre]
 | x::l=>by simp [vsPre,vsPre_snoc d l]
theorem vsToks_snoc (d:Int × Ty):∀ l:List (Int × Ty),vsToks (l++[d])=vsToks l++d.1::d.2.toks false
 | []=>by simp [vsToks]
 | x::l=>by simp [vsToks,vsToks_snoc d l]
theorem vsFin_snoc2 (d:Int × Ty):∀ (l:List (Int × Ty)) (e:Int),vsFin e (l++[d])=d.2.fin
 | [],_=>rfl
 | x::l,e=>by simp [vsFin,vsFin_snoc2 d l]
structure VsG (e:Int) (ds l:List (Int × Ty)) (f:Int):Prop where
 nd:l.map (fun v:Int × Ty=>v.2.nd)=ds.map (fun v:Int × Ty=>v.2.nd)
 ok:∀ d∈l,Pk d.1∧d.2.ok false
 le:e≤f
 nest:Nest e f (vsPre l)
 fin:f≤e+16777216*Nd.sizeL (ds.map (fun v:Int × Ty=>v.2.nd))+1001*ds.length
 pl:(vsPre l).length≤4*Nd.sizeL (ds.map (fun v:Int × Ty=>v.2.nd))
 last:vsFin e l=f
theorem VsG.zero (e:Int):VsG e [] [] e:=⟨rfl,by simp,Int.le_refl _,Nest.nil _ _,by simp [Nd.sizeL],by simp [vsPre],rfl⟩
theorem VsG.tk {e f:Int} {ds l:List (Int × Ty)} (h:VsG e ds l f):(vsToks l).length≤8*Nd.sizeL (ds.map (fun v:Int × Ty=>v.2.nd)):=by
 rw [← h.nd];exact vsToks_len l
theorem VsG.snoc {g at2:List Int} {e f p:Int} {ds l:List (Int × Ty)} {d:Int × Ty} {t':Ty} (h:VsG e ds l f) (hd:TyG g at2 (p+1) d.2 t') (hp:f≤p∧p≤f+1000) (hpk:Pk p):VsG e (ds++[d]) (l++[(p,t')]) t'.fin:=by
 have hf:=h.fin;have hle:=h.le;have hpp:=hd.pos;have hl:=hd.le;have hfn:=hd.fin;have hq:=hd.pl
 have hg:=gapOf_le g at2.length
 have hsz:Nd.sizeL ((ds++[d]).map (fun v:Int × Ty=>v.2.nd))=Nd.sizeL (ds.map (fun v:Int × Ty=>v.2.nd))+d.2.nd.size:=by rw [List.map_append,List.map_cons,List.map_nil,sizeL_snoc]
 refine ⟨by simp only [List.map_append,h.nd,List.map_cons,List.map_nil,hd.nd],?_,by omega,?_,by rw [hsz];simp only [la_,lc_,ln_,lm_];omega,?_,vsFin_snoc2 _ _ _⟩
 ·intro x hx
  rcases List.mem_append.1 hx with hx | hx
  ·exact h.ok x hx
  ·simp only [List.mem_singleton] at hx
   subst hx
   exact ⟨hpk,hd.ok⟩
 ·rw [vsPre_snoc]
  exact h.nest.append hd.nest hle (by omega) hl
 ·rw [vsPre_snoc,hsz]
  have h1:=h.pl
  simp only [la_]
  omega
theorem vs_short:∀ (ds:List (Int × Ty)),Nd.shortL (ds.map (fun v:Int × Ty=>v.2.nd))→∀ d∈ds,d.2.nd.short
 | [],_=>by simp
 | x::ds,h=>by
  simp only [List.map_cons,Nd.shortL] at h
  intro d hd
  rcases List.mem_cons.1 hd with rfl | hd
  ·exact h.1
  ·exact vs_short ds h.2 d hd
theorem NmG.fin_ {g at_:List Int} {e f:Int} {ns l:List Nm} (h:NmG g at_ e ns l f) (hn:l≠[]):nmsFin l=f:=by
 obtain ⟨r,n,rfl⟩:∃ r n,l=r++[n]:=⟨_,_,(List.dropLast_concat_getLast hn).symm⟩
 rw [h.last n r rfl]
 clear h hn
 induction r with
 | nil=>rfl
 | cons x r ih =>
  cases r with
  | nil=>rfl
  | cons y r=>simpa [nmsFin] using ih
theorem it_valuen (ns:List Nm) (vs:List (Int × Ty)) (hn:ns≠[]) (hF:∀ v∈vs,TyC v.2) (hlen:vs.length≤400):ItC (.value ns (none) vs):=by
 intro w B base pb g at_ e out s hp hin hB hb hs
 have hbs:=hp.size
 simp only [It.nd,tyOpt] at hin hb hs ⊢
 simp only [Bnd,Nd.size,Nd.sizeL,Nd.miss,ls,nms_sizeL] at hb
 simp only [Nd.short,Nd.shortL,ls] at hs
 obtain ⟨b1,b2,b3,b4⟩:=hb
 have hLs:=hd_ (Nd.In_iff.1 hin)
 obtain ⟨q,c,rfl,hc⟩:=hin.form
 obtain ⟨bb0,o0,c0,q0,d0,he,_,hb0,hi,k01,k02,k03,k04,k05⟩:=hLs.out.get (i:=0) rfl
 cases he
 have HK0:=hd_ k04
 clear k04 hi
 simp only [ls,Nd.k,Nd.t,Nd.l,lm_,Nat.zero_mul,Nat.one_mul,Nat.add_zero,Nat.reduceMul] at k01 k02 k03
 obtain ⟨bb1,o1,c1,q1,d1,he,_,hb1,hi,k11,k12,k13,k14,k15⟩:=hLs.out.get (i:=1) rfl
 cases he
 have HK1:=hd_ k14
 clear k14 hi
 simp only [Nat.zero_mul,Nat.one_mul,Nat.add_zero,Nat.reduceMul] at k11 k12 k13
 obtain ⟨bb2,o2,c2,q2,d2,he,_,hb2,hi,k21,k22,k23,k24,k25⟩:=hLs.out.get (i:=2) rfl
 cases he
 have HK2:=hd_ k24
 clear k24 hi
 simp only [ls,Nd.k,Nd.t,Nd.l,lm_,Nat.zero_mul,Nat.one_mul,Nat.add_zero,Nat.reduceMul] at k21 k22 k23
 have HP:=hd_ hp
 clear hp hin hLs
 simp only [Nd.l,la_,lc_,ln_,lm_,Nat.zero_add,Nat.reduceAdd] at hc
 show Calls _ _ #[_,.agg #[.string ⟨#[118,97,108,117,101]⟩,.string ⟨#[]⟩,.slice (some ⟨bb0,o0,none⟩) 3 c]] _ _
 have HF:=hd_ hF;have HNS:=hd_ hn;have HSN:=hd_ (nms_short hs.2.1.2);have HSV:=hd_ (vs_short vs hs.2.2.2.1.2)
 clear hF hn hs
 have hsz0:vs.length≤Nd.sizeL (vs.map (fun v:Int × Ty=>v.2.nd)):=by have:=Nd.length_le (vs.map (fun v:Int × Ty=>v.2.nd));simpa using this
 have hgap:=gapOf_le g at_.length
 go_enter Tryz.func13,Tryz.ntmps13
 have hk0:Kp No w (w.alloc (.cells #[.string ⟨#[118,97,108,117,101]⟩,.string ⟨#[]⟩,.slice (some ⟨bb0,o0,none⟩) 3 c] 24 (0,0))):=(Kp.refl No w).alloc _
 have hq0:Kq base w _:=Kq.of_no hk0
 have hp0:=HP.out.on hk0 (by simp)
 have hx0:=newOf w (.cells #[.string ⟨#[118,97,108,117,101]⟩,.string ⟨#[]⟩,.slice (some ⟨bb0,o0,none⟩) 3 c] 24 (0,0))
 generalize hw0:w.alloc (.cells #[.string ⟨#[118,97,108,117,101]⟩,.string ⟨#[]⟩,.slice (some ⟨bb0,o0,none⟩) 3 c] 24 (0,0))=w0 at hk0 hq0 hp0 hx0
 obtain ⟨k01_0,k02_0,k03_0⟩:=cellq hq0 (by omega) hbs k01 k02 k03
 obtain ⟨k11_0,k12_0,k13_0⟩:=cellq hq0 (by omega) hbs k11 k12 k13
 obtain ⟨k21_0,k22_0,k23_0⟩:=cellq hq0 (by omega) hbs k21 k22 k23
 have xs0:=ltb hx0
 have x0_0:=cO hx0 0 _ rfl
 have x1_0:=cO hx0 1 _ rfl
 have x2_0:=cO hx0 2 _ rfl
 have HS0:=a3_ hp0 hq0 hx0
 clear hp0 hq0 hx0 hk0
 go_wp2_with fail
 try rw [hw0]
 clear hw0
 refine (open_c _ base pb g at_ e out ⟨#[118,97,108,117,101]⟩ ⟨#[]⟩ _ HS0.out.1 (by omega) (by omega) (by omega) ⟨_,_,_,rfl⟩).mono ?_
 rintro eo wo ⟨rfl,hpo,hro⟩
 have hqo:=HS0.out.2.1.trans hro
 have hxo:=hro.kn w.heap.size _ _ _ HS0.out.2.2 (by decide) (by decide) (by decide)
 clear hro HS0
 clear k01_0 k02_0 k03_0 k11_0 k12_0 k13_0 k21_0 k22_0 k23_0 x0_0 x1_0 x2_0
 obtain ⟨k01_o,k02_o,k03_o⟩:=cellq hqo (by omega) hbs k01 k02 k03
 obtain ⟨k11_o,k12_o,k13_o⟩:=cellq hqo (by omega) hbs k11 k12 k13
 obtain ⟨k21_o,k22_o,k23_o⟩:=cellq hqo (by omega) hbs k21 k22 k23
 have xso:=ltb hxo
 have x0_o:=cO hxo 0 _ rfl
 have x1_o:=cO hxo 1 _ rfl
 have x2_o:=cO hxo 2 _ rfl
 have zso:=hqo.kp.size
 have hlo:Ls wo B (.slice q0 ns.length d0) (ns.map Nm.nd):=by
  have h9:=Nd.In_iff.1 (HK0.out.stay (w':=wo) fun b hb=>hqo.kp.block b (by omega) (by simp only [Fr];omega))
  simpa [ls,Nd.l] using h9
 have HO:=a4_ hpo hqo hxo hlo
 clear hpo hqo hxo hlo
 go_wp2_with fail
 refine (commas_c ns wo B base pb g at_ e _ _ HO.out.1 HO.out.2.2.2 hB HSN.out b1 (by omega) (by omega) (by simp only [la_,lc_,ln_,lm_];omega)).mono ?_
 rintro e1 w1 ⟨⟨v1,rfl⟩,l0,f0,hg0,hp1,hr1⟩
 have hq1:=HO.out.2.1.trans hr1
 have hx1:=hr1.kn w.heap.size _ _ _ HO.out.2.2.1 (by decide) (by decide) (by decide)
 have hl0:l0≠[]:=by rintro rfl;have:=hg0.len;exact HNS.out (List.eq_nil_of_length_eq_zero (by simpa using this.symm))
 have hll:=hg0.len;have hfi:=hg0.fin;have hle:=hg0.le
 have htk:=nmToks_len l0 true
 have HG0:=a2_ hg0 hl0
 clear hr1 HO hg0 hl0
 clear k01_o k02_o k03_o k11_o k12_o k13_o k21_o k22_o k23_o x0_o x1_o x2_o
 obtain ⟨k01_1,k02_1,k03_1⟩:=cellq hq1 (by omega) hbs k01 k02 k03
 obtain ⟨k11_1,k12_1,k13_1⟩:=cellq hq1 (by omega) hbs k11 k12 k13
 obtain ⟨k21_1,k22_1,k23_1⟩:=cellq hq1 (by omega) hbs k21 k22 k23
 have xs1:=ltb hx1
 have x0_1:=cO hx1 0 _ rfl
 have x1_1:=cO hx1 1 _ rfl
 have x2_1:=cO hx1 2 _ rfl
 have zs1:=hq1.kp.size
 have HS1:=a3_ hp1 hq1 hx1
 clear hp1 hq1 hx1
 go_wp2_with fail
 have hin2:=HK1.out.stay (w':=w1) fun b hb=>HS1.out.2.1.kp.block b (by omega) (by simp only [Fr];omega)
 refine (part_miss w1 B pb _ hin2 (by omega)).mono ?_
 rintro e2 w2 ⟨⟨v2,rfl⟩,hr2⟩
 have hp2:=HS1.out.1.on hr2 (by simp)
 have hq2:=HS1.out.2.1.no hr2
 have hx2:=hr2.at HS1.out.2.2 (by simp)
 clear hr2 hin2 HS1
 clear k01_1 k02_1 k03_1 k11_1 k12_1 k13_1 k21_1 k22_1 k23_1 x0_1 x1_1 x2_1
 obtain ⟨k01_2,k02_2,k03_2⟩:=cellq hq2 (by omega) hbs k01 k02 k03
 obtain ⟨k11_2,k12_2,k13_2⟩:=cellq hq2 (by omega) hbs k11 k12 k13
 obtain ⟨k21_2,k22_2,k23_2⟩:=cellq hq2 (by omega) hbs k21 k22 k23
 have xs2:=ltb hx2
 have x0_2:=cO hx2 0 _ rfl
 have x1_2:=cO hx2 1 _ rfl
 have x2_2:=cO hx2 2 _ rfl
 have zs2:=hq2.kp.size
 have hl2:Ls w B (.slice q2 vs.length d2) (vs.map (fun v:Int × Ty=>v.2.nd)):=by
  have h9:=Nd.In_iff.1 HK2.out
  simpa [ls,Nd.l] using h9
 have HL:Hid (Ls w B (.slice q2 vs.length d2) (vs.map (fun v:Int × Ty=>v.2.nd))):=hl2
 have hl2c:vs.length≤d2:=by
  obtain ⟨_,_,h8,h9,_⟩:=id hl2
  rw [lm_] at h8 h9
  cases h8
  exact h9
 have HS2:=a3_ hp2 hq2 hx2
 clear hp2 hq2 hx2 hl2
 go_wp2_with fail
 go_loopw [6,7,70] (fun _ _ i wr=>∃ k:Nat,k≤vs.length∧i=.int .i64 k∧Kq base w wr∧wr.heap[w.heap.size]?=some (.cells #[.string ⟨#[118,97,108,117,101]⟩,.string ⟨#[]⟩,.slice (some ⟨bb0,o0,none⟩) 3 c] 24 (0,0))∧∃ l f1,VsG (f0) (vs.take k) l f1∧PSt wr base pb g (at_++(nmToks true l0++(vsToks l))) f1 (out++⟨⟨#[118,97,108,117,101]⟩,e+gapOf g at_.length,0⟩::(l0.map Nm.pl++(vsPre l)))) (fun _ _ i _=>vs.length - (intOf i).toNat)
 case atStart=>exact ⟨0,Nat.zero_le _,rfl,HS2.out.2.1,HS2.out.2.2,[],f0,VsG.zero _,by simpa [vsToks,vsPre,aa_] using HS2.out.1⟩
 case round =>
  obtain ⟨k,hk,rfl,hq,hbx,l,f1,hg,hp⟩:=hrel
  by_cases hlt:k < vs.length
  ·obtain ⟨d,hd⟩:∃ d,vs[k]?=some d:=⟨_,List.getElem?_eq_getElem hlt⟩
   have hdn:(vs.map (fun v:Int × Ty=>v.2.nd))[k]?=some d.2.nd:=by rw [List.getElem?_map,hd];rfl
   have htk2:vs.take (k+1)=vs.take k++[d]:=by rw [List.take_add_one,hd];rfl
   have hdm:=List.mem_of_getElem? hd
   have hsz:=sizeL_take_le hdn
   rw [← List.map_take] at hsz
   have hlk:(vs.take k).length=k:=by rw [List.length_take];omega
   have hf:=hg.fin;have hle2:=hg.le;have htl:=hg.tk;have hpl:=hg.pl
   rw [hlk] at hf
   have hzs:=hq.kp.size
   have hds:=Nd.size_pos d.2.nd
   obtain ⟨b,oo,c',q',dd,he',_,hb,hi,h1,h2,h3,h4,h5⟩:=(HL.out.stay (w':=wr) (fun i hi=>hq.kp.block i (by omega) (by simp only [Fr];omega))).get (i:=k) hdn
   rw [lm_] at he'
   cases he'
   have HG:=a4_ hg hp hq hbx;have HTK:=hd_ htk2;have HIN:=hd_ h4;have HDM:=hd_ hdm
   clear hg hp hq hbx htk2 h4 hi hd hdn hdm hlk
   have hk0:Kp No wr (wr.alloc (.cells #[.string d.2.nd.k,.string d.2.nd.t,.slice q' d.2.nd.l.length dd] 24 (0,0))):=(Kp.refl No wr).alloc _
   have hn0:=newOf wr (.cells #[.string d.2.nd.k,.string d.2.nd.t,.slice q' d.2.nd.l.length dd] 24 (0,0))
   generalize hwa:wr.alloc (.cells #[.string d.2.nd.k,.string d.2.nd.t,.slice q' d.2.nd.l.length dd] 24 (0,0))=wa at hk0 hn0
   have HK0':Hid (Kp No wr wa∧wa.heap[wr.heap.size]?=some (.cells #[.string d.2.nd.k,.string d.2.nd.t,.slice q' d.2.nd.l.length dd] 24 (0,0))):=⟨hk0,hn0⟩
   have xwa:=ltb hn0
   have y0:=cO hn0 0 _ rfl
   have y1:=cO hn0 1 _ rfl
   have y2:=cO hn0 2 _ rfl
   clear hk0 hn0
   by_cases hk1:k=0
   ·have hkz:(Value.int .i64 (k:Int))=.int .i64 0:=by rw [hk1];rfl
    have hkd:decide ((k:Int)=0)=true:=decide_eq_true (by omega)
    have hkd2:((k:Int) == 0)=true:=by simp [hk1]
    clear hkz hk1
    go_wp2_with fail
    try rw [hwa]
    have ka1:Kp No wa (wa.alloc (.cells #[.string ⟨#[61]⟩] 9 (0,0))):=(Kp.refl No wa).alloc _
    refine (tok1_c _ base pb _ 1 g _ f1 _ ⟨#[61]⟩ ((HG.out.2.1.on HK0'.out.1 (by simp)).on ka1 (by simp)) (newOf wa _) rfl (by decide) (by omega) (by omega) (by simp only [la_,lc_,ln_,lm_];omega)).mono ?_
    rintro e3 w3 ⟨⟨v3,rfl⟩,p,hpq,hp3,hr3⟩
    have hgp:=gapOf_le g (at_++(nmToks true l0++(vsToks l))).length
    have hpb:f1≤p∧p≤f1+1000:=by rw [hpq];omega
    have hz3:((⟨#[61]⟩:ByteArray)).size=1:=rfl
    rw [hz3] at hp3
    have hq3:=(HG.out.2.2.1.no (HK0'.out.1.trans' ka1)).trans hr3
    have hx3:=hr3.kn w.heap.size _ _ _ (ka1.at (HK0'.out.1.at HG.out.2.2.2 (by simp)) (by simp)) (by decide) (by decide) (by decide)
    have hn3:=hr3.kn wr.heap.size _ _ _ (ka1.at HK0'.out.2 (by simp)) (by decide) (by decide) (by decide)
    have zs3:=hq3.kp.size
    have H3:=a3_ hp3 hq3 hx3
    have xw3:=ltb hn3
    clear hp3 hq3 hx3 hr3 ka1 hpq y0 y1 y2
    have y0:=cO hn3 0 _ rfl
    have y1:=cO hn3 1 _ rfl
    have y2:=cO hn3 2 _ rfl
    have hin3:d.2.nd.In w3 B (.slice q' d.2.nd.l.length dd):=(HIN.out.stay (w':=wa) fun b hb=>HK0'.out.1.block b (by omega) (by simp)).stay fun b hb=>by
     have h8:=H3.out.2.1.kp.block b (by omega) (by simp only [Fr];omega)
     have h9:=HG.out.2.2.1.kp.block b (by omega) (by simp only [Fr];omega)
     have h7:=HK0'.out.1.block b (by omega) (by simp)
     rw [h8,h7,h9]
    have HI3:=hd_ hin3
    clear hin3
    go_wp2_with fail
    refine (HF.out d HDM.out _ B base pb g _ (p+1) _ _ H3.out.1 HI3.out hB (by unfold Bnd;simp only [la_,lc_,ln_,lm_];refine ⟨by omega,by omega,by omega,by omega⟩) (HSV.out d HDM.out)).mono ?_
    rintro e4 w4 ⟨⟨v4,rfl⟩,d',hdg,hp4,hq4⟩
    have H4:=a4_ hdg hp4 (H3.out.2.1.trans hq4) (hq4.kn w.heap.size _ _ _ H3.out.2.2 (by decide) (by decide) (by decide))
    clear hdg hp4 hq4 y0 y1 y2
    go_wp2_with fail
    go_roundw
    case rel =>
     refine ⟨k+1,by omega,by go_num,H4.out.2.2.1,H4.out.2.2.2,l++[(p,d')],d'.fin,?_,?_⟩
     ·rw [HTK.out];exact HG.out.1.snoc H4.out.1 hpb (by constructor <;> omega)
     ·rw [vsToks_snoc,vsPre_snoc]
      simpa [aa_] using H4.out.2.1
    case measure=>simp [intOf];omega
   ·have hkd:decide ((k:Int)=0)=false:=decide_eq_false (by omega)
    have hkd2:((k:Int) == 0)=false:=by simp;omega
    clear hk1
    go_wp2_with fail
    try rw [hwa]
    have ka1:Kp No wa (wa.alloc (.cells #[.string ⟨#[44]⟩] 9 (0,0))):=(Kp.refl No wa).alloc _
    refine (tok1_c _ base pb _ 1 g _ f1 _ ⟨#[44]⟩ ((HG.out.2.1.on HK0'.out.1 (by simp)).on ka1 (by simp)) (newOf wa _) rfl (by decide) (by omega) (by omega) (by simp only [la_,lc_,ln_,lm_];omega)).mono ?_
    rintro e3 w3 ⟨⟨v3,rfl⟩,p,hpq,hp3,hr3⟩
    have hgp:=gapOf_le g (at_++(nmToks true l0++(vsToks l))).length
    have hpb:f1≤p∧p≤f1+1000:=by rw [hpq];omega
    have hz3:((⟨#[44]⟩:ByteArray)).size=1:=rfl
    rw [hz3] at hp3
    have hq3:=(HG.out.2.2.1.no (HK0'.out.1.trans' ka1)).trans hr3
    have hx3:=hr3.kn w.heap.size _ _ _ (ka1.at (HK0'.out.1.at HG.out.2.2.2 (by simp)) (by simp)) (by decide) (by decide) (by decide)
    have hn3:=hr3.kn wr.heap.size _ _ _ (ka1.at HK0'.out.2 (by simp)) (by decide) (by decide) (by decide)
    have zs3:=hq3.kp.size
    have H3:=a3_ hp3 hq3 hx3
    have xw3:=ltb hn3
    clear hp3 hq3 hx3 hr3 ka1 hpq y0 y1 y2
    have y0:=cO hn3 0 _ rfl
    have y1:=cO hn3 1 _ rfl
    have y2:=cO hn3 2 _ rfl
    have hin3:d.2.nd.In w3 B (.slice q' d.2.nd.l.length dd):=(HIN.out.stay (w':=wa) fun b hb=>HK0'.out.1.block b (by omega) (by simp)).stay fun b hb=>by
     have h8:=H3.out.2.1.kp.block b (by omega) (by simp only [Fr];omega)
     have h9:=HG.out.2.2.1.kp.block b (by omega) (by simp only [Fr];omega)
     have h7:=HK0'.out.1.block b (by omega) (by simp)
     rw [h8,h7,h9]
    have HI3:=hd_ hin3
    clear hin3
    go_wp2_with fail
    refine (HF.out d HDM.out _ B base pb g _ (p+1) _ _ H3.out.1 HI3.out hB (by unfold Bnd;simp only [la_,lc_,ln_,lm_];refine ⟨by omega,by omega,by omega,by omega⟩) (HSV.out d HDM.out)).mono ?_
    rintro e4 w4 ⟨⟨v4,rfl⟩,d',hdg,hp4,hq4⟩
    have H4:=a4_ hdg hp4 (H3.out.2.1.trans hq4) (hq4.kn w.heap.size _ _ _ H3.out.2.2 (by decide) (by decide) (by decide))
    clear hdg hp4 hq4 y0 y1 y2
    go_wp2_with fail
    go_roundw
    case rel =>
     refine ⟨k+1,by omega,by go_num,H4.out.2.2.1,H4.out.2.2.2,l++[(p,d')],d'.fin,?_,?_⟩
     ·rw [HTK.out];exact HG.out.1.snoc H4.out.1 hpb (by constructor <;> omega)
     ·rw [vsToks_snoc,vsPre_snoc]
      simpa [aa_] using H4.out.2.1
    case measure=>simp [intOf];omega
  ·have hkn:k=vs.length:=by omega
   have htake:vs.take k=vs:=List.take_of_length_le (by omega)
   rw [htake] at hg
   have hf:=hg.fin;have hle2:=hg.le;have htl:=hg.tk;have hpl:=hg.pl
   have t0:=cO hbx 0 _ rfl
   have t1:=cO hbx 1 _ rfl
   have t2:=cO hbx 2 _ rfl
   have xbx:=ltb hbx
   have HG:=a2_ hg hq
   clear hg hq htake hbx
   obtain ⟨gv,av,ov,hp5⟩:=hp
   have hp5:PStx wr base pb g (at_++(nmToks true l0++(vsToks l))) f1 (out++⟨⟨#[118,97,108,117,101]⟩,e+gapOf g at_.length,0⟩::(l0.map Nm.pl++(vsPre l))) gv av ov:=hp5
   obtain ⟨gb,cap,hov,_,_,hlt5,lgb,_,_,xx2⟩:=hp5.2.2.2.1.get (i:=out.length) (p:=⟨⟨#[118,97,108,117,101]⟩,e+gapOf g at_.length,0⟩) (by simp)
   obtain ⟨N,hN⟩:∃ N,N=(out++(⟨⟨#[118,97,108,117,101]⟩,e+gapOf g at_.length,0⟩:Pl)::(l0.map Nm.pl++(vsPre l))).length:=⟨_,rfl⟩
   rw [← hN] at hov hlt5
   subst hov
   obtain ⟨_,cur,hgc5⟩:=hp5.2.2.2.1.blk (g:=gb) rfl
   have cc2:wr.cell? ⟨pb,2,none⟩=some (.int .i64 f1):=cO hp5.1 2 _ rfl
   have cc3:wr.cell? ⟨pb,3,none⟩=some (.slice (some ⟨gb,0,none⟩) N cap):=cO hp5.1 3 _ rfl
   have fx:=fO hgc5 (out.length*3+2)
   have lpb:=ltb hp5.1
   have ne1:pb≠gb:=ne_blk hp5.1 hgc5 (by simp)
   have ne2:gb≠pb:=ne1.symm
   have H5:=hd_ hp5
   clear hp5 hgc5 hN
   go_wp2_with fail
   go_region_held3 (fun w'=>w'.cell? ⟨pb,2,none⟩=some (.int .i64 f1)∧w'.cell? ⟨pb,3,none⟩=some (.slice (some ⟨gb,0,none⟩) N cap))
    (first | (go_keep;done))
    (fail)
   have hcl:=PStx.close (e2:=f1) H5.out ((Kp.refl No wr).drew)
   have hf0:=HG0.out.1.fin_ HG0.out.2
   obtain ⟨n0,r0,hl0⟩:∃ n r,l0=n::r:=by
    cases hh:l0 with
    | nil=>exact absurd hh HG0.out.2
    | cons n r=>exact ⟨n,r,rfl⟩
   have hps:nmsPos l0=e+gapOf g at_.length:=by rw [hl0];exact HG0.out.1.pos n0 r0 hl0
   have hn0:=HG0.out.1.nest n0 r0 hl0
   have hn1:n0.p=nmsPos l0:=by rw [hl0];rfl
   rw [hn1] at hn0
   have hfin:vsFin (f0) l=f1:=HG.out.1.last
   have hpl0:(l0.map Nm.pl).length=ns.length:=by rw [lm_];exact hll
   refine bodyPost_end (v:=.tuple #[]) (by simp [results,Tryz.results13,go_sem]) rfl ⟨⟨_,rfl⟩,.value l0 (none) l,⟨?_,?_,?_,?_,?_,?_,?_,?_⟩,?_,HG.out.2.trans hcl.2⟩
   ·simp only [It.nd,HG0.out.1.nd,HG.out.1.nd,tyOpt]
   ·simp only [It.ok];exact ⟨HG0.out.2,HG0.out.1.ok,by simp,HG.out.1.ok⟩
   ·simp only [It.pos];exact hps
   ·simp only [It.pos,It.fin,tyFin,hf0,hfin];omega
   ·simp only [It.pos,It.fin,It.pre,tyFin,tyPre,hf0,hfin];exact ((hn0.2.append (HG.out.1.nest) hn0.1 (by omega) (by omega)).cons (by omega) _)
   ·simp only [It.fin,tyFin,hf0,hfin];simp only [It.nd,tyOpt,Nd.size,Nd.sizeL,Nd.miss,ls,nms_sizeL];omega
   ·simp only [It.toks,tyToks,la_,lc_,ln_,lm_];simp only [It.nd,tyOpt,Nd.size,Nd.sizeL,Nd.miss,ls,nms_sizeL];omega
   ·simp only [It.pre,tyPre,la_,lc_,ln_,hpl0];simp only [It.nd,tyOpt,Nd.size,Nd.sizeL,Nd.miss,ls,nms_sizeL];omega
   ·have h9:=hcl.1
    simp only [It.toks,It.pre,It.fin,tyFin,tyToks,tyPre,hf0,hfin,hps,List.nil_append]
    exact h9
theorem it_valuet (ns:List Nm) (x:Ty) (htx:TyC x) (vs:List (Int × Ty)) (hn:ns≠[]) (hF:∀ v∈vs,TyC v.2) (hlen:vs.length≤400):ItC (.value ns (some x) vs):=by
 intro w B base pb g at_ e out s hp hin hB hb hs
 have hbs:=hp.size
 simp only [It.nd,tyOpt] at hin hb hs ⊢
 simp only [Bnd,Nd.size,Nd.sizeL,Nd.miss,ls,nms_sizeL] at hb
 simp only [Nd.short,Nd.shortL,ls] at hs
 obtain ⟨b1,b2,b3,b4⟩:=hb
 have hLs:=hd_ (Nd.In_iff.1 hin)
 obtain ⟨q,c,rfl,hc⟩:=hin.form
 obtain ⟨bb0,o0,c0,q0,d0,he,_,hb0,hi,k01,k02,k03,k04,k05⟩:=hLs.out.get (i:=0) rfl
 cases he
 have HK0:=hd_ k04
 clear k04 hi
 simp only [ls,Nd.k,Nd.t,Nd.l,lm_,Nat.zero_mul,Nat.one_mul,Nat.add_zero,Nat.reduceMul] at k01 k02 k03
 obtain ⟨bb1,o1,c1,q1,d1,he,_,hb1,hi,k11,k12,k13,k14,k15⟩:=hLs.out.get (i:=1) rfl
 cases he
 have HK1:=hd_ k14
 clear k14 hi
 simp only [Nat.zero_mul,Nat.one_mul,Nat.add_zero,Nat.reduceMul] at k11 k12 k13
 obtain ⟨bb2,o2,c2,q2,d2,he,_,hb2,hi,k21,k22,k23,k24,k25⟩:=hLs.out.get (i:=2) rfl
 cases he
 have HK2:=hd_ k24
 clear k24 hi
 simp only [ls,Nd.k,Nd.t,Nd.l,lm_,Nat.zero_mul,Nat.one_mul,Nat.add_zero,Nat.reduceMul] at k21 k22 k23
 have HP:=hd_ hp
 clear hp hin hLs
 simp only [Nd.l,la_,lc_,ln_,lm_,Nat.zero_add,Nat.reduceAdd] at hc
 show Calls _ _ #[_,.agg #[.string ⟨#[118,97,108,117,101]⟩,.string ⟨#[]⟩,.slice (some ⟨bb0,o0,none⟩) 3 c]] _ _
 have HF:=hd_ hF;have HNS:=hd_ hn;have HSN:=hd_ (nms_short hs.2.1.2);have HSV:=hd_ (vs_short vs hs.2.2.2.1.2);have HTX:=hd_ htx;have HST:=hd_ hs.2.2.1
 clear hF hn hs htx
 have hsz0:vs.length≤Nd.sizeL (vs.map (fun v:Int × Ty=>v.2.nd)):=by have:=Nd.length_le (vs.map (fun v:Int × Ty=>v.2.nd));simpa using this
 have hgap:=gapOf_le g at_.length
 go_enter Tryz.func13,Tryz.ntmps13
 have hk0:Kp No w (w.alloc (.cells #[.string ⟨#[118,97,108,117,101]⟩,.string ⟨#[]⟩,.slice (some ⟨bb0,o0,none⟩) 3 c] 24 (0,0))):=(Kp.refl No w).alloc _
 have hq0:Kq base w _:=Kq.of_no hk0
 have hp0:=HP.out.on hk0 (by simp)
 have hx0:=newOf w (.cells #[.string ⟨#[118,97,108,117,101]⟩,.string ⟨#[]⟩,.slice (some ⟨bb0,o0,none⟩) 3 c] 24 (0,0))
 generalize hw0:w.alloc (.cells #[.string ⟨#[118,97,108,117,101]⟩,.string ⟨#[]⟩,.slice (some ⟨bb0,o0,none⟩) 3 c] 24 (0,0))=w0 at hk0 hq0 hp0 hx0
 obtain ⟨k01_0,k02_0,k03_0⟩:=cellq hq0 (by omega) hbs k01 k02 k03
 obtain ⟨k11_0,k12_0,k13_0⟩:=cellq hq0 (by omega) hbs k11 k12 k13
 obtain ⟨k21_0,k22_0,k23_0⟩:=cellq hq0 (by omega) hbs k21 k22 k23
 have xs0:=ltb hx0
 have x0_0:=cO hx0 0 _ rfl
 have x1_0:=cO hx0 1 _ rfl
 have x2_0:=cO hx0 2 _ rfl
 have HS0:=a3_ hp0 hq0 hx0
 clear hp0 hq0 hx0 hk0
 go_wp2_with fail
 try rw [hw0]
 clear hw0
 refine (open_c _ base pb g at_ e out ⟨#[118,97,108,117,101]⟩ ⟨#[]⟩ _ HS0.out.1 (by omega) (by omega) (by omega) ⟨_,_,_,rfl⟩).mono ?_
 rintro eo wo ⟨rfl,hpo,hro⟩
 have hqo:=HS0.out.2.1.trans hro
 have hxo:=hro.kn w.heap.size _ _ _ HS0.out.2.2 (by decide) (by decide) (by decide)
 clear hro HS0
 clear k01_0 k02_0 k03_0 k11_0 k12_0 k13_0 k21_0 k22_0 k23_0 x0_0 x1_0 x2_0
 obtain ⟨k01_o,k02_o,k03_o⟩:=cellq hqo (by omega) hbs k01 k02 k03
 obtain ⟨k11_o,k12_o,k13_o⟩:=cellq hqo (by omega) hbs k11 k12 k13
 obtain ⟨k21_o,k22_o,k23_o⟩:=cellq hqo (by omega) hbs k21 k22 k23
 have xso:=ltb hxo
 have x0_o:=cO hxo 0 _ rfl
 have x1_o:=cO hxo 1 _ rfl
 have x2_o:=cO hxo 2 _ rfl
 have zso:=hqo.kp.size
 have hlo:Ls wo B (.slice q0 ns.length d0) (ns.map Nm.nd):=by
  have h9:=Nd.In_iff.1 (HK0.out.stay (w':=wo) fun b hb=>hqo.kp.block b (by omega) (by simp only [Fr];omega))
  simpa [ls,Nd.l] using h9
 have HO:=a4_ hpo hqo hxo hlo
 clear hpo hqo hxo hlo
 go_wp2_with fail
 refine (commas_c ns wo B base pb g at_ e _ _ HO.out.1 HO.out.2.2.2 hB HSN.out b1 (by omega) (by omega) (by simp only [la_,lc_,ln_,lm_];omega)).mono ?_
 rintro e1 w1 ⟨⟨v1,rfl⟩,l0,f0,hg0,hp1,hr1⟩
 have hq1:=HO.out.2.1.trans hr1
 have hx1:=hr1.kn w.heap.size _ _ _ HO.out.2.2.1 (by decide) (by decide) (by decide)
 have hl0:l0≠[]:=by rintro rfl;have:=hg0.len;exact HNS.out (List.eq_nil_of_length_eq_zero (by simpa using this.symm))
 have hll:=hg0.len;have hfi:=hg0.fin;have hle:=hg0.le
 have htk:=nmToks_len l0 true
 have HG0:=a2_ hg0 hl0
 clear hr1 HO hg0 hl0
 clear k01_o k02_o k03_o k11_o k12_o k13_o k21_o k22_o k23_o x0_o x1_o x2_o
 obtain ⟨k01_1,k02_1,k03_1⟩:=cellq hq1 (by omega) hbs k01 k02 k03
 obtain ⟨k11_1,k12_1,k13_1⟩:=cellq hq1 (by omega) hbs k11 k12 k13
 obtain ⟨k21_1,k22_1,k23_1⟩:=cellq hq1 (by omega) hbs k21 k22 k23
 have xs1:=ltb hx1
 have x0_1:=cO hx1 0 _ rfl
 have x1_1:=cO hx1 1 _ rfl
 have x2_1:=cO hx1 2 _ rfl
 have zs1:=hq1.kp.size
 have HS1:=a3_ hp1 hq1 hx1
 clear hp1 hq1 hx1
 go_wp2_with fail
 have hin2:=HK1.out.stay (w':=w1) fun b hb=>HS1.out.2.1.kp.block b (by omega) (by simp only [Fr];omega)
 have hsz2:=Ty.size_pos x
 refine (part_node x HTX.out w1 B base pb g _ _ _ _ HS1.out.1 hin2 hB (by unfold Bnd;simp only [la_,lc_,ln_,lm_];refine ⟨by omega,by omega,by omega,by omega⟩) HST.out).mono ?_
 rintro e2 w2 ⟨⟨v2,rfl⟩,x',gx,hp2,hr2⟩
 have hgpx:=gapOf_le g (at_++nmToks true l0).length
 have gpx:=gx.pos;have glx:=gx.le;have gfx:=gx.fin;have gtx:=gx.tk;have gqx:=gx.pl
 have hq2:=HS1.out.2.1.trans hr2
 have hx2:=hr2.kn w.heap.size _ _ _ HS1.out.2.2 (by decide) (by decide) (by decide)
 have HGX:=hd_ gx
 clear hr2 hin2 HS1 gx
 clear k01_1 k02_1 k03_1 k11_1 k12_1 k13_1 k21_1 k22_1 k23_1 x0_1 x1_1 x2_1
 obtain ⟨k01_2,k02_2,k03_2⟩:=cellq hq2 (by omega) hbs k01 k02 k03
 obtain ⟨k11_2,k12_2,k13_2⟩:=cellq hq2 (by omega) hbs k11 k12 k13
 obtain ⟨k21_2,k22_2,k23_2⟩:=cellq hq2 (by omega) hbs k21 k22 k23
 have xs2:=ltb hx2
 have x0_2:=cO hx2 0 _ rfl
 have x1_2:=cO hx2 1 _ rfl
 have x2_2:=cO hx2 2 _ rfl
 have zs2:=hq2.kp.size
 have hl2:Ls w B (.slice q2 vs.length d2) (vs.map (fun v:Int × Ty=>v.2.nd)):=by
  have h9:=Nd.In_iff.1 HK2.out
  simpa [ls,Nd.l] using h9
 have HL:Hid (Ls w B (.slice q2 vs.length d2) (vs.map (fun v:Int × Ty=>v.2.nd))):=hl2
 have hl2c:vs.length≤d2:=by
  obtain ⟨_,_,h8,h9,_⟩:=id hl2
  rw [lm_] at h8 h9
  cases h8
  exact h9
 have HS2:=a3_ hp2 hq2 hx2
 clear hp2 hq2 hx2 hl2
 go_wp2_with fail
 go_loopw [6,7,70] (fun _ _ i wr=>∃ k:Nat,k≤vs.length∧i=.int .i64 k∧Kq base w wr∧wr.heap[w.heap.size]?=some (.cells #[.string ⟨#[118,97,108,117,101]⟩,.string ⟨#[]⟩,.slice (some ⟨bb0,o0,none⟩) 3 c] 24 (0,0))∧∃ l f1,VsG (x'.fin) (vs.take k) l f1∧PSt wr base pb g (at_++(nmToks true l0++(x'.toks false++vsToks l))) f1 (out++⟨⟨#[118,97,108,117,101]⟩,e+gapOf g at_.length,0⟩::(l0.map Nm.pl++(x'.pre++vsPre l)))) (fun _ _ i _=>vs.length - (intOf i).toNat)
 case atStart=>exact ⟨0,Nat.zero_le _,rfl,HS2.out.2.1,HS2.out.2.2,[],x'.fin,VsG.zero _,by simpa [vsToks,vsPre,aa_] using HS2.out.1⟩
 case round =>
  obtain ⟨k,hk,rfl,hq,hbx,l,f1,hg,hp⟩:=hrel
  by_cases hlt:k < vs.length
  ·obtain ⟨d,hd⟩:∃ d,vs[k]?=some d:=⟨_,List.getElem?_eq_getElem hlt⟩
   have hdn:(vs.map (fun v:Int × Ty=>v.2.nd))[k]?=some d.2.nd:=by rw [List.getElem?_map,hd];rfl
   have htk2:vs.take (k+1)=vs.take k++[d]:=by rw [List.take_add_one,hd];rfl
   have hdm:=List.mem_of_getElem? hd
   have hsz:=sizeL_take_le hdn
   rw [← List.map_take] at hsz
   have hlk:(vs.take k).length=k:=by rw [List.length_take];omega
   have hf:=hg.fin;have hle2:=hg.le;have htl:=hg.tk;have hpl:=hg.pl
   rw [hlk] at hf
   have hzs:=hq.kp.size
   have hds:=Nd.size_pos d.2.nd
   obtain ⟨b,oo,c',q',dd,he',_,hb,hi,h1,h2,h3,h4,h5⟩:=(HL.out.stay (w':=wr) (fun i hi=>hq.kp.block i (by omega) (by simp only [Fr];omega))).get (i:=k) hdn
   rw [lm_] at he'
   cases he'
   have HG:=a4_ hg hp hq hbx;have HTK:=hd_ htk2;have HIN:=hd_ h4;have HDM:=hd_ hdm
   clear hg hp hq hbx htk2 h4 hi hd hdn hdm hlk
   have hk0:Kp No wr (wr.alloc (.cells #[.string d.2.nd.k,.string d.2.nd.t,.slice q' d.2.nd.l.length dd] 24 (0,0))):=(Kp.refl No wr).alloc _
   have hn0:=newOf wr (.cells #[.string d.2.nd.k,.string d.2.nd.t,.slice q' d.2.nd.l.length dd] 24 (0,0))
   generalize hwa:wr.alloc (.cells #[.string d.2.nd.k,.string d.2.nd.t,.slice q' d.2.nd.l.length dd] 24 (0,0))=wa at hk0 hn0
   have HK0':Hid (Kp No wr wa∧wa.heap[wr.heap.size]?=some (.cells #[.string d.2.nd.k,.string d.2.nd.t,.slice q' d.2.nd.l.length dd] 24 (0,0))):=⟨hk0,hn0⟩
   have xwa:=ltb hn0
   have y0:=cO hn0 0 _ rfl
   have y1:=cO hn0 1 _ rfl
   have y2:=cO hn0 2 _ rfl
   clear hk0 hn0
   by_cases hk1:k=0
   ·have hkz:(Value.int .i64 (k:Int))=.int .i64 0:=by rw [hk1];rfl
    have hkd:decide ((k:Int)=0)=true:=decide_eq_true (by omega)
    have hkd2:((k:Int) == 0)=true:=by simp [hk1]
    clear hkz hk1
    go_wp2_with fail
    try rw [hwa]
    have ka1:Kp No wa (wa.alloc (.cells #[.string ⟨#[61]⟩] 9 (0,0))):=(Kp.refl No wa).alloc _
    refine (tok1_c _ base pb _ 1 g _ f1 _ ⟨#[61]⟩ ((HG.out.2.1.on HK0'.out.1 (by simp)).on ka1 (by simp)) (newOf wa _) rfl (by decide) (by omega) (by omega) (by simp only [la_,lc_,ln_,lm_];omega)).mono ?_
    rintro e3 w3 ⟨⟨v3,rfl⟩,p,hpq,hp3,hr3⟩
    have hgp:=gapOf_le g (at_++(nmToks true l0++(x'.toks false++vsToks l))).length
    have hpb:f1≤p∧p≤f1+1000:=by rw [hpq];omega
    have hz3:((⟨#[61]⟩:ByteArray)).size=1:=rfl
    rw [hz3] at hp3
    have hq3:=(HG.out.2.2.1.no (HK0'.out.1.trans' ka1)).trans hr3
    have hx3:=hr3.kn w.heap.size _ _ _ (ka1.at (HK0'.out.1.at HG.out.2.2.2 (by simp)) (by simp)) (by decide) (by decide) (by decide)
    have hn3:=hr3.kn wr.heap.size _ _ _ (ka1.at HK0'.out.2 (by simp)) (by decide) (by decide) (by decide)
    have zs3:=hq3.kp.size
    have H3:=a3_ hp3 hq3 hx3
    have xw3:=ltb hn3
    clear hp3 hq3 hx3 hr3 ka1 hpq y0 y1 y2
    have y0:=cO hn3 0 _ rfl
    have y1:=cO hn3 1 _ rfl
    have y2:=cO hn3 2 _ rfl
    have hin3:d.2.nd.In w3 B (.slice q' d.2.nd.l.length dd):=(HIN.out.stay (w':=wa) fun b hb=>HK0'.out.1.block b (by omega) (by simp)).stay fun b hb=>by
     have h8:=H3.out.2.1.kp.block b (by omega) (by simp only [Fr];omega)
     have h9:=HG.out.2.2.1.kp.block b (by omega) (by simp only [Fr];omega)
     have h7:=HK0'.out.1.block b (by omega) (by simp)
     rw [h8,h7,h9]
    have HI3:=hd_ hin3
    clear hin3
    go_wp2_with fail
    refine (HF.out d HDM.out _ B base pb g _ (p+1) _ _ H3.out.1 HI3.out hB (by unfold Bnd;simp only [la_,lc_,ln_,lm_];refine ⟨by omega,by omega,by omega,by omega⟩) (HSV.out d HDM.out)).mono ?_
    rintro e4 w4 ⟨⟨v4,rfl⟩,d',hdg,hp4,hq4⟩
    have H4:=a4_ hdg hp4 (H3.out.2.1.trans hq4) (hq4.kn w.heap.size _ _ _ H3.out.2.2 (by decide) (by decide) (by decide))
    clear hdg hp4 hq4 y0 y1 y2
    go_wp2_with fail
    go_roundw
    case rel =>
     refine ⟨k+1,by omega,by go_num,H4.out.2.2.1,H4.out.2.2.2,l++[(p,d')],d'.fin,?_,?_⟩
     ·rw [HTK.out];exact HG.out.1.snoc H4.out.1 hpb (by constructor <;> omega)
     ·rw [vsToks_snoc,vsPre_snoc]
      simpa [aa_] using H4.out.2.1
    case measure=>simp [intOf];omega
   ·have hkd:decide ((k:Int)=0)=false:=decide_eq_false (by omega)
    have hkd2:((k:Int) == 0)=false:=by simp;omega
    clear hk1
    go_wp2_with fail
    try rw [hwa]
    have ka1:Kp No wa (wa.alloc (.cells #[.string ⟨#[44]⟩] 9 (0,0))):=(Kp.refl No wa).alloc _
    refine (tok1_c _ base pb _ 1 g _ f1 _ ⟨#[44]⟩ ((HG.out.2.1.on HK0'.out.1 (by simp)).on ka1 (by simp)) (newOf wa _) rfl (by decide) (by omega) (by omega) (by simp only [la_,lc_,ln_,lm_];omega)).mono ?_
    rintro e3 w3 ⟨⟨v3,rfl⟩,p,hpq,hp3,hr3⟩
    have hgp:=gapOf_le g (at_++(nmToks true l0++(x'.toks false++vsToks l))).length
    have hpb:f1≤p∧p≤f1+1000:=by rw [hpq];omega
    have hz3:((⟨#[44]⟩:ByteArray)).size=1:=rfl
    rw [hz3] at hp3
    have hq3:=(HG.out.2.2.1.no (HK0'.out.1.trans' ka1)).trans hr3
    have hx3:=hr3.kn w.heap.size _ _ _ (ka1.at (HK0'.out.1.at HG.out.2.2.2 (by simp)) (by simp)) (by decide) (by decide) (by decide)
    have hn3:=hr3.kn wr.heap.size _ _ _ (ka1.at HK0'.out.2 (by simp)) (by decide) (by decide) (by decide)
    have zs3:=hq3.kp.size
    have H3:=a3_ hp3 hq3 hx3
    have xw3:=ltb hn3
    clear hp3 hq3 hx3 hr3 ka1 hpq y0 y1 y2
    have y0:=cO hn3 0 _ rfl
    have y1:=cO hn3 1 _ rfl
    have y2:=cO hn3 2 _ rfl
    have hin3:d.2.nd.In w3 B (.slice q' d.2.nd.l.length dd):=(HIN.out.stay (w':=wa) fun b hb=>HK0'.out.1.block b (by omega) (by simp)).stay fun b hb=>by
     have h8:=H3.out.2.1.kp.block b (by omega) (by simp only [Fr];omega)
     have h9:=HG.out.2.2.1.kp.block b (by omega) (by simp only [Fr];omega)
     have h7:=HK0'.out.1.block b (by omega) (by simp)
     rw [h8,h7,h9]
    have HI3:=hd_ hin3
    clear hin3
    go_wp2_with fail
    refine (HF.out d HDM.out _ B base pb g _ (p+1) _ _ H3.out.1 HI3.out hB (by unfold Bnd;simp only [la_,lc_,ln_,lm_];refine ⟨by omega,by omega,by omega,by omega⟩) (HSV.out d HDM.out)).mono ?_
    rintro e4 w4 ⟨⟨v4,rfl⟩,d',hdg,hp4,hq4⟩
    have H4:=a4_ hdg hp4 (H3.out.2.1.trans hq4) (hq4.kn w.heap.size _ _ _ H3.out.2.2 (by decide) (by decide) (by decide))
    clear hdg hp4 hq4 y0 y1 y2
    go_wp2_with fail
    go_roundw
    case rel =>
     refine ⟨k+1,by omega,by go_num,H4.out.2.2.1,H4.out.2.2.2,l++[(p,d')],d'.fin,?_,?_⟩
     ·rw [HTK.out];exact HG.out.1.snoc H4.out.1 hpb (by constructor <;> omega)
     ·rw [vsToks_snoc,vsPre_snoc]
      simpa [aa_] using H4.out.2.1
    case measure=>simp [intOf];omega
  ·have hkn:k=vs.length:=by omega
   have htake:vs.take k=vs:=List.take_of_length_le (by omega)
   rw [htake] at hg
   have hf:=hg.fin;have hle2:=hg.le;have htl:=hg.tk;have hpl:=hg.pl
   have t0:=cO hbx 0 _ rfl
   have t1:=cO hbx 1 _ rfl
   have t2:=cO hbx 2 _ rfl
   have xbx:=ltb hbx
   have HG:=a2_ hg hq
   clear hg hq htake hbx
   obtain ⟨gv,av,ov,hp5⟩:=hp
   have hp5:PStx wr base pb g (at_++(nmToks true l0++(x'.toks false++vsToks l))) f1 (out++⟨⟨#[118,97,108,117,101]⟩,e+gapOf g at_.length,0⟩::(l0.map Nm.pl++(x'.pre++vsPre l))) gv av ov:=hp5
   obtain ⟨gb,cap,hov,_,_,hlt5,lgb,_,_,xx2⟩:=hp5.2.2.2.1.get (i:=out.length) (p:=⟨⟨#[118,97,108,117,101]⟩,e+gapOf g at_.length,0⟩) (by simp)
   obtain ⟨N,hN⟩:∃ N,N=(out++(⟨⟨#[118,97,108,117,101]⟩,e+gapOf g at_.length,0⟩:Pl)::(l0.map Nm.pl++(x'.pre++vsPre l))).length:=⟨_,rfl⟩
   rw [← hN] at hov hlt5
   subst hov
   obtain ⟨_,cur,hgc5⟩:=hp5.2.2.2.1.blk (g:=gb) rfl
   have cc2:wr.cell? ⟨pb,2,none⟩=some (.int .i64 f1):=cO hp5.1 2 _ rfl
   have cc3:wr.cell? ⟨pb,3,none⟩=some (.slice (some ⟨gb,0,none⟩) N cap):=cO hp5.1 3 _ rfl
   have fx:=fO hgc5 (out.length*3+2)
   have lpb:=ltb hp5.1
   have ne1:pb≠gb:=ne_blk hp5.1 hgc5 (by simp)
   have ne2:gb≠pb:=ne1.symm
   have H5:=hd_ hp5
   clear hp5 hgc5 hN
   go_wp2_with fail
   go_region_held3 (fun w'=>w'.cell? ⟨pb,2,none⟩=some (.int .i64 f1)∧w'.cell? ⟨pb,3,none⟩=some (.slice (some ⟨gb,0,none⟩) N cap))
    (first | (go_keep;done))
    (fail)
   have hcl:=PStx.close (e2:=f1) H5.out ((Kp.refl No wr).drew)
   have hf0:=HG0.out.1.fin_ HG0.out.2
   obtain ⟨n0,r0,hl0⟩:∃ n r,l0=n::r:=by
    cases hh:l0 with
    | nil=>exact absurd hh HG0.out.2
    | cons n r=>exact ⟨n,r,rfl⟩
   have hps:nmsPos l0=e+gapOf g at_.length:=by rw [hl0];exact HG0.out.1.pos n0 r0 hl0
   have hn0:=HG0.out.1.nest n0 r0 hl0
   have hn1:n0.p=nmsPos l0:=by rw [hl0];rfl
   rw [hn1] at hn0
   have hfin:vsFin (x'.fin) l=f1:=HG.out.1.last
   have hpl0:(l0.map Nm.pl).length=ns.length:=by rw [lm_];exact hll
   refine bodyPost_end (v:=.tuple #[]) (by simp [results,Tryz.results13,go_sem]) rfl ⟨⟨_,rfl⟩,.value l0 (some x') l,⟨?_,?_,?_,?_,?_,?_,?_,?_⟩,?_,HG.out.2.trans hcl.2⟩
   ·simp only [It.nd,HG0.out.1.nd,HG.out.1.nd,tyOpt,HGX.out.nd]
   ·simp only [It.ok];exact ⟨HG0.out.2,HG0.out.1.ok,fun y hy=>by cases hy;exact HGX.out.ok,HG.out.1.ok⟩
   ·simp only [It.pos];exact hps
   ·simp only [It.pos,It.fin,tyFin,hf0,hfin];omega
   ·simp only [It.pos,It.fin,It.pre,tyFin,tyPre,hf0,hfin];exact ((hn0.2.append (HGX.out.nest.append HG.out.1.nest (by omega) (by omega) (by omega)) hn0.1 (by omega) (by omega)).cons (by omega) _)
   ·simp only [It.fin,tyFin,hf0,hfin];simp only [It.nd,tyOpt,Nd.size,Nd.sizeL,Nd.miss,ls,nms_sizeL];omega
   ·simp only [It.toks,tyToks,la_,lc_,ln_,lm_];simp only [It.nd,tyOpt,Nd.size,Nd.sizeL,Nd.miss,ls,nms_sizeL];omega
   ·simp only [It.pre,tyPre,la_,lc_,ln_,hpl0];simp only [It.nd,tyOpt,Nd.size,Nd.sizeL,Nd.miss,ls,nms_sizeL];omega
   ·have h9:=hcl.1
    simp only [It.toks,It.pre,It.fin,tyFin,tyToks,tyPre,hf0,hfin,hps,List.nil_append]
    exact h9
end
section
open Go Go.RowKit
theorem node_body (w:World) (base pb:Nat) (g at_:List Int) (e:Int) (out:List Pl) (q:Option Addr) (c:Nat) (hp:PSt w base pb g at_ e out) (he:0≤e) (he2:e≤1125899906842624) (ha:at_.length+2≤1048576) (ho:out.length≤1048575) :
 Calls Tryz.prog 13 #[.pointer (some ⟨pb,0,none⟩),.agg #[.string ⟨#[98,111,100,121]⟩,.string ⟨#[]⟩,.slice q 0 c]] w fun e' w'=>(∃ v,e'=.returned v)∧∃ o c,o=e+gapOf g at_.length∧o+1≤c∧c≤o+1001∧PSt w' base pb g (at_++[o,c]) (c+1) (out++[⟨⟨#[98,111,100,121]⟩,o,c+1⟩])∧Kq base w w':=by
 have HP:=hd_ hp
 have hgap:=gapOf_le g at_.length
 clear hp
 go_enter Tryz.func13,Tryz.ntmps13
 have hk0:Kp No w (w.alloc (.cells #[.string ⟨#[98,111,100,121]⟩,.string ⟨#[]⟩,.slice q 0 c] 24 (0,0))):=(Kp.refl No w).alloc _
 have hp0:=HP.out.on hk0 (by simp)
 have hx0:=newOf w (.cells #[.string ⟨#[98,111,100,121]⟩,.string ⟨#[]⟩,.slice q 0 c] 24 (0,0))
 generalize hw0:w.alloc (.cells #[.string ⟨#[98,111,100,121]⟩,.string ⟨#[]⟩,.slice q 0 c] 24 (0,0))=w0 at hk0 hp0 hx0
 have xs0:w0.heap.size > w.heap.size:=ltb hx0
 have x0:=cO hx0 0 _ rfl
 have x1:=cO hx0 1 _ rfl
 have x2:=cO hx0 2 _ rfl
 have HS0:=a3_ hp0 hk0 hx0
 clear hp0 hk0 hx0
 go_wp2_with fail
 try rw [hw0]
 clear hw0
 refine (open_c w0 base pb g at_ e out ⟨#[98,111,100,121]⟩ ⟨#[]⟩ _ HS0.out.1 he he2 ho ⟨_,_,_,rfl⟩).mono ?_
 rintro e1 w1 ⟨rfl,hp1,hr1⟩
 have hx1:=hr1.kn w.heap.size _ _ _ HS0.out.2.2 (by decide) (by decide) (by decide)
 have hq1:=(Kq.of_no HS0.out.2.1).trans hr1
 have xs1:=ltb hx1
 have y0:=cO hx1 0 _ rfl
 have y1:=cO hx1 1 _ rfl
 have y2:=cO hx1 2 _ rfl
 have H1:=a3_ hp1 hq1 hx1
 clear hp1 hr1 hx1 hq1 x0 x1 x2
 go_wp2_with fail
 have ka1:Kp No w1 (w1.alloc (.cells #[.string ⟨#[123]⟩,.string ⟨#[125]⟩] 9 (0,0))):=(Kp.refl No w1).alloc _
 refine (tok2_c _ base pb _ 2 g _ _ _ ⟨#[123]⟩ ⟨#[125]⟩ (H1.out.1.on ka1 (by simp)) (newOf w1 _) rfl (by decide) (by decide) he he2 ha).mono ?_
 rintro e2 w2 ⟨⟨v2,rfl⟩,o,cc,hoq,hc1,hc2,hp2,hr2⟩
 have hz1:((⟨#[123]⟩:ByteArray)).size=1:=rfl
 have hz2:((⟨#[125]⟩:ByteArray)).size=1:=rfl
 rw [hz1] at hc1 hc2
 rw [hz2] at hp2
 have hq2:=(H1.out.2.1.no ka1).trans hr2
 have hp9:PSt w2 base pb g (at_++[o,cc]) (cc+1) (out++⟨⟨#[98,111,100,121]⟩,e+gapOf g at_.length,0⟩::[]):=hp2
 have HOQ:=hd_ hoq
 clear hp2 hr2 ka1 hoq y0 y1 y2
 obtain ⟨gv,av,ov,hp5⟩:=hp9
 have hp5:PStx w2 base pb g (at_++[o,cc]) (cc+1) (out++⟨⟨#[98,111,100,121]⟩,e+gapOf g at_.length,0⟩::[]) gv av ov:=hp5
 obtain ⟨gb,cap,hov,_,_,hlt5,lgb,_,_,xx2⟩:=hp5.2.2.2.1.get (i:=out.length) (p:=⟨⟨#[98,111,100,121]⟩,e+gapOf g at_.length,0⟩) (by simp)
 obtain ⟨N,hN⟩:∃ N,N=(out++(⟨⟨#[98,111,100,121]⟩,e+gapOf g at_.length,0⟩:Pl)::[]).length:=⟨_,rfl⟩
 rw [← hN] at hov hlt5
 subst hov
 obtain ⟨_,cur,hgc⟩:=hp5.2.2.2.1.blk (g:=gb) rfl
 have cc2:w2.cell? ⟨pb,2,none⟩=some (.int .i64 (cc+1)):=cO hp5.1 2 _ rfl
 have cc3:w2.cell? ⟨pb,3,none⟩=some (.slice (some ⟨gb,0,none⟩) N cap):=cO hp5.1 3 _ rfl
 have fx:=fO hgc (out.length*3+2)
 have lpb:=ltb hp5.1
 have ne1:pb≠gb:=ne_blk hp5.1 hgc (by simp)
 have ne2:gb≠pb:=ne1.symm
 have H5:=a2_ hp5 hq2
 clear hp5 hgc hN hq2
 go_wp2_with fail
 go_region_held3 (fun w'=>w'.cell? ⟨pb,2,none⟩=some (.int .i64 (cc+1))∧w'.cell? ⟨pb,3,none⟩=some (.slice (some ⟨gb,0,none⟩) N cap))
  (first | (go_keep;done))
  (fail)
 have hcl:=PStx.close (e2:=cc+1) H5.out.1 ((Kp.refl No w2).drew)
 refine bodyPost_end (v:=.tuple #[]) (by simp [results,Tryz.results13,go_sem]) rfl ⟨⟨_,rfl⟩,o,cc,HOQ.out,hc1,by omega,?_,H5.out.2.trans hcl.2⟩
 have h9:=hcl.1
 rw [← HOQ.out] at h9
 exact h9
end
section
open Go Go.RowKit
theorem it_c (i:It) (h:i.shp) (hn:i.nd.size≤400):ItC i:=by
 cases i with
 | path p s=>exact it_path p s
 | pathn q m p s=>exact it_pathn q m p s
 | value ns t vs =>
  have hl:vs.length≤400:=by
   have h1:=Nd.length_le (vs.map fun v=>v.2.nd)
   simp only [It.nd,Nd.size,Nd.sizeL,ls] at hn
   rw [lm_] at h1
   omega
  simp only [It.shp] at h
  cases t with
  | none=>exact it_valuen ns vs h.1 (fun v hv=>ty_c _ (h.2.2 v hv)) hl
  | some x=>exact it_valuet ns x (ty_c _ (h.2.1 x rfl)) vs h.1 (fun v hv=>ty_c _ (h.2.2 v hv)) hl
 | type p s t=>exact it_type p s t (ty_c _ h)
 | alias p s q t=>exact it_alias p s q t (ty_c _ h)
structure DcG (g at_:List Int) (e:Int) (i i':Dc):Prop where
 nd:i'.nd=i.nd
 ok:i'.ok
 pos:i'.pos=e+gapOf g at_.length
 le:i'.pos≤i'.fin
 nest:Nest i'.pos i'.fin i'.pre
 fin:i'.fin≤e+16777216*i.nd.size
 tk:i'.toks.length≤8*i.nd.size
 pl:i'.pre.length≤4*i.nd.size
def DcC (i:Dc):Prop:=∀ (w:World) (B base pb:Nat) (g at_:List Int) (e:Int) (out:List Pl) (s:Value),PSt w base pb g at_ e out→i.nd.In w B s→B≤base→Bnd at_ e out i.nd.size→i.nd.short →
 Calls Tryz.prog 13 #[.pointer (some ⟨pb,0,none⟩),ndv i.nd s] w fun e' w'=>(∃ v,e'=.returned v)∧∃ i',DcG g at_ e i i'∧PSt w' base pb g (at_++i'.toks) i'.fin (out++i'.pre)∧Kq base w w'
structure RvG (e:Int) (rv rv':Option (Int × Fs × Int)) (f:Int):Prop where
 nd:rvNd rv'=rvNd rv
 ok:∀ o f c,rv'=some (o,f,c)→Pk o∧f.ok false∧Pk c
 le:e≤f
 nest:Nest e f (rvPre rv')
 fin:f≤e+16777216*(rvNd rv).size
 tk:(rvToks rv').length≤8*(rvNd rv).size
 pl:(rvPre rv').length≤4*(rvNd rv).size
theorem RvG.none (e:Int):RvG e .none .none e:=⟨rfl,by simp,Int.le_refl _,Nest.nil _ _,by omega,by simp [rvToks],by simp [rvPre]⟩
theorem RvG.some {g at_:List Int} {e o0 c0 o c:Int} {f f':Fs} (h:FlG g at_ e f true false f' o c) (he:1≤e) (he2:e+16777216*(1+Nd.sizeL f.nds)≤1125899906842624):RvG e (.some (o0,f,c0)) (.some (o,f',c)) (c+1):=by
 have h1:=h.pos;have h2:=h.lt;have h3:=h.fin;have h4:=h.tk;have h5:=h.pl
 have hg:=gapOf_le g at_.length
 refine ⟨by simp only [rvNd,h.nds],?_,by omega,?_,?_,?_,?_⟩
 ·intro o1 f1 c1 he
  simp only [Option.some.injEq,Prod.mk.injEq] at he
  obtain ⟨rfl,rfl,rfl⟩:=he
  exact ⟨⟨by omega,by omega⟩,h.ok,by constructor <;> omega⟩
 ·exact (h.nest.cons (by omega) _).mono (by omega) (Int.le_refl _)
 ·simp only [rvNd,fl,Nd.size];omega
 ·simp only [rvToks,lc_,la_,ln_,rvNd,fl,Nd.size];omega
 ·simp only [rvPre,lc_,rvNd,fl,Nd.size];omega
structure BdG (e:Int) (bd bd':Option (Int × Int)) (f:Int):Prop where
 nd:bdNd bd'=bdNd bd
 ok:1≤e→f≤1125899906842624→∀ o c,bd'=some (o,c)→Pk o∧Pk c
 le:e≤f
 nest:Nest e f (bdPre bd')
 fin:f≤e+2002
 tk:(bdToks bd').length≤2
 pl:(bdPre bd').length≤1
 eq:bdFin e bd'=f
theorem BdG.none (e:Int):BdG e .none .none e:=⟨rfl,by simp,Int.le_refl _,Nest.nil _ _,by omega,by simp [bdToks],by simp [bdPre],rfl⟩
theorem BdG.some {e a b o c:Int} (h1:e≤o∧o≤e+1000) (h2:o+1≤c) (h3:c≤o+1001):BdG e (.some (a,b)) (.some (o,c)) (c+1):=by
 refine ⟨rfl,?_,by omega,?_,by omega,by simp [bdToks],by simp [bdPre],rfl⟩
 ·intro he hf o1 c1 he
  simp only [Option.some.injEq,Prod.mk.injEq] at he
  obtain ⟨rfl,rfl⟩:=he
  constructor <;> constructor <;> omega
 ·exact (Nest.one (by omega) _).mono (by omega) (Int.le_refl _)
theorem func_g {g at_ at3:List Int} {e p pn e2 f e4 o c o' c' p0 np0 o0 c0 o0' c0':Int} {rv rv':Option (Int × Fs × Int)} {bd bd':Option (Int × Int)} {ps rs ps' rs':Fs} {b:Bool} {s:ByteArray}
 (he:1≤e) (hp:p=e+gapOf g at_.length) (hr:RvG (p+4) rv rv' e2) (hn:e2≤pn∧pn≤e2+1000) (hs:s.size≤1048576) (hg:SgG g at3 (pn+s.size) ps rs b ps' o c o' rs' c' f) (hb:BdG f bd bd' e4)
 (hM:e+16777216*(Dc.func p0 rv np0 s o0 ps c0 b o0' rs c0' bd).nd.size≤1125899906842624) :
 DcG g at_ e (.func p0 rv np0 s o0 ps c0 b o0' rs c0' bd) (.func p rv' pn s o ps' c b o' rs' c' bd')∧(Dc.func p rv' pn s o ps' c b o' rs' c' bd').fin=e4 ∧
  (Dc.func p rv' pn s o ps' c b o' rs' c' bd').toks=p::(rvToks rv'++pn::(sgToks ps' o c b o' rs' c'++bdToks bd')) ∧
  (Dc.func p rv' pn s o ps' c b o' rs' c' bd').pre=⟨⟨#[102,117,110,99]⟩,p,e4⟩::(rvPre rv'++⟨⟨#[110,97,109,101]⟩,pn,pn+s.size⟩::((⟨⟨#[115,105,103,110,97,116,117,114,101]⟩,p,f⟩::sgPre ps' o c b o' rs' c')++bdPre bd')):=by
 have hgp:=gapOf_le g at_.length
 have hgp3:=gapOf_le g at3.length
 have r1:=hr.le;have r2:=hr.fin;have r3:=hr.tk;have r4:=hr.pl
 have d1:=hb.le;have d2:=hb.fin;have d3:=hb.tk;have d4:=hb.pl
 have hbs:1≤(bdNd bd).size:=Nd.size_pos _
 have hss:1≤(Ty.sig p0 o0 ps c0 b o0' rs c0').nd.size:=Nd.size_pos _
 simp only [Dc.nd,Nd.size,Nd.sizeL] at hM
 obtain ⟨k1,k2,k3,k4,k5,k6,k7,k8,k9,k10,k11⟩:=hg.ty (p0:=p0) (o0:=o0) (c0:=c0) (o0':=o0') (c0':=c0') (pp:=p) (z:=false) (by omega) (by omega) (by constructor <;> omega)
 have hpos:(Ty.sig p o ps' c b o' rs' c').pos=p:=by simp only [Ty.pos];rw [if_neg (by omega)]
 rw [hpos] at k5
 have h1:(Dc.func p rv' pn s o ps' c b o' rs' c' bd').fin=e4:=by simp only [Dc.fin,k3,hb.eq]
 have h2:(Dc.func p rv' pn s o ps' c b o' rs' c' bd').toks=p::(rvToks rv'++pn::(sgToks ps' o c b o' rs' c'++bdToks bd')):=by simp only [Dc.toks,k4]
 have h3:(Dc.func p rv' pn s o ps' c b o' rs' c' bd').pre=⟨⟨#[102,117,110,99]⟩,p,e4⟩::(rvPre rv'++⟨⟨#[110,97,109,101]⟩,pn,pn+s.size⟩::((⟨⟨#[115,105,103,110,97,116,117,114,101]⟩,p,f⟩::sgPre ps' o c b o' rs' c')++bdPre bd')):=by simp only [Dc.pre,k5,k3,hb.eq]
 refine ⟨⟨?_,?_,?_,?_,?_,?_,?_,?_⟩,h1,h2,h3⟩
 ·simp only [Dc.nd,hr.nd,hb.nd,k1]
 ·refine ⟨by constructor <;> omega,hr.ok,by constructor <;> omega,hs,k2,hb.ok (by omega) (by omega)⟩
 ·exact hp
 ·rw [h1];simp only [Dc.pos];omega
 ·rw [h1,h3]
  simp only [Dc.pos]
  have hA:Nest p (pn+s.size) (rvPre rv'++[⟨⟨#[110,97,109,101]⟩,pn,pn+s.size⟩]):=(hr.nest.append (Nest.one (a:=pn) (b:=pn+s.size) (by omega) ⟨#[110,97,109,101]⟩) (by omega) (by omega) (by omega)).mono (by omega) (Int.le_refl _)
  have hB:Nest p f ((rvPre rv'++[⟨⟨#[110,97,109,101]⟩,pn,pn+s.size⟩])++⟨⟨#[115,105,103,110,97,116,117,114,101]⟩,p,f⟩::sgPre ps' o c b o' rs' c'):=hA.sig (k6.mono (by omega) (Int.le_refl _)) (by omega) (by omega) _
  have hC:=(hB.append hb.nest (by omega) (by omega) (by omega)).cons (by omega) ⟨#[102,117,110,99]⟩
  simpa [aa_] using hC
 ·rw [h1];simp only [Dc.nd,Nd.size,Nd.sizeL];omega
 ·rw [h2];simp only [la_,lc_,Dc.nd,Nd.size,Nd.sizeL];omega
 ·rw [h3];simp only [la_,lc_,Dc.nd,Nd.size,Nd.sizeL];omega
end
section
open Go Go.RowKit
theorem dc_funcnn (tp:Int) (np:Int) (s0:ByteArray) (to:Int) (ps:Fs) (tc:Int) (b:Bool) (to':Int) (rs:Fs) (tc':Int) (hps:FlC ps true false) (hrs:b=true→FlC rs true false):DcC (.func tp (none) np s0 to ps tc b to' rs tc' (none)):=by
 intro w B base pb g at_ e out s hp hin hB hb hs
 have hbs:=hp.size
 have hM:=hd_ hb.2.1
 simp only [Dc.nd,rvNd,bdNd] at hin hb hs ⊢
 obtain ⟨sn,hsn⟩:∃ sn,sn=(Ty.sig tp to ps tc b to' rs tc').nd:=⟨_,rfl⟩
 have hsz1:1≤sn.size:=Nd.size_pos _
 rw [← hsn] at hin hb hs ⊢
 have HSN:=hd_ hsn
 clear hsn
 simp only [Bnd,Nd.size,Nd.sizeL,Nd.miss,fl] at hb
 simp only [Nd.short,Nd.shortL,Nd.miss] at hs
 obtain ⟨b1,b2,b3,b4⟩:=hb
 have hLs:=hd_ (Nd.In_iff.1 hin)
 obtain ⟨q,c,rfl,hc⟩:=hin.form
 obtain ⟨bb0,o0,c0,q0,d0,he,_,hb0,hi,k01,k02,k03,k04,k05⟩:=hLs.out.get (i:=0) rfl
 cases he
 have HK0:=hd_ k04
 clear k04 hi
 simp only [Nat.zero_mul,Nat.one_mul,Nat.add_zero,Nat.reduceMul] at k01 k02 k03
 obtain ⟨bb1,o1,c1,q1,d1,he,_,hb1,hi,k11,k12,k13,k14,k15⟩:=hLs.out.get (i:=1) rfl
 cases he
 have HK1:=hd_ k14
 clear k14 hi
 simp only [Nat.zero_mul,Nat.one_mul,Nat.add_zero,Nat.reduceMul] at k11 k12 k13
 obtain ⟨bb2,o2,c2,q2,d2,he,_,hb2,hi,k21,k22,k23,k24,k25⟩:=hLs.out.get (i:=2) rfl
 cases he
 have HK2:=hd_ k24
 clear k24 hi
 simp only [Nat.zero_mul,Nat.one_mul,Nat.add_zero,Nat.reduceMul] at k21 k22 k23
 have HP:=hd_ hp
 clear hp hin hLs
 simp only [Nd.l,la_,lc_,ln_,lm_,Nat.zero_add,Nat.reduceAdd] at hc
 show Calls _ _ #[_,.agg #[.string ⟨#[102,117,110,99]⟩,.string s0,.slice (some ⟨bb0,o0,none⟩) 3 c]] _ _
 have HPS:=hd_ hps;have HRS:=hd_ hrs;have HST:=hd_ hs.2.2.1
 have hs0:=hs.1
 clear hps hrs hs
 have hgap:=gapOf_le g at_.length
 go_enter Tryz.func13,Tryz.ntmps13
 have hk0:Kp No w (w.alloc (.cells #[.string ⟨#[102,117,110,99]⟩,.string s0,.slice (some ⟨bb0,o0,none⟩) 3 c] 24 (0,0))):=(Kp.refl No w).alloc _
 have hq0:Kq base w _:=Kq.of_no hk0
 have hp0:=HP.out.on hk0 (by simp)
 have hx0:=newOf w (.cells #[.string ⟨#[102,117,110,99]⟩,.string s0,.slice (some ⟨bb0,o0,none⟩) 3 c] 24 (0,0))
 generalize hw0:w.alloc (.cells #[.string ⟨#[102,117,110,99]⟩,.string s0,.slice (some ⟨bb0,o0,none⟩) 3 c] 24 (0,0))=w0 at hk0 hq0 hp0 hx0
 obtain ⟨k01_0,k02_0,k03_0⟩:=cellq hq0 (by omega) hbs k01 k02 k03
 obtain ⟨k11_0,k12_0,k13_0⟩:=cellq hq0 (by omega) hbs k11 k12 k13
 obtain ⟨k21_0,k22_0,k23_0⟩:=cellq hq0 (by omega) hbs k21 k22 k23
 have xs0:=ltb hx0
 have x0_0:=cO hx0 0 _ rfl
 have x1_0:=cO hx0 1 _ rfl
 have x2_0:=cO hx0 2 _ rfl
 have HS0:=a3_ hp0 hq0 hx0
 clear hp0 hq0 hx0 hk0
 go_wp2_with fail
 try rw [hw0]
 clear hw0
 refine (open_c _ base pb g at_ e out ⟨#[102,117,110,99]⟩ s0 _ HS0.out.1 (by omega) (by omega) (by omega) ⟨_,_,_,rfl⟩).mono ?_
 rintro eo wo ⟨rfl,hpo,hro⟩
 have hqo:=HS0.out.2.1.trans hro
 have hxo:=hro.kn w.heap.size _ _ _ HS0.out.2.2 (by decide) (by decide) (by decide)
 clear hro HS0
 clear k01_0 k02_0 k03_0 k11_0 k12_0 k13_0 k21_0 k22_0 k23_0 x0_0 x1_0 x2_0
 obtain ⟨k01_o,k02_o,k03_o⟩:=cellq hqo (by omega) hbs k01 k02 k03
 obtain ⟨k11_o,k12_o,k13_o⟩:=cellq hqo (by omega) hbs k11 k12 k13
 obtain ⟨k21_o,k22_o,k23_o⟩:=cellq hqo (by omega) hbs k21 k22 k23
 have xso:=ltb hxo
 have x0_o:=cO hxo 0 _ rfl
 have x1_o:=cO hxo 1 _ rfl
 have x2_o:=cO hxo 2 _ rfl
 have zso:=hqo.kp.size
 obtain ⟨p,hpq⟩:∃ p,p=e+gapOf g at_.length:=⟨_,rfl⟩
 rw [← hpq] at hpo
 have hpb:e≤p∧p≤e+1000:=by omega
 obtain ⟨gv,av,ov,hpx⟩:=hpo
 have hpx:PStx wo base pb g at_ e (out++[⟨⟨#[102,117,110,99]⟩,p,0⟩]) gv av ov:=hpx
 obtain ⟨gb,cap,hov,_,_,hlt5,lgb,_,xx1,_⟩:=hpx.2.2.2.1.get (i:=out.length) (p:=⟨⟨#[102,117,110,99]⟩,p,0⟩) (by simp)
 obtain ⟨N,hN⟩:∃ N,N=(out++[(⟨⟨#[102,117,110,99]⟩,p,0⟩:Pl)]).length:=⟨_,rfl⟩
 rw [← hN] at hov hlt5
 subst hov
 obtain ⟨_,cur,hgc⟩:=hpx.2.2.2.1.blk (g:=gb) rfl
 have cc3:wo.cell? ⟨pb,3,none⟩=some (.slice (some ⟨gb,0,none⟩) N cap):=cO hpx.1 3 _ rfl
 have lpb:=ltb hpx.1
 have HO:=a3_ hpx hqo hxo
 have HPQ:=hd_ hpq
 clear hpx hqo hxo hgc hN hpq
 go_wp2_with fail
 have ka1:Kp No wo (wo.alloc (.cells #[.string ⟨#[102,117,110,99]⟩] 9 (0,0))):=(Kp.refl No wo).alloc _
 refine (tok1_c _ base pb _ 1 g _ _ _ ⟨#[102,117,110,99]⟩ (PSt.on ⟨gv,av,_,HO.out.1⟩ ka1 (by simp)) (newOf wo _) rfl (by decide) (by omega) (by omega) (by omega)).mono ?_
 rintro e1 w1 ⟨⟨v1,rfl⟩,p1,hp1q,hp1,hr1⟩
 have hz1:((⟨#[102,117,110,99]⟩:ByteArray)).size=4:=rfl
 have hpe:p1=p:=hp1q.trans HPQ.out.symm
 rw [hpe] at hp1
 clear hpe
 rw [hz1] at hp1
 have hq1:=(HO.out.2.1.no ka1).trans hr1
 have hx1:=hr1.kn w.heap.size _ _ _ (ka1.at HO.out.2.2 (by simp)) (by decide) (by decide) (by decide)
 clear hr1 ka1 cc3 xx1 hp1q
 clear k01_o k02_o k03_o k11_o k12_o k13_o k21_o k22_o k23_o x0_o x1_o x2_o
 obtain ⟨k01_1,k02_1,k03_1⟩:=cellq hq1 (by omega) hbs k01 k02 k03
 obtain ⟨k11_1,k12_1,k13_1⟩:=cellq hq1 (by omega) hbs k11 k12 k13
 obtain ⟨k21_1,k22_1,k23_1⟩:=cellq hq1 (by omega) hbs k21 k22 k23
 have xs1:=ltb hx1
 have x0_1:=cO hx1 0 _ rfl
 have x1_1:=cO hx1 1 _ rfl
 have x2_1:=cO hx1 2 _ rfl
 have zs1:=hq1.kp.size
 have HI1:=hd_ (HK0.out.stay (w':=w1) fun b hb=>hq1.kp.block b (by omega) (by simp only [Fr];omega))
 have HS1:=a3_ hp1 hq1 hx1
 clear hp1 hq1 hx1 HO
 go_wp2_with fail
 refine (miss_c .miss w1 B _ HI1.out).mono ?_
 rintro em wm ⟨bm,rfl,hkm,hpm⟩
 obtain rfl:bm=true:=hpm.2 rfl
 have hpm2:=HS1.out.1.on hkm (by simp)
 have hqm:=HS1.out.2.1.no hkm
 have hxm:=hkm.at HS1.out.2.2 (by simp)
 clear hkm hpm HS1 HI1
 clear k01_1 k02_1 k03_1 k11_1 k12_1 k13_1 k21_1 k22_1 k23_1 x0_1 x1_1 x2_1
 obtain ⟨k01_m,k02_m,k03_m⟩:=cellq hqm (by omega) hbs k01 k02 k03
 obtain ⟨k11_m,k12_m,k13_m⟩:=cellq hqm (by omega) hbs k11 k12 k13
 obtain ⟨k21_m,k22_m,k23_m⟩:=cellq hqm (by omega) hbs k21 k22 k23
 have xsm:=ltb hxm
 have x0_m:=cO hxm 0 _ rfl
 have x1_m:=cO hxm 1 _ rfl
 have x2_m:=cO hxm 2 _ rfl
 have zsm:=hqm.kp.size
 obtain ⟨w2,hw2⟩:∃ w2,w2=wm:=⟨_,rfl⟩
 rw [← hw2]
 have hp2:PSt w2 base pb g (at_++p::rvToks none) (p+4) (out++⟨⟨#[102,117,110,99]⟩,p,0⟩::rvPre none):=by rw [hw2];exact hpm2
 have hq2:Kq base w w2:=by rw [hw2];exact hqm
 have hx2:w2.heap[w.heap.size]?=some (.cells #[.string ⟨#[102,117,110,99]⟩,.string s0,.slice (some ⟨bb0,o0,none⟩) 3 c] 24 (0,0)):=by rw [hw2];exact hxm
 obtain ⟨rv',e2,hrv,hp2⟩:∃ rv' e2,RvG (p+4) none rv' e2∧PSt w2 base pb g (at_++p::rvToks rv') e2 (out++⟨⟨#[102,117,110,99]⟩,p,0⟩::rvPre rv'):=⟨_,_,RvG.none _,hp2⟩
 clear hpm2 hqm hxm
 clear k01_m k02_m k03_m k11_m k12_m k13_m k21_m k22_m k23_m x0_m x1_m x2_m
 clear hw2 xsm zsm
 obtain ⟨k01_2,k02_2,k03_2⟩:=cellq hq2 (by omega) hbs k01 k02 k03
 obtain ⟨k11_2,k12_2,k13_2⟩:=cellq hq2 (by omega) hbs k11 k12 k13
 obtain ⟨k21_2,k22_2,k23_2⟩:=cellq hq2 (by omega) hbs k21 k22 k23
 have xs2:=ltb hx2
 have x0_2:=cO hx2 0 _ rfl
 have x1_2:=cO hx2 1 _ rfl
 have x2_2:=cO hx2 2 _ rfl
 have zs2:=hq2.kp.size
 have r1:=hrv.le;have r2:=hrv.fin;have r3:=hrv.tk;have r4:=hrv.pl
 have hrz:(rvNd (none)).size≤1:=Nat.le_refl _
 have HRV:=hd_ hrv
 have HS2:=a3_ hp2 hq2 hx2
 clear hp2 hq2 hx2 hrv
 go_wp2_with fail
 refine (pident_c w2 s0).mono ?_
 rintro ei wi ⟨rfl,hri⟩
 have hpi:=HS2.out.1.on hri (by simp)
 have hqi:=HS2.out.2.1.no hri
 have hxi:=hri.at HS2.out.2.2 (by simp)
 have HI:=a3_ hpi hqi hxi
 clear hpi hqi hxi hri HS2
 clear k01_2 k02_2 k03_2 k11_2 k12_2 k13_2 k21_2 k22_2 k23_2 x0_2 x1_2 x2_2
 go_wp2_with fail
 refine (node_name wi base pb g _ _ _ s0 none 0 HI.out.1 (by omega) (by omega) (by simp only [la_,lc_,ln_,lm_];omega) (by simp only [la_,lc_,ln_,lm_];omega) hs0).mono ?_
 rintro e3 w3 ⟨⟨v3,rfl⟩,pn,gpn,hp3,hr3⟩
 have hgpn:=gapOf_le g (at_++p::rvToks rv').length
 have gpb:e2≤pn∧pn≤e2+1000:=by rw [gpn];constructor <;> omega
 have hq3:=HI.out.2.1.trans hr3
 have hx3:=hr3.kn w.heap.size _ _ _ HI.out.2.2 (by decide) (by decide) (by decide)
 clear hr3 gpn hgpn HI
 obtain ⟨k01_3,k02_3,k03_3⟩:=cellq hq3 (by omega) hbs k01 k02 k03
 obtain ⟨k11_3,k12_3,k13_3⟩:=cellq hq3 (by omega) hbs k11 k12 k13
 obtain ⟨k21_3,k22_3,k23_3⟩:=cellq hq3 (by omega) hbs k21 k22 k23
 have xs3:=ltb hx3
 have x0_3:=cO hx3 0 _ rfl
 have x1_3:=cO hx3 1 _ rfl
 have x2_3:=cO hx3 2 _ rfl
 have zs3:=hq3.kp.size
 have HI3:=hd_ (HK1.out.stay (w':=w3) fun b hb=>hq3.kp.block b (by omega) (by simp only [Fr];omega))
 have HS3:=a3_ hp3 hq3 hx3
 clear hp3 hq3 hx3
 have hsg:=@sig_any tp to ps tc b to' rs tc' HPS.out HRS.out
 rw [← HSN.out] at hsg
 have HSG:=hd_ hsg
 clear hsg
 go_wp2_with fail
 refine (HSG.out w3 B base pb g _ _ p _ _ HS3.out.1 HI3.out hB (by omega) (by omega) (by simp only [la_,lc_,ln_,lm_];omega) (by simp only [la_,lc_,ln_,lm_];omega) HST.out).mono ?_
 rintro e4 w4 ⟨⟨v4,rfl⟩,ps',so,sc,so',rs',sc',f,gs,hp4,hr4⟩
 have hk:=gs.ty (p0:=tp) (o0:=to) (c0:=tc) (o0':=to') (c0':=tc') (pp:=p) (z:=false) (by omega) (by rw [← HSN.out];omega) (by constructor <;> omega)
 rw [← HSN.out] at hk
 obtain ⟨_,_,_,_,_,_,j7,j8,j9,j10,j11⟩:=hk
 have hgps:=gapOf_le g (at_++p::rvToks rv'++[pn]).length
 have sgb:pn+s0.size≤f:=by omega
 clear j7 hgps
 have hq4:=HS3.out.2.1.trans hr4
 have hx4:=hr4.kn w.heap.size _ _ _ HS3.out.2.2 (by decide) (by decide) (by decide)
 have HGS:=hd_ gs
 clear hr4 gs HS3 HI3 HSG
 clear k01_3 k02_3 k03_3 k11_3 k12_3 k13_3 k21_3 k22_3 k23_3 x0_3 x1_3 x2_3
 obtain ⟨k01_4,k02_4,k03_4⟩:=cellq hq4 (by omega) hbs k01 k02 k03
 obtain ⟨k11_4,k12_4,k13_4⟩:=cellq hq4 (by omega) hbs k11 k12 k13
 obtain ⟨k21_4,k22_4,k23_4⟩:=cellq hq4 (by omega) hbs k21 k22 k23
 have xs4:=ltb hx4
 have x0_4:=cO hx4 0 _ rfl
 have x1_4:=cO hx4 1 _ rfl
 have x2_4:=cO hx4 2 _ rfl
 have zs4:=hq4.kp.size
 have HI4:=hd_ (HK2.out.stay (w':=w4) fun b hb=>hq4.kp.block b (by omega) (by simp only [Fr];omega))
 obtain ⟨sgT,hsgT⟩:∃ x,x=sgToks ps' so sc b so' rs' sc':=⟨_,rfl⟩
 obtain ⟨sgP,hsgP⟩:∃ x,x=sgPre ps' so sc b so' rs' sc':=⟨_,rfl⟩
 rw [← hsgT] at hp4 j10
 rw [← hsgP] at hp4 j11
 have HTP:=a2_ hsgT hsgP
 have HS4:=a3_ hp4 hq4 hx4
 clear hp4 hq4 hx4 hsgT hsgP
 go_wp2_with fail
 refine (miss_c .miss w4 B _ HI4.out).mono ?_
 rintro en wn ⟨bn,rfl,hkn,hpn⟩
 obtain rfl:bn=true:=hpn.2 rfl
 have hpn2:=HS4.out.1.on hkn (by simp)
 have hqn:=HS4.out.2.1.no hkn
 have hxn:=hkn.at HS4.out.2.2 (by simp)
 clear hkn hpn HS4 HI4
 clear k01_4 k02_4 k03_4 k11_4 k12_4 k13_4 k21_4 k22_4 k23_4 x0_4 x1_4 x2_4
 obtain ⟨k01_n,k02_n,k03_n⟩:=cellq hqn (by omega) hbs k01 k02 k03
 obtain ⟨k11_n,k12_n,k13_n⟩:=cellq hqn (by omega) hbs k11 k12 k13
 obtain ⟨k21_n,k22_n,k23_n⟩:=cellq hqn (by omega) hbs k21 k22 k23
 have xsn:=ltb hxn
 have x0_n:=cO hxn 0 _ rfl
 have x1_n:=cO hxn 1 _ rfl
 have x2_n:=cO hxn 2 _ rfl
 have zsn:=hqn.kp.size
 obtain ⟨w5,hw5⟩:∃ w5,w5=wn:=⟨_,rfl⟩
 rw [← hw5]
 have hp5:PSt w5 base pb g (at_++(p::(rvToks rv'++pn::(sgT++bdToks none)))) f (out++⟨⟨#[102,117,110,99]⟩,p,0⟩::(rvPre rv'++⟨⟨#[110,97,109,101]⟩,pn,pn+s0.size⟩::((⟨⟨#[115,105,103,110,97,116,117,114,101]⟩,p,f⟩::sgP)++bdPre none))):=by rw [hw5];simpa [bdToks,bdPre,aa_] using hpn2
 have hq5:Kq base w w5:=by rw [hw5];exact hqn
 have hx5:w5.heap[w.heap.size]?=some (.cells #[.string ⟨#[102,117,110,99]⟩,.string s0,.slice (some ⟨bb0,o0,none⟩) 3 c] 24 (0,0)):=by rw [hw5];exact hxn
 obtain ⟨bd',e4,hbd,hp5⟩:∃ bd' e4,BdG f none bd' e4∧PSt w5 base pb g (at_++(p::(rvToks rv'++pn::(sgT++bdToks bd')))) e4 (out++⟨⟨#[102,117,110,99]⟩,p,0⟩::(rvPre rv'++⟨⟨#[110,97,109,101]⟩,pn,pn+s0.size⟩::((⟨⟨#[115,105,103,110,97,116,117,114,101]⟩,p,f⟩::sgP)++bdPre bd'))):=⟨_,_,BdG.none _,hp5⟩
 clear hpn2 hqn hxn hw5 xsn zsn
 clear k01_n k02_n k03_n k11_n k12_n k13_n k21_n k22_n k23_n x0_n x1_n x2_n
 have xs5:=ltb hx5
 have x0_5:=cO hx5 0 _ rfl
 have x1_5:=cO hx5 1 _ rfl
 have x2_5:=cO hx5 2 _ rfl
 have zs5:=hq5.kp.size
 have d1:=hbd.le;have d2:=hbd.fin;have d3:=hbd.tk;have d4:=hbd.pl
 have HBD:=hd_ hbd
 clear hbd hx5
 obtain ⟨gv5,av5,ov5,hp9⟩:=hp5
 have hp9:PStx w5 base pb g (at_++(p::(rvToks rv'++pn::(sgT++bdToks bd')))) e4 (out++⟨⟨#[102,117,110,99]⟩,p,0⟩::(rvPre rv'++⟨⟨#[110,97,109,101]⟩,pn,pn+s0.size⟩::((⟨⟨#[115,105,103,110,97,116,117,114,101]⟩,p,f⟩::sgP)++bdPre bd'))) gv5 av5 ov5:=hp9
 obtain ⟨gb5,cap5,hov5,_,_,hlt9,lgb9,_,_,xx9⟩:=hp9.2.2.2.1.get (i:=out.length) (p:=⟨⟨#[102,117,110,99]⟩,p,0⟩) (by simp)
 obtain ⟨N5,hN5⟩:∃ N,N=(out++(⟨⟨#[102,117,110,99]⟩,p,0⟩:Pl)::(rvPre rv'++⟨⟨#[110,97,109,101]⟩,pn,pn+s0.size⟩::((⟨⟨#[115,105,103,110,97,116,117,114,101]⟩,p,f⟩::sgP)++bdPre bd'))).length:=⟨_,rfl⟩
 rw [← hN5] at hov5 hlt9
 subst hov5
 obtain ⟨_,cur5,hgc5⟩:=hp9.2.2.2.1.blk (g:=gb5) rfl
 have cc2:w5.cell? ⟨pb,2,none⟩=some (.int .i64 e4):=cO hp9.1 2 _ rfl
 have cc3:w5.cell? ⟨pb,3,none⟩=some (.slice (some ⟨gb5,0,none⟩) N5 cap5):=cO hp9.1 3 _ rfl
 have fx:=fO hgc5 (out.length*3+2)
 have lpb5:=ltb hp9.1
 have ne1:pb≠gb5:=ne_blk hp9.1 hgc5 (by simp)
 have ne2:gb5≠pb:=ne1.symm
 have H5:=a2_ hp9 hq5
 clear hp9 hgc5 hN5 hq5
 go_wp2_with fail
 go_region_held3 (fun w'=>w'.cell? ⟨pb,2,none⟩=some (.int .i64 e4)∧w'.cell? ⟨pb,3,none⟩=some (.slice (some ⟨gb5,0,none⟩) N5 cap5))
  (first | (go_keep;done))
  (fail)
 have hcl:=PStx.close (e2:=e4) H5.out.1 ((Kp.refl No w5).drew)
 obtain ⟨g1,g2,g3,g4⟩:=func_g (p0:=tp) (np0:=np) (o0:=to) (c0:=tc) (o0':=to') (c0':=tc') b1 HPQ.out HRV.out gpb hs0 HGS.out HBD.out hM.out
 refine bodyPost_end (v:=.tuple #[]) (by simp [results,Tryz.results13,go_sem]) rfl ⟨⟨_,rfl⟩,_,g1,?_,H5.out.2.trans hcl.2⟩
 rw [g2,g3,g4,← HTP.out.1,← HTP.out.2]
 exact hcl.1
end
end Go.Proofs.YtnkbglhdpmbgfaaGreatFmt
