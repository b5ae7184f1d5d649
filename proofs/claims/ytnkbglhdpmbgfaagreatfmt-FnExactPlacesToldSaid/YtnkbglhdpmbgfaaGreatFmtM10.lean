/- A part of the proof; no condition: PlQ. -/
import Derived.Test.YtnkbglhdpmbgfaaGreatFmtM
import Derived.Test.YtnkbglhdpmbgfaaGreatFmtM09
import Derived.Test.YtnkbglhdpmbgfaaGreatFmtM08
set_option linter.all false
set_option maxHeartbeats 16000000
set_option maxRecDepth 100000
namespace Go.Proofs.YtnkbglhdpmbgfaaGreatFmt
section
open Go Go.RowKit
theorem itsPre_snoc (d:It):∀ l:List It,itsPre (l++[d])=itsPre l++d.pre
 | []=>by simp [itsPre]
 | x::l=>by simp [itsPre,itsPre_snoc d l]
theorem itsToks_snoc (d:It):∀ l:List It,itsToks (l++[d])=itsToks l++d.toks
 | []=>by simp [itsToks]
 | x::l=>by simp [itsToks,itsToks_snoc d l]
structure ItsG (e:Int) (ds l:List It) (f:Int):Prop where
 nd:l.map It.nd=ds.map It.nd
 ok:∀ d∈l,d.ok
 le:e≤f
 nest:Nest e f (itsPre l)
 fin:f≤e+16777216*Nd.sizeL (ds.map It.nd)
 tk:(itsToks l).length≤8*Nd.sizeL (ds.map It.nd)
 pl:(itsPre l).length≤4*Nd.sizeL (ds.map It.nd)
 last:∀ d,l=[d]→d.fin=f
theorem ItsG.zero (e:Int):ItsG e [] [] e:=⟨rfl,by simp,Int.le_refl _,Nest.nil _ _,by simp [Nd.sizeL],by simp [itsToks],by simp [itsPre],by simp⟩
theorem ItsG.len {e f:Int} {ds l:List It} (h:ItsG e ds l f):l.length=ds.length:=by
 have:=congrArg List.length h.nd
 simpa using this
theorem ItsG.snoc {g at2:List Int} {e f:Int} {ds l:List It} {d d':It} (h:ItsG e ds l f) (hd:ItG g at2 f d d'):ItsG e (ds++[d]) (l++[d']) d'.fin:=by
 have hf:=h.fin;have hle:=h.le;have hp:=hd.pos;have hl:=hd.le;have hfn:=hd.fin;have ht:=hd.tk;have hq:=hd.pl
 have hg:=gapOf_le g at2.length
 have hsz:Nd.sizeL ((ds++[d]).map It.nd)=Nd.sizeL (ds.map It.nd)+d.nd.size:=by rw [List.map_append,List.map_cons,List.map_nil,sizeL_snoc]
 refine ⟨by simp only [List.map_append,h.nd,List.map_cons,List.map_nil,hd.nd],?_,by omega,?_,by rw [hsz];omega,?_,?_,?_⟩
 ·intro x hx
  rcases List.mem_append.1 hx with hx | hx
  ·exact h.ok x hx
  ·simp only [List.mem_singleton] at hx
   subst hx
   exact hd.ok
 ·rw [itsPre_snoc]
  exact h.nest.append hd.nest hle (by omega) hl
 ·rw [itsToks_snoc,hsz]
  have h1:=h.tk
  simp only [la_]
  omega
 ·rw [itsPre_snoc,hsz]
  have h1:=h.pl
  simp only [la_]
  omega
 ·intro x hx
  cases l with
  | nil=>simp only [List.nil_append,List.cons.injEq,and_true] at hx;rw [← hx]
  | cons y l=>simp at hx
theorem its_short:∀ (ds:List It),Nd.shortL (ds.map It.nd)→∀ d∈ds,d.nd.short
 | [],_=>by simp
 | x::ds,h=>by
  simp only [List.map_cons,Nd.shortL] at h
  intro d hd
  rcases List.mem_cons.1 hd with rfl | hd
  ·exact h.1
  ·exact its_short ds h.2 d hd
theorem node_impo (its:List It) (hF:∀ d∈its,ItC d) (w:World) (B base pb:Nat) (g at_:List Int) (e:Int) (out:List Pl) (q:Option Addr) (c:Nat) (hp:PSt w base pb g at_ e out) (hL:Ls w B (.slice q its.length c) (its.map It.nd)) (hB:B≤base)
 (b1:1≤e) (b2:e+16777216*(1+Nd.sizeL (its.map It.nd))≤1125899906842624) (b3:at_.length+8*(1+Nd.sizeL (its.map It.nd))≤1048576) (b4:out.length+4*(1+Nd.sizeL (its.map It.nd))≤1048575) (hs:Nd.shortL (its.map It.nd)) :
 Calls Tryz.prog 13 #[.pointer (some ⟨pb,0,none⟩),.agg #[.string ⟨#[100,101,99,108,97,114,101,32,105,109,112,111,114,116]⟩,.string ⟨#[]⟩,.slice q its.length c]] w fun e' w'=>(∃ v,e'=.returned v)∧∃ p l f1 ,p=e+gapOf g at_.length∧ItsG (p+6) its l f1∧PSt w' base pb g (at_++(p::itsToks l)) f1 (out++⟨⟨#[100,101,99,108,97,114,101,32,105,109,112,111,114,116]⟩,p,f1⟩::itsPre l)∧Kq base w w':=by
 have hbs:=hp.size
 have hsh:=its_short _ hs
 obtain ⟨_,_,he,hc,_⟩:=id hL
 have hlen4:its.length≤Nd.sizeL (its.map It.nd):=by have:=Nd.length_le (its.map It.nd);simpa using this
 have HL:=hd_ hL;have HP:=hd_ hp;have HF:=hd_ hF;have HSH:=hd_ hsh
 have hgap:=gapOf_le g at_.length
 clear hp hL hF hsh hs he hc
 go_enter Tryz.func13,Tryz.ntmps13
 have hk0:Kp No w (w.alloc (.cells #[.string ⟨#[100,101,99,108,97,114,101,32,105,109,112,111,114,116]⟩,.string ⟨#[]⟩,.slice q its.length c] 24 (0,0))):=(Kp.refl No w).alloc _
 have hp0:=HP.out.on hk0 (by simp)
 have hx0:=newOf w (.cells #[.string ⟨#[100,101,99,108,97,114,101,32,105,109,112,111,114,116]⟩,.string ⟨#[]⟩,.slice q its.length c] 24 (0,0))
 generalize hw0:w.alloc (.cells #[.string ⟨#[100,101,99,108,97,114,101,32,105,109,112,111,114,116]⟩,.string ⟨#[]⟩,.slice q its.length c] 24 (0,0))=w0 at hk0 hp0 hx0
 have xs0:w0.heap.size > w.heap.size:=ltb hx0
 have x0:=cO hx0 0 _ rfl
 have x1:=cO hx0 1 _ rfl
 have x2:=cO hx0 2 _ rfl
 have HS0:=a3_ hp0 hk0 hx0
 clear hp0 hk0 hx0
 go_wp2_with fail
 try rw [hw0]
 clear hw0
 refine (open_c w0 base pb g at_ e out ⟨#[100,101,99,108,97,114,101,32,105,109,112,111,114,116]⟩ ⟨#[]⟩ _ HS0.out.1 (by omega) (by omega) (by omega) ⟨_,_,_,rfl⟩).mono ?_
 rintro e1 w1 ⟨rfl,hp1,hr1⟩
 have hx1:=hr1.kn w.heap.size _ _ _ HS0.out.2.2 (by decide) (by decide) (by decide)
 have hq1:=(Kq.of_no HS0.out.2.1).trans hr1
 have xs1:=ltb hx1
 have y0:=cO hx1 0 _ rfl
 have y1:=cO hx1 1 _ rfl
 have y2:=cO hx1 2 _ rfl
 have H1:=a3_ hp1 hq1 hx1
 clear hp1 hr1 hx1 hq1 x0 x1 x2
 go_wp2_with fail
 have ka1:Kp No w1 (w1.alloc (.cells #[.string ⟨#[105,109,112,111,114,116]⟩] 9 (0,0))):=(Kp.refl No w1).alloc _
 refine (tok1_c _ base pb _ 1 g _ _ _ ⟨#[105,109,112,111,114,116]⟩ (H1.out.1.on ka1 (by simp)) (newOf w1 _) rfl (by decide) (by omega) (by omega) (by omega)).mono ?_
 rintro e2 w2 ⟨⟨v2,rfl⟩,p,hpq,hp2,hr2⟩
 have hzw:((⟨#[105,109,112,111,114,116]⟩:ByteArray)).size=6:=rfl
 rw [hzw] at hp2
 have hx2:=hr2.kn w.heap.size _ _ _ (ka1.at H1.out.2.2 (by simp)) (by decide) (by decide) (by decide)
 have hq2:=(H1.out.2.1.no ka1).trans hr2
 have xs2:=ltb hx2
 have z0:=cO hx2 0 _ rfl
 have z1:=cO hx2 1 _ rfl
 have z2:=cO hx2 2 _ rfl
 have hpb:e≤p∧p≤e+1000:=by rw [hpq];omega
 have H2:=a3_ hp2 hq2 hx2
 have HPQ:=hd_ hpq
 clear hp2 hr2 hx2 hq2 ka1 hpq y0 y1 y2
 have HL0:Hid (PSt w2 base pb g (at_++(p::itsToks [])) (p+6) (out++⟨⟨#[100,101,99,108,97,114,101,32,105,109,112,111,114,116]⟩,e+gapOf g at_.length,0⟩::itsPre [])∧Kq base w w2∧w2.heap[w.heap.size]?=some (.cells #[.string ⟨#[100,101,99,108,97,114,101,32,105,109,112,111,114,116]⟩,.string ⟨#[]⟩,.slice q its.length c] 24 (0,0))):=⟨by simpa [itsToks,itsPre,aa_] using H2.out.1,H2.out.2.1,H2.out.2.2⟩
 go_wp2_with fail
 go_loopw [10,181] (fun _ i wr=>∃ k:Nat,k≤its.length∧i=.int .i64 k∧Kq base w wr∧wr.heap[w.heap.size]?=some (.cells #[.string ⟨#[100,101,99,108,97,114,101,32,105,109,112,111,114,116]⟩,.string ⟨#[]⟩,.slice q its.length c] 24 (0,0))∧∃ l f1,ItsG (p+6) (its.take k) l f1∧PSt wr base pb g (at_++(p::itsToks l)) f1 (out++⟨⟨#[100,101,99,108,97,114,101,32,105,109,112,111,114,116]⟩,e+gapOf g at_.length,0⟩::itsPre l)) (fun _ i _=>its.length - (intOf i).toNat)
 case atStart=>exact ⟨0,Nat.zero_le _,rfl,HL0.out.2.1,HL0.out.2.2,[],p+6,ItsG.zero _,HL0.out.1⟩
 case round =>
  obtain ⟨k,hk,rfl,hq,hbx,l,f1,hg,hp⟩:=hrel
  by_cases hlt:k < its.length
  ·obtain ⟨d,hd⟩:∃ d,its[k]?=some d:=⟨_,List.getElem?_eq_getElem hlt⟩
   have hdn:(its.map It.nd)[k]?=some d.nd:=by rw [List.getElem?_map,hd];rfl
   have htk:its.take (k+1)=its.take k++[d]:=by rw [List.take_add_one,hd];rfl
   have hdm:=List.mem_of_getElem? hd
   have hsz:=sizeL_take_le hdn
   rw [← List.map_take] at hsz
   have hf:=hg.fin;have hle:=hg.le;have htl:=hg.tk;have hpl:=hg.pl
   have hzs:=hq.kp.size
   have hds:=Nd.size_pos d.nd
   obtain ⟨b,oo,c',q',dd,he',_,hb,hi,h1,h2,h3,h4,h5⟩:=(HL.out.stay (w':=wr) (fun i hi=>hq.kp.block i (by omega) (by simp only [Fr];omega))).get (i:=k) hdn
   rw [lm_] at he'
   cases he'
   have HG:=a4_ hg hp hq hbx;have HTK:=hd_ htk;have HIN:=hd_ h4;have HDM:=hd_ hdm
   have HK0:Hid (Kp No wr (wr.alloc (.cells #[.string d.nd.k,.string d.nd.t,.slice q' d.nd.l.length dd] 24 (0,0)))):=(Kp.refl No wr).alloc _
   clear hg hp hq hbx htk h4 hi hd hdn hdm
   go_wp2_with fail
   refine (HF.out d HDM.out _ B base pb g _ f1 _ _ (HG.out.2.1.on HK0.out (by simp)) (HIN.out.stay fun b hb=>Below.heap_alloc _ _ _ (by omega)) hB (by unfold Bnd;simp only [la_,lc_,ln_,lm_];refine ⟨by omega,by omega,by omega,by omega⟩) (HSH.out d HDM.out)).mono ?_
   rintro e3 w4 ⟨⟨v4,rfl⟩,d',hdg,hp4,hq4⟩
   have H3:=a4_ hdg hp4 ((HG.out.2.2.1.no HK0.out).trans hq4) (hq4.kn w.heap.size _ _ _ (HK0.out.at HG.out.2.2.2 (by simp)) (by decide) (by decide) (by decide))
   clear hdg hp4 hq4
   go_wp2_with fail
   go_roundw
   case rel =>
    refine ⟨k+1,by omega,by go_num,H3.out.2.2.1,H3.out.2.2.2,l++[d'],d'.fin,?_,?_⟩
    ·rw [HTK.out];exact HG.out.1.snoc H3.out.1
    ·rw [itsToks_snoc,itsPre_snoc]
     simpa [aa_] using H3.out.2.1
   case measure=>simp [intOf];omega
  ·have hkn:k=its.length:=by omega
   have htake:its.take k=its:=List.take_of_length_le (by omega)
   rw [htake] at hg
   have hf:=hg.fin;have hle:=hg.le;have htl:=hg.tk;have hpl:=hg.pl
   have t0:=cO hbx 0 _ rfl
   have t1:=cO hbx 1 _ rfl
   have t2:=cO hbx 2 _ rfl
   have xbx:=ltb hbx
   have HG:=a3_ hg hp hq
   clear hg hp hq htake hbx
   have hp9:=HG.out.2.1
   have hq9:=HG.out.2.2
   obtain ⟨gv,av,ov,hp5⟩:=hp9
   have hp5:PStx wr base pb g (at_++(p::itsToks l)) (f1) (out++⟨⟨#[100,101,99,108,97,114,101,32,105,109,112,111,114,116]⟩,e+gapOf g at_.length,0⟩::itsPre l) gv av ov:=hp5
   obtain ⟨gb,cap,hov,_,_,hlt5,lgb,_,_,xx2⟩:=hp5.2.2.2.1.get (i:=out.length) (p:=⟨⟨#[100,101,99,108,97,114,101,32,105,109,112,111,114,116]⟩,e+gapOf g at_.length,0⟩) (by simp)
   obtain ⟨N,hN⟩:∃ N,N=(out++(⟨⟨#[100,101,99,108,97,114,101,32,105,109,112,111,114,116]⟩,e+gapOf g at_.length,0⟩:Pl)::itsPre l).length:=⟨_,rfl⟩
   rw [← hN] at hov hlt5
   subst hov
   obtain ⟨_,cur,hgc5⟩:=hp5.2.2.2.1.blk (g:=gb) rfl
   have cc2:wr.cell? ⟨pb,2,none⟩=some (.int .i64 (f1)):=cO hp5.1 2 _ rfl
   have cc3:wr.cell? ⟨pb,3,none⟩=some (.slice (some ⟨gb,0,none⟩) N cap):=cO hp5.1 3 _ rfl
   have fx:=fO hgc5 (out.length*3+2)
   have lpb:=ltb hp5.1
   have ne1:pb≠gb:=ne_blk hp5.1 hgc5 (by simp)
   have ne2:gb≠pb:=ne1.symm
   have H5:=a2_ hp5 hq9
   clear hp5 hgc5 hN hq9
   go_wp2_with fail
   go_region_held3 (fun w'=>w'.cell? ⟨pb,2,none⟩=some (.int .i64 (f1))∧w'.cell? ⟨pb,3,none⟩=some (.slice (some ⟨gb,0,none⟩) N cap))
    (first | (go_keep;done))
    (fail)
   have hcl:=PStx.close (e2:=f1) H5.out.1 ((Kp.refl No wr).drew)
   refine bodyPost_end (v:=.tuple #[]) (by simp [results,Tryz.results13,go_sem]) rfl ⟨⟨_,rfl⟩,p,l,f1,HPQ.out,HG.out.1,?_,H5.out.2.trans hcl.2⟩
   have h9:=hcl.1
   rw [← HPQ.out] at h9
   exact h9
theorem node_impg (its:List It) (hF:∀ d∈its,ItC d) (w:World) (B base pb:Nat) (g at_:List Int) (e:Int) (out:List Pl) (q:Option Addr) (c:Nat) (hp:PSt w base pb g at_ e out) (hL:Ls w B (.slice q its.length c) (its.map It.nd)) (hB:B≤base)
 (b1:1≤e) (b2:e+16777216*(1+Nd.sizeL (its.map It.nd))≤1125899906842624) (b3:at_.length+8*(1+Nd.sizeL (its.map It.nd))≤1048576) (b4:out.length+4*(1+Nd.sizeL (its.map It.nd))≤1048575) (hs:Nd.shortL (its.map It.nd)) :
 Calls Tryz.prog 13 #[.pointer (some ⟨pb,0,none⟩),.agg #[.string ⟨#[100,101,99,108,97,114,101,32,105,109,112,111,114,116]⟩,.string ⟨#[103,114,111,117,112]⟩,.slice q its.length c]] w fun e' w'=>(∃ v,e'=.returned v)∧∃ p o l f1 cc ,p=e+gapOf g at_.length∧p+1≤o∧o≤p+1100∧ItsG (o+1) its l f1∧f1≤cc∧cc≤f1+1000∧PSt w' base pb g (at_++(p::o::(itsToks l++[cc]))) (cc+1) (out++⟨⟨#[100,101,99,108,97,114,101,32,105,109,112,111,114,116]⟩,p,cc+1⟩::itsPre l)∧Kq base w w':=by
 have hbs:=hp.size
 have hsh:=its_short _ hs
 obtain ⟨_,_,he,hc,_⟩:=id hL
 have hlen4:its.length≤Nd.sizeL (its.map It.nd):=by have:=Nd.length_le (its.map It.nd);simpa using this
 have HL:=hd_ hL;have HP:=hd_ hp;have HF:=hd_ hF;have HSH:=hd_ hsh
 have hgap:=gapOf_le g at_.length
 clear hp hL hF hsh hs he hc
 go_enter Tryz.func13,Tryz.ntmps13
 have hk0:Kp No w (w.alloc (.cells #[.string ⟨#[100,101,99,108,97,114,101,32,105,109,112,111,114,116]⟩,.string ⟨#[103,114,111,117,112]⟩,.slice q its.length c] 24 (0,0))):=(Kp.refl No w).alloc _
 have hp0:=HP.out.on hk0 (by simp)
 have hx0:=newOf w (.cells #[.string ⟨#[100,101,99,108,97,114,101,32,105,109,112,111,114,116]⟩,.string ⟨#[103,114,111,117,112]⟩,.slice q its.length c] 24 (0,0))
 generalize hw0:w.alloc (.cells #[.string ⟨#[100,101,99,108,97,114,101,32,105,109,112,111,114,116]⟩,.string ⟨#[103,114,111,117,112]⟩,.slice q its.length c] 24 (0,0))=w0 at hk0 hp0 hx0
 have xs0:w0.heap.size > w.heap.size:=ltb hx0
 have x0:=cO hx0 0 _ rfl
 have x1:=cO hx0 1 _ rfl
 have x2:=cO hx0 2 _ rfl
 have HS0:=a3_ hp0 hk0 hx0
 clear hp0 hk0 hx0
 go_wp2_with fail
 try rw [hw0]
 clear hw0
 refine (open_c w0 base pb g at_ e out ⟨#[100,101,99,108,97,114,101,32,105,109,112,111,114,116]⟩ ⟨#[103,114,111,117,112]⟩ _ HS0.out.1 (by omega) (by omega) (by omega) ⟨_,_,_,rfl⟩).mono ?_
 rintro e1 w1 ⟨rfl,hp1,hr1⟩
 have hx1:=hr1.kn w.heap.size _ _ _ HS0.out.2.2 (by decide) (by decide) (by decide)
 have hq1:=(Kq.of_no HS0.out.2.1).trans hr1
 have xs1:=ltb hx1
 have y0:=cO hx1 0 _ rfl
 have y1:=cO hx1 1 _ rfl
 have y2:=cO hx1 2 _ rfl
 have H1:=a3_ hp1 hq1 hx1
 clear hp1 hr1 hx1 hq1 x0 x1 x2
 go_wp2_with fail
 have ka1:Kp No w1 (w1.alloc (.cells #[.string ⟨#[105,109,112,111,114,116]⟩] 9 (0,0))):=(Kp.refl No w1).alloc _
 refine (tok1_c _ base pb _ 1 g _ _ _ ⟨#[105,109,112,111,114,116]⟩ (H1.out.1.on ka1 (by simp)) (newOf w1 _) rfl (by decide) (by omega) (by omega) (by omega)).mono ?_
 rintro e2 w2 ⟨⟨v2,rfl⟩,p,hpq,hp2,hr2⟩
 have hzw:((⟨#[105,109,112,111,114,116]⟩:ByteArray)).size=6:=rfl
 rw [hzw] at hp2
 have hx2:=hr2.kn w.heap.size _ _ _ (ka1.at H1.out.2.2 (by simp)) (by decide) (by decide) (by decide)
 have hq2:=(H1.out.2.1.no ka1).trans hr2
 have xs2:=ltb hx2
 have z0:=cO hx2 0 _ rfl
 have z1:=cO hx2 1 _ rfl
 have z2:=cO hx2 2 _ rfl
 have hpb:e≤p∧p≤e+1000:=by rw [hpq];omega
 have H2:=a3_ hp2 hq2 hx2
 have HPQ:=hd_ hpq
 clear hp2 hr2 hx2 hq2 ka1 hpq y0 y1 y2
 go_wp2_with fail
 have ka2:Kp No w2 (w2.alloc (.cells #[.string ⟨#[40]⟩] 9 (0,0))):=(Kp.refl No w2).alloc _
 refine (tok1_c _ base pb _ 1 g _ _ _ ⟨#[40]⟩ (H2.out.1.on ka2 (by simp)) (newOf w2 _) rfl (by decide) (by omega) (by omega) (by simp only [la_,lc_,ln_,lm_];omega)).mono ?_
 rintro e3 w3 ⟨⟨v3,rfl⟩,o,hoq,hp3,hr3⟩
 have hgo:=gapOf_le g (at_++[p]).length
 have hob:p+1≤o∧o≤p+1100:=by rw [hoq];constructor <;> omega
 have hzo:((⟨#[40]⟩:ByteArray)).size=1:=rfl
 rw [hzo] at hp3
 have hx3:=hr3.kn w.heap.size _ _ _ (ka2.at H2.out.2.2 (by simp)) (by decide) (by decide) (by decide)
 have hq3:=(H2.out.2.1.no ka2).trans hr3
 have xs3:=ltb hx3
 have u0:=cO hx3 0 _ rfl
 have u1:=cO hx3 1 _ rfl
 have u2:=cO hx3 2 _ rfl
 have HL0:Hid (PSt w3 base pb g (at_++(p::o::itsToks [])) (o+1) (out++⟨⟨#[100,101,99,108,97,114,101,32,105,109,112,111,114,116]⟩,e+gapOf g at_.length,0⟩::itsPre [])∧Kq base w w3∧w3.heap[w.heap.size]?=some (.cells #[.string ⟨#[100,101,99,108,97,114,101,32,105,109,112,111,114,116]⟩,.string ⟨#[103,114,111,117,112]⟩,.slice q its.length c] 24 (0,0))):=⟨by simpa [itsToks,itsPre,aa_] using hp3,hq3,hx3⟩
 clear hp3 hr3 hx3 hq3 ka2 hoq z0 z1 z2
 go_wp2_with fail
 go_loopw [10,181] (fun _ i wr=>∃ k:Nat,k≤its.length∧i=.int .i64 k∧Kq base w wr∧wr.heap[w.heap.size]?=some (.cells #[.string ⟨#[100,101,99,108,97,114,101,32,105,109,112,111,114,116]⟩,.string ⟨#[103,114,111,117,112]⟩,.slice q its.length c] 24 (0,0))∧∃ l f1,ItsG (o+1) (its.take k) l f1∧PSt wr base pb g (at_++(p::o::itsToks l)) f1 (out++⟨⟨#[100,101,99,108,97,114,101,32,105,109,112,111,114,116]⟩,e+gapOf g at_.length,0⟩::itsPre l)) (fun _ i _=>its.length - (intOf i).toNat)
 case atStart=>exact ⟨0,Nat.zero_le _,rfl,HL0.out.2.1,HL0.out.2.2,[],o+1,ItsG.zero _,HL0.out.1⟩
 case round =>
  obtain ⟨k,hk,rfl,hq,hbx,l,f1,hg,hp⟩:=hrel
  by_cases hlt:k < its.length
  ·obtain ⟨d,hd⟩:∃ d,its[k]?=some d:=⟨_,List.getElem?_eq_getElem hlt⟩
   have hdn:(its.map It.nd)[k]?=some d.nd:=by rw [List.getElem?_map,hd];rfl
   have htk:its.take (k+1)=its.take k++[d]:=by rw [List.take_add_one,hd];rfl
   have hdm:=List.mem_of_getElem? hd
   have hsz:=sizeL_take_le hdn
   rw [← List.map_take] at hsz
   have hf:=hg.fin;have hle:=hg.le;have htl:=hg.tk;have hpl:=hg.pl
   have hzs:=hq.kp.size
   have hds:=Nd.size_pos d.nd
   obtain ⟨b,oo,c',q',dd,he',_,hb,hi,h1,h2,h3,h4,h5⟩:=(HL.out.stay (w':=wr) (fun i hi=>hq.kp.block i (by omega) (by simp only [Fr];omega))).get (i:=k) hdn
   rw [lm_] at he'
   cases he'
   have HG:=a4_ hg hp hq hbx;have HTK:=hd_ htk;have HIN:=hd_ h4;have HDM:=hd_ hdm
   have HK0:Hid (Kp No wr (wr.alloc (.cells #[.string d.nd.k,.string d.nd.t,.slice q' d.nd.l.length dd] 24 (0,0)))):=(Kp.refl No wr).alloc _
   clear hg hp hq hbx htk h4 hi hd hdn hdm
   go_wp2_with fail
   refine (HF.out d HDM.out _ B base pb g _ f1 _ _ (HG.out.2.1.on HK0.out (by simp)) (HIN.out.stay fun b hb=>Below.heap_alloc _ _ _ (by omega)) hB (by unfold Bnd;simp only [la_,lc_,ln_,lm_];refine ⟨by omega,by omega,by omega,by omega⟩) (HSH.out d HDM.out)).mono ?_
   rintro e3 w4 ⟨⟨v4,rfl⟩,d',hdg,hp4,hq4⟩
   have H3:=a4_ hdg hp4 ((HG.out.2.2.1.no HK0.out).trans hq4) (hq4.kn w.heap.size _ _ _ (HK0.out.at HG.out.2.2.2 (by simp)) (by decide) (by decide) (by decide))
   clear hdg hp4 hq4
   go_wp2_with fail
   go_roundw
   case rel =>
    refine ⟨k+1,by omega,by go_num,H3.out.2.2.1,H3.out.2.2.2,l++[d'],d'.fin,?_,?_⟩
    ·rw [HTK.out];exact HG.out.1.snoc H3.out.1
    ·rw [itsToks_snoc,itsPre_snoc]
     simpa [aa_] using H3.out.2.1
   case measure=>simp [intOf];omega
  ·have hkn:k=its.length:=by omega
   have htake:its.take k=its:=List.take_of_length_le (by omega)
   rw [htake] at hg
   have hf:=hg.fin;have hle:=hg.le;have htl:=hg.tk;have hpl:=hg.pl
   have t0:=cO hbx 0 _ rfl
   have t1:=cO hbx 1 _ rfl
   have t2:=cO hbx 2 _ rfl
   have xbx:=ltb hbx
   have HG:=a3_ hg hp hq
   clear hg hp hq htake hbx
   go_wp2_with fail
   have ka4:Kp No wr (wr.alloc (.cells #[.string ⟨#[41]⟩] 9 (0,0))):=(Kp.refl No wr).alloc _
   refine (tok1_c _ base pb _ 1 g _ f1 _ ⟨#[41]⟩ (HG.out.2.1.on ka4 (by simp)) (newOf wr _) rfl (by decide) (by omega) (by omega) (by simp only [la_,lc_,ln_,lm_];omega)).mono ?_
   rintro e5 w5 ⟨⟨v5,rfl⟩,cc,hcq,hp9,hr9⟩
   have hgc:=gapOf_le g (at_++p::o::itsToks l).length
   have hcc:f1≤cc∧cc≤f1+1000:=by rw [hcq];omega
   have hz9:((⟨#[41]⟩:ByteArray)).size=1:=rfl
   rw [hz9] at hp9
   have hq9:=(HG.out.2.2.no ka4).trans hr9
   have hp9:PSt w5 base pb g (at_++(p::o::(itsToks l++[cc]))) (cc+1) (out++⟨⟨#[100,101,99,108,97,114,101,32,105,109,112,111,114,116]⟩,e+gapOf g at_.length,0⟩::itsPre l):=by simpa [aa_] using hp9
   clear hr9 ka4 hcq
   obtain ⟨gv,av,ov,hp5⟩:=hp9
   have hp5:PStx w5 base pb g (at_++(p::o::(itsToks l++[cc]))) (cc+1) (out++⟨⟨#[100,101,99,108,97,114,101,32,105,109,112,111,114,116]⟩,e+gapOf g at_.length,0⟩::itsPre l) gv av ov:=hp5
   obtain ⟨gb,cap,hov,_,_,hlt5,lgb,_,_,xx2⟩:=hp5.2.2.2.1.get (i:=out.length) (p:=⟨⟨#[100,101,99,108,97,114,101,32,105,109,112,111,114,116]⟩,e+gapOf g at_.length,0⟩) (by simp)
   obtain ⟨N,hN⟩:∃ N,N=(out++(⟨⟨#[100,101,99,108,97,114,101,32,105,109,112,111,114,116]⟩,e+gapOf g at_.length,0⟩:Pl)::itsPre l).length:=⟨_,rfl⟩
   rw [← hN] at hov hlt5
   subst hov
   obtain ⟨_,cur,hgc5⟩:=hp5.2.2.2.1.blk (g:=gb) rfl
   have cc2:w5.cell? ⟨pb,2,none⟩=some (.int .i64 (cc+1)):=cO hp5.1 2 _ rfl
   have cc3:w5.cell? ⟨pb,3,none⟩=some (.slice (some ⟨gb,0,none⟩) N cap):=cO hp5.1 3 _ rfl
   have fx:=fO hgc5 (out.length*3+2)
   have lpb:=ltb hp5.1
   have ne1:pb≠gb:=ne_blk hp5.1 hgc5 (by simp)
   have ne2:gb≠pb:=ne1.symm
   have H5:=a2_ hp5 hq9
   clear hp5 hgc5 hN hq9
   go_wp2_with fail
   go_region_held3 (fun w'=>w'.cell? ⟨pb,2,none⟩=some (.int .i64 (cc+1))∧w'.cell? ⟨pb,3,none⟩=some (.slice (some ⟨gb,0,none⟩) N cap))
    (first | (go_keep;done))
    (fail)
   have hcl:=PStx.close (e2:=cc+1) H5.out.1 ((Kp.refl No w5).drew)
   refine bodyPost_end (v:=.tuple #[]) (by simp [results,Tryz.results13,go_sem]) rfl ⟨⟨_,rfl⟩,p,o,l,f1,cc,HPQ.out,hob.1,hob.2,HG.out.1,hcc.1,hcc.2,?_,H5.out.2.trans hcl.2⟩
   have h9:=hcl.1
   rw [← HPQ.out] at h9
   exact h9
theorem node_cono (its:List It) (hF:∀ d∈its,ItC d) (w:World) (B base pb:Nat) (g at_:List Int) (e:Int) (out:List Pl) (q:Option Addr) (c:Nat) (hp:PSt w base pb g at_ e out) (hL:Ls w B (.slice q its.length c) (its.map It.nd)) (hB:B≤base)
 (b1:1≤e) (b2:e+16777216*(1+Nd.sizeL (its.map It.nd))≤1125899906842624) (b3:at_.length+8*(1+Nd.sizeL (its.map It.nd))≤1048576) (b4:out.length+4*(1+Nd.sizeL (its.map It.nd))≤1048575) (hs:Nd.shortL (its.map It.nd)) :
 Calls Tryz.prog 13 #[.pointer (some ⟨pb,0,none⟩),.agg #[.string ⟨#[100,101,99,108,97,114,101,32,99,111,110,115,116]⟩,.string ⟨#[]⟩,.slice q its.length c]] w fun e' w'=>(∃ v,e'=.returned v)∧∃ p l f1 ,p=e+gapOf g at_.length∧ItsG (p+5) its l f1∧PSt w' base pb g (at_++(p::itsToks l)) f1 (out++⟨⟨#[100,101,99,108,97,114,101,32,99,111,110,115,116]⟩,p,f1⟩::itsPre l)∧Kq base w w':=by
 have hbs:=hp.size
 have hsh:=its_short _ hs
 obtain ⟨_,_,he,hc,_⟩:=id hL
 have hlen4:its.length≤Nd.sizeL (its.map It.nd):=by have:=Nd.length_le (its.map It.nd);simpa using this
 have HL:=hd_ hL;have HP:=hd_ hp;have HF:=hd_ hF;have HSH:=hd_ hsh
 have hgap:=gapOf_le g at_.length
 clear hp hL hF hsh hs he hc
 go_enter Tryz.func13,Tryz.ntmps13
 have hk0:Kp No w (w.alloc (.cells #[.string ⟨#[100,101,99,108,97,114,101,32,99,111,110,115,116]⟩,.string ⟨#[]⟩,.slice q its.length c] 24 (0,0))):=(Kp.refl No w).alloc _
 have hp0:=HP.out.on hk0 (by simp)
 have hx0:=newOf w (.cells #[.string ⟨#[100,101,99,108,97,114,101,32,99,111,110,115,116]⟩,.string ⟨#[]⟩,.slice q its.length c] 24 (0,0))
 generalize hw0:w.alloc (.cells #[.string ⟨#[100,101,99,108,97,114,101,32,99,111,110,115,116]⟩,.string ⟨#[]⟩,.slice q its.length c] 24 (0,0))=w0 at hk0 hp0 hx0
 have xs0:w0.heap.size > w.heap.size:=ltb hx0
 have x0:=cO hx0 0 _ rfl
 have x1:=cO hx0 1 _ rfl
 have x2:=cO hx0 2 _ rfl
 have HS0:=a3_ hp0 hk0 hx0
 clear hp0 hk0 hx0
 go_wp2_with fail
 try rw [hw0]
 clear hw0
 refine (open_c w0 base pb g at_ e out ⟨#[100,101,99,108,97,114,101,32,99,111,110,115,116]⟩ ⟨#[]⟩ _ HS0.out.1 (by omega) (by omega) (by omega) ⟨_,_,_,rfl⟩).mono ?_
 rintro e1 w1 ⟨rfl,hp1,hr1⟩
 have hx1:=hr1.kn w.heap.size _ _ _ HS0.out.2.2 (by decide) (by decide) (by decide)
 have hq1:=(Kq.of_no HS0.out.2.1).trans hr1
 have xs1:=ltb hx1
 have y0:=cO hx1 0 _ rfl
 have y1:=cO hx1 1 _ rfl
 have y2:=cO hx1 2 _ rfl
 have H1:=a3_ hp1 hq1 hx1
 clear hp1 hr1 hx1 hq1 x0 x1 x2
 go_wp2_with fail
 have ka1:Kp No w1 (w1.alloc (.cells #[.string ⟨#[99,111,110,115,116]⟩] 9 (0,0))):=(Kp.refl No w1).alloc _
 refine (tok1_c _ base pb _ 1 g _ _ _ ⟨#[99,111,110,115,116]⟩ (H1.out.1.on ka1 (by simp)) (newOf w1 _) rfl (by decide) (by omega) (by omega) (by omega)).mono ?_
 rintro e2 w2 ⟨⟨v2,rfl⟩,p,hpq,hp2,hr2⟩
 have hzw:((⟨#[99,111,110,115,116]⟩:ByteArray)).size=5:=rfl
 rw [hzw] at hp2
 have hx2:=hr2.kn w.heap.size _ _ _ (ka1.at H1.out.2.2 (by simp)) (by decide) (by decide) (by decide)
 have hq2:=(H1.out.2.1.no ka1).trans hr2
 have xs2:=ltb hx2
 have z0:=cO hx2 0 _ rfl
 have z1:=cO hx2 1 _ rfl
 have z2:=cO hx2 2 _ rfl
 have hpb:e≤p∧p≤e+1000:=by rw [hpq];omega
 have H2:=a3_ hp2 hq2 hx2
 have HPQ:=hd_ hpq
 clear hp2 hr2 hx2 hq2 ka1 hpq y0 y1 y2
 have HL0:Hid (PSt w2 base pb g (at_++(p::itsToks [])) (p+5) (out++⟨⟨#[100,101,99,108,97,114,101,32,99,111,110,115,116]⟩,e+gapOf g at_.length,0⟩::itsPre [])∧Kq base w w2∧w2.heap[w.heap.size]?=some (.cells #[.string ⟨#[100,101,99,108,97,114,101,32,99,111,110,115,116]⟩,.string ⟨#[]⟩,.slice q its.length c] 24 (0,0))):=⟨by simpa [itsToks,itsPre,aa_] using H2.out.1,H2.out.2.1,H2.out.2.2⟩
 go_wp2_with fail
 go_loopw [10,181] (fun _ i wr=>∃ k:Nat,k≤its.length∧i=.int .i64 k∧Kq base w wr∧wr.heap[w.heap.size]?=some (.cells #[.string ⟨#[100,101,99,108,97,114,101,32,99,111,110,115,116]⟩,.string ⟨#[]⟩,.slice q its.length c] 24 (0,0))∧∃ l f1,ItsG (p+5) (its.take k) l f1∧PSt wr base pb g (at_++(p::itsToks l)) f1 (out++⟨⟨#[100,101,99,108,97,114,101,32,99,111,110,115,116]⟩,e+gapOf g at_.length,0⟩::itsPre l)) (fun _ i _=>its.length - (intOf i).toNat)
 case atStart=>exact ⟨0,Nat.zero_le _,rfl,HL0.out.2.1,HL0.out.2.2,[],p+5,ItsG.zero _,HL0.out.1⟩
 case round =>
  obtain ⟨k,hk,rfl,hq,hbx,l,f1,hg,hp⟩:=hrel
  by_cases hlt:k < its.length
  ·obtain ⟨d,hd⟩:∃ d,its[k]?=some d:=⟨_,List.getElem?_eq_getElem hlt⟩
   have hdn:(its.map It.nd)[k]?=some d.nd:=by rw [List.getElem?_map,hd];rfl
   have htk:its.take (k+1)=its.take k++[d]:=by rw [List.take_add_one,hd];rfl
   have hdm:=List.mem_of_getElem? hd
   have hsz:=sizeL_take_le hdn
   rw [← List.map_take] at hsz
   have hf:=hg.fin;have hle:=hg.le;have htl:=hg.tk;have hpl:=hg.pl
   have hzs:=hq.kp.size
   have hds:=Nd.size_pos d.nd
   obtain ⟨b,oo,c',q',dd,he',_,hb,hi,h1,h2,h3,h4,h5⟩:=(HL.out.stay (w':=wr) (fun i hi=>hq.kp.block i (by omega) (by simp only [Fr];omega))).get (i:=k) hdn
   rw [lm_] at he'
   cases he'
   have HG:=a4_ hg hp hq hbx;have HTK:=hd_ htk;have HIN:=hd_ h4;have HDM:=hd_ hdm
   have HK0:Hid (Kp No wr (wr.alloc (.cells #[.string d.nd.k,.string d.nd.t,.slice q' d.nd.l.length dd] 24 (0,0)))):=(Kp.refl No wr).alloc _
   clear hg hp hq hbx htk h4 hi hd hdn hdm
   go_wp2_with fail
   refine (HF.out d HDM.out _ B base pb g _ f1 _ _ (HG.out.2.1.on HK0.out (by simp)) (HIN.out.stay fun b hb=>Below.heap_alloc _ _ _ (by omega)) hB (by unfold Bnd;simp only [la_,lc_,ln_,lm_];refine ⟨by omega,by omega,by omega,by omega⟩) (HSH.out d HDM.out)).mono ?_
   rintro e3 w4 ⟨⟨v4,rfl⟩,d',hdg,hp4,hq4⟩
   have H3:=a4_ hdg hp4 ((HG.out.2.2.1.no HK0.out).trans hq4) (hq4.kn w.heap.size _ _ _ (HK0.out.at HG.out.2.2.2 (by simp)) (by decide) (by decide) (by decide))
   clear hdg hp4 hq4
   go_wp2_with fail
   go_roundw
   case rel =>
    refine ⟨k+1,by omega,by go_num,H3.out.2.2.1,H3.out.2.2.2,l++[d'],d'.fin,?_,?_⟩
    ·rw [HTK.out];exact HG.out.1.snoc H3.out.1
    ·rw [itsToks_snoc,itsPre_snoc]
     simpa [aa_] using H3.out.2.1
   case measure=>simp [intOf];omega
  ·have hkn:k=its.length:=by omega
   have htake:its.take k=its:=List.take_of_length_le (by omega)
   rw [htake] at hg
   have hf:=hg.fin;have hle:=hg.le;have htl:=hg.tk;have hpl:=hg.pl
   have t0:=cO hbx 0 _ rfl
   have t1:=cO hbx 1 _ rfl
   have t2:=cO hbx 2 _ rfl
   have xbx:=ltb hbx
   have HG:=a3_ hg hp hq
   clear hg hp hq htake hbx
   have hp9:=HG.out.2.1
   have hq9:=HG.out.2.2
   obtain ⟨gv,av,ov,hp5⟩:=hp9
   have hp5:PStx wr base pb g (at_++(p::itsToks l)) (f1) (out++⟨⟨#[100,101,99,108,97,114,101,32,99,111,110,115,116]⟩,e+gapOf g at_.length,0⟩::itsPre l) gv av ov:=hp5
   obtain ⟨gb,cap,hov,_,_,hlt5,lgb,_,_,xx2⟩:=hp5.2.2.2.1.get (i:=out.length) (p:=⟨⟨#[100,101,99,108,97,114,101,32,99,111,110,115,116]⟩,e+gapOf g at_.length,0⟩) (by simp)
   obtain ⟨N,hN⟩:∃ N,N=(out++(⟨⟨#[100,101,99,108,97,114,101,32,99,111,110,115,116]⟩,e+gapOf g at_.length,0⟩:Pl)::itsPre l).length:=⟨_,rfl⟩
   rw [← hN] at hov hlt5
   subst hov
   obtain ⟨_,cur,hgc5⟩:=hp5.2.2.2.1.blk (g:=gb) rfl
   have cc2:wr.cell? ⟨pb,2,none⟩=some (.int .i64 (f1)):=cO hp5.1 2 _ rfl
   have cc3:wr.cell? ⟨pb,3,none⟩=some (.slice (some ⟨gb,0,none⟩) N cap):=cO hp5.1 3 _ rfl
   have fx:=fO hgc5 (out.length*3+2)
   have lpb:=ltb hp5.1
   have ne1:pb≠gb:=ne_blk hp5.1 hgc5 (by simp)
   have ne2:gb≠pb:=ne1.symm
   have H5:=a2_ hp5 hq9
   clear hp5 hgc5 hN hq9
   go_wp2_with fail
   go_region_held3 (fun w'=>w'.cell? ⟨pb,2,none⟩=some (.int .i64 (f1))∧w'.cell? ⟨pb,3,none⟩=some (.slice (some ⟨gb,0,none⟩) N cap))
    (first | (go_keep;done))
    (fail)
   have hcl:=PStx.close (e2:=f1) H5.out.1 ((Kp.refl No wr).drew)
   refine bodyPost_end (v:=.tuple #[]) (by simp [results,Tryz.results13,go_sem]) rfl ⟨⟨_,rfl⟩,p,l,f1,HPQ.out,HG.out.1,?_,H5.out.2.trans hcl.2⟩
   have h9:=hcl.1
   rw [← HPQ.out] at h9
   exact h9
theorem node_cong (its:List It) (hF:∀ d∈its,ItC d) (w:World) (B base pb:Nat) (g at_:List Int) (e:Int) (out:List Pl) (q:Option Addr) (c:Nat) (hp:PSt w base pb g at_ e out) (hL:Ls w B (.slice q its.length c) (its.map It.nd)) (hB:B≤base)
 (b1:1≤e) (b2:e+16777216*(1+Nd.sizeL (its.map It.nd))≤1125899906842624) (b3:at_.length+8*(1+Nd.sizeL (its.map It.nd))≤1048576) (b4:out.length+4*(1+Nd.sizeL (its.map It.nd))≤1048575) (hs:Nd.shortL (its.map It.nd)) :
 Calls Tryz.prog 13 #[.pointer (some ⟨pb,0,none⟩),.agg #[.string ⟨#[100,101,99,108,97,114,101,32,99,111,110,115,116]⟩,.string ⟨#[103,114,111,117,112]⟩,.slice q its.length c]] w fun e' w'=>(∃ v,e'=.returned v)∧∃ p o l f1 cc ,p=e+gapOf g at_.length∧p+1≤o∧o≤p+1100∧ItsG (o+1) its l f1∧f1≤cc∧cc≤f1+1000∧PSt w' base pb g (at_++(p::o::(itsToks l++[cc]))) (cc+1) (out++⟨⟨#[100,101,99,108,97,114,101,32,99,111,110,115,116]⟩,p,cc+1⟩::itsPre l)∧Kq base w w':=by
 have hbs:=hp.size
 have hsh:=its_short _ hs
 obtain ⟨_,_,he,hc,_⟩:=id hL
 have hlen4:its.length≤Nd.sizeL (its.map It.nd):=by have:=Nd.length_le (its.map It.nd);simpa using this
 have HL:=hd_ hL;have HP:=hd_ hp;have HF:=hd_ hF;have HSH:=hd_ hsh
 have hgap:=gapOf_le g at_.length
 clear hp hL hF hsh hs he hc
 go_enter Tryz.func13,Tryz.ntmps13
 have hk0:Kp No w (w.alloc (.cells #[.string ⟨#[100,101,99,108,97,114,101,32,99,111,110,115,116]⟩,.string ⟨#[103,114,111,117,112]⟩,.slice q its.length c] 24 (0,0))):=(Kp.refl No w).alloc _
 have hp0:=HP.out.on hk0 (by simp)
 have hx0:=newOf w (.cells #[.string ⟨#[100,101,99,108,97,114,101,32,99,111,110,115,116]⟩,.string ⟨#[103,114,111,117,112]⟩,.slice q its.length c] 24 (0,0))
 generalize hw0:w.alloc (.cells #[.string ⟨#[100,101,99,108,97,114,101,32,99,111,110,115,116]⟩,.string ⟨#[103,114,111,117,112]⟩,.slice q its.length c] 24 (0,0))=w0 at hk0 hp0 hx0
 have xs0:w0.heap.size > w.heap.size:=ltb hx0
 have x0:=cO hx0 0 _ rfl
 have x1:=cO hx0 1 _ rfl
 have x2:=cO hx0 2 _ rfl
 have HS0:=a3_ hp0 hk0 hx0
 clear hp0 hk0 hx0
 go_wp2_with fail
 try rw [hw0]
 clear hw0
 refine (open_c w0 base pb g at_ e out ⟨#[100,101,99,108,97,114,101,32,99,111,110,115,116]⟩ ⟨#[103,114,111,117,112]⟩ _ HS0.out.1 (by omega) (by omega) (by omega) ⟨_,_,_,rfl⟩).mono ?_
 rintro e1 w1 ⟨rfl,hp1,hr1⟩
 have hx1:=hr1.kn w.heap.size _ _ _ HS0.out.2.2 (by decide) (by decide) (by decide)
 have hq1:=(Kq.of_no HS0.out.2.1).trans hr1
 have xs1:=ltb hx1
 have y0:=cO hx1 0 _ rfl
 have y1:=cO hx1 1 _ rfl
 have y2:=cO hx1 2 _ rfl
 have H1:=a3_ hp1 hq1 hx1
 clear hp1 hr1 hx1 hq1 x0 x1 x2
 go_wp2_with fail
 have ka1:Kp No w1 (w1.alloc (.cells #[.string ⟨#[99,111,110,115,116]⟩] 9 (0,0))):=(Kp.refl No w1).alloc _
 refine (tok1_c _ base pb _ 1 g _ _ _ ⟨#[99,111,110,115,116]⟩ (H1.out.1.on ka1 (by simp)) (newOf w1 _) rfl (by decide) (by omega) (by omega) (by omega)).mono ?_
 rintro e2 w2 ⟨⟨v2,rfl⟩,p,hpq,hp2,hr2⟩
 have hzw:((⟨#[99,111,110,115,116]⟩:ByteArray)).size=5:=rfl
 rw [hzw] at hp2
 have hx2:=hr2.kn w.heap.size _ _ _ (ka1.at H1.out.2.2 (by simp)) (by decide) (by decide) (by decide)
 have hq2:=(H1.out.2.1.no ka1).trans hr2
 have xs2:=ltb hx2
 have z0:=cO hx2 0 _ rfl
 have z1:=cO hx2 1 _ rfl
 have z2:=cO hx2 2 _ rfl
 have hpb:e≤p∧p≤e+1000:=by rw [hpq];omega
 have H2:=a3_ hp2 hq2 hx2
 have HPQ:=hd_ hpq
 clear hp2 hr2 hx2 hq2 ka1 hpq y0 y1 y2
 go_wp2_with fail
 have ka2:Kp No w2 (w2.alloc (.cells #[.string ⟨#[40]⟩] 9 (0,0))):=(Kp.refl No w2).alloc _
 refine (tok1_c _ base pb _ 1 g _ _ _ ⟨#[40]⟩ (H2.out.1.on ka2 (by simp)) (newOf w2 _) rfl (by decide) (by omega) (by omega) (by simp only [la_,lc_,ln_,lm_];omega)).mono ?_
 rintro e3 w3 ⟨⟨v3,rfl⟩,o,hoq,hp3,hr3⟩
 have hgo:=gapOf_le g (at_++[p]).length
 have hob:p+1≤o∧o≤p+1100:=by rw [hoq];constructor <;> omega
 have hzo:((⟨#[40]⟩:ByteArray)).size=1:=rfl
 rw [hzo] at hp3
 have hx3:=hr3.kn w.heap.size _ _ _ (ka2.at H2.out.2.2 (by simp)) (by decide) (by decide) (by decide)
 have hq3:=(H2.out.2.1.no ka2).trans hr3
 have xs3:=ltb hx3
 have u0:=cO hx3 0 _ rfl
 have u1:=cO hx3 1 _ rfl
 have u2:=cO hx3 2 _ rfl
 have HL0:Hid (PSt w3 base pb g (at_++(p::o::itsToks [])) (o+1) (out++⟨⟨#[100,101,99,108,97,114,101,32,99,111,110,115,116]⟩,e+gapOf g at_.length,0⟩::itsPre [])∧Kq base w w3∧w3.heap[w.heap.size]?=some (.cells #[.string ⟨#[100,101,99,108,97,114,101,32,99,111,110,115,116]⟩,.string ⟨#[103,114,111,117,112]⟩,.slice q its.length c] 24 (0,0))):=⟨by simpa [itsToks,itsPre,aa_] using hp3,hq3,hx3⟩
 clear hp3 hr3 hx3 hq3 ka2 hoq z0 z1 z2
 go_wp2_with fail
 go_loopw [10,181] (fun _ i wr=>∃ k:Nat,k≤its.length∧i=.int .i64 k∧Kq base w wr∧wr.heap[w.heap.size]?=some (.cells #[.string ⟨#[100,101,99,108,97,114,101,32,99,111,110,115,116]⟩,.string ⟨#[103,114,111,117,112]⟩,.slice q its.length c] 24 (0,0))∧∃ l f1,ItsG (o+1) (its.take k) l f1∧PSt wr base pb g (at_++(p::o::itsToks l)) f1 (out++⟨⟨#[100,101,99,108,97,114,101,32,99,111,110,115,116]⟩,e+gapOf g at_.length,0⟩::itsPre l)) (fun _ i _=>its.length - (intOf i).toNat)
 case atStart=>exact ⟨0,Nat.zero_le _,rfl,HL0.out.2.1,HL0.out.2.2,[],o+1,ItsG.zero _,HL0.out.1⟩
 case round =>
  obtain ⟨k,hk,rfl,hq,hbx,l,f1,hg,hp⟩:=hrel
  by_cases hlt:k < its.length
  ·obtain ⟨d,hd⟩:∃ d,its[k]?=some d:=⟨_,List.getElem?_eq_getElem hlt⟩
   have hdn:(its.map It.nd)[k]?=some d.nd:=by rw [List.getElem?_map,hd];rfl
   have htk:its.take (k+1)=its.take k++[d]:=by rw [List.take_add_one,hd];rfl
   have hdm:=List.mem_of_getElem? hd
   have hsz:=sizeL_take_le hdn
   rw [← List.map_take] at hsz
   have hf:=hg.fin;have hle:=hg.le;have htl:=hg.tk;have hpl:=hg.pl
   have hzs:=hq.kp.size
   have hds:=Nd.size_pos d.nd
   obtain ⟨b,oo,c',q',dd,he',_,hb,hi,h1,h2,h3,h4,h5⟩:=(HL.out.stay (w':=wr) (fun i hi=>hq.kp.block i (by omega) (by simp only [Fr];omega))).get (i:=k) hdn
   rw [lm_] at he'
   cases he'
   have HG:=a4_ hg hp hq hbx;have HTK:=hd_ htk;have HIN:=hd_ h4;have HDM:=hd_ hdm
   have HK0:Hid (Kp No wr (wr.alloc (.cells #[.string d.nd.k,.string d.nd.t,.slice q' d.nd.l.length dd] 24 (0,0)))):=(Kp.refl No wr).alloc _
   clear hg hp hq hbx htk h4 hi hd hdn hdm
   go_wp2_with fail
   refine (HF.out d HDM.out _ B base pb g _ f1 _ _ (HG.out.2.1.on HK0.out (by simp)) (HIN.out.stay fun b hb=>Below.heap_alloc _ _ _ (by omega)) hB (by unfold Bnd;simp only [la_,lc_,ln_,lm_];refine ⟨by omega,by omega,by omega,by omega⟩) (HSH.out d HDM.out)).mono ?_
   rintro e3 w4 ⟨⟨v4,rfl⟩,d',hdg,hp4,hq4⟩
   have H3:=a4_ hdg hp4 ((HG.out.2.2.1.no HK0.out).trans hq4) (hq4.kn w.heap.size _ _ _ (HK0.out.at HG.out.2.2.2 (by simp)) (by decide) (by decide) (by decide))
   clear hdg hp4 hq4
   go_wp2_with fail
   go_roundw
   case rel =>
    refine ⟨k+1,by omega,by go_num,H3.out.2.2.1,H3.out.2.2.2,l++[d'],d'.fin,?_,?_⟩
    ·rw [HTK.out];exact HG.out.1.snoc H3.out.1
    ·rw [itsToks_snoc,itsPre_snoc]
     simpa [aa_] using H3.out.2.1
   case measure=>simp [intOf];omega
  ·have hkn:k=its.length:=by omega
   have htake:its.take k=its:=List.take_of_length_le (by omega)
   rw [htake] at hg
   have hf:=hg.fin;have hle:=hg.le;have htl:=hg.tk;have hpl:=hg.pl
   have t0:=cO hbx 0 _ rfl
   have t1:=cO hbx 1 _ rfl
   have t2:=cO hbx 2 _ rfl
   have xbx:=ltb hbx
   have HG:=a3_ hg hp hq
   clear hg hp hq htake hbx
   go_wp2_with fail
   have ka4:Kp No wr (wr.alloc (.cells #[.string ⟨#[41]⟩] 9 (0,0))):=(Kp.refl No wr).alloc _
   refine (tok1_c _ base pb _ 1 g _ f1 _ ⟨#[41]⟩ (HG.out.2.1.on ka4 (by simp)) (newOf wr _) rfl (by decide) (by omega) (by omega) (by simp only [la_,lc_,ln_,lm_];omega)).mono ?_
   rintro e5 w5 ⟨⟨v5,rfl⟩,cc,hcq,hp9,hr9⟩
   have hgc:=gapOf_le g (at_++p::o::itsToks l).length
   have hcc:f1≤cc∧cc≤f1+1000:=by rw [hcq];omega
   have hz9:((⟨#[41]⟩:ByteArray)).size=1:=rfl
   rw [hz9] at hp9
   have hq9:=(HG.out.2.2.no ka4).trans hr9
   have hp9:PSt w5 base pb g (at_++(p::o::(itsToks l++[cc]))) (cc+1) (out++⟨⟨#[100,101,99,108,97,114,101,32,99,111,110,115,116]⟩,e+gapOf g at_.length,0⟩::itsPre l):=by simpa [aa_] using hp9
   clear hr9 ka4 hcq
   obtain ⟨gv,av,ov,hp5⟩:=hp9
   have hp5:PStx w5 base pb g (at_++(p::o::(itsToks l++[cc]))) (cc+1) (out++⟨⟨#[100,101,99,108,97,114,101,32,99,111,110,115,116]⟩,e+gapOf g at_.length,0⟩::itsPre l) gv av ov:=hp5
   obtain ⟨gb,cap,hov,_,_,hlt5,lgb,_,_,xx2⟩:=hp5.2.2.2.1.get (i:=out.length) (p:=⟨⟨#[100,101,99,108,97,114,101,32,99,111,110,115,116]⟩,e+gapOf g at_.length,0⟩) (by simp)
   obtain ⟨N,hN⟩:∃ N,N=(out++(⟨⟨#[100,101,99,108,97,114,101,32,99,111,110,115,116]⟩,e+gapOf g at_.length,0⟩:Pl)::itsPre l).length:=⟨_,rfl⟩
   rw [← hN] at hov hlt5
   subst hov
   obtain ⟨_,cur,hgc5⟩:=hp5.2.2.2.1.blk (g:=gb) rfl
   have cc2:w5.cell? ⟨pb,2,none⟩=some (.int .i64 (cc+1)):=cO hp5.1 2 _ rfl
   have cc3:w5.cell? ⟨pb,3,none⟩=some (.slice (some ⟨gb,0,none⟩) N cap):=cO hp5.1 3 _ rfl
   have fx:=fO hgc5 (out.length*3+2)
   have lpb:=ltb hp5.1
   have ne1:pb≠gb:=ne_blk hp5.1 hgc5 (by simp)
   have ne2:gb≠pb:=ne1.symm
   have H5:=a2_ hp5 hq9
   clear hp5 hgc5 hN hq9
   go_wp2_with fail
   go_region_held3 (fun w'=>w'.cell? ⟨pb,2,none⟩=some (.int .i64 (cc+1))∧w'.cell? ⟨pb,3,none⟩=some (.slice (some ⟨gb,0,none⟩) N cap))
    (first | (go_keep;done))
    (fail)
   have hcl:=PStx.close (e2:=cc+1) H5.out.1 ((Kp.refl No w5).drew)
   refine bodyPost_end (v:=.tuple #[]) (by simp [results,Tryz.results13,go_sem]) rfl ⟨⟨_,rfl⟩,p,o,l,f1,cc,HPQ.out,hob.1,hob.2,HG.out.1,hcc.1,hcc.2,?_,H5.out.2.trans hcl.2⟩
   have h9:=hcl.1
   rw [← HPQ.out] at h9
   exact h9
theorem node_varo (its:List It) (hF:∀ d∈its,ItC d) (w:World) (B base pb:Nat) (g at_:List Int) (e:Int) (out:List Pl) (q:Option Addr) (c:Nat) (hp:PSt w base pb g at_ e out) (hL:Ls w B (.slice q its.length c) (its.map It.nd)) (hB:B≤base)
 (b1:1≤e) (b2:e+16777216*(1+Nd.sizeL (its.map It.nd))≤1125899906842624) (b3:at_.length+8*(1+Nd.sizeL (its.map It.nd))≤1048576) (b4:out.length+4*(1+Nd.sizeL (its.map It.nd))≤1048575) (hs:Nd.shortL (its.map It.nd)) :
 Calls Tryz.prog 13 #[.pointer (some ⟨pb,0,none⟩),.agg #[.string ⟨#[100,101,99,108,97,114,101,32,118,97,114]⟩,.string ⟨#[]⟩,.slice q its.length c]] w fun e' w'=>(∃ v,e'=.returned v)∧∃ p l f1 ,p=e+gapOf g at_.length∧ItsG (p+3) its l f1∧PSt w' base pb g (at_++(p::itsToks l)) f1 (out++⟨⟨#[100,101,99,108,97,114,101,32,118,97,114]⟩,p,f1⟩::itsPre l)∧Kq base w w':=by
 have hbs:=hp.size
 have hsh:=its_short _ hs
 obtain ⟨_,_,he,hc,_⟩:=id hL
 have hlen4:its.length≤Nd.sizeL (its.map It.nd):=by have:=Nd.length_le (its.map It.nd);simpa using this
 have HL:=hd_ hL;have HP:=hd_ hp;have HF:=hd_ hF;have HSH:=hd_ hsh
 have hgap:=gapOf_le g at_.length
 clear hp hL hF hsh hs he hc
 go_enter Tryz.func13,Tryz.ntmps13
 have hk0:Kp No w (w.alloc (.cells #[.string ⟨#[100,101,99,108,97,114,101,32,118,97,114]⟩,.string ⟨#[]⟩,.slice q its.length c] 24 (0,0))):=(Kp.refl No w).alloc _
 have hp0:=HP.out.on hk0 (by simp)
 have hx0:=newOf w (.cells #[.string ⟨#[100,101,99,108,97,114,101,32,118,97,114]⟩,.string ⟨#[]⟩,.slice q its.length c] 24 (0,0))
 generalize hw0:w.alloc (.cells #[.string ⟨#[100,101,99,108,97,114,101,32,118,97,114]⟩,.string ⟨#[]⟩,.slice q its.length c] 24 (0,0))=w0 at hk0 hp0 hx0
 have xs0:w0.heap.size > w.heap.size:=ltb hx0
 have x0:=cO hx0 0 _ rfl
 have x1:=cO hx0 1 _ rfl
 have x2:=cO hx0 2 _ rfl
 have HS0:=a3_ hp0 hk0 hx0
 clear hp0 hk0 hx0
 go_wp2_with fail
 try rw [hw0]
 clear hw0
 refine (open_c w0 base pb g at_ e out ⟨#[100,101,99,108,97,114,101,32,118,97,114]⟩ ⟨#[]⟩ _ HS0.out.1 (by omega) (by omega) (by omega) ⟨_,_,_,rfl⟩).mono ?_
 rintro e1 w1 ⟨rfl,hp1,hr1⟩
 have hx1:=hr1.kn w.heap.size _ _ _ HS0.out.2.2 (by decide) (by decide) (by decide)
 have hq1:=(Kq.of_no HS0.out.2.1).trans hr1
 have xs1:=ltb hx1
 have y0:=cO hx1 0 _ rfl
 have y1:=cO hx1 1 _ rfl
 have y2:=cO hx1 2 _ rfl
 have H1:=a3_ hp1 hq1 hx1
 clear hp1 hr1 hx1 hq1 x0 x1 x2
 go_wp2_with fail
 have ka1:Kp No w1 (w1.alloc (.cells #[.string ⟨#[118,97,114]⟩] 9 (0,0))):=(Kp.refl No w1).alloc _
 refine (tok1_c _ base pb _ 1 g _ _ _ ⟨#[118,97,114]⟩ (H1.out.1.on ka1 (by simp)) (newOf w1 _) rfl (by decide) (by omega) (by omega) (by omega)).mono ?_
 rintro e2 w2 ⟨⟨v2,rfl⟩,p,hpq,hp2,hr2⟩
 have hzw:((⟨#[118,97,114]⟩:ByteArray)).size=3:=rfl
 rw [hzw] at hp2
 have hx2:=hr2.kn w.heap.size _ _ _ (ka1.at H1.out.2.2 (by simp)) (by decide) (by decide) (by decide)
 have hq2:=(H1.out.2.1.no ka1).trans hr2
 have xs2:=ltb hx2
 have z0:=cO hx2 0 _ rfl
 have z1:=cO hx2 1 _ rfl
 have z2:=cO hx2 2 _ rfl
 have hpb:e≤p∧p≤e+1000:=by rw [hpq];omega
 have H2:=a3_ hp2 hq2 hx2
 have HPQ:=hd_ hpq
 clear hp2 hr2 hx2 hq2 ka1 hpq y0 y1 y2
 have HL0:Hid (PSt w2 base pb g (at_++(p::itsToks [])) (p+3) (out++⟨⟨#[100,101,99,108,97,114,101,32,118,97,114]⟩,e+gapOf g at_.length,0⟩::itsPre [])∧Kq base w w2∧w2.heap[w.heap.size]?=some (.cells #[.string ⟨#[100,101,99,108,97,114,101,32,118,97,114]⟩,.string ⟨#[]⟩,.slice q its.length c] 24 (0,0))):=⟨by simpa [itsToks,itsPre,aa_] using H2.out.1,H2.out.2.1,H2.out.2.2⟩
 go_wp2_with fail
 go_loopw [10,181] (fun _ i wr=>∃ k:Nat,k≤its.length∧i=.int .i64 k∧Kq base w wr∧wr.heap[w.heap.size]?=some (.cells #[.string ⟨#[100,101,99,108,97,114,101,32,118,97,114]⟩,.string ⟨#[]⟩,.slice q its.length c] 24 (0,0))∧∃ l f1,ItsG (p+3) (its.take k) l f1∧PSt wr base pb g (at_++(p::itsToks l)) f1 (out++⟨⟨#[100,101,99,108,97,114,101,32,118,97,114]⟩,e+gapOf g at_.length,0⟩::itsPre l)) (fun _ i _=>its.length - (intOf i).toNat)
 case atStart=>exact ⟨0,Nat.zero_le _,rfl,HL0.out.2.1,HL0.out.2.2,[],p+3,ItsG.zero _,HL0.out.1⟩
 case round =>
  obtain ⟨k,hk,rfl,hq,hbx,l,f1,hg,hp⟩:=hrel
  by_cases hlt:k < its.length
  ·obtain ⟨d,hd⟩:∃ d,its[k]?=some d:=⟨_,List.getElem?_eq_getElem hlt⟩
   have hdn:(its.map It.nd)[k]?=some d.nd:=by rw [List.getElem?_map,hd];rfl
   have htk:its.take (k+1)=its.take k++[d]:=by rw [List.take_add_one,hd];rfl
   have hdm:=List.mem_of_getElem? hd
   have hsz:=sizeL_take_le hdn
   rw [← List.map_take] at hsz
   have hf:=hg.fin;have hle:=hg.le;have htl:=hg.tk;have hpl:=hg.pl
   have hzs:=hq.kp.size
   have hds:=Nd.size_pos d.nd
   obtain ⟨b,oo,c',q',dd,he',_,hb,hi,h1,h2,h3,h4,h5⟩:=(HL.out.stay (w':=wr) (fun i hi=>hq.kp.block i (by omega) (by simp only [Fr];omega))).get (i:=k) hdn
   rw [lm_] at he'
   cases he'
   have HG:=a4_ hg hp hq hbx;have HTK:=hd_ htk;have HIN:=hd_ h4;have HDM:=hd_ hdm
   have HK0:Hid (Kp No wr (wr.alloc (.cells #[.string d.nd.k,.string d.nd.t,.slice q' d.nd.l.length dd] 24 (0,0)))):=(Kp.refl No wr).alloc _
   clear hg hp hq hbx htk h4 hi hd hdn hdm
   go_wp2_with fail
   refine (HF.out d HDM.out _ B base pb g _ f1 _ _ (HG.out.2.1.on HK0.out (by simp)) (HIN.out.stay fun b hb=>Below.heap_alloc _ _ _ (by omega)) hB (by unfold Bnd;simp only [la_,lc_,ln_,lm_];refine ⟨by omega,by omega,by omega,by omega⟩) (HSH.out d HDM.out)).mono ?_
   rintro e3 w4 ⟨⟨v4,rfl⟩,d',hdg,hp4,hq4⟩
   have H3:=a4_ hdg hp4 ((HG.out.2.2.1.no HK0.out).trans hq4) (hq4.kn w.heap.size _ _ _ (HK0.out.at HG.out.2.2.2 (by simp)) (by decide) (by decide) (by decide))
   clear hdg hp4 hq4
   go_wp2_with fail
   go_roundw
   case rel =>
    refine ⟨k+1,by omega,by go_num,H3.out.2.2.1,H3.out.2.2.2,l++[d'],d'.fin,?_,?_⟩
    ·rw [HTK.out];exact HG.out.1.snoc H3.out.1
    ·rw [itsToks_snoc,itsPre_snoc]
     simpa [aa_] using H3.out.2.1
   case measure=>simp [intOf];omega
  ·have hkn:k=its.length:=by omega
   have htake:its.take k=its:=List.take_of_length_le (by omega)
   rw [htake] at hg
   have hf:=hg.fin;have hle:=hg.le;have htl:=hg.tk;have hpl:=hg.pl
   have t0:=cO hbx 0 _ rfl
   have t1:=cO hbx 1 _ rfl
   have t2:=cO hbx 2 _ rfl
   have xbx:=ltb hbx
   have HG:=a3_ hg hp hq
   clear hg hp hq htake hbx
   have hp9:=HG.out.2.1
   have hq9:=HG.out.2.2
   obtain ⟨gv,av,ov,hp5⟩:=hp9
   have hp5:PStx wr base pb g (at_++(p::itsToks l)) (f1) (out++⟨⟨#[100,101,99,108,97,114,101,32,118,97,114]⟩,e+gapOf g at_.length,0⟩::itsPre l) gv av ov:=hp5
   obtain ⟨gb,cap,hov,_,_,hlt5,lgb,_,_,xx2⟩:=hp5.2.2.2.1.get (i:=out.length) (p:=⟨⟨#[100,101,99,108,97,114,101,32,118,97,114]⟩,e+gapOf g at_.length,0⟩) (by simp)
   obtain ⟨N,hN⟩:∃ N,N=(out++(⟨⟨#[100,101,99,108,97,114,101,32,118,97,114]⟩,e+gapOf g at_.length,0⟩:Pl)::itsPre l).length:=⟨_,rfl⟩
   rw [← hN] at hov hlt5
   subst hov
   obtain ⟨_,cur,hgc5⟩:=hp5.2.2.2.1.blk (g:=gb) rfl
   have cc2:wr.cell? ⟨pb,2,none⟩=some (.int .i64 (f1)):=cO hp5.1 2 _ rfl
   have cc3:wr.cell? ⟨pb,3,none⟩=some (.slice (some ⟨gb,0,none⟩) N cap):=cO hp5.1 3 _ rfl
   have fx:=fO hgc5 (out.length*3+2)
   have lpb:=ltb hp5.1
   have ne1:pb≠gb:=ne_blk hp5.1 hgc5 (by simp)
   have ne2:gb≠pb:=ne1.symm
   have H5:=a2_ hp5 hq9
   clear hp5 hgc5 hN hq9
   go_wp2_with fail
   go_region_held3 (fun w'=>w'.cell? ⟨pb,2,none⟩=some (.int .i64 (f1))∧w'.cell? ⟨pb,3,none⟩=some (.slice (some ⟨gb,0,none⟩) N cap))
    (first | (go_keep;done))
    (fail)
   have hcl:=PStx.close (e2:=f1) H5.out.1 ((Kp.refl No wr).drew)
   refine bodyPost_end (v:=.tuple #[]) (by simp [results,Tryz.results13,go_sem]) rfl ⟨⟨_,rfl⟩,p,l,f1,HPQ.out,HG.out.1,?_,H5.out.2.trans hcl.2⟩
   have h9:=hcl.1
   rw [← HPQ.out] at h9
   exact h9
theorem node_varg (its:List It) (hF:∀ d∈its,ItC d) (w:World) (B base pb:Nat) (g at_:List Int) (e:Int) (out:List Pl) (q:Option Addr) (c:Nat) (hp:PSt w base pb g at_ e out) (hL:Ls w B (.slice q its.length c) (its.map It.nd)) (hB:B≤base)
 (b1:1≤e) (b2:e+16777216*(1+Nd.sizeL (its.map It.nd))≤1125899906842624) (b3:at_.length+8*(1+Nd.sizeL (its.map It.nd))≤1048576) (b4:out.length+4*(1+Nd.sizeL (its.map It.nd))≤1048575) (hs:Nd.shortL (its.map It.nd)) :
 Calls Tryz.prog 13 #[.pointer (some ⟨pb,0,none⟩),.agg #[.string ⟨#[100,101,99,108,97,114,101,32,118,97,114]⟩,.string ⟨#[103,114,111,117,112]⟩,.slice q its.length c]] w fun e' w'=>(∃ v,e'=.returned v)∧∃ p o l f1 cc ,p=e+gapOf g at_.length∧p+1≤o∧o≤p+1100∧ItsG (o+1) its l f1∧f1≤cc∧cc≤f1+1000∧PSt w' base pb g (at_++(p::o::(itsToks l++[cc]))) (cc+1) (out++⟨⟨#[100,101,99,108,97,114,101,32,118,97,114]⟩,p,cc+1⟩::itsPre l)∧Kq base w w':=by
 have hbs:=hp.size
 have hsh:=its_short _ hs
 obtain ⟨_,_,he,hc,_⟩:=id hL
 have hlen4:its.length≤Nd.sizeL (its.map It.nd):=by have:=Nd.length_le (its.map It.nd);simpa using this
 have HL:=hd_ hL;have HP:=hd_ hp;have HF:=hd_ hF;have HSH:=hd_ hsh
 have hgap:=gapOf_le g at_.length
 clear hp hL hF hsh hs he hc
 go_enter Tryz.func13,Tryz.ntmps13
 have hk0:Kp No w (w.alloc (.cells #[.string ⟨#[100,101,99,108,97,114,101,32,118,97,114]⟩,.string ⟨#[103,114,111,117,112]⟩,.slice q its.length c] 24 (0,0))):=(Kp.refl No w).alloc _
 have hp0:=HP.out.on hk0 (by simp)
 have hx0:=newOf w (.cells #[.string ⟨#[100,101,99,108,97,114,101,32,118,97,114]⟩,.string ⟨#[103,114,111,117,112]⟩,.slice q its.length c] 24 (0,0))
 generalize hw0:w.alloc (.cells #[.string ⟨#[100,101,99,108,97,114,101,32,118,97,114]⟩,.string ⟨#[103,114,111,117,112]⟩,.slice q its.length c] 24 (0,0))=w0 at hk0 hp0 hx0
 have xs0:w0.heap.size > w.heap.size:=ltb hx0
 have x0:=cO hx0 0 _ rfl
 have x1:=cO hx0 1 _ rfl
 have x2:=cO hx0 2 _ rfl
 have HS0:=a3_ hp0 hk0 hx0
 clear hp0 hk0 hx0
 go_wp2_with fail
 try rw [hw0]
 clear hw0
 refine (open_c w0 base pb g at_ e out ⟨#[100,101,99,108,97,114,101,32,118,97,114]⟩ ⟨#[103,114,111,117,112]⟩ _ HS0.out.1 (by omega) (by omega) (by omega) ⟨_,_,_,rfl⟩).mono ?_
 rintro e1 w1 ⟨rfl,hp1,hr1⟩
 have hx1:=hr1.kn w.heap.size _ _ _ HS0.out.2.2 (by decide) (by decide) (by decide)
 have hq1:=(Kq.of_no HS0.out.2.1).trans hr1
 have xs1:=ltb hx1
 have y0:=cO hx1 0 _ rfl
 have y1:=cO hx1 1 _ rfl
 have y2:=cO hx1 2 _ rfl
 have H1:=a3_ hp1 hq1 hx1
 clear hp1 hr1 hx1 hq1 x0 x1 x2
 go_wp2_with fail
 have ka1:Kp No w1 (w1.alloc (.cells #[.string ⟨#[118,97,114]⟩] 9 (0,0))):=(Kp.refl No w1).alloc _
 refine (tok1_c _ base pb _ 1 g _ _ _ ⟨#[118,97,114]⟩ (H1.out.1.on ka1 (by simp)) (newOf w1 _) rfl (by decide) (by omega) (by omega) (by omega)).mono ?_
 rintro e2 w2 ⟨⟨v2,rfl⟩,p,hpq,hp2,hr2⟩
 have hzw:((⟨#[118,97,114]⟩:ByteArray)).size=3:=rfl
 rw [hzw] at hp2
 have hx2:=hr2.kn w.heap.size _ _ _ (ka1.at H1.out.2.2 (by simp)) (by decide) (by decide) (by decide)
 have hq2:=(H1.out.2.1.no ka1).trans hr2
 have xs2:=ltb hx2
 have z0:=cO hx2 0 _ rfl
 have z1:=cO hx2 1 _ rfl
 have z2:=cO hx2 2 _ rfl
 have hpb:e≤p∧p≤e+1000:=by rw [hpq];omega
 have H2:=a3_ hp2 hq2 hx2
 have HPQ:=hd_ hpq
 clear hp2 hr2 hx2 hq2 ka1 hpq y0 y1 y2
 go_wp2_with fail
 have ka2:Kp No w2 (w2.alloc (.cells #[.string ⟨#[40]⟩] 9 (0,0))):=(Kp.refl No w2).alloc _
 refine (tok1_c _ base pb _ 1 g _ _ _ ⟨#[40]⟩ (H2.out.1.on ka2 (by simp)) (newOf w2 _) rfl (by decide) (by omega) (by omega) (by simp only [la_,lc_,ln_,lm_];omega)).mono ?_
 rintro e3 w3 ⟨⟨v3,rfl⟩,o,hoq,hp3,hr3⟩
 have hgo:=gapOf_le g (at_++[p]).length
 have hob:p+1≤o∧o≤p+1100:=by rw [hoq];constructor <;> omega
 have hzo:((⟨#[40]⟩:ByteArray)).size=1:=rfl
 rw [hzo] at hp3
 have hx3:=hr3.kn w.heap.size _ _ _ (ka2.at H2.out.2.2 (by simp)) (by decide) (by decide) (by decide)
 have hq3:=(H2.out.2.1.no ka2).trans hr3
 have xs3:=ltb hx3
 have u0:=cO hx3 0 _ rfl
 have u1:=cO hx3 1 _ rfl
 have u2:=cO hx3 2 _ rfl
 have HL0:Hid (PSt w3 base pb g (at_++(p::o::itsToks [])) (o+1) (out++⟨⟨#[100,101,99,108,97,114,101,32,118,97,114]⟩,e+gapOf g at_.length,0⟩::itsPre [])∧Kq base w w3∧w3.heap[w.heap.size]?=some (.cells #[.string ⟨#[100,101,99,108,97,114,101,32,118,97,114]⟩,.string ⟨#[103,114,111,117,112]⟩,.slice q its.length c] 24 (0,0))):=⟨by simpa [itsToks,itsPre,aa_] using hp3,hq3,hx3⟩
 clear hp3 hr3 hx3 hq3 ka2 hoq z0 z1 z2
 go_wp2_with fail
 go_loopw [10,181] (fun _ i wr=>∃ k:Nat,k≤its.length∧i=.int .i64 k∧Kq base w wr∧wr.heap[w.heap.size]?=some (.cells #[.string ⟨#[100,101,99,108,97,114,101,32,118,97,114]⟩,.string ⟨#[103,114,111,117,112]⟩,.slice q its.length c] 24 (0,0))∧∃ l f1,ItsG (o+1) (its.take k) l f1∧PSt wr base pb g (at_++(p::o::itsToks l)) f1 (out++⟨⟨#[100,101,99,108,97,114,101,32,118,97,114]⟩,e+gapOf g at_.length,0⟩::itsPre l)) (fun _ i _=>its.length - (intOf i).toNat)
 case atStart=>exact ⟨0,Nat.zero_le _,rfl,HL0.out.2.1,HL0.out.2.2,[],o+1,ItsG.zero _,HL0.out.1⟩
 case round =>
  obtain ⟨k,hk,rfl,hq,hbx,l,f1,hg,hp⟩:=hrel
  by_cases hlt:k < its.length
  ·obtain ⟨d,hd⟩:∃ d,its[k]?=some d:=⟨_,List.getElem?_eq_getElem hlt⟩
   have hdn:(its.map It.nd)[k]?=some d.nd:=by rw [List.getElem?_map,hd];rfl
   have htk:its.take (k+1)=its.take k++[d]:=by rw [List.take_add_one,hd];rfl
   have hdm:=List.mem_of_getElem? hd
   have hsz:=sizeL_take_le hdn
   rw [← List.map_take] at hsz
   have hf:=hg.fin;have hle:=hg.le;have htl:=hg.tk;have hpl:=hg.pl
   have hzs:=hq.kp.size
   have hds:=Nd.size_pos d.nd
   obtain ⟨b,oo,c',q',dd,he',_,hb,hi,h1,h2,h3,h4,h5⟩:=(HL.out.stay (w':=wr) (fun i hi=>hq.kp.block i (by omega) (by simp only [Fr];omega))).get (i:=k) hdn
   rw [lm_] at he'
   cases he'
   have HG:=a4_ hg hp hq hbx;have HTK:=hd_ htk;have HIN:=hd_ h4;have HDM:=hd_ hdm
   have HK0:Hid (Kp No wr (wr.alloc (.cells #[.string d.nd.k,.string d.nd.t,.slice q' d.nd.l.length dd] 24 (0,0)))):=(Kp.refl No wr).alloc _
   clear hg hp hq hbx htk h4 hi hd hdn hdm
   go_wp2_with fail
   refine (HF.out d HDM.out _ B base pb g _ f1 _ _ (HG.out.2.1.on HK0.out (by simp)) (HIN.out.stay fun b hb=>Below.heap_alloc _ _ _ (by omega)) hB (by unfold Bnd;simp only [la_,lc_,ln_,lm_];refine ⟨by omega,by omega,by omega,by omega⟩) (HSH.out d HDM.out)).mono ?_
   rintro e3 w4 ⟨⟨v4,rfl⟩,d',hdg,hp4,hq4⟩
   have H3:=a4_ hdg hp4 ((HG.out.2.2.1.no HK0.out).trans hq4) (hq4.kn w.heap.size _ _ _ (HK0.out.at HG.out.2.2.2 (by simp)) (by decide) (by decide) (by decide))
   clear hdg hp4 hq4
   go_wp2_with fail
   go_roundw
   case rel =>
    refine ⟨k+1,by omega,by go_num,H3.out.2.2.1,H3.out.2.2.2,l++[d'],d'.fin,?_,?_⟩
    ·rw [HTK.out];exact HG.out.1.snoc H3.out.1
    ·rw [itsToks_snoc,itsPre_snoc]
     simpa [aa_] using H3.out.2.1
   case measure=>simp [intOf];omega
  ·have hkn:k=its.length:=by omega
   have htake:its.take k=its:=List.take_of_length_le (by omega)
   rw [htake] at hg
   have hf:=hg.fin;have hle:=hg.le;have htl:=hg.tk;have hpl:=hg.pl
   have t0:=cO hbx 0 _ rfl
   have t1:=cO hbx 1 _ rfl
   have t2:=cO hbx 2 _ rfl
   have xbx:=ltb hbx
   have HG:=a3_ hg hp hq
   clear hg hp hq htake hbx
   go_wp2_with fail
   have ka4:Kp No wr (wr.alloc (.cells #[.string ⟨#[41]⟩] 9 (0,0))):=(Kp.refl No wr).alloc _
   refine (tok1_c _ base pb _ 1 g _ f1 _ ⟨#[41]⟩ (HG.out.2.1.on ka4 (by simp)) (newOf wr _) rfl (by decide) (by omega) (by omega) (by simp only [la_,lc_,ln_,lm_];omega)).mono ?_
   rintro e5 w5 ⟨⟨v5,rfl⟩,cc,hcq,hp9,hr9⟩
   have hgc:=gapOf_le g (at_++p::o::itsToks l).length
   have hcc:f1≤cc∧cc≤f1+1000:=by rw [hcq];omega
   have hz9:((⟨#[41]⟩:ByteArray)).size=1:=rfl
   rw [hz9] at hp9
   have hq9:=(HG.out.2.2.no ka4).trans hr9
   have hp9:PSt w5 base pb g (at_++(p::o::(itsToks l++[cc]))) (cc+1) (out++⟨⟨#[100,101,99,108,97,114,101,32,118,97,114]⟩,e+gapOf g at_.length,0⟩::itsPre l):=by simpa [aa_] using hp9
   clear hr9 ka4 hcq
   obtain ⟨gv,av,ov,hp5⟩:=hp9
   have hp5:PStx w5 base pb g (at_++(p::o::(itsToks l++[cc]))) (cc+1) (out++⟨⟨#[100,101,99,108,97,114,101,32,118,97,114]⟩,e+gapOf g at_.length,0⟩::itsPre l) gv av ov:=hp5
   obtain ⟨gb,cap,hov,_,_,hlt5,lgb,_,_,xx2⟩:=hp5.2.2.2.1.get (i:=out.length) (p:=⟨⟨#[100,101,99,108,97,114,101,32,118,97,114]⟩,e+gapOf g at_.length,0⟩) (by simp)
   obtain ⟨N,hN⟩:∃ N,N=(out++(⟨⟨#[100,101,99,108,97,114,101,32,118,97,114]⟩,e+gapOf g at_.length,0⟩:Pl)::itsPre l).length:=⟨_,rfl⟩
   rw [← hN] at hov hlt5
   subst hov
   obtain ⟨_,cur,hgc5⟩:=hp5.2.2.2.1.blk (g:=gb) rfl
   have cc2:w5.cell? ⟨pb,2,none⟩=some (.int .i64 (cc+1)):=cO hp5.1 2 _ rfl
   have cc3:w5.cell? ⟨pb,3,none⟩=some (.slice (some ⟨gb,0,none⟩) N cap):=cO hp5.1 3 _ rfl
   have fx:=fO hgc5 (out.length*3+2)
   have lpb:=ltb hp5.1
   have ne1:pb≠gb:=ne_blk hp5.1 hgc5 (by simp)
   have ne2:gb≠pb:=ne1.symm
   have H5:=a2_ hp5 hq9
   clear hp5 hgc5 hN hq9
   go_wp2_with fail
   go_region_held3 (fun w'=>w'.cell? ⟨pb,2,none⟩=some (.int .i64 (cc+1))∧w'.cell? ⟨pb,3,none⟩=some (.slice (some ⟨gb,0,none⟩) N cap))
    (first | (go_keep;done))
    (fail)
   have hcl:=PStx.close (e2:=cc+1) H5.out.1 ((Kp.refl No w5).drew)
   refine bodyPost_end (v:=.tuple #[]) (by simp [results,Tryz.results13,go_sem]) rfl ⟨⟨_,rfl⟩,p,o,l,f1,cc,HPQ.out,hob.1,hob.2,HG.out.1,hcc.1,hcc.2,?_,H5.out.2.trans hcl.2⟩
   have h9:=hcl.1
   rw [← HPQ.out] at h9
   exact h9
theorem node_typo (its:List It) (hF:∀ d∈its,ItC d) (w:World) (B base pb:Nat) (g at_:List Int) (e:Int) (out:List Pl) (q:Option Addr) (c:Nat) (hp:PSt w base pb g at_ e out) (hL:Ls w B (.slice q its.length c) (its.map It.nd)) (hB:B≤base)
 (b1:1≤e) (b2:e+16777216*(1+Nd.sizeL (its.map It.nd))≤1125899906842624) (b3:at_.length+8*(1+Nd.sizeL (its.map It.nd))≤1048576) (b4:out.length+4*(1+Nd.sizeL (its.map It.nd))≤1048575) (hs:Nd.shortL (its.map It.nd)) :
 Calls Tryz.prog 13 #[.pointer (some ⟨pb,0,none⟩),.agg #[.string ⟨#[100,101,99,108,97,114,101,32,116,121,112,101]⟩,.string ⟨#[]⟩,.slice q its.length c]] w fun e' w'=>(∃ v,e'=.returned v)∧∃ p l f1 ,p=e+gapOf g at_.length∧ItsG (p+4) its l f1∧PSt w' base pb g (at_++(p::itsToks l)) f1 (out++⟨⟨#[100,101,99,108,97,114,101,32,116,121,112,101]⟩,p,f1⟩::itsPre l)∧Kq base w w':=by
 have hbs:=hp.size
 have hsh:=its_short _ hs
 obtain ⟨_,_,he,hc,_⟩:=id hL
 have hlen4:its.length≤Nd.sizeL (its.map It.nd):=by have:=Nd.length_le (its.map It.nd);simpa using this
 have HL:=hd_ hL;have HP:=hd_ hp;have HF:=hd_ hF;have HSH:=hd_ hsh
 have hgap:=gapOf_le g at_.length
 clear hp hL hF hsh hs he hc
 go_enter Tryz.func13,Tryz.ntmps13
 have hk0:Kp No w (w.alloc (.cells #[.string ⟨#[100,101,99,108,97,114,101,32,116,121,112,101]⟩,.string ⟨#[]⟩,.slice q its.length c] 24 (0,0))):=(Kp.refl No w).alloc _
 have hp0:=HP.out.on hk0 (by simp)
 have hx0:=newOf w (.cells #[.string ⟨#[100,101,99,108,97,114,101,32,116,121,112,101]⟩,.string ⟨#[]⟩,.slice q its.length c] 24 (0,0))
 generalize hw0:w.alloc (.cells #[.string ⟨#[100,101,99,108,97,114,101,32,116,121,112,101]⟩,.string ⟨#[]⟩,.slice q its.length c] 24 (0,0))=w0 at hk0 hp0 hx0
 have xs0:w0.heap.size > w.heap.size:=ltb hx0
 have x0:=cO hx0 0 _ rfl
 have x1:=cO hx0 1 _ rfl
 have x2:=cO hx0 2 _ rfl
 have HS0:=a3_ hp0 hk0 hx0
 clear hp0 hk0 hx0
 go_wp2_with fail
 try rw [hw0]
 clear hw0
 refine (open_c w0 base pb g at_ e out ⟨#[100,101,99,108,97,114,101,32,116,121,112,101]⟩ ⟨#[]⟩ _ HS0.out.1 (by omega) (by omega) (by omega) ⟨_,_,_,rfl⟩).mono ?_
 rintro e1 w1 ⟨rfl,hp1,hr1⟩
 have hx1:=hr1.kn w.heap.size _ _ _ HS0.out.2.2 (by decide) (by decide) (by decide)
 have hq1:=(Kq.of_no HS0.out.2.1).trans hr1
 have xs1:=ltb hx1
 have y0:=cO hx1 0 _ rfl
 have y1:=cO hx1 1 _ rfl
 have y2:=cO hx1 2 _ rfl
 have H1:=a3_ hp1 hq1 hx1
 clear hp1 hr1 hx1 hq1 x0 x1 x2
 go_wp2_with fail
 have ka1:Kp No w1 (w1.alloc (.cells #[.string ⟨#[116,121,112,101]⟩] 9 (0,0))):=(Kp.refl No w1).alloc _
 refine (tok1_c _ base pb _ 1 g _ _ _ ⟨#[116,121,112,101]⟩ (H1.out.1.on ka1 (by simp)) (newOf w1 _) rfl (by decide) (by omega) (by omega) (by omega)).mono ?_
 rintro e2 w2 ⟨⟨v2,rfl⟩,p,hpq,hp2,hr2⟩
 have hzw:((⟨#[116,121,112,101]⟩:ByteArray)).size=4:=rfl
 rw [hzw] at hp2
 have hx2:=hr2.kn w.heap.size _ _ _ (ka1.at H1.out.2.2 (by simp)) (by decide) (by decide) (by decide)
 have hq2:=(H1.out.2.1.no ka1).trans hr2
 have xs2:=ltb hx2
 have z0:=cO hx2 0 _ rfl
 have z1:=cO hx2 1 _ rfl
 have z2:=cO hx2 2 _ rfl
 have hpb:e≤p∧p≤e+1000:=by rw [hpq];omega
 have H2:=a3_ hp2 hq2 hx2
 have HPQ:=hd_ hpq
 clear hp2 hr2 hx2 hq2 ka1 hpq y0 y1 y2
 have HL0:Hid (PSt w2 base pb g (at_++(p::itsToks [])) (p+4) (out++⟨⟨#[100,101,99,108,97,114,101,32,116,121,112,101]⟩,e+gapOf g at_.length,0⟩::itsPre [])∧Kq base w w2∧w2.heap[w.heap.size]?=some (.cells #[.string ⟨#[100,101,99,108,97,114,101,32,116,121,112,101]⟩,.string ⟨#[]⟩,.slice q its.length c] 24 (0,0))):=⟨by simpa [itsToks,itsPre,aa_] using H2.out.1,H2.out.2.1,H2.out.2.2⟩
 go_wp2_with fail
 go_loopw [10,181] (fun _ i wr=>∃ k:Nat,k≤its.length∧i=.int .i64 k∧Kq base w wr∧wr.heap[w.heap.size]?=some (.cells #[.string ⟨#[100,101,99,108,97,114,101,32,116,121,112,101]⟩,.string ⟨#[]⟩,.slice q its.length c] 24 (0,0))∧∃ l f1,ItsG (p+4) (its.take k) l f1∧PSt wr base pb g (at_++(p::itsToks l)) f1 (out++⟨⟨#[100,101,99,108,97,114,101,32,116,121,112,101]⟩,e+gapOf g at_.length,0⟩::itsPre l)) (fun _ i _=>its.length - (intOf i).toNat)
 case atStart=>exact ⟨0,Nat.zero_le _,rfl,HL0.out.2.1,HL0.out.2.2,[],p+4,ItsG.zero _,HL0.out.1⟩
 case round =>
  obtain ⟨k,hk,rfl,hq,hbx,l,f1,hg,hp⟩:=hrel
  by_cases hlt:k < its.length
  ·obtain ⟨d,hd⟩:∃ d,its[k]?=some d:=⟨_,List.getElem?_eq_getElem hlt⟩
   have hdn:(its.map It.nd)[k]?=some d.nd:=by rw [List.getElem?_map,hd];rfl
   have htk:its.take (k+1)=its.take k++[d]:=by rw [List.take_add_one,hd];rfl
   have hdm:=List.mem_of_getElem? hd
   have hsz:=sizeL_take_le hdn
   rw [← List.map_take] at hsz
   have hf:=hg.fin;have hle:=hg.le;have htl:=hg.tk;have hpl:=hg.pl
   have hzs:=hq.kp.size
   have hds:=Nd.size_pos d.nd
   obtain ⟨b,oo,c',q',dd,he',_,hb,hi,h1,h2,h3,h4,h5⟩:=(HL.out.stay (w':=wr) (fun i hi=>hq.kp.block i (by omega) (by simp only [Fr];omega))).get (i:=k) hdn
   rw [lm_] at he'
   cases he'
   have HG:=a4_ hg hp hq hbx;have HTK:=hd_ htk;have HIN:=hd_ h4;have HDM:=hd_ hdm
   have HK0:Hid (Kp No wr (wr.alloc (.cells #[.string d.nd.k,.string d.nd.t,.slice q' d.nd.l.length dd] 24 (0,0)))):=(Kp.refl No wr).alloc _
   clear hg hp hq hbx htk h4 hi hd hdn hdm
   go_wp2_with fail
   refine (HF.out d HDM.out _ B base pb g _ f1 _ _ (HG.out.2.1.on HK0.out (by simp)) (HIN.out.stay fun b hb=>Below.heap_alloc _ _ _ (by omega)) hB (by unfold Bnd;simp only [la_,lc_,ln_,lm_];refine ⟨by omega,by omega,by omega,by omega⟩) (HSH.out d HDM.out)).mono ?_
   rintro e3 w4 ⟨⟨v4,rfl⟩,d',hdg,hp4,hq4⟩
   have H3:=a4_ hdg hp4 ((HG.out.2.2.1.no HK0.out).trans hq4) (hq4.kn w.heap.size _ _ _ (HK0.out.at HG.out.2.2.2 (by simp)) (by decide) (by decide) (by decide))
   clear hdg hp4 hq4
   go_wp2_with fail
   go_roundw
   case rel =>
    refine ⟨k+1,by omega,by go_num,H3.out.2.2.1,H3.out.2.2.2,l++[d'],d'.fin,?_,?_⟩
    ·rw [HTK.out];exact HG.out.1.snoc H3.out.1
    ·rw [itsToks_snoc,itsPre_snoc]
     simpa [aa_] using H3.out.2.1
   case measure=>simp [intOf];omega
  ·have hkn:k=its.length:=by omega
   have htake:its.take k=its:=List.take_of_length_le (by omega)
   rw [htake] at hg
   have hf:=hg.fin;have hle:=hg.le;have htl:=hg.tk;have hpl:=hg.pl
   have t0:=cO hbx 0 _ rfl
   have t1:=cO hbx 1 _ rfl
   have t2:=cO hbx 2 _ rfl
   have xbx:=ltb hbx
   have HG:=a3_ hg hp hq
   clear hg hp hq htake hbx
   have hp9:=HG.out.2.1
   have hq9:=HG.out.2.2
   obtain ⟨gv,av,ov,hp5⟩:=hp9
   have hp5:PStx wr base pb g (at_++(p::itsToks l)) (f1) (out++⟨⟨#[100,101,99,108,97,114,101,32,116,121,112,101]⟩,e+gapOf g at_.length,0⟩::itsPre l) gv av ov:=hp5
   obtain ⟨gb,cap,hov,_,_,hlt5,lgb,_,_,xx2⟩:=hp5.2.2.2.1.get (i:=out.length) (p:=⟨⟨#[100,101,99,108,97,114,101,32,116,121,112,101]⟩,e+gapOf g at_.length,0⟩) (by simp)
   obtain ⟨N,hN⟩:∃ N,N=(out++(⟨⟨#[100,101,99,108,97,114,101,32,116,121,112,101]⟩,e+gapOf g at_.length,0⟩:Pl)::itsPre l).length:=⟨_,rfl⟩
   rw [← hN] at hov hlt5
   subst hov
   obtain ⟨_,cur,hgc5⟩:=hp5.2.2.2.1.blk (g:=gb) rfl
   have cc2:wr.cell? ⟨pb,2,none⟩=some (.int .i64 (f1)):=cO hp5.1 2 _ rfl
   have cc3:wr.cell? ⟨pb,3,none⟩=some (.slice (some ⟨gb,0,none⟩) N cap):=cO hp5.1 3 _ rfl
   have fx:=fO hgc5 (out.length*3+2)
   have lpb:=ltb hp5.1
   have ne1:pb≠gb:=ne_blk hp5.1 hgc5 (by simp)
   have ne2:gb≠pb:=ne1.symm
   have H5:=a2_ hp5 hq9
   clear hp5 hgc5 hN hq9
   go_wp2_with fail
   go_region_held3 (fun w'=>w'.cell? ⟨pb,2,none⟩=some (.int .i64 (f1))∧w'.cell? ⟨pb,3,none⟩=some (.slice (some ⟨gb,0,none⟩) N cap))
    (first | (go_keep;done))
    (fail)
   have hcl:=PStx.close (e2:=f1) H5.out.1 ((Kp.refl No wr).drew)
   refine bodyPost_end (v:=.tuple #[]) (by simp [results,Tryz.results13,go_sem]) rfl ⟨⟨_,rfl⟩,p,l,f1,HPQ.out,HG.out.1,?_,H5.out.2.trans hcl.2⟩
   have h9:=hcl.1
   rw [← HPQ.out] at h9
   exact h9
theorem node_typg (its:List It) (hF:∀ d∈its,ItC d) (w:World) (B base pb:Nat) (g at_:List Int) (e:Int) (out:List Pl) (q:Option Addr) (c:Nat) (hp:PSt w base pb g at_ e out) (hL:Ls w B (.slice q its.length c) (its.map It.nd)) (hB:B≤base)
 (b1:1≤e) (b2:e+16777216*(1+Nd.sizeL (its.map It.nd))≤1125899906842624) (b3:at_.length+8*(1+Nd.sizeL (its.map It.nd))≤1048576) (b4:out.length+4*(1+Nd.sizeL (its.map It.nd))≤1048575) (hs:Nd.shortL (its.map It.nd)) :
 Calls Tryz.prog 13 #[.pointer (some ⟨pb,0,none⟩),.agg #[.string ⟨#[100,101,99,108,97,114,101,32,116,121,112,101]⟩,.string ⟨#[103,114,111,117,112]⟩,.slice q its.length c]] w fun e' w'=>(∃ v,e'=.returned v)∧∃ p o l f1 cc ,p=e+gapOf g at_.length∧p+1≤o∧o≤p+1100∧ItsG (o+1) its l f1∧f1≤cc∧cc≤f1+1000∧PSt w' base pb g (at_++(p::o::(itsToks l++[cc]))) (cc+1) (out++⟨⟨#[100,101,99,108,97,114,101,32,116,121,112,101]⟩,p,cc+1⟩::itsPre l)∧Kq base w w':=by
 have hbs:=hp.size
 have hsh:=its_short _ hs
 obtain ⟨_,_,he,hc,_⟩:=id hL
 have hlen4:its.length≤Nd.sizeL (its.map It.nd):=by have:=Nd.length_le (its.map It.nd);simpa using this
 have HL:=hd_ hL;have HP:=hd_ hp;have HF:=hd_ hF;have HSH:=hd_ hsh
 have hgap:=gapOf_le g at_.length
 clear hp hL hF hsh hs he hc
 go_enter Tryz.func13,Tryz.ntmps13
 have hk0:Kp No w (w.alloc (.cells #[.string ⟨#[100,101,99,108,97,114,101,32,116,121,112,101]⟩,.string ⟨#[103,114,111,117,112]⟩,.slice q its.length c] 24 (0,0))):=(Kp.refl No w).alloc _
 have hp0:=HP.out.on hk0 (by simp)
 have hx0:=newOf w (.cells #[.string ⟨#[100,101,99,108,97,114,101,32,116,121,112,101]⟩,.string ⟨#[103,114,111,117,112]⟩,.slice q its.length c] 24 (0,0))
 generalize hw0:w.alloc (.cells #[.string ⟨#[100,101,99,108,97,114,101,32,116,121,112,101]⟩,.string ⟨#[103,114,111,117,112]⟩,.slice q its.length c] 24 (0,0))=w0 at hk0 hp0 hx0
 have xs0:w0.heap.size > w.heap.size:=ltb hx0
 have x0:=cO hx0 0 _ rfl
 have x1:=cO hx0 1 _ rfl
 have x2:=cO hx0 2 _ rfl
 have HS0:=a3_ hp0 hk0 hx0
 clear hp0 hk0 hx0
 go_wp2_with fail
 try rw [hw0]
 clear hw0
 refine (open_c w0 base pb g at_ e out ⟨#[100,101,99,108,97,114,101,32,116,121,112,101]⟩ ⟨#[103,114,111,117,112]⟩ _ HS0.out.1 (by omega) (by omega) (by omega) ⟨_,_,_,rfl⟩).mono ?_
 rintro e1 w1 ⟨rfl,hp1,hr1⟩
 have hx1:=hr1.kn w.heap.size _ _ _ HS0.out.2.2 (by decide) (by decide) (by decide)
 have hq1:=(Kq.of_no HS0.out.2.1).trans hr1
 have xs1:=ltb hx1
 have y0:=cO hx1 0 _ rfl
 have y1:=cO hx1 1 _ rfl
 have y2:=cO hx1 2 _ rfl
 have H1:=a3_ hp1 hq1 hx1
 clear hp1 hr1 hx1 hq1 x0 x1 x2
 go_wp2_with fail
 have ka1:Kp No w1 (w1.alloc (.cells #[.string ⟨#[116,121,112,101]⟩] 9 (0,0))):=(Kp.refl No w1).alloc _
 refine (tok1_c _ base pb _ 1 g _ _ _ ⟨#[116,121,112,101]⟩ (H1.out.1.on ka1 (by simp)) (newOf w1 _) rfl (by decide) (by omega) (by omega) (by omega)).mono ?_
 rintro e2 w2 ⟨⟨v2,rfl⟩,p,hpq,hp2,hr2⟩
 have hzw:((⟨#[116,121,112,101]⟩:ByteArray)).size=4:=rfl
 rw [hzw] at hp2
 have hx2:=hr2.kn w.heap.size _ _ _ (ka1.at H1.out.2.2 (by simp)) (by decide) (by decide) (by decide)
 have hq2:=(H1.out.2.1.no ka1).trans hr2
 have xs2:=ltb hx2
 have z0:=cO hx2 0 _ rfl
 have z1:=cO hx2 1 _ rfl
 have z2:=cO hx2 2 _ rfl
 have hpb:e≤p∧p≤e+1000:=by rw [hpq];omega
 have H2:=a3_ hp2 hq2 hx2
 have HPQ:=hd_ hpq
 clear hp2 hr2 hx2 hq2 ka1 hpq y0 y1 y2
 go_wp2_with fail
 have ka2:Kp No w2 (w2.alloc (.cells #[.string ⟨#[40]⟩] 9 (0,0))):=(Kp.refl No w2).alloc _
 refine (tok1_c _ base pb _ 1 g _ _ _ ⟨#[40]⟩ (H2.out.1.on ka2 (by simp)) (newOf w2 _) rfl (by decide) (by omega) (by omega) (by simp only [la_,lc_,ln_,lm_];omega)).mono ?_
 rintro e3 w3 ⟨⟨v3,rfl⟩,o,hoq,hp3,hr3⟩
 have hgo:=gapOf_le g (at_++[p]).length
 have hob:p+1≤o∧o≤p+1100:=by rw [hoq];constructor <;> omega
 have hzo:((⟨#[40]⟩:ByteArray)).size=1:=rfl
 rw [hzo] at hp3
 have hx3:=hr3.kn w.heap.size _ _ _ (ka2.at H2.out.2.2 (by simp)) (by decide) (by decide) (by decide)
 have hq3:=(H2.out.2.1.no ka2).trans hr3
 have xs3:=ltb hx3
 have u0:=cO hx3 0 _ rfl
 have u1:=cO hx3 1 _ rfl
 have u2:=cO hx3 2 _ rfl
 have HL0:Hid (PSt w3 base pb g (at_++(p::o::itsToks [])) (o+1) (out++⟨⟨#[100,101,99,108,97,114,101,32,116,121,112,101]⟩,e+gapOf g at_.length,0⟩::itsPre [])∧Kq base w w3∧w3.heap[w.heap.size]?=some (.cells #[.string ⟨#[100,101,99,108,97,114,101,32,116,121,112,101]⟩,.string ⟨#[103,114,111,117,112]⟩,.slice q its.length c] 24 (0,0))):=⟨by simpa [itsToks,itsPre,aa_] using hp3,hq3,hx3⟩
 clear hp3 hr3 hx3 hq3 ka2 hoq z0 z1 z2
 go_wp2_with fail
 go_loopw [10,181] (fun _ i wr=>∃ k:Nat,k≤its.length∧i=.int .i64 k∧Kq base w wr∧wr.heap[w.heap.size]?=some (.cells #[.string ⟨#[100,101,99,108,97,114,101,32,116,121,112,101]⟩,.string ⟨#[103,114,111,117,112]⟩,.slice q its.length c] 24 (0,0))∧∃ l f1,ItsG (o+1) (its.take k) l f1∧PSt wr base pb g (at_++(p::o::itsToks l)) f1 (out++⟨⟨#[100,101,99,108,97,114,101,32,116,121,112,101]⟩,e+gapOf g at_.length,0⟩::itsPre l)) (fun _ i _=>its.length - (intOf i).toNat)
 case atStart=>exact ⟨0,Nat.zero_le _,rfl,HL0.out.2.1,HL0.out.2.2,[],o+1,ItsG.zero _,HL0.out.1⟩
 case round =>
  obtain ⟨k,hk,rfl,hq,hbx,l,f1,hg,hp⟩:=hrel
  by_cases hlt:k < its.length
  ·obtain ⟨d,hd⟩:∃ d,its[k]?=some d:=⟨_,List.getElem?_eq_getElem hlt⟩
   have hdn:(its.map It.nd)[k]?=some d.nd:=by rw [List.getElem?_map,hd];rfl
   have htk:its.take (k+1)=its.take k++[d]:=by rw [List.take_add_one,hd];rfl
   have hdm:=List.mem_of_getElem? hd
   have hsz:=sizeL_take_le hdn
   rw [← List.map_take] at hsz
   have hf:=hg.fin;have hle:=hg.le;have htl:=hg.tk;have hpl:=hg.pl
   have hzs:=hq.kp.size
   have hds:=Nd.size_pos d.nd
   obtain ⟨b,oo,c',q',dd,he',_,hb,hi,h1,h2,h3,h4,h5⟩:=(HL.out.stay (w':=wr) (fun i hi=>hq.kp.block i (by omega) (by simp only [Fr];omega))).get (i:=k) hdn
   rw [lm_] at he'
   cases he'
   have HG:=a4_ hg hp hq hbx;have HTK:=hd_ htk;have HIN:=hd_ h4;have HDM:=hd_ hdm
   have HK0:Hid (Kp No wr (wr.alloc (.cells #[.string d.nd.k,.string d.nd.t,.slice q' d.nd.l.length dd] 24 (0,0)))):=(Kp.refl No wr).alloc _
   clear hg hp hq hbx htk h4 hi hd hdn hdm
   go_wp2_with fail
   refine (HF.out d HDM.out _ B base pb g _ f1 _ _ (HG.out.2.1.on HK0.out (by simp)) (HIN.out.stay fun b hb=>Below.heap_alloc _ _ _ (by omega)) hB (by unfold Bnd;simp only [la_,lc_,ln_,lm_];refine ⟨by omega,by omega,by omega,by omega⟩) (HSH.out d HDM.out)).mono ?_
   rintro e3 w4 ⟨⟨v4,rfl⟩,d',hdg,hp4,hq4⟩
   have H3:=a4_ hdg hp4 ((HG.out.2.2.1.no HK0.out).trans hq4) (hq4.kn w.heap.size _ _ _ (HK0.out.at HG.out.2.2.2 (by simp)) (by decide) (by decide) (by decide))
   clear hdg hp4 hq4
   go_wp2_with fail
   go_roundw
   case rel =>
    refine ⟨k+1,by omega,by go_num,H3.out.2.2.1,H3.out.2.2.2,l++[d'],d'.fin,?_,?_⟩
    ·rw [HTK.out];exact HG.out.1.snoc H3.out.1
    ·rw [itsToks_snoc,itsPre_snoc]
     simpa [aa_] using H3.out.2.1
   case measure=>simp [intOf];omega
  ·have hkn:k=its.length:=by omega
   have htake:its.take k=its:=List.take_of_length_le (by omega)
   rw [htake] at hg
   have hf:=hg.fin;have hle:=hg.le;have htl:=hg.tk;have hpl:=hg.pl
   have t0:=cO hbx 0 _ rfl
   have t1:=cO hbx 1 _ rfl
   have t2:=cO hbx 2 _ rfl
   have xbx:=ltb hbx
   have HG:=a3_ hg hp hq
   clear hg hp hq htake hbx
   go_wp2_with fail
   have ka4:Kp No wr (wr.alloc (.cells #[.string ⟨#[41]⟩] 9 (0,0))):=(Kp.refl No wr).alloc _
   refine (tok1_c _ base pb _ 1 g _ f1 _ ⟨#[41]⟩ (HG.out.2.1.on ka4 (by simp)) (newOf wr _) rfl (by decide) (by omega) (by omega) (by simp only [la_,lc_,ln_,lm_];omega)).mono ?_
   rintro e5 w5 ⟨⟨v5,rfl⟩,cc,hcq,hp9,hr9⟩
   have hgc:=gapOf_le g (at_++p::o::itsToks l).length
   have hcc:f1≤cc∧cc≤f1+1000:=by rw [hcq];omega
   have hz9:((⟨#[41]⟩:ByteArray)).size=1:=rfl
   rw [hz9] at hp9
   have hq9:=(HG.out.2.2.no ka4).trans hr9
   have hp9:PSt w5 base pb g (at_++(p::o::(itsToks l++[cc]))) (cc+1) (out++⟨⟨#[100,101,99,108,97,114,101,32,116,121,112,101]⟩,e+gapOf g at_.length,0⟩::itsPre l):=by simpa [aa_] using hp9
   clear hr9 ka4 hcq
   obtain ⟨gv,av,ov,hp5⟩:=hp9
   have hp5:PStx w5 base pb g (at_++(p::o::(itsToks l++[cc]))) (cc+1) (out++⟨⟨#[100,101,99,108,97,114,101,32,116,121,112,101]⟩,e+gapOf g at_.length,0⟩::itsPre l) gv av ov:=hp5
   obtain ⟨gb,cap,hov,_,_,hlt5,lgb,_,_,xx2⟩:=hp5.2.2.2.1.get (i:=out.length) (p:=⟨⟨#[100,101,99,108,97,114,101,32,116,121,112,101]⟩,e+gapOf g at_.length,0⟩) (by simp)
   obtain ⟨N,hN⟩:∃ N,N=(out++(⟨⟨#[100,101,99,108,97,114,101,32,116,121,112,101]⟩,e+gapOf g at_.length,0⟩:Pl)::itsPre l).length:=⟨_,rfl⟩
   rw [← hN] at hov hlt5
   subst hov
   obtain ⟨_,cur,hgc5⟩:=hp5.2.2.2.1.blk (g:=gb) rfl
   have cc2:w5.cell? ⟨pb,2,none⟩=some (.int .i64 (cc+1)):=cO hp5.1 2 _ rfl
   have cc3:w5.cell? ⟨pb,3,none⟩=some (.slice (some ⟨gb,0,none⟩) N cap):=cO hp5.1 3 _ rfl
   have fx:=fO hgc5 (out.length*3+2)
   have lpb:=ltb hp5.1
   have ne1:pb≠gb:=ne_blk hp5.1 hgc5 (by simp)
   have ne2:gb≠pb:=ne1.symm
   have H5:=a2_ hp5 hq9
   clear hp5 hgc5 hN hq9
   go_wp2_with fail
   go_region_held3 (fun w'=>w'.cell? ⟨pb,2,none⟩=some (.int .i64 (cc+1))∧w'.cell? ⟨pb,3,none⟩=some (.slice (some ⟨gb,0,none⟩) N cap))
    (first | (go_keep;done))
    (fail)
   have hcl:=PStx.close (e2:=cc+1) H5.out.1 ((Kp.refl No w5).drew)
   refine bodyPost_end (v:=.tuple #[]) (by simp [results,Tryz.results13,go_sem]) rfl ⟨⟨_,rfl⟩,p,o,l,f1,cc,HPQ.out,hob.1,hob.2,HG.out.1,hcc.1,hcc.2,?_,H5.out.2.trans hcl.2⟩
   have h9:=hcl.1
   rw [← HPQ.out] at h9
   exact h9
end
end Go.Proofs.YtnkbglhdpmbgfaaGreatFmt
