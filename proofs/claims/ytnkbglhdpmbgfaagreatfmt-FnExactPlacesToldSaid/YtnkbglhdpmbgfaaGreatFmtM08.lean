/- A part of the proof; no condition: PlH5, PlI, PlJ, PlK, PlL. -/
import Derived.Test.YtnkbglhdpmbgfaaGreatFmtM
import Derived.Test.YtnkbglhdpmbgfaaGreatFmtM07
set_option linter.all false
set_option maxHeartbeats 16000000
set_option maxRecDepth 100000
namespace Go.Proofs.YtnkbglhdpmbgfaaGreatFmt
section
open Go Go.RowKit
theorem field_mcx (c0:Int) (ns:List Nm) (t:Ty) (tp0:Int) (hsg:SigM t) (hne:ns.isEmpty=false) (w:World) (B base pb:Nat) (g at_:List Int) (e:Int) (out:List Pl) (q:Option Addr) (c:Nat) (hp:PSt w base pb g at_ e out) (hin:Nd.In w B (.slice q (ns.length+1) c) (Fd.mk c0 ns t tp0 (⟨#[]⟩:ByteArray)).nd) (hcc:1 < c) (hB:B≤base) (hb:Bnd at_ e out (Fd.mk c0 ns t tp0 (⟨#[]⟩:ByteArray)).nd.size) (hs:(Fd.mk c0 ns t tp0 (⟨#[]⟩:ByteArray)).nd.short) :
 Calls Tryz.prog 56 #[.pointer (some ⟨pb,0,none⟩),.agg #[.string ⟨#[102,105,101,108,100]⟩,.string ⟨#[]⟩,.slice q (ns.length+1) c],.bool true] w fun e' w'=>(∃ v,e'=.returned v)∧∃ d',FdG g at_ e true (Fd.mk c0 ns t tp0 ⟨#[]⟩) d'∧PSt w' base pb g (at_++d'.toks true) (ffin d'.t d'.tp d'.tag) (out++d'.pre)∧Kq base w w':=by
 have hbs:=hp.size
 have hL:=Nd.In_iff.1 hin
 simp only [Fd.nd,fdNd,Nd.l] at hL
 have HL:Hid (Ls w B (.slice q (ns.length+1) c) (t.nd::ns.map Nm.nd)):=hL
 simp only [Fd.nd,fdNd,Nd.size,Nd.sizeL,pnms_size,Bnd] at hb
 simp only [Fd.nd,fdNd,Nd.short,Nd.shortL,List.map_nil] at hs
 obtain ⟨he,b2,b3,b4⟩:=hb
 obtain ⟨htS,hts,hnsS0⟩:=hs
 have hnsS:=nms_short hnsS0
 obtain ⟨b,o,c',q',d,hee,hcl0,hbB,hi,k1,k2,k3,k4,k5⟩:=HL.out.get (i:=0) rfl
 simp only [lc_,ln_,lm_] at hee hcl0
 cases hee
 have HK:=hd_ k4
 simp only [Nat.zero_mul,Nat.add_zero] at k1 k2 k3
 have hbB:b < base:=by omega
 have HP:=hd_ hp
 have hgap:=gapOf_le g at_.length
 have htsz:=Nd.size_pos t.nd
 have HSG:=hd_ hsg
 have hnl:0 < ns.length:=by cases ns with | nil=>simp at hne | cons _ _=>simp
 clear hsg
 clear hp hin hL k4 hi
 go_enter Tryz.func56,Tryz.ntmps56
 go_wp2_with fail
 have hk0:Kp No w (w.alloc (.cells #[.string ⟨#[102,105,101,108,100]⟩,.string ⟨#[]⟩,.slice (some ⟨b,o,none⟩) (ns.length+1) c] 24 (0,0))):=(Kp.refl No w).alloc _
 refine (open_c _ base pb g at_ e out ⟨#[102,105,101,108,100]⟩ ⟨#[]⟩ _ (HP.out.on hk0 (by simp)) (by omega) (by omega) (by omega) ⟨_,_,_,rfl⟩).mono ?_
 rintro e1 w1 ⟨rfl,hp1,hq1⟩
 have hx1:=hq1.kn w.heap.size _ _ _ (newOf w _) (by decide) (by decide) (by decide)
 have hq1:=(Kq.of_no hk0).trans hq1
 have zs1:=hq1.kp.size
 have xs1:=ltb hx1
 have x0:=cO hx1 0 _ rfl;have x1:=cO hx1 1 _ rfl;have x2:=cO hx1 2 _ rfl
 have H1:=a3_ hp1 hq1 hx1
 clear hp1 hq1 hx1 hk0
 go_wp2_with fail
 refine (commas_c ns w1 B base pb g at_ e _ _ H1.out.1 ((Ls.tailn HL.out).stay fun b hb=>H1.out.2.1.kp.block b (by omega) (by simp only [Fr];omega)) hB hnsS (by omega) (by omega) (by omega) (by simp only [la_,lc_,ln_,lm_];omega)).mono ?_
 rintro e2 w2 ⟨⟨v2,rfl⟩,l,f,hlg,hp2,hq2⟩
 have hx2:=hq2.kn w.heap.size _ _ _ H1.out.2.2 (by decide) (by decide) (by decide)
 have hq2:=H1.out.2.1.trans hq2
 have zs2:=hq2.kp.size
 have xs2:=ltb hx2
 have y0:=cO hx2 0 _ rfl;have y1:=cO hx2 1 _ rfl;have y2:=cO hx2 2 _ rfl
 obtain ⟨kk1,kk2,kk3⟩:=cellq hq2 hbB hbs k1 k2 k3
 have hlf:=hlg.fin;have hle:=hlg.le;have hlt:=hlg.tk;have hll:=hlg.len
 have hgp2:=gapOf_le g (at_++nmToks true l).length
 have H2:=a4_ hlg hp2 hq2 hx2
 clear hlg hp2 hq2 hx2 x0 x1 x2
 have hnp:decide (1 < ns.length+1)=true:=decide_eq_true (by omega)
 have hnp2:1 < ns.length+1:=by omega
 obtain ⟨gp,hgp⟩:∃ gp,gp=gapOf g (at_++nmToks true l).length:=⟨_,rfl⟩
 have hgpb:0≤gp∧gp≤1000:=by rw [hgp];exact hgp2
 have hwr:IntKind.i64.wrap (f+gp)=f+gp:=IntWalk.i64_in _ (by omega)
 obtain ⟨gv,av,ov,hpx⟩:=H2.out.2.1
 have hpx:PStx w2 base pb g (at_++nmToks true l) f (out++[⟨⟨#[102,105,101,108,100]⟩,e+gapOf g at_.length,0⟩]++l.map Nm.pl) gv av ov:=hpx
 have cc2:w2.cell? ⟨pb,2,none⟩=some (.int .i64 f):=cO hpx.1 2 _ rfl
 have lpb2:=ltb hpx.1
 clear hpx
 have HGC:Hid (∀ W,Kp No w2 W→Calls Tryz.prog 26 #[.pointer (some ⟨pb,0,none⟩)] W fun e' w'=>e'=.returned (.int .i64 gp)∧∃ m,w'=W.drewN m):=by
  rw [hgp]
  exact fun W hk=>gap_c W base pb g _ f _ (H2.out.2.1.on hk (by simp))
 have HSX:Hid (∀ W,Kp No w2 W→Calls Tryz.prog 28 #[.pointer (some ⟨pb,0,none⟩),.agg #[.string t.nd.k,.string t.nd.t,.slice q' t.nd.l.length d],.int .i64 (f+gp)] W fun e' w'=>(∃ v,e'=.returned v)∧∃ t',TyZ true g (at_++nmToks true l) f t t'∧PSt w' base pb g ((at_++nmToks true l)++t'.toks true) t'.fin ((out++[⟨⟨#[102,105,101,108,100]⟩,e+gapOf g at_.length,0⟩]++l.map Nm.pl)++t'.pre)∧Kq base W w'):=by
  rw [hgp]
  intro W hk
  exact HSG.out W B base pb g _ f _ _ (H2.out.2.1.on hk (by simp)) (HK.out.stay fun b hb=>(hk.block b (by omega) (by simp)).trans (H2.out.2.2.1.kp.block b (by omega) (by simp only [Fr];omega))) hB (by unfold Bnd;simp only [la_,lc_,ln_,lm_];refine ⟨by omega,by omega,by omega,by omega⟩) hts
 have HGP:=hd_ hgp
 clear hgp
 go_wp2_with fail
 have ncc:=World.new_ne w2 _ cc2
 go_region_law (first
  | (go_simp
     go_at_call 26
     refine (HGC.out _ (by first | exact (Kp.refl No w2).drew | exact ((Kp.refl No w2).drew).drewN _ | exact (Kp.refl No w2).drewN _)).mono ?_
     rintro e9 w9 ⟨rfl,m9,rfl⟩
     (try go_wp2_with fail))
  | (go_simp
     go_at_call 28
     refine (HSX.out _ (by first | exact (Kp.refl No w2).drew | exact ((Kp.refl No w2).drew).drewN _ | exact (Kp.refl No w2).drewN _)).mono ?_
     rintro e3 w3 ⟨⟨v3,rfl⟩,t',htg,hp3,hq3⟩
     have hq3:Kq base w2 w3:=(Kq.of_no (by first | exact (Kp.refl No w2).drew | exact ((Kp.refl No w2).drew).drewN _ | exact (Kp.refl No w2).drewN _)).trans hq3
     have ss0:=cO (hq3.kn w.heap.size _ _ _ H2.out.2.2.2 (by decide) (by decide) (by decide)) 2 _ rfl
     obtain ⟨ss1,ss2,ss3⟩:=cellq (H2.out.2.2.1.trans hq3) hbB hbs k1 k2 k3
     have H3a:=a3_ htg hp3 hq3
     clear htg hp3 hq3
     (try go_wp2_with fail)))
 all_goals
  have htg:=H3a.out.1
  have hp3:=H3a.out.2.1
  have hq3:=H3a.out.2.2
  have hx3:=hq3.kn w.heap.size _ _ _ H2.out.2.2.2 (by decide) (by decide) (by decide)
  have hq3:=H2.out.2.2.1.trans hq3
  have xs3:=ltb hx3
  have z0:=cO hx3 0 _ rfl;have z1:=cO hx3 1 _ rfl;have z2:=cO hx3 2 _ rfl
  have htf:=htg.fin;have htl:=htg.le;have htp:=htg.pos;have htt:=htg.tk;have htq:=htg.pl
  have hgp3:=gapOf_le g ((at_++nmToks true l)++t'.toks true).length
  have H3:=a4_ htg hp3 hq3 hx3
  clear htg hp3 hq3 hx3 y0 y1 y2
  go_wp2_with fail
  have hp4:PSt w3 base pb g (at_++(nmToks true l++(t'.toks true++[]))) t'.fin (out++⟨⟨#[102,105,101,108,100]⟩,e+gapOf g at_.length,0⟩::(l.map Nm.pl++(t'.pre++[]))):=by simpa [aa_] using H3.out.2.1
  have hq4:=H3.out.2.2.1
  obtain ⟨gv,av,ov,hp5⟩:=hp4
  have hp5:PStx w3 base pb g (at_++(nmToks true l++(t'.toks true++[]))) (t'.fin) (out++⟨⟨#[102,105,101,108,100]⟩,e+gapOf g at_.length,0⟩::(l.map Nm.pl++(t'.pre++[]))) gv av ov:=hp5
  obtain ⟨gb,cap,hov,_,_,hlt5,lgb,_,_,xx2⟩:=hp5.2.2.2.1.get (i:=out.length) (p:=⟨⟨#[102,105,101,108,100]⟩,e+gapOf g at_.length,0⟩) (by simp)
  obtain ⟨N,hN⟩:∃ N,N=(out++(⟨⟨#[102,105,101,108,100]⟩,e+gapOf g at_.length,0⟩:Pl)::(l.map Nm.pl++(t'.pre++[]))).length:=⟨_,rfl⟩
  rw [← hN] at hov hlt5
  subst hov
  obtain ⟨_,cur,hgc⟩:=hp5.2.2.2.1.blk (g:=gb) rfl
  have c2:w3.cell? ⟨pb,2,none⟩=some (.int .i64 (t'.fin)):=cO hp5.1 2 _ rfl
  have c3:w3.cell? ⟨pb,3,none⟩=some (.slice (some ⟨gb,0,none⟩) N cap):=cO hp5.1 3 _ rfl
  have fx:=fO hgc (out.length*3+2)
  have lpb:=ltb hp5.1
  have ne1:pb≠gb:=ne_blk hp5.1 hgc (by simp)
  have ne2:gb≠pb:=ne1.symm
  have H5:=a2_ hp5 hq4
  clear hp5 hq4 hgc hN
  go_wp2_with fail
  go_region_held3 (fun w'=>w'.cell? ⟨pb,2,none⟩=some (.int .i64 (t'.fin))∧w'.cell? ⟨pb,3,none⟩=some (.slice (some ⟨gb,0,none⟩) N cap))
   (first | (go_keep;done))
   (fail)
  have hcl:=PStx.close (e2:=t'.fin) H5.out.1 ((Kp.refl No w3).drew)
  have hemp:(true && !l.isEmpty)=true:=by
   cases l with | nil=>(simp at hll;omega) | cons _ _=>rfl
  have hemp2:(true && !(Fd.mk c0 ns t tp0 (⟨#[]⟩:ByteArray)).ns.isEmpty)=true:=by
   show (true && !ns.isEmpty)=true;rw [hne];rfl
  have hFG:=FdG.mk' (g:=g) (at_:=at_) (e:=e) (m:=true) (d:=⟨c0,ns,t,tp0,⟨#[]⟩⟩) (l:=l) (t':=t') (tp:=1) he (by simp only [Fd.nd,fdNd,Nd.size,Nd.sizeL,pnms_size];omega) H2.out.1 (by rw [hemp2];exact H3.out.1) (by show (⟨#[]⟩:ByteArray).size≤1048576;decide) (by show (if (⟨#[]⟩:ByteArray).size=0 then Pk 1 else _);rw [if_pos (by rfl)];constructor <;> omega)
  refine bodyPost_end (v:=.tuple #[]) (by simp [results,Tryz.results56,go_sem]) rfl ⟨⟨_,rfl⟩,_,hFG,?_,H5.out.2.trans hcl.2⟩
  exact fd_close hemp hFG.pos (by rfl) (by rfl) (by rfl) hcl.1
theorem field_mct (c0:Int) (ns:List Nm) (t:Ty) (tp0:Int) (tag:ByteArray) (hz:¬ tag.size=0) (hsg:SigM t) (hne:ns.isEmpty=false) (w:World) (B base pb:Nat) (g at_:List Int) (e:Int) (out:List Pl) (q:Option Addr) (c:Nat) (hp:PSt w base pb g at_ e out) (hin:Nd.In w B (.slice q (ns.length+1) c) (Fd.mk c0 ns t tp0 tag).nd) (hcc:1 < c) (hB:B≤base) (hb:Bnd at_ e out (Fd.mk c0 ns t tp0 tag).nd.size) (hs:(Fd.mk c0 ns t tp0 tag).nd.short) :
 Calls Tryz.prog 56 #[.pointer (some ⟨pb,0,none⟩),.agg #[.string ⟨#[102,105,101,108,100]⟩,.string tag,.slice q (ns.length+1) c],.bool true] w fun e' w'=>(∃ v,e'=.returned v)∧∃ d',FdG g at_ e true (Fd.mk c0 ns t tp0 tag) d'∧PSt w' base pb g (at_++d'.toks true) (ffin d'.t d'.tp d'.tag) (out++d'.pre)∧Kq base w w':=by
 have hbs:=hp.size
 have hL:=Nd.In_iff.1 hin
 simp only [Fd.nd,fdNd,Nd.l] at hL
 have HL:Hid (Ls w B (.slice q (ns.length+1) c) (t.nd::ns.map Nm.nd)):=hL
 simp only [Fd.nd,fdNd,Nd.size,Nd.sizeL,pnms_size,Bnd] at hb
 simp only [Fd.nd,fdNd,Nd.short,Nd.shortL,List.map_nil] at hs
 obtain ⟨he,b2,b3,b4⟩:=hb
 obtain ⟨htS,hts,hnsS0⟩:=hs
 have hnsS:=nms_short hnsS0
 obtain ⟨b,o,c',q',d,hee,hcl0,hbB,hi,k1,k2,k3,k4,k5⟩:=HL.out.get (i:=0) rfl
 simp only [lc_,ln_,lm_] at hee hcl0
 cases hee
 have HK:=hd_ k4
 simp only [Nat.zero_mul,Nat.add_zero] at k1 k2 k3
 have hbB:b < base:=by omega
 have HP:=hd_ hp
 have hgap:=gapOf_le g at_.length
 have htsz:=Nd.size_pos t.nd
 have HSG:=hd_ hsg
 have hnl:0 < ns.length:=by cases ns with | nil=>simp at hne | cons _ _=>simp
 clear hsg
 clear hp hin hL k4 hi
 go_enter Tryz.func56,Tryz.ntmps56
 go_wp2_with fail
 have htz:=bs_ne hz
 obtain ⟨htz1,htz2⟩:=htz
 have hk0:Kp No w (w.alloc (.cells #[.string ⟨#[102,105,101,108,100]⟩,.string tag,.slice (some ⟨b,o,none⟩) (ns.length+1) c] 24 (0,0))):=(Kp.refl No w).alloc _
 refine (open_c _ base pb g at_ e out ⟨#[102,105,101,108,100]⟩ tag _ (HP.out.on hk0 (by simp)) (by omega) (by omega) (by omega) ⟨_,_,_,rfl⟩).mono ?_
 rintro e1 w1 ⟨rfl,hp1,hq1⟩
 have hx1:=hq1.kn w.heap.size _ _ _ (newOf w _) (by decide) (by decide) (by decide)
 have hq1:=(Kq.of_no hk0).trans hq1
 have zs1:=hq1.kp.size
 have xs1:=ltb hx1
 have x0:=cO hx1 0 _ rfl;have x1:=cO hx1 1 _ rfl;have x2:=cO hx1 2 _ rfl
 have H1:=a3_ hp1 hq1 hx1
 clear hp1 hq1 hx1 hk0
 go_wp2_with fail
 refine (commas_c ns w1 B base pb g at_ e _ _ H1.out.1 ((Ls.tailn HL.out).stay fun b hb=>H1.out.2.1.kp.block b (by omega) (by simp only [Fr];omega)) hB hnsS (by omega) (by omega) (by omega) (by simp only [la_,lc_,ln_,lm_];omega)).mono ?_
 rintro e2 w2 ⟨⟨v2,rfl⟩,l,f,hlg,hp2,hq2⟩
 have hx2:=hq2.kn w.heap.size _ _ _ H1.out.2.2 (by decide) (by decide) (by decide)
 have hq2:=H1.out.2.1.trans hq2
 have zs2:=hq2.kp.size
 have xs2:=ltb hx2
 have y0:=cO hx2 0 _ rfl;have y1:=cO hx2 1 _ rfl;have y2:=cO hx2 2 _ rfl
 obtain ⟨kk1,kk2,kk3⟩:=cellq hq2 hbB hbs k1 k2 k3
 have hlf:=hlg.fin;have hle:=hlg.le;have hlt:=hlg.tk;have hll:=hlg.len
 have hgp2:=gapOf_le g (at_++nmToks true l).length
 have H2:=a4_ hlg hp2 hq2 hx2
 clear hlg hp2 hq2 hx2 x0 x1 x2
 have hnp:decide (1 < ns.length+1)=true:=decide_eq_true (by omega)
 have hnp2:1 < ns.length+1:=by omega
 obtain ⟨gp,hgp⟩:∃ gp,gp=gapOf g (at_++nmToks true l).length:=⟨_,rfl⟩
 have hgpb:0≤gp∧gp≤1000:=by rw [hgp];exact hgp2
 have hwr:IntKind.i64.wrap (f+gp)=f+gp:=IntWalk.i64_in _ (by omega)
 obtain ⟨gv,av,ov,hpx⟩:=H2.out.2.1
 have hpx:PStx w2 base pb g (at_++nmToks true l) f (out++[⟨⟨#[102,105,101,108,100]⟩,e+gapOf g at_.length,0⟩]++l.map Nm.pl) gv av ov:=hpx
 have cc2:w2.cell? ⟨pb,2,none⟩=some (.int .i64 f):=cO hpx.1 2 _ rfl
 have lpb2:=ltb hpx.1
 clear hpx
 have HGC:Hid (∀ W,Kp No w2 W→Calls Tryz.prog 26 #[.pointer (some ⟨pb,0,none⟩)] W fun e' w'=>e'=.returned (.int .i64 gp)∧∃ m,w'=W.drewN m):=by
  rw [hgp]
  exact fun W hk=>gap_c W base pb g _ f _ (H2.out.2.1.on hk (by simp))
 have HSX:Hid (∀ W,Kp No w2 W→Calls Tryz.prog 28 #[.pointer (some ⟨pb,0,none⟩),.agg #[.string t.nd.k,.string t.nd.t,.slice q' t.nd.l.length d],.int .i64 (f+gp)] W fun e' w'=>(∃ v,e'=.returned v)∧∃ t',TyZ true g (at_++nmToks true l) f t t'∧PSt w' base pb g ((at_++nmToks true l)++t'.toks true) t'.fin ((out++[⟨⟨#[102,105,101,108,100]⟩,e+gapOf g at_.length,0⟩]++l.map Nm.pl)++t'.pre)∧Kq base W w'):=by
  rw [hgp]
  intro W hk
  exact HSG.out W B base pb g _ f _ _ (H2.out.2.1.on hk (by simp)) (HK.out.stay fun b hb=>(hk.block b (by omega) (by simp)).trans (H2.out.2.2.1.kp.block b (by omega) (by simp only [Fr];omega))) hB (by unfold Bnd;simp only [la_,lc_,ln_,lm_];refine ⟨by omega,by omega,by omega,by omega⟩) hts
 have HGP:=hd_ hgp
 clear hgp
 go_wp2_with fail
 have ncc:=World.new_ne w2 _ cc2
 go_region_law (first
  | (go_simp
     go_at_call 26
     refine (HGC.out _ (by first | exact (Kp.refl No w2).drew | exact ((Kp.refl No w2).drew).drewN _ | exact (Kp.refl No w2).drewN _)).mono ?_
     rintro e9 w9 ⟨rfl,m9,rfl⟩
     (try go_wp2_with fail))
  | (go_simp
     go_at_call 28
     refine (HSX.out _ (by first | exact (Kp.refl No w2).drew | exact ((Kp.refl No w2).drew).drewN _ | exact (Kp.refl No w2).drewN _)).mono ?_
     rintro e3 w3 ⟨⟨v3,rfl⟩,t',htg,hp3,hq3⟩
     have hq3:Kq base w2 w3:=(Kq.of_no (by first | exact (Kp.refl No w2).drew | exact ((Kp.refl No w2).drew).drewN _ | exact (Kp.refl No w2).drewN _)).trans hq3
     have ss0:=cO (hq3.kn w.heap.size _ _ _ H2.out.2.2.2 (by decide) (by decide) (by decide)) 2 _ rfl
     obtain ⟨ss1,ss2,ss3⟩:=cellq (H2.out.2.2.1.trans hq3) hbB hbs k1 k2 k3
     have H3a:=a3_ htg hp3 hq3
     clear htg hp3 hq3
     (try go_wp2_with fail)))
 all_goals
  have htg:=H3a.out.1
  have hp3:=H3a.out.2.1
  have hq3:=H3a.out.2.2
  have hx3:=hq3.kn w.heap.size _ _ _ H2.out.2.2.2 (by decide) (by decide) (by decide)
  have hq3:=H2.out.2.2.1.trans hq3
  have xs3:=ltb hx3
  have z0:=cO hx3 0 _ rfl;have z1:=cO hx3 1 _ rfl;have z2:=cO hx3 2 _ rfl
  have htf:=htg.fin;have htl:=htg.le;have htp:=htg.pos;have htt:=htg.tk;have htq:=htg.pl
  have hgp3:=gapOf_le g ((at_++nmToks true l)++t'.toks true).length
  have H3:=a4_ htg hp3 hq3 hx3
  clear htg hp3 hq3 hx3 y0 y1 y2
  go_wp2_with fail
  refine (pliteral_c w3 tag).mono ?_
  rintro e4 wi ⟨rfl,hri⟩
  have HI:=a2_ (H3.out.2.1.on hri (by simp)) (H3.out.2.2.1.no hri)
  clear hri z0 z1 z2
  go_wp2_with fail
  refine (node_literal wi base pb g _ _ _ tag none 0 HI.out.1 (by omega) (by omega) (by simp only [la_,lc_,ln_,lm_];omega) (by simp only [la_,lc_,ln_,lm_];omega) htS).mono ?_
  rintro e5 w4 ⟨⟨v4,rfl⟩,tp,htpq,hp4,hq4⟩
  have hq4:=HI.out.2.trans hq4
  have htp1:t'.fin≤tp∧tp≤t'.fin+1000:=by rw [htpq];constructor <;> omega
  clear htpq
  have hp4:PSt w4 base pb g (at_++(nmToks true l++(t'.toks true++[tp]))) (tp+tag.size) (out++⟨⟨#[102,105,101,108,100]⟩,e+gapOf g at_.length,0⟩::(l.map Nm.pl++(t'.pre++[⟨⟨#[108,105,116,101,114,97,108]⟩,tp,tp+tag.size⟩]))):=by simpa [aa_] using hp4
  obtain ⟨gv,av,ov,hp5⟩:=hp4
  have hp5:PStx w4 base pb g (at_++(nmToks true l++(t'.toks true++[tp]))) (tp+tag.size) (out++⟨⟨#[102,105,101,108,100]⟩,e+gapOf g at_.length,0⟩::(l.map Nm.pl++(t'.pre++[⟨⟨#[108,105,116,101,114,97,108]⟩,tp,tp+tag.size⟩]))) gv av ov:=hp5
  obtain ⟨gb,cap,hov,_,_,hlt5,lgb,_,_,xx2⟩:=hp5.2.2.2.1.get (i:=out.length) (p:=⟨⟨#[102,105,101,108,100]⟩,e+gapOf g at_.length,0⟩) (by simp)
  obtain ⟨N,hN⟩:∃ N,N=(out++(⟨⟨#[102,105,101,108,100]⟩,e+gapOf g at_.length,0⟩:Pl)::(l.map Nm.pl++(t'.pre++[⟨⟨#[108,105,116,101,114,97,108]⟩,tp,tp+tag.size⟩]))).length:=⟨_,rfl⟩
  rw [← hN] at hov hlt5
  subst hov
  obtain ⟨_,cur,hgc⟩:=hp5.2.2.2.1.blk (g:=gb) rfl
  have c2:w4.cell? ⟨pb,2,none⟩=some (.int .i64 (tp+tag.size)):=cO hp5.1 2 _ rfl
  have c3:w4.cell? ⟨pb,3,none⟩=some (.slice (some ⟨gb,0,none⟩) N cap):=cO hp5.1 3 _ rfl
  have fx:=fO hgc (out.length*3+2)
  have lpb:=ltb hp5.1
  have ne1:pb≠gb:=ne_blk hp5.1 hgc (by simp)
  have ne2:gb≠pb:=ne1.symm
  have H5:=a2_ hp5 hq4
  clear hp5 hq4 hgc hN
  go_wp2_with fail
  go_region_held3 (fun w'=>w'.cell? ⟨pb,2,none⟩=some (.int .i64 (tp+tag.size))∧w'.cell? ⟨pb,3,none⟩=some (.slice (some ⟨gb,0,none⟩) N cap))
   (first | (go_keep;done))
   (fail)
  have hcl:=PStx.close (e2:=tp+tag.size) H5.out.1 ((Kp.refl No w4).drew)
  have hemp:(true && !l.isEmpty)=true:=by
   cases l with | nil=>(simp at hll;omega) | cons _ _=>rfl
  have hemp2:(true && !(Fd.mk c0 ns t tp0 tag).ns.isEmpty)=true:=by
   show (true && !ns.isEmpty)=true;rw [hne];rfl
  have hFG:=FdG.mk' (g:=g) (at_:=at_) (e:=e) (m:=true) (d:=⟨c0,ns,t,tp0,tag⟩) (l:=l) (t':=t') (tp:=tp) he (by simp only [Fd.nd,fdNd,Nd.size,Nd.sizeL,pnms_size];omega) H2.out.1 (by rw [hemp2];exact H3.out.1) htS (by show (if tag.size=0 then _ else _);rw [if_neg hz];constructor <;> omega)
  refine bodyPost_end (v:=.tuple #[]) (by simp [results,Tryz.results56,go_sem]) rfl ⟨⟨_,rfl⟩,_,hFG,?_,H5.out.2.trans hcl.2⟩
  exact fd_close hemp hFG.pos (if_neg hz) (if_neg hz) (if_neg hz) hcl.1
end
section
open Go Go.RowKit
theorem fdc (d:Fd) (m:Bool) (ht:(m && !d.ns.isEmpty)=false→TyC d.t) (hsg:(m && !d.ns.isEmpty)=true→SigM d.t):FdC d m:=by
 intro w B base pb g at_ e out s hp hin hB hb hs
 obtain ⟨c0,ns,t,tp0,tag⟩:=d
 obtain ⟨q,c,rfl,hc⟩:=hin.form
 have hl:(Fd.mk c0 ns t tp0 tag).nd.l.length=ns.length+1:=by simp [Fd.nd,fdNd,Nd.l]
 rw [hl] at hin hc ⊢
 show Calls _ _ #[_,.agg #[.string ⟨#[102,105,101,108,100]⟩,.string tag,.slice q (ns.length+1) c],.bool m] _ _
 by_cases hz:tag.size=0
 ·obtain rfl:=bs_empty hz
  cases ns with
  | nil =>
   rcases (by simp at hc;omega:c=1∨1 < c) with hcc | hcc
   ·cases m
    ·exact field_f1x c0 t tp0 (ht rfl) w B base pb g at_ e out q c hp hin hcc hB hb hs
    ·exact field_n1x c0 t tp0 (ht rfl) w B base pb g at_ e out q c hp hin hcc hB hb hs
   ·cases m
    ·exact field_fcx c0 [] t tp0 (ht rfl) w B base pb g at_ e out q c hp hin hcc hB hb hs
    ·exact field_ncx c0 t tp0 (ht rfl) w B base pb g at_ e out q c hp hin hcc hB hb hs
  | cons n r =>
   have hcc:1 < c:=by simp at hc;omega
   cases m
   ·exact field_fcx c0 (n::r) t tp0 (ht rfl) w B base pb g at_ e out q c hp hin hcc hB hb hs
   ·exact field_mcx c0 (n::r) t tp0 (hsg rfl) rfl w B base pb g at_ e out q c hp hin hcc hB hb hs
 ·cases ns with
  | nil =>
   rcases (by simp at hc;omega:c=1∨1 < c) with hcc | hcc
   ·cases m
    ·exact field_f1t c0 t tp0 tag hz (ht rfl) w B base pb g at_ e out q c hp hin hcc hB hb hs
    ·exact field_n1t c0 t tp0 tag hz (ht rfl) w B base pb g at_ e out q c hp hin hcc hB hb hs
   ·cases m
    ·exact field_fct c0 [] t tp0 tag hz (ht rfl) w B base pb g at_ e out q c hp hin hcc hB hb hs
    ·exact field_nct c0 t tp0 tag hz (ht rfl) w B base pb g at_ e out q c hp hin hcc hB hb hs
  | cons n r =>
   have hcc:1 < c:=by simp at hc;omega
   cases m
   ·exact field_fct c0 (n::r) t tp0 tag hz (ht rfl) w B base pb g at_ e out q c hp hin hcc hB hb hs
   ·exact field_mct c0 (n::r) t tp0 tag hz (hsg rfl) rfl w B base pb g at_ e out q c hp hin hcc hB hb hs
end
section
open Go Go.RowKit
def fdsPre:List Fd→List Pl
 | []=>[]
 | d::l=>d.pre++fdsPre l
theorem fdsPre_snoc (d:Fd):∀ l:List Fd,fdsPre (l++[d])=fdsPre l++d.pre
 | []=>by simp [fdsPre]
 | x::l=>by simp [fdsPre,fdsPre_snoc d l]
theorem fdsToks_snoc (cm m:Bool) (d:Fd):∀ (l:List Fd) (b:Bool),fdsToks cm m b (l++[d])=fdsToks cm m b l++((if cm && !(b && l.isEmpty) then [d.c] else [])++d.toks m)
 | [],b=>by cases b <;> simp [fdsToks]
 | x::l,b=>by
  simp only [List.cons_append,fdsToks,fdsToks_snoc cm m d l false]
  simp [aa_]
def Fs.of:List Fd→Fs
 | []=>.nil
 | d::l=>.cons d.c d.ns d.t d.tp d.tag (Fs.of l)
theorem Fs.fds_of:∀ l:List Fd,(Fs.of l).fds=l
 | []=>rfl
 | d::l=>by simp [Fs.of,Fs.fds,Fs.fds_of l]
theorem Fs.pre_fds:∀ f:Fs,f.pre=fdsPre f.fds
 | .nil=>rfl
 | .cons c ns t tp tag l=>by
  simp only [Fs.pre,Fs.fds,fdsPre,Fd.pre,Fd.pl,Fs.pre_fds l]
structure FdsG (e:Int) (cm m:Bool) (ds l:List Fd) (f:Int):Prop where
 nd:l.map Fd.nd=ds.map Fd.nd
 ok:∀ d∈l,d.ok m
 le:e≤f
 nest:Nest e f (fdsPre l)
 fin:f≤e+16777216*Nd.sizeL (ds.map Fd.nd)
 tk:(fdsToks cm m true l).length≤8*Nd.sizeL (ds.map Fd.nd)
 pl:(fdsPre l).length≤4*Nd.sizeL (ds.map Fd.nd)
theorem FdsG.zero (e:Int) (cm m:Bool):FdsG e cm m [] [] e:=⟨rfl,by simp,Int.le_refl _,Nest.nil _ _,by simp [Nd.sizeL],by simp [fdsToks],by simp [fdsPre]⟩
theorem FdsG.len {e f:Int} {cm m:Bool} {ds l:List Fd} (h:FdsG e cm m ds l f):l.length=ds.length:=by
 have:=congrArg List.length h.nd
 simpa using this
theorem sizeL_snoc (n:Nd):∀ l:List Nd,Nd.sizeL (l++[n])=Nd.sizeL l+n.size
 | []=>by simp [Nd.sizeL]
 | x::l=>by simp only [List.cons_append,Nd.sizeL,sizeL_snoc n l];omega
theorem FdsG.snoc {g at2:List Int} {e f e2 c:Int} {cm m:Bool} {ds l:List Fd} {d d':Fd} (h:FdsG e cm m ds l f) (hd:FdG g at2 e2 m d d') (hc:Pk c) (h2:f≤e2∧e2≤f+1001):FdsG e cm m (ds++[d]) (l++[{ d' with c:=c }]) (ffin d'.t d'.tp d'.tag):=by
 have hf:=h.fin;have hle:=h.le;have hp:=hd.pos;have hl:=hd.le;have hfn:=hd.fin;have ht:=hd.tk;have hq:=hd.pl
 have hg:=gapOf_le g at2.length
 have hsz:Nd.sizeL ((ds++[d]).map Fd.nd)=Nd.sizeL (ds.map Fd.nd)+d.nd.size:=by rw [List.map_append,List.map_cons,List.map_nil,sizeL_snoc]
 refine ⟨by simp only [List.map_append,h.nd,List.map_cons,List.map_nil];rw [← hd.nd];rfl,?_,by omega,?_,by rw [hsz];omega,?_,?_⟩
 ·intro x hx
  rcases List.mem_append.1 hx with hx | hx
  ·exact h.ok x hx
  ·simp only [List.mem_singleton] at hx
   subst hx
   exact hd.ok c hc
 ·rw [fdsPre_snoc]
  exact h.nest.append (show Nest _ _ d'.pre from hd.nest) hle (by omega) hl
 ·rw [fdsToks_snoc,hsz]
  have h1:=h.tk
  have h3:(if cm && !(true && l.isEmpty) then ([({ d' with c:=c }:Fd).c]:List Int) else []).length≤1:=by split <;> simp
  have h4:(({ d' with c:=c }:Fd).toks m).length=(d'.toks m).length:=rfl
  simp only [la_] at h3 ⊢
  omega
 ·rw [fdsPre_snoc,hsz]
  have h1:=h.pl
  have h4:(({ d' with c:=c }:Fd).pre).length=d'.pre.length:=rfl
  simp only [la_]
  omega
end
section
open Go Go.RowKit
theorem fds_size {f:Fs}:Nd.sizeL f.nds=Nd.sizeL (f.fds.map Fd.nd):=by rw [Fs.nds_fds]
theorem fds_short:∀ (ds:List Fd),Nd.shortL (ds.map Fd.nd)→∀ d∈ds,d.nd.short
 | [],_=>by simp
 | x::ds,h=>by
  simp only [List.map_cons,Nd.shortL] at h
  intro d hd
  rcases List.mem_cons.1 hd with rfl | hd
  ·exact h.1
  ·exact fds_short ds h.2 d hd
theorem sizeL_take_le {l:List Nd} {k:Nat} {n:Nd} (h:l[k]?=some n):Nd.sizeL (l.take k)+n.size≤Nd.sizeL l:=by
 have h1:=Nd.sizeL_take l k n h
 have h2:∀ (l:List Nd) (j:Nat),Nd.sizeL (l.take j)≤Nd.sizeL l:=by
  intro l
  induction l with
  | nil=>intro j;simp
  | cons x l ih =>
   intro j
   cases j with
   | zero=>simp [Nd.sizeL]
   | succ j=>simp only [List.take_succ_cons,Nd.sizeL];have:=ih j;omega
 have:=h2 l (k+1)
 omega
theorem fields_true (f:Fs) (m:Bool) (hF:∀ d∈f.fds,FdC d m):FlC f true m:=by
 intro w B base pb g at_ e out s hp hin hB hb hs
 have hbs:=hp.size
 have hL:=Nd.In_iff.1 hin
 simp only [fl,Nd.l,Fs.nds_fds] at hL
 obtain ⟨q,c,rfl,hc,_⟩:=id hL
 rw [lm_] at hL hc hin ⊢
 simp only [fl,Nd.short,Fs.nds_fds] at hs
 have hsh:=fds_short _ hs.2
 rw [fds_size] at hb
 simp only [Bnd] at hb
 obtain ⟨b1,b2,b3,b4⟩:=hb
 have hlen4:f.fds.length≤Nd.sizeL (f.fds.map Fd.nd):=by have:=Nd.length_le (f.fds.map Fd.nd);simpa using this
 have HL:Hid (Ls w B (.slice q f.fds.length c) (f.fds.map Fd.nd)):=hL
 have HP:=hd_ hp;have HF:=hd_ hF;have HSH:=hd_ hsh
 have hgap:=gapOf_le g at_.length
 clear hp hin hL hF hsh hs
 show Calls _ _ #[_,.agg #[.string ⟨#[102,105,101,108,100,115]⟩,.string ⟨#[]⟩,.slice q f.fds.length c],.string ⟨#[40]⟩,.string ⟨#[44]⟩,.string ⟨#[41]⟩,.bool m] _ _
 go_enter Tryz.func34,Tryz.ntmps34
 go_wp2_with fail
 have hk0:Kp No w (w.alloc (.cells #[.string ⟨#[102,105,101,108,100,115]⟩,.string ⟨#[]⟩,.slice q f.fds.length c] 24 (0,0))):=(Kp.refl No w).alloc _
 refine (open_c _ base pb g at_ e out ⟨#[102,105,101,108,100,115]⟩ ⟨#[]⟩ _ (HP.out.on hk0 (by simp)) (by omega) (by omega) (by omega) ⟨_,_,_,rfl⟩).mono ?_
 rintro e1 w1 ⟨rfl,hp1,hq1⟩
 have hx1:=hq1.kn w.heap.size _ _ _ (newOf w _) (by decide) (by decide) (by decide)
 have hq1:=(Kq.of_no hk0).trans hq1
 have H1:=a3_ hp1 hq1 hx1
 clear hp1 hq1 hx1 hk0
 go_wp2_with fail
 have ka1:Kp No w1 (w1.alloc (.cells #[.string ⟨#[40]⟩] 9 (0,0))):=(Kp.refl No w1).alloc _
 refine (tok1_c _ base pb _ 1 g _ _ _ ⟨#[40]⟩ (H1.out.1.on ka1 (by simp)) (newOf w1 _) rfl (by decide) (by omega) (by omega) (by omega)).mono ?_
 rintro e2 w2 ⟨⟨v2,rfl⟩,o,hoq,hp2,hr2⟩
 have hz2:((⟨#[40]⟩:ByteArray)).size=1:=rfl
 rw [hz2] at hp2
 have hx2:=hr2.kn w.heap.size _ _ _ (ka1.at H1.out.2.2 (by simp)) (by decide) (by decide) (by decide)
 have hq2:=(H1.out.2.1.no ka1).trans hr2
 have xs2:=ltb hx2
 have x0:=cO hx2 0 _ rfl;have x1:=cO hx2 1 _ rfl;have x2:=cO hx2 2 _ rfl
 have ho1:e≤o∧o≤e+1000:=by rw [hoq];omega
 have HOQ:=hd_ hoq
 have zs2:=hq2.kp.size
 have hp2:PSt w2 base pb g (at_++[o]) (o+1) (out++[⟨⟨#[102,105,101,108,100,115]⟩,o,0⟩]):=by rw [HOQ.out] at hp2 ⊢;exact hp2
 have H2:=a2_ hp2 hq2
 clear hp2 hq2 hx2 hr2 ka1 hoq
 go_wp2_with fail
 go_loopw [13,14,25] (fun _ _ i wr=>∃ k:Nat,k≤f.fds.length∧i=.int .i64 k∧Kq base w wr∧∃ l f1,FdsG (o+1) true m (f.fds.take k) l f1∧PSt wr base pb g (at_++(o::fdsToks true m true l)) f1 (out++⟨⟨#[102,105,101,108,100,115]⟩,o,0⟩::fdsPre l)) (fun _ _ i _=>f.fds.length - (intOf i).toNat)
 case atStart=>exact ⟨0,Nat.zero_le _,rfl,H2.out.2,[],o+1,FdsG.zero _ _ _,by simpa [fdsToks,fdsPre] using H2.out.1⟩
 case round =>
  obtain ⟨k,hk,rfl,hq,l,f1,hg,hp⟩:=hrel
  by_cases hlt:k < f.fds.length
  ·obtain ⟨d,hd⟩:∃ d,f.fds[k]?=some d:=⟨_,List.getElem?_eq_getElem hlt⟩
   have hdn:(f.fds.map Fd.nd)[k]?=some d.nd:=by rw [List.getElem?_map,hd];rfl
   have htk:f.fds.take (k+1)=f.fds.take k++[d]:=by rw [List.take_add_one,hd];rfl
   have hlen:(f.fds.take k).length=k:=by rw [List.length_take];omega
   have hll:l.length=k:=by rw [hg.len,hlen]
   have hdm:=List.mem_of_getElem? hd
   have hsz:=sizeL_take_le hdn
   rw [← List.map_take] at hsz
   have hf:=hg.fin;have hle:=hg.le;have htl:=hg.tk;have hpl:=hg.pl
   have hzs:=hq.kp.size
   have hds:=Nd.size_pos d.nd
   obtain ⟨b,oo,c',q',dd,he',_,hb,hi,h1,h2,h3,h4,h5⟩:=(HL.out.stay (w':=wr) (fun i hi=>hq.kp.block i (by omega) (by simp only [Fr];omega))).get (i:=k) hdn
   rw [lm_] at he'
   cases he'
   have HG:=a3_ hg hp hq;have HTK:=hd_ htk;have HLL:=hd_ hll;have HIN:=hd_ h4;have HDM:=hd_ hdm
   clear hg hp hq htk h4 hi hd hdn hll hlen hdm
   have hk0:Kp No wr (wr.alloc (.cells #[.string d.nd.k,.string d.nd.t,.slice q' d.nd.l.length dd] 24 (0,0))):=(Kp.refl No wr).alloc _
   have HK0:=hd_ hk0
   by_cases hk1:k=0
   ·have hl0:l=[]:=by have:=HLL.out;exact List.eq_nil_of_length_eq_zero (by omega)
    have hk2:decide (0 < k)=false:=decide_eq_false (by omega)
    have HK1:=hd_ hk1
    clear hk1
    go_wp2_with fail
    refine (HF.out d HDM.out _ B base pb g _ f1 _ _ (HG.out.2.1.on HK0.out (by simp)) (HIN.out.stay fun b hb=>Below.heap_alloc _ _ _ (by omega)) hB (by unfold Bnd;simp only [la_,lc_,ln_,lm_];refine ⟨by omega,by omega,by omega,by omega⟩) (HSH.out d HDM.out)).mono ?_
    rintro e3 w3 ⟨⟨v3,rfl⟩,d',hdg,hp3,hq3⟩
    have H3:=a3_ hdg hp3 ((HG.out.2.2.no HK0.out).trans hq3)
    clear hdg hp3 hq3
    go_wp2_with fail
    go_roundw
    case rel =>
     have hdp:=H3.out.1.pos;have hdl:=H3.out.1.le;have hdf:=H3.out.1.fin
     have hgg:=gapOf_le g (at_++o::fdsToks true m true l).length
     refine ⟨k+1,by omega,by go_num,H3.out.2.2,l++[{ d' with c:=fpos d'.ns d'.t }],ffin d'.t d'.tp d'.tag,?_,?_⟩
     ·rw [HTK.out]
      exact HG.out.1.snoc H3.out.1 (by constructor <;> omega) ⟨Int.le_refl _,by omega⟩
     ·rw [fdsToks_snoc,fdsPre_snoc]
      have h9:PSt w3 base pb g (at_++(o::fdsToks true m true l)++d'.toks m) (ffin d'.t d'.tp d'.tag) (out++⟨⟨#[102,105,101,108,100,115]⟩,o,0⟩::fdsPre l++d'.pre):=H3.out.2.1
      subst hl0
      simpa [aa_,Fd.toks,Fd.pre,Fd.pl] using h9
    case measure=>simp [intOf];omega
   ·skip
    have hl0:l.isEmpty=false:=by cases l with | nil=>(have:=HLL.out;simp at this;omega) | cons _ _=>rfl
    have hk2:decide (0 < k)=true:=decide_eq_true (by omega)
    have hk3:0 < k:=by omega
    go_wp2_with fail
    have hka:Kp No (wr.alloc (.cells #[.string d.nd.k,.string d.nd.t,.slice q' d.nd.l.length dd] 24 (0,0))) ((wr.alloc (.cells #[.string d.nd.k,.string d.nd.t,.slice q' d.nd.l.length dd] 24 (0,0))).alloc (.cells #[.string ⟨#[44]⟩] 9 (0,0))):=(Kp.refl No _).alloc _
    refine (tok1_c _ base pb _ 1 g _ f1 _ ⟨#[44]⟩ (HG.out.2.1.on (HK0.out.trans' hka) (by simp)) (newOf2 wr _ _) rfl (by decide) (by omega) (by omega) (by simp only [la_,lc_,ln_,lm_];omega)).mono ?_
    rintro e1 w3 ⟨⟨v,rfl⟩,c1,hcq,hp1,hq1⟩
    have hgc:=gapOf_le g (at_++o::fdsToks true m true l).length
    have hz:((⟨#[44]⟩:ByteArray)).size=1:=rfl
    rw [hz] at hp1
    have hc1:f1≤c1∧c1≤f1+1000:=by rw [hcq];omega
    have hx1:=hq1.kn wr.heap.size _ _ _ (hka.at (newOf wr _) (by simp)) (by decide) (by decide) (by decide)
    have xs1:=ltb hx1
    have y0:=cO hx1 0 _ rfl
    have y1:=cO hx1 1 _ rfl
    have y2:=cO hx1 2 _ rfl
    have hq1:Kq base wr w3:=(Kq.of_no (HK0.out.trans' hka)).trans hq1
    have H1:=a2_ hp1 hq1
    clear hp1 hq1 hx1 hcq hka
    go_wp2_with fail
    refine (HF.out d HDM.out w3 B base pb g _ _ _ _ H1.out.1 (HIN.out.stay fun b hb=>H1.out.2.kp.block b (by omega) (by simp only [Fr];omega)) hB (by unfold Bnd;simp only [la_,lc_,ln_,lm_];refine ⟨by omega,by omega,by omega,by omega⟩) (HSH.out d HDM.out)).mono ?_
    rintro e3 w4 ⟨⟨v3,rfl⟩,d',hdg,hp3,hq3⟩
    have H3:=a3_ hdg hp3 ((HG.out.2.2.trans H1.out.2).trans hq3)
    clear hdg hp3 hq3
    go_wp2_with fail
    go_roundw
    case rel =>
     refine ⟨k+1,by omega,by go_num,H3.out.2.2,l++[{ d' with c:=c1 }],ffin d'.t d'.tp d'.tag,?_,?_⟩
     ·rw [HTK.out]
      exact HG.out.1.snoc H3.out.1 (by constructor <;> omega) ⟨by omega,by omega⟩
     ·rw [fdsToks_snoc,fdsPre_snoc]
      have h9:=H3.out.2.1
      simpa [hl0,aa_,Fd.toks,Fd.pre,Fd.pl] using h9
    case measure=>simp [intOf];omega
  ·have hkn:k=f.fds.length:=by omega
   have htake:f.fds.take k=f.fds:=List.take_of_length_le (by omega)
   rw [htake] at hg
   have hf:=hg.fin;have hle:=hg.le;have htl:=hg.tk;have hpl:=hg.pl
   have HG:=a3_ hg hp hq
   clear hg hp hq htake
   go_wp2_with fail
   have ka1:Kp No wr (wr.alloc (.cells #[.string ⟨#[41]⟩] 9 (0,0))):=(Kp.refl No wr).alloc _
   refine (tok1_c _ base pb _ 1 g _ f1 _ ⟨#[41]⟩ (HG.out.2.1.on ka1 (by simp)) (newOf wr _) rfl (by decide) (by omega) (by omega) (by simp only [la_,lc_,ln_,lm_];omega)).mono ?_
   rintro e4 w4 ⟨⟨v4,rfl⟩,cc,hcq,hp4,hr4⟩
   have hgc:=gapOf_le g (at_++o::fdsToks true m true l).length
   have hz4:((⟨#[41]⟩:ByteArray)).size=1:=rfl
   rw [hz4] at hp4
   have hcc:f1≤cc∧cc≤f1+1000:=by rw [hcq];omega
   have hq4:=(HG.out.2.2.no ka1).trans hr4
   have hp4:PSt w4 base pb g (at_++(o::(fdsToks true m true l++[cc]))) (cc+1) (out++⟨⟨#[102,105,101,108,100,115]⟩,o,0⟩::fdsPre l):=by simpa [aa_] using hp4
   obtain ⟨gv,av,ov,hp5⟩:=hp4
   have hp5:PStx w4 base pb g (at_++(o::(fdsToks true m true l++[cc]))) (cc+1) (out++⟨⟨#[102,105,101,108,100,115]⟩,o,0⟩::fdsPre l) gv av ov:=hp5
   obtain ⟨gb,cap,hov,_,_,hlt5,lgb,_,_,xx2⟩:=hp5.2.2.2.1.get (i:=out.length) (p:=⟨⟨#[102,105,101,108,100,115]⟩,o,0⟩) (by simp)
   obtain ⟨N,hN⟩:∃ N,N=(out++(⟨⟨#[102,105,101,108,100,115]⟩,o,0⟩:Pl)::fdsPre l).length:=⟨_,rfl⟩
   rw [← hN] at hov hlt5
   subst hov
   obtain ⟨_,cur,hgc5⟩:=hp5.2.2.2.1.blk (g:=gb) rfl
   have c2:w4.cell? ⟨pb,2,none⟩=some (.int .i64 (cc+1)):=cO hp5.1 2 _ rfl
   have c3:w4.cell? ⟨pb,3,none⟩=some (.slice (some ⟨gb,0,none⟩) N cap):=cO hp5.1 3 _ rfl
   have fx:=fO hgc5 (out.length*3+2)
   have lpb:=ltb hp5.1
   have ne1:pb≠gb:=ne_blk hp5.1 hgc5 (by simp)
   have ne2:gb≠pb:=ne1.symm
   have H5:=a2_ hp5 hq4
   clear hp5 hq4 hgc5 hN hcq hr4 ka1
   go_wp2_with fail
   go_region_held3 (fun w'=>w'.cell? ⟨pb,2,none⟩=some (.int .i64 (cc+1))∧w'.cell? ⟨pb,3,none⟩=some (.slice (some ⟨gb,0,none⟩) N cap))
    (first | (go_keep;done))
    (fail)
   have hcl:=PStx.close (e2:=cc+1) H5.out.1 ((Kp.refl No w4).drew)
   refine bodyPost_end (v:=.tuple #[]) (by simp [results,Tryz.results34,go_sem]) rfl ⟨⟨_,rfl⟩,Fs.of l,o,cc,⟨?_,?_,HOQ.out,by omega,?_,?_,?_,?_⟩,?_,H5.out.2.trans hcl.2⟩
   ·rw [Fs.nds_fds,Fs.nds_fds,Fs.fds_of,HG.out.1.nd]
   ·rw [Fs.ok_fds,Fs.fds_of];exact HG.out.1.ok
   ·rw [Fs.pre_fds,Fs.fds_of];exact HG.out.1.nest.mono (by omega) (by omega)
   ·rw [fds_size];omega
   ·rw [Fs.toks_fds,Fs.fds_of,fds_size];omega
   ·rw [Fs.pre_fds,Fs.fds_of,fds_size];omega
   ·rw [Fs.toks_fds,Fs.pre_fds,Fs.fds_of]
    exact hcl.1
theorem fields_false (f:Fs) (m:Bool) (hF:∀ d∈f.fds,FdC d m):FlC f false m:=by
 intro w B base pb g at_ e out s hp hin hB hb hs
 have hbs:=hp.size
 have hL:=Nd.In_iff.1 hin
 simp only [fl,Nd.l,Fs.nds_fds] at hL
 obtain ⟨q,c,rfl,hc,_⟩:=id hL
 rw [lm_] at hL hc hin ⊢
 simp only [fl,Nd.short,Fs.nds_fds] at hs
 have hsh:=fds_short _ hs.2
 rw [fds_size] at hb
 simp only [Bnd] at hb
 obtain ⟨b1,b2,b3,b4⟩:=hb
 have hlen4:f.fds.length≤Nd.sizeL (f.fds.map Fd.nd):=by have:=Nd.length_le (f.fds.map Fd.nd);simpa using this
 have HL:Hid (Ls w B (.slice q f.fds.length c) (f.fds.map Fd.nd)):=hL
 have HP:=hd_ hp;have HF:=hd_ hF;have HSH:=hd_ hsh
 have hgap:=gapOf_le g at_.length
 clear hp hin hL hF hsh hs
 show Calls _ _ #[_,.agg #[.string ⟨#[102,105,101,108,100,115]⟩,.string ⟨#[]⟩,.slice q f.fds.length c],.string ⟨#[123]⟩,.string ⟨#[]⟩,.string ⟨#[125]⟩,.bool m] _ _
 go_enter Tryz.func34,Tryz.ntmps34
 go_wp2_with fail
 have hk0:Kp No w (w.alloc (.cells #[.string ⟨#[102,105,101,108,100,115]⟩,.string ⟨#[]⟩,.slice q f.fds.length c] 24 (0,0))):=(Kp.refl No w).alloc _
 refine (open_c _ base pb g at_ e out ⟨#[102,105,101,108,100,115]⟩ ⟨#[]⟩ _ (HP.out.on hk0 (by simp)) (by omega) (by omega) (by omega) ⟨_,_,_,rfl⟩).mono ?_
 rintro e1 w1 ⟨rfl,hp1,hq1⟩
 have hx1:=hq1.kn w.heap.size _ _ _ (newOf w _) (by decide) (by decide) (by decide)
 have hq1:=(Kq.of_no hk0).trans hq1
 have H1:=a3_ hp1 hq1 hx1
 clear hp1 hq1 hx1 hk0
 go_wp2_with fail
 have ka1:Kp No w1 (w1.alloc (.cells #[.string ⟨#[123]⟩] 9 (0,0))):=(Kp.refl No w1).alloc _
 refine (tok1_c _ base pb _ 1 g _ _ _ ⟨#[123]⟩ (H1.out.1.on ka1 (by simp)) (newOf w1 _) rfl (by decide) (by omega) (by omega) (by omega)).mono ?_
 rintro e2 w2 ⟨⟨v2,rfl⟩,o,hoq,hp2,hr2⟩
 have hz2:((⟨#[123]⟩:ByteArray)).size=1:=rfl
 rw [hz2] at hp2
 have hx2:=hr2.kn w.heap.size _ _ _ (ka1.at H1.out.2.2 (by simp)) (by decide) (by decide) (by decide)
 have hq2:=(H1.out.2.1.no ka1).trans hr2
 have xs2:=ltb hx2
 have x0:=cO hx2 0 _ rfl;have x1:=cO hx2 1 _ rfl;have x2:=cO hx2 2 _ rfl
 have ho1:e≤o∧o≤e+1000:=by rw [hoq];omega
 have HOQ:=hd_ hoq
 have zs2:=hq2.kp.size
 have hp2:PSt w2 base pb g (at_++[o]) (o+1) (out++[⟨⟨#[102,105,101,108,100,115]⟩,o,0⟩]):=by rw [HOQ.out] at hp2 ⊢;exact hp2
 have H2:=a2_ hp2 hq2
 clear hp2 hq2 hx2 hr2 ka1 hoq
 go_wp2_with fail
 go_loopw [13,14,25] (fun _ _ i wr=>∃ k:Nat,k≤f.fds.length∧i=.int .i64 k∧Kq base w wr∧∃ l f1,FdsG (o+1) false m (f.fds.take k) l f1∧PSt wr base pb g (at_++(o::fdsToks false m true l)) f1 (out++⟨⟨#[102,105,101,108,100,115]⟩,o,0⟩::fdsPre l)) (fun _ _ i _=>f.fds.length - (intOf i).toNat)
 case atStart=>exact ⟨0,Nat.zero_le _,rfl,H2.out.2,[],o+1,FdsG.zero _ _ _,by simpa [fdsToks,fdsPre] using H2.out.1⟩
 case round =>
  obtain ⟨k,hk,rfl,hq,l,f1,hg,hp⟩:=hrel
  by_cases hlt:k < f.fds.length
  ·obtain ⟨d,hd⟩:∃ d,f.fds[k]?=some d:=⟨_,List.getElem?_eq_getElem hlt⟩
   have hdn:(f.fds.map Fd.nd)[k]?=some d.nd:=by rw [List.getElem?_map,hd];rfl
   have htk:f.fds.take (k+1)=f.fds.take k++[d]:=by rw [List.take_add_one,hd];rfl
   have hlen:(f.fds.take k).length=k:=by rw [List.length_take];omega
   have hll:l.length=k:=by rw [hg.len,hlen]
   have hdm:=List.mem_of_getElem? hd
   have hsz:=sizeL_take_le hdn
   rw [← List.map_take] at hsz
   have hf:=hg.fin;have hle:=hg.le;have htl:=hg.tk;have hpl:=hg.pl
   have hzs:=hq.kp.size
   have hds:=Nd.size_pos d.nd
   obtain ⟨b,oo,c',q',dd,he',_,hb,hi,h1,h2,h3,h4,h5⟩:=(HL.out.stay (w':=wr) (fun i hi=>hq.kp.block i (by omega) (by simp only [Fr];omega))).get (i:=k) hdn
   rw [lm_] at he'
   cases he'
   have HG:=a3_ hg hp hq;have HTK:=hd_ htk;have HLL:=hd_ hll;have HIN:=hd_ h4;have HDM:=hd_ hdm
   clear hg hp hq htk h4 hi hd hdn hll hlen hdm
   have hk0:Kp No wr (wr.alloc (.cells #[.string d.nd.k,.string d.nd.t,.slice q' d.nd.l.length dd] 24 (0,0))):=(Kp.refl No wr).alloc _
   have HK0:=hd_ hk0
   by_cases hk1:0 < k
   ·have hk2:decide (0 < k)=true:=decide_eq_true hk1
    go_wp2_with fail
    refine (HF.out d HDM.out _ B base pb g _ f1 _ _ (HG.out.2.1.on HK0.out (by simp)) (HIN.out.stay fun b hb=>Below.heap_alloc _ _ _ (by omega)) hB (by unfold Bnd;simp only [la_,lc_,ln_,lm_];refine ⟨by omega,by omega,by omega,by omega⟩) (HSH.out d HDM.out)).mono ?_
    rintro e3 w3 ⟨⟨v3,rfl⟩,d',hdg,hp3,hq3⟩
    have H3:=a3_ hdg hp3 ((HG.out.2.2.no HK0.out).trans hq3)
    clear hdg hp3 hq3
    go_wp2_with fail
    go_roundw
    case rel =>
     have hdp:=H3.out.1.pos;have hdl:=H3.out.1.le;have hdf:=H3.out.1.fin
     have hgg:=gapOf_le g (at_++o::fdsToks false m true l).length
     refine ⟨k+1,by omega,by go_num,H3.out.2.2,l++[{ d' with c:=fpos d'.ns d'.t }],ffin d'.t d'.tp d'.tag,?_,?_⟩
     ·rw [HTK.out]
      exact HG.out.1.snoc H3.out.1 (by constructor <;> omega) ⟨Int.le_refl _,by omega⟩
     ·rw [fdsToks_snoc,fdsPre_snoc]
      have h9:PSt w3 base pb g (at_++(o::fdsToks false m true l)++d'.toks m) (ffin d'.t d'.tp d'.tag) (out++⟨⟨#[102,105,101,108,100,115]⟩,o,0⟩::fdsPre l++d'.pre):=H3.out.2.1
      skip
      simpa [aa_,Fd.toks,Fd.pre,Fd.pl] using h9
    case measure=>simp [intOf];omega
   ·have hk2:decide (0 < k)=false:=decide_eq_false hk1
    go_wp2_with fail
    refine (HF.out d HDM.out _ B base pb g _ f1 _ _ (HG.out.2.1.on HK0.out (by simp)) (HIN.out.stay fun b hb=>Below.heap_alloc _ _ _ (by omega)) hB (by unfold Bnd;simp only [la_,lc_,ln_,lm_];refine ⟨by omega,by omega,by omega,by omega⟩) (HSH.out d HDM.out)).mono ?_
    rintro e3 w3 ⟨⟨v3,rfl⟩,d',hdg,hp3,hq3⟩
    have H3:=a3_ hdg hp3 ((HG.out.2.2.no HK0.out).trans hq3)
    clear hdg hp3 hq3
    go_wp2_with fail
    go_roundw
    case rel =>
     have hdp:=H3.out.1.pos;have hdl:=H3.out.1.le;have hdf:=H3.out.1.fin
     have hgg:=gapOf_le g (at_++o::fdsToks false m true l).length
     refine ⟨k+1,by omega,by go_num,H3.out.2.2,l++[{ d' with c:=fpos d'.ns d'.t }],ffin d'.t d'.tp d'.tag,?_,?_⟩
     ·rw [HTK.out]
      exact HG.out.1.snoc H3.out.1 (by constructor <;> omega) ⟨Int.le_refl _,by omega⟩
     ·rw [fdsToks_snoc,fdsPre_snoc]
      have h9:PSt w3 base pb g (at_++(o::fdsToks false m true l)++d'.toks m) (ffin d'.t d'.tp d'.tag) (out++⟨⟨#[102,105,101,108,100,115]⟩,o,0⟩::fdsPre l++d'.pre):=H3.out.2.1
      skip
      simpa [aa_,Fd.toks,Fd.pre,Fd.pl] using h9
    case measure=>simp [intOf];omega
  ·have hkn:k=f.fds.length:=by omega
   have htake:f.fds.take k=f.fds:=List.take_of_length_le (by omega)
   rw [htake] at hg
   have hf:=hg.fin;have hle:=hg.le;have htl:=hg.tk;have hpl:=hg.pl
   have HG:=a3_ hg hp hq
   clear hg hp hq htake
   go_wp2_with fail
   have ka1:Kp No wr (wr.alloc (.cells #[.string ⟨#[125]⟩] 9 (0,0))):=(Kp.refl No wr).alloc _
   refine (tok1_c _ base pb _ 1 g _ f1 _ ⟨#[125]⟩ (HG.out.2.1.on ka1 (by simp)) (newOf wr _) rfl (by decide) (by omega) (by omega) (by simp only [la_,lc_,ln_,lm_];omega)).mono ?_
   rintro e4 w4 ⟨⟨v4,rfl⟩,cc,hcq,hp4,hr4⟩
   have hgc:=gapOf_le g (at_++o::fdsToks false m true l).length
   have hz4:((⟨#[125]⟩:ByteArray)).size=1:=rfl
   rw [hz4] at hp4
   have hcc:f1≤cc∧cc≤f1+1000:=by rw [hcq];omega
   have hq4:=(HG.out.2.2.no ka1).trans hr4
   have hp4:PSt w4 base pb g (at_++(o::(fdsToks false m true l++[cc]))) (cc+1) (out++⟨⟨#[102,105,101,108,100,115]⟩,o,0⟩::fdsPre l):=by simpa [aa_] using hp4
   obtain ⟨gv,av,ov,hp5⟩:=hp4
   have hp5:PStx w4 base pb g (at_++(o::(fdsToks false m true l++[cc]))) (cc+1) (out++⟨⟨#[102,105,101,108,100,115]⟩,o,0⟩::fdsPre l) gv av ov:=hp5
   obtain ⟨gb,cap,hov,_,_,hlt5,lgb,_,_,xx2⟩:=hp5.2.2.2.1.get (i:=out.length) (p:=⟨⟨#[102,105,101,108,100,115]⟩,o,0⟩) (by simp)
   obtain ⟨N,hN⟩:∃ N,N=(out++(⟨⟨#[102,105,101,108,100,115]⟩,o,0⟩:Pl)::fdsPre l).length:=⟨_,rfl⟩
   rw [← hN] at hov hlt5
   subst hov
   obtain ⟨_,cur,hgc5⟩:=hp5.2.2.2.1.blk (g:=gb) rfl
   have c2:w4.cell? ⟨pb,2,none⟩=some (.int .i64 (cc+1)):=cO hp5.1 2 _ rfl
   have c3:w4.cell? ⟨pb,3,none⟩=some (.slice (some ⟨gb,0,none⟩) N cap):=cO hp5.1 3 _ rfl
   have fx:=fO hgc5 (out.length*3+2)
   have lpb:=ltb hp5.1
   have ne1:pb≠gb:=ne_blk hp5.1 hgc5 (by simp)
   have ne2:gb≠pb:=ne1.symm
   have H5:=a2_ hp5 hq4
   clear hp5 hq4 hgc5 hN hcq hr4 ka1
   go_wp2_with fail
   go_region_held3 (fun w'=>w'.cell? ⟨pb,2,none⟩=some (.int .i64 (cc+1))∧w'.cell? ⟨pb,3,none⟩=some (.slice (some ⟨gb,0,none⟩) N cap))
    (first | (go_keep;done))
    (fail)
   have hcl:=PStx.close (e2:=cc+1) H5.out.1 ((Kp.refl No w4).drew)
   refine bodyPost_end (v:=.tuple #[]) (by simp [results,Tryz.results34,go_sem]) rfl ⟨⟨_,rfl⟩,Fs.of l,o,cc,⟨?_,?_,HOQ.out,by omega,?_,?_,?_,?_⟩,?_,H5.out.2.trans hcl.2⟩
   ·rw [Fs.nds_fds,Fs.nds_fds,Fs.fds_of,HG.out.1.nd]
   ·rw [Fs.ok_fds,Fs.fds_of];exact HG.out.1.ok
   ·rw [Fs.pre_fds,Fs.fds_of];exact HG.out.1.nest.mono (by omega) (by omega)
   ·rw [fds_size];omega
   ·rw [Fs.toks_fds,Fs.fds_of,fds_size];omega
   ·rw [Fs.pre_fds,Fs.fds_of,fds_size];omega
   ·rw [Fs.toks_fds,Fs.pre_fds,Fs.fds_of]
    exact hcl.1
theorem fields_c (f:Fs) (cm m:Bool) (hF:∀ d∈f.fds,FdC d m):FlC f cm m:=by
 cases cm
 ·exact fields_false f m hF
 ·exact fields_true f m hF
end
section
open Go Go.RowKit
theorem fl_not_miss (l:List Nd):fl l≠.miss:=by
 intro h
 have:=congrArg Nd.k h
 simp [fl,Nd.miss,Nd.k] at this
structure SgG (g at_:List Int) (e:Int) (ps rs:Fs) (b:Bool) (ps':Fs) (o c o':Int) (rs':Fs) (c' f:Int):Prop where
 one:FlG g at_ e ps true false ps' o c
 two:if b then ∃ at2,FlG g at2 (c+1) rs true false rs' o' c'∧f=c'+1 else rs'=.nil∧f=c+1
def sgToks (ps':Fs) (o c:Int) (b:Bool) (o':Int) (rs':Fs) (c':Int):List Int:=(o::(ps'.toks true true false++[c]))++(if b then o'::(rs'.toks true true false++[c']) else [])
def sgPre (ps':Fs) (o c:Int) (b:Bool) (o':Int) (rs':Fs) (c':Int):List Pl:=(⟨⟨#[102,105,101,108,100,115]⟩,o,c+1⟩::ps'.pre)++(if b then ⟨⟨#[102,105,101,108,100,115]⟩,o',c'+1⟩::rs'.pre else [])
theorem signature_true (ps rs:Fs) (hps:FlC ps true false) (hrs:FlC rs true false) (w:World) (B base pb:Nat) (g at_:List Int) (e fr:Int) (out:List Pl) (s:Value) (hp:PSt w base pb g at_ e out) (hin:(Nd.mk ⟨#[115,105,103,110,97,116,117,114,101]⟩ ⟨#[]⟩ [fl ps.nds,fl rs.nds]).In w B s) (hB:B≤base)
 (hb1:1≤e) (hb2:e+16777216*((1+Nd.sizeL ps.nds)+(1+Nd.sizeL rs.nds))≤1125899906842624) (hb3:at_.length+8*((1+Nd.sizeL ps.nds)+(1+Nd.sizeL rs.nds))≤1048576) (hb4:out.length+4*((1+Nd.sizeL ps.nds)+(1+Nd.sizeL rs.nds))+1≤1048575) (hs1:(fl ps.nds).short) (hs2:(fl rs.nds).short) :
 Calls Tryz.prog 28 #[.pointer (some ⟨pb,0,none⟩),.agg #[.string ⟨#[115,105,103,110,97,116,117,114,101]⟩,.string ⟨#[]⟩,s],.int .i64 fr] w fun e' w'=>(∃ v,e'=.returned v)∧∃ ps' o c o' rs' c' f,SgG g at_ e ps rs true ps' o c o' rs' c' f∧PSt w' base pb g (at_++sgToks ps' o c true o' rs' c') f (out++⟨⟨#[115,105,103,110,97,116,117,114,101]⟩,fr,f⟩::sgPre ps' o c true o' rs' c')∧Kq base w w':=by
 have hbs:=hp.size
 have hLs:=hd_ (Nd.In_iff.1 hin)
 obtain ⟨q,c,rfl,hc⟩:=hin.form
 have HL:Hid (Ls w B (.slice q 2 c) [fl ps.nds,fl rs.nds]):=hLs
 have hP0:=hp
 obtain ⟨gv,av,ov,hp⟩:=hp
 have hp:PStx w base pb g at_ e out gv av ov:=hp
 have lpb:=ltb hp.1
 have hq0:Kq base w (w.alloc (.cells #[.string ⟨#[115,105,103,110,97,116,117,114,101]⟩,.string ⟨#[]⟩,.slice q 2 c] 24 (0,0))):=Kq.of_no ((Kp.refl No w).alloc _)
 obtain ⟨W0,hW0⟩:∃ W0,W0=w.alloc (.cells #[.string ⟨#[115,105,103,110,97,116,117,114,101]⟩,.string ⟨#[]⟩,.slice q 2 c] 24 (0,0)):=⟨_,rfl⟩
 have k0:Kp No w W0:=by rw [hW0];exact (Kp.refl No w).alloc _
 have hb0:W0.heap[w.heap.size]?=some (.cells #[.string ⟨#[115,105,103,110,97,116,117,114,101]⟩,.string ⟨#[]⟩,.slice q 2 c] 24 (0,0)):=by rw [hW0];exact newOf w _
 have h0:=hp.drew k0
 obtain ⟨op,oc,hov⟩:=hp.2.2.2.1.form
 subst hov
 have c3:W0.cell? ⟨pb,3,none⟩=some (.slice op out.length oc):=cO h0.1 3 _ rfl
 have f3:=fO h0.1 3
 have c3w:w.cell? ⟨pb,3,none⟩=some (.slice op out.length oc):=cO hp.1 3 _ rfl
 have b0:W0.cell? ⟨w.heap.size,0,none⟩=some (.string ⟨#[115,105,103,110,97,116,117,114,101]⟩):=cO hb0 0 _ rfl
 have b2:W0.cell? ⟨w.heap.size,2,none⟩=some (.slice q 2 c):=cO hb0 2 _ rfl
 have n1:=World.new_ne W0 _ c3
 have n2:=World.new_ne W0 _ b0
 have lb0:=ltb hb0
 have lpb0:=ltb h0.1
 have hne1:pb≠w.heap.size:=by omega
 have hne2:w.heap.size≠pb:=by omega
 have HNE:Hid (∀ b,(Value.slice op out.length oc).ownBlock=some b→b≠pb∧b≠w.heap.size):=by
  intro b hb
  obtain ⟨_,cur,hc⟩:=h0.2.2.2.1.blk hb
  exact ⟨ne_blk hc h0.1 (by simp),ne_blk hc hb0 (by simp)⟩
 have HX:=a3_ h0 k0 hb0
 have HPS:=hd_ hps;have HRS:=hd_ hrs;have HS2:=hd_ hs2;have HS1:=hd_ hs1
 clear hp h0 k0 hb0 hin hLs hP0 hq0 hps hs1 hrs hs2
 show Calls _ _ #[_,.agg #[.string ⟨#[115,105,103,110,97,116,117,114,101]⟩,.string ⟨#[]⟩,.slice q 2 c],_] _ _
 go_enter Tryz.func28,Tryz.ntmps28
 go_wp2_with fail
 rw [← hW0]
 clear hW0
 go_region_law (first
  | (refine step_is_append rfl ?_
     refine step_append_pl (c:=1) (p:=⟨⟨#[115,105,103,110,97,116,117,114,101]⟩,fr,0⟩) (by rfl) (.tmp 18) (.tmp 23) 27 (by rfl) Tryz.underlying27 Tryz.type32 rfl rfl (by decide) rfl (by rfl) (HX.out.1.2.2.2.1.on (by first | exact ((Kp.refl No W0).drew).alloc _ | exact ((Kp.refl No W0).alloc _).drew) (by simp)) (by rfl) (newOf W0 _) (by omega) (by have:=HX.out.1.2.2.2.2.2;simp;omega) (W0.heap.size+1) (by simp) ?_
     intro gb cap w3 hrow3 hgrow3 hat3 hlt3
     have hq:=PStx.opn HX.out.1 (by first | exact ((Kp.refl No W0).drew).alloc _ | exact ((Kp.refl No W0).alloc _).drew) hrow3 hgrow3
     have d3:w3.cell? ⟨pb,3,none⟩=some (.slice op out.length oc):=cO hq.2.2.1 3 _ rfl
     have g3:=fO hq.2.2.1 3
     have lp3:=ltb hq.2.2.1
     have d0:w3.cell? ⟨w.heap.size,0,none⟩=some (.string ⟨#[115,105,103,110,97,116,117,114,101]⟩):=(hq.2.2.2.cell lb0 (fun h=>h.elim (fun h=>hne2 h) (fun h=>(HNE.out _ h).2 rfl))).trans b0
     have HQ:=hd_ hq
     clear hrow3 hgrow3 hat3 hlt3 hq))
 all_goals
  have hz:Kq base W0 (w3.setCell ⟨pb,3,none⟩ (.slice (some ⟨gb,0,none⟩) (out.length+1) cap)):=by
   refine Kq.of_kp HQ.out.2.1 ?_ ?_
   ·rintro i (h | h)
    ·have:=HX.out.1.2.2.2.2.1;omega
    ·exact (HX.out.1.2.2.2.1.blk h).1
   ·rintro i cur T fr' (h | h) hi
    ·subst h
     rw [HX.out.1.1] at hi
     simp at hi
     exact .inl hi.2.1.symm
    ·obtain ⟨_,cur',hc'⟩:=HX.out.1.2.2.2.1.blk h
     rw [hc'] at hi
     simp at hi
     exact .inr (.inr hi.2.1.symm)
  have hpz:PSt (w3.setCell ⟨pb,3,none⟩ (.slice (some ⟨gb,0,none⟩) (out.length+1) cap)) base pb g at_ e (out++[⟨⟨#[115,105,103,110,97,116,117,114,101]⟩,fr,0⟩]):=⟨_,_,_,HQ.out.1⟩
  have hxz:=hz.kn w.heap.size _ _ _ HX.out.2.2 (by decide) (by decide) (by decide)
  have hqz:Kq base w (w3.setCell ⟨pb,3,none⟩ (.slice (some ⟨gb,0,none⟩) (out.length+1) cap)):=(Kq.of_no HX.out.2.1).trans hz
  generalize w3.setCell ⟨pb,3,none⟩ (.slice (some ⟨gb,0,none⟩) (out.length+1) cap)=wz at hz hpz hxz hqz ⊢
  have xz2:=cO hxz 2 _ rfl
  have lz:=ltb hxz
  have HZ:=a2_ hpz hqz
  clear hz hpz hxz hqz d3 g3 lp3 d0 HQ HNE HX c3 f3 c3w b0 b2 n1 n2 lb0 lpb0
  go_wp2_with fail
  go_loopw [8,30] (fun _ i wr=>∃ k:Nat,k≤2∧i=.int .i64 k∧Kq base w wr∧((k=0∧PSt wr base pb g at_ e (out++[⟨⟨#[115,105,103,110,97,116,117,114,101]⟩,fr,0⟩]))∨(k=1∧∃ ps' o c,FlG g at_ e ps true false ps' o c∧PSt wr base pb g (at_++(o::(ps'.toks true true false++[c]))) (c+1) ((out++[⟨⟨#[115,105,103,110,97,116,117,114,101]⟩,fr,0⟩])++⟨⟨#[102,105,101,108,100,115]⟩,o,c+1⟩::ps'.pre))∨(k=2∧∃ ps' o c o' rs' c' f,SgG g at_ e ps rs true ps' o c o' rs' c' f∧PSt wr base pb g (at_++sgToks ps' o c true o' rs' c') f (out++⟨⟨#[115,105,103,110,97,116,117,114,101]⟩,fr,0⟩::sgPre ps' o c true o' rs' c')))) (fun _ i _=>2 - (intOf i).toNat)
  case atStart=>exact ⟨0,by omega,rfl,HZ.out.2,.inl ⟨rfl,HZ.out.1⟩⟩
  case round =>
   obtain ⟨k,hk,rfl,hq,hcase⟩:=hrel
   have hzs:=hq.kp.size
   rcases hcase with ⟨rfl,hp⟩ | ⟨rfl,ps',o,c9,hg,hp⟩ | ⟨rfl,ps',o,c9,o',rs',c',f,hg,hp⟩
   ·obtain ⟨b,oo,cc,q',d,he',hcap,hb,hi,h1,h2,h3,h4,h5⟩:=(HL.out.stay (w':=wr) (fun i hi=>hq.kp.block i (by omega) (by simp only [Fr];omega))).get (i:=0) rfl
    simp only [lc_,ln_,Nat.reduceAdd] at he' hcap
    cases he'
    simp only [Nat.zero_mul,Nat.add_zero] at h1 h2 h3
    have HG:=a3_ hp hq h4
    clear hp hq h4 hi
    have hk0:Kp No wr (wr.alloc (.cells #[.string (fl ps.nds).k,.string (fl ps.nds).t,.slice q' (fl ps.nds).l.length d] 24 (0,0))):=(Kp.refl No wr).alloc _
    go_wp2_with fail
    refine (miss_c (fl ps.nds) _ B _ (HG.out.2.2.stay fun b hb=>Below.heap_alloc _ _ _ (by omega))).mono ?_
    rintro e2 w2 ⟨b2,rfl,hk2,hpm⟩
    have hb2:b2=false:=by
     cases b2 with
     | false=>rfl
     | true=>exact absurd (hpm.1 rfl) (fl_not_miss _)
    subst hb2
    obtain ⟨y0,y1,y2⟩:=nbox hk2
    have hk3:Kp No wr w2:=hk0.trans' hk2
    have HK3:=hd_ hk3
    clear hk2 hpm hk3 hk0
    go_wp2_with fail
    refine (HPS.out w2 B base pb g _ _ _ _ (HG.out.1.on HK3.out (by simp)) (HG.out.2.2.stay fun b hb=>HK3.out.block b (by omega) (by simp)) hB (by unfold Bnd;simp only [la_,lc_,ln_,lm_];refine ⟨by omega,by omega,by omega,by omega⟩) HS1.out).mono ?_
    rintro e3 w4 ⟨⟨v3,rfl⟩,f9,o9,c8,hf9,hp9,hq9⟩
    have H9:=a3_ hf9 hp9 ((HG.out.2.1.no HK3.out).trans hq9)
    clear hf9 hp9 hq9
    go_wp2_with fail
    go_roundw
    case rel=>exact ⟨1,by omega,rfl,H9.out.2.2,.inr (.inl ⟨rfl,f9,o9,c8,H9.out.1,H9.out.2.1⟩)⟩
    case measure=>simp [intOf]
   ·obtain ⟨b,oo,cc,q',d,he',hcap,hb,hi,h1,h2,h3,h4,h5⟩:=(HL.out.stay (w':=wr) (fun i hi=>hq.kp.block i (by omega) (by simp only [Fr];omega))).get (i:=1) rfl
    simp only [lc_,ln_,Nat.reduceAdd] at he' hcap
    cases he'
    simp only [Nat.one_mul] at h1 h2 h3
    have hgf:=hg.fin;have hgt:=hg.tk;have hgl:=hg.pl;have hgp:=hg.lt;have hgo:=hg.pos
    have hgap:=gapOf_le g at_.length
    have HG:=a4_ hp hq h4 hg
    have hoe:e≤o:=by rw [hgo];omega
    clear hp hq h4 hi hg hgo
    have hk0:Kp No wr (wr.alloc (.cells #[.string (fl rs.nds).k,.string (fl rs.nds).t,.slice q' (fl rs.nds).l.length d] 24 (0,0))):=(Kp.refl No wr).alloc _
    go_wp2_with fail
    refine (miss_c (fl rs.nds) _ B _ (HG.out.2.2.1.stay fun b hb=>Below.heap_alloc _ _ _ (by omega))).mono ?_
    rintro e2 w2 ⟨b2,rfl,hk2,hpm⟩
    have hb2:b2=false:=by
     cases b2 with
     | false=>rfl
     | true=>exact absurd (hpm.1 rfl) (fl_not_miss _)
    subst hb2
    obtain ⟨y0,y1,y2⟩:=nbox hk2
    have hk3:Kp No wr w2:=hk0.trans' hk2
    have HK3:=hd_ hk3
    clear hk2 hpm hk3 hk0
    go_wp2_with fail
    refine (HRS.out w2 B base pb g _ _ _ _ (HG.out.1.on HK3.out (by simp)) (HG.out.2.2.1.stay fun b hb=>HK3.out.block b (by omega) (by simp)) hB (by unfold Bnd;simp only [la_,lc_,ln_,lm_];refine ⟨by omega,by omega,by omega,by omega⟩) HS2.out).mono ?_
    rintro e3 w4 ⟨⟨v3,rfl⟩,f9,o9,c8,hf9,hp9,hq9⟩
    have H9:=a3_ hf9 hp9 ((HG.out.2.1.no HK3.out).trans hq9)
    clear hf9 hp9 hq9
    go_wp2_with fail
    go_roundw
    case rel =>
     refine ⟨2,by omega,rfl,H9.out.2.2,.inr (.inr ⟨rfl,ps',o,c9,o9,f9,c8,c8+1,⟨HG.out.2.2.2,?_⟩,?_⟩)⟩
     ·rw [if_pos rfl];exact ⟨_,H9.out.1,rfl⟩
     ·have h9:=H9.out.2.1
      simpa [sgToks,sgPre,aa_] using h9
    case measure=>simp [intOf]
   ·have HG:=a3_ hp hq hg
    obtain ⟨gv5,av5,ov5,hp5⟩:=HG.out.1
    have hp5:PStx wr base pb g (at_++sgToks ps' o c9 true o' rs' c') f (out++⟨⟨#[115,105,103,110,97,116,117,114,101]⟩,fr,0⟩::sgPre ps' o c9 true o' rs' c') gv5 av5 ov5:=hp5
    obtain ⟨gb5,cap5,hov5,_,_,hlt5,lgb5,_,_,xx2⟩:=hp5.2.2.2.1.get (i:=out.length) (p:=⟨⟨#[115,105,103,110,97,116,117,114,101]⟩,fr,0⟩) (by simp)
    obtain ⟨N,hN⟩:∃ N,N=(out++(⟨⟨#[115,105,103,110,97,116,117,114,101]⟩,fr,0⟩:Pl)::sgPre ps' o c9 true o' rs' c').length:=⟨_,rfl⟩
    rw [← hN] at hov5 hlt5
    subst hov5
    obtain ⟨_,cur5,hgc5⟩:=hp5.2.2.2.1.blk (g:=gb5) rfl
    have cc2:wr.cell? ⟨pb,2,none⟩=some (.int .i64 f):=cO hp5.1 2 _ rfl
    have cc3:wr.cell? ⟨pb,3,none⟩=some (.slice (some ⟨gb5,0,none⟩) N cap5):=cO hp5.1 3 _ rfl
    have fx5:=fO hgc5 (out.length*3+2)
    have lpb5:=ltb hp5.1
    have ne15:pb≠gb5:=ne_blk hp5.1 hgc5 (by simp)
    have ne25:gb5≠pb:=ne15.symm
    have H5:=hd_ hp5
    clear hp hq hg hp5 hgc5 hN
    go_wp2_with fail
    go_region_held3 (fun w'=>w'.cell? ⟨pb,2,none⟩=some (.int .i64 f)∧w'.cell? ⟨pb,3,none⟩=some (.slice (some ⟨gb5,0,none⟩) N cap5))
     (first | (go_keep;done))
     (fail)
    have hcl:=PStx.close (e2:=f) H5.out ((Kp.refl No wr).drew)
    exact bodyPost_end (v:=.tuple #[]) (by simp [results,Tryz.results28,go_sem]) rfl ⟨⟨_,rfl⟩,ps',o,c9,o',rs',c',f,HG.out.2.2,hcl.1,HG.out.2.1.trans hcl.2⟩
theorem signature_false (ps rs:Fs) (hps:FlC ps true false) (w:World) (B base pb:Nat) (g at_:List Int) (e fr:Int) (out:List Pl) (s:Value) (hp:PSt w base pb g at_ e out) (hin:(Nd.mk ⟨#[115,105,103,110,97,116,117,114,101]⟩ ⟨#[]⟩ [fl ps.nds,.miss]).In w B s) (hB:B≤base)
 (hb1:1≤e) (hb2:e+16777216*((1+Nd.sizeL ps.nds)+1)≤1125899906842624) (hb3:at_.length+8*((1+Nd.sizeL ps.nds)+1)≤1048576) (hb4:out.length+4*((1+Nd.sizeL ps.nds)+1)+1≤1048575) (hs1:(fl ps.nds).short)  :
 Calls Tryz.prog 28 #[.pointer (some ⟨pb,0,none⟩),.agg #[.string ⟨#[115,105,103,110,97,116,117,114,101]⟩,.string ⟨#[]⟩,s],.int .i64 fr] w fun e' w'=>(∃ v,e'=.returned v)∧∃ ps' o c o' rs' c' f,SgG g at_ e ps rs false ps' o c o' rs' c' f∧PSt w' base pb g (at_++sgToks ps' o c false o' rs' c') f (out++⟨⟨#[115,105,103,110,97,116,117,114,101]⟩,fr,f⟩::sgPre ps' o c false o' rs' c')∧Kq base w w':=by
 have hbs:=hp.size
 have hLs:=hd_ (Nd.In_iff.1 hin)
 obtain ⟨q,c,rfl,hc⟩:=hin.form
 have HL:Hid (Ls w B (.slice q 2 c) [fl ps.nds,.miss]):=hLs
 have hP0:=hp
 obtain ⟨gv,av,ov,hp⟩:=hp
 have hp:PStx w base pb g at_ e out gv av ov:=hp
 have lpb:=ltb hp.1
 have hq0:Kq base w (w.alloc (.cells #[.string ⟨#[115,105,103,110,97,116,117,114,101]⟩,.string ⟨#[]⟩,.slice q 2 c] 24 (0,0))):=Kq.of_no ((Kp.refl No w).alloc _)
 obtain ⟨W0,hW0⟩:∃ W0,W0=w.alloc (.cells #[.string ⟨#[115,105,103,110,97,116,117,114,101]⟩,.string ⟨#[]⟩,.slice q 2 c] 24 (0,0)):=⟨_,rfl⟩
 have k0:Kp No w W0:=by rw [hW0];exact (Kp.refl No w).alloc _
 have hb0:W0.heap[w.heap.size]?=some (.cells #[.string ⟨#[115,105,103,110,97,116,117,114,101]⟩,.string ⟨#[]⟩,.slice q 2 c] 24 (0,0)):=by rw [hW0];exact newOf w _
 have h0:=hp.drew k0
 obtain ⟨op,oc,hov⟩:=hp.2.2.2.1.form
 subst hov
 have c3:W0.cell? ⟨pb,3,none⟩=some (.slice op out.length oc):=cO h0.1 3 _ rfl
 have f3:=fO h0.1 3
 have c3w:w.cell? ⟨pb,3,none⟩=some (.slice op out.length oc):=cO hp.1 3 _ rfl
 have b0:W0.cell? ⟨w.heap.size,0,none⟩=some (.string ⟨#[115,105,103,110,97,116,117,114,101]⟩):=cO hb0 0 _ rfl
 have b2:W0.cell? ⟨w.heap.size,2,none⟩=some (.slice q 2 c):=cO hb0 2 _ rfl
 have n1:=World.new_ne W0 _ c3
 have n2:=World.new_ne W0 _ b0
 have lb0:=ltb hb0
 have lpb0:=ltb h0.1
 have hne1:pb≠w.heap.size:=by omega
 have hne2:w.heap.size≠pb:=by omega
 have HNE:Hid (∀ b,(Value.slice op out.length oc).ownBlock=some b→b≠pb∧b≠w.heap.size):=by
  intro b hb
  obtain ⟨_,cur,hc⟩:=h0.2.2.2.1.blk hb
  exact ⟨ne_blk hc h0.1 (by simp),ne_blk hc hb0 (by simp)⟩
 have HX:=a3_ h0 k0 hb0
 have HPS:=hd_ hps;have HS1:=hd_ hs1
 clear hp h0 k0 hb0 hin hLs hP0 hq0 hps hs1
 show Calls _ _ #[_,.agg #[.string ⟨#[115,105,103,110,97,116,117,114,101]⟩,.string ⟨#[]⟩,.slice q 2 c],_] _ _
 go_enter Tryz.func28,Tryz.ntmps28
 go_wp2_with fail
 rw [← hW0]
 clear hW0
 go_region_law (first
  | (refine step_is_append rfl ?_
     refine step_append_pl (c:=1) (p:=⟨⟨#[115,105,103,110,97,116,117,114,101]⟩,fr,0⟩) (by rfl) (.tmp 18) (.tmp 23) 27 (by rfl) Tryz.underlying27 Tryz.type32 rfl rfl (by decide) rfl (by rfl) (HX.out.1.2.2.2.1.on (by first | exact ((Kp.refl No W0).drew).alloc _ | exact ((Kp.refl No W0).alloc _).drew) (by simp)) (by rfl) (newOf W0 _) (by omega) (by have:=HX.out.1.2.2.2.2.2;simp;omega) (W0.heap.size+1) (by simp) ?_
     intro gb cap w3 hrow3 hgrow3 hat3 hlt3
     have hq:=PStx.opn HX.out.1 (by first | exact ((Kp.refl No W0).drew).alloc _ | exact ((Kp.refl No W0).alloc _).drew) hrow3 hgrow3
     have d3:w3.cell? ⟨pb,3,none⟩=some (.slice op out.length oc):=cO hq.2.2.1 3 _ rfl
     have g3:=fO hq.2.2.1 3
     have lp3:=ltb hq.2.2.1
     have d0:w3.cell? ⟨w.heap.size,0,none⟩=some (.string ⟨#[115,105,103,110,97,116,117,114,101]⟩):=(hq.2.2.2.cell lb0 (fun h=>h.elim (fun h=>hne2 h) (fun h=>(HNE.out _ h).2 rfl))).trans b0
     have HQ:=hd_ hq
     clear hrow3 hgrow3 hat3 hlt3 hq))
 all_goals
  have hz:Kq base W0 (w3.setCell ⟨pb,3,none⟩ (.slice (some ⟨gb,0,none⟩) (out.length+1) cap)):=by
   refine Kq.of_kp HQ.out.2.1 ?_ ?_
   ·rintro i (h | h)
    ·have:=HX.out.1.2.2.2.2.1;omega
    ·exact (HX.out.1.2.2.2.1.blk h).1
   ·rintro i cur T fr' (h | h) hi
    ·subst h
     rw [HX.out.1.1] at hi
     simp at hi
     exact .inl hi.2.1.symm
    ·obtain ⟨_,cur',hc'⟩:=HX.out.1.2.2.2.1.blk h
     rw [hc'] at hi
     simp at hi
     exact .inr (.inr hi.2.1.symm)
  have hpz:PSt (w3.setCell ⟨pb,3,none⟩ (.slice (some ⟨gb,0,none⟩) (out.length+1) cap)) base pb g at_ e (out++[⟨⟨#[115,105,103,110,97,116,117,114,101]⟩,fr,0⟩]):=⟨_,_,_,HQ.out.1⟩
  have hxz:=hz.kn w.heap.size _ _ _ HX.out.2.2 (by decide) (by decide) (by decide)
  have hqz:Kq base w (w3.setCell ⟨pb,3,none⟩ (.slice (some ⟨gb,0,none⟩) (out.length+1) cap)):=(Kq.of_no HX.out.2.1).trans hz
  generalize w3.setCell ⟨pb,3,none⟩ (.slice (some ⟨gb,0,none⟩) (out.length+1) cap)=wz at hz hpz hxz hqz ⊢
  have xz2:=cO hxz 2 _ rfl
  have lz:=ltb hxz
  have HZ:=a2_ hpz hqz
  clear hz hpz hxz hqz d3 g3 lp3 d0 HQ HNE HX c3 f3 c3w b0 b2 n1 n2 lb0 lpb0
  go_wp2_with fail
  go_loopw [8,30] (fun _ i wr=>∃ k:Nat,k≤2∧i=.int .i64 k∧Kq base w wr∧((k=0∧PSt wr base pb g at_ e (out++[⟨⟨#[115,105,103,110,97,116,117,114,101]⟩,fr,0⟩]))∨(k=1∧∃ ps' o c,FlG g at_ e ps true false ps' o c∧PSt wr base pb g (at_++(o::(ps'.toks true true false++[c]))) (c+1) ((out++[⟨⟨#[115,105,103,110,97,116,117,114,101]⟩,fr,0⟩])++⟨⟨#[102,105,101,108,100,115]⟩,o,c+1⟩::ps'.pre))∨(k=2∧∃ ps' o c o' rs' c' f,SgG g at_ e ps rs false ps' o c o' rs' c' f∧PSt wr base pb g (at_++sgToks ps' o c false o' rs' c') f (out++⟨⟨#[115,105,103,110,97,116,117,114,101]⟩,fr,0⟩::sgPre ps' o c false o' rs' c')))) (fun _ i _=>2 - (intOf i).toNat)
  case atStart=>exact ⟨0,by omega,rfl,HZ.out.2,.inl ⟨rfl,HZ.out.1⟩⟩
  case round =>
   obtain ⟨k,hk,rfl,hq,hcase⟩:=hrel
   have hzs:=hq.kp.size
   rcases hcase with ⟨rfl,hp⟩ | ⟨rfl,ps',o,c9,hg,hp⟩ | ⟨rfl,ps',o,c9,o',rs',c',f,hg,hp⟩
   ·obtain ⟨b,oo,cc,q',d,he',hcap,hb,hi,h1,h2,h3,h4,h5⟩:=(HL.out.stay (w':=wr) (fun i hi=>hq.kp.block i (by omega) (by simp only [Fr];omega))).get (i:=0) rfl
    simp only [lc_,ln_,Nat.reduceAdd] at he' hcap
    cases he'
    simp only [Nat.zero_mul,Nat.add_zero] at h1 h2 h3
    have HG:=a3_ hp hq h4
    clear hp hq h4 hi
    have hk0:Kp No wr (wr.alloc (.cells #[.string (fl ps.nds).k,.string (fl ps.nds).t,.slice q' (fl ps.nds).l.length d] 24 (0,0))):=(Kp.refl No wr).alloc _
    go_wp2_with fail
    refine (miss_c (fl ps.nds) _ B _ (HG.out.2.2.stay fun b hb=>Below.heap_alloc _ _ _ (by omega))).mono ?_
    rintro e2 w2 ⟨b2,rfl,hk2,hpm⟩
    have hb2:b2=false:=by
     cases b2 with
     | false=>rfl
     | true=>exact absurd (hpm.1 rfl) (fl_not_miss _)
    subst hb2
    obtain ⟨y0,y1,y2⟩:=nbox hk2
    have hk3:Kp No wr w2:=hk0.trans' hk2
    have HK3:=hd_ hk3
    clear hk2 hpm hk3 hk0
    go_wp2_with fail
    refine (HPS.out w2 B base pb g _ _ _ _ (HG.out.1.on HK3.out (by simp)) (HG.out.2.2.stay fun b hb=>HK3.out.block b (by omega) (by simp)) hB (by unfold Bnd;simp only [la_,lc_,ln_,lm_];refine ⟨by omega,by omega,by omega,by omega⟩) HS1.out).mono ?_
    rintro e3 w4 ⟨⟨v3,rfl⟩,f9,o9,c8,hf9,hp9,hq9⟩
    have H9:=a3_ hf9 hp9 ((HG.out.2.1.no HK3.out).trans hq9)
    clear hf9 hp9 hq9
    go_wp2_with fail
    go_roundw
    case rel=>exact ⟨1,by omega,rfl,H9.out.2.2,.inr (.inl ⟨rfl,f9,o9,c8,H9.out.1,H9.out.2.1⟩)⟩
    case measure=>simp [intOf]
   ·obtain ⟨b,oo,cc,q',d,he',hcap,hb,hi,h1,h2,h3,h4,h5⟩:=(HL.out.stay (w':=wr) (fun i hi=>hq.kp.block i (by omega) (by simp only [Fr];omega))).get (i:=1) rfl
    simp only [lc_,ln_,Nat.reduceAdd] at he' hcap
    cases he'
    simp only [Nat.one_mul] at h1 h2 h3
    have hgf:=hg.fin;have hgt:=hg.tk;have hgl:=hg.pl;have hgp:=hg.lt;have hgo:=hg.pos
    have hgap:=gapOf_le g at_.length
    have HG:=a4_ hp hq h4 hg
    have hoe:e≤o:=by rw [hgo];omega
    clear hp hq h4 hi hg hgo
    have hk0:Kp No wr (wr.alloc (.cells #[.string Nd.miss.k,.string Nd.miss.t,.slice q' Nd.miss.l.length d] 24 (0,0))):=(Kp.refl No wr).alloc _
    go_wp2_with fail
    refine (miss_c .miss _ B _ (HG.out.2.2.1.stay fun b hb=>Below.heap_alloc _ _ _ (by omega))).mono ?_
    rintro e2 w2 ⟨b2,rfl,hk2,hpm⟩
    have hb2:b2=true:=hpm.2 rfl
    subst hb2
    have HK3:=hd_ (hk0.trans' hk2)
    clear hk2 hpm hk0
    go_wp2_with fail
    go_roundw
    case rel =>
     refine ⟨2,by omega,rfl,HG.out.2.1.no HK3.out,.inr (.inr ⟨rfl,ps',o,c9,0,.nil,0,c9+1,⟨HG.out.2.2.2,?_⟩,?_⟩)⟩
     ·simp
     ·have h9:=HG.out.1.on HK3.out (by simp)
      simpa [sgToks,sgPre,aa_] using h9
    case measure=>simp [intOf]
   ·have HG:=a3_ hp hq hg
    obtain ⟨gv5,av5,ov5,hp5⟩:=HG.out.1
    have hp5:PStx wr base pb g (at_++sgToks ps' o c9 false o' rs' c') f (out++⟨⟨#[115,105,103,110,97,116,117,114,101]⟩,fr,0⟩::sgPre ps' o c9 false o' rs' c') gv5 av5 ov5:=hp5
    obtain ⟨gb5,cap5,hov5,_,_,hlt5,lgb5,_,_,xx2⟩:=hp5.2.2.2.1.get (i:=out.length) (p:=⟨⟨#[115,105,103,110,97,116,117,114,101]⟩,fr,0⟩) (by simp)
    obtain ⟨N,hN⟩:∃ N,N=(out++(⟨⟨#[115,105,103,110,97,116,117,114,101]⟩,fr,0⟩:Pl)::sgPre ps' o c9 false o' rs' c').length:=⟨_,rfl⟩
    rw [← hN] at hov5 hlt5
    subst hov5
    obtain ⟨_,cur5,hgc5⟩:=hp5.2.2.2.1.blk (g:=gb5) rfl
    have cc2:wr.cell? ⟨pb,2,none⟩=some (.int .i64 f):=cO hp5.1 2 _ rfl
    have cc3:wr.cell? ⟨pb,3,none⟩=some (.slice (some ⟨gb5,0,none⟩) N cap5):=cO hp5.1 3 _ rfl
    have fx5:=fO hgc5 (out.length*3+2)
    have lpb5:=ltb hp5.1
    have ne15:pb≠gb5:=ne_blk hp5.1 hgc5 (by simp)
    have ne25:gb5≠pb:=ne15.symm
    have H5:=hd_ hp5
    clear hp hq hg hp5 hgc5 hN
    go_wp2_with fail
    go_region_held3 (fun w'=>w'.cell? ⟨pb,2,none⟩=some (.int .i64 f)∧w'.cell? ⟨pb,3,none⟩=some (.slice (some ⟨gb5,0,none⟩) N cap5))
     (first | (go_keep;done))
     (fail)
    have hcl:=PStx.close (e2:=f) H5.out ((Kp.refl No wr).drew)
    exact bodyPost_end (v:=.tuple #[]) (by simp [results,Tryz.results28,go_sem]) rfl ⟨⟨_,rfl⟩,ps',o,c9,o',rs',c',f,HG.out.2.2,hcl.1,HG.out.2.1.trans hcl.2⟩
end
end Go.Proofs.YtnkbglhdpmbgfaaGreatFmt
