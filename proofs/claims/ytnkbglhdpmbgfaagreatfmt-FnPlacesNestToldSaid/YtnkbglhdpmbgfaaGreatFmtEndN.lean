/- The law answers true for every input, and each argument reads as before; fmt's text is told, the laid variables are tied. No condition of its own. -/
import Derived.Test.YtnkbglhdpmbgfaaGreatFmtM
import Derived.Test.YtnkbglhdpmbgfaaGreatFmtM04
import Derived.Test.YtnkbglhdpmbgfaaGreatFmtM12
import Derived.Test.YtnkbglhdpmbgfaaGreatFmtM23
import Derived.Test.YtnkbglhdpmbgfaaGreatFmtTie
import Derived.Test.YtnkbglhdpmbgfaaGreatFmtCards
import Derived.SevenTiedAt
set_option linter.all false
set_option maxHeartbeats 16000000
set_option maxRecDepth 100000
namespace Go.Proofs.YtnkbglhdpmbgfaaGreatFmt
section
open Go Go.RowKit
theorem Dc.pre_head (d:Dc):∃ k tl,d.pre=⟨k,d.pos,d.fin⟩::tl:=by
 cases d <;> exact ⟨_,_,rfl⟩
theorem nest_c (n:Nd) (w:World) (s gv:Value) (g:List Int) (hin:n.In w w.heap.size s) (hg:Ints w w.heap.size gv g) (hT:Tok w) :
 Calls Tryz.prog 3 #[ndv n s,gv] w fun e w'=>e=.returned (.bool true)∧Kp No w w':=by
 have HIN:=hd_ hin;have HG:=hd_ hg;have HT:=hd_ hT
 obtain ⟨q,c,rfl,hc⟩:=hin.form
 obtain ⟨gp,gc,rfl⟩:=hg.form
 clear hin hg hT hc
 go_enter Tryz.func3,Tryz.ntmps3
 have hk0:Kp No w (w.alloc (.cells #[.string n.k,.string n.t,.slice q n.l.length c] 24 (0,0))):=(Kp.refl No w).alloc _
 have hx0:=newOf w (.cells #[.string n.k,.string n.t,.slice q n.l.length c] 24 (0,0))
 generalize hw0:w.alloc (.cells #[.string n.k,.string n.t,.slice q n.l.length c] 24 (0,0))=w0 at hk0 hx0
 have x0:=cO hx0 0 _ rfl
 have x1:=cO hx0 1 _ rfl
 have x2:=cO hx0 2 _ rfl
 have xs:=ltb hx0
 have H0:=a2_ hk0 hx0
 clear hk0 hx0
 go_wp2_with fail
 try rw [hw0]
 clear hw0
 refine (fits_c n w0 w.heap.size _ (HIN.out.stay fun b hb=>H0.out.1.block b hb (by simp))).mono ?_
 rintro e1 w1 ⟨b1,rfl,hk1,_⟩
 have hx1:=hk1.at H0.out.2 (by simp)
 have hk1:=H0.out.1.trans' hk1
 clear x0 x1 x2 xs H0
 have x0:=cO hx1 0 _ rfl
 have x1:=cO hx1 1 _ rfl
 have x2:=cO hx1 2 _ rfl
 have xs:=ltb hx1
 have H1:=a2_ hk1 hx1
 clear hk1 hx1
 cases b1
 ·go_wp2_with fail
  go_ret
  exact ⟨rfl,H1.out.1⟩
 by_cases hbig:g.length > 2147483647
 ·go_wp2_with fail
  go_ret
  exact ⟨rfl,H1.out.1⟩
 go_wp2_with fail
 refine (shaped_c n w1 w.heap.size _ (HIN.out.stay fun b hb=>H1.out.1.block b hb (by simp)) H1.out.1.size).mono ?_
 rintro e2 w2 ⟨b2,rfl,hk2,hq2⟩
 have hx2:=hk2.at H1.out.2 (by simp)
 have hk2:=H1.out.1.trans' hk2
 clear x0 x1 x2 xs H1
 have x0:=cO hx2 0 _ rfl
 have x1:=cO hx2 1 _ rfl
 have x2:=cO hx2 2 _ rfl
 have xs:=ltb hx2
 have H2:=a3_ hk2 hx2 hq2
 clear hk2 hx2 hq2
 cases b2
 ·go_wp2_with fail
  go_ret
  exact ⟨rfl,H2.out.1⟩
 obtain ⟨d,hdn,hsh,hsz,hst⟩:=H2.out.2.2 rfl
 subst hdn
 have HD:=hd_ (dc_c d hsh hsz);have HSZ:=hd_ hsz;have HST:=hd_ hst
 clear hsh hsz hst
 go_wp2_with fail
 refine (splaces_c d HD.out w2 w.heap.size _ _ g (HIN.out.stay fun b hb=>H2.out.1.block b hb (by simp)) H2.out.1.size ((HG.out.stay fun b hb=>H2.out.1.block b hb (by simp)).up H2.out.1.size) HSZ.out HST.out).mono ?_
 rintro e3 w3 ⟨d',av,ov,rfl,hdg,hav,hov,hk3⟩
 have hx3:=hk3.at H2.out.2.1 (by simp)
 have hk3:=H2.out.1.trans' hk3
 clear x0 x1 x2 xs H2
 have x0:=cO hx3 0 _ rfl
 have x1:=cO hx3 1 _ rfl
 have x2:=cO hx3 2 _ rfl
 have xs:=ltb hx3
 have H3:=a5_ hk3 hx3 hdg hav hov
 obtain ⟨ap,ac,rfl⟩:=(Ints.of_row hav).form
 obtain ⟨op,oc,rfl⟩:=hov.form
 clear hk3 hx3 hdg hav hov
 go_wp2_with fail
 have hnd:=H3.out.2.2.1.nd
 have hin3:d'.nd.In w3 w3.heap.size (.slice q d.nd.l.length c):=by
  rw [hnd]
  exact (HIN.out.stay fun b hb=>H3.out.1.block b hb (by simp)).up H3.out.1.size _ _
 have hpl:=places_c d' w3 w3.heap.size _ _ (Ints.of_row H3.out.2.2.2.1) hin3 (Nat.le_refl _) (HT.out.stay H3.out.1 (by simp)) H3.out.2.2.1.ok (by rw [hnd];exact HSZ.out) (by have h1:=H3.out.2.2.1.pl;have h2:=HSZ.out;omega) (by have h1:=H3.out.2.2.1.tk;have h2:=HSZ.out;omega)
 rw [hnd] at hpl
 refine hpl.mono ?_
 clear hpl hin3 hnd
 rintro e4 w4 ⟨⟨v4,rfl,hv4⟩,hk4⟩
 obtain ⟨hk0,tl0,hpre⟩:=Dc.pre_head d'
 have hnest:=H3.out.2.2.1.nest
 obtain ⟨l,hl⟩:∃ l,l=d'.pre:=⟨_,rfl⟩
 obtain ⟨pp,hpp⟩:∃ x,x=d'.pos:=⟨_,rfl⟩
 obtain ⟨ff,hff⟩:∃ x,x=d'.fin:=⟨_,rfl⟩
 rw [← hl] at hpre hv4 hnest
 rw [← hpp,← hff] at hpre hnest
 have hl0:l[0]?=some ⟨hk0,pp,ff⟩:=by rw [hpre];rfl
 have hlpos:0 < l.length:=by rw [hpre];simp
 obtain ⟨gb,cap,rfl,_,hcap,_,hgb,_,y1,y2⟩:=hv4.get hl0
 have hln:l.length≤1048576:=by rw [hl];have h1:=H3.out.2.2.1.pl;have h2:=HSZ.out;omega
 have H4:=a3_ hv4 hk4 hnest
 clear hv4 hk4 x0 x1 x2 hl hpp hff hpre hl0 hnest
 simp only [Nat.zero_mul,Nat.zero_add] at y1 y2
 go_wp2_with fail
 go_loopw [8,9,11,34] (fun _ _ _ i wr=>∃ k:Nat,k≤l.length∧i=.int .i64 k∧Kp No w4 wr) (fun _ _ _ i _=>l.length - (intOf i).toNat)
 case atStart=>exact ⟨0,Nat.zero_le _,rfl,Kp.refl No _⟩
 case round =>
  obtain ⟨k,hk,rfl,hkp⟩:=hrel
  by_cases hlt:k < l.length
  ·obtain ⟨x,hx⟩:∃ x,l[k]?=some x:=⟨_,List.getElem?_eq_getElem hlt⟩
   obtain ⟨g1,cc1,he1,_,_,_,hg1,s1,s2,s3⟩:=(H4.out.1.on hkp (by simp)).get hx
   cases he1
   have z1:=(hkp.cell (o:=1) hgb (by simp)).trans y1
   have z2:=(hkp.cell (o:=2) hgb (by simp)).trans y2
   have hbx:=H4.out.2.2.1 x (List.mem_of_getElem? hx)
   have e1:decide (x.a > x.b)=false:=decide_eq_false (by omega)
   have e2:decide (x.a < pp)=false:=decide_eq_false (by omega)
   have e3:decide (x.b > ff)=false:=decide_eq_false (by omega)
   have HK:=a2_ hkp hx
   clear hkp hx
   go_wp2_with fail
   go_region_held3 (fun w'=>w'.cell? ⟨gb,1,none⟩=some (.int .i64 pp)∧w'.cell? ⟨gb,2,none⟩=some (.int .i64 ff)∧w'.cell? ⟨wr.heap.size,1,none⟩=some (.int .i64 x.a)∧w'.cell? ⟨wr.heap.size,2,none⟩=some (.int .i64 x.b))
    (first | (go_keep;done))
    (fail)
   clear e1 e2 e3 z1 z2 s1 s2 s3
   have hkX:Kp No wr (wr.alloc (.cells #[.string x.k,.int .i64 x.a,.int .i64 x.b] 32 (0,0))).drew:=((Kp.refl No wr).alloc _).drew
   have hnX:(wr.alloc (.cells #[.string x.k,.int .i64 x.a,.int .i64 x.b] 32 (0,0))).drew.heap[wr.heap.size]?=some (.cells #[.string x.k,.int .i64 x.a,.int .i64 x.b] 32 (0,0)):=newOf wr (.cells #[.string x.k,.int .i64 x.a,.int .i64 x.b] 32 (0,0))
   obtain ⟨WX,hWX⟩:∃ W,W=(wr.alloc (.cells #[.string x.k,.int .i64 x.a,.int .i64 x.b] 32 (0,0))).drew:=⟨_,rfl⟩
   rw [← hWX] at hkX hnX
   have HX:=a2_ hkX hnX
   clear hkX hnX
   by_cases hc:cap=k+1
   ·go_wp2_with fail
    rw [← hWX]
    clear hWX
    go_loopw [11,67] (fun _ i w2=>∃ j:Nat,j≤l.length - (k+1)∧i=.int .i64 j∧Kp No WX w2) (fun _ i _=>l.length - (intOf i).toNat)
    case atStart=>exact ⟨0,Nat.zero_le _,rfl,Kp.refl No _⟩
    case round =>
     obtain ⟨j,hj,rfl,hkp2⟩:=hrel
     have hj0:¬ j < l.length - (k+1):=by omega
     have HK2:=hd_ hkp2
     clear hkp2
     go_wp2_with fail
     go_roundw
     case rel=>exact ⟨k+1,by omega,by go_num,HK.out.1.trans' (HX.out.1.trans' HK2.out)⟩
     case measure=>simp [intOf];omega
   ·go_wp2_with fail
    rw [← hWX]
    clear hWX
    go_loopw [11,67] (fun _ i w2=>∃ j:Nat,j≤l.length - (k+1)∧i=.int .i64 j∧Kp No WX w2) (fun _ i _=>l.length - (intOf i).toNat)
    case atStart=>exact ⟨0,Nat.zero_le _,rfl,Kp.refl No _⟩
    case round =>
     obtain ⟨j,hj,rfl,hkp2⟩:=hrel
     by_cases hlt2:j < l.length - (k+1)
     ·obtain ⟨y,hy⟩:∃ y,l[k+1+j]?=some y:=⟨_,List.getElem?_eq_getElem (by omega)⟩
      have hXg:=HX.out.1.size
      obtain ⟨g1,cc1,he1,_,_,_,hg2,s1,s2,s3⟩:=(H4.out.1.on (HK.out.1.trans' (HX.out.1.trans' hkp2)) (by simp)).get hy
      cases he1
      rw [show (k+1+j)*3=(k+1)*3+j*3 by omega] at s1 s2 s3
      have hn2:=hkp2.at HX.out.2 (by simp)
      have z1:=cO hn2 1 _ rfl
      have z2:=cO hn2 2 _ rfl
      have hlt9:=ltb hn2
      have hno:=H4.out.2.2.two (i:=k) (j:=k+1+j) (by omega) HK.out.2 hy
      have HK2:=hd_ hkp2
      have HNO:=hd_ hno
      clear hkp2 hn2 hno hy
      by_cases q1:y.a < x.b
      ·by_cases q2:y.b > x.b
       ·have q3:¬ y.a > x.a:=fun h=>HNO.out ⟨q1,q2,h⟩
        go_wp2_with fail
        go_roundw
        case rel=>exact ⟨j+1,by omega,by go_num,(HK2.out.alloc _)⟩
        case measure=>simp [intOf];omega
       ·go_wp2_with fail
        go_roundw
        case rel=>exact ⟨j+1,by omega,by go_num,(HK2.out.alloc _)⟩
        case measure=>simp [intOf];omega
      ·go_wp2_with fail
       go_roundw
       case rel=>exact ⟨j+1,by omega,by go_num,(HK2.out.alloc _)⟩
       case measure=>simp [intOf];omega
     ·have HK2:=hd_ hkp2
      clear hkp2
      go_wp2_with fail
      go_roundw
      case rel=>exact ⟨k+1,by omega,by go_num,HK.out.1.trans' (HX.out.1.trans' HK2.out)⟩
      case measure=>simp [intOf];omega
  ·have HK:=hd_ hkp
   clear hkp
   go_wp2_with fail
   go_ret
   exact ⟨rfl,H3.out.1.trans' (H4.out.2.1.trans' HK.out)⟩
end
section
open Go Go.ChangeShapes Go.WideShapes Go.ChangeAt Go.RowKit
set_option maxRecDepth 100000
abbrev nLaw:Prop:=∀ (n:Nd) (w:World) (s gv:Value) (g:List Int),n.In w w.heap.size s→Ints w w.heap.size gv g→Tok w→Calls Tryz.prog 3 #[ndv n s,gv] w fun e w'=>e=.returned (.bool true)∧Kp No w w'
theorem n_lifted (hC:nLaw) (os:Os) (started:os.Started) (H:Type) (enc:TypeId × Value→H) :
 ReturnsInTold Option.none {} Tryz.checked os 3 .any Input.okWide ((OpenSpec.ofChange Rows.fnPlacesNestSpec).preRow enc Tryz.prog Tryz.f3 [] false Rows.fnPlacesNestRow.laid) (fun F=>((OpenSpec.ofChange Rows.fnPlacesNestSpec).at F.told).post enc Tryz.prog Tryz.f3 false true false false) (aloneAtReturn Tryz.prog) nothingAlways:=by
 refine returnsInTold_of_row (C:=Tryz.checked) (s:=OpenSpec.ofChange Rows.fnPlacesNestSpec) (by kernel_rfl) ownK started (by kernel_rfl) Tryz.func3
  (OpenSpec.witness_stopped_at (enc:=enc) (C:=Tryz.checked) false (World.laidAll Tryz.prog os Rows.fnPlacesNestRow.laid) #[.agg #[.string ⟨#[]⟩,.string ⟨#[]⟩,.slice none 0 0],.slice none 0 0] (World.laidAll_os _ _ _) (by kernel_rfl) (by kernel_rfl) (by kernel_rfl)
    (OpenSpec.preRow_of_B rfl 8 (by kernel_rfl) (by kernel_rfl) (by rw [MakeChecks.laidMetH_plain _ _ _ (by kernel_rfl)];exact laidMet_laidAll _ (by kernel_rfl) (by kernel_rfl)))) ?_
 intro F W base0 args ds gs before _ hF hval0 hW _ _ _ hL _
 have hW':=hW
 obtain ⟨p,q,hA0,hV0,rfl,hfz,hnd⟩:=hW
 have hA:DataW.TrodAll enc Tryz.prog W 0 (fun _=>true) true Tryz.f3.params.toList args.toList ds p:=hA0
 rw [Tryz.params3] at hA
 obtain ⟨v0,v1,d0,d1,p0,p1,rfl,rfl,rfl,h0,h1⟩:=trodAll_two hA
 have k0:=h0
 have k1:=h1
 obtain ⟨f0,h0⟩:=h0
 obtain ⟨f1,h1⟩:=h1
 have hval:∀ (j:Nat) t v,Tryz.f3.params[j]?=some t→(#[v0,v1]:Array Value)[j]?=some v→Value.okWide Tryz.prog W .any base0 t v:=hval0
 rw [Tryz.params3] at hval
 obtain ⟨⟨cs0⟩,rfl,_⟩:=okWide_struct Tryz.underlying24 (hval 0 24 v0 rfl rfl)
 obtain ⟨ga,gl,gc,rfl⟩:=okWide_slice Tryz.underlying25 (hval 1 25 v1 rfl rfl)
 obtain ⟨n,s,hcs,hin⟩:=open_node f0 _ _ h0
 obtain ⟨g,gv,hgv,hg⟩:=open_gaps h1
 have hcs:cs0=[.string n.k,.string n.t,s]:=hcs
 subst hcs
 have hgv:[Value.slice ga gl gc]=[gv]:=hgv
 simp only [List.cons.injEq,and_true] at hgv
 subst hgv
 obtain ⟨g1,rfl⟩:∃ g1,gs=[g1]:=by
  match gs,hV0 with
  | [g1],_=>exact ⟨g1,rfl⟩
  | _::_::_,h=>obtain ⟨_,_,_,_,_,_,_,_,_,_,h,_⟩:=h;exact h.elim
 have hV:DataW.TrodVars enc Tryz.prog W (fun _=>true) ["loop.example/pub-gosourcefiles/pub/goparse_go_token.tokens"] [g1] q:=hV0
 have hlt:∀ x∈p0++p1,x.block < W.heap.size:=fun x hx=>hW'.lt x (by simp only [List.mem_append] at hx ⊢;exact .inl hx)
 refine (hC n W s _ g hin hg (tok_of_laid hL)).mono ?_
 rintro e W' ⟨rfl,hk⟩
 have hB:=hk.below
 refine ⟨_,rfl,_,_,_,[],p0++p1,q,hW',trodAll_mk1 (shut_bool Tryz.underlying4 _),trodAll_mk2 (Below.trod laidOut (by kernel_rfl) (of_decide_eq_true (by kernel_rfl)) k0 hB fun x hx=>hlt x (by simp [hx])) (Below.trod laidOut (by kernel_rfl) (of_decide_eq_true (by kernel_rfl)) k1 hB fun x hx=>hlt x (by simp [hx])),hB.trodVars laidOut (by kernel_rfl) hV,hB.frame _,fun h=>by cases h⟩
end
section
open Go Go.Extern.Stop Go.Stop Go.Extern
set_option maxRecDepth 100000
theorem stops:Tryz.pinned.checked.prog.stops=["fmt.Sprintf, its operands' methods called"]:=by kernel_rfl
theorem stopKnobs:Tryz.pinned.checked.prog.stopKnobs=[]:=by kernel_rfl
theorem quiet (os:Os):Stop.quiet Tryz.pinned.checked.prog os:=by
 intro k hk
 rw [stopKnobs] at hk
 cases hk
theorem n_card (hC:nLaw):Rows.FnPlacesNestToldSaid :=
 Claim7.holds_of_told_tied_any_at .later 3 Tryz.f3 "fmt.Sprintf, its operands' methods called" [] [] _ _ _ _ _ (by kernel_rfl) rfl rfl rfl laidOut (by kernel_rfl) rfl ⟨rfl,rfl,rfl,rfl,rfl,rfl,rfl⟩ rfl rfl (by kernel_rfl) (by kernel_rfl) Tryz.func3 (by kernel_rfl)
  (of_decide_eq_true (by kernel_rfl)) (of_decide_eq_true (by kernel_rfl)) stops.symm rfl stopKnobs.symm (by kernel_rfl)
  (by kernel_rfl) (by kernel_rfl) (by kernel_rfl) (by kernel_rfl) (by kernel_rfl) (by kernel_rfl) (by kernel_rfl) (by kernel_rfl) (by kernel_rfl) rfl (by kernel_rfl) rfl rfl
  rfl rfl
  rfl (by kernel_rfl) (by kernel_rfl) (by kernel_rfl) (by decide) (by kernel_rfl) fnPlacesNest_row_tie
  (OpenClaim.moreEntering_of (by kernel_rfl) (by kernel_rfl) (by kernel_rfl) (by kernel_rfl) (by kernel_rfl) (by kernel_rfl) (by kernel_rfl) (by kernel_rfl) (by kernel_rfl) (by kernel_rfl))
  ⟨_,WideRow.started_initial,quiet _⟩
  (fun os started _ H enc _=>n_lifted hC os started H enc)
end
section
open Go Go.RowKit
theorem n_holds:Rows.FnPlacesNestToldSaid:=n_card fun n w s gv g h1 h2 h3=>nest_c n w s gv g h1 h2 h3
#print axioms n_holds
end
end Go.Proofs.YtnkbglhdpmbgfaaGreatFmt
