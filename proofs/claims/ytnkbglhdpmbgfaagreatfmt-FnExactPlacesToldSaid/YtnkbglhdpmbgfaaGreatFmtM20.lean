/- A part of the proof; no condition: Pos, PosD, PosE, Vis, WalkH. -/
import Derived.Test.YtnkbglhdpmbgfaaGreatFmtM
import Derived.Test.YtnkbglhdpmbgfaaGreatFmtM19
import Derived.Deep.RegionHeld3
import Derived.Deep.QuietTactic
import Derived.BigQuiet
import Derived.IntWalk
import Derived.Deep.RegionLaw
set_option linter.all false
set_option maxHeartbeats 16000000
set_option maxRecDepth 100000
namespace Go.Proofs.YtnkbglhdpmbgfaaGreatFmt
section
open Go Go.RowKit
def PosP (t:Ty):Prop:=∀ (z:Bool) (w:World) (F:Nat→Prop) (u:Value),t.At w F u→t.ok z→Calls Tryz.prog t.fpos #[u] w fun e w'=>e=.returned (.int .i64 t.pos)∧Kp No w w'
def EndP (t:Ty):Prop:=∀ (z:Bool) (w:World) (F:Nat→Prop) (u:Value),t.At w F u→t.ok z→Calls Tryz.prog t.fend #[u] w fun e w'=>e=.returned (.int .i64 t.fin)∧Kp No w w'
theorem idend_c (w:World) (F:Nat→Prop) (p:Int) (s:ByteArray) (u:Value) (h:IdAt w F p s u) (hp:Pk p) (hs:s.size≤1048576):Calls Tryz.prog 126 #[u] w fun e w'=>e=.returned (.int .i64 (p+s.size))∧∃ m,w'=w.drewN m:=by
 obtain ⟨b,rfl,_,hb⟩:=h
 have c0:=cO hb 0 _ rfl
 have c1:=cO hb 1 _ rfl
 unfold Pk at hp
 obtain ⟨hp1,hp2⟩:=hp
 clear hb
 have hw:IntKind.i64.wrap (p+(s.size:Int))=p+s.size:=IntWalk.i64_in _ (by omega)
 go_enter Tryz.func126,Tryz.ntmps126
 go_wp2_with fail
 go_quiet (fail)
 go_wp2_with fail
 go_ret
 exact ⟨rfl,_,rfl⟩
theorem idpos_c (w:World) (F:Nat→Prop) (p:Int) (s:ByteArray) (u:Value) (h:IdAt w F p s u):Calls Tryz.prog 127 #[u] w fun e w'=>e=.returned (.int .i64 p)∧w'=w:=by
 obtain ⟨b,rfl,_,hb⟩:=h
 have c0:=cO hb 0 _ rfl
 clear hb
 go_enter Tryz.func127,Tryz.ntmps127
 go_wp2_with fail
 go_ret
 exact ⟨rfl,rfl⟩
theorem litpos_c (w:World) (F:Nat→Prop) (p:Int) (s:ByteArray) (u:Value) (h:LitAt w F p s u):Calls Tryz.prog 145 #[u] w fun e w'=>e=.returned (.int .i64 p)∧w'=w:=by
 obtain ⟨b,rfl,_,hb⟩:=h
 have c0:=cO hb 0 _ rfl
 clear hb
 go_enter Tryz.func145,Tryz.ntmps145
 go_wp2_with fail
 go_ret
 exact ⟨rfl,rfl⟩
theorem litend_c (w:World) (F:Nat→Prop) (p:Int) (s:ByteArray) (u:Value) (h:LitAt w F p s u) (hp:Pk p):Calls Tryz.prog 125 #[u] w fun e w'=>e=.returned (.int .i64 (p+s.size))∧w'=w:=by
 obtain ⟨b,rfl,_,hb⟩:=h
 have c1:=cO hb 1 _ rfl
 unfold Pk at hp
 clear hb
 go_enter Tryz.func125,Tryz.ntmps125
 go_wp2_with fail
 refine (kvalid_c _ _).mono ?_
 rintro e w1 ⟨rfl,rfl⟩
 rw [show decide (p+(s.size:Int)≠0)=true by simp;omega]
 go_wp2_with fail
 go_ret
 exact ⟨rfl,rfl⟩
theorem flpos_c (w:World) (F:Nat→Prop) (o c:Int) (f:Fs) (u:Value) (h:FlAt w F o f c u) (hp:Pk o):Calls Tryz.prog 122 #[u] w fun e w'=>e=.returned (.int .i64 o)∧w'=w:=by
 obtain ⟨s,us,⟨b,rfl,_,hb⟩,_⟩:=h
 have c0:=cO hb 0 _ rfl
 unfold Pk at hp
 clear hb
 go_enter Tryz.func122,Tryz.ntmps122
 go_wp2_with fail
 refine (kvalid_c _ _).mono ?_
 rintro e w1 ⟨rfl,rfl⟩
 rw [show decide (o≠0)=true by simp;omega]
 go_wp2_with fail
 go_ret
 exact ⟨rfl,rfl⟩
theorem flend_c (w:World) (F:Nat→Prop) (o c:Int) (f:Fs) (u:Value) (h:FlAt w F o f c u) (hp:Pk c):Calls Tryz.prog 121 #[u] w fun e w'=>e=.returned (.int .i64 (c+1))∧w'=w:=by
 obtain ⟨s,us,⟨b,rfl,_,hb⟩,_⟩:=h
 have c0:=cO hb 2 _ rfl
 unfold Pk at hp
 clear hb
 go_enter Tryz.func121,Tryz.ntmps121
 go_wp2_with fail
 refine (kvalid_c _ _).mono ?_
 rintro e w1 ⟨rfl,rfl⟩
 rw [show decide (c≠0)=true by simp;omega]
 go_wp2_with fail
 go_ret
 exact ⟨rfl,rfl⟩
theorem pos_name_c (p:Int) (s:ByteArray):PosP (.name p s):=by
 intro z w F u h hok
 exact (idpos_c w F p s u h).mono fun e w' h=>⟨h.1,by rw [h.2];exact Kp.refl No _⟩
theorem pos_lit_c (p:Int) (s:ByteArray):PosP (.lit p s):=by
 intro z w F u h hok
 exact (litpos_c w F p s u h).mono fun e w' h=>⟨h.1,by rw [h.2];exact Kp.refl No _⟩
theorem end_name_c (p:Int) (s:ByteArray):EndP (.name p s):=by
 intro z w F u h hok
 simp only [Ty.ok] at hok
 exact (idend_c w F p s u h hok.2.1 hok.2.2).mono fun e w' h=>⟨h.1,by obtain ⟨m,hm⟩:=h.2;rw [hm];exact (Kp.refl No _).drewN m⟩
theorem end_lit_c (p:Int) (s:ByteArray):EndP (.lit p s):=by
 intro z w F u h hok
 simp only [Ty.ok] at hok
 exact (litend_c w F p s u h hok.2.1).mono fun e w' h=>⟨h.1,by rw [h.2];exact Kp.refl No _⟩
theorem pos_sel_c (x:Ty) (d p:Int) (s:ByteArray) (hx:PosP x):PosP (.sel x d p s):=by
 intro z w F u h hok
 simp only [Ty.At] at h
 simp only [Ty.ok] at hok
 obtain ⟨v,i,⟨b,rfl,_,hb⟩,hat,_⟩:=h
 obtain ⟨vb,rfl⟩:=hat.ptr
 have c0:=cO hb 0 _ rfl;clear hb
 have n1:=ty_nv_Pos x (some ⟨vb,0,none⟩);have n2:=ty_mv_Pos x;have n3:=ty_call_Pos x
 have HX:=hd_ (hx false w F (.pointer (some ⟨vb,0,none⟩)) hat hok.2.1)
 simp only [Ty.fpos,Ty.pos]
 go_enter Tryz.func157,Tryz.ntmps157
 go_wp2_with fail
 refine HX.out.mono ?_
 rintro e w1 ⟨rfl,hk⟩
 go_wp2_with fail
 go_ret
 exact ⟨rfl,hk⟩
theorem pos_star_c (p:Int) (x:Ty):PosP (.star p x):=by
 intro z w F u h hok
 simp only [Ty.At] at h
 simp only [Ty.ok] at hok
 obtain ⟨v,⟨b,rfl,_,hb⟩,_⟩:=h
 have c0:=cO hb 0 _ rfl;clear hb
 simp only [Ty.fpos,Ty.pos]
 go_enter Tryz.func160,Tryz.ntmps160
 go_wp2_with fail
 go_ret
 exact ⟨rfl,Kp.refl No _⟩
theorem pos_sl_c (p q:Int) (x:Ty):PosP (.sl p q x):=by
 intro z w F u h hok
 simp only [Ty.At] at h
 simp only [Ty.ok] at hok
 obtain ⟨v,⟨b,rfl,_,hb⟩,_⟩:=h
 have c0:=cO hb 0 _ rfl;clear hb
 simp only [Ty.fpos,Ty.pos]
 go_enter Tryz.func163,Tryz.ntmps163
 go_wp2_with fail
 go_ret
 exact ⟨rfl,Kp.refl No _⟩
theorem pos_arr_c (p:Int) (l:Ty) (q:Int) (x:Ty):PosP (.arr p l q x):=by
 intro z w F u h hok
 simp only [Ty.At] at h
 simp only [Ty.ok] at hok
 obtain ⟨v,v',⟨b,rfl,_,hb⟩,_⟩:=h
 have c0:=cO hb 0 _ rfl;clear hb
 simp only [Ty.fpos,Ty.pos]
 go_enter Tryz.func163,Tryz.ntmps163
 go_wp2_with fail
 go_ret
 exact ⟨rfl,Kp.refl No _⟩
theorem pos_map_c (p q:Int) (k:Ty) (r:Int) (x:Ty):PosP (.map p q k r x):=by
 intro z w F u h hok
 simp only [Ty.At] at h
 simp only [Ty.ok] at hok
 obtain ⟨v,v',⟨b,rfl,_,hb⟩,_⟩:=h
 have c0:=cO hb 0 _ rfl;clear hb
 simp only [Ty.fpos,Ty.pos]
 go_enter Tryz.func166,Tryz.ntmps166
 go_wp2_with fail
 go_ret
 exact ⟨rfl,Kp.refl No _⟩
theorem pos_ch_c (p:Int) (x:Ty):PosP (.ch p x):=by
 intro z w F u h hok
 simp only [Ty.At] at h
 simp only [Ty.ok] at hok
 obtain ⟨a,v,⟨b,rfl,_,hb⟩,_⟩:=h
 have c0:=cO hb 0 _ rfl;clear hb
 simp only [Ty.fpos,Ty.pos]
 go_enter Tryz.func169,Tryz.ntmps169
 go_wp2_with fail
 go_ret
 exact ⟨rfl,Kp.refl No _⟩
theorem pos_chs_c (p q:Int) (x:Ty):PosP (.chs p q x):=by
 intro z w F u h hok
 simp only [Ty.At] at h
 simp only [Ty.ok] at hok
 obtain ⟨a,v,⟨b,rfl,_,hb⟩,_⟩:=h
 have c0:=cO hb 0 _ rfl;clear hb
 simp only [Ty.fpos,Ty.pos]
 go_enter Tryz.func169,Tryz.ntmps169
 go_wp2_with fail
 go_ret
 exact ⟨rfl,Kp.refl No _⟩
theorem pos_chr_c (p q:Int) (x:Ty):PosP (.chr p q x):=by
 intro z w F u h hok
 simp only [Ty.At] at h
 simp only [Ty.ok] at hok
 obtain ⟨a,v,⟨b,rfl,_,hb⟩,_⟩:=h
 have c0:=cO hb 0 _ rfl;clear hb
 simp only [Ty.fpos,Ty.pos]
 go_enter Tryz.func169,Tryz.ntmps169
 go_wp2_with fail
 go_ret
 exact ⟨rfl,Kp.refl No _⟩
theorem pos_struct_c (p o:Int) (f:Fs) (c:Int):PosP (.struct p o f c):=by
 intro z w F u h hok
 simp only [Ty.At] at h
 simp only [Ty.ok] at hok
 obtain ⟨v,⟨b,rfl,_,hb⟩,_⟩:=h
 have c0:=cO hb 0 _ rfl;clear hb
 simp only [Ty.fpos,Ty.pos]
 go_enter Tryz.func172,Tryz.ntmps172
 go_wp2_with fail
 go_ret
 exact ⟨rfl,Kp.refl No _⟩
theorem pos_iface_c (p o:Int) (f:Fs) (c:Int):PosP (.iface p o f c):=by
 intro z w F u h hok
 simp only [Ty.At] at h
 simp only [Ty.ok] at hok
 obtain ⟨v,⟨b,rfl,_,hb⟩,_⟩:=h
 have c0:=cO hb 0 _ rfl;clear hb
 simp only [Ty.fpos,Ty.pos]
 go_enter Tryz.func175,Tryz.ntmps175
 go_wp2_with fail
 go_ret
 exact ⟨rfl,Kp.refl No _⟩
theorem end_sel_c (x:Ty) (d p:Int) (s:ByteArray):EndP (.sel x d p s):=by
 intro z w F u h hok
 simp only [Ty.At] at h
 simp only [Ty.ok] at hok
 obtain ⟨v,i,⟨b,rfl,_,hb⟩,_,hi⟩:=h
 obtain ⟨ib,rfl⟩:=hi.ptr
 have c0:=cO hb 1 _ rfl;clear hb
 have HI:=hd_ hi;clear hi
 have HO:=hd_ hok;clear hok
 simp only [Ty.fend,Ty.fin]
 go_enter Tryz.func156,Tryz.ntmps156
 go_wp2_with fail
 refine (idend_c w F p s _ HI.out HO.out.2.2.2.1 HO.out.2.2.2.2).mono ?_
 rintro e w1 ⟨rfl,m,rfl⟩
 go_wp2_with fail
 go_ret
 exact ⟨rfl,(Kp.refl No _).drewN m⟩
theorem end_star_c (p:Int) (x:Ty) (hx:EndP x):EndP (.star p x):=by
 intro z w F u h hok
 simp only [Ty.At] at h
 simp only [Ty.ok] at hok
 obtain ⟨v,⟨b,rfl,_,hb⟩,hat⟩:=h
 obtain ⟨vb,rfl⟩:=hat.ptr
 have c0:=cO hb 1 _ rfl;clear hb
 have n1:=ty_nv_End x (some ⟨vb,0,none⟩);have n2:=ty_mv_End x;have n3:=ty_call_End x
 have HX:=hd_ (hx false w F (.pointer (some ⟨vb,0,none⟩)) hat hok.2.2)
 simp only [Ty.fend,Ty.fin]
 go_enter Tryz.func159,Tryz.ntmps159
 go_wp2_with fail
 refine HX.out.mono ?_
 rintro e w1 ⟨rfl,hk⟩
 go_wp2_with fail
 go_ret
 exact ⟨rfl,hk⟩
theorem end_sl_c (p q:Int) (x:Ty) (hx:EndP x):EndP (.sl p q x):=by
 intro z w F u h hok
 simp only [Ty.At] at h
 simp only [Ty.ok] at hok
 obtain ⟨v,⟨b,rfl,_,hb⟩,hat⟩:=h
 obtain ⟨vb,rfl⟩:=hat.ptr
 have c0:=cO hb 2 _ rfl;clear hb
 have n1:=ty_nv_End x (some ⟨vb,0,none⟩);have n2:=ty_mv_End x;have n3:=ty_call_End x
 have HX:=hd_ (hx false w F (.pointer (some ⟨vb,0,none⟩)) hat hok.2.2.2)
 simp only [Ty.fend,Ty.fin]
 go_enter Tryz.func162,Tryz.ntmps162
 go_wp2_with fail
 refine HX.out.mono ?_
 rintro e w1 ⟨rfl,hk⟩
 go_wp2_with fail
 go_ret
 exact ⟨rfl,hk⟩
theorem end_arr_c (p:Int) (l:Ty) (q:Int) (x:Ty) (hx:EndP x):EndP (.arr p l q x):=by
 intro z w F u h hok
 simp only [Ty.At] at h
 simp only [Ty.ok] at hok
 obtain ⟨v,v',⟨b,rfl,_,hb⟩,_,hat⟩:=h
 obtain ⟨vb,rfl⟩:=hat.ptr
 have c0:=cO hb 2 _ rfl;clear hb
 have n1:=ty_nv_End x (some ⟨vb,0,none⟩);have n2:=ty_mv_End x;have n3:=ty_call_End x
 have HX:=hd_ (hx false w F (.pointer (some ⟨vb,0,none⟩)) hat hok.2.2.2.2)
 simp only [Ty.fend,Ty.fin]
 go_enter Tryz.func162,Tryz.ntmps162
 go_wp2_with fail
 refine HX.out.mono ?_
 rintro e w1 ⟨rfl,hk⟩
 go_wp2_with fail
 go_ret
 exact ⟨rfl,hk⟩
theorem end_map_c (p q:Int) (k:Ty) (r:Int) (x:Ty) (hx:EndP x):EndP (.map p q k r x):=by
 intro z w F u h hok
 simp only [Ty.At] at h
 simp only [Ty.ok] at hok
 obtain ⟨v,v',⟨b,rfl,_,hb⟩,_,hat⟩:=h
 obtain ⟨vb,rfl⟩:=hat.ptr
 have c0:=cO hb 2 _ rfl;clear hb
 have n1:=ty_nv_End x (some ⟨vb,0,none⟩);have n2:=ty_mv_End x;have n3:=ty_call_End x
 have HX:=hd_ (hx false w F (.pointer (some ⟨vb,0,none⟩)) hat hok.2.2.2.2.2)
 simp only [Ty.fend,Ty.fin]
 go_enter Tryz.func165,Tryz.ntmps165
 go_wp2_with fail
 refine HX.out.mono ?_
 rintro e w1 ⟨rfl,hk⟩
 go_wp2_with fail
 go_ret
 exact ⟨rfl,hk⟩
theorem end_ch_c (p:Int) (x:Ty) (hx:EndP x):EndP (.ch p x):=by
 intro z w F u h hok
 simp only [Ty.At] at h
 simp only [Ty.ok] at hok
 obtain ⟨a,v,⟨b,rfl,_,hb⟩,hat⟩:=h
 obtain ⟨vb,rfl⟩:=hat.ptr
 have c0:=cO hb 3 _ rfl;clear hb
 have n1:=ty_nv_End x (some ⟨vb,0,none⟩);have n2:=ty_mv_End x;have n3:=ty_call_End x
 have HX:=hd_ (hx false w F (.pointer (some ⟨vb,0,none⟩)) hat hok.2.2)
 simp only [Ty.fend,Ty.fin]
 go_enter Tryz.func168,Tryz.ntmps168
 go_wp2_with fail
 refine HX.out.mono ?_
 rintro e w1 ⟨rfl,hk⟩
 go_wp2_with fail
 go_ret
 exact ⟨rfl,hk⟩
theorem end_chs_c (p q:Int) (x:Ty) (hx:EndP x):EndP (.chs p q x):=by
 intro z w F u h hok
 simp only [Ty.At] at h
 simp only [Ty.ok] at hok
 obtain ⟨a,v,⟨b,rfl,_,hb⟩,hat⟩:=h
 obtain ⟨vb,rfl⟩:=hat.ptr
 have c0:=cO hb 3 _ rfl;clear hb
 have n1:=ty_nv_End x (some ⟨vb,0,none⟩);have n2:=ty_mv_End x;have n3:=ty_call_End x
 have HX:=hd_ (hx false w F (.pointer (some ⟨vb,0,none⟩)) hat hok.2.2.2)
 simp only [Ty.fend,Ty.fin]
 go_enter Tryz.func168,Tryz.ntmps168
 go_wp2_with fail
 refine HX.out.mono ?_
 rintro e w1 ⟨rfl,hk⟩
 go_wp2_with fail
 go_ret
 exact ⟨rfl,hk⟩
theorem end_chr_c (p q:Int) (x:Ty) (hx:EndP x):EndP (.chr p q x):=by
 intro z w F u h hok
 simp only [Ty.At] at h
 simp only [Ty.ok] at hok
 obtain ⟨a,v,⟨b,rfl,_,hb⟩,hat⟩:=h
 obtain ⟨vb,rfl⟩:=hat.ptr
 have c0:=cO hb 3 _ rfl;clear hb
 have n1:=ty_nv_End x (some ⟨vb,0,none⟩);have n2:=ty_mv_End x;have n3:=ty_call_End x
 have HX:=hd_ (hx false w F (.pointer (some ⟨vb,0,none⟩)) hat hok.2.2.2)
 simp only [Ty.fend,Ty.fin]
 go_enter Tryz.func168,Tryz.ntmps168
 go_wp2_with fail
 refine HX.out.mono ?_
 rintro e w1 ⟨rfl,hk⟩
 go_wp2_with fail
 go_ret
 exact ⟨rfl,hk⟩
theorem end_struct_c (p o:Int) (f:Fs) (c:Int):EndP (.struct p o f c):=by
 intro z w F u h hok
 simp only [Ty.At] at h
 simp only [Ty.ok] at hok
 obtain ⟨v,⟨b,rfl,_,hb⟩,hat⟩:=h
 have hat:FlAt w F o f c v:=hat
 obtain ⟨vb,rfl⟩:=hat.ptr
 have c0:=cO hb 1 _ rfl;clear hb
 have HI:=hd_ hat;clear hat
 have HO:=hd_ hok;clear hok
 simp only [Ty.fend,Ty.fin]
 go_enter Tryz.func171,Tryz.ntmps171
 go_wp2_with fail
 refine (flend_c w F o c f _ HI.out HO.out.2.2.2.2).mono ?_
 rintro e w1 ⟨rfl,rfl⟩
 go_wp2_with fail
 go_ret
 exact ⟨rfl,Kp.refl No _⟩
theorem end_iface_c (p o:Int) (f:Fs) (c:Int):EndP (.iface p o f c):=by
 intro z w F u h hok
 simp only [Ty.At] at h
 simp only [Ty.ok] at hok
 obtain ⟨v,⟨b,rfl,_,hb⟩,hat⟩:=h
 have hat:FlAt w F o f c v:=hat
 obtain ⟨vb,rfl⟩:=hat.ptr
 have c0:=cO hb 1 _ rfl;clear hb
 have HI:=hd_ hat;clear hat
 have HO:=hd_ hok;clear hok
 simp only [Ty.fend,Ty.fin]
 go_enter Tryz.func174,Tryz.ntmps174
 go_wp2_with fail
 refine (flend_c w F o c f _ HI.out HO.out.2.2.2.2).mono ?_
 rintro e w1 ⟨rfl,rfl⟩
 go_wp2_with fail
 go_ret
 exact ⟨rfl,Kp.refl No _⟩
theorem end_sigt_c (p o:Int) (ps:Fs) (c o':Int) (rs:Fs) (c':Int):EndP ((.sig p o ps c true o' rs c')):=by
 intro z w F u h hok
 simp only [Ty.At] at h
 simp only [Ty.ok] at hok
 obtain ⟨v,v',⟨b,rfl,_,hb⟩,hat,hat'⟩:=h
 simp only [if_true] at hat' hok
 have hat':FlAt w F o' rs c' v':=hat'
 obtain ⟨vc,rfl⟩:=hat'.ptr
 have c3:=cO hb 3 _ rfl;clear hb
 have HI:=hd_ hat';clear hat'
 have HO:=hd_ hok;clear hok
 simp only [Ty.fend,Ty.fin]
 go_enter Tryz.func119,Tryz.ntmps119
 go_wp2_with fail
 refine (flend_c w F o' c' rs _ HI.out HO.out.2.2.2.2.2.2).mono ?_
 rintro e w1 ⟨rfl,rfl⟩
 go_wp2_with fail
 go_ret
 exact ⟨rfl,Kp.refl No _⟩
theorem end_sigf_c (p o:Int) (ps:Fs) (c o':Int) (rs:Fs) (c':Int):EndP ((.sig p o ps c false o' rs c')):=by
 intro z w F u h hok
 simp only [Ty.At] at h
 simp only [Ty.ok] at hok
 obtain ⟨v,v',⟨b,rfl,_,hb⟩,hat,hat'⟩:=h
 simp only [Bool.false_eq_true,if_false] at hat' hok
 subst hat'
 have hat:FlAt w F o ps c v:=hat
 obtain ⟨vc,rfl⟩:=hat.ptr
 have c3:=cO hb 3 _ rfl;have c2:=cO hb 2 _ rfl;clear hb
 have HI:=hd_ hat;clear hat
 have HO:=hd_ hok;clear hok
 simp only [Ty.fend,Ty.fin]
 go_enter Tryz.func119,Tryz.ntmps119
 go_wp2_with fail
 refine (flend_c w F o c ps _ HI.out HO.out.2.2.2.1).mono ?_
 rintro e w1 ⟨rfl,rfl⟩
 go_wp2_with fail
 go_ret
 exact ⟨rfl,Kp.refl No _⟩
theorem pos_sig_c (p o:Int) (ps:Fs) (c:Int) (b:Bool) (o':Int) (rs:Fs) (c':Int):PosP (.sig p o ps c b o' rs c'):=by
 intro z w F u h hok
 simp only [Ty.At] at h
 obtain ⟨v,v',⟨b0,rfl,_,hb⟩,hat,_⟩:=h
 have hat:FlAt w F o ps c v:=hat
 obtain ⟨vb,rfl⟩:=hat.ptr
 have c0:=cO hb 0 _ rfl;have c2:=cO hb 2 _ rfl;clear hb
 have hoo:Pk o:=by simp only [Ty.ok] at hok;exact hok.2.1
 have HI:=hd_ hat;clear hat hok
 have HO:=hd_ hoo;clear hoo
 simp only [Ty.fpos,Ty.pos]
 by_cases hp:p=0
 ·subst hp
  go_enter Tryz.func120,Tryz.ntmps120
  go_wp2_with fail
  refine (kvalid_c _ _).mono ?_
  rintro e w1 ⟨rfl,rfl⟩
  rw [show decide ((0:Int)≠0)=false from rfl]
  go_wp2_with fail
  refine (flpos_c _ F o c ps _ HI.out HO.out).mono ?_
  rintro e w2 ⟨rfl,rfl⟩
  go_wp2_with fail
  go_ret
  exact ⟨by simp,Kp.refl No _⟩
 ·go_enter Tryz.func120,Tryz.ntmps120
  go_wp2_with fail
  refine (kvalid_c _ _).mono ?_
  rintro e w1 ⟨rfl,rfl⟩
  rw [show decide (p≠0)=true by simpa using hp]
  go_wp2_with fail
  go_ret
  exact ⟨by simp [hp],Kp.refl No _⟩
theorem pos_c:∀ t:Ty,PosP t
 | .name p s=>pos_name_c p s
 | .lit p s=>pos_lit_c p s
 | .sel x d p s=>pos_sel_c x d p s (pos_c x)
 | .star p x=>pos_star_c p x
 | .sl p q x=>pos_sl_c p q x
 | .arr p l q x=>pos_arr_c p l q x
 | .map p q k r v=>pos_map_c p q k r v
 | .ch p x=>pos_ch_c p x
 | .chs p q x=>pos_chs_c p q x
 | .chr p q x=>pos_chr_c p q x
 | .sig p o ps c b o' rs c'=>pos_sig_c p o ps c b o' rs c'
 | .struct p o f c=>pos_struct_c p o f c
 | .iface p o f c=>pos_iface_c p o f c
theorem end_c:∀ t:Ty,EndP t
 | .name p s=>end_name_c p s
 | .lit p s=>end_lit_c p s
 | .sel x d p s=>end_sel_c x d p s
 | .star p x=>end_star_c p x (end_c x)
 | .sl p q x=>end_sl_c p q x (end_c x)
 | .arr p l q x=>end_arr_c p l q x (end_c x)
 | .map p q k r v=>end_map_c p q k r v (end_c v)
 | .ch p x=>end_ch_c p x (end_c x)
 | .chs p q x=>end_chs_c p q x (end_c x)
 | .chr p q x=>end_chr_c p q x (end_c x)
 | .sig p o ps c true o' rs c'=>end_sigt_c p o ps c o' rs c'
 | .sig p o ps c false o' rs c'=>end_sigf_c p o ps c o' rs c'
 | .struct p o f c=>end_struct_c p o f c
 | .iface p o f c=>end_iface_c p o f c
end
section
open Go Go.RowKit
attribute [local go_sem ↓] Go.wp_at_zero Go.wp_at_succ
def Fd.okz (d:Fd):Prop:=(∀ n∈d.ns,n.ok)∧(∃ z,d.t.ok z)∧Pk d.tp∧d.tag.size≤1048576
abbrev Ret (n:Int) (w:World):Ending→World→Prop:=fun e w'=>e=.returned (.int .i64 n)∧Kp No w w'
theorem fdpos_n (n:Nm) (ns:List Nm) (t:Ty) (tp:Int) (tag:ByteArray) (w:World) (F:Nat→Prop) (u:Value) (h:FdAt w F (n::ns) t tp tag u):Calls Tryz.prog 124 #[u] w (Ret (n.p) w):=by
 obtain ⟨s,vs,v,g,⟨b,rfl,_,hb⟩,hr,hn,_⟩:=h
 obtain ⟨iu,vs',rfl,hi,_⟩:=hn
 obtain ⟨gb,gc,rfl,hc,_,_,hlt⟩:=hr.get (i:=0) rfl
 have hgl:=World.block_lt_of_cell? w _ hc
 have hlen:0 < (iu::vs').length:=hlt
 generalize (iu::vs').length=nn at *
 have c1:=cO hb 1 _ rfl;clear hb hr
 have HI:=hd_ hi;clear hi
 go_enter Tryz.func124,Tryz.ntmps124
 go_wp2_with fail
 refine (idpos_c _ F n.p n.s _ HI.out).mono ?_
 rintro e w1 ⟨rfl,rfl⟩
 go_wp2_with fail
 go_ret
 exact ⟨rfl,Kp.refl No _⟩
theorem fdpos_e (t:Ty) (tp:Int) (tag:ByteArray) (w:World) (F:Nat→Prop) (u:Value) (h:FdAt w F [] t tp tag u) (z:Bool) (hok:t.ok z):Calls Tryz.prog 124 #[u] w (Ret (t.pos) w):=by
 obtain ⟨s,vs,v,g,⟨b,rfl,_,hb⟩,hr,hn,hat,_⟩:=h
 obtain rfl:vs=[]:=hn
 obtain ⟨sp,sc,rfl⟩:=hr.form
 obtain ⟨vb,rfl⟩:=hat.ptr
 have c1:=cO hb 1 _ rfl;have c2:=cO hb 2 _ rfl;clear hb hr
 have n1:=ty_nv_Pos t (some ⟨vb,0,none⟩);have n2:=ty_mv_Pos t;have n3:=ty_call_Pos t
 have HX:=hd_ (pos_c t z w F (.pointer (some ⟨vb,0,none⟩)) hat hok)
 clear hat hok
 simp only [ln_] at c1
 go_enter Tryz.func124,Tryz.ntmps124
 go_wp2_with fail
 refine HX.out.mono ?_
 rintro e w1 ⟨rfl,hk⟩
 go_wp2_with fail
 go_ret
 exact ⟨rfl,hk⟩
theorem fdend_t (ns:List Nm) (t:Ty) (tp:Int) (tag:ByteArray) (w:World) (F:Nat→Prop) (u:Value) (h:FdAt w F ns t tp tag u) (ht:tag.size≠0) (hp:Pk tp):Calls Tryz.prog 123 #[u] w (Ret (tp+tag.size) w):=by
 obtain ⟨s,vs,v,g,⟨b,rfl,_,hb⟩,_,_,_,hg⟩:=h
 rw [if_neg ht] at hg
 obtain ⟨gb,rfl⟩:=hg.ptr
 have c3:=cO hb 3 _ rfl;clear hb
 have HI:=hd_ hg;clear hg
 have HP:=hd_ hp;clear hp ht
 go_enter Tryz.func123,Tryz.ntmps123
 go_wp2_with fail
 refine (litend_c _ F tp tag _ HI.out HP.out).mono ?_
 rintro e w1 ⟨rfl,rfl⟩
 go_wp2_with fail
 go_ret
 exact ⟨rfl,Kp.refl No _⟩
theorem fdend_x (ns:List Nm) (t:Ty) (tp:Int) (tag:ByteArray) (w:World) (F:Nat→Prop) (u:Value) (h:FdAt w F ns t tp tag u) (ht:tag.size=0) (z:Bool) (hok:t.ok z):Calls Tryz.prog 123 #[u] w (Ret (t.fin) w):=by
 obtain ⟨s,vs,v,g,⟨b,rfl,_,hb⟩,hr,hn,hat,hg⟩:=h
 rw [if_pos ht] at hg
 subst hg
 obtain ⟨vb,rfl⟩:=hat.ptr
 have c3:=cO hb 3 _ rfl;have c2:=cO hb 2 _ rfl;clear hb hr
 have n1:=ty_nv_End t (some ⟨vb,0,none⟩);have n2:=ty_mv_End t;have n3:=ty_call_End t
 have HX:=hd_ (end_c t z w F (.pointer (some ⟨vb,0,none⟩)) hat hok)
 clear hat hok ht
 go_enter Tryz.func123,Tryz.ntmps123
 go_wp2_with fail
 refine HX.out.mono ?_
 rintro e w1 ⟨rfl,hk⟩
 go_wp2_with fail
 go_ret
 exact ⟨rfl,hk⟩
theorem bdpos_c (o c:Int) (w:World) (F:Nat→Prop) (u:Value) (h:BdAt w F (some (o,c)) u):Calls Tryz.prog 137 #[u] w (Ret (o) w):=by
 obtain ⟨b,rfl,_,hb⟩:=h
 have c0:=cO hb 0 _ rfl;clear hb
 go_enter Tryz.func137,Tryz.ntmps137
 go_wp2_with fail
 go_ret
 exact ⟨rfl,Kp.refl No _⟩
theorem bdend_c (o c:Int) (w:World) (F:Nat→Prop) (u:Value) (h:BdAt w F (some (o,c)) u) (hc:Pk c):Calls Tryz.prog 118 #[u] w (Ret (c+1) w):=by
 obtain ⟨b,rfl,_,hb⟩:=h
 unfold Pk at hc
 have c0:=cO hb 2 _ rfl;clear hb
 go_enter Tryz.func118,Tryz.ntmps118
 go_wp2_with fail
 refine (kvalid_c _ _).mono ?_
 rintro e w1 ⟨rfl,rfl⟩
 rw [show decide (c≠0)=true by simp;omega]
 go_wp2_with fail
 go_ret
 exact ⟨rfl,Kp.refl No _⟩
theorem itpos_path (p:Int) (s:ByteArray) (w:World) (F:Nat→Prop) (u:Value) (h:It.At w F (.path p s) u):Calls Tryz.prog 147 #[u] w (Ret (p) w):=by
 obtain ⟨v,⟨b,rfl,_,hb⟩,hl⟩:=h
 obtain ⟨lb,rfl⟩:=hl.ptr
 have c1:=cO hb 1 _ rfl;have c2:=cO hb 2 _ rfl;clear hb
 have HI:=hd_ hl;clear hl
 go_enter Tryz.func147,Tryz.ntmps147
 go_wp2_with fail
 refine (litpos_c _ F p s _ HI.out).mono ?_
 rintro e w1 ⟨rfl,rfl⟩
 go_wp2_with fail
 go_ret
 exact ⟨rfl,Kp.refl No _⟩
theorem itpos_pathn (q:Int) (m:ByteArray) (p:Int) (s:ByteArray) (w:World) (F:Nat→Prop) (u:Value) (h:It.At w F (.pathn q m p s) u):Calls Tryz.prog 147 #[u] w (Ret (q) w):=by
 obtain ⟨i,v,⟨b,rfl,_,hb⟩,hi,_⟩:=h
 obtain ⟨ib,rfl⟩:=hi.ptr
 have c1:=cO hb 1 _ rfl;clear hb
 have HI:=hd_ hi;clear hi
 go_enter Tryz.func147,Tryz.ntmps147
 go_wp2_with fail
 refine (idpos_c _ F q m _ HI.out).mono ?_
 rintro e w1 ⟨rfl,rfl⟩
 go_wp2_with fail
 go_ret
 exact ⟨rfl,Kp.refl No _⟩
theorem itend_path (p:Int) (s:ByteArray) (w:World) (F:Nat→Prop) (u:Value) (h:It.At w F (.path p s) u) (hp:Pk p):Calls Tryz.prog 146 #[u] w (Ret (p+s.size) w):=by
 obtain ⟨v,⟨b,rfl,_,hb⟩,hl⟩:=h
 obtain ⟨lb,rfl⟩:=hl.ptr
 have c4:=cO hb 4 _ rfl;have c2:=cO hb 2 _ rfl;clear hb
 have HI:=hd_ hl;clear hl
 have HP:=hd_ hp;clear hp
 go_enter Tryz.func146,Tryz.ntmps146
 go_wp2_with fail
 refine (litend_c _ F p s _ HI.out HP.out).mono ?_
 rintro e w1 ⟨rfl,rfl⟩
 go_wp2_with fail
 go_ret
 exact ⟨rfl,Kp.refl No _⟩
theorem itend_pathn (q:Int) (m:ByteArray) (p:Int) (s:ByteArray) (w:World) (F:Nat→Prop) (u:Value) (h:It.At w F (.pathn q m p s) u) (hp:Pk p):Calls Tryz.prog 146 #[u] w (Ret (p+s.size) w):=by
 obtain ⟨i,v,⟨b,rfl,_,hb⟩,_,hl⟩:=h
 obtain ⟨lb,rfl⟩:=hl.ptr
 have c4:=cO hb 4 _ rfl;have c2:=cO hb 2 _ rfl;clear hb
 have HI:=hd_ hl;clear hl
 have HP:=hd_ hp;clear hp
 go_enter Tryz.func146,Tryz.ntmps146
 go_wp2_with fail
 refine (litend_c _ F p s _ HI.out HP.out).mono ?_
 rintro e w1 ⟨rfl,rfl⟩
 go_wp2_with fail
 go_ret
 exact ⟨rfl,Kp.refl No _⟩
theorem itpos_type (p:Int) (s:ByteArray) (t:Ty) (w:World) (F:Nat→Prop) (u:Value) (h:It.At w F (.type p s t) u):Calls Tryz.prog 154 #[u] w (Ret (p) w):=by
 obtain ⟨i,x,⟨b,rfl,_,hb⟩,hi,_⟩:=h
 obtain ⟨ib,rfl⟩:=hi.ptr
 have c1:=cO hb 1 _ rfl;clear hb
 have HI:=hd_ hi;clear hi
 go_enter Tryz.func154,Tryz.ntmps154
 go_wp2_with fail
 refine (idpos_c _ F p s _ HI.out).mono ?_
 rintro e w1 ⟨rfl,rfl⟩
 go_wp2_with fail
 go_ret
 exact ⟨rfl,Kp.refl No _⟩
theorem itend_type (p:Int) (s:ByteArray) (t:Ty) (w:World) (F:Nat→Prop) (u:Value) (h:It.At w F (.type p s t) u) (hok:t.ok false):Calls Tryz.prog 153 #[u] w (Ret (t.fin) w):=by
 obtain ⟨i,x,⟨b,rfl,_,hb⟩,_,hat⟩:=h
 obtain ⟨vb,rfl⟩:=hat.ptr
 have c4:=cO hb 4 _ rfl;clear hb
 have n1:=ty_nv_End t (some ⟨vb,0,none⟩);have n2:=ty_mv_End t;have n3:=ty_call_End t
 have HX:=hd_ (end_c t false w F (.pointer (some ⟨vb,0,none⟩)) hat hok)
 clear hat hok
 go_enter Tryz.func153,Tryz.ntmps153
 go_wp2_with fail
 refine HX.out.mono ?_
 rintro e w1 ⟨rfl,hk⟩
 go_wp2_with fail
 go_ret
 exact ⟨rfl,hk⟩
theorem itpos_alias (p:Int) (s:ByteArray) (q:Int) (t:Ty) (w:World) (F:Nat→Prop) (u:Value) (h:It.At w F (.alias p s q t) u):Calls Tryz.prog 154 #[u] w (Ret (p) w):=by
 obtain ⟨i,x,⟨b,rfl,_,hb⟩,hi,_⟩:=h
 obtain ⟨ib,rfl⟩:=hi.ptr
 have c1:=cO hb 1 _ rfl;clear hb
 have HI:=hd_ hi;clear hi
 go_enter Tryz.func154,Tryz.ntmps154
 go_wp2_with fail
 refine (idpos_c _ F p s _ HI.out).mono ?_
 rintro e w1 ⟨rfl,rfl⟩
 go_wp2_with fail
 go_ret
 exact ⟨rfl,Kp.refl No _⟩
theorem itend_alias (p:Int) (s:ByteArray) (q:Int) (t:Ty) (w:World) (F:Nat→Prop) (u:Value) (h:It.At w F (.alias p s q t) u) (hok:t.ok false):Calls Tryz.prog 153 #[u] w (Ret (t.fin) w):=by
 obtain ⟨i,x,⟨b,rfl,_,hb⟩,_,hat⟩:=h
 obtain ⟨vb,rfl⟩:=hat.ptr
 have c4:=cO hb 4 _ rfl;clear hb
 have n1:=ty_nv_End t (some ⟨vb,0,none⟩);have n2:=ty_mv_End t;have n3:=ty_call_End t
 have HX:=hd_ (end_c t false w F (.pointer (some ⟨vb,0,none⟩)) hat hok)
 clear hat hok
 go_enter Tryz.func153,Tryz.ntmps153
 go_wp2_with fail
 refine HX.out.mono ?_
 rintro e w1 ⟨rfl,hk⟩
 go_wp2_with fail
 go_ret
 exact ⟨rfl,hk⟩
theorem itpos_value (n:Nm) (ns:List Nm) (t:Option Ty) (vs:List (Int × Ty)) (w:World) (F:Nat→Prop) (u:Value) (h:It.At w F (.value (n::ns) t vs) u):Calls Tryz.prog 151 #[u] w (Ret (n.p) w):=by
 obtain ⟨s,us,y,zz,zs,⟨b,rfl,_,hb⟩,hr,hn,_⟩:=h
 obtain ⟨iu,vs',rfl,hi,_⟩:=hn
 obtain ⟨gb,gc,rfl,hc,_,_,hlt⟩:=hr.get (i:=0) rfl
 have hlen:0 < (iu::vs').length:=hlt
 generalize (iu::vs').length=nn at *
 have c1:=cO hb 1 _ rfl;clear hb hr
 have HI:=hd_ hi;clear hi
 go_enter Tryz.func151,Tryz.ntmps151
 go_wp2_with fail
 refine (idpos_c _ F n.p n.s _ HI.out).mono ?_
 rintro e w1 ⟨rfl,rfl⟩
 go_wp2_with fail
 go_ret
 exact ⟨rfl,Kp.refl No _⟩
theorem LAt.last {α:Type} {At:World→(Nat→Prop)→α→Value→Prop} {w:World} {F:Nat→Prop} (d:α):∀ (l:List α) (us:List Value),LAt At w F (l++[d]) us→∃ u,us[l.length]?=some u∧At w F d u∧us.length=l.length+1
 | [],us,h=>by
  obtain ⟨u,us',rfl,h1,rfl⟩:=h
  exact ⟨u,rfl,h1,rfl⟩
 | m::l,us,h=>by
  obtain ⟨v,us',rfl,_,h2⟩:=h
  obtain ⟨u,h3,h4,h5⟩:=LAt.last d l us' h2
  exact ⟨u,by simpa using h3,h4,by simp [h5]⟩
theorem NmsAt.last {w:World} {F:Nat→Prop} (d:Nm):∀ (l:List Nm) (us:List Value),NmsAt w F (l++[d]) us→∃ u,us[l.length]?=some u∧IdAt w F d.p d.s u∧us.length=l.length+1
 | [],us,h=>by
  obtain ⟨u,us',rfl,h1,rfl⟩:=h
  exact ⟨u,rfl,h1,rfl⟩
 | m::l,us,h=>by
  obtain ⟨v,us',rfl,_,h2⟩:=h
  obtain ⟨u,h3,h4,h5⟩:=NmsAt.last d l us' h2
  exact ⟨u,by simpa using h3,h4,by simp [h5]⟩
theorem itend_valuev (ns:List Nm) (t:Option Ty) (vs:List (Int × Ty)) (d:Int × Ty) (w:World) (F:Nat→Prop) (u:Value) (h:It.At w F (.value ns t (vs++[d])) u) (hl:vs.length≤400) (hok:d.2.ok false):Calls Tryz.prog 150 #[u] w (Ret (d.2.fin) w):=by
 obtain ⟨s,us,y,zz,zs,⟨b,rfl,_,hb⟩,_,_,_,hz,hv⟩:=h
 obtain ⟨du,hdu,⟨x,rfl,hat⟩,hdl⟩:=LAt.last d vs zs hv
 obtain ⟨gb,gc,rfl,hc,_,_,hlt⟩:=hz.get hdu
 obtain ⟨vb,rfl⟩:=hat.ptr
 rw [hdl] at hb
 have c3:=cO hb 3 _ rfl;clear hb hz hdu hv hdl hlt
 have n1:=ty_nv_End d.2 (some ⟨vb,0,none⟩);have n2:=ty_mv_End d.2;have n3:=ty_call_End d.2
 have HX:=hd_ (end_c d.2 false w F (.pointer (some ⟨vb,0,none⟩)) hat hok)
 clear hat hok
 go_enter Tryz.func150,Tryz.ntmps150
 go_wp2_with fail
 refine HX.out.mono ?_
 rintro e w1 ⟨rfl,hk⟩
 go_wp2_with fail
 go_ret
 exact ⟨rfl,hk⟩
theorem itend_valuet (ns:List Nm) (t:Ty) (w:World) (F:Nat→Prop) (u:Value) (h:It.At w F (.value ns (some t) []) u) (hok:t.ok false):Calls Tryz.prog 150 #[u] w (Ret (t.fin) w):=by
 obtain ⟨s,us,y,zz,zs,⟨b,rfl,_,hb⟩,_,_,hy,hz,hv⟩:=h
 obtain ⟨x,rfl,hat⟩:=hy
 obtain rfl:zs=[]:=hv
 obtain ⟨zp,zc,rfl⟩:=hz.form
 obtain ⟨vb,rfl⟩:=hat.ptr
 have c3:=cO hb 3 _ rfl;have c2:=cO hb 2 _ rfl;clear hb hz
 simp only [ln_] at c3
 have n1:=ty_nv_End t (some ⟨vb,0,none⟩);have n2:=ty_mv_End t;have n3:=ty_call_End t
 have HX:=hd_ (end_c t false w F (.pointer (some ⟨vb,0,none⟩)) hat hok)
 clear hat hok
 go_enter Tryz.func150,Tryz.ntmps150
 go_wp2_with fail
 refine HX.out.mono ?_
 rintro e w1 ⟨rfl,hk⟩
 go_wp2_with fail
 go_ret
 exact ⟨rfl,hk⟩
theorem itend_valuen (ns:List Nm) (n:Nm) (w:World) (F:Nat→Prop) (u:Value) (h:It.At w F (.value (ns++[n]) none []) u) (hl:ns.length≤400) (hok:n.ok):Calls Tryz.prog 150 #[u] w (Ret (n.p+n.s.size) w):=by
 obtain ⟨s,us,y,zz,zs,⟨b,rfl,_,hb⟩,hr,hn,hy,hz,hv⟩:=h
 obtain rfl:y=.nilIface:=hy
 obtain rfl:zs=[]:=hv
 obtain ⟨zp,zc,rfl⟩:=hz.form
 obtain ⟨iu,hiu,hi,hil⟩:=NmsAt.last n ns us hn
 obtain ⟨gb,gc,rfl,hc,_,_,hlt⟩:=hr.get hiu
 rw [hil] at hb
 have c1:=cO hb 1 _ rfl;have c3:=cO hb 3 _ rfl;have c2:=cO hb 2 _ rfl;clear hb hz hr hiu hn hil hlt
 simp only [ln_] at c3
 have HI:=hd_ hi;clear hi
 have HO:=hd_ hok;clear hok
 have hw:IntKind.i64.wrap (((ns.length:Int)+1) - 1)=ns.length:=by rw [IntWalk.i64_in _ (by omega)];omega
 have hw2:IntKind.i64.wrap (((ns.length+1:Nat):Int) - 1)=ns.length:=by rw [IntWalk.i64_in _ (by omega)];omega
 have hw3:((ns.length:Int)).toNat=ns.length:=by omega
 have hw4:(0:Int)≤ns.length:=by omega
 have hw5:(ns.length:Int) < ((ns.length+1:Nat):Int):=by omega
 go_enter Tryz.func150,Tryz.ntmps150
 go_wp2_with fail
 go_quiet ((go_at_call 126;exact Calls.quiet_of (idend_c _ F n.p n.s iu (by exact HI.out) HO.out.2.1 HO.out.2.2)))
 go_wp2_with fail
 go_ret
 exact ⟨rfl,(Kp.refl No w).drewN _⟩
end
section
open Go Go.RowKit
set_option maxRecDepth 100000
def It.fpos:It→Nat
 | .path ..=>147
 | .pathn ..=>147
 | .value ..=>151
 | .type ..=>154
 | .alias ..=>154
theorem it_nv_Pos (t:It) (a:Option Addr) (w:World):(nilAhead 439 t.ty (.pointer a) "Pos").run Tryz.prog w=.ok (some false) w:=by
 cases t <;> simp only [It.ty]
 case path=>exact nv_ImportSpec_Pos a w
 case pathn=>exact nv_ImportSpec_Pos a w
 case value=>exact nv_ValueSpec_Pos a w
 case type=>exact nv_TypeSpec_Pos a w
 case alias=>exact nv_TypeSpec_Pos a w
theorem it_mv_Pos (t:It) (v:Value) (w:World):(method 439 t.ty v "Pos").run Tryz.prog w=.ok (t.fpos,v) w:=by
 cases t <;> simp only [It.ty,It.fpos]
 case path=>exact mv_ImportSpec_Pos v w
 case pathn=>exact mv_ImportSpec_Pos v w
 case value=>exact mv_ValueSpec_Pos v w
 case type=>exact mv_TypeSpec_Pos v w
 case alias=>exact mv_TypeSpec_Pos v w
theorem it_call_Pos (t:It) (args:Array Value) (w:World):(callFunc t.fpos args).run Tryz.prog w=.ok (.enter t.fpos args) w:=by
 cases t <;> simp only [It.fpos]
 case path=>kernel_rfl
 case pathn=>kernel_rfl
 case value=>kernel_rfl
 case type=>kernel_rfl
 case alias=>kernel_rfl
def Dc.fpos:Dc→Nat
 | .gen ..=>140
 | .group ..=>140
 | .func ..=>116
theorem dc_nv_Pos (t:Dc) (a:Option Addr) (w:World):(nilAhead 439 t.ty (.pointer a) "Pos").run Tryz.prog w=.ok (some false) w:=by
 cases t <;> simp only [Dc.ty]
 case gen=>exact nv_GenDecl_Pos a w
 case group=>exact nv_GenDecl_Pos a w
 case func=>exact nv_FuncDecl_Pos a w
theorem dc_mv_Pos (t:Dc) (v:Value) (w:World):(method 439 t.ty v "Pos").run Tryz.prog w=.ok (t.fpos,v) w:=by
 cases t <;> simp only [Dc.ty,Dc.fpos]
 case gen=>exact mv_GenDecl_Pos v w
 case group=>exact mv_GenDecl_Pos v w
 case func=>exact mv_FuncDecl_Pos v w
theorem dc_call_Pos (t:Dc) (args:Array Value) (w:World):(callFunc t.fpos args).run Tryz.prog w=.ok (.enter t.fpos args) w:=by
 cases t <;> simp only [Dc.fpos]
 case gen=>kernel_rfl
 case group=>kernel_rfl
 case func=>kernel_rfl
def It.fend:It→Nat
 | .path ..=>146
 | .pathn ..=>146
 | .value ..=>150
 | .type ..=>153
 | .alias ..=>153
theorem it_nv_End (t:It) (a:Option Addr) (w:World):(nilAhead 439 t.ty (.pointer a) "End").run Tryz.prog w=.ok (some false) w:=by
 cases t <;> simp only [It.ty]
 case path=>exact nv_ImportSpec_End a w
 case pathn=>exact nv_ImportSpec_End a w
 case value=>exact nv_ValueSpec_End a w
 case type=>exact nv_TypeSpec_End a w
 case alias=>exact nv_TypeSpec_End a w
theorem it_mv_End (t:It) (v:Value) (w:World):(method 439 t.ty v "End").run Tryz.prog w=.ok (t.fend,v) w:=by
 cases t <;> simp only [It.ty,It.fend]
 case path=>exact mv_ImportSpec_End v w
 case pathn=>exact mv_ImportSpec_End v w
 case value=>exact mv_ValueSpec_End v w
 case type=>exact mv_TypeSpec_End v w
 case alias=>exact mv_TypeSpec_End v w
theorem it_call_End (t:It) (args:Array Value) (w:World):(callFunc t.fend args).run Tryz.prog w=.ok (.enter t.fend args) w:=by
 cases t <;> simp only [It.fend]
 case path=>kernel_rfl
 case pathn=>kernel_rfl
 case value=>kernel_rfl
 case type=>kernel_rfl
 case alias=>kernel_rfl
def Dc.fend:Dc→Nat
 | .gen ..=>139
 | .group ..=>139
 | .func ..=>115
theorem dc_nv_End (t:Dc) (a:Option Addr) (w:World):(nilAhead 439 t.ty (.pointer a) "End").run Tryz.prog w=.ok (some false) w:=by
 cases t <;> simp only [Dc.ty]
 case gen=>exact nv_GenDecl_End a w
 case group=>exact nv_GenDecl_End a w
 case func=>exact nv_FuncDecl_End a w
theorem dc_mv_End (t:Dc) (v:Value) (w:World):(method 439 t.ty v "End").run Tryz.prog w=.ok (t.fend,v) w:=by
 cases t <;> simp only [Dc.ty,Dc.fend]
 case gen=>exact mv_GenDecl_End v w
 case group=>exact mv_GenDecl_End v w
 case func=>exact mv_FuncDecl_End v w
theorem dc_call_End (t:Dc) (args:Array Value) (w:World):(callFunc t.fend args).run Tryz.prog w=.ok (.enter t.fend args) w:=by
 cases t <;> simp only [Dc.fend]
 case gen=>kernel_rfl
 case group=>kernel_rfl
 case func=>kernel_rfl
theorem nmsFin_snoc (n:Nm):∀ l:List Nm,nmsFin (l++[n])=n.p+n.s.size
 | []=>rfl
 | [m]=>by simp [nmsFin]
 | m::k::l=>by simpa [nmsFin] using nmsFin_snoc n (k::l)
theorem vsFin_snoc (v:Int × Ty):∀ (l:List (Int × Ty)) (d:Int),vsFin d (l++[v])=v.2.fin
 | [],d=>rfl
 | m::l,d=>by simpa [vsFin] using vsFin_snoc v l m.2.fin
theorem itpos_c (i:It) (w:World) (F:Nat→Prop) (u:Value) (h:i.At w F u) (hok:i.ok):Calls Tryz.prog i.fpos #[u] w (Ret i.pos w):=by
 cases i with
 | path p s=>exact itpos_path p s w F u h
 | pathn q m p s=>exact itpos_pathn q m p s w F u h
 | value ns t vs =>
  cases ns with
  | nil=>exact absurd rfl hok.1
  | cons n ns=>exact itpos_value n ns t vs w F u h
 | type p s t=>exact itpos_type p s t w F u h
 | alias p s q t=>exact itpos_alias p s q t w F u h
theorem itend_c (i:It) (w:World) (F:Nat→Prop) (u:Value) (h:i.At w F u) (hok:i.ok) (hsz:i.nd.size≤400):Calls Tryz.prog i.fend #[u] w (Ret i.fin w):=by
 cases i with
 | path p s=>exact itend_path p s w F u h hok.1
 | pathn q m p s=>exact itend_pathn q m p s w F u h hok.2.2.1
 | value ns t vs =>
  rcases List.eq_nil_or_concat vs with rfl | ⟨vs,v,rfl⟩
  ·cases t with
   | none =>
    rcases List.eq_nil_or_concat ns with rfl | ⟨ns,n,rfl⟩
    ·exact absurd rfl hok.1
    ·simp only [List.concat_eq_append] at h hok hsz ⊢
     have hl:ns.length≤400:=by
      have:=Nd.sizeL_length ((ns++[n]).map Nm.nd)
      simp only [It.nd,ls,Nd.size,Nd.sizeL,lm_,la_,lc_,ln_] at hsz this
      omega
     have:=itend_valuen ns n w F u h hl (hok.2.1 n (by simp))
     simpa [It.fin,It.fend,tyFin,vsFin,nmsFin_snoc] using this
   | some t=>exact itend_valuet ns t w F u h (hok.2.2.1 t rfl)
  ·simp only [List.concat_eq_append] at h hok hsz ⊢
   have hl:vs.length≤400:=by
    have:=Nd.sizeL_length ((vs++[v]).map fun v=>v.2.nd)
    simp only [It.nd,ls,Nd.size,Nd.sizeL,lm_,la_,lc_,ln_] at hsz this
    omega
   have:=itend_valuev ns t vs v w F u h hl (hok.2.2.2 v (by simp)).2
   simpa [It.fin,It.fend,vsFin_snoc] using this
 | type p s t=>exact itend_type p s t w F u h hok.2.2
 | alias p s q t=>exact itend_alias p s q t w F u h hok.2.2.2
theorem genpos_c (p tok l:Int) (its:List It) (r:Int) (w:World) (F:Nat→Prop) (u:Value) (h:GenAt w F p tok l its r u):Calls Tryz.prog 140 #[u] w (Ret p w):=by
 obtain ⟨z,zs,⟨b,rfl,_,hb⟩,_⟩:=h
 have c1:=cO hb 1 _ rfl;clear hb
 go_enter Tryz.func140,Tryz.ntmps140
 go_wp2_with fail
 go_ret
 exact ⟨rfl,Kp.refl No _⟩
theorem genendg_c (p tok l:Int) (its:List It) (r:Int) (w:World) (F:Nat→Prop) (u:Value) (h:GenAt w F p tok l its r u) (hr:Pk r):Calls Tryz.prog 139 #[u] w (Ret (r+1) w):=by
 obtain ⟨z,zs,⟨b,rfl,_,hb⟩,_⟩:=h
 have c5:=cO hb 5 _ rfl;clear hb
 unfold Pk at hr
 go_enter Tryz.func139,Tryz.ntmps139
 go_wp2_with fail
 refine (kvalid_c _ _).mono ?_
 rintro e w1 ⟨rfl,rfl⟩
 rw [show decide (r≠0)=true by simp;omega]
 go_wp2_with fail
 go_ret
 exact ⟨rfl,Kp.refl No _⟩
theorem genendx_c (p tok l:Int) (i:It) (its:List It) (w:World) (F:Nat→Prop) (u:Value) (h:GenAt w F p tok l (i::its) 0 u) (hok:i.ok) (hsz:i.nd.size≤400):Calls Tryz.prog 139 #[u] w (Ret i.fin w):=by
 obtain ⟨z,zs,⟨b,rfl,_,hb⟩,hr,⟨iu,vs',rfl,⟨x,rfl,hi⟩,_⟩⟩:=h
 obtain ⟨gb,gc,rfl,hc,_,_,hlt⟩:=hr.get (i:=0) rfl
 have hlen:0 < (Value.iface i.ty x::vs').length:=hlt
 generalize (Value.iface i.ty x::vs').length=nn at *
 have c5:=cO hb 5 _ rfl;have c4:=cO hb 4 _ rfl;clear hb hr
 have hp:∃ vb,x=.pointer (some ⟨vb,0,none⟩):=by
  cases i with
  | path=>obtain ⟨_,⟨b,h,_⟩,_⟩:=hi;exact ⟨b,h⟩
  | pathn=>obtain ⟨_,_,⟨b,h,_⟩,_⟩:=hi;exact ⟨b,h⟩
  | value=>obtain ⟨_,_,_,_,_,⟨b,h,_⟩,_⟩:=hi;exact ⟨b,h⟩
  | type=>obtain ⟨_,_,⟨b,h,_⟩,_⟩:=hi;exact ⟨b,h⟩
  | alias=>obtain ⟨_,_,⟨b,h,_⟩,_⟩:=hi;exact ⟨b,h⟩
 obtain ⟨vb,rfl⟩:=hp
 have n1:=it_nv_End i (some ⟨vb,0,none⟩);have n2:=it_mv_End i;have n3:=it_call_End i
 have HX:=hd_ (itend_c i w F (.pointer (some ⟨vb,0,none⟩)) hi hok hsz)
 clear hi hok hsz
 go_enter Tryz.func139,Tryz.ntmps139
 go_wp2_with fail
 refine (kvalid_c _ _).mono ?_
 rintro e w1 ⟨rfl,rfl⟩
 rw [show decide ((0:Int)≠0)=false from rfl]
 go_wp2_with fail
 refine HX.out.mono ?_
 rintro e w2 ⟨rfl,hk⟩
 go_wp2_with fail
 go_ret
 exact ⟨rfl,hk⟩
theorem funcendn_c (p:Int) (rv:Option (Int × Fs × Int)) (np:Int) (s:ByteArray) (o:Int) (ps:Fs) (c:Int) (b:Bool) (o':Int) (rs:Fs) (c':Int) (w:World) (F:Nat→Prop) (u:Value) (h:Dc.At w F (.func p rv np s o ps c b o' rs c' none) u) (hok:(Ty.sig p o ps c b o' rs c').ok false):Calls Tryz.prog 115 #[u] w (Ret ((Ty.sig p o ps c b o' rs c').fin) w):=by
 obtain ⟨r,i,y,d,⟨b0,rfl,_,hb⟩,_,_,hy,hd⟩:=h
 obtain rfl:d=.pointer none:=hd
 obtain ⟨yb,rfl⟩:=hy.ptr
 have c4:=cO hb 4 _ rfl;have c3:=cO hb 3 _ rfl;clear hb
 have HX:=hd_ (end_c (Ty.sig p o ps c b o' rs c') false w F (.pointer (some ⟨yb,0,none⟩)) hy hok)
 clear hy hok
 go_enter Tryz.func115,Tryz.ntmps115
 go_wp2_with fail
 refine HX.out.mono ?_
 rintro e w2 ⟨rfl,hk⟩
 go_wp2_with fail
 go_ret
 exact ⟨rfl,hk⟩
theorem funcendb_c (p:Int) (rv:Option (Int × Fs × Int)) (np:Int) (s:ByteArray) (o:Int) (ps:Fs) (c:Int) (b:Bool) (o':Int) (rs:Fs) (c':Int) (bo bc:Int) (w:World) (F:Nat→Prop) (u:Value) (h:Dc.At w F (.func p rv np s o ps c b o' rs c' (some (bo,bc))) u) (hbc:Pk bc):Calls Tryz.prog 115 #[u] w (Ret (bc+1) w):=by
 obtain ⟨r,i,y,d,⟨b0,rfl,_,hb⟩,_,_,hy,hd⟩:=h
 have hd:BdAt w F (some (bo,bc)) d:=hd
 have HX:=hd_ (bdend_c bo bc w F d hd hbc)
 obtain ⟨db,rfl,_⟩:=hd
 have c4:=cO hb 4 _ rfl;clear hb
 go_enter Tryz.func115,Tryz.ntmps115
 go_wp2_with fail
 refine HX.out.mono ?_
 rintro e w2 ⟨rfl,hk⟩
 go_wp2_with fail
 go_ret
 exact ⟨rfl,hk⟩
theorem funcpos_c (p:Int) (rv:Option (Int × Fs × Int)) (np:Int) (s:ByteArray) (o:Int) (ps:Fs) (c:Int) (b:Bool) (o':Int) (rs:Fs) (c':Int) (bd:Option (Int × Int)) (w:World) (F:Nat→Prop) (u:Value) (h:Dc.At w F (.func p rv np s o ps c b o' rs c' bd) u) (hp:Pk p) (hok:(Ty.sig p o ps c b o' rs c').ok false):Calls Tryz.prog 116 #[u] w (Ret p w):=by
 obtain ⟨r,i,y,d,⟨b0,rfl,_,hb⟩,_,_,hy,_⟩:=h
 obtain ⟨yb,rfl⟩:=hy.ptr
 have c3:=cO hb 3 _ rfl;clear hb
 have hpos:(Ty.sig p o ps c b o' rs c').pos=p:=by simp only [Ty.pos];rw [if_neg (by unfold Pk at hp;omega)]
 have HX:=hd_ (pos_c (Ty.sig p o ps c b o' rs c') false w F (.pointer (some ⟨yb,0,none⟩)) hy hok)
 rw [hpos] at HX
 clear hy hok hp hpos
 go_enter Tryz.func116,Tryz.ntmps116
 go_wp2_with fail
 refine HX.out.mono ?_
 rintro e w2 ⟨rfl,hk⟩
 go_wp2_with fail
 go_ret
 exact ⟨rfl,hk⟩
theorem dcpos_c (d:Dc) (w:World) (F:Nat→Prop) (u:Value) (h:d.At w F u) (hok:d.ok):Calls Tryz.prog d.fpos #[u] w (Ret d.pos w):=by
 cases d with
 | gen wd p it =>
  obtain ⟨z,x,h1,h2,h3⟩:=h
  exact genpos_c p wd.tok 0 [it] 0 w F u ⟨z,[x],h1,h2,x,[],rfl,h3,rfl⟩
 | group wd p o its c=>exact genpos_c p wd.tok o its c w F u h
 | func p rv np s o ps c b o' rs c' bd=>exact funcpos_c p rv np s o ps c b o' rs c' bd w F u h hok.1 hok.2.2.2.2.1
theorem dcend_c (d:Dc) (w:World) (F:Nat→Prop) (u:Value) (h:d.At w F u) (hok:d.ok) (hsz:d.nd.size≤400):Calls Tryz.prog d.fend #[u] w (Ret d.fin w):=by
 cases d with
 | gen wd p it =>
  obtain ⟨z,x,h1,h2,h3⟩:=h
  exact genendx_c p wd.tok 0 it [] w F u ⟨z,[x],h1,h2,x,[],rfl,h3,rfl⟩ hok.2 (by simp only [Dc.nd,Nd.size,Nd.sizeL] at hsz;omega)
 | group wd p o its c=>exact genendg_c p wd.tok o its c w F u h hok.2.2.2
 | func p rv np s o ps c b o' rs c' bd =>
  cases bd with
  | none=>exact funcendn_c p rv np s o ps c b o' rs c' w F u h hok.2.2.2.2.1
  | some bd =>
   obtain ⟨bo,bc⟩:=bd
   exact funcendb_c p rv np s o ps c b o' rs c' bo bc w F u h (hok.2.2.2.2.2 bo bc rfl).2
def Th.pos:Th→Int
 | .ty t=>t.pos
 | .fd d=>fpos d.ns d.t
 | .fl o _ _=>o
 | .it i=>i.pos
 | .dc d=>d.pos
 | .bd o _=>o
def Th.fin:Th→Int
 | .ty t=>t.fin
 | .fd d=>ffin d.t d.tp d.tag
 | .fl _ _ c=>c+1
 | .it i=>i.fin
 | .dc d=>d.fin
 | .bd _ c=>c+1
def Th.fpos:Th→Nat
 | .ty t=>t.fpos
 | .fd _=>124
 | .fl ..=>122
 | .it i=>i.fpos
 | .dc d=>d.fpos
 | .bd ..=>137
def Th.fend:Th→Nat
 | .ty t=>t.fend
 | .fd _=>123
 | .fl ..=>121
 | .it i=>i.fend
 | .dc d=>d.fend
 | .bd ..=>118
def Th.ok:Th→Prop
 | .ty t=>(∃ z,t.ok z)∧t.nd.size≤400
 | .fd d=>d.okz∧d.nd.size≤400
 | .fl o f c=>Pk o∧Pk c∧(∃ m,f.ok m)∧Nd.sizeL f.nds≤400
 | .it i=>i.ok∧i.nd.size≤400
 | .dc d=>d.ok∧d.nd.size≤400
 | .bd o c=>Pk o∧Pk c
theorem Th.ok.few {x:Th} (h:x.ok):x.few:=by
 cases x with
 | ty t=>exact h.2
 | fd d=>trivial
 | fl o f c=>trivial
 | it i=>exact h
 | dc d=>exact h
 | bd o c=>trivial
theorem thpos_c (x:Th) (w:World) (F:Nat→Prop) (u:Value) (h:x.At w F u) (hok:x.ok):Calls Tryz.prog x.fpos #[u] w (Ret x.pos w):=by
 cases x with
 | ty t=>obtain ⟨⟨z,hz⟩,_⟩:=hok;exact pos_c t z w F u h hz
 | fd d =>
  obtain ⟨c,ns,t,tp,tag⟩:=d
  cases ns with
  | nil=>obtain ⟨_,⟨z,hz⟩,_⟩:=hok.1;exact fdpos_e t tp tag w F u h z hz
  | cons n ns=>exact fdpos_n n ns t tp tag w F u h
 | fl o f c=>exact (flpos_c w F o c f u h hok.1).mono fun e w' h=>⟨h.1,by rw [h.2];exact Kp.refl No _⟩
 | it i=>exact itpos_c i w F u h hok.1
 | dc d=>exact dcpos_c d w F u h hok.1
 | bd o c=>exact bdpos_c o c w F u h
theorem thend_c (x:Th) (w:World) (F:Nat→Prop) (u:Value) (h:x.At w F u) (hok:x.ok):Calls Tryz.prog x.fend #[u] w (Ret x.fin w):=by
 cases x with
 | ty t=>obtain ⟨⟨z,hz⟩,_⟩:=hok;exact end_c t z w F u h hz
 | fd d =>
  obtain ⟨⟨_,⟨z,hz⟩,htp,_⟩,_⟩:=hok
  simp only [Th.fend,Th.fin,ffin]
  by_cases ht:d.tag.size=0
  ·rw [if_pos ht];exact fdend_x d.ns d.t d.tp d.tag w F u h ht z hz
  ·rw [if_neg ht];exact fdend_t d.ns d.t d.tp d.tag w F u h ht htp
 | fl o f c=>exact (flend_c w F o c f u h hok.2.1).mono fun e w' h=>⟨h.1,by rw [h.2];exact Kp.refl No _⟩
 | it i=>exact itend_c i w F u h hok.1 hok.2
 | dc d=>exact dcend_c d w F u h hok.1 hok.2
 | bd o c=>exact bdend_c o c w F u h hok.2
theorem th_nv_Pos (x:Th) (a:Option Addr) (w:World):(nilAhead 439 x.ty' (.pointer a) "Pos").run Tryz.prog w=.ok (some false) w:=by
 cases x with
 | ty t=>exact ty_nv_Pos t a w
 | fd d=>exact nv_Field_Pos a w
 | fl o f c=>exact nv_FieldList_Pos a w
 | it i=>exact it_nv_Pos i a w
 | dc d=>exact dc_nv_Pos d a w
 | bd o c=>exact nv_BlockStmt_Pos a w
theorem th_mv_Pos (x:Th) (v:Value) (w:World):(method 439 x.ty' v "Pos").run Tryz.prog w=.ok (x.fpos,v) w:=by
 cases x with
 | ty t=>exact ty_mv_Pos t v w
 | fd d=>exact mv_Field_Pos v w
 | fl o f c=>exact mv_FieldList_Pos v w
 | it i=>exact it_mv_Pos i v w
 | dc d=>exact dc_mv_Pos d v w
 | bd o c=>exact mv_BlockStmt_Pos v w
theorem th_call_Pos (x:Th) (args:Array Value) (w:World):(callFunc x.fpos args).run Tryz.prog w=.ok (.enter x.fpos args) w:=by
 cases x with
 | ty t=>exact ty_call_Pos t args w
 | fd d=>simp only [Th.fpos];kernel_rfl
 | fl o f c=>simp only [Th.fpos];kernel_rfl
 | it i=>exact it_call_Pos i args w
 | dc d=>exact dc_call_Pos d args w
 | bd o c=>simp only [Th.fpos];kernel_rfl
theorem th_nv_End (x:Th) (a:Option Addr) (w:World):(nilAhead 439 x.ty' (.pointer a) "End").run Tryz.prog w=.ok (some false) w:=by
 cases x with
 | ty t=>exact ty_nv_End t a w
 | fd d=>exact nv_Field_End a w
 | fl o f c=>exact nv_FieldList_End a w
 | it i=>exact it_nv_End i a w
 | dc d=>exact dc_nv_End d a w
 | bd o c=>exact nv_BlockStmt_End a w
theorem th_mv_End (x:Th) (v:Value) (w:World):(method 439 x.ty' v "End").run Tryz.prog w=.ok (x.fend,v) w:=by
 cases x with
 | ty t=>exact ty_mv_End t v w
 | fd d=>exact mv_Field_End v w
 | fl o f c=>exact mv_FieldList_End v w
 | it i=>exact it_mv_End i v w
 | dc d=>exact dc_mv_End d v w
 | bd o c=>exact mv_BlockStmt_End v w
theorem th_call_End (x:Th) (args:Array Value) (w:World):(callFunc x.fend args).run Tryz.prog w=.ok (.enter x.fend args) w:=by
 cases x with
 | ty t=>exact ty_call_End t args w
 | fd d=>simp only [Th.fend];kernel_rfl
 | fl o f c=>simp only [Th.fend];kernel_rfl
 | it i=>exact it_call_End i args w
 | dc d=>exact dc_call_End d args w
 | bd o c=>simp only [Th.fend];kernel_rfl
end
section
open Go Go.RowKit
def Th.pre:Th→List Pl
 | .ty t=>t.pre
 | .fd d=>⟨⟨#[102,105,101,108,100]⟩,Go.Proofs.YtnkbglhdpmbgfaaGreatFmt.fpos d.ns d.t,ffin d.t d.tp d.tag⟩::(d.ns.map Nm.pl++(d.t.pre++tagPl d.tp d.tag))
 | .fl o f c=>⟨⟨#[102,105,101,108,100,115]⟩,o,c+1⟩::f.pre
 | .it i=>i.pre
 | .dc d=>d.pre
 | .bd o c=>[⟨⟨#[98,111,100,121]⟩,o,c+1⟩]
def Th.pl (x:Th):Pl:=⟨x.kind,x.pos,x.fin⟩
abbrev VF (cap:Array Value):Value:=.func (.func 38) #[] cap
abbrev VV (cap:Array Value):Value:=.iface 99 (VF cap)
structure Vis (cap:Array Value) (F S:Nat→Prop) (Inv:World→List Pl→Prop):Prop where
 node:∀ (w:World) (l:List Pl) (x:Th) (u:Value),Inv w l→x.At w F u→x.ok→l.length < 1048576→Calls Tryz.prog 143 #[VF cap,.iface x.ty' u] w fun e w'=>e=.returned (VV cap)∧Inv w' (l++[x.pl])∧Kp S w w'
 nil:∀ (w:World) (l:List Pl),Inv w l→Calls Tryz.prog 143 #[VF cap,.nilIface] w fun e w'=>(∃ v,e=.returned v)∧Inv w' l∧Kp S w w'
 apart:∀ b,F b→¬ S b
def WalkP (x:Th):Prop:=∀ (cap:Array Value) (F S:Nat→Prop) (Inv:World→List Pl→Prop),Vis cap F S Inv→∀ (w:World) (l:List Pl) (u:Value),Inv w l→x.At w F u→x.ok→l.length+x.pre.length≤1048576 →
 Calls Tryz.prog 57 #[VV cap,.iface x.ty' u] w fun e w'=>(∃ v,e=.returned v)∧Inv w' (l++x.pre)∧Kp S w w'
theorem Th.At.on {w w':World} {F S:Nat→Prop} {x:Th} {u:Value} (h:x.At w F u) (hk:Kp S w w') (ha:∀ b,F b→¬ S b):x.At w' F u:=by
 have st:Stay F F w w':=Stay.of_kp hk fun b _ hF=>⟨ha b hF,hF⟩
 cases x with
 | ty t=>exact Ty.At.stay st t u h
 | fd d=>exact Fd.at.on h hk fun b _ hF=>⟨ha b hF,hF⟩
 | fl o f c=>exact FlAt.stay h st
 | it i=>exact It.At.stay st i u h
 | dc d=>exact Dc.At.stay st d u h
 | bd o c=>exact Blk.stay h st
theorem LAt.get {α:Type} {At:World→(Nat→Prop)→α→Value→Prop} {w:World} {F:Nat→Prop}:∀ (l:List α) (us:List Value) (k:Nat) (d:α),LAt At w F l us→l[k]?=some d→∃ u,us[k]?=some u∧At w F d u
 | [],_,_,_,_,hk=>by simp at hk
 | d::l,_,0,e,h,hk=>by
  obtain ⟨u,us',rfl,h1,_⟩:=h
  simp only [List.getElem?_cons_zero,Option.some.injEq] at hk
  subst hk
  exact ⟨u,rfl,h1⟩
 | d::l,_,k+1,e,h,hk=>by
  obtain ⟨u,us',rfl,_,h2⟩:=h
  simp only [List.getElem?_cons_succ] at hk ⊢
  exact LAt.get l us' k e h2 hk
def PtAt (w:World) (F:Nat→Prop) (x:Th) (u:Value):Prop:=x.At w F u
def IfAt (w:World) (F:Nat→Prop) (x:Th) (u:Value):Prop:=∃ y,u=.iface x.ty' y∧x.At w F y
def thsPre (xs:List Th):List Pl:=xs.flatMap Th.pre
theorem thsPre_take_len (xs:List Th) (k:Nat):(thsPre (xs.take k)).length≤(thsPre xs).length:=by
 have h:thsPre xs=thsPre (xs.take k)++thsPre (xs.drop k):=by
  unfold thsPre
  rw [← List.flatMap_append,List.take_append_drop]
 rw [h,la_]
 omega
theorem wlid_c (xs:List Th) (hx:∀ x∈xs,WalkP x∧x.ok∧x.ty'=70) (cap:Array Value) (F S:Nat→Prop) (Inv:World→List Pl→Prop) (hV:Vis cap F S Inv) (w:World) (l:List Pl) (s:Value) (us:List Value)
 (hr:Row w F 70 s us) (hat:LAt PtAt w F xs us) (hI:Inv w l) (hn:us.length≤400) (hL:l.length+(thsPre xs).length≤1048576) :
 Calls Tryz.prog 76 #[VV cap,s] w fun e w'=>(∃ v,e=.returned v)∧Inv w' (l++thsPre xs)∧Kp S w w':=by
 have hul:=LAt.length _ _ hat
 have HX:=hd_ hx;have HV:=hd_ hV;have HR:=hd_ hr;have HA:=hd_ hat;have HI:=hd_ hI
 obtain ⟨sp,sc,rfl⟩:=hr.form
 have HUL:=hd_ hul
 have HLEN:=hd_ hL
 clear hL
 clear hx hV hr hat hI hul
 go_enter Tryz.func76,Tryz.ntmps76
 go_wp2_with fail
 go_loopw [5,8] (fun _ i wr=>∃ k:Nat,k≤us.length∧i=.int .i64 k∧Inv wr (l++thsPre (xs.take k))∧Kp S w wr) (fun _ i _=>us.length - (intOf i).toNat)
 case atStart=>exact ⟨0,Nat.zero_le _,rfl,by simpa [thsPre] using HI.out,Kp.refl _ _⟩
 case round =>
  obtain ⟨k,hk,rfl,hinv,hkp⟩:=hrel
  by_cases hlt:k < us.length
  ·have hkx:k < xs.length:=by have:=HUL.out;omega
   obtain ⟨u,hu,hxu⟩:=LAt.get xs us k xs[k] HA.out (List.getElem?_eq_getElem hkx)
   have hm:=HX.out xs[k] (List.getElem_mem hkx)
   have htk:thsPre (xs.take (k+1))=thsPre (xs.take k)++xs[k].pre:=by
    unfold thsPre
    rw [List.take_add_one,List.getElem?_eq_getElem hkx,List.flatMap_append]
    simp
   generalize xs[k]=x at hxu hm htk
   have hty:=hm.2.2
   have hxu:x.At w F u:=hxu
   have hst:Stay F F w wr:=Stay.of_kp hkp fun b _ hF=>⟨HV.out.apart b hF,hF⟩
   obtain ⟨gb,gc,he,hc,_,_,_⟩:=(HR.out.stay hst).get hu
   cases he
   have gl:=World.block_lt_of_cell? wr _ hc
   have HXA:=hd_ (Th.At.on hxu hkp HV.out.apart)
   have HM:=hd_ hm;have HINV:=hd_ hinv;have HKP:=hd_ hkp;have HTK:=hd_ htk
   have HTY:=hd_ hty
   clear hst hxu hm hinv hkp htk hu
   go_wp2_with fail
   rw [← HTY.out]
   refine (HM.out.1 cap F S Inv HV.out wr _ _ HINV.out HXA.out HM.out.2.1 (by have h1:=thsPre_take_len xs (k+1);rw [HTK.out,la_] at h1;have h2:=HLEN.out;rw [la_];omega)).mono ?_
   rintro e w1 ⟨⟨v,rfl⟩,hi1,hk1⟩
   have H1:=a2_ hi1 hk1
   clear hi1 hk1
   go_wp2_with fail
   exact ⟨⟨k+1,by omega,by go_num,by rw [HTK.out,← aa_];exact H1.out.1,HKP.out.trans' H1.out.2⟩,by simp [intOf];omega⟩
  ·have hkn:k=us.length:=by omega
   have HINV:=hd_ hinv;have HKP:=hd_ hkp
   clear hinv hkp
   go_wp2_with fail
   refine bodyPost_end (v:=.tuple #[]) (by simp [results,Tryz.results76,go_sem]) rfl ⟨⟨_,rfl⟩,?_,HKP.out⟩
   have:=HINV.out
   rwa [List.take_of_length_le (by have:=HUL.out;omega)] at this
theorem wlfd_c (xs:List Th) (hx:∀ x∈xs,WalkP x∧x.ok∧x.ty'=92) (cap:Array Value) (F S:Nat→Prop) (Inv:World→List Pl→Prop) (hV:Vis cap F S Inv) (w:World) (l:List Pl) (s:Value) (us:List Value)
 (hr:Row w F 92 s us) (hat:LAt PtAt w F xs us) (hI:Inv w l) (hn:us.length≤400) (hL:l.length+(thsPre xs).length≤1048576) :
 Calls Tryz.prog 77 #[VV cap,s] w fun e w'=>(∃ v,e=.returned v)∧Inv w' (l++thsPre xs)∧Kp S w w':=by
 have hul:=LAt.length _ _ hat
 have HX:=hd_ hx;have HV:=hd_ hV;have HR:=hd_ hr;have HA:=hd_ hat;have HI:=hd_ hI
 obtain ⟨sp,sc,rfl⟩:=hr.form
 have HUL:=hd_ hul
 have HLEN:=hd_ hL
 clear hL
 clear hx hV hr hat hI hul
 go_enter Tryz.func77,Tryz.ntmps77
 go_wp2_with fail
 go_loopw [5,8] (fun _ i wr=>∃ k:Nat,k≤us.length∧i=.int .i64 k∧Inv wr (l++thsPre (xs.take k))∧Kp S w wr) (fun _ i _=>us.length - (intOf i).toNat)
 case atStart=>exact ⟨0,Nat.zero_le _,rfl,by simpa [thsPre] using HI.out,Kp.refl _ _⟩
 case round =>
  obtain ⟨k,hk,rfl,hinv,hkp⟩:=hrel
  by_cases hlt:k < us.length
  ·have hkx:k < xs.length:=by have:=HUL.out;omega
   obtain ⟨u,hu,hxu⟩:=LAt.get xs us k xs[k] HA.out (List.getElem?_eq_getElem hkx)
   have hm:=HX.out xs[k] (List.getElem_mem hkx)
   have htk:thsPre (xs.take (k+1))=thsPre (xs.take k)++xs[k].pre:=by
    unfold thsPre
    rw [List.take_add_one,List.getElem?_eq_getElem hkx,List.flatMap_append]
    simp
   generalize xs[k]=x at hxu hm htk
   have hty:=hm.2.2
   have hxu:x.At w F u:=hxu
   have hst:Stay F F w wr:=Stay.of_kp hkp fun b _ hF=>⟨HV.out.apart b hF,hF⟩
   obtain ⟨gb,gc,he,hc,_,_,_⟩:=(HR.out.stay hst).get hu
   cases he
   have gl:=World.block_lt_of_cell? wr _ hc
   have HXA:=hd_ (Th.At.on hxu hkp HV.out.apart)
   have HM:=hd_ hm;have HINV:=hd_ hinv;have HKP:=hd_ hkp;have HTK:=hd_ htk
   have HTY:=hd_ hty
   clear hst hxu hm hinv hkp htk hu
   go_wp2_with fail
   rw [← HTY.out]
   refine (HM.out.1 cap F S Inv HV.out wr _ _ HINV.out HXA.out HM.out.2.1 (by have h1:=thsPre_take_len xs (k+1);rw [HTK.out,la_] at h1;have h2:=HLEN.out;rw [la_];omega)).mono ?_
   rintro e w1 ⟨⟨v,rfl⟩,hi1,hk1⟩
   have H1:=a2_ hi1 hk1
   clear hi1 hk1
   go_wp2_with fail
   exact ⟨⟨k+1,by omega,by go_num,by rw [HTK.out,← aa_];exact H1.out.1,HKP.out.trans' H1.out.2⟩,by simp [intOf];omega⟩
  ·have hkn:k=us.length:=by omega
   have HINV:=hd_ hinv;have HKP:=hd_ hkp
   clear hinv hkp
   go_wp2_with fail
   refine bodyPost_end (v:=.tuple #[]) (by simp [results,Tryz.results77,go_sem]) rfl ⟨⟨_,rfl⟩,?_,HKP.out⟩
   have:=HINV.out
   rwa [List.take_of_length_le (by have:=HUL.out;omega)] at this
theorem wlex_c (xs:List Th) (hx:∀ x∈xs,WalkP x∧x.ok) (cap:Array Value) (F S:Nat→Prop) (Inv:World→List Pl→Prop) (hV:Vis cap F S Inv) (w:World) (l:List Pl) (s:Value) (us:List Value)
 (hr:Row w F 94 s us) (hat:LAt IfAt w F xs us) (hI:Inv w l) (hn:us.length≤400) (hL:l.length+(thsPre xs).length≤1048576) :
 Calls Tryz.prog 78 #[VV cap,s] w fun e w'=>(∃ v,e=.returned v)∧Inv w' (l++thsPre xs)∧Kp S w w':=by
 have hul:=LAt.length _ _ hat
 have HX:=hd_ hx;have HV:=hd_ hV;have HR:=hd_ hr;have HA:=hd_ hat;have HI:=hd_ hI
 obtain ⟨sp,sc,rfl⟩:=hr.form
 have HUL:=hd_ hul
 have HLEN:=hd_ hL
 clear hL
 clear hx hV hr hat hI hul
 go_enter Tryz.func78,Tryz.ntmps78
 go_wp2_with fail
 go_loopw [5,8] (fun _ i wr=>∃ k:Nat,k≤us.length∧i=.int .i64 k∧Inv wr (l++thsPre (xs.take k))∧Kp S w wr) (fun _ i _=>us.length - (intOf i).toNat)
 case atStart=>exact ⟨0,Nat.zero_le _,rfl,by simpa [thsPre] using HI.out,Kp.refl _ _⟩
 case round =>
  obtain ⟨k,hk,rfl,hinv,hkp⟩:=hrel
  by_cases hlt:k < us.length
  ·have hkx:k < xs.length:=by have:=HUL.out;omega
   obtain ⟨u,hu,hxu⟩:=LAt.get xs us k xs[k] HA.out (List.getElem?_eq_getElem hkx)
   have hm:=HX.out xs[k] (List.getElem_mem hkx)
   have htk:thsPre (xs.take (k+1))=thsPre (xs.take k)++xs[k].pre:=by
    unfold thsPre
    rw [List.take_add_one,List.getElem?_eq_getElem hkx,List.flatMap_append]
    simp
   generalize xs[k]=x at hxu hm htk
   obtain ⟨y,rfl,hxu⟩:=hxu
   have hty:True:=trivial
   have hst:Stay F F w wr:=Stay.of_kp hkp fun b _ hF=>⟨HV.out.apart b hF,hF⟩
   obtain ⟨gb,gc,he,hc,_,_,_⟩:=(HR.out.stay hst).get hu
   cases he
   have gl:=World.block_lt_of_cell? wr _ hc
   have HXA:=hd_ (Th.At.on hxu hkp HV.out.apart)
   have HM:=hd_ hm;have HINV:=hd_ hinv;have HKP:=hd_ hkp;have HTK:=hd_ htk
   have HTY:=hd_ hty
   clear hst hxu hm hinv hkp htk hu
   go_wp2_with fail
   refine (HM.out.1 cap F S Inv HV.out wr _ _ HINV.out HXA.out HM.out.2 (by have h1:=thsPre_take_len xs (k+1);rw [HTK.out,la_] at h1;have h2:=HLEN.out;rw [la_];omega)).mono ?_
   rintro e w1 ⟨⟨v,rfl⟩,hi1,hk1⟩
   have H1:=a2_ hi1 hk1
   clear hi1 hk1
   go_wp2_with fail
   exact ⟨⟨k+1,by omega,by go_num,by rw [HTK.out,← aa_];exact H1.out.1,HKP.out.trans' H1.out.2⟩,by simp [intOf];omega⟩
  ·have hkn:k=us.length:=by omega
   have HINV:=hd_ hinv;have HKP:=hd_ hkp
   clear hinv hkp
   go_wp2_with fail
   refine bodyPost_end (v:=.tuple #[]) (by simp [results,Tryz.results78,go_sem]) rfl ⟨⟨_,rfl⟩,?_,HKP.out⟩
   have:=HINV.out
   rwa [List.take_of_length_le (by have:=HUL.out;omega)] at this
theorem wlsp_c (xs:List Th) (hx:∀ x∈xs,WalkP x∧x.ok) (cap:Array Value) (F S:Nat→Prop) (Inv:World→List Pl→Prop) (hV:Vis cap F S Inv) (w:World) (l:List Pl) (s:Value) (us:List Value)
 (hr:Row w F 88 s us) (hat:LAt IfAt w F xs us) (hI:Inv w l) (hn:us.length≤400) (hL:l.length+(thsPre xs).length≤1048576) :
 Calls Tryz.prog 80 #[VV cap,s] w fun e w'=>(∃ v,e=.returned v)∧Inv w' (l++thsPre xs)∧Kp S w w':=by
 have hul:=LAt.length _ _ hat
 have HX:=hd_ hx;have HV:=hd_ hV;have HR:=hd_ hr;have HA:=hd_ hat;have HI:=hd_ hI
 obtain ⟨sp,sc,rfl⟩:=hr.form
 have HUL:=hd_ hul
 have HLEN:=hd_ hL
 clear hL
 clear hx hV hr hat hI hul
 go_enter Tryz.func80,Tryz.ntmps80
 go_wp2_with fail
 go_loopw [5,8] (fun _ i wr=>∃ k:Nat,k≤us.length∧i=.int .i64 k∧Inv wr (l++thsPre (xs.take k))∧Kp S w wr) (fun _ i _=>us.length - (intOf i).toNat)
 case atStart=>exact ⟨0,Nat.zero_le _,rfl,by simpa [thsPre] using HI.out,Kp.refl _ _⟩
 case round =>
  obtain ⟨k,hk,rfl,hinv,hkp⟩:=hrel
  by_cases hlt:k < us.length
  ·have hkx:k < xs.length:=by have:=HUL.out;omega
   obtain ⟨u,hu,hxu⟩:=LAt.get xs us k xs[k] HA.out (List.getElem?_eq_getElem hkx)
   have hm:=HX.out xs[k] (List.getElem_mem hkx)
   have htk:thsPre (xs.take (k+1))=thsPre (xs.take k)++xs[k].pre:=by
    unfold thsPre
    rw [List.take_add_one,List.getElem?_eq_getElem hkx,List.flatMap_append]
    simp
   generalize xs[k]=x at hxu hm htk
   obtain ⟨y,rfl,hxu⟩:=hxu
   have hty:True:=trivial
   have hst:Stay F F w wr:=Stay.of_kp hkp fun b _ hF=>⟨HV.out.apart b hF,hF⟩
   obtain ⟨gb,gc,he,hc,_,_,_⟩:=(HR.out.stay hst).get hu
   cases he
   have gl:=World.block_lt_of_cell? wr _ hc
   have HXA:=hd_ (Th.At.on hxu hkp HV.out.apart)
   have HM:=hd_ hm;have HINV:=hd_ hinv;have HKP:=hd_ hkp;have HTK:=hd_ htk
   have HTY:=hd_ hty
   clear hst hxu hm hinv hkp htk hu
   go_wp2_with fail
   refine (HM.out.1 cap F S Inv HV.out wr _ _ HINV.out HXA.out HM.out.2 (by have h1:=thsPre_take_len xs (k+1);rw [HTK.out,la_] at h1;have h2:=HLEN.out;rw [la_];omega)).mono ?_
   rintro e w1 ⟨⟨v,rfl⟩,hi1,hk1⟩
   have H1:=a2_ hi1 hk1
   clear hi1 hk1
   go_wp2_with fail
   exact ⟨⟨k+1,by omega,by go_num,by rw [HTK.out,← aa_];exact H1.out.1,HKP.out.trans' H1.out.2⟩,by simp [intOf];omega⟩
  ·have hkn:k=us.length:=by omega
   have HINV:=hd_ hinv;have HKP:=hd_ hkp
   clear hinv hkp
   go_wp2_with fail
   refine bodyPost_end (v:=.tuple #[]) (by simp [results,Tryz.results80,go_sem]) rfl ⟨⟨_,rfl⟩,?_,HKP.out⟩
   have:=HINV.out
   rwa [List.take_of_length_le (by have:=HUL.out;omega)] at this
end
section
open Go Go.RowKit
def nmTh (n:Nm):Th:=.ty (.name n.p n.s)
def vlTh (v:Int × Ty):Th:=.ty v.2
theorem NmsAt.lat {w:World} {F:Nat→Prop}:∀ (l:List Nm) (us:List Value),NmsAt w F l us→LAt PtAt w F (l.map nmTh) us
 | [],_,h=>h
 | _::l,_,h=>by
  obtain ⟨u,us',rfl,h1,h2⟩:=h
  exact ⟨u,us',rfl,h1,NmsAt.lat l us' h2⟩
theorem FdsAt.lat {w:World} {F:Nat→Prop}:∀ (l:List Fd) (us:List Value),FdsAt w F l us→LAt PtAt w F (l.map Th.fd) us
 | [],_,h=>h
 | _::l,_,h=>by
  obtain ⟨u,us',rfl,h1,h2⟩:=h
  exact ⟨u,us',rfl,h1,FdsAt.lat l us' h2⟩
theorem LAt.vls {w:World} {F:Nat→Prop}:∀ (l:List (Int × Ty)) (us:List Value),LAt VlAt w F l us→LAt IfAt w F (l.map vlTh) us
 | [],_,h=>h
 | _::l,_,h=>by
  obtain ⟨u,us',rfl,h1,h2⟩:=h
  exact ⟨u,us',rfl,h1,LAt.vls l us' h2⟩
theorem LAt.its {w:World} {F:Nat→Prop}:∀ (l:List It) (us:List Value),LAt ItAt w F l us→LAt IfAt w F (l.map Th.it) us
 | [],_,h=>h
 | _::l,_,h=>by
  obtain ⟨u,us',rfl,h1,h2⟩:=h
  exact ⟨u,us',rfl,h1,LAt.its l us' h2⟩
theorem thsPre_cons (x:Th) (xs:List Th):thsPre (x::xs)=x.pre++thsPre xs:=rfl
theorem thsPre_nms (l:List Nm):thsPre (l.map nmTh)=l.map Nm.pl:=by
 induction l with
 | nil=>rfl
 | cons n l ih=>rw [List.map_cons,thsPre_cons,ih];rfl
theorem thsPre_fds:∀ f:Fs,thsPre (f.fds.map Th.fd)=f.pre
 | .nil=>rfl
 | .cons c ns t tp tag l=>by
  rw [Fs.fds,List.map_cons,thsPre_cons,thsPre_fds l]
  rfl
theorem thsPre_vls (l:List (Int × Ty)):thsPre (l.map vlTh)=vsPre l:=by
 induction l with
 | nil=>rfl
 | cons v l ih=>rw [List.map_cons,thsPre_cons,ih];rfl
theorem thsPre_its (l:List It):thsPre (l.map Th.it)=itsPre l:=by
 induction l with
 | nil=>rfl
 | cons v l ih=>rw [List.map_cons,thsPre_cons,ih];rfl
theorem LAt.pton {w w':World} {F S:Nat→Prop} {xs:List Th} {us:List Value} (h:LAt PtAt w F xs us) (hk:Kp S w w') (ha:∀ b,F b→¬ S b):LAt PtAt w' F xs us :=
 LAt.stay (fun _ _ h=>Th.At.on h hk ha) _ _ h
theorem LAt.ifon {w w':World} {F S:Nat→Prop} {xs:List Th} {us:List Value} (h:LAt IfAt w F xs us) (hk:Kp S w w') (ha:∀ b,F b→¬ S b):LAt IfAt w' F xs us :=
 LAt.stay (fun _ _ h=>by obtain ⟨y,e,h⟩:=h;exact ⟨y,e,Th.At.on h hk ha⟩) _ _ h
theorem Row.on {w w':World} {F S:Nat→Prop} {T:TypeId} {v:Value} {us:List Value} (h:Row w F T v us) (hk:Kp S w w') (ha:∀ b,F b→¬ S b):Row w' F T v us :=
 h.stay (Stay.of_kp hk fun b _ hF=>⟨ha b hF,hF⟩)
theorem nmTh_ok {n:Nm} (h:n.ok):(nmTh n).ok:=by
 obtain ⟨_,h2,h3⟩:=h
 refine ⟨⟨false,?_⟩,?_⟩
 ·simp only [Ty.ok];exact ⟨trivial,h2,h3⟩
 ·simp [Ty.nd,Nd.name,Nd.size,Nd.sizeL]
theorem wlst_c (cap:Array Value) (w:World):Calls Tryz.prog 79 #[VV cap,.slice none 0 0] w fun e w'=>(∃ v,e=.returned v)∧w'=w:=by
 go_enter Tryz.func79,Tryz.ntmps79
 go_wp2_with fail
 go_loopw [5,8] (fun _ i wr=>i=.int .i64 0∧wr=w) (fun _ i _=>(intOf i).toNat)
 case atStart=>exact ⟨rfl,rfl⟩
 case round =>
  obtain ⟨rfl,rfl⟩:=hrel
  go_wp2_with fail
  exact bodyPost_end (v:=.tuple #[]) (by simp [results,Tryz.results79,go_sem]) rfl ⟨⟨_,rfl⟩,rfl⟩
end
end Go.Proofs.YtnkbglhdpmbgfaaGreatFmt
