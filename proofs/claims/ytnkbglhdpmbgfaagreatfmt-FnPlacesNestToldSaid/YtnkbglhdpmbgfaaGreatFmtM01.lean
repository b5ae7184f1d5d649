/- A part of the proof; no condition: BNames. -/
import Derived.Test.YtnkbglhdpmbgfaaGreatFmtM
import Derived.Test.YtnkbglhdpmbgfaaGreatFmtM00
set_option linter.all false
set_option maxHeartbeats 16000000
set_option maxRecDepth 100000
namespace Go.Proofs.YtnkbglhdpmbgfaaGreatFmt
section
open Go Go.RowKit
theorem NmsAt.snoc {w:World} {F:Nat→Prop}:∀ (l:List Nm) (us:List Value) (n:Nm) (u:Value),NmsAt w F l us→IdAt w F n.p n.s u→NmsAt w F (l++[n]) (us++[u])
 | [],us,n,u,h,hu=>by
  obtain rfl:us=[]:=h
  exact ⟨u,[],rfl,hu,rfl⟩
 | m::l,us,n,u,h,hu=>by
  obtain ⟨v,us',rfl,h1,h2⟩:=h
  exact ⟨v,us'++[u],rfl,h1,NmsAt.snoc l us' n u h2 hu⟩
theorem NmsAt.length {w:World} {F:Nat→Prop}:∀ (l:List Nm) (us:List Value),NmsAt w F l us→us.length=l.length
 | [],us,h=>by obtain rfl:us=[]:=h;rfl
 | m::l,us,h=>by
  obtain ⟨v,us',rfl,_,h2⟩:=h
  simp [NmsAt.length l us' h2]
def NmR (w0:World) (bb:Nat) (ns:List Nm) (l:List Int) (v:Value) (k:Nat) (wr:World):Prop :=
 ∃ done todo us,ns=done++todo∧k=done.length∧Row wr (Fr w0.heap.size) 70 v us∧NmsAt wr (Ex w0.heap.size v) done us∧Bld wr bb (nmToks done.isEmpty todo++l)∧Kp (On bb) w0 wr
theorem NmR.step {w wr w2 w3:World} {bb k g cap bu:Nat} {ns done todo':List Nm} {n:Nm} {us:List Value} {l:List Int} {v:Value}
 (h:ns=done++n::todo'∧k=done.length∧Row wr (Fr w.heap.size) 70 v us∧NmsAt wr (Ex w.heap.size v) done us∧Bld wr bb (nmToks done.isEmpty (n::todo')++l)∧Kp (On bb) w wr∧us.length=done.length)
 (h2:Bld w2 bb (nmToks false todo'++l)∧Kp (On bb) wr w2∧IdAt w2 (Fr wr.heap.size) n.p n.s (.pointer (some ⟨bu,0,none⟩)))
 (hlt:bb < w.heap.size)
 (hrow3:Row w3 (fun b=>b=g) 70 (.slice (some ⟨g,0,none⟩) (us.length+1) cap) (us++[.pointer (some ⟨bu,0,none⟩)]))
 (hgrow:(w2.alloc (.cells #[.pointer (some ⟨bu,0,none⟩)] 70)).grownBy w3 v.ownBlock) (hat3:v.ownBlock=some g∨g=w2.heap.size+1) :
 NmR w bb ns l (.slice (some ⟨g,0,none⟩) (us.length+1) cap) (k+1) w3:=by
 obtain ⟨hns,hk,hrow,hat,hbld,hkp,hul⟩:=h
 obtain ⟨hB2,hK2,hid⟩:=h2
 have hs1:=hkp.size
 have hs2:=hK2.size
 have hvb:∀ b,v.ownBlock=some b→w.heap.size≤b∧b < wr.heap.size:=by
  intro b hb
  rcases hrow with ⟨rfl,_⟩ | ⟨g',cap',cur,rfl,hF,hg,_⟩
  ·simp [Value.ownBlock] at hb
  ·simp only [Value.ownBlock,Option.some.injEq] at hb
   subst hb
   exact ⟨hF,ltb hg⟩
 have hst:Stay (Ex w.heap.size v) (Ex w.heap.size (.slice (some ⟨g,0,none⟩) (us.length+1) cap)) w2 w3:=by
  intro b hb hF
  have h1:=Stay.grown (n:=us.length+1) (cap:=cap) hgrow (by simpa using hat3) (lo:=w.heap.size) b (by simp;omega) hF
  exact ⟨h1.1.trans (Below.heap_alloc _ _ _ hb),h1.2⟩
 have hk23:Kp (fun b=>v.ownBlock=some b) w2 w3:=((Kp.refl _ w2).alloc _).grown hgrow fun k hk _=>hk
 refine ⟨done++[n],todo',us++[.pointer (some ⟨bu,0,none⟩)],by simp [hns],by simp [hk],?_,?_,?_,?_⟩
 ·rw [show us.length+1=(us++[Value.pointer (some ⟨bu,0,none⟩)]).length by simp] at hrow3 ⊢
  refine hrow3.stay fun b hb hF=>⟨rfl,?_⟩
  subst hF
  rcases hat3 with h | h
  ·exact (hvb _ h).1
  ·omega
 ·refine NmsAt.snoc _ _ _ _ ?_ ?_
  ·refine NmsAt.stay hst _ _ (NmsAt.stay (F':=Ex w.heap.size v) (w':=w2) ?_ _ _ hat)
   exact fun b hb hF=>⟨hK2.block b hb (by intro e;have:=hF.1;omega),hF⟩
  ·refine Blk.stay hid fun b hb hF=>hst b hb ⟨Nat.le_trans hs1 hF,fun e=>?_⟩
   have:=(hvb _ e).2
   omega
 ·rw [show (done++[n]).isEmpty=false by cases done <;> rfl]
  exact hB2.stay fun b hb=>hk23.block b (by omega) fun e=>by have:=(hvb _ e).1;omega
 ·exact (hkp.trans' hK2).trans hk23 fun i hi e=>by have:=(hvb _ e).1;omega
theorem names_c (w:World) (B bb:Nat) (s:Value) (ns:List Nm) (l:List Int) (hB:Bld w bb (nmToks true ns++l)) (hl:Ls w B s (ns.map Nm.nd)) (hBb:B≤bb) (hn:ns.length≤400) :
 Calls Tryz.prog 62 #[.pointer (some ⟨bb,0,none⟩),s] w fun e w' =>
  (∃ v us,e=.returned v∧Row w' (Fr w.heap.size) 70 v us∧NmsAt w' (Fr w.heap.size) ns us)∧Bld w' bb l∧Kp (On bb) w w':=by
 have HR:Hid (NmR w bb ns l (.slice none 0 0) 0 w):=⟨[],ns,[],rfl,rfl,.inl ⟨rfl,rfl⟩,rfl,hB,Kp.refl _ _⟩
 have hlt:=hB.lt
 obtain ⟨p,c,rfl,hc,h⟩:=id hl
 have HL:Hid (Ls w B (.slice p (ns.map Nm.nd).length c) (ns.map Nm.nd)):=hl
 simp only [lm_] at hc
 clear hB hl h
 rw [lm_]
 go_enter Tryz.func62,Tryz.ntmps62
 go_wp2
 go_loopw [5,10] (fun v i wr=>∃ k:Nat,k≤ns.length∧i=.int .i64 k∧NmR w bb ns l v k wr) (fun _ i _=>ns.length - (intOf i).toNat)
 case atStart=>exact ⟨0,Nat.zero_le _,rfl,HR.out⟩
 case round =>
  obtain ⟨k,hk,rfl,hr⟩:=hrel
  by_cases hlt':k < ns.length
  ·obtain ⟨done,todo,us,hns,hk',hrow,hat,hbld,hkp⟩:=hr
   have hul:=hat.length
   obtain ⟨n,todo',rfl⟩:∃ n todo',todo=n::todo':=by
    cases todo with
    | nil=>rw [hns] at hlt';simp at hlt';omega
    | cons n t=>exact ⟨n,t,rfl⟩
   have hsz:=hkp.size
   have hne:(ns.map Nm.nd)[k]?=some n.nd:=by rw [hns,hk'];simp
   obtain ⟨b,o,c',q,d,he,_,hb,hi,h1,h2,h3,h4,h5⟩:=(HL.out.stay (w':=wr) (fun i hi=>hkp.block i (by omega) (by omega))).get hne
   cases he
   simp only [Nm.nd,Nd.name,Nd.k,Nd.t,Nd.l,ln_] at h1 h2 h3
   have H:Hid (ns=done++n::todo'∧k=done.length∧Row wr (Fr w.heap.size) 70 u5 us∧NmsAt wr (Ex w.heap.size u5) done us∧Bld wr bb (nmToks done.isEmpty (n::todo')++l)∧Kp (On bb) w wr∧us.length=done.length):=⟨hns,hk',hrow,hat,hbld,hkp,hul⟩
   have q1:bb < wr.heap.size:=by omega
   clear hns hrow hat hbld hkp h4 hne hi hul
   have hi117:=Tryz.type70
   by_cases hk0:k=0
   ·have hk2:done.isEmpty=true:=by cases done with | nil=>rfl | cons _ _=>simp at hk';omega
    have hk1:decide (0 < k)=false:=by simp;omega
    clear hk' hk0
    go_wp2_with fail
    refine (ident_c _ bb n.s n.p (nmToks false todo'++l) ?_).mono ?_
    ·have:=H.out.2.2.2.2.1
     rw [hk2] at this
     exact this.stay fun i hi=>Below.heap_alloc _ _ _ (by omega)
    rintro e w2 ⟨⟨u,rfl,hid⟩,hB2,hK2⟩
    have hK2:Kp (On bb) wr w2:=((Kp.refl (On bb) wr).alloc _).trans' hK2
    have hid:IdAt w2 (Fr wr.heap.size) n.p n.s u:=hid.stay (fun b hb hF=>⟨rfl,by simp at hF;omega⟩)
    obtain ⟨bu,rfl,hu1,hu2⟩:=id hid
    have H2:=a3_ hB2 hK2 hid
    have q2:=hK2.size
    clear hB2 hK2 hid hu1 hu2
    go_wp2_with (at_builtin;refine wpList_append_row rfl _ _ _ rfl Tryz.underlying117 hi117 rfl rfl (by decide) rfl rfl (Row.stay (F':=Fr w.heap.size) H.out.2.2.1 fun i hi hF=>⟨(Below.heap_alloc _ _ _ (by omega)).trans (H2.out.2.1.block i hi (by have:=H.out.2.2.2.2.1;omega)),hF⟩) rfl (by simp;rfl) rfl (by have:=H.out.2.2.2.2.2.2;have:=H.out.2.1;omega) (w2.heap.size+1) (by simp) ?_;intro g cap w3 hrow3 hgrow hat3 hlt3)
    go_roundw
    case rel=>exact ⟨k+1,by omega,by go_num,NmR.step H.out H2.out hlt hrow3 hgrow hat3⟩
    case measure=>simp [intOf];omega
   ·have hk1:0 < (k:Int):=by omega
    have hk2:done.isEmpty=false:=by cases done with | nil=>simp at hk';omega | cons _ _=>rfl
    clear hk'
    go_wp2_with fail
    refine (next_c _ bb n.c (n.p::(nmToks false todo'++l)) ?_).mono ?_
    ·have:=H.out.2.2.2.2.1
     rw [hk2] at this
     exact this.stay fun i hi=>Below.heap_alloc _ _ _ (by omega)
    rintro e w1 ⟨rfl,hB1,hK1⟩
    have x1:w1.cell? ⟨wr.heap.size,1,none⟩=some (.string n.s):=(hK1.cell (by simp) (by omega)).trans (by simp)
    have H1:=a2_ hB1 hK1
    clear hB1 hK1
    go_wp2_with fail
    refine (ident_c _ bb n.s n.p (nmToks false todo'++l) H1.out.1).mono ?_
    rintro e w2 ⟨⟨u,rfl,hid⟩,hB2,hK2⟩
    have hK2:Kp (On bb) wr w2:=(((Kp.refl (On bb) wr).alloc _).trans' H1.out.2).trans' hK2
    have hid:IdAt w2 (Fr wr.heap.size) n.p n.s u:=hid.stay (fun b hb hF=>⟨rfl,by have:=H1.out.2.size;simp at this;omega⟩)
    obtain ⟨bu,rfl,hu1,hu2⟩:=id hid
    have H2:=a3_ hB2 hK2 hid
    have q2:=hK2.size
    clear hB2 hK2 hid hu1 hu2
    go_wp2_with (at_builtin;refine wpList_append_row rfl _ _ _ rfl Tryz.underlying117 hi117 rfl rfl (by decide) rfl rfl (Row.stay (F':=Fr w.heap.size) H.out.2.2.1 fun i hi hF=>⟨(Below.heap_alloc _ _ _ (by omega)).trans (H2.out.2.1.block i hi (by have:=H.out.2.2.2.2.1;omega)),hF⟩) rfl (by simp;rfl) rfl (by have:=H.out.2.2.2.2.2.2;have:=H.out.2.1;omega) (w2.heap.size+1) (by simp) ?_;intro g cap w3 hrow3 hgrow hat3 hlt3)
    go_roundw
    case rel=>exact ⟨k+1,by omega,by go_num,NmR.step H.out H2.out hlt hrow3 hgrow hat3⟩
    case measure=>simp [intOf];omega
  ·obtain ⟨done,todo,us,hns,hk',hrow,hat,hbld,hkp⟩:=hr
   have hto:todo=[]:=by
    cases todo with
    | nil=>rfl
    | cons n t=>rw [hns] at hlt';simp at hlt';omega
   subst hto
   rw [List.append_nil] at hns
   subst hns
   have H:=a4_ hrow hat hbld hkp
   clear hrow hat hbld hkp hk'
   go_wp2_with fail
   go_ret
   obtain ⟨hrow,hat,hbld,hkp⟩:=H.out
   exact ⟨⟨_,us,rfl,hrow,hat.stay fun b _ hF=>⟨rfl,hF.1⟩⟩,by simpa [nmToks] using hbld,hkp⟩
end
end Go.Proofs.YtnkbglhdpmbgfaaGreatFmt
