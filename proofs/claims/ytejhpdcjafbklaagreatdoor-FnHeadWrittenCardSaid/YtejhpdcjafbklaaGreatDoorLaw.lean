/- The law FnHeadWritten: Law. -/
import Derived.Test.YtejhpdcjafbklaaGreatDoorUnm
import Derived.Test.YtejhpdcjafbklaaGreatDoorParse
set_option linter.all false
set_option maxHeartbeats 1000000
set_option maxRecDepth 6000
namespace Go.Proofs.YtejhpdcjafbklaaGreatDoor
open Go.RowKit
def DN(l t:Tx)(u:PU):Sq×Tx×PU:=
 if l=[]then(.stop,[],{u with ps:=[],hs:=[]})
 else
  let r:=unm t 59 63 []
  let n:=if r.1=l.length then l.length-1 else r.1
  if l.getD n 0=63 then(.heads,l.drop (n+1),{u with ps:=r.2})else(.stop,l,{u with ps:=r.2})
def Ji(l t:Tx)(u:PU):Sq×Tx×PU:=(.stop,l,{u with hs:=(unm t 38 0 []).2})
theorem Od(l:Tx)(sp en:UInt8):∀(f i:Nat) (m:UM),i≤l.length→(KK l sp en f i m).1≤l.length:=by
 intro f;induction f with
 |zero=>intro i m h;exact h
 |succ f ih=>
  intro i m h;unfold KK;split
  ·split
   ·exact h
   ·exact ih _ _ (by omega)
  ·exact NL _
theorem QQ(l:Tx)(sp en:UInt8)(p:KVs):(unm l sp en p).1≤l.length:=Od l sp en _ _ _ (Nat.zero_le _)
theorem Ke{l:Tx}(hl:l.length≤1099511627776){sp x:UInt8}{i N:Nat}{m:UM}(h:KSm N m.acc):KSm (N+1) (CR l sp i x m).acc:=by
 have hd:(l.drop m.start).length≤1099511627776:=by simp only[List.length_drop];omega
 have hs:∀a b,(sub l a b).length≤1099511627776:=fun a b=>Nat.le_trans (Ef l a b) hl;have h0:=h.mono (Nat.le_succ N);unfold CR;split
 ·exact h0
 ·split
  ·exact h.add (hs _ _) (by simp)
  ·split<;>exact h0
 ·split
  ·exact h0
  ·split
   ·exact h.add (hs _ _) (hs _ _)
   ·exact h0
 ·split
  ·exact h.add hd (hs _ _)
  ·exact h0
theorem Oc{l:Tx}(hl:l.length≤1099511627776){sp en:UInt8}:∀(f i N:Nat) (m:UM),i≤l.length→KSm N m.acc→KSm (N+(l.length-i)) (KK l sp en f i m).2.acc:=by
 intro f;induction f with
 |zero=>intro i N m h k;exact k.mono (by omega)
 |succ f ih=>
  intro i N m h k;unfold KK;split
  ·split
   ·exact k.mono (by omega)
   ·exact(ih _ (N+1) _ (by omega) (Ke hl k)).mono (by omega)
  ·exact k.mono (by omega)
theorem Nz{l:Tx}(hl:l.length≤1099511627776){sp en:UInt8}{N:Nat}{p:KVs}(h:KSm N p):KSm (N+l.length+2) (unm l sp en p).2:=by
 have h1:=Oc hl (sp:=sp) (en:=en) (l.length+1) 0 N ⟨0,0,-1,1,p⟩ (Nat.zero_le _) h;have hs:∀a b,(sub l a b).length≤1099511627776:=fun a b=>Nat.le_trans (Ef l a b) hl;have hd:∀a,(l.drop a).length≤1099511627776:=fun a=>by simp only[List.length_drop];omega
 unfold unm;generalize KK l sp en (l.length+1) 0 ⟨0,0,-1,1,p⟩=r at h1;dsimp only;unfold FS;dsimp only;have h2:KSm (N+l.length+1) (if 0<r.2.sep∧r.2.start<r.2.sep then B7 r.2.acc (sub l r.2.start r.2.sep) (sub l (r.2.sep+1) r.1)else r.2.acc):=by
  split
  ·exact(h1.add (hs _ _) (hs _ _)).mono (by omega)
  ·exact h1.mono (by omega)
 split
 ·exact(h2.add (hd _) (by simp)).mono (by omega)
 ·exact h2.mono (by omega)
theorem IP(base:Nat)(w:World)(hbase:base≤w.heap.size):Calls Tryz.prog 141 #[] w fun e w'=>
 ∃g,e= .returned (.slice (some ⟨g,0,none⟩) 0 4)∧w'.ownsRow base 172 2 (.slice (some ⟨g,0,none⟩) 0 4) 0 []∧Le w w':=by
 obtain⟨i0,hi0,hz0,hz1,hz2⟩:=info_parts IU;obtain⟨W2,hrun,hown,hgr⟩:=run_makeSlice_owned (P:=Tryz.prog) (w:=w) base 82 172 i0 _ 2 Tryz.underlying82 hi0 hz0 hz1 .i64 .i64 4 (by decide) (by rw[hz2];decide) (by decide) hbase;have HO:=Hi hown;have HG:Hid (Le w W2):=Hi ⟨hgr.os,hgr.tape,hgr.output,hgr.size,fun k hk=>hgr.block k hk (by simp)⟩
 have hrun2:(Instr.makeSlice 82 (.int .i64 0) (.int .i64 4)).run Tryz.prog w= .ok (.slice (some ⟨w.heap.size,0,none⟩) 0 4) W2:=hrun;clear hrun hown hgr hi0 hz0 hz1 hz2;go_enter Tryz.func141,Tryz.ntmps141;go_wp2;go_ret;exact⟨_,rfl,HO.out,HG.out⟩
theorem UAt.of_ps{w:World}{base b:Nat}{u:PU}{pv hv:Value}{l:KVs}(hp:PAx w base b 8 84 (u.cells pv hv) l)(hh:Hp w hv u.hs)(hs:u.small)(hk:KSm 1099511627776 l):UAt w b {u with ps:=l}:=by
 obtain⟨v,x,hx,hb,hown⟩:=hp;have e:x=v:=(Option.some.inj hx).symm;subst e;exact⟨x,hv,hb,Hp.of_own hown hk.1 hk.2,hh,hs⟩
theorem UAt.of_hs{w:World}{base b:Nat}{u:PU}{pv hv:Value}{l:KVs}(hp:PAx w base b 9 84 (u.cells pv hv) l)(hh:Hp w pv u.ps)(hs:u.small)(hk:KSm 1099511627776 l):UAt w b {u with hs:=l}:=by
 obtain⟨v,x,hx,hb,hown⟩:=hp;have e:x=v:=(Option.some.inj hx).symm;subst e;exact⟨pv,x,hb,hh,Hp.of_own hown hk.1 hk.2,hs⟩
theorem PFr.kp{b:Nat}{w w':World}(h:PFr w.heap.size b w w'):Kp b w w':=
 ⟨h.os,h.tape,h.output,h.size,fun i hi hb=>h.low i hi (fun e=>hb (by rw[e]))⟩
def Ea(b:Nat)(w:World):Prop:=∃w0,BW w0∧Le w0 w∧w0.heap.size≤b
theorem Ea.laid{b:Nat}{w:World}(h:Ea b w):BW w:=by obtain⟨w0,h,k,_⟩:=h;exact h.le k
theorem Ea.le{b:Nat}{w w':World}(h:Ea b w)(k:Le w w'):Ea b w':=by obtain⟨w0,h,h2,h3⟩:=h;exact⟨w0,h,h2.trans k,h3⟩
theorem Ea.kp{b:Nat}{w w':World}(h:Ea b w)(k:Kp b w w'):Ea b w':=by
 obtain⟨w0,h,h2,h3⟩:=h;exact⟨w0,h,Below.trans h2 (k.below h3 h2.size),h3⟩
def RY(b:Nat)(w:World)(s:ByteArray)(u:PU)(e:Ending)(w':World):Prop:=∃t,CP s t∧EZ b w (DN (bs s) (bs t) u) e w'
def Rf(b:Nat)(w:World)(s:ByteArray)(u:PU)(e:Ending)(w':World):Prop:=∃t,CP s t∧EZ b w (Ji (bs s) (bs t) u) e w'
theorem Pl(s:ByteArray)(b:Nat)(u:PU)(w:World)(hu:UAt w b u)(hs:s.size≤1099511627000)(hL:Ea b w):
 Calls Tryz.prog 136 #[.pointer (some ⟨b,0,none⟩),.string s] w (Rf b w s u):=by
 obtain⟨pv,hv,hb,h1,h2,h3⟩:=hu;have HL:=Hi (BD s);have z9:=AN hb 9;have g9:w.cell? ⟨b,9,none⟩=some hv:=AB hb 9;have HB:=Hi hb;have H1:=Hi h1;have HS:=Hi h3;have HLAID:=Hi hL;clear hb h1 h2 h3 hL;go_enter Tryz.func136,Tryz.ntmps136;go_wp2_with fail
 have hbl:=AQ HB.out;have hkp:=BK w b 9 (.slice none 0 0);have hpx:PAx (w.setCell ⟨b,9,none⟩ (.slice none 0 0)) w.heap.size b 9 84 (u.cells pv hv) []:=
  ⟨.slice none 0 0,.slice none 0 0,rfl,AX HB.out 9 _,World.ownsRow_nil _ _ _ _⟩
 have hlaid:BW (w.setCell ⟨b,9,none⟩ (.slice none 0 0)):=(HLAID.out.kp hkp).laid;refine(QR w.heap.size b 9 84 _ [] s 38 0 _ (by decide) hpx (by simp[World.setCell]) (by omega) 0 (by omega) ⟨NL _,by simp⟩ (by decide) (by decide) hlaid).mono ?_;rintro e w2 ⟨t,ht,rfl,hpa,hpf⟩;have HT:=Hi ht;have HPA:=Hi hpa
 have HPF:=Hi (((PFr.refl w.heap.size b w).set 9 (.slice none 0 0)).trans hpf);clear hpa hpf ht hpx hlaid hkp hbl;go_wp2
 go_ret3
 refine⟨t,HT.out,rfl,?_,HPF.out.kp⟩;have ht:(bs t).length≤s.size:=by
  obtain⟨⟨k,hk,hd⟩,_,_⟩:=HT.out;rw[hd,List.length_drop,HL.out];omega
 refine UAt.of_hs HPA.out ?_ HS.out ((Nz (by omega) (N:=0) ⟨NL _,by simp⟩).mono (by omega))
 exact H1.out.of_blocks fun g _ _ hg=>HPF.out.low g (AQ hg) (by
  rintro rfl;have h:=HB.out;rw[hg]at h;injection h with h
  injection h with _ h
  exact absurd h (by decide))
theorem CP.len{s t:ByteArray}(h:CP s t):(bs t).length≤(bs s).length:=by
 obtain⟨⟨k,hk,hd⟩,_,_⟩:=h;rw[hd,List.length_drop];omega
theorem M1(s:ByteArray)(b:Nat)(u:PU)(w:World)(hu:UAt w b u)(hs:s.size≤1099511627000)(hL:Ea b w):
 Calls Tryz.prog 135 #[.pointer (some ⟨b,0,none⟩),.string s] w (RY b w s u):=by
 have HL:=Hi (BD s);have z8:=hu.frozen 8;have z9:=hu.frozen 9;have HLAID:=Hi hL;have HU:=Hi hu;obtain⟨pv,hv,hb,h1,h2,h3⟩:=hu;have g8:w.cell? ⟨b,8,none⟩=some pv:=AB hb 8;have g9:w.cell? ⟨b,9,none⟩=some hv:=AB hb 9;have HB:=Hi hb;have H2:=Hi h2;have HS:=Hi h3;clear hb h1 h2 h3 hL;by_cases h0:s.size=0
 ·have hs0:bs s=[]:=List.eq_nil_of_length_eq_zero (by rw[HL.out];exact h0);have HS0:=Hi hs0;have hb0:((s.size:Int)==0)=true:=by simp[h0]
  clear hs0;go_enter Tryz.func135,Tryz.ntmps135;go_wp2
  go_ret3
  have hres:DN (bs s) (bs s) u=(.stop,[],{u with ps:=[],hs:=[]}):=by unfold DN;rw[if_pos HS0.out]
  refine⟨s,⟨⟨0,Nat.zero_le _,rfl⟩,fun _ _ _ _ _=>rfl,fun _=>rfl⟩,?_⟩;rw[hres];refine⟨Ec rfl (CB (MM (by rw[HS0.out,AV]))) rfl,?_,((Kp.refl b w).set 8 _).set 9 _⟩;exact⟨.slice none 0 0,.slice none 0 0,AX (AX HB.out 8 _) 9 _,Hp.nil _,Hp.nil _,HS.out⟩
 ·have hb0:((s.size:Int)==0)=false:=beq_eq_false_iff_ne.2 (by omega);have hne:bs s≠[]:=by intro e;apply h0;rw[←HL.out,e];rfl
  have HNE:=Hi hne;clear hne;go_enter Tryz.func135,Tryz.ntmps135;go_wp2_with fail
  refine(IP w.heap.size w (NL _)).mono ?_;rintro e w1 ⟨g1,rfl,hown1,hle1⟩;have HOWN1:=Hi hown1;have HLE1:=Hi hle1;have y8:=hle1.cell g8;have x8:=hle1.frozen (AQ HB.out) z8;clear g8 g9 z8 z9 hown1 hle1;have hb1:=HLE1.out.heap HB.out;have HB1:=Hi hb1;have hbl:=AQ HB1.out;clear hb1;go_wp2_with fail
  have hpx:PAx (w1.setCell ⟨b,8,none⟩ (.slice (some ⟨g1,0,none⟩) 0 4)) w.heap.size b 8 84 (u.cells pv hv) []:=
   ⟨.slice (some ⟨g1,0,none⟩) 0 4,.slice (some ⟨g1,0,none⟩) 0 4,rfl,AX HB1.out 8 _,HOWN1.out.kept (BK w1 b 8 (.slice (some ⟨g1,0,none⟩) 0 4)) (.inr fun e=>Gd HOWN1.out HB1.out (by decide) e.symm)⟩
  have hlaid:BW (w1.setCell ⟨b,8,none⟩ (.slice (some ⟨g1,0,none⟩) 0 4)):=((HLAID.out.le HLE1.out).kp (BK w1 b 8 (.slice (some ⟨g1,0,none⟩) 0 4))).laid;refine(QR w.heap.size b 8 84 _ [] s 59 63 _ (by decide) hpx (by have:=HLE1.out.size;simp[World.setCell];omega) (by omega) 0 (by omega) ⟨NL _,by simp⟩ (by decide) (by decide) hlaid).mono ?_;rintro e w2 ⟨t,ht,rfl,hpa,hpf⟩
  have HT:=Hi ht;have HTL:=Hi ht.len;have HPF:=Hi ((((PFr.refl w.heap.size b w).le HLE1.out (NL _)).set 8 (.slice (some ⟨g1,0,none⟩) 0 4)).trans hpf);have HPX:=Hi hpa
  have hh2:Hp w2 hv u.hs:=H2.out.of_blocks fun g _ _ hg=>HPF.out.low g (AQ hg) (by
   rintro rfl;have h:=HB.out;rw[hg]at h;injection h with h
   injection h with _ h
   exact absurd h (by decide))
  have HU2:Hid (UAt w2 b {u with ps:=(unm (bs t) 59 63 []).2}):=Hi
   (UAt.of_ps hpa hh2 HS.out ((Nz (by have:=HTL.out;have:=HL.out;omega) (N:=0) ⟨NL _,by simp⟩).mono (by have:=HTL.out;have:=HL.out;omega)))
  have hun:=QQ (bs t) 59 63 [];have HK2:=Hi HPF.out.kp;clear hpa hpf ht hpx hlaid hh2 y8 x8 HOWN1 HPX HPF;generalize hN:(unm (bs t) 59 63 []).1=n at hun⊢;have hnl:n≤s.size:=by have:=HTL.out;have:=HL.out;omega
  have HNN:=Hi hN;clear hun hN;obtain⟨k,hk1,hk2⟩:∃k,k<s.size∧(n=s.size∧k+1=s.size∨n≠s.size∧k=n):=by
   by_cases hns:n=s.size
   ·exact⟨s.size-1,by omega,.inl ⟨hns,by omega⟩⟩
   ·exact⟨n,by omega,.inr ⟨hns,rfl⟩⟩
  have hp:k<(bs s).length:=by rw[HL.out];exact hk1
  have hres0:DN (bs s) (bs t) u=if(bs s)[k]=63 then(.heads,(bs s).drop (k+1),{u with ps:=(unm (bs t) 59 63 []).2})else(.stop,bs s,{u with ps:=(unm (bs t) 59 63 []).2}):=by
   unfold DN;rw[if_neg HNE.out];have e1:(if(unm (bs t) 59 63 []).1=(bs s).length then(bs s).length-1 else(unm (bs t) 59 63 []).1)=k:=by
    rw[HNN.out,HL.out];rcases hk2 with⟨e,e2⟩|⟨e,e2⟩
    ·rw[if_pos e];omega
    ·rw[if_neg e];exact e2.symm
   simp only[e1,Db hp]
  have hx:s[k]'hk1=(bs s)[k]:=Nk s k hk1;by_cases hc:(bs s)[k]=63
  ·rw[if_pos hc]at hres0;have hres:=Hi hres0;have hv1:((s[k]'hk1).toNat:Int)=63:=by rw[hx,hc];rfl
   clear hres0 hc hx hp;rcases hk2 with⟨rfl,hk3⟩|⟨hk3,rfl⟩
   ·have hq:((s.size:Int)-1)=k:=by omega
    clear hk3;go_wp2
    go_quiet (fail)
    go_wp2
    go_ret3
    refine⟨t,HT.out,?_⟩;rw[hres.out];exact⟨Ec rfl (CB (BM s (k+1))) rfl,HU2.out.le ((AC _).drewN _),HK2.out.le ((AC _).drewN _)⟩
   ·have hq:((k:Int)==(s.size:Int))=false:=by simp;omega
    clear hk3;go_wp2
    go_quiet (fail)
    go_wp2
    go_ret3
    refine⟨t,HT.out,?_⟩;rw[hres.out];exact⟨Ec rfl (CB (BM s (k+1))) rfl,HU2.out.le ((AC _).drewN _),HK2.out.le ((AC _).drewN _)⟩
  ·rw[if_neg hc]at hres0;have hres:=Hi hres0;have hv1:(((s[k]'hk1).toNat:Int)==63)=false:=by rw[hx];simp only[beq_eq_false_iff_ne,ne_eq];intro h;exact hc (Dw (n:=63) h (by decide))
   clear hres0 hc hx hp;rcases hk2 with⟨rfl,hk3⟩|⟨hk3,rfl⟩
   ·have hq:((s.size:Int)-1)=k:=by omega
    clear hk3;go_wp2
    go_ret3
    refine⟨t,HT.out,?_⟩;rw[hres.out];exact⟨Ec rfl (CB (FB s).symm) rfl,HU2.out,HK2.out⟩
   ·have hq:((k:Int)==(s.size:Int))=false:=by simp;omega
    clear hk3;go_wp2
    go_ret3
    refine⟨t,HT.out,?_⟩;rw[hres.out];exact⟨Ec rfl (CB (FB s).symm) rfl,HU2.out,HK2.out⟩
end Go.Proofs.YtejhpdcjafbklaaGreatDoor
namespace Go.Proofs.YtejhpdcjafbklaaGreatDoor
open Go.RowKit
def Nm(l t:Tx):Prop:=(∃k,t=l.drop k)∧(∀x r,l=x::r→x.toNat<128→spB x=false→t=l)∧(l=[]→t=l)
theorem CP.tx{s t:ByteArray}(h:CP s t):Nm (bs s) (bs t):=by
 obtain⟨⟨k,_,h1⟩,h2,h3⟩:=h;exact⟨⟨k,h1⟩,fun x r a b c=>congrArg bs (h2 x r a b c),fun e=>congrArg bs (h3 e)⟩
def F7(o:Option Sq)(l:Tx)(u:PU)(r:Option (Sq×Tx×PU)):Prop:=
 match o with
 |none=>r=BQ l u
 |some .slashes=>r=some (Cl l u)
 |some .user=>r=some (FH l u)
 |some .host=>r=some (Do l u)
 |some .ip=>r=none∨∃k,r=some (fIp l k u)
 |some .port=>r=Cb l u
 |some .params=>∃t,Nm l t∧r=some (DN l t u)
 |some .heads=>∃t,Nm l t∧r=some (Ji l t u)
 |some .stop=>False
def rk:Option Sq→Nat
 |none=>9
 |some .slashes=>8
 |some .user=>7
 |some .host=>6
 |some .ip=>5
 |some .port=>4
 |some .params=>3
 |some .heads=>2
 |some .stop=>1
inductive Gr:Option Sq→Tx→PU→Option PU→Prop
 |done (l:Tx) (u:PU):Gr (some .stop) l u (some u)
 |fail {o:Option Sq} {l:Tx} {u:PU} (h:F7 o l u none):Gr o l u none
 |step {o:Option Sq} {l:Tx} {u:PU} {x:Sq×Tx×PU} {r:Option PU} (h:F7 o l u (some x)) (k:Gr (some x.1) x.2.1 x.2.2 r):Gr o l u r
def KN(l:Tx)(u:PU)(r:Option PU):Prop:=if l=[]then r=none else Gr none l u r
theorem PG{o:Option Sq}{l:Tx}{u:PU}{x:Sq×Tx×PU}(h:F7 o l u (some x)):rk (some x.1)<rk o∧x.2.1.length≤l.length:=by
 have hd:∀n,(l.drop n).length≤l.length:=fun n=>by simp only[List.length_drop];omega
 cases o with
 |none=>
  have h':some x=BQ l u:=h;clear h;unfold BQ at h';split at h'
  ·split at h'
   ·injection h' with h';subst h';exact⟨by simp[rk],by simp⟩
   ·cases h'
  ·dsimp only at h';split at h'
   ·split at h'
    ·split at h'<;>(injection h' with h';subst h';first|exact⟨by simp[rk],hd _⟩|exact⟨by simp[rk],by simp⟩)
    ·cases h'
   ·cases h'
 |some q=>
  cases q with
  |slashes=>injection h with h;subst h;unfold Cl;split<;>first|exact⟨by simp[rk],hd _⟩|exact⟨by simp[rk],NL _⟩
  |user=>
   injection h with h;subst h;unfold FH
   dsimp only
   (repeat' split)<;>first|exact⟨by simp[rk],hd _⟩|exact⟨by simp[rk],NL _⟩
  |host=>
   injection h with h;subst h;unfold Do
   dsimp only
   (repeat' split)<;>first|exact⟨by simp[rk],hd _⟩|exact⟨by simp[rk],Nat.zero_le _⟩
  |ip=>
   rcases h with h|⟨k,h⟩
   ·cases h
   ·injection h with h;subst h;unfold fIp
    have h2:=hd (k+1);dsimp only;split
    ·exact⟨by simp[rk],Nat.zero_le _⟩
    ·rename_i c t e
     rw[e]at h2;simp only[LC]at h2
     (repeat' split)<;>first|exact⟨by simp[rk],by dsimp only;omega⟩|exact⟨by simp[rk],Nat.zero_le _⟩
  |port=>
   have h':some x=Cb l u:=h;clear h;unfold Cb at h';split at h'
   ·injection h' with h';subst h'
    unfold En;dsimp only
    (repeat' split)<;>first|exact⟨by simp[rk],hd _⟩|exact⟨by simp[rk],Nat.zero_le _⟩
   ·cases h'
  |params=>
   obtain⟨t,_,h⟩:=h;injection h with h;subst h;unfold DN
   dsimp only
   (repeat' split)<;>first|exact⟨by simp[rk],hd _⟩|exact⟨by simp[rk],NL _⟩|exact⟨by simp[rk],Nat.zero_le _⟩
  |heads=>
   obtain⟨t,_,h⟩:=h;injection h with h;subst h;unfold Ji
   exact⟨by simp[rk],NL _⟩
  |stop=>exact h.elim
def valO:Option Sq→Value
 |none=> .func (.func 65) #[] #[]
 |some q=>q.val
def RM:Option Sq→FuncId
 |none=>65
 |some .slashes=>89
 |some .user=>110
 |some .host=>123
 |some .ip=>133
 |some .port=>134
 |some .params=>135
 |some .heads=>136
 |some .stop=>0
theorem OW{o:Option Sq}(h:o≠some .stop):valO o= .func (.func (RM o)) #[] #[]:=by
 cases o with
 |none=>rfl
 |some q=>cases q<;>first|rfl|exact(h rfl).elim
theorem callO(o:Option Sq)(ho:o≠some .stop)(args:Array Value)(w:World):(callFunc (RM o) args).run Tryz.prog w= .ok (.enter (RM o) args) w:=by
 cases o with
 |none=>exact(show(callFunc 65 args).run Tryz.prog w= .ok (.enter 65 args) w from by kernel_rfl)
 |some q=>
  cases q with
  |slashes=>exact(show(callFunc 89 args).run Tryz.prog w= .ok (.enter 89 args) w from by kernel_rfl)
  |user=>exact(show(callFunc 110 args).run Tryz.prog w= .ok (.enter 110 args) w from by kernel_rfl)
  |host=>exact(show(callFunc 123 args).run Tryz.prog w= .ok (.enter 123 args) w from by kernel_rfl)
  |ip=>exact(show(callFunc 133 args).run Tryz.prog w= .ok (.enter 133 args) w from by kernel_rfl)
  |port=>exact(show(callFunc 134 args).run Tryz.prog w= .ok (.enter 134 args) w from by kernel_rfl)
  |params=>exact(show(callFunc 135 args).run Tryz.prog w= .ok (.enter 135 args) w from by kernel_rfl)
  |heads=>exact(show(callFunc 136 args).run Tryz.prog w= .ok (.enter 136 args) w from by kernel_rfl)
  |stop=>exact(ho rfl).elim
def OP(o:Option Sq)(l:Tx)(b:Nat)(u:PU)(w:World)(e:Ending)(w':World):Prop:=
 (∃x,F7 o l u (some x)∧EZ b w x e w')∨(F7 o l u none∧Gq b w e w')
theorem Cw.sp{o:Option Sq}{l:Tx}{b:Nat}{u:PU}{w w':World}{e:Ending}{r:Option (Sq×Tx×PU)}(h:Cw b w r e w')(k:F7 o l u r):OP o l b u w e w':=by
 cases r with
 |none=>exact .inr ⟨k,h⟩
 |some x=>exact .inl ⟨x,k,h⟩
theorem Oo(o:Option Sq)(ho:o≠some .stop)(s:ByteArray)(b:Nat)(u:PU)(w:World)(hu:UAt w b u)(hs:s.size≤1099511627000)(hL:Ea b w):
 Calls Tryz.prog (RM o) #[.pointer (some ⟨b,0,none⟩),.string s] w (OP o (bs s) b u w):=by
 cases o with
 |none=>exact(Kt s b u w hu (by omega)).mono fun e w' h=>h.sp rfl
 |some q=>
  cases q with
  |slashes=>exact(Kr s b u w hu).mono fun e w' h=> .inl ⟨_,rfl,h⟩
  |user=>exact(QO s b u w hu (by omega)).mono fun e w' h=> .inl ⟨_,rfl,h⟩
  |host=>exact(RE s b u w hu (by omega)).mono fun e w' h=> .inl ⟨_,rfl,h⟩
  |ip=>exact(ip_c s b u w hu (by omega)).mono fun e w' h=>by
        rcases h with⟨k,h⟩|h
        ·exact .inl ⟨_,.inr ⟨k,rfl⟩,h⟩
        ·exact .inr ⟨.inl rfl,h⟩
  |port=>exact(Qg s b u w hu (by omega) hL.laid).mono fun e w' h=>h.sp rfl
  |params=>exact(M1 s b u w hu hs hL).mono fun e w' ⟨t,ht,h⟩=> .inl ⟨_,⟨_,ht.tx,rfl⟩,h⟩
  |heads=>exact(Pl s b u w hu hs hL).mono fun e w' ⟨t,ht,h⟩=> .inl ⟨_,⟨_,ht.tx,rfl⟩,h⟩
  |stop=>exact(ho rfl).elim
theorem Hn{P:Program}{w:World}(d:Nat)(t:TypeId){a b:Array TypeId}{c:Bool}(h:P.underlying t=some (.func a b c))(f:Fn)(x y:Array Value):(Op.equalIn (d+1) t (.func f x y) .nilFunc).run P w= .ok false w:=by
 simp[Op.equalIn,run_underlying h]
theorem Fy{P:Program}{w:World}(d:Nat)(t:TypeId){a b:Array TypeId}{c:Bool}(h:P.underlying t=some (.func a b c)):(Op.equalIn (d+1) t .nilFunc .nilFunc).run P w= .ok true w:=by
 simp[Op.equalIn,run_underlying h]
theorem M4{P:Program}{w:World}(t:TypeId){a b:Array TypeId}{c:Bool}(h:P.underlying t=some (.func a b c))(f:Fn)(x y:Array Value):(binOp .neq t (.func f x y) .nilFunc).run P w= .ok (.bool true) w:=by
 have e:(Op.equal t (.func f x y) .nilFunc).run P w= .ok false w:=Hn 9999 t h f x y;simp only[binOp];simp[e]
theorem IR{P:Program}{w:World}(t:TypeId){a b:Array TypeId}{c:Bool}(h:P.underlying t=some (.func a b c)):(binOp .neq t .nilFunc .nilFunc).run P w= .ok (.bool false) w:=by
 have e:(Op.equal t .nilFunc .nilFunc).run P w= .ok true w:=Fy 9999 t h;simp only[binOp];simp[e]
def P9(l:Tx)(b:Nat)(u:PU)(w:World)(e:Ending)(w':World):Prop:=
 Kp b w w'∧((∃v,KN l u (some v)∧e= .returned .nilIface∧UAt w' b v)∨(KN l u none∧∃T a v,e= .returned (.iface T (.pointer (some a)))∧UAt w' b v))
theorem QX(s:ByteArray)(b:Nat)(u:PU)(w:World)(hu:UAt w b u)(hs:s.size≤1099511627000)(hL:Ea b w):
 Calls Tryz.prog 40 #[.string s,.pointer (some ⟨b,0,none⟩)] w (P9 (bs s) b u w):=by
 have HL:=Hi (BD s);have HU:=Hi hu;have HLAID:=Hi hL;clear hu hL;by_cases h0:s.size=0
 ·have hs0:bs s=[]:=List.eq_nil_of_length_eq_zero (by rw[HL.out];exact h0);have HS0:=Hi hs0;have hb0:((s.size:Int)==0)=true:=by simp[h0]
  clear hs0;go_enter Tryz.func40,Tryz.ntmps40;go_wp2_with fail
  refine(ER _ _).mono ?_;rintro e w3 ⟨rfl,hle3⟩;have HLE3:=Hi hle3;clear hle3;go_wp2;go_ret;exact⟨HLE3.out.kp b,.inr ⟨by unfold KN;rw[if_pos HS0.out],_,_,u,rfl,HU.out.le HLE3.out⟩⟩
 ·have hb0:((s.size:Int)==0)=false:=beq_eq_false_iff_ne.2 (by omega);have hne:bs s≠[]:=by intro e;apply h0;rw[←HL.out,e];rfl
  have HNE:=Hi hne;clear hne;go_enter Tryz.func40,Tryz.ntmps40;go_wp2
  go_loopg [4,5,6] 9 (fun n e4 f5 s6 wr=>∃(o:Option Sq) (l:Tx) (v:PU),n=rk o∧e4= .nilIface∧f5=valO o∧s6= .string (st l)∧l.length≤s.size∧UAt wr b v∧Kp b w wr∧(∀r,Gr o l v r→Gr none (bs s) u r))
  case atStart=>exact⟨none,bs s,u,rfl,rfl,rfl,by rw[FB],by rw[HL.out];exact NL _,HU.out,Kp.refl _ _,fun _ h=>h⟩
  case round=>
   obtain⟨o,l,v,hn,rfl,hf,rfl,hl,hua,hkp,hrun⟩:=hrel;have HN:=Hi hn;have HUA:=Hi hua;have HKP:=Hi hkp;have HRUN:=Hi hrun;clear hn hua hkp hrun;by_cases ho:o=some .stop
   ·subst ho;have e5:=hf;simp only[valO,Sq.val]at e5;clear hf;subst e5;have hq:=IR (P:=Tryz.prog) (w:=wr) 122 Tryz.underlying122;go_wp2;go_ret;exact⟨HKP.out,.inl ⟨v,by unfold KN;rw[if_neg HNE.out];exact HRUN.out _ (.done _ _),rfl,HUA.out⟩⟩
   ·have e5:=hf.trans (OW ho);subst e5;have HO:=Hi ho;have HC:=Hi (Oo o ho (st l) b v wr HUA.out (by rw[AF];omega) (HLAID.out.kp HKP.out));have hcf:=callO o ho;clear ho hf;generalize RM o=N at HC hcf⊢;have hq:=M4 (P:=Tryz.prog) (w:=wr) 122 Tryz.underlying122 (.func N) #[] #[];go_wp2_with fail
    refine HC.out.mono ?_;rintro e w2 h;rw[AV]at h;rcases h with⟨x,hx,rfl,hua2,hkp2⟩|⟨hx,v1,t1,T1,a1,u1,rfl,hua2,hkp2⟩
    ·have HX:=Hi hx;have HUA2:=Hi hua2;have HKP2:=Hi (HKP.out.trans hkp2);have HRK:=Hi (PG hx);clear hx hua2 hkp2 HC;go_wp2;go_roundg (rk (some x.1))
     case measure=>have:=HN.out;have:=HRK.out.1;omega
     case rel=>exact⟨some x.1,x.2.1,x.2.2,rfl,rfl,rfl,rfl,Nat.le_trans HRK.out.2 hl,HUA2.out,HKP2.out,fun r k=>HRUN.out r (.step HX.out k)⟩
    ·have HX:=Hi hx;have HUA2:=Hi hua2;have HKP2:=Hi (HKP.out.trans hkp2);clear hx hua2 hkp2 HC;go_wp2;go_ret;exact⟨HKP2.out,.inr ⟨by unfold KN;rw[if_neg HNE.out];exact HRUN.out _ (.fail HX.out),_,_,_,rfl,HUA2.out⟩⟩
end Go.Proofs.YtejhpdcjafbklaaGreatDoor
namespace Go.Proofs.YtejhpdcjafbklaaGreatDoor
open Go.RowKit
def Cq(sp:UInt8):List Tx→Tx
 |[]=>[]
 |[p]=>p
 |p::q::r=>p++sp::Cq sp (q::r)
theorem Gc(c:UInt8)(l:Tx):∃p ps,pcs c l=p::ps:=by
 cases l with
 |nil=>exact⟨_,_,rfl⟩
 |cons x r=>
  unfold pcs;split
  ·exact⟨_,_,rfl⟩
  ·split<;>exact⟨_,_,rfl⟩
theorem Gf(c:UInt8)(l:Tx):Cq c (pcs c l)=l:=by
 induction l with
 |nil=>rfl
 |cons x r ih=>
  obtain⟨p,ps,hp⟩:=Gc c r;rw[hp]at ih;unfold pcs;rw[hp];by_cases hx:x=c
  ·rw[if_pos hx,hx];show []++c::Cq c (p::ps)=_;rw[ih];rfl
  ·rw[if_neg hx];show Cq c ((x::p)::ps)=x::r;cases ps with
   |nil=>show x::p=x::r;rw[←ih];rfl
   |cons q t=>
    show(x::p)++c::Cq c (q::t)=x::r;rw[←ih];rfl
def alw(signs:Tx)(c:UInt8):Bool:=Du c||c==37||signs.contains c
theorem RD{a:UInt8}(h:JX a=true):Du a=true:=by
 simp only[JX,Du,FG,GA,Bool.or_eq_true,Bool.and_eq_true,decide_eq_true_eq,UInt8.le_iff_toNat_le]at h⊢;have e1:(48:UInt8).toNat=48:=rfl;have e2:(57:UInt8).toNat=57:=rfl;have e3:(97:UInt8).toNat=97:=rfl;have e4:(102:UInt8).toNat=102:=rfl;have e5:(65:UInt8).toNat=65:=rfl;have e6:(70:UInt8).toNat=70:=rfl;have e7:(122:UInt8).toNat=122:=rfl;have e8:(90:UInt8).toNat=90:=rfl;omega
theorem OM{signs:Tx}{c:UInt8}(h:Du c=true):alw signs c=true:=by unfold alw;rw[h];rfl
theorem M3(signs:Tx):∀(n:Nat) (l:Tx),l.length≤n→Ce signs l=true→∀c∈l,alw signs c=true:=by
 intro n;induction n with
 |zero=>intro l hl _ c hc;rw[List.eq_nil_of_length_eq_zero (by omega:l.length=0)]at hc;cases hc
 |succ n ih=>
  intro l hl h c hc;cases l with
  |nil=>cases hc
  |cons x r=>
   unfold Ce at h;simp only[LC]at hl;by_cases hx:x=37
   ·rw[if_pos hx]at h
    match r,h with
    |[],h=>cases h
    |[_],h=>cases h
    |a::b::r',h=>
     simp only[Bool.and_eq_true]at h;simp only[LC]at hl;simp only[List.mem_cons]at hc;rcases hc with rfl|rfl|rfl|hc
     ·unfold alw;rw[hx];simp
     ·exact OM (RD h.1.1)
     ·exact OM (RD h.1.2)
     ·exact ih r' (by omega) h.2 c hc
   ·rw[if_neg hx]at h;simp only[Bool.and_eq_true]at h;simp only[List.mem_cons]at hc;rcases hc with rfl|hc
    ·unfold alw;simp only[Bool.or_eq_true]at h⊢;rcases h.1 with h|h
     ·exact .inl (.inl h)
     ·exact .inr h
    ·exact ih r (by omega) h.2 c hc
theorem EJ{signs l:Tx}(h:Ce signs l=true):∀c∈l,alw signs c=true:=M3 signs _ l (NL _) h
theorem B0{signs:Tx}{c d:UInt8}(h:alw signs c=true)(k:alw signs d=false):c≠d:=by rintro rfl;rw[h]at k;cases k
theorem CS{l:Tx}{c:UInt8}(h:BC l c<l.length):l=l.take (BC l c)++c::l.drop (BC l c+1)∧∀x∈l.take (BC l c),x≠c:=by
 have h0:l[BC l c]=c:=by
  have:=List.findIdx_getElem (xs:=l) (p:=(·==c)) (w:=h);exact eq_of_beq this
 constructor
 ·have e:=(List.take_append_drop (BC l c) l).symm;rw[List.drop_eq_getElem_cons h,h0]at e;exact e
 ·intro x hx;obtain⟨i,hi,e⟩:=List.mem_take_iff_getElem.1 hx;have:=List.not_of_lt_findIdx (xs:=l) (p:=(·==c)) (i:=i) (by unfold BC at hi;omega);rw[e]at this;simpa using this
theorem LV{l:Tx}{c:UInt8}(h:¬BC l c<l.length):∀x∈l,x≠c:=by
 have h1:l.findIdx (·==c)=l.length:=by
  have:=List.findIdx_le_length (xs:=l) (p:=(·==c));unfold BC at h;omega
 rw[List.findIdx_eq_length]at h1;intro x hx;simpa using h1 x hx
theorem PT{a r:Tx}{c:UInt8}(h:∀x∈a,x≠c):BC (a++c::r) c=a.length:=by
 unfold BC;rw[List.findIdx_eq (by simp)];refine⟨by simp,fun j hj=>?_⟩;rw[List.getElem_append_left hj];simpa using h a[j] (List.getElem_mem hj)
theorem DA{signs p:Tx}(h:IV signs p=true):∃k v,D3 p=(k,v)∧k≠[]∧(∀c∈k,alw signs c=true)∧(∀c∈v,alw signs c=true)∧((v=[]∧p=k)∨(v≠[]∧p=k++61::v)):=by
 unfold IV at h;simp only[Bool.and_eq_true,Bool.not_eq_true',Bool.and_eq_false_iff,List.isEmpty_eq_false_iff,decide_eq_false_iff_not]at h;obtain⟨⟨⟨h1,h2⟩,h3⟩,h4⟩:=h;refine⟨(D3 p).1,(D3 p).2,rfl,h2,EJ h3,EJ h4,?_⟩;unfold D3 at h1 h2⊢;by_cases hi:BC p 61<p.length
 ·rw[if_pos hi]at h1⊢;rcases h1 with h1|h1
  ·exact absurd hi h1
  ·exact .inr ⟨h1,(CS hi).1⟩
 ·rw[if_neg hi];exact .inl ⟨rfl,rfl⟩
theorem Dn{l:KVs}{k v:Tx}(h:∀x∈l,x.1≠k):B7 l k v=l++[(k,v)]:=by
 induction l with
 |nil=>rfl
 |cons x r ih=>
  unfold B7;rw[if_neg (h x (by simp)),ih fun y hy=>h y (by simp[hy])];rfl
theorem FU(a k r:Tx):sub (a++(k++r)) a.length (a.length+k.length)=k:=by
 unfold sub;rw[←List.append_assoc,List.take_append_of_le_length (by simp),List.take_of_length_le (by simp),List.drop_left]
theorem Mk{l:Tx}{sp en:UInt8}{m:UM}(hm:m.state=2):∀(n i j:Nat),j=i+n→j≤l.length→(∀t (ht:t<l.length),i≤t→t<j→l[t]≠sp∧l[t]≠en∧l[t]≠61)→umR l sp en i m=umR l sp en j m:=by
 intro n;induction n with
 |zero=>intro i j e _ _;rw[e];rfl
 |succ n ih=>
  intro i j e hj h;have hi:i<l.length:=by omega
  obtain⟨h1,h2,h3⟩:=h i hi (NL _) (by omega);rw[CG hi h2,Dd hm,if_neg h1,if_neg h3];exact ih (i+1) j (by omega) hj fun t ht a b=>h t ht (by omega) b
theorem Mj{l:Tx}{sp en:UInt8}{m:UM}(hm:m.state=3):∀(n i j:Nat),j=i+n→j≤l.length→(∀t (ht:t<l.length),i≤t→t<j→l[t]≠sp∧l[t]≠en∧l[t]≠34)→umR l sp en i m=umR l sp en j m:=by
 intro n;induction n with
 |zero=>intro i j e _ _;rw[e];rfl
 |succ n ih=>
  intro i j e hj h;have hi:i<l.length:=by omega
  obtain⟨h1,h2,h3⟩:=h i hi (NL _) (by omega);rw[CG hi h2,D9 hm,if_neg h3,if_neg h1];exact ih (i+1) j (by omega) hj fun t ht a b=>h t ht (by omega) b
theorem Pw(a k r:Tx)(t:Nat)(h:t<k.length)(h':a.length+t<(a++(k++r)).length):(a++(k++r))[a.length+t]=k[t]:=by
 rw[List.getElem_append_right (by omega),List.getElem_append_left (by omega)]
 congr 1;omega
theorem IS{a k r:Tx}{P:UInt8→Prop}(h:∀c∈k,P c){t i j:Nat}(ht:t<(a++(k++r)).length)(h1:a.length≤t)(h2:t<a.length+k.length):P ((a++(k++r))[t]):=by
 have e:t=a.length+(t-a.length):=by omega
 have h3:t-a.length<k.length:=by omega
 have:=Pw a k r (t-a.length) h3 (by omega);have h4:(a++(k++r))[t]=k[t-a.length]:=by rw[←this];congr 1
 rw[h4];exact h _ (List.getElem_mem h3)
theorem I5{l a k r:Tx}{sp en:UInt8}{signs:Tx}(hsp:alw signs sp=false)(hen:alw signs en=false)(he:alw signs 61=false)
 (hl:l=a++(k++r))(hk:k≠[])(ha:∀c∈k,alw signs c=true)(s0 q0:Nat)(qt:Int)(acc:KVs):
 umR l sp en a.length ⟨s0,q0,qt,1,acc⟩=umR l sp en (a.length+k.length) ⟨a.length,0,qt,2,acc⟩:=by
 subst hl;have hk0:0<k.length:=List.length_pos_iff.2 hk;have hlt:a.length<(a++(k++r)).length:=by simp only[LA];omega
 have h0:(a++(k++r))[a.length]≠en:=IS (P:=(·≠en)) (fun c hc=>B0 (ha c hc) hen) (i:=0) (j:=0) hlt (NL _) (by omega);rw[CG hlt h0,GW rfl];refine Mk rfl (k.length-1) _ _ (by omega) (by simp only[LA];omega) fun t ht h1 h2=>?_;have h:=IS (P:=(alw signs ·=true)) ha (i:=0) (j:=0) ht (by omega) h2;exact⟨B0 h hsp,B0 h hen,B0 h he⟩
theorem N0{l a k v r:Tx}{sp en:UInt8}{signs:Tx}(hsp:alw signs sp=false)(hen:alw signs en=false)(hq:alw signs 34=false)(h1:sp≠61)(h2:en≠61)
 (hl:l=a++(k++61::(v++r)))(ha:∀c∈v,alw signs c=true)(qt:Int)(acc:KVs):
 umR l sp en (a.length+k.length) ⟨a.length,0,qt,2,acc⟩=umR l sp en (a.length+k.length+1+v.length) ⟨a.length,a.length+k.length,qt,3,acc⟩:=by
 have hlt:a.length+k.length<l.length:=by rw[hl];simp only[LA,LC];omega
 have e:l=(a++k++[61])++(v++r):=by rw[hl];simp
 have h0:l[a.length+k.length]=61:=by
  have e1:l[a.length+k.length]? =some 61:=by
   rw[hl,←List.append_assoc,show a.length+k.length=(a++k).length from by simp,List.getElem?_append_right (NL _)];simp
  rw[List.getElem?_eq_getElem hlt]at e1;injection e1
 rw[CG hlt (by rw[h0];exact fun h=>h2 h.symm),Dd rfl,h0,if_neg (fun h=>h1 h.symm),if_pos rfl];subst e;have hal:(a++k++[61]).length=a.length+k.length+1:=by simp only[LA,LC,LN]
 refine Mj rfl v.length _ _ (by omega) (by simp only[LA,LC,LN];omega) fun t ht h1 h2=>?_;have h:=IS (P:=(alw signs ·=true)) ha (i:=0) (j:=0) ht (by omega) (by omega);exact⟨B0 h hsp,B0 h hen,B0 h hq⟩
def ends(en:UInt8)(tl:Tx):Prop:=tl=[]∨∃t,tl=en::t
theorem Kb{l b tl:Tx}{sp en:UInt8}{m:UM}(hl:l=b++tl)(h:ends en tl):umR l sp en b.length m=(b.length,m):=by
 rcases h with rfl|⟨t,rfl⟩
 ·have e:l.length=b.length:=by rw[hl];simp
  rw[Kg e,e]
 ·subst hl;exact Kf (by simp) (by rw[List.getElem_append_right (NL _)];simp)
theorem Kc{l:Tx}{sp en:UInt8}{signs:Tx}(hsp:alw signs sp=false)(hen:alw signs en=false)(hq:alw signs 34=false)(he:alw signs 61=false)
 (h1:sp≠61)(h2:en≠61)(h3:sp≠34)(h4:sp≠en)(tl:Tx)(htl:ends en tl):
 ∀(ps:List Tx) (p:Tx) (a:Tx) (acc:KVs) (s0 q0:Nat) (qt:Int),l=a++(Cq sp (p::ps)++tl)→(∀x∈p::ps,IV signs x=true)→
  (tl≠[]→FF ((p::ps).map D3)≠[])→(acc++(p::ps).map D3).Pairwise (fun x y=>x.1≠y.1)→
  ∃m',umR l sp en a.length ⟨s0,q0,qt,1,acc⟩=(a.length+(Cq sp (p::ps)).length,m')∧FS l (a.length+(Cq sp (p::ps)).length) m'=acc++(p::ps).map D3:=by
 intro ps;induction ps with
 |nil=>
  intro p a acc s0 q0 qt hl hok hlast hpw;obtain⟨k,v,hkv,hk,hka,hva,hc⟩:=DA (hok p (by simp));have hk0:0<k.length:=List.length_pos_iff.2 hk;have hnew:∀x∈acc,x.1≠k:=by
   have:=(List.pairwise_append.1 hpw).2.2;intro x hx;have h5:=this x hx (D3 p) (by simp);rw[hkv]at h5;exact h5
  simp only[Cq,List.map_cons,List.map_nil]at hl hlast⊢;rw[hkv]at hlast⊢;rcases hc with⟨rfl,rfl⟩|⟨hv,rfl⟩
  ·have htl0:tl=[]:=by
    by_cases h:tl=[]
    ·exact h
    ·exact absurd rfl (hlast h)
   subst htl0;refine⟨⟨a.length,0,qt,2,acc⟩,?_,?_⟩
   ·rw[I5 hsp hen he hl hk hka];have:=Kb (l:=l) (b:=a++p) (sp:=sp) (m:=⟨a.length,0,qt,2,acc⟩) (by rw[hl];simp) htl;rw[LA]at this;exact this
   ·rw[H8 rfl (by omega),hl,List.drop_left,List.append_nil,Dn hnew]
  ·have hl':l=a++(k++61::(v++tl)):=by rw[hl];simp
   refine⟨⟨a.length,a.length+k.length,qt,3,acc⟩,?_,?_⟩
   ·rw[I5 hsp hen he hl' hk hka,N0 hsp hen hq h1 h2 hl' hva];have:=Kb (l:=l) (b:=a++(k++61::v)) (sp:=sp) (m:=⟨a.length,a.length+k.length,qt,3,acc⟩) (by rw[hl'];simp) htl;have e:(a++(k++61::v)).length=a.length+k.length+1+v.length:=by simp only[LA,LC];omega
    rw[e]at this;rw[this]
    congr 1
    simp only[LA,LC];omega
   ·have e1:sub l a.length (a.length+k.length)=k:=by rw[hl'];exact FU a k _
    have e2:sub l (a.length+k.length+1) (a.length+(k++61::v).length)=v:=by
     have:=FU (a++(k++[61])) v tl;have e3:(a++(k++[61]))++(v++tl)=l:=by rw[hl'];simp
     rw[e3]at this;have e4:a.length+k.length+1=(a++(k++[61])).length:=by simp only[LA,LC,LN];omega
     have e5:a.length+(k++61::v).length=(a++(k++[61])).length+v.length:=by simp only[LA,LC,LN];omega
     rw[e4,e5];exact this
    rw[IA (by omega) (by omega),e1,e2,Dn hnew]
 |cons q r ih=>
  intro p a acc s0 q0 qt hl hok hlast hpw;obtain⟨k,v,hkv,hk,hka,hva,hc⟩:=DA (hok p (by simp));have hk0:0<k.length:=List.length_pos_iff.2 hk;have hnew:∀x∈acc,x.1≠k:=by
   have:=(List.pairwise_append.1 hpw).2.2;intro x hx;have h5:=this x hx (D3 p) (by simp);rw[hkv]at h5;exact h5
  have hj:Cq sp (p::q::r)=p++sp::Cq sp (q::r):=rfl;rw[hj]at hl⊢
  have hpw2:((acc++[(k,v)])++(q::r).map D3).Pairwise (fun x y=>x.1≠y.1):=by
   rw[List.append_assoc];rw[List.map_cons,hkv]at hpw;exact hpw
  have hlast2:tl≠[]→FF ((q::r).map D3)≠[]:=by
   intro h;have h5:=hlast h;unfold FF at h5⊢;simp only[List.map_cons,List.getLast?_cons_cons]at h5⊢;exact h5
  have hal:(a++(p++[sp])).length=a.length+p.length+1:=by simp only[LA,LC,LN];omega
  have hla:l=(a++(p++[sp]))++(Cq sp (q::r)++tl):=by rw[hl];simp
  have hix:a.length+p.length<l.length:=by rw[hl];simp only[LA,LC];omega
  have hsep:l[a.length+p.length]=sp:=by
   subst hl;rw[List.getElem_append_right (by omega),List.getElem_append_left (by simp only[LA,LC];omega),List.getElem_append_right (by omega)];simp
  have hfin:∀s0 q0,∃m',umR l sp en (a.length+p.length+1) ⟨s0,q0,qt,1,acc++[(k,v)]⟩=(a.length+(p++sp::Cq sp (q::r)).length,m')∧FS l (a.length+(p++sp::Cq sp (q::r)).length) m'=acc++(p::q::r).map D3:=by
   intro s0 q0;obtain⟨m',e1,e2⟩:=ih q (a++(p++[sp])) (acc++[(k,v)]) s0 q0 qt hla (fun x hx=>hok x (by simp only[List.mem_cons]at hx⊢;exact .inr hx)) hlast2 hpw2;rw[hal]at e1 e2;have e3:a.length+(p++sp::Cq sp (q::r)).length=a.length+p.length+1+(Cq sp (q::r)).length:=by simp only[LA,LC];omega
   refine⟨m',by rw[e3];exact e1,?_⟩;rw[e3,e2,List.append_assoc,List.map_cons (a:=p),hkv];rfl
  rcases hc with⟨rfl,rfl⟩|⟨hv,hp⟩
  ·have hl':l=a++(p++(sp::(Cq sp (q::r)++tl))):=by rw[hl];simp
   rw[I5 hsp hen he hl' hk hka,CG hix (by rw[hsep];exact h4),Dd rfl,hsep,if_pos rfl];have e1:sub l a.length (a.length+p.length)=p:=by rw[hl'];exact FU a p _
   dsimp only;rw[e1,Dn hnew];exact hfin _ _
  ·have hl':l=a++(k++61::(v++(sp::(Cq sp (q::r)++tl)))):=by rw[hl,hp];simp
   have hpl:p.length=k.length+1+v.length:=by rw[hp];simp only[LA,LC];omega
   have ee:a.length+k.length+1+v.length=a.length+p.length:=by omega
   rw[I5 hsp hen he hl' hk hka,N0 hsp hen hq h1 h2 hl' hva,ee,CG hix (by rw[hsep];exact h4),D9 rfl,hsep,if_neg h3,if_pos rfl];have e1:sub l a.length (a.length+k.length)=k:=by rw[hl'];exact FU a k _
   have e2:sub l (a.length+k.length+1) (a.length+p.length)=v:=by
    have:=FU (a++(k++[61])) v (sp::(Cq sp (q::r)++tl));have e3:(a++(k++[61]))++(v++(sp::(Cq sp (q::r)++tl)))=l:=by rw[hl'];simp
    rw[e3]at this;have e4:(a++(k++[61])).length=a.length+k.length+1:=by simp only[LA,LC,LN];omega
    rw[e4,ee]at this;exact this
   dsimp only;rw[e1,e2,Dn hnew];exact hfin _ _
theorem pw_ne{l:KVs}(h:apB l=true):l.Pairwise (fun x y=>x.1≠y.1):=by
 unfold apB at h;exact(of_decide_eq_true h).imp fun h e=>h (by rw[e])
theorem FQ{Q tl:Tx}{sp en:UInt8}{signs:Tx}{kvs:KVs}(hsp:alw signs sp=false)(hen:alw signs en=false)(hq:alw signs 34=false)(he:alw signs 61=false)
 (h1:sp≠61)(h2:en≠61)(h3:sp≠34)(h4:sp≠en)(htl:ends en tl)(h:BB Q sp signs=some kvs)(hlast:tl≠[]→FF kvs≠[]):
 unm (Q++tl) sp en []=(Q.length,kvs):=by
 unfold BB at h;split at h
 ·rename_i hc
  injection h with h
  simp only[Bool.and_eq_true]at hc;obtain⟨p,ps,hp⟩:=Gc sp Q;have hj:=Gf sp Q;rw[hp]at h hc hj;obtain⟨m,e1,e2⟩:=Kc (l:=Q++tl) hsp hen hq he h1 h2 h3 h4 tl htl ps p [] [] 0 0 (-1) (by rw[hj];rfl) (fun x hx=>List.all_eq_true.1 hc.1 x hx) (by rw[h];exact hlast) (by rw[List.nil_append];exact pw_ne hc.2);rw[hj]at e1 e2;simp only[LN,Nat.zero_add,List.nil_append]at e1 e2
  rw[FR e1,e2,h]
 ·cases h
end Go.Proofs.YtejhpdcjafbklaaGreatDoor
namespace Go.Proofs.YtejhpdcjafbklaaGreatDoor
open Go.RowKit
theorem EH{l:Tx}{u:PU}{r:Option PU}(h:Gr (some .stop) l u r):r=some u:=by
 cases h with
 |done=>rfl
 |fail h=>exact False.elim h
 |step h k=>exact False.elim h
theorem Ba{o:Option Sq}{l:Tx}{u:PU}{x:Sq×Tx×PU}{r:Option PU}(h:Gr o l u r)(ho:o≠some .stop)(hd:∀y,F7 o l u y→y=some x):Gr (some x.1) x.2.1 x.2.2 r:=by
 cases h with
 |done=>exact(ho rfl).elim
 |fail h=>cases hd _ h
 |step h k=>
  have:=hd _ h;injection this with e
  subst e;exact k
theorem Bl(a r:Tx)(x:UInt8):(a++x::r).take a.length=a:=List.take_left
theorem Cm(a r:Tx)(x:UInt8):(a++x::r).drop (a.length+1)=r:=by
 have e:a++x::r=(a++[x])++r:=by simp
 rw[e,show a.length+1=(a++[x]).length from by simp,List.drop_left]
theorem Cu(a r:Tx)(x:UInt8)(h:a.length<(a++x::r).length):(a++x::r)[a.length]=x:=by
 rw[List.getElem_append_right (NL _)];simp
theorem EK(a r:Tx)(x:UInt8):a.length<(a++x::r).length:=by simp only[LA,LC];omega
theorem C6{p:UInt8→Bool}{a:Tx}(h:∀c∈a,p c=false):a.all (fun c=> !p c)=true:=List.all_eq_true.2 fun c hc=>by rw[h c hc];rfl
theorem ND{sp:UInt8}{P:UInt8→Prop}(hs:P sp):∀ps:List Tx,(∀p∈ps,∀c∈p,P c)→∀c∈Cq sp ps,P c:=by
 intro ps;induction ps with
 |nil=>intro _ c hc;cases hc
 |cons p r ih=>
  intro h c hc;cases r with
  |nil=>exact h p (by simp) c hc
  |cons q t=>
   have hc':c∈p++sp::Cq sp (q::t):=hc;simp only[List.mem_append,List.mem_cons]at hc';rcases hc' with hc'|rfl|hc'
   ·exact h p (by simp) c hc'
   ·exact hs
   ·exact ih (fun p hp=>h p (by simp only[List.mem_cons]at hp⊢;exact .inr hp)) c hc'
theorem Fg{Q:Tx}{sp:UInt8}{signs:Tx}{kvs:KVs}(h:BB Q sp signs=some kvs):∀c∈Q,alw signs c=true∨c=sp∨c=61:=by
 unfold BB at h;split at h
 ·rename_i hc
  simp only[Bool.and_eq_true]at hc;rw[←Gf sp Q];refine ND (.inr (.inl rfl)) _ fun p hp c hcp=>?_;obtain⟨k,v,_,_,hka,hva,he⟩:=DA (List.all_eq_true.1 hc.1 p hp);rcases he with⟨_,rfl⟩|⟨_,rfl⟩
  ·exact .inl (hka c hcp)
  ·simp only[List.mem_append,List.mem_cons]at hcp;rcases hcp with hcp|rfl|hcp
   ·exact .inl (hka c hcp)
   ·exact .inr (.inr rfl)
   ·exact .inl (hva c hcp)
 ·cases h
theorem C8{Q:Tx}{sp:UInt8}{signs:Tx}{kvs:KVs}(h:BB Q sp signs=some kvs):kvs≠[]∧∃x r,Q=x::r∧alw signs x=true:=by
 unfold BB at h;split at h
 ·rename_i hc
  injection h with h
  simp only[Bool.and_eq_true]at hc;obtain⟨p,ps,hp⟩:=Gc sp Q;have hj:=Gf sp Q;rw[hp]at hj hc h;refine⟨by rw[←h];simp,?_⟩;obtain⟨k,v,_,hk,hka,hva,he⟩:=DA (List.all_eq_true.1 hc.1 p (by simp));obtain⟨x,k',rfl⟩:=List.exists_cons_of_ne_nil hk;have hx:=hka x (by simp);obtain⟨t,ht⟩:∃t,p=x::t:=by
   rcases he with⟨_,rfl⟩|⟨_,rfl⟩<;>exact⟨_,rfl⟩
  subst ht;rw[←hj];cases ps with
  |nil=>exact⟨x,t,rfl,hx⟩
  |cons q r=>exact⟨x,t++sp::Cq sp (q::r),rfl,hx⟩
 ·cases h
theorem RU{x:UInt8}(h:Du x=true):x.toNat<128∧spB x=false:=by
 have e1:(48:UInt8).toNat=48:=rfl;have e2:(57:UInt8).toNat=57:=rfl;have e3:(97:UInt8).toNat=97:=rfl;have e5:(65:UInt8).toNat=65:=rfl;have e7:(122:UInt8).toNat=122:=rfl;have e8:(90:UInt8).toNat=90:=rfl;have e9:(9:UInt8).toNat=9:=rfl;have e10:(13:UInt8).toNat=13:=rfl;simp only[Du,FG,GA,Bool.or_eq_true,Bool.and_eq_true,decide_eq_true_eq,UInt8.le_iff_toNat_le]at h;refine⟨by omega,?_⟩
 have hx:x≠32:=by rintro rfl;have e11:(32:UInt8).toNat=32:=rfl;omega
 have h2:(x==32)=false:=by simpa using hx
 simp only[spB,h2,Bool.or_false,Bool.and_eq_false_iff,decide_eq_false_iff_not,UInt8.le_iff_toNat_le];omega
theorem MS{signs:Tx}(hs:∀c∈signs,c.toNat<128∧spB c=false){x:UInt8}(h:alw signs x=true):x.toNat<128∧spB x=false:=by
 unfold alw at h;simp only[Bool.or_eq_true,beq_iff_eq,List.contains_iff_mem]at h;rcases h with(h|rfl)|h
 ·exact RU h
 ·decide
 ·exact hs x h
theorem IC{l t x r}{signs:Tx}(hs:∀c∈signs,c.toNat<128∧spB c=false)(h:Nm l t)(e:l=x::r)(hx:alw signs x=true):t=l:=
 h.2.1 x r e (MS hs hx).1 (MS hs hx).2
theorem NX:∀(l:Tx) (n:Nat),n≤l.foldl (fun n c=>10*n+(c.toNat-48)) n:=by
 intro l;induction l with
 |nil=>intro n;exact NL _
 |cons x r ih=>intro n;rw[List.foldl_cons];exact Nat.le_trans (by omega) (ih _)
theorem JU{c:UInt8}(h:GA c=true):48≤c.toNat∧c.toNat≤57:=by
 have e1:(48:UInt8).toNat=48:=rfl;have e2:(57:UInt8).toNat=57:=rfl;simp only[GA,Bool.and_eq_true,decide_eq_true_eq,UInt8.le_iff_toNat_le]at h;omega
theorem LD:∀(l:Tx) (n:Nat),(∀c∈l,GA c=true)→l.foldl (fun n c=>10*n+(c.toNat-48)) n≤65535→Lib.parseUint10 n l= .ok (l.foldl (fun n c=>10*n+(c.toNat-48)) n):=by
 intro l;induction l with
 |nil=>intro n _ _;rfl
 |cons x r ih=>
  intro n ha hb;have hx:=JU (ha x (by simp));rw[List.foldl_cons]at hb⊢;have hg:=NX r (10*n+(x.toNat-48));have he:n*10+(x.toNat-48)=10*n+(x.toNat-48):=by omega
  unfold Lib.parseUint10;rw[if_pos ⟨hx.1,hx.2⟩,if_neg (by omega),if_neg (by omega),he];exact ih _ (fun c hc=>ha c (by simp[hc])) hb
theorem Dh{D:Tx}{n:Nat}(h:FE D=some n):(∀c∈D,GA c=true)∧D≠[]∧n=Iu D∧n≤65535:=by
 unfold FE at h;split at h
 ·rename_i hc
  injection h with h
  simp only[Bool.and_eq_true,Bool.not_eq_true',List.isEmpty_eq_false_iff,decide_eq_true_eq]at hc;exact⟨fun c hcD=>List.all_eq_true.1 hc.1.1.1 c hcD,hc.1.1.2,h.symm,by omega⟩
 ·cases h
theorem F1{D:Tx}{n:Nat}(h:FE D=some n):Lib.atoiAll D= .ok (n:Int):=by
 obtain⟨h1,h2,h3,h4⟩:=Dh h;obtain⟨c,r,rfl⟩:=List.exists_cons_of_ne_nil h2;have hc:=JU (h1 c (by simp));have hp:Lib.parseMag (c::r)= .ok n:=by
  unfold Lib.parseMag;rw[if_neg (by simp),LD (c::r) 0 h1 (by unfold Iu at h3;omega),h3];rfl
 unfold Lib.atoiAll;dsimp only;rw[if_neg (by omega),hp];dsimp only;rw[if_neg (by omega),if_neg (by omega),if_neg (by omega)]
theorem GI:∀c∈DQ,c.toNat<128∧spB c=false:=by decide
theorem L2:∀c∈Fs,c.toNat<128∧spB c=false:=by decide
theorem G7{H:Tx}{hs:KVs}(h:BB H 38 Fs=some hs){v:PU}{r:Option PU}(hr:Gr (some .heads) H v r):r=some {v with hs:=hs}:=by
 obtain⟨_,x,t,e,hx⟩:=C8 h;have hu:unm H 38 0 []=(H.length,hs):=by
  have:=FQ (Q:=H) (tl:=[]) (sp:=38) (en:=0) (signs:=Fs) rfl rfl rfl rfl (by decide) (by decide) (by decide) (by decide) (.inl rfl) h (fun h=>absurd rfl h);rw[List.append_nil]at this;exact this
 have h1:=Ba (x:=(.stop,H,{v with hs:=hs})) hr (by simp) (fun y hy=>by
  obtain⟨t',ht',rfl⟩:=hy;rw[IC L2 ht' e hx];unfold Ji;rw[hu])
 exact EH h1
theorem JM{v:PU}{r:Option PU}(hr:Gr (some .params) [] v r):r=some {v with ps:=[],hs:=[]}:=by
 have h1:=Ba (x:=(.stop,[],{v with ps:=[],hs:=[]})) hr (by simp) (fun y hy=>by
  obtain⟨t',ht',rfl⟩:=hy;rfl)
 exact EH h1
theorem NV(a r:Tx)(x:UInt8):(a++x::r).getD a.length 0=x:=by
 rw[Db (EK a r x),Cu]
theorem J1{P:Tx}{ps:KVs}(h:BB P 59 DQ=some ps){v:PU}{r:Option PU}(hv:v.hs=[])(hr:Gr (some .params) P v r):r=some {v with ps:=ps,hs:=[]}:=by
 obtain⟨_,x,t,e,hx⟩:=C8 h;have hu:unm P 59 63 []=(P.length,ps):=by
  have:=FQ (Q:=P) (tl:=[]) (sp:=59) (en:=63) (signs:=DQ) rfl rfl rfl rfl (by decide) (by decide) (by decide) (by decide) (.inl rfl) h (fun h=>absurd rfl h);rw[List.append_nil]at this;exact this
 have hne:P≠[]:=by rw[e];simp
 have hpos:P.length-1<P.length:=by have:=List.length_pos_iff.2 hne;omega
 have hlast:P.getD (P.length-1) 0≠63:=by
  rw[Db hpos];rcases Fg h _ (List.getElem_mem hpos)with h1|h1|h1
  ·exact B0 h1 (by rfl)
  ·rw[h1];decide
  ·rw[h1];decide
 have h1:=Ba (x:=(.stop,P,{v with ps:=ps})) hr (by simp) (fun y hy=>by
  obtain⟨t',ht',rfl⟩:=hy;rw[IC GI ht' e hx];unfold DN;rw[if_neg hne,hu];dsimp only;rw[if_pos rfl,if_neg hlast])
 rw[EH h1];cases v;simp only at hv;rw[hv]
theorem FC{P H:Tx}{ps hs:KVs}(h:BB P 59 DQ=some ps)(h2:BB H 38 Fs=some hs)(hl:FF ps≠[]){v:PU}{r:Option PU}(hr:Gr (some .params) (P++63::H) v r):r=some {v with ps:=ps,hs:=hs}:=by
 obtain⟨_,x,t,e,hx⟩:=C8 h;have hu:unm (P++63::H) 59 63 []=(P.length,ps):=
  FQ (Q:=P) (tl:=63::H) (sp:=59) (en:=63) (signs:=DQ) rfl rfl rfl rfl (by decide) (by decide) (by decide) (by decide) (.inr ⟨H,rfl⟩) h (fun _=>hl)
 have hne:P++63::H≠[]:=by simp
 have hlt:¬P.length=(P++63::H).length:=by have:=EK P H 63;omega
 have h1:=Ba (x:=(.heads,H,{v with ps:=ps})) hr (by simp) (fun y hy=>by
  obtain⟨t',ht',rfl⟩:=hy;rw[IC GI ht' (x:=x) (r:=t++63::H) (by rw[e];rfl) hx];unfold DN;rw[if_neg hne,hu];dsimp only;rw[if_neg hlt,NV,if_pos rfl,Cm])
 exact G7 h2 h1
def OO(T:Tx)(ps hs:KVs):Prop:=
 (T=[]∧ps=[]∧hs=[])∨(∃X,T=59::X∧∀v r,v.hs=[]→Gr (some .params) X v r→r=some {v with ps:=ps,hs:=hs})∨
  (∃X,T=63::X∧∀v r,v.ps=[]→Gr (some .heads) X v r→r=some {v with ps:=ps,hs:=hs})
theorem EN{h:Tx}(hh:Bp h=true):h≠[]∧h≠[42]∧∀c∈h,El c=false∧c≠91∧GA c=GA c:=by
 unfold Bp at hh;simp only[Bool.and_eq_true]at hh;refine⟨?_,?_,fun c hc=>?_⟩
 ·rintro rfl;simp at hh
 ·rintro rfl;revert hh;decide
 ·have h1:=List.all_eq_true.1 hh.1 c hc;have h2:alw [45,46] c=true:=by
   unfold alw;simp only[Bool.or_eq_true,beq_iff_eq,List.contains_iff_mem,List.mem_cons,List.mem_nil_iff,or_false]at h1⊢;rcases h1 with(h1|h1)|h1
   ·exact .inl (.inl h1)
   ·exact .inr (.inl h1)
   ·exact .inr (.inr h1)
  have n1:=B0 h2 (d:=91) (by rfl);have n2:=B0 h2 (d:=58) (by rfl);have n3:=B0 h2 (d:=59) (by rfl);have n4:=B0 h2 (d:=63) (by rfl);refine⟨?_,n1,rfl⟩;simp[El,n1,n2,n3,n4]
theorem JV{c:UInt8}(h:GA c=true):Ei c=false∧c≠91:=by
 have h2:alw [] c=true:=by unfold alw Du;rw[h];simp
 have n1:=B0 h2 (d:=91) (by rfl);have n3:=B0 h2 (d:=59) (by rfl);have n4:=B0 h2 (d:=63) (by rfl);exact⟨by simp[Ei,n3,n4],n1⟩
theorem G6{s2 h T:Tx}{n:Nat}{ps hs:KVs}(hh:BF s2=some (h,n))(hT:OO T ps hs){v:PU}{r:Option PU}(hps:v.ps=[])(hhs:v.hs=[])(hw:v.wild=false)(hpo:v.port=0)
 (hr:Gr (some .host) (s2++T) v r):r=some {v with host:=h,port:=n,ps:=ps,hs:=hs}:=by
 unfold BF at hh;split at hh
 ·rename_i hi
  split at hh
  ·rename_i m hm
   split at hh
   ·rename_i hb
    injection hh with hh
    injection hh with e1 e2
    obtain⟨hs1,_⟩:=CS hi;generalize s2.drop (BC s2 58+1)=D at hs1 hm;rw[e1]at hs1 hb;subst e2;clear e1 hi;subst hs1;obtain⟨hne,hstar,hch⟩:=EN hb;obtain⟨hD,_,_,_⟩:=Dh hm;have e3:(h++58::D)++T=h++58::(D++T):=by simp
    rw[e3]at hr
    have h1:=Ba (x:=(.port,D++T,{v with host:=h})) hr (by simp) (fun y hy=>by
     have hy:y=some (Do (h++58::(D++T)) v):=hy;rw[hy,DO _ v h.length (EK _ _ _) (by rw[Bl];exact C6 fun c hc=>(hch c hc).1) (by rw[Cu];rfl),Cu,if_neg (by decide),if_pos rfl,Bl,Cm])
    rcases hT with⟨rfl,rfl,rfl⟩|⟨X,rfl,hX⟩|⟨X,rfl,hX⟩
    ·rw[List.append_nil]at h1
     have h2:=Ba (x:=(.params,[],{v with host:=h,port:=m})) h1 (by simp) (fun y hy=>by
      have hy:y=Cb D {v with host:=h}:=hy;rw[hy,DC (Hk D (C6 fun c hc=>(JV (hD c hc)).1)) (F1 hm)])
     rw[JM h2]
    ·have h2:=Ba (x:=(.params,X,{v with host:=h,port:=m})) h1 (by simp) (fun y hy=>by
      have hy:y=Cb (D++59::X) {v with host:=h}:=hy;have hf:=FN (D++59::X) D.length (EK _ _ _) (by rw[Bl];exact C6 fun c hc=>(JV (hD c hc)).1) (by rw[Cu];rfl);rw[Bl,Cm,Cu,if_pos rfl]at hf;rw[hy,DC hf (F1 hm)])
     exact hX {v with host:=h,port:=m} _ hhs h2
    ·have h2:=Ba (x:=(.heads,X,{v with host:=h,port:=m})) h1 (by simp) (fun y hy=>by
      have hy:y=Cb (D++63::X) {v with host:=h}:=hy;have hf:=FN (D++63::X) D.length (EK _ _ _) (by rw[Bl];exact C6 fun c hc=>(JV (hD c hc)).1) (by rw[Cu];rfl);rw[Bl,Cm,Cu,if_neg (by decide)]at hf;rw[hy,DC hf (F1 hm)])
     exact hX {v with host:=h,port:=m} _ hps h2
   ·cases hh
  ·cases hh
 ·split at hh
  ·rename_i hb
   injection hh with hh
   injection hh with e1 e2
   subst e1;subst e2;obtain⟨hne,hstar,hch⟩:=EN hb;rcases hT with⟨rfl,rfl,rfl⟩|⟨X,rfl,hX⟩|⟨X,rfl,hX⟩
   ·rw[List.append_nil]at hr
    have h2:=Ba (x:=(.params,[],{v with host:=s2})) hr (by simp) (fun y hy=>by
     have hy:y=some (Do s2 v):=hy;rw[hy,Hl _ _ (C6 fun c hc=>(hch c hc).1)];have:decide (s2=[42])=v.wild:=by rw[hw];simpa using hstar
     rw[this])
    rw[JM h2];cases v;simp only at hpo;subst hpo;rfl
   ·have h2:=Ba (x:=(.params,X,{v with host:=s2})) hr (by simp) (fun y hy=>by
     have hy:y=some (Do (s2++59::X) v):=hy;rw[hy,DO _ v s2.length (EK _ _ _) (by rw[Bl];exact C6 fun c hc=>(hch c hc).1) (by rw[Cu];rfl),Cu,if_neg (by decide),if_neg (by decide),if_pos rfl,Bl,Cm])
    rw[hX {v with host:=s2} _ hhs h2];cases v;simp only at hpo;subst hpo;rfl
   ·have h2:=Ba (x:=(.heads,X,{v with host:=s2})) hr (by simp) (fun y hy=>by
     have hy:y=some (Do (s2++63::X) v):=hy;rw[hy,DO _ v s2.length (EK _ _ _) (by rw[Bl];exact C6 fun c hc=>(hch c hc).1) (by rw[Cu];rfl),Cu,if_neg (by decide),if_neg (by decide),if_neg (by decide),Bl,Cm])
    rw[hX {v with host:=s2} _ hps h2];cases v;simp only at hpo;subst hpo;rfl
  ·cases hh
theorem Fq{s s1:Tx}{hs:KVs}(h:Bz s=some (hs,s1)):(s=s1∧hs=[])∨∃H,s=s1++63::H∧BB H 38 Fs=some hs∧hs≠[]:=by
 unfold Bz at h;split at h
 ·rename_i hi
  split at h
  ·rename_i hs' hp
   split at h
   ·injection h with h
    injection h with e1 e2
    subst e1;refine .inr ⟨_,?_,hp,(C8 hp).1⟩;rw[←e2];exact(CS hi).1
   ·cases h
  ·cases h
 ·injection h with h
  injection h with e1 e2
  exact .inl ⟨e2,e1.symm⟩
theorem Ep{s1 s2:Tx}{ps hs:KVs}(h:Bh s1 hs=some (ps,s2)):(s1=s2∧ps=[])∨∃P,s1=s2++59::P∧BB P 59 DQ=some ps∧(hs≠[]→FF ps≠[]):=by
 unfold Bh at h;split at h
 ·rename_i hi
  split at h
  ·rename_i ps' hp
   split at h
   ·cases h
   ·rename_i hn
    injection h with h
    injection h with e1 e2
    subst e1;refine .inr ⟨_,?_,hp,fun h1 h2=>hn ?_⟩
    ·rw[←e2];exact(CS hi).1
    ·rw[h2];cases hs with
     |nil=>exact absurd rfl h1
     |cons _ _=>rfl
  ·cases h
 ·injection h with h
  injection h with e1 e2
  exact .inl ⟨e2,e1.symm⟩
theorem Ph{s2 h:Tx}{n:Nat}(hh:BF s2=some (h,n)):∀c∈s2,c≠91:=by
 unfold BF at hh;split at hh
 ·rename_i hi
  split at hh
  ·rename_i m hm
   split at hh
   ·rename_i hb
    obtain⟨hs1,_⟩:=CS hi;intro c hc;rw[hs1]at hc;simp only[List.mem_append,List.mem_cons]at hc;rcases hc with hc|rfl|hc
    ·exact((EN hb).2.2 c hc).2.1
    ·decide
    ·exact(JV ((Dh hm).1 c hc)).2
   ·cases hh
  ·cases hh
 ·split at hh
  ·rename_i hb
   exact fun c hc=>((EN hb).2.2 c hc).2.1
  ·cases hh
theorem Og{s s1 s2:Tx}{ps hs:KVs}(hH:Bz s=some (hs,s1))(hP:Bh s1 hs=some (ps,s2)):∃T,s=s2++T∧OO T ps hs∧∀c∈T,c≠91:=by
 have n59:∀{P:Tx} {ps:KVs},BB P 59 DQ=some ps→∀c∈P,c≠91:=fun h c hc=>by
  rcases Fg h c hc with h|rfl|rfl
  ·exact B0 h (by rfl)
  ·decide
  ·decide
 have n38:∀{P:Tx} {ps:KVs},BB P 38 Fs=some ps→∀c∈P,c≠91:=fun h c hc=>by
  rcases Fg h c hc with h|rfl|rfl
  ·exact B0 h (by rfl)
  ·decide
  ·decide
 rcases Fq hH with⟨rfl,rfl⟩|⟨H,rfl,h1,h2⟩<;>rcases Ep hP with⟨rfl,rfl⟩|⟨P,rfl,h3,h4⟩
 ·exact⟨[],by simp,.inl ⟨rfl,rfl,rfl⟩,by simp⟩
 ·refine⟨59::P,rfl,.inr (.inl ⟨P,rfl,fun v r hv hr=>J1 h3 hv hr⟩),fun c hc=>?_⟩;simp only[List.mem_cons]at hc;rcases hc with rfl|hc
  ·decide
  ·exact n59 h3 c hc
 ·refine⟨63::H,rfl,.inr (.inr ⟨H,rfl,fun v r hv hr=>?_⟩),fun c hc=>?_⟩
  ·rw[G7 h1 hr];cases v;simp only at hv;rw[hv]
  ·simp only[List.mem_cons]at hc;rcases hc with rfl|hc
   ·decide
   ·exact n38 h1 c hc
 ·refine⟨59::P++63::H,by simp,.inr (.inl ⟨P++63::H,by simp,fun v r hv hr=>FC h3 h1 (h4 h2) hr⟩),fun c hc=>?_⟩;simp only[List.cons_append,List.mem_cons,List.mem_append]at hc;rcases hc with rfl|hc|rfl|hc
  ·decide
  ·exact n59 h3 c hc
  ·decide
  ·exact n38 h1 c hc
theorem LQ{l:Tx}{c:UInt8}(h:0≤lxI l c):l=l.take (lxI l c).toNat++c::l.drop ((lxI l c).toNat+1):=by
 unfold lxI at h⊢;by_cases hi:l.reverse.findIdx (·==c)<l.length
 ·simp only[if_pos hi,Int.toNat_natCast];have hi':l.reverse.findIdx (·==c)<l.reverse.length:=by rw[List.length_reverse];exact hi
  have h0:=List.findIdx_getElem (xs:=l.reverse) (p:=(·==c)) (w:=hi');have h1:l.reverse[l.reverse.findIdx (·==c)]=c:=eq_of_beq h0;rw[List.getElem_reverse]at h1;have hk:l.length-1-l.reverse.findIdx (·==c)<l.length:=by omega
  have key:∀(k:Nat) (hk:k<l.length),l[k]=c→l=l.take k++c::l.drop (k+1):=by
   intro k hk h1;have e:=(List.take_append_drop k l).symm;rw[List.drop_eq_getElem_cons hk,h1]at e;exact e
  exact key _ hk h1
 ·rw[if_neg hi]at h;omega
theorem M8{l:Tx}{c:UInt8}(h:¬0≤lxI l c):∀x∈l,x≠c:=by
 unfold lxI at h;by_cases hi:l.reverse.findIdx (·==c)<l.length
 ·rw[if_pos hi]at h;omega
 ·have h1:l.reverse.findIdx (·==c)=l.reverse.length:=by
   have:=List.findIdx_le_length (xs:=l.reverse) (p:=(·==c));rw[List.length_reverse]at this⊢;omega
  rw[List.findIdx_eq_length]at h1;intro x hx;simpa using h1 x (List.mem_reverse.2 hx)
theorem NB{a b:Tx}(h:∀c∈b,c≠58):C4 (a++58::b)=a.length:=by
 have e:(a++58::b).reverse=b.reverse++58::a.reverse:=by simp
 have h1:=PT (a:=b.reverse) (r:=a.reverse) (c:=58) (fun x hx=>h x (List.mem_reverse.1 hx));unfold C4;rw[e];unfold BC at h1;rw[h1];simp only[LA,LC,List.length_reverse];omega
theorem J4{a:Tx}(h:∀c∈a,c≠58):C4 a=0:=by
 unfold C4
 have h1:a.reverse.findIdx (·==58)=a.reverse.length:=by
  rw[List.findIdx_eq_length];intro x hx;simpa using h x (List.mem_reverse.1 hx)
 rw[h1,List.length_reverse];omega
theorem KY{l un pw s:Tx}(h:DI l=some (un,pw,s))(h91:∀c∈s,c≠91)(v:PU)(hv1:v.user=[])(hv2:v.pass=[]):FH l v=(.host,s,{v with user:=un,pass:=pw}):=by
 have hus:∀{signs:Tx} {x:UInt8},alw signs x=true→alw signs 91=false→alw signs 64=false→DG x=false:=fun h h1 h2=>by
  simp[DG,B0 h h1,B0 h h2]
 unfold DI at h;split at h
 ·rename_i h0
  have hl:=LQ h0;dsimp only at h;generalize l.take (lxI l 64).toNat=us at h hl;generalize l.drop ((lxI l 64).toNat+1)=rest at h hl;subst hl;split at h
  ·rename_i hi
   obtain⟨he,hno⟩:=CS hi;split at h
   ·rename_i hc
    injection h with h
    injection h with e1 h
    injection h with e2 e3
    rw[e1,e2]at he hc;subst e3;subst he;simp only[Bool.and_eq_true,Bool.not_eq_true',List.isEmpty_eq_false_iff]at hc;obtain⟨⟨⟨h1,h2⟩,h3⟩,h4⟩:=hc;have hp:=EJ h2;have hu:=EJ h4;have hlc:C4 (un++58::pw)=un.length:=NB fun c hc=>B0 (hp c hc) (by rfl);have hun:0<un.length:=List.length_pos_iff.2 h3;rw[FM _ v (un++58::pw).length (EK _ _ _) (by
     rw[Bl];refine C6 fun c hc=>?_;simp only[List.mem_append,List.mem_cons]at hc;rcases hc with hc|rfl|hc
     ·exact hus (hu c hc) (by rfl) (by rfl)
     ·rfl
     ·exact hus (hp c hc) (by rfl) (by rfl)) (by rw[Cu];rfl),Cu,if_neg (by decide),Bl,hlc,if_pos hun,Cm,Cm]
    have e:((un++58::pw)++64::rest).take un.length=un:=by
     rw[List.append_assoc];exact List.take_left
    rw[e]
   ·cases h
  ·rename_i hi
   have hno:=LV hi;split at h
   ·rename_i hc
    injection h with h
    injection h with e1 h
    injection h with e2 e3
    subst e1;subst e2;subst e3;simp only[Bool.and_eq_true,Bool.not_eq_true',List.isEmpty_eq_false_iff]at hc;have hu:=EJ hc.2;rw[FM _ v us.length (EK _ _ _) (by
     rw[Bl];exact C6 fun c hc=>hus (hu c hc) (by rfl) (by rfl)) (by rw[Cu];rfl),Cu,if_neg (by decide),Bl,J4 hno,if_neg (by omega),Cm]
    cases v;simp only at hv2;subst hv2;rfl
   ·cases h
 ·rename_i h0
  injection h with h
  injection h with e1 h
  injection h with e2 e3
  subst e1;subst e2;subst e3;have hno:=M8 h0;rw[Hj _ _ (C6 fun c hc=>by simp[DG,hno c hc,h91 c hc])];cases v;simp only at hv1 hv2;subst hv1;subst hv2;rfl
theorem PM{sc l:Tx}{u:PU}(h:Ac sc l=some u)(hns:[47,47].isPrefixOf l=false){r:Option PU}(hr:Gr (some .slashes) l {PU.zero with scheme:=sc} r):r=some u:=by
 unfold Ac at h;split at h
 ·cases h
 ·rename_i un pw s hU
  split at h
  ·cases h
  ·rename_i hs s1 hH
   split at h
   ·cases h
   ·rename_i ps s2 hP
    split at h
    ·cases h
    ·rename_i hst n hHP
     injection h with h
     obtain⟨T,rfl,hT,hT91⟩:=Og hH hP
     have h91:∀c∈s2++T,c≠91:=fun c hc=>by
      rcases List.mem_append.1 hc with hc|hc
      ·exact Ph hHP c hc
      ·exact hT91 c hc
     have h1:=Ba (x:=(.user,l,{PU.zero with scheme:=sc})) hr (by simp) (fun y hy=>by
      have hy:y=some (Cl l {PU.zero with scheme:=sc}):=hy;rw[hy];unfold Cl;rw[hns];rfl)
     have h2:=Ba (x:=(.host,s2++T,{PU.zero with scheme:=sc,user:=un,pass:=pw})) h1 (by simp) (fun y hy=>by
      have hy:y=some (FH l {PU.zero with scheme:=sc}):=hy;rw[hy,KY hU h91 _ rfl rfl])
     rw[G6 hHP hT rfl rfl rfl rfl h2,←h];rfl
def Told(r:Option PU):SR→Prop
 | .told=>r=none
 | .open_=>True
 | .val u=>r=some u
theorem law{l:Tx}{r:Option PU}(hp:KN l PU.zero r):Told r (By l):=by
 unfold KN at hp;unfold By;by_cases h0:l=[]
 ·rw[if_pos h0]at hp⊢;exact hp
 rw[if_neg h0]at hp⊢;by_cases h1:l=[42]
 ·rw[if_pos h1];subst h1;have:=Ba (x:=(.stop,[],{PU.zero with host:=[42],wild:=true})) hp (by simp) (fun y hy=>hy);exact EH this
 rw[if_neg h1];dsimp only;split
 ·rename_i hc
  simp only[Bool.and_eq_true,decide_eq_true_eq]at hc;obtain⟨⟨hk0,hk1⟩,hal⟩:=hc;obtain⟨he,hno⟩:=CS hk1;have hlen:(l.take (BC l 58)).length=BC l 58:=by rw[List.length_take];omega
  generalize hsc:l.take (BC l 58)=sc at he hal hlen;generalize hrest:l.drop (BC l 58+1)=rest at he;have hfs:¬l.length<3→BQ l PU.zero=if sc.map Bf=Fb∨sc.map Bf=DT then some (.slashes,rest,{PU.zero with scheme:=sc.map Bf})else some (.stop,[],{PU.zero with scheme:=sc.map Bf,raw:=rest}):=by
   intro h3
   rw[EQ l PU.zero (BC l 58) h3 hk1 (by rw[hsc];simpa[nAl]using hal) (by
    have:=List.findIdx_getElem (xs:=l) (p:=(·==58)) (w:=hk1);exact eq_of_beq this),hsc,hrest]
  split
  ·rename_i hn
   split
   ·rename_i hc
    simp only[Bool.and_eq_true,Bool.not_eq_true',List.isEmpty_eq_false_iff,decide_eq_true_eq]at hc;obtain⟨⟨⟨c1,c2⟩,c3⟩,c4⟩:=hc;have h3:¬l.length<3:=by
     have:=List.length_pos_iff.2 c1;rw[he];simp only[LA,LC];omega
    have hf:=hfs h3;rw[if_neg (fun h=>h.elim hn.1 hn.2),c4]at hf
    have:=Ba (x:=(.stop,[],{PU.zero with scheme:=sc,raw:=rest})) hp (by simp) (fun y hy=>by
     have hy:y=BQ l PU.zero:=hy;rw[hy,hf])
    exact EH this
   ·exact trivial
  ·rename_i hn
   split
   ·exact trivial
   ·rename_i hlow
    have hlow:sc.map Bf=sc:=by
     by_cases h:sc.map Bf=sc
     ·exact h
     ·exact absurd h hlow
    split
    ·exact trivial
    ·rename_i hns
     have hns:[47,47].isPrefixOf rest=false:=Bool.eq_false_iff.2 hns;cases hS:Ac sc rest with
     |none=>exact trivial
     |some u=>
      have hor:sc.map Bf=Fb∨sc.map Bf=DT:=by
       by_cases h:sc.map Bf=Fb
       ·exact .inl h
       ·by_cases h':sc.map Bf=DT
        ·exact .inr h'
        ·exact absurd ⟨h,h'⟩ hn
      have h3:¬l.length<3:=by
       have:3≤sc.length:=by
        rcases hor with h|h
        ·have:=congrArg List.length h;simp only[List.length_map]at this;rw[this];decide
        ·have:=congrArg List.length h;simp only[List.length_map]at this;rw[this];decide
       rw[he];simp only[LA,LC];omega
      have hf:=hfs h3;rw[if_pos hor,hlow]at hf
      have:=Ba (x:=(.slashes,rest,{PU.zero with scheme:=sc})) hp (by simp) (fun y hy=>by
       have hy:y=BQ l PU.zero:=hy;rw[hy,hf])
      exact PM hS hns this
 ·exact trivial
end Go.Proofs.YtejhpdcjafbklaaGreatDoor
