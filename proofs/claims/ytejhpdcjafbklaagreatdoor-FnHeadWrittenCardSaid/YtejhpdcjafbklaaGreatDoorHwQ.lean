/- The law FnHeadWritten: SUt HwQ. -/
import Derived.Test.YtejhpdcjafbklaaGreatDoorUtx
set_option linter.all false
set_option maxHeartbeats 16000000
set_option maxRecDepth 8000
namespace Go.Proofs.YtejhpdcjafbklaaGreatDoor
open Go.RowKit
structure SzS(u:PU):Prop where
 scheme:u.scheme.length≤65536
 raw:u.raw.length≤65536
 user:u.user.length≤65536
 pass:u.pass.length≤65536
 host:u.host.length≤65536
 lo: -9223372036854775808≤u.port
 hi:u.port≤9223372036854775807
 ps:∀k≤u.ps.length,(ptP u.ps 59 k).length≤100000000
 hs:∀k≤u.hs.length,(ptP u.hs 38 k).length≤100000000
 pm:∀x∈u.ps,x.1.length+x.2.length≤20000
 hm:∀x∈u.hs,x.1.length+x.2.length≤20000
theorem EP{h:Tx}{p:Int}(hl:h.length≤65536)(hp:p≤9223372036854775807):(CZ h p).length≤1000000:=by
 unfold CZ;split
 ·have:=Lib.itoa_length_le p (by omega) hp;simp only[LA,LC];omega
 ·simp only[LA,LN];omega
theorem Oh{u:PU}(hz:SzS u):(CK u).length≤300000000:=by
 have h1:=hz.scheme;have h2:=hz.user;have h3:=hz.pass;have h4:=hz.raw;have h5:=EP hz.host hz.hi;have h6:=hz.ps _ (NL _);have h7:=hz.hs _ (NL _);have a1:(Bm u).length≤200000:=by
  unfold Bm DZ;split
  ·simp
  ·split<;>simp only[LA,LC,LN]<;>omega
 have a3:(lwP u.ps 59 59).length≤100000001:=by unfold lwP;split<;>simp only[LC,LN]<;>omega
 have a4:(lwP u.hs 63 38).length≤100000001:=by unfold lwP;split<;>simp only[LC,LN]<;>omega
 have a5:(u.host++Cg u).length≤1000000:=h5;unfold CK;split
 ·decide
 ·split
  ·unfold Kl;simp only[LA,LC]at a5⊢;omega
  ·rw[LA,LC];omega
def N3(b:Nat)(g:Option Nat)(base:Nat)(old lv:Value)(T X:Tx):Nat→Value→World→Prop
 |1,v,_=>v= .pointer (some ⟨b,0,none⟩)
 |3,v,_=>v=old
 |33,v,_=>v=old
 |34,v,w=>BvN g w v [58]
 |35,v,w=>AY base w v (T++[58])
 |36,v,_=>v= .pointer (some ⟨b,5,none⟩)
 |37,v,_=>v=lv
 |_,_,_=>True
theorem Oj(b:Nat)(g:Option Nat)(base:Nat)(old lv:Value)(T X:Tx)(t:Nat)(v:Value)(w w':World)(k:Le w w')(h:N3 b g base old lv T X t v w):N3 b g base old lv T X t v w':=by
 unfold N3 at h⊢;split at h<;>first|exact h|exact BvN.le h k|exact AY.le h k
theorem Ok(b:Nat)(g:Option Nat)(base:Nat)(old lv:Value)(T X:Tx)(t:Nat)(v:Value)(w w':World)(k:w.grownBy w' g)(ht:some 35≠some t)(h:N3 b g base old lv T X t v w):N3 b g base old lv T X t v w':=by
 unfold N3 at h⊢;split at h<;>first|exact h|exact BvN.grown h k|exact absurd rfl ht
def N2(b:Nat)(g:Option Nat)(base:Nat)(old lv:Value)(T X:Tx):Nat→Value→World→Prop
 |1,v,_=>v= .pointer (some ⟨b,0,none⟩)
 |3,v,_=>v=old
 |53,v,_=>v=old
 |54,v,w=>BvN g w v [59]
 |55,v,w=>AY base w v (T++[59])
 |56,v,_=>v= .pointer (some ⟨b,8,none⟩)
 |57,v,_=>v=lv
 |58,v,w=>BvN g w v X
 |_,_,_=>True
theorem Km(b:Nat)(g:Option Nat)(base:Nat)(old lv:Value)(T X:Tx)(t:Nat)(v:Value)(w w':World)(k:Le w w')(h:N2 b g base old lv T X t v w):N2 b g base old lv T X t v w':=by
 unfold N2 at h⊢;split at h<;>first|exact h|exact BvN.le h k|exact AY.le h k
theorem Oi(b:Nat)(g:Option Nat)(base:Nat)(old lv:Value)(T X:Tx)(t:Nat)(v:Value)(w w':World)(k:w.grownBy w' g)(ht:some 55≠some t)(h:N2 b g base old lv T X t v w):N2 b g base old lv T X t v w':=by
 unfold N2 at h⊢;split at h<;>first|exact h|exact BvN.grown h k|exact absurd rfl ht
def Gw(b:Nat)(g:Option Nat)(base:Nat)(old lv:Value)(T X:Tx):Nat→Value→World→Prop
 |1,v,_=>v= .pointer (some ⟨b,0,none⟩)
 |3,v,_=>v=old
 |64,v,_=>v=old
 |65,v,w=>BvN g w v [63]
 |66,v,w=>AY base w v (T++[63])
 |67,v,_=>v= .pointer (some ⟨b,9,none⟩)
 |68,v,_=>v=lv
 |69,v,w=>BvN g w v X
 |_,_,_=>True
theorem I9(b:Nat)(g:Option Nat)(base:Nat)(old lv:Value)(T X:Tx)(t:Nat)(v:Value)(w w':World)(k:Le w w')(h:Gw b g base old lv T X t v w):Gw b g base old lv T X t v w':=by
 unfold Gw at h⊢;split at h<;>first|exact h|exact BvN.le h k|exact AY.le h k
theorem Mm(b:Nat)(g:Option Nat)(base:Nat)(old lv:Value)(T X:Tx)(t:Nat)(v:Value)(w w':World)(k:w.grownBy w' g)(ht:some 66≠some t)(h:Gw b g base old lv T X t v w):Gw b g base old lv T X t v w':=by
 unfold Gw at h⊢;split at h<;>first|exact h|exact BvN.grown h k|exact absurd rfl ht
theorem Jr(w:World)(x:UV)(u:PU)(hx:Uq (fun _=>True) w x u)(hz:SzS u):
 Calls Tryz.prog 74 #[x.val] w fun e w'=>∃v,e= .returned v∧Bv w' v (CK u)∧Le w w':=by
 have HX:=Hi hx;have HZ:=Hi hz;obtain⟨Ascheme,cscheme,escheme⟩:=hx.scheme.1.form;obtain⟨Araw,craw,eraw⟩:=hx.raw.1.form;obtain⟨Auser,cuser,euser⟩:=hx.user.1.form;obtain⟨Apass,cpass,epass⟩:=hx.pass.1.form;obtain⟨Ahost,chost,ehost⟩:=hx.host.1.form;obtain⟨Aps,cps,eps⟩:∃A c,x.ps= .slice A u.ps.length c:=by obtain⟨A,c,e,_⟩:=hx.ps;exact⟨A,c,e⟩
 obtain⟨Ahs,chs,ehs⟩:∃A c,x.hs= .slice A u.hs.length c:=by obtain⟨A,c,e,_⟩:=hx.hs;exact⟨A,c,e⟩
 have hval:x.val= .agg #[.slice Ascheme u.scheme.length cscheme,.slice Araw u.raw.length craw,.bool x.wild,.bool x.slash,.slice Auser u.user.length cuser,.slice Apass u.pass.length cpass,.slice Ahost u.host.length chost,.int .i64 x.port,.slice Aps u.ps.length cps,.slice Ahs u.hs.length chs]:=by
  unfold UV.val;rw[escheme,eraw,euser,epass,ehost,eps,ehs]
 have HF:Hid (Bv w (.slice Ascheme u.scheme.length cscheme) u.scheme∧Bv w (.slice Auser u.user.length cuser) u.user∧Bv w (.slice Apass u.pass.length cpass) u.pass∧Bv w (.slice Ahost u.host.length chost) u.host∧Kq (fun _=>True) w (.slice Aps u.ps.length cps) u.ps∧Kq (fun _=>True) w (.slice Ahs u.hs.length chs) u.hs):=Hi (by
  rw[←escheme,←euser,←epass,←ehost,←eps,←ehs];exact⟨hx.scheme.1,hx.user.1,hx.pass.1,hx.host.1,hx.ps,hx.hs⟩)
 have HPT:Hid (x.port=u.port):=Hi hx.port;have HWI:Hid (x.wild=u.wild):=Hi hx.wild;have HRW:Hid (Bv w (.slice Araw u.raw.length craw) u.raw):=Hi (by rw[←eraw];exact hx.raw.1);rw[hval];clear hval hx escheme eraw euser epass ehost eps ehs hz HX;go_enter Tryz.func74,Tryz.ntmps74;go_upto_region 1 with fail
 have HB0:=Hi (heap_alloc_new w (Obj.cells #[.slice Ascheme u.scheme.length cscheme,.slice Araw u.raw.length craw,.bool x.wild,.bool x.slash,.slice Auser u.user.length cuser,.slice Apass u.pass.length cpass,.slice Ahost u.host.length chost,.int .i64 x.port,.slice Aps u.ps.length cps,.slice Ahs u.hs.length chs] 35))
 have HL0:Hid (Le w (w.alloc (Obj.cells #[.slice Ascheme u.scheme.length cscheme,.slice Araw u.raw.length craw,.bool x.wild,.bool x.slash,.slice Auser u.user.length cuser,.slice Apass u.pass.length cpass,.slice Ahost u.host.length chost,.int .i64 x.port,.slice Aps u.ps.length cps,.slice Ahs u.hs.length chs] 35))):=Hi ((AC w).alloc _)
 generalize w.alloc (Obj.cells #[.slice Ascheme u.scheme.length cscheme,.slice Araw u.raw.length craw,.bool x.wild,.bool x.slash,.slice Auser u.user.length cuser,.slice Apass u.pass.length cpass,.slice Ahost u.host.length chost,.int .i64 x.port,.slice Aps u.ps.length cps,.slice Ahs u.hs.length chs] 35)=W0 at HB0 HL0⊢
 generalize Value.agg #[.slice Ascheme u.scheme.length cscheme,.slice Araw u.raw.length craw,.bool x.wild,.bool x.slash,.slice Auser u.user.length cuser,.slice Apass u.pass.length cpass,.slice Ahost u.host.length chost,.int .i64 x.port,.slice Aps u.ps.length cps,.slice Ahs u.hs.length chs]=ag
 have HBX:Hid (∀wr,Le W0 wr→wr.cell? ⟨w.heap.size,0,none⟩=some (.slice Ascheme u.scheme.length cscheme)∧wr.cell? ⟨w.heap.size,4,none⟩=some (.slice Auser u.user.length cuser)∧wr.cell? ⟨w.heap.size,5,none⟩=some (.slice Apass u.pass.length cpass)∧wr.cell? ⟨w.heap.size,6,none⟩=some (.slice Ahost u.host.length chost)∧wr.cell? ⟨w.heap.size,7,none⟩=some (.int .i64 u.port)∧wr.cell? ⟨w.heap.size,8,none⟩=some (.slice Aps u.ps.length cps)∧wr.cell? ⟨w.heap.size,9,none⟩=some (.slice Ahs u.hs.length chs)):=Hi (fun wr h=>by
  have hb:=h.heap HB0.out;rw[HPT.out]at hb;exact⟨AB hb 0,AB hb 4,AB hb 5,AB hb 6,AB hb 7,AB hb 8,AB hb 9⟩)
 have HBY:Hid (∀wr,Le W0 wr→wr.cell? ⟨w.heap.size,1,none⟩=some (.slice Araw u.raw.length craw)):=Hi (fun wr h=>AB (h.heap HB0.out) 1);have y2:W0.cell? ⟨w.heap.size,2,none⟩=some (.bool u.wild):=by
  have hb:=HB0.out;rw[HWI.out]at hb;exact AB hb 2
 obtain⟨bw,hbw⟩:∃b,u.wild=b:=⟨_,rfl⟩;have HBW:=Hi hbw;rw[hbw]at y2;clear hbw;cases bw;case true=>
  have HT:Hid (CK u=[42]):=Hi (by unfold CK;rw[if_pos HBW.out]);have kc:=fun(w:World) (C:Array Value) (n c:Nat)=>Lib.run_convert_bytes_const (P:=Tryz.prog) w 22 5 C n c Tryz.underlying22 Tryz.underlying5;go_wp2;go_ret;refine⟨_,rfl,?_,HL0.out.trans ((AC W0).alloc _)⟩;rw[HT.out];exact CO W0 [42] (by decide) (1,2)
 have y0:=(HBX.out W0 (AC W0)).1;have HNI:=Hi (AY.nil W0.heap.size W0);have HSC:=Hi (HF.out.1.le HL0.out);go_wp2_with (at_builtin;refine AJ rfl (.const (.slice none 0 0)) (.tmp 9) rfl (base:=W0.heap.size) rfl rfl HNI.out HSC.out (by have:=HZ.out.scheme;simp only[LN];omega) (NL _) ?_)
 intro v0 wa hown0 hgrow0;have HLA:Hid (Le W0 wa):=Hi (Below.grown' (AC W0) hgrow0 (NL _) (fun g hg=>by cases hg));have HB58:Hid (Bv (wa.alloc (Obj.cells #[.int .u8 58] 5)) (.slice (some ⟨wa.heap.size,0,none⟩) 1 1) [58]):=Hi (CO wa [58] (by decide) (0,0))
 have HOA:Hid (AY W0.heap.size (wa.alloc (Obj.cells #[.int .u8 58] 5)) v0 u.scheme):=Hi (AY.le hown0 ((AC wa).alloc _));obtain⟨n0,A0,c0,rfl⟩:=hown0.shape;clear hown0 hgrow0
 go_wp2_with (at_builtin;refine AJ rfl (.tmp 10) (.tmp 11) rfl (base:=W0.heap.size) rfl rfl HOA.out HB58.out (by have:=HZ.out.scheme;simp only[LC,LN];omega) (HLA.out.alloc _).size ?_)
 intro v1 w1 hown1 hgrow1;have HU1:Hid (UtI w W0 (u.scheme++[58]) v1 w1):=Hi ⟨Below.grown' (HLA.out.alloc _) hgrow1 (NL _) (fun g hg=>(AK HOA.out g hg).1),hown1⟩;obtain⟨n1,A1,c1,rfl⟩:=hown1.shape;clear hown1 hgrow1 y0 y2;obtain⟨y0,y4,y5,y6,y7,y8,y9⟩:=HBX.out w1 HU1.out.le;have y1:=HBY.out w1 HU1.out.le;go_upto_if 16 with fail
 obtain⟨bv,hbv⟩:∃b,decide (0<u.raw.length)=b:=⟨_,rfl⟩;have HBV:Hid (isB bv (¬u.raw=[])):=Hi (by
  rw[←hbv];unfold isB;rw[decide_eq_true_eq,List.length_pos_iff])
 rw[hbv];clear hbv;cases bv;case true=>
  have HT:Hid (CK u=u.scheme++[58]++u.raw):=Hi (by
   have h:=HBV.out;unfold isB at h;unfold CK;rw[HBW.out,if_neg (by simp),if_neg (h.1 rfl)];simp)
  have HO1:=Hi HU1.out.own;have HR1:=Hi (HRW.out.le (HL0.out.trans HU1.out.le));have HLN:Hid ((u.scheme++[58]).length+u.raw.length≤140737488355328):=Hi (by have:=HZ.out.scheme;have:=HZ.out.raw;simp only[LA,LC,LN];omega)
  go_wp2_with (at_builtin;refine AJ rfl (.tmp 17) (.tmp 19) rfl (base:=W0.heap.size) rfl rfl HO1.out HR1.out HLN.out HU1.out.le.size ?_)
  intro v2 w2 hown2 hgrow2;have HB2:Hid (Bv w2 v2 (CK u)):=Hi (by
   rw[HT.out];refine AY.bv (base:=W0.heap.size) ?_ (by rw[LA];exact HLN.out);simpa using hown2)
  have HL2:Hid (Le W0 w2):=Hi (Below.grown' HU1.out.le hgrow2 (NL _) (fun g hg=>(AK HO1.out g hg).1));clear hown2 hgrow2;go_wp2;go_ret;exact⟨_,rfl,HB2.out,HL0.out.trans HL2.out⟩
 have HRN:Hid (u.raw=[]):=Hi (by
  have h:=HBV.out;unfold isB at h;exact Classical.not_not.1 (fun hh=>by have:=h.2 hh;cases this))
 clear HBV y1;go_upto_if 24 with fail
 obtain⟨bu,hbu⟩:∃b,decide (0<u.user.length)=b:=⟨_,rfl⟩;have HBU:Hid (isB bu (¬u.user=[])):=Hi (by
  rw[←hbu];unfold isB;rw[decide_eq_true_eq,List.length_pos_iff])
 rw[hbu];clear hbu;go_cut [3]from 25 to 41 (fun s3 wc=>UtI w W0 (u.scheme++58::Bm u) s3 wc)
 case first=>
  cases bu;case false=>
   have HE:Hid (u.scheme++58::Bm u=u.scheme++[58]):=Hi (by
    have h:=HBU.out;unfold isB at h;unfold Bm;rw[if_pos (Classical.not_not.1 (fun hh=>by have:=h.2 hh;cases this))])
   clear HBU;go_wp2;go_meet;case rel=>rw[HE.out];exact HU1.out
  case true=>
   have HBF:=Hi (HF.out.2.1.le (HL0.out.trans HU1.out.le));have HO1:=Hi HU1.out.own;have HSZ:=Hi HU1.out.le.size;have HLN:Hid ((u.scheme++[58]).length+u.user.length≤1000000):=Hi (by have:=HZ.out.scheme;have:=HZ.out.user;simp only[LA,LC,LN];omega)
   go_wp2_with (at_builtin;refine AJ rfl (.tmp 25) (.tmp 27) rfl (base:=W0.heap.size) rfl rfl HO1.out HBF.out (by have:=HLN.out;omega) HSZ.out ?_)
   intro v2 w2 hown2 hgrow2;have HU2:Hid (UtI w W0 (u.scheme++58::u.user) v2 w2):=Hi ⟨Below.grown' HU1.out.le hgrow2 (NL _) (fun g hg=>(AK HO1.out g hg).1),hown2⟩;obtain⟨n2,A2,c2,rfl⟩:∃n A c,v2= .slice A n c:=by
    rcases hown2.2 with⟨e,_⟩|⟨g,cap,cur,e,_⟩
    ·exact⟨0,none,0,e⟩
    ·exact⟨_,_,_,e⟩
   clear hown2 hgrow2 y0 y4 y5 y6 y7 y8 y9;obtain⟨y0,y4,y5,y6,y7,y8,y9⟩:=HBX.out w2 HU2.out.le;go_upto_if 32 with fail
   obtain⟨bp,hbp⟩:∃b,decide (0<u.pass.length)=b:=⟨_,rfl⟩;have HBP:Hid (isB bp (¬u.pass=[])):=Hi (by
    rw[←hbp];unfold isB;rw[decide_eq_true_eq,List.length_pos_iff])
   rw[hbp];clear hbp;go_cut [3]from 33 to 38 (fun s3 wc=>UtI w W0 (u.scheme++58::(u.user++DZ u)) s3 wc)
   case first=>
    cases bp;case false=>
     have HE:Hid (u.scheme++58::(u.user++DZ u)=u.scheme++58::u.user):=Hi (by
      have h:=HBP.out;unfold isB at h;unfold DZ;rw[if_pos (Classical.not_not.1 (fun hh=>by have:=h.2 hh;cases this)),List.append_nil])
     clear HBP;go_wp2;go_meet;case rel=>rw[HE.out];exact HU2.out
    case true=>
     generalize hT5:u.scheme++58::u.user=T5 at HU2;have HT5:=Hi hT5;have HLT5:Hid (T5.length≤1000000∧u.pass.length≤65536):=Hi (by have:=HZ.out.scheme;have:=HZ.out.user;have:=HZ.out.pass;rw[←hT5];simp only[LA,LC];omega);have HO5:=Hi HU2.out.own;have HL5:=Hi HU2.out.le
     have HP5:Hid (u.pass≠[]):=Hi (by have h:=HBP.out;unfold isB at h;exact h.1 rfl);clear hT5 HBP;go_upto_region 9 with fail
     have hm9:(Tryz.prog).follows .mixedOrders=true:=by kernel_rfl
     refine G3.wp_region_grow_tail (N3 w.heap.size (Value.ownBlock (.slice A2 n2 c2)) W0.heap.size (.slice A2 n2 c2) (.slice Apass u.pass.length cpass) (T5) (u.pass)) (apG W0 (.slice A2 n2 c2) (T5)) 72 5 [33,34,35,36,37] hm9 (by kernel_rfl) rfl rfl ⟨HL5.out.drew,HO5.out.le (AC _).drew⟩ ?hold9 ?hs9 ?hend9;case hold9=>
      intro t ht;simp only[List.mem_cons,List.mem_nil_iff,or_false,not_or]at ht;unfold N3;split<;>first|rfl|trivial|(exfalso;simp at ht)
     case hs9=>
      simp only[List.take_succ_cons,List.take_zero];refine⟨?_,?_,?_,?_,?_,trivial⟩
      ·refine AA fun a W hg hop=>?_;have h1:_=_:=hq hop 3;refine⟨_,?_,rfl⟩;simp only[execOp,h1];go_simp
      ·refine GrowStep.le ?_ ?_ ?_ ?_
       ·exact fun t v w1 w2 k h=>Oj _ _ _ _ _ _ _ t v w1 w2 k h
       ·exact fun _ _ _ _ h=>h
       ·exact fun w1 w2 k h=>EY h k
       intro a W hg hop;refine⟨.slice (some ⟨W.heap.size,0,none⟩) 1 1,W.alloc (Obj.cells #[.int .u8 58] 5),?_,(AC W).alloc _,?_⟩
       ·simp only[execOp];go_simp
       ·exact BvN.new (w0:=W) (CO W [58] (by decide) (0,0)) (fun k hk=>by simp only[Value.ownBlock,Option.some.injEq]at hk;omega) hg.own.lt
      ·refine Bu (.tmp 33) (.tmp 34) 22 rfl ?_;intro a W hg hop;have h1:_=_:=hq hop 33;have h2:BvN (Value.ownBlock (.slice A2 n2 c2)) W (a.eval (.tmp 34)) [58]:=(hq hop 34);obtain⟨v',w',q,k1,k2,k3⟩:=BI hg.own h2.1 (by have:=HLT5.out;simp only[LC,LN]at this⊢;omega) hg.le.size 22
       refine⟨v',w',by rw[h1];exact q,⟨Below.grown' hg.le k2 (NL _) (fun g hh=>(AK hg.own g hh).1),k3⟩,fun t u ht h=>Ok _ _ _ _ _ _ _ t u _ _ k2 ht h,fun _ _ h=>h,k1⟩
      ·refine AA fun a W hg hop=>?_;have h1:_=_:=hq hop 1;refine⟨_,?_,rfl⟩;simp only[execOp,h1];go_simp
      ·refine AA fun a W hg hop=>?_;have h1:_=_:=hq hop 36;have h2:W.cell? ⟨w.heap.size,5,none⟩=some (.slice Apass u.pass.length cpass):=(HBX.out W hg.le).2.2.1;refine⟨_,?_,rfl⟩;simp only[execOp,h1];go_simp
     case hend9=>
      intro v wz hg hS;have s2:AY W0.heap.size wz (v 35) (T5++[58]):=hS 35 (by decide);have s4:v 37=(.slice Apass u.pass.length cpass):=hS 37 (by decide);have s5:Bv wz (.slice Apass u.pass.length cpass) (u.pass):=HF.out.2.2.1.le (HL0.out.trans hg.le);obtain⟨ns2,As2,cs2,es2⟩:=s2.shape;rw[es2]at s2;have HS2:=Hi s2;have HS5:=Hi s5;have HLZ:=Hi hg.le
      have HLEN:Hid ((T5++[58]).length+(u.pass).length≤140737488355328):=Hi (by have:=HLT5.out;simp only[LA,LC,LN];omega);clear hS hg s2 s5;simp only[Aj,Act.put,List.setIfInBounds_toArray,List.set_cons_zero,List.set_cons_succ,List.drop_succ_cons,List.drop_zero];rw[es2];rw[s4];clear es2 s4
      go_wp2_with (at_builtin;refine AJ rfl (.tmp 35) (.tmp 37) rfl (base:=W0.heap.size) rfl rfl HS2.out HS5.out HLEN.out HLZ.out.size ?_)
      intro vz wz2 hownz hgrowz;have HOZ:=Hi hownz;have HLZ2:Hid (Le W0 wz2):=Hi (Below.grown' HLZ.out hgrowz (NL _) (fun g hg=>(AK HS2.out g hg).1));clear hownz hgrowz;go_wp2;go_meet
      case rel=>exact⟨HLZ2.out,by
       have e:u.scheme++58::(u.user++DZ u)=T5++58::u.pass:=by
        unfold DZ;rw[if_neg HP5.out,←HT5.out];simp
       rw[e];exact HOZ.out⟩
   have HU3:=Hi hcut;obtain⟨n3,A3,c3,rfl⟩:∃n A c,u3= .slice A n c:=by
    rcases hcut.own.2 with⟨e,_⟩|⟨g,cap,cur,e,_⟩
    ·exact⟨0,none,0,e⟩
    ·exact⟨_,_,_,e⟩
   clear hcut;have hb64:Bv (wc.alloc (Obj.cells #[.int .u8 64] 5)) (.slice (some ⟨wc.heap.size,0,none⟩) 1 1) [64]:=CO wc [64] (by decide) (0,0);have HB64:=Hi hb64;have HO3:=Hi (HU3.out.own.le ((AC wc).alloc (Obj.cells #[.int .u8 64] 5)));have HL3:=Hi (HU3.out.le.alloc (Obj.cells #[.int .u8 64] 5))
   have HLN3:Hid ((u.scheme++58::(u.user++DZ u)).length≤1000000):=Hi (by
    have h1:=HZ.out.scheme;have h2:=HZ.out.user;have h3:=HZ.out.pass;unfold DZ;split<;>simp only[LA,LC,LN]<;>omega)
   clear hb64;go_wp2_with (at_builtin;refine AJ rfl (.tmp 39) (.tmp 40) rfl (base:=W0.heap.size) rfl rfl HO3.out HB64.out (by have:=HLN3.out;simp only[LC,LN];omega) HL3.out.size ?_)
   intro v4 w4 hown4 hgrow4
   have HU4:Hid (UtI w W0 (u.scheme++58::Bm u) v4 w4):=Hi ⟨Below.grown' HL3.out hgrow4 (NL _) (fun g hg=>(AK HO3.out g hg).1),by
    have e:u.scheme++58::Bm u=u.scheme++58::(u.user++(DZ u++[64])):=by
     have h:=HBU.out;unfold isB at h;unfold Bm;rw[if_neg (h.1 rfl)]
    rw[e];exact hown4⟩
   clear hown4 hgrow4;go_wp2;go_meet;case rel=>exact HU4.out
 have HU4:=Hi hcut;obtain⟨n4,A4,c4,rfl⟩:∃n A c,u3= .slice A n c:=by
  rcases hcut.own.2 with⟨e,_⟩|⟨g,cap,cur,e,_⟩
  ·exact⟨0,none,0,e⟩
  ·exact⟨_,_,_,e⟩
 clear hcut HU1 HBU y0 y4 y5 y6 y7 y8 y9;obtain⟨y0,y4,y5,y6,y7,y8,y9⟩:=HBX.out wc HU4.out.le;clear y0 y4 y5 y8 y9;have HHB:=Hi (HF.out.2.2.2.1.le (HL0.out.trans HU4.out.le));go_wp2_with fail
 refine(K4 wc _ u.host u.port HHB.out (by have:=HZ.out.host;omega) HZ.out.hi).mono ?_;rintro e w5 ⟨v5,rfl,hown5,hle5⟩;have HU5:Hid (UtI w W0 (u.scheme++58::Bm u) (.slice A4 n4 c4) w5):=Hi ⟨HU4.out.le.trans hle5,HU4.out.own.le hle5⟩;have HLN5:Hid ((u.scheme++58::Bm u).length≤1000000∧(CZ u.host u.port).length≤1000000):=Hi (by
  have h1:=HZ.out.scheme;have h2:=HZ.out.user;have h3:=HZ.out.pass;refine⟨?_,EP HZ.out.host HZ.out.hi⟩;unfold Bm DZ;split
  ·simp only[LA,LC,LN];omega
  ·split<;>simp only[LA,LC,LN]<;>omega)
 have hb5:=hown5.bv (by have:=HLN5.out.2;omega);have HB5:=Hi hb5;obtain⟨A5,c5,rfl⟩:=hb5.form;clear hb5 hle5 hown5;generalize(CZ u.host u.port).length=nh at HB5⊢;have HO5:=Hi HU5.out.own;go_wp2_with (at_builtin;refine AJ rfl (.tmp 42) (.tmp 47) rfl (base:=W0.heap.size) rfl rfl HO5.out HB5.out (by have:=HLN5.out;omega) HU5.out.le.size ?_)
 intro v6 w6 hown6 hgrow6;have HU6:Hid (UtI w W0 (u.scheme++58::(Bm u++CZ u.host u.port)) v6 w6):=Hi ⟨Below.grown' HU5.out.le hgrow6 (NL _) (fun g hg=>(AK HO5.out g hg).1),by simpa using hown6⟩;obtain⟨n6,A6,c6,rfl⟩:∃n A c,v6= .slice A n c:=by
  rcases hown6.2 with⟨e,_⟩|⟨g,cap,cur,e,_⟩
  ·exact⟨0,none,0,e⟩
  ·exact⟨_,_,_,e⟩
 clear hown6 hgrow6 y6 y7;obtain⟨_,_,_,_,_,y8,y9⟩:=HBX.out w6 HU6.out.le;go_upto_if 52 with fail
 obtain⟨bq,hbq⟩:∃b,decide (0<u.ps.length)=b:=⟨_,rfl⟩;have HBQ:Hid (isB bq (¬u.ps=[])):=Hi (by
  rw[←hbq];unfold isB;rw[decide_eq_true_eq,List.length_pos_iff])
 rw[hbq];clear hbq;go_cut [3]from 53 to 59 (fun s3 wc=>UtI w W0 (u.scheme++58::(Bm u++(CZ u.host u.port++lwP u.ps 59 59))) s3 wc)
 case first=>
  cases bq;case false=>
   have HE:Hid (u.scheme++58::(Bm u++(CZ u.host u.port++lwP u.ps 59 59))=u.scheme++58::(Bm u++CZ u.host u.port)):=Hi (by
    have h:=HBQ.out;unfold isB at h;unfold lwP;rw[if_pos (Classical.not_not.1 (fun hh=>by have:=h.2 hh;cases this)),List.append_nil])
   clear HBQ;go_wp2;go_meet;case rel=>rw[HE.out];exact HU6.out
  case true=>
   generalize hT9:u.scheme++58::(Bm u++CZ u.host u.port)=T9 at HU6;have HT9:=Hi hT9;have HLT9:Hid (T9.length≤3000000∧(ptP u.ps 59 u.ps.length).length≤1099511627776):=Hi (by
    have h1:=HLN5.out.1;have h2:=HLN5.out.2;refine⟨?_,Nat.le_trans (HZ.out.ps _ (NL _)) (by decide)⟩;rw[←hT9];simp only[LA,LC]at h1 h2⊢;omega)
   have HO9:=Hi HU6.out.own;have HL9:=Hi HU6.out.le;have HP9:Hid (u.ps≠[]):=Hi (by have h:=HBQ.out;unfold isB at h;exact h.1 rfl);clear hT9 HBQ;go_upto_region 13 with fail
   have hm13:(Tryz.prog).follows .mixedOrders=true:=by kernel_rfl
   refine G3.wp_region_grow_tail (N2 w.heap.size (Value.ownBlock (.slice A6 n6 c6)) W0.heap.size (.slice A6 n6 c6) (.slice Aps u.ps.length cps) (T9) (ptP u.ps 59 u.ps.length)) (apG W0 (.slice A6 n6 c6) (T9)) 72 6 [53,54,55,56,57,58] hm13 (by kernel_rfl) rfl rfl ⟨HL9.out.drew,HO9.out.le (AC _).drew⟩ ?hold13 ?hs13 ?hend13;case hold13=>
    intro t ht;simp only[List.mem_cons,List.mem_nil_iff,or_false,not_or]at ht;unfold N2;split<;>first|rfl|trivial|(exfalso;simp at ht)
   case hs13=>
    simp only[List.take_succ_cons,List.take_zero];refine⟨?_,?_,?_,?_,?_,?_,trivial⟩
    ·refine AA fun a W hg hop=>?_;have h1:_=_:=hq hop 3;refine⟨_,?_,rfl⟩;simp only[execOp,h1];go_simp
    ·refine GrowStep.le ?_ ?_ ?_ ?_
     ·exact fun t v w1 w2 k h=>Km _ _ _ _ _ _ _ t v w1 w2 k h
     ·exact fun _ _ _ _ h=>h
     ·exact fun w1 w2 k h=>EY h k
     intro a W hg hop;refine⟨.slice (some ⟨W.heap.size,0,none⟩) 1 1,W.alloc (Obj.cells #[.int .u8 59] 5),?_,(AC W).alloc _,?_⟩
     ·simp only[execOp];go_simp
     ·exact BvN.new (w0:=W) (CO W [59] (by decide) (0,0)) (fun k hk=>by simp only[Value.ownBlock,Option.some.injEq]at hk;omega) hg.own.lt
    ·refine Bu (.tmp 53) (.tmp 54) 22 rfl ?_;intro a W hg hop;have h1:_=_:=hq hop 53;have h2:BvN (Value.ownBlock (.slice A6 n6 c6)) W (a.eval (.tmp 54)) [59]:=(hq hop 54);obtain⟨v',w',q,k1,k2,k3⟩:=BI hg.own h2.1 (by have:=HLT9.out;simp only[LC,LN]at this⊢;omega) hg.le.size 22
     refine⟨v',w',by rw[h1];exact q,⟨Below.grown' hg.le k2 (NL _) (fun g hh=>(AK hg.own g hh).1),k3⟩,fun t u ht h=>Oi _ _ _ _ _ _ _ t u _ _ k2 ht h,fun _ _ h=>h,k1⟩
    ·refine AA fun a W hg hop=>?_;have h1:_=_:=hq hop 1;refine⟨_,?_,rfl⟩;simp only[execOp,h1];go_simp
    ·refine AA fun a W hg hop=>?_;have h1:_=_:=hq hop 56;have h2:W.cell? ⟨w.heap.size,8,none⟩=some (.slice Aps u.ps.length cps):=(HBX.out W hg.le).2.2.2.2.2.1;refine⟨_,?_,rfl⟩;simp only[execOp,h1];go_simp
    ·refine AG ?_ ?_ ?_ ?_
     ·exact fun t v w1 w2 k h=>Km _ _ _ _ _ _ _ t v w1 w2 k h
     ·exact fun _ _ _ _ h=>h
     ·exact fun w1 w2 k h=>EY h k
     intro a W hg hop;have h1:_=_:=hq hop 57;have h1':=tg h1;refine⟨71,#[.slice Aps u.ps.length cps,.int .u8 59],?_,(GY (.slice Aps u.ps.length cps) u.ps 59 W (HF.out.2.2.2.2.1.le (HL0.out.trans hg.le)) (fun k hk=>by have:=HZ.out.ps k hk;omega) HZ.out.pm).mono ?_⟩
     ·simp only[execOp,h1];go_simp
     ·rintro e w' ⟨v',rfl,hown,hle⟩;exact⟨_,rfl,hle,BvN.new (hown.bv (by have:=HLT9.out.2;omega)) (fun k hk=>(AK hown k hk).1) hg.own.lt⟩
   case hend13=>
    intro v wz hg hS;have s2:AY W0.heap.size wz (v 55) (T9++[59]):=hS 55 (by decide);have s5:Bv wz (v 58) (ptP u.ps 59 u.ps.length):=(hS 58 (by decide):BvN _ wz (v 58) (ptP u.ps 59 u.ps.length)).1;obtain⟨ns2,As2,cs2,es2⟩:=s2.shape;rw[es2]at s2;obtain⟨ms5,As5,cs5,es5⟩:∃m A c,v 58= .slice A m c:=by obtain⟨A,c,e⟩:=s5.form;exact⟨_,A,c,e⟩
    rw[es5]at s5;have HS2:=Hi s2;have HS5:=Hi s5;have HLZ:=Hi hg.le;have HLEN:Hid ((T9++[59]).length+(ptP u.ps 59 u.ps.length).length≤140737488355328):=Hi (by have:=HLT9.out;simp only[LA,LC,LN];omega);clear hS hg s2 s5
    simp only[Aj,Act.put,List.setIfInBounds_toArray,List.set_cons_zero,List.set_cons_succ,List.drop_succ_cons,List.drop_zero];rw[es2];rw[es5];clear es2 es5;go_wp2_with (at_builtin;refine AJ rfl (.tmp 55) (.tmp 58) rfl (base:=W0.heap.size) rfl rfl HS2.out HS5.out HLEN.out HLZ.out.size ?_)
    intro vz wz2 hownz hgrowz;have HOZ:=Hi hownz;have HLZ2:Hid (Le W0 wz2):=Hi (Below.grown' HLZ.out hgrowz (NL _) (fun g hg=>(AK HS2.out g hg).1));clear hownz hgrowz;go_wp2;go_meet
    case rel=>exact⟨HLZ2.out,by
     have e:u.scheme++58::(Bm u++(CZ u.host u.port++lwP u.ps 59 59))=T9++59::ptP u.ps 59 u.ps.length:=by
      unfold lwP;rw[if_neg HP9.out,←HT9.out];simp
     rw[e];exact HOZ.out⟩
 have HU7:=Hi hcut;obtain⟨n7,A7,c7,rfl⟩:=hcut.own.shape;clear hcut y8 y9 HU6;obtain⟨_,_,_,_,_,_,y9⟩:=HBX.out wc HU7.out.le;go_upto_if 63 with fail
 obtain⟨br,hbr⟩:∃b,decide (0<u.hs.length)=b:=⟨_,rfl⟩;have HBR:Hid (isB br (¬u.hs=[])):=Hi (by
  rw[←hbr];unfold isB;rw[decide_eq_true_eq,List.length_pos_iff])
 rw[hbr];clear hbr
 rename World=>w7
 go_cut [3]from 64 to 70 (fun s3 wc=>UtI w W0 (u.scheme++58::(Bm u++(CZ u.host u.port++(lwP u.ps 59 59++lwP u.hs 63 38)))) s3 wc)
 case first=>
  cases br;case false=>
   have HE:Hid (u.scheme++58::(Bm u++(CZ u.host u.port++(lwP u.ps 59 59++lwP u.hs 63 38)))=u.scheme++58::(Bm u++(CZ u.host u.port++lwP u.ps 59 59))):=Hi (by
    have h:=HBR.out;unfold isB at h;have e:lwP u.hs 63 38=[]:=by
     unfold lwP;rw[if_pos (Classical.not_not.1 (fun hh=>by have:=h.2 hh;cases this))]
    rw[e,List.append_nil])
   clear HBR;go_wp2;go_meet;case rel=>rw[HE.out];exact HU7.out
  case true=>
   generalize hT11:u.scheme++58::(Bm u++(CZ u.host u.port++lwP u.ps 59 59))=T11 at HU7;have HT11:=Hi hT11;have HLT11:Hid (T11.length≤1099512000000+3000000∧(ptP u.hs 38 u.hs.length).length≤1099511627776):=Hi (by
    have h1:=HLN5.out.1;have h2:=HLN5.out.2;have h3:(lwP u.ps 59 59).length≤1099511627777:=by have:=HZ.out.ps _ (NL _);unfold lwP;split<;>simp only[LC,LN]<;>omega
    refine⟨?_,Nat.le_trans (HZ.out.hs _ (NL _)) (by decide)⟩;rw[←hT11];simp only[LA,LC]at h1 h2⊢;omega)
   have HO11:=Hi HU7.out.own;have HL11:=Hi HU7.out.le;have HP11:Hid (u.hs≠[]):=Hi (by have h:=HBR.out;unfold isB at h;exact h.1 rfl);clear hT11 HBR;go_upto_region 15 with fail
   have hm15:(Tryz.prog).follows .mixedOrders=true:=by kernel_rfl
   refine G3.wp_region_grow_tail (Gw w.heap.size (Value.ownBlock (.slice A7 n7 c7)) W0.heap.size (.slice A7 n7 c7) (.slice Ahs u.hs.length chs) (T11) (ptP u.hs 38 u.hs.length)) (apG W0 (.slice A7 n7 c7) (T11)) 72 6 [64,65,66,67,68,69] hm15 (by kernel_rfl) rfl rfl ⟨HL11.out.drew,HO11.out.le (AC _).drew⟩ ?hold15 ?hs15 ?hend15;case hold15=>
    intro t ht;simp only[List.mem_cons,List.mem_nil_iff,or_false,not_or]at ht;unfold Gw;split<;>first|rfl|trivial|(exfalso;simp at ht)
   case hs15=>
    simp only[List.take_succ_cons,List.take_zero];refine⟨?_,?_,?_,?_,?_,?_,trivial⟩
    ·refine AA fun a W hg hop=>?_;have h1:_=_:=hq hop 3;refine⟨_,?_,rfl⟩;simp only[execOp,h1];go_simp
    ·refine GrowStep.le ?_ ?_ ?_ ?_
     ·exact fun t v w1 w2 k h=>I9 _ _ _ _ _ _ _ t v w1 w2 k h
     ·exact fun _ _ _ _ h=>h
     ·exact fun w1 w2 k h=>EY h k
     intro a W hg hop;refine⟨.slice (some ⟨W.heap.size,0,none⟩) 1 1,W.alloc (Obj.cells #[.int .u8 63] 5),?_,(AC W).alloc _,?_⟩
     ·simp only[execOp];go_simp
     ·exact BvN.new (w0:=W) (CO W [63] (by decide) (0,0)) (fun k hk=>by simp only[Value.ownBlock,Option.some.injEq]at hk;omega) hg.own.lt
    ·refine Bu (.tmp 64) (.tmp 65) 22 rfl ?_;intro a W hg hop;have h1:_=_:=hq hop 64;have h2:BvN (Value.ownBlock (.slice A7 n7 c7)) W (a.eval (.tmp 65)) [63]:=(hq hop 65);obtain⟨v',w',q,k1,k2,k3⟩:=BI hg.own h2.1 (by have:=HLT11.out;simp only[LC,LN]at this⊢;omega) hg.le.size 22
     refine⟨v',w',by rw[h1];exact q,⟨Below.grown' hg.le k2 (NL _) (fun g hh=>(AK hg.own g hh).1),k3⟩,fun t u ht h=>Mm _ _ _ _ _ _ _ t u _ _ k2 ht h,fun _ _ h=>h,k1⟩
    ·refine AA fun a W hg hop=>?_;have h1:_=_:=hq hop 1;refine⟨_,?_,rfl⟩;simp only[execOp,h1];go_simp
    ·refine AA fun a W hg hop=>?_;have h1:_=_:=hq hop 67;have h2:W.cell? ⟨w.heap.size,9,none⟩=some (.slice Ahs u.hs.length chs):=(HBX.out W hg.le).2.2.2.2.2.2;refine⟨_,?_,rfl⟩;simp only[execOp,h1];go_simp
    ·refine AG ?_ ?_ ?_ ?_
     ·exact fun t v w1 w2 k h=>I9 _ _ _ _ _ _ _ t v w1 w2 k h
     ·exact fun _ _ _ _ h=>h
     ·exact fun w1 w2 k h=>EY h k
     intro a W hg hop;have h1:_=_:=hq hop 68;have h1':=tg h1;refine⟨71,#[.slice Ahs u.hs.length chs,.int .u8 38],?_,(GY (.slice Ahs u.hs.length chs) u.hs 38 W (HF.out.2.2.2.2.2.le (HL0.out.trans hg.le)) (fun k hk=>by have:=HZ.out.hs k hk;omega) HZ.out.hm).mono ?_⟩
     ·simp only[execOp,h1];go_simp
     ·rintro e w' ⟨v',rfl,hown,hle⟩;exact⟨_,rfl,hle,BvN.new (hown.bv (by have:=HLT11.out.2;omega)) (fun k hk=>(AK hown k hk).1) hg.own.lt⟩
   case hend15=>
    intro v wz hg hS;have s2:AY W0.heap.size wz (v 66) (T11++[63]):=hS 66 (by decide);have s5:Bv wz (v 69) (ptP u.hs 38 u.hs.length):=(hS 69 (by decide):BvN _ wz (v 69) (ptP u.hs 38 u.hs.length)).1;obtain⟨ns2,As2,cs2,es2⟩:=s2.shape;rw[es2]at s2;obtain⟨ms5,As5,cs5,es5⟩:∃m A c,v 69= .slice A m c:=by obtain⟨A,c,e⟩:=s5.form;exact⟨_,A,c,e⟩
    rw[es5]at s5;have HS2:=Hi s2;have HS5:=Hi s5;have HLZ:=Hi hg.le;have HLEN:Hid ((T11++[63]).length+(ptP u.hs 38 u.hs.length).length≤140737488355328):=Hi (by have:=HLT11.out;simp only[LA,LC,LN];omega);clear hS hg s2 s5
    simp only[Aj,Act.put,List.setIfInBounds_toArray,List.set_cons_zero,List.set_cons_succ,List.drop_succ_cons,List.drop_zero];rw[es2];rw[es5];clear es2 es5;go_wp2_with (at_builtin;refine AJ rfl (.tmp 66) (.tmp 69) rfl (base:=W0.heap.size) rfl rfl HS2.out HS5.out HLEN.out HLZ.out.size ?_)
    intro vz wz2 hownz hgrowz;have HOZ:=Hi hownz;have HLZ2:Hid (Le W0 wz2):=Hi (Below.grown' HLZ.out hgrowz (NL _) (fun g hg=>(AK HS2.out g hg).1));clear hownz hgrowz;go_wp2;go_meet
    case rel=>exact⟨HLZ2.out,by
     have e:u.scheme++58::(Bm u++(CZ u.host u.port++(lwP u.ps 59 59++lwP u.hs 63 38)))=T11++63::ptP u.hs 38 u.hs.length:=by
      rw[←HT11.out]
      conv=>lhs;unfold lwP
      rw[if_neg HP11.out];unfold lwP;simp
     rw[e];exact HOZ.out⟩
 have HU8:=Hi hcut;obtain⟨n8,A8,c8,rfl⟩:=hcut.own.shape;clear hcut;have HEND:Hid (CK u=u.scheme++58::(Bm u++(CZ u.host u.port++(lwP u.ps 59 59++lwP u.hs 63 38)))):=Hi (by
  unfold CK;rw[HBW.out,if_neg (by simp),if_pos HRN.out];rfl)
 go_wp2;go_ret;refine⟨_,rfl,?_,HL0.out.trans HU8.out.le⟩;rw[HEND.out];exact HU8.out.own.bv (by have:=Oh HZ.out;rw[HEND.out]at this;omega)
structure A5(W0 R:World)(old:Value)(T:Tx)(x y z t:Value)(W:World):Prop where
 le:Le W0 W
 sz:R.heap.size≤W.heap.size
 own:AY W0.heap.size W old T
 lo:∀g,old.ownBlock=some g→g<R.heap.size
 lx:Lt W x
 lz:Lt W z
 lt:Lt W t
 xz:Ap x z
 xt:Ap x t
 fz:∀g,z.ownBlock=some g→R.heap.size≤g
 ft:∀g,t.ownBlock=some g→R.heap.size≤g
 xy:x=undef→y=undef
def A5G(W0 R:World)(old:Value)(T:Tx)(ix iy iz it:Nat)(a:Act)(w:World):Prop:=A5 W0 R old T (a.eval (.tmp ix)) (a.eval (.tmp iy)) (a.eval (.tmp iz)) (a.eval (.tmp it)) w
theorem A5G.put{W0 R:World}{old:Value}{T:Tx}{ix iy iz it d:Nat}{a:Act}{w:World}{v:Value}(h:A5G W0 R old T ix iy iz it a w)(h1:d≠ix)(h2:d≠iy)(h3:d≠iz)(h4:d≠it):A5G W0 R old T ix iy iz it (a.put (some d) v) w:=by
 unfold A5G;rw[AE _ (by simpa using h1),AE _ (by simpa using h2),AE _ (by simpa using h3),AE _ (by simpa using h4)];exact h
theorem A5.start{W0 R:World}{old:Value}{T:Tx}(hl:Le W0 R)(ho:AY W0.heap.size R old T):A5 W0 R old T undef undef undef undef R.drew:=
 ⟨hl.drew,NL _,ho.le (AC R).drew,ho.lt,Lt.und _,Lt.und _,Lt.und _,Ap.und _,Ap.und _,fun g h=>(by cases h),fun g h=>(by cases h),fun _=>rfl⟩
theorem A5.setz{W0 R w w':World}{old:Value}{T:Tx}{x y z t v:Value}(h:A5 W0 R old T x y z t w)(k:Le w w')(hf:Fr w v)(hl:Lt w' v):A5 W0 R old T x y v t w':=
 ⟨h.le.trans k,Nat.le_trans h.sz k.size,h.own.le k,h.lo,h.lx.le k,hl,h.lt.le k,Ap.fr h.lx hf,h.xt,fun g hg=>Nat.le_trans h.sz (hf g hg),h.ft,h.xy⟩
theorem A5.sett{W0 R w w':World}{old:Value}{T:Tx}{x y z t v:Value}(h:A5 W0 R old T x y z t w)(k:Le w w')(hf:Fr w v)(hl:Lt w' v):A5 W0 R old T x y z v w':=
 ⟨h.le.trans k,Nat.le_trans h.sz k.size,h.own.le k,h.lo,h.lx.le k,h.lz.le k,hl,h.xz,Ap.fr h.lx hf,h.fz,fun g hg=>Nat.le_trans h.sz (hf g hg),h.xy⟩
theorem A5.setx{W0 R w w':World}{old:Value}{T:Tx}{x y z t v:Value}(h:A5 W0 R old T x y z t w)(kl:Le W0 w')(k:w.grownBy w' old.ownBlock)(ho:AY W0.heap.size w' old T)(hs:v.ownBlock=old.ownBlock∨Fr w v)(hl:Lt w' v)(hv:v≠undef):A5 W0 R old T v y z t w':=by
 refine⟨kl,Nat.le_trans h.sz k.size,ho,h.lo,hl,h.lz.gr k,h.lt.gr k,?_,?_,h.fz,h.ft,fun e=>absurd e hv⟩
 ·rcases hs with hs|hs
  ·intro g hg he;rw[hs]at hg;have:=h.lo g hg;have:=h.fz g he;omega
  ·exact(Ap.fr h.lz hs).symm
 ·rcases hs with hs|hs
  ·intro g hg he;rw[hs]at hg;have:=h.lo g hg;have:=h.ft g he;omega
  ·exact(Ap.fr h.lt hs).symm
theorem A5.sety{W0 R w w':World}{old:Value}{T:Tx}{x y z t v:Value}{r:Option Nat}(h:A5 W0 R old T x y z t w)(kl:Le W0 w')(k:w.grownBy w' r)(ho:AY W0.heap.size w' old T)(hx:x≠undef):A5 W0 R old T x v z t w':=
 ⟨kl,Nat.le_trans h.sz k.size,ho,h.lo,h.lx.gr k,h.lz.gr k,h.lt.gr k,h.xz,h.xt,h.fz,h.ft,fun e=>absurd e hx⟩
theorem M2(W:World)(e:TypeId)(c d:UInt8)(he:e=5):AY W.heap.size (W.alloc (Obj.cells #[.int .u8 (c.toNat:Int),.int .u8 (d.toNat:Int)] e)) (.slice (some ⟨W.heap.size,0,none⟩) 2 2) [c,d]:=by
 subst he;exact⟨rfl,.inr ⟨W.heap.size,2,_,rfl,NL _,heap_alloc_new W _,NL _,by decide,rfl,rfl⟩⟩
structure HSz(p:PH):Prop where
 name:p.name.length≤1000000
 text:p.text.length≤1000000
 disp:p.disp.length≤1000000
 uri:SzS p.uri
 ulen:(CK p.uri).length≤1000000000
 ps:∀k≤p.ps.length,(ptP p.ps 59 k).length≤100000000
 pm:∀x∈p.ps,x.1.length+x.2.length≤20000
 num:p.num<4294967296
 proto:p.proto.length≤1000000
 ver:p.ver.length≤1000000
 tr:p.tr.length≤1000000
 host:p.host.length≤65536
 lo: -9223372036854775808≤p.port
 hi:p.port≤9223372036854775807
theorem JK(w:World)(x:UV)(u:PU)(hx:Uq (fun _=>True) w x u)(hz:SzS u)(hl:(CK u).length≤1000000000):
 Calls Tryz.prog 50 #[x.val] w fun e w'=>∃v,e= .returned v∧AY w.heap.size w' v (brT u)∧Le w w':=by
 have HX:=Hi hx;have HZ:=Hi hz;have HLN:=Hi hl;clear hx hz hl;change Calls _ _ #[.agg #[x.scheme,x.raw,.bool x.wild,.bool x.slash,x.user,x.pass,x.host,.int .i64 x.port,x.ps,x.hs]] _ _;go_enter Tryz.func50,Tryz.ntmps50;go_upto_region 1 with fail
 change Code.wp _ _ _ _ (w.alloc (Obj.cells x.row 35));have HB:=Hi (heap_alloc_new w (Obj.cells x.row 35));have HL0:Hid (Le w (w.alloc (Obj.cells x.row 35))):=Hi ((AC w).alloc _);generalize w.alloc (Obj.cells x.row 35)=W0 at HB HL0⊢;have HR:=Hi (((AC W0).alloc (Obj.cells #[.int .u8 60] 5)).heap HB.out)
 have HO1:Hid (AY w.heap.size (W0.alloc (Obj.cells #[.int .u8 60] 5)) (.slice (some ⟨W0.heap.size,0,none⟩) 1 1) [60]):=Hi ((DK W0 _ 60 rfl).base HL0.out.size);have HL1:Hid (Le w (W0.alloc (Obj.cells #[.int .u8 60] 5))):=Hi (HL0.out.alloc _);go_wp2_with (refine wpList_load_row rfl 35 (.tmp 1) rfl w.heap.size rfl 35 x.row (0,0) _ HR.out Tryz.underlying35 rfl AI ?_)
 refine(Jr _ x u (HX.out.le HL1.out) HZ.out).mono ?_;rintro e W2 ⟨v2,rfl,hb2,hle2⟩;have HO2:=Hi (HO1.out.le hle2);have HB2:=Hi hb2;have HL2:Hid (Le w W2):=Hi (HL1.out.trans hle2);obtain⟨A2,c2,rfl⟩:=hb2.form;clear hb2 hle2
 go_wp2_with (at_builtin;refine AJ rfl (.tmp 3) (.tmp 5) rfl (base:=w.heap.size) rfl rfl HO2.out HB2.out (by have:=HLN.out;simp only[LC,LN];omega) HL2.out.size ?_)
 intro v3 w3 hown3 hgrow3;have HL3:Hid (Le w w3):=Hi (Below.grown' HL2.out hgrow3 (NL _) (fun g hg=>(AK HO2.out g hg).1));have HO3:Hid (AY w.heap.size (w3.alloc (Obj.cells #[.int .u8 62] 5)) v3 ([60]++CK u)):=Hi (AY.le hown3 ((AC w3).alloc _))
 have HB3:Hid (Bv (w3.alloc (Obj.cells #[.int .u8 62] 5)) (.slice (some ⟨w3.heap.size,0,none⟩) 1 1) [62]):=Hi (CO w3 [62] (by decide) (0,0));obtain⟨n3,A3,c3,rfl⟩:=hown3.shape;clear hown3 hgrow3
 go_wp2_with (at_builtin;refine AJ rfl (.tmp 6) (.tmp 7) rfl (base:=w.heap.size) rfl rfl HO3.out HB3.out (by have:=HLN.out;simp only[LA,LC,LN];omega) (HL3.out.alloc _).size ?_)
 intro v4 w4 hown4 hgrow4;have HO4:Hid (AY w.heap.size w4 v4 (brT u)):=Hi hown4;have HL4:Hid (Le w w4):=Hi (Below.grown' (HL3.out.alloc _) hgrow4 (NL _) (fun g hg=>(AK HO3.out g hg).1));clear hown4 hgrow4;go_wp2;go_ret;exact⟨_,rfl,HO4.out,HL4.out⟩
def P7(b bs rs:Nat)(Ad:Option Addr)(nd cd:Nat)(D:Tx):Nat→Value→World→Prop
 |1,v,_=>v= .pointer (some ⟨b,0,none⟩)
 |3,v,_=>v=(.slice none 0 0)
 |8,v,_=>v=(.slice none 0 0)
 |9,v,w_=>AY rs w_ v [34]
 |10,v,w_=>AY bs w_ v ([34])
 |11,v,_=>v= .pointer (some ⟨b,3,none⟩)
 |12,v,_=>v= .slice Ad nd cd
 |13,v,w_=>AY bs w_ v (([34])++D)
 |14,v,w_=>AY rs w_ v [34,32]
 |_,_,_=>True
theorem MQ(b bs rs:Nat)(Ad:Option Addr)(nd cd:Nat)(D:Tx)(t:Nat)(v:Value)(w1 w2:World)(k:Le w1 w2)(h:P7 b bs rs Ad nd cd D t v w1):P7 b bs rs Ad nd cd D t v w2:=by
 unfold P7 at h⊢;split at h<;>first|exact h|exact AY.le h k
def OL(b:Nat)(g:Option Nat)(base:Nat)(old lv:Value)(T X:Tx):Nat→Value→World→Prop
 |1,v,_=>v= .pointer (some ⟨b,0,none⟩)
 |3,v,_=>v=old
 |31,v,_=>v=old
 |32,v,w=>BvN g w v [59]
 |33,v,w=>AY base w v (T++[59])
 |34,v,_=>v= .pointer (some ⟨b,14,none⟩)
 |35,v,_=>v=lv
 |36,v,w=>BvN g w v X
 |_,_,_=>True
theorem MP(b:Nat)(g:Option Nat)(base:Nat)(old lv:Value)(T X:Tx)(t:Nat)(v:Value)(w w':World)(k:Le w w')(h:OL b g base old lv T X t v w):OL b g base old lv T X t v w':=by
 unfold OL at h⊢;split at h<;>first|exact h|exact BvN.le h k|exact AY.le h k
theorem P6(b:Nat)(g:Option Nat)(base:Nat)(old lv:Value)(T X:Tx)(t:Nat)(v:Value)(w w':World)(k:w.grownBy w' g)(ht:some 33≠some t)(h:OL b g base old lv T X t v w):OL b g base old lv T X t v w':=by
 unfold OL at h⊢;split at h<;>first|exact h|exact BvN.grown h k|exact absurd rfl ht
theorem O1(ψ:Nat→Prop)(x:HV)(p:PH)(w:World)(hx:Hz ψ w x p)(hw:p.uri.wild=false)(hs:HSz p):
 Calls Tryz.prog 47 #[x.val] w fun e w'=>∃v,e= .returned v∧AY w.heap.size w' v (MY p.disp p.uri p.ps)∧Le w w':=by
 obtain⟨xt,xn,xx,xd,xu,xp,xm,x1,x2,x3,x4,xo⟩:=x;obtain⟨Ad,cd,rfl⟩:=(show Bv w xd p.disp from hx.disp).form;obtain⟨Aq,cq,rfl⟩:∃A c,xp= .slice A p.ps.length c:=by obtain⟨A,c,e,_⟩:=hx.ps;exact⟨A,c,e⟩
 have HXW:Hid (xu.wild=false):=Hi (hx.uri.toUq.wild.trans hw);have HX:=Hi hx;have HS:=Hi hs;clear hx hw hs;change Calls _ _ #[.agg #[.int .i64 xt,xn,xx,.slice Ad p.disp.length cd,xu.scheme,xu.raw,.bool xu.wild,.bool xu.slash,xu.user,xu.pass,xu.host,.int .i64 xu.port,xu.ps,xu.hs,.slice Aq p.ps.length cq,.int .u32 xm,x1,x2,x3,x4,.int .i64 xo]] _ _;go_enter Tryz.func47,Tryz.ntmps47
 go_upto_region 2 with fail
 change Code.wp _ _ _ _ (w.alloc (Obj.cells (HV.row ⟨xt,xn,xx,.slice Ad p.disp.length cd,xu,.slice Aq p.ps.length cq,xm,x1,x2,x3,x4,xo⟩) 37));have HB:=Hi (heap_alloc_new w (Obj.cells (HV.row ⟨xt,xn,xx,.slice Ad p.disp.length cd,xu,.slice Aq p.ps.length cq,xm,x1,x2,x3,x4,xo⟩) 37))
 have HL0:Hid (Le w (w.alloc (Obj.cells (HV.row ⟨xt,xn,xx,.slice Ad p.disp.length cd,xu,.slice Aq p.ps.length cq,xm,x1,x2,x3,x4,xo⟩) 37))):=Hi ((AC w).alloc _);generalize w.alloc (Obj.cells (HV.row ⟨xt,xn,xx,.slice Ad p.disp.length cd,xu,.slice Aq p.ps.length cq,xm,x1,x2,x3,x4,xo⟩) 37)=W0 at HB HL0⊢;obtain⟨b,hb⟩:∃b,b=w.heap.size:=⟨_,rfl⟩;rw[←hb]at HB⊢
 have HBS:Hid (w.heap.size=b):=Hi hb.symm;clear hb;have HCD:Hid (W0.cell? ⟨b,3,none⟩=some (.slice Ad p.disp.length cd)):=Hi (AB HB.out 3);have g3:=HCD.out;have HBD:Hid (Bv W0 (.slice Ad p.disp.length cd) p.disp):=Hi (HX.out.disp.le HL0.out);have HLD:Hid (p.disp.length≤1000000):=Hi HS.out.disp;go_upto_if 7 with fail
 go_cut [3]from 7 to 16 (fun s3 wx=>∃v,s3=v∧AY W0.heap.size wx v (dqT p.disp)∧Le W0 wx)
 case first=>
  by_cases hd0:p.disp=[]
  ·have hdl:decide (0<p.disp.length)=false:=by rw[hd0];rfl
   have HD:Hid (dqT p.disp=[]):=Hi (by unfold dqT;rw[if_pos hd0]);clear hd0;rw[hdl];go_wp2;go_meet;case rel=>exact⟨_,rfl,by rw[HD.out];exact AY.nil _ _,AC _⟩
  ·have hdl:decide (0<p.disp.length)=true:=decide_eq_true (List.length_pos_iff.2 hd0);have HD:Hid (dqT p.disp=34::(p.disp++[34,32])):=Hi (by unfold dqT;rw[if_neg hd0]);clear hd0;rw[hdl];go_upto_region 3 with fail
   have hm3:(Tryz.prog).follows .mixedOrders=true:=by kernel_rfl
   refine G4.wp_region_grow_tail (P7 b W0.heap.size W0.heap.size Ad p.disp.length cd p.disp) (A5G W0 W0 (.slice none 0 0) [] 10 13 14 9) 39 7 [8,9,10,11,12,13,14] hm3 (by kernel_rfl) rfl rfl ?hG3 ?hold3 ?hs3 ?hend3;case hG3=>exact(A5.start (AC W0) (AY.nil _ _))
   case hold3=>
    intro t ht;simp only[List.mem_cons,List.mem_nil_iff,or_false,not_or]at ht;unfold P7;split<;>first|exact True.intro|(exfalso;simp at ht;done)|rfl
   case hs3=>
    simp only[List.take_succ_cons,List.take_zero];refine⟨?_,?_,?_,?_,?_,?_,?_,trivial⟩
    ·refine G4.det ?_ (fun a w v h=>A5G.put h (by decide) (by decide) (by decide) (by decide));intro a W hg hop;have h1:_=_:=hq hop 3;refine⟨_,?_,rfl⟩;simp only[execOp,h1];go_simp
    ·refine G4.run ?_;intro a W hz hu hg hop;have hle:Le W (W.alloc (Obj.cells #[.int .u8 34] 5)):=(AC W).alloc _;have k1:AY W.heap.size (W.alloc (Obj.cells #[.int .u8 34] 5)) (.slice (some ⟨W.heap.size,0,none⟩) 1 1) [34]:=DK W _ 34 rfl
     refine⟨.slice (some ⟨W.heap.size,0,none⟩) 1 1,W.alloc (Obj.cells #[.int .u8 34] 5),?_,?_,fun t _ h=>MQ b W0.heap.size W0.heap.size Ad p.disp.length cd p.disp t _ _ _ hle h,k1.base hg.sz⟩
     ·simp only[execOp];go_simp
     ·have hs:=A5.sett hg hle k1.fr k1.frz;unfold A5G;rw[AE _ (by simp),AE _ (by simp),AE _ (by simp),AR _ (by rw[hz];decide)];exact hs
    ·refine G4.append (.tmp 8) (.tmp 9) 22 rfl ?_;intro a W hz hu hg hop;have h0:_=_:=hq hop 8;have h2:Bv W (a.eval (.tmp 9)) [34]:=by
      have h2:=hq hop 9;exact AY.bv h2 (by decide)
     have hx:a.eval (.tmp 10)=undef:=(hu 10 rfl).trans rfl;have hy:a.eval (.tmp 13)=undef:=hg.xy hx;obtain⟨v',w',q,k1,k2,k3,k4⟩:=BH hg.own h2 (by decide) hg.le.size 22;have kle:Le W0 w':=Below.grown' hg.le k2 (NL _) (fun g hh=>(AK hg.own g hh).1);refine⟨v',w',by rw[h0];exact q,?_,fun t ht h=>?_,k1⟩
     ·have hs:=A5.setx hg kle k2 k3 k4 k1.frz k1.ne_undef;unfold A5G;rw[AR _ (by rw[hz];decide),AE _ (by simp),AE _ (by simp),AE _ (by simp)];exact hs
     ·unfold P7 at h⊢;split at h<;>first|exact h|exact AY.apart h k2 (fun g h1 h2=>by have:=hg.lo g h1;have:=(AK h g h2).1;omega)|exact absurd rfl ht|exact absurd hy (AY.ne_undef h)|exact absurd hx (AY.ne_undef h)
    ·refine G4.det ?_ (fun a w v h=>A5G.put h (by decide) (by decide) (by decide) (by decide));intro a W hg hop;have h1:_=_:=hq hop 1;refine⟨_,?_,rfl⟩;simp only[execOp,h1];go_simp
    ·refine G4.det ?_ (fun a w v h=>A5G.put h (by decide) (by decide) (by decide) (by decide));intro a W hg hop;have h1:_=_:=hq hop 11;have h2:W.cell? ⟨b,3,none⟩=some (.slice Ad p.disp.length cd):=hg.le.cell HCD.out;refine⟨_,?_,rfl⟩;simp only[execOp,h1];go_simp
    ·refine G4.append (.tmp 10) (.tmp 12) 22 rfl ?_;intro a W hz hu hg hop;have h1:AY W0.heap.size W (a.eval (.tmp 10)) ([34]):=(hq hop 10);have h2:Bv W (a.eval (.tmp 12)) p.disp:=by
      have h2:=hq hop 12;have h2:a.eval (.tmp 12)= .slice Ad p.disp.length cd:=h2;rw[h2];exact HBD.out.le hg.le
     have hy:a.eval (.tmp 13)=undef:=(hu 13 rfl).trans rfl;obtain⟨v',w',q,k1,k2,k3,k4⟩:=BH h1 h2 (by have:=HLD.out;simp only[LC,LN];omega) hg.le.size 22;have kle:Le W0 w':=Below.grown' hg.le k2 (NL _) (fun g hh=>(AK h1 g hh).1);refine⟨v',w',q,?_,fun t ht h=>?_,k1⟩
     ·have hs:=A5.sety hg kle k2 (AY.nil _ _) h1.ne_undef (v:=v');unfold A5G;rw[AE _ (by simp),AR _ (by rw[hz];decide),AE _ (by simp),AE _ (by simp)];exact hs
     ·unfold P7 at h⊢;split at h<;>first|exact h|exact k3|exact AY.apart h k2 hg.xz|exact AY.apart h k2 hg.xt|exact absurd rfl ht|exact absurd hy (AY.ne_undef h)
    ·refine G4.run ?_;intro a W hz hu hg hop;have hle:Le W (W.alloc (Obj.cells #[.int .u8 34,.int .u8 32] 5)):=(AC W).alloc _;have k1:AY W.heap.size (W.alloc (Obj.cells #[.int .u8 34,.int .u8 32] 5)) (.slice (some ⟨W.heap.size,0,none⟩) 2 2) [34,32]:=M2 W _ 34 32 rfl
     refine⟨.slice (some ⟨W.heap.size,0,none⟩) 2 2,W.alloc (Obj.cells #[.int .u8 34,.int .u8 32] 5),?_,?_,fun t _ h=>MQ b W0.heap.size W0.heap.size Ad p.disp.length cd p.disp t _ _ _ hle h,k1.base hg.sz⟩
     ·simp only[execOp];go_simp
     ·have hs:=A5.setz hg hle k1.fr k1.frz;unfold A5G;rw[AE _ (by simp),AE _ (by simp),AR _ (by rw[hz];decide),AE _ (by simp)];exact hs
   case hend3=>
    intro s_ wz hg hS;have s13:AY W0.heap.size wz (s_ 13) ([34]++p.disp):=hS 13 (by decide);have s14:AY W0.heap.size wz (s_ 14) [34,32]:=hS 14 (by decide);obtain⟨n13,A13,c13,e13⟩:=s13.shape;obtain⟨n14,A14,c14,e14⟩:=s14.shape;rw[e13]at s13;rw[e14]at s14;have HS13:=Hi s13;have HS14:=Hi (s14.bv (by decide));have HLZ:=Hi hg.le;clear hS hg s13 s14
    simp only[Aj,Act.put,List.setIfInBounds_toArray,List.set_cons_zero,List.set_cons_succ,List.drop_succ_cons,List.drop_zero];rw[e13,e14];clear e13 e14;go_wp2_with (at_builtin;refine AJ rfl (.tmp 13) (.tmp 14) rfl (base:=W0.heap.size) rfl rfl HS13.out HS14.out (by have:=HLD.out;simp only[LA,LC,LN];omega) HLZ.out.size ?_)
    intro v3 W3 hown3 hgrow3;have HO3:Hid (AY W0.heap.size W3 v3 (34::(p.disp++[34,32]))):=Hi (by simpa using hown3);have HL3:Hid (Le W0 W3):=Hi (Below.grown' HLZ.out hgrow3 (NL _) (fun g hg=>(AK HS13.out g hg).1));clear hown3 hgrow3;go_wp2;go_meet;case rel=>exact⟨_,rfl,by rw[HD.out];exact HO3.out,HL3.out⟩
 case rest=>
 obtain⟨v3,rfl,hown3,hle3⟩:=hcut
 rename World=>W3
 have HO3:=Hi hown3;have HL3:=Hi hle3;have g6:W3.cell? ⟨b,6,none⟩=some (.bool false):=by rw[AB (hle3.heap HB.out) 6,←HXW.out];rfl
 have HR3:=Hi (hle3.heap HB.out);obtain⟨n3,A3,c3,rfl⟩:=hown3.shape;clear hown3 hle3 g3;go_upto_region 6 with fail
 go_wp2_with (refine BN rfl 35 (.tmp 23) rfl b 4 rfl 37 (HV.row ⟨xt,xn,xx,.slice Ad p.disp.length cd,xu,.slice Aq p.ps.length cq,xm,x1,x2,x3,x4,xo⟩) xu.row (0,0) _ HR3.out (CF ⟨xt,xn,xx,.slice Ad p.disp.length cd,xu,.slice Aq p.ps.length cq,xm,x1,x2,x3,x4,xo⟩) Tryz.underlying35 rfl AI ?_)
 refine(JK W3 xu p.uri (HX.out.uri.toUq.le (HL0.out.trans HL3.out)) HS.out.uri HS.out.ulen).mono ?_;rintro e W4 ⟨v4,rfl,hown4,hle4⟩;have HO4:=Hi (HO3.out.le hle4);have HB4:=Hi (hown4.bv (by have:=HS.out.ulen;unfold brT;simp only[LA,LC,LN];omega));have HL4:Hid (Le W0 W4):=Hi (HL3.out.trans hle4);obtain⟨n4,A4,c4,rfl⟩:=hown4.shape
 clear hown4 hle4 g6;have HDQ:Hid ((dqT p.disp).length≤1000003):=Hi (by have:=HLD.out;unfold dqT;split<;>simp;omega);go_upto_region 7 with(at_builtin;refine AJ rfl (.tmp 22) (.tmp 25) rfl (base:=W0.heap.size) rfl rfl HO4.out HB4.out (by have:=HS.out.ulen;have:=HDQ.out;unfold brT;simp only[LA,LC,LN];omega) HL4.out.size ?_)
 intro v7 W7 hown7 hgrow7;have HL7:Hid (Le W0 W7):=Hi (Below.grown' HL4.out hgrow7 (NL _) (fun g hg=>(AK HO4.out g hg).1));have HO7':=Hi hown7;obtain⟨T7,hT7⟩:∃T,T=dqT p.disp++brT p.uri:=⟨_,rfl⟩;have HT7:=Hi hT7;have HO7:Hid (AY W0.heap.size W7 v7 T7):=Hi (by rw[hT7];exact hown7)
 have HLT7:Hid (T7.length≤1100000000):=Hi (by rw[hT7];have:=HS.out.ulen;have:=HDQ.out;unfold brT;simp only[LA,LC,LN];omega);have g14:W7.cell? ⟨b,14,none⟩=some (.slice Aq p.ps.length cq):=AB (HL7.out.heap HB.out) 14;obtain⟨n7,A7,c7,rfl⟩:=hown7.shape;clear hown7 hgrow7 hT7 HO7';by_cases hp0:p.ps=[]
 ·have hpl:decide (0<p.ps.length)=false:=by rw[hp0];rfl
  have HE:Hid (MY p.disp p.uri p.ps=T7):=Hi (by rw[HT7.out];unfold MY lwP;rw[if_pos hp0,List.append_nil]);clear hp0;go_wp2;go_ret;exact⟨_,rfl,by rw[HE.out];exact HO7.out.base (by have:=HL0.out.size;omega),HL0.out.trans HL7.out⟩
 ·have hpl:decide (0<p.ps.length)=true:=decide_eq_true (List.length_pos_iff.2 hp0);have HE:Hid (MY p.disp p.uri p.ps=T7++59::ptP p.ps 59 p.ps.length):=Hi (by rw[HT7.out];unfold MY lwP;rw[if_neg hp0];simp);clear hp0;go_upto_region 8 with fail
  have hm8:(Tryz.prog).follows .mixedOrders=true:=by kernel_rfl
  refine G3.wp_region_grow_tail (OL b (Value.ownBlock (.slice A7 n7 c7)) W0.heap.size (.slice A7 n7 c7) (.slice Aq p.ps.length cq) (T7) ((ptP p.ps 59 p.ps.length))) (apG W0 (.slice A7 n7 c7) (T7)) 39 6 [31,32,33,34,35,36] hm8 (by kernel_rfl) rfl rfl ⟨HL7.out.drew,HO7.out.le (AC _).drew⟩ ?hold8 ?hs8 ?hend8;case hold8=>
   intro t ht;simp only[List.mem_cons,List.mem_nil_iff,or_false,not_or]at ht;unfold OL;split<;>first|rfl|trivial|(exfalso;simp at ht)
  case hs8=>
   simp only[List.take_succ_cons,List.take_zero];refine⟨?_,?_,?_,?_,?_,?_,trivial⟩
   ·refine AA fun a W hg hop=>?_;have h1:_=_:=hq hop 3;refine⟨_,?_,rfl⟩;simp only[execOp,h1];go_simp
   ·refine GrowStep.le ?_ ?_ ?_ ?_
    ·exact fun t v w1 w2 k h=>MP _ _ _ _ _ _ _ t v w1 w2 k h
    ·exact fun _ _ _ _ h=>h
    ·exact fun w1 w2 k h=>EY h k
    intro a W hg hop;refine⟨.slice (some ⟨W.heap.size,0,none⟩) 1 1,W.alloc (Obj.cells #[.int .u8 59] 5),?_,(AC W).alloc _,?_⟩
    ·simp only[execOp];go_simp
    ·exact BvN.new (w0:=W) (CO W [59] (by decide) (0,0)) (fun k hk=>by simp only[Value.ownBlock,Option.some.injEq]at hk;omega) hg.own.lt
   ·refine Bu (.tmp 31) (.tmp 32) 22 rfl ?_;intro a W hg hop;have h1:_=_:=hq hop 31;have h2:BvN (Value.ownBlock (.slice A7 n7 c7)) W (a.eval (.tmp 32)) [59]:=(hq hop 32);obtain⟨v',w',q,k1,k2,k3⟩:=BI hg.own h2.1 (by have:=HLT7.out;have:=HS.out.ps _ (NL _);simp only[LC,LN]at this⊢;omega) hg.le.size 22
    refine⟨v',w',by rw[h1];exact q,⟨Below.grown' hg.le k2 (NL _) (fun g hh=>(AK hg.own g hh).1),k3⟩,fun t u ht h=>P6 _ _ _ _ _ _ _ t u _ _ k2 ht h,fun _ _ h=>h,k1⟩
   ·refine AA fun a W hg hop=>?_;have h1:_=_:=hq hop 1;refine⟨_,?_,rfl⟩;simp only[execOp,h1];go_simp
   ·refine AA fun a W hg hop=>?_;have h1:_=_:=hq hop 34;have h2:W.cell? ⟨b,14,none⟩=some (.slice Aq p.ps.length cq):=(AB (hg.le.heap HB.out) 14);refine⟨_,?_,rfl⟩;simp only[execOp,h1];go_simp
   ·refine AG ?_ ?_ ?_ ?_
    ·exact fun t v w1 w2 k h=>MP _ _ _ _ _ _ _ t v w1 w2 k h
    ·exact fun _ _ _ _ h=>h
    ·exact fun w1 w2 k h=>EY h k
    intro a W hg hop;have h1:_=_:=hq hop 35;have h1':=tg h1;refine⟨71,#[.slice Aq p.ps.length cq,.int .u8 59],?_,(GY (.slice Aq p.ps.length cq) p.ps 59 W (HX.out.ps.le (HL0.out.trans hg.le)) (fun k hk=>by have:=HS.out.ps k hk;omega) HS.out.pm).mono ?_⟩
    ·simp only[execOp,h1];go_simp
    ·rintro e w' ⟨v',rfl,hown,hle⟩;exact⟨_,rfl,hle,BvN.new (hown.bv (by have:=HS.out.ps _ (NL _);omega)) (fun k hk=>(AK hown k hk).1) hg.own.lt⟩
  case hend8=>
   intro v wz hg hS;have s2:AY W0.heap.size wz (v 33) (T7++[59]):=hS 33 (by decide);have s5:Bv wz (v 36) ((ptP p.ps 59 p.ps.length)):=(hS 36 (by decide):BvN _ wz (v 36) ((ptP p.ps 59 p.ps.length))).1;obtain⟨ns2,As2,cs2,es2⟩:=s2.shape;rw[es2]at s2;obtain⟨ms5,As5,cs5,es5⟩:∃m A c,v 36= .slice A m c:=by obtain⟨A,c,e⟩:=s5.form;exact⟨_,A,c,e⟩
   rw[es5]at s5;have HS2:=Hi s2;have HS5:=Hi s5;have HLZ:=Hi hg.le;have HLEN:Hid ((T7++[59]).length+((ptP p.ps 59 p.ps.length)).length≤140737488355328):=Hi (by have:=HLT7.out;have:=HS.out.ps _ (NL _);simp only[LA,LC,LN];omega);clear hS hg s2 s5
   simp only[Aj,Act.put,List.setIfInBounds_toArray,List.set_cons_zero,List.set_cons_succ,List.drop_succ_cons,List.drop_zero];rw[es2];rw[es5];clear es2 es5;go_wp2_with (at_builtin;refine AJ rfl (.tmp 33) (.tmp 36) rfl (base:=W0.heap.size) rfl rfl HS2.out HS5.out HLEN.out HLZ.out.size ?_)
   intro vz wz2 hownz hgrowz;have HOZ:=Hi hownz;have HLZ2:Hid (Le W0 wz2):=Hi (Below.grown' HLZ.out hgrowz (NL _) (fun g hg=>(AK HS2.out g hg).1));clear hownz hgrowz;go_wp2;go_ret;exact⟨_,rfl,by rw[HE.out];exact HOZ.out.base (by have:=HL0.out.size;omega),HL0.out.trans HLZ2.out⟩
end Go.Proofs.YtejhpdcjafbklaaGreatDoor
