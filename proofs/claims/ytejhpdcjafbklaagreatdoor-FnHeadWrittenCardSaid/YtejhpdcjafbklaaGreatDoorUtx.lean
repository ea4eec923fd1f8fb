/- The law FnHeadWritten: HmMd HmNu HmCl HmRt Pms FnPE Utx. -/
import Derived.Test.YtejhpdcjafbklaaGreatDoorHwM
set_option linter.all false
set_option maxHeartbeats 32000000
set_option maxRecDepth 8000
namespace Go.Proofs.YtejhpdcjafbklaaGreatDoor
open Go.RowKit
theorem Gg:((Tryz.prog).info? 25).map (·.size)=some 10:=by kernel_rfl
structure IaZ(u:PU):Prop where
 small:u.small
 ps:KSm 1099511627775 u.ps
 hs:KSm 1099511627775 u.hs
 len:(u.scheme++58::u.raw).length≤1099511627000
theorem MU(w:World)(x:UV)(u v:PU)(hx:Uq (fun _=>True) w x u)(hg:gv u=some v)(hz:IaZ u)(hL:BW w):
 Calls Tryz.prog 42 #[x.val] w fun e w'=>∃pv hv,e= .returned (.agg (v.cells pv hv))∧Hp w' pv v.ps∧Hp w' hv v.hs∧Le w w':=by
 by_cases hr:u.raw=[]
 ·have e:u=v:=by unfold gv at hg;rw[if_pos hr]at hg;exact Option.some.inj hg
  subst e;exact F3 _ w x u hx hz.small hr hz.ps hz.hs
 ·refine(Hu _ w x u hx hr hL hz.len).mono ?_;rintro e w' ⟨r,q,pv,hv,rfl,h1,h2,_,hp,hqq,hle⟩;have hl:=law hp;rw[(RJ hg hr).1]at hl;have hrv:r=v:=hqq v hl;subst hrv;exact⟨pv,hv,rfl,h1,h2,hle⟩
inductive Dv(p:PH)(v:PU)(w:World):Value→Prop
 |hto (g:Nat) (ht:p.t=1) (h:AdC w g p.disp v p.ps):Dv p v w (.iface 131 (.pointer (some ⟨g,0,none⟩)))
 |hfr (g:Nat) (ht:p.t=2) (h:AdC w g p.disp v p.ps):Dv p v w (.iface 134 (.pointer (some ⟨g,0,none⟩)))
 |hco (g:Nat) (ht:p.t=3) (h:AdC w g p.disp v p.ps):Dv p v w (.iface 136 (.pointer (some ⟨g,0,none⟩)))
 |hvi (g:Nat) (ht:p.t=9) (h:ViC w g p.proto p.ver p.tr p.host p.port p.ps):Dv p v w (.iface 138 (.pointer (some ⟨g,0,none⟩)))
 |hro (g:Nat) (ht:p.t=11) (h:UIn w g 0 v):Dv p v w (.iface 141 (.pointer (some ⟨g,0,none⟩)))
 |hrr (g:Nat) (ht:p.t=12) (h:UIn w g 0 v):Dv p v w (.iface 144 (.pointer (some ⟨g,0,none⟩)))
 |hrf (g:Nat) (ht:p.t=13) (h:UIn w g 0 v):Dv p v w (.iface 146 (.pointer (some ⟨g,0,none⟩)))
 |hrb (g:Nat) (ht:p.t=14) (h:AdC w g p.disp v p.ps):Dv p v w (.iface 148 (.pointer (some ⟨g,0,none⟩)))
 |hci (g:Nat) (ht:p.t=4) (h:w.cell? ⟨g,0,none⟩=some (.string (st p.text))):Dv p v w (.iface 93 (.pointer (some ⟨g,0,none⟩)))
 |hcs (g:Nat) (ht:p.t=5) (h:OQ w g p.num p.text):Dv p v w (.iface 94 (.pointer (some ⟨g,0,none⟩)))
 |hmf (g:Nat) (ht:p.t=6) (h:w.cell? ⟨g,0,none⟩=some (.int .u32 p.num)):Dv p v w (.iface 99 (.pointer (some ⟨g,0,none⟩)))
 |hex (g:Nat) (ht:p.t=7) (h:w.cell? ⟨g,0,none⟩=some (.int .u32 p.num)):Dv p v w (.iface 101 (.pointer (some ⟨g,0,none⟩)))
 |hcl (g:Nat) (ht:p.t=8) (h:w.cell? ⟨g,0,none⟩=some (.int .u32 p.num)):Dv p v w (.iface 103 (.pointer (some ⟨g,0,none⟩)))
 |hct (g:Nat) (ht:p.t=10) (h:w.cell? ⟨g,0,none⟩=some (.string (st p.text))):Dv p v w (.iface 105 (.pointer (some ⟨g,0,none⟩)))
 |hge (g:Nat) (ht:p.t=0) (h:w.cell? ⟨g,0,none⟩=some (.string (st p.name))∧w.cell? ⟨g,1,none⟩=some (.string (st p.text))):Dv p v w (.iface 150 (.pointer (some ⟨g,0,none⟩)))
theorem Dv.le{p:PH}{v:PU}{w w':World}{r:Value}(h:Dv p v w r)(k:Le w w'):Dv p v w' r:=by
 cases h with
 |hto g ht h=>exact .hto g ht (h.le k)
 |hfr g ht h=>exact .hfr g ht (h.le k)
 |hco g ht h=>exact .hco g ht (h.le k)
 |hrb g ht h=>exact .hrb g ht (h.le k)
 |hvi g ht h=>exact .hvi g ht (h.le k)
 |hro g ht h=>exact .hro g ht (h.le k)
 |hrr g ht h=>exact .hrr g ht (h.le k)
 |hrf g ht h=>exact .hrf g ht (h.le k)
 |hci g ht h=>exact .hci g ht (k.cell h)
 |hcs g ht h=>exact .hcs g ht (k.heap h)
 |hmf g ht h=>exact .hmf g ht (k.cell h)
 |hex g ht h=>exact .hex g ht (k.cell h)
 |hcl g ht h=>exact .hcl g ht (k.cell h)
 |hct g ht h=>exact .hct g ht (k.cell h)
 |hge g ht h=>exact .hge g ht (⟨k.cell h.1,k.cell h.2⟩)
theorem FO{u1:PU}{d:Tx}{lv pv hv:Value}(k:Nat)(z:Value)(hk:(u1.cells pv hv)[k]? =some z):(#[.string (st d),.string (st u1.scheme),.string (st u1.raw),.bool u1.wild,.bool u1.slash,.string (st u1.user),.string (st u1.pass),.string (st u1.host),.int .i64 u1.port,pv,hv,lv]:Array Value)[1+k]? =some z:=by
 have h:k<10:=(Array.getElem?_eq_some_iff.1 hk).1;rcases(show k=0∨k=1∨k=2∨k=3∨k=4∨k=5∨k=6∨k=7∨k=8∨k=9 by omega)with rfl|rfl|rfl|rfl|rfl|rfl|rfl|rfl|rfl|rfl<;>exact hk
def mzS(W0:World)(b:Nat)(d:Tx)(u1:PU)(l:KVs)(xu:UV)(Ad:Option Addr)(nd cd:Nat)(Aq:Option Addr)(nq cq:Nat):Nat→Value→World→Prop
 |1,v,_=>v=(.pointer (some ⟨b,0,none⟩))
 |4,v,w_=>∃g,v= .pointer (some ⟨g,0,none⟩)∧W0.heap.size≤g∧w_.heap[g]? =some (.cells Jo 84 (0,0))
 |6,v,_=>v=(.pointer (some ⟨b,3,none⟩))
 |7,v,_=>v=(.slice Ad nd cd)
 |8,v,_=>v=(.string (st d))
 |9,v,_=>v=(.pointer (some ⟨b,4,none⟩))
 |10,v,_=>v=xu.val
 |11,v,w_=>∃pv hv,v= .agg (u1.cells pv hv)∧Hp w_ pv u1.ps∧Hp w_ hv u1.hs
 |12,v,_=>v=(.pointer (some ⟨b,14,none⟩))
 |13,v,_=>v=(.slice Aq nq cq)
 |14,v,w_=>Hp w_ v l
 |_,_,_=>True
theorem LM(W0:World)(b:Nat)(d:Tx)(u1:PU)(l:KVs)(xu:UV)(Ad:Option Addr)(nd cd:Nat)(Aq:Option Addr)(nq cq:Nat)(t:Nat)(v:Value)(w1 w2:World)(k:Le w1 w2)(h:mzS W0 b d u1 l xu Ad nd cd Aq nq cq t v w1):mzS W0 b d u1 l xu Ad nd cd Aq nq cq t v w2:=by
 unfold mzS at h⊢;split at h<;>first|exact h|exact(by obtain⟨g,e,h1,h2⟩:=h;exact⟨g,e,h1,k.heap h2⟩)|exact(by obtain⟨pv,hv,e,h1,h2⟩:=h;exact⟨pv,hv,e,h1.le k,h2.le k⟩)|exact Hp.le h k
theorem LP(ψ:Nat→Prop)(x:HV)(p:PH)(u1:PU)(w:World)(hx:Hz ψ w x p)(hgv:gv p.uri=some u1)(hw:u1.wild=false)(hsm:u1.small)(hz:IaZ p.uri)(hkl:KSm 1099511627775 p.ps)(ht:0≤p.t∧p.t≤14)(hL:BW w):
 Calls Tryz.prog 45 #[x.val] w fun e w'=>∃r,e= .returned r∧((p.t=1∨p.t=2∨p.t=3∨p.t=9∨p.t=11∨p.t=12∨p.t=13∨p.t=14)→Dv p u1 w' r)∧(¬(p.t=1∨p.t=2∨p.t=3∨p.t=9∨p.t=11∨p.t=12∨p.t=13∨p.t=14)→r= .nilIface)∧Le w w':=by
 obtain⟨xt,xn,xx,xd,xu,xp,xm,x1,x2,x3,x4,xo⟩:=x;obtain rfl:xt=p.t:=hx.t;obtain rfl:xo=p.port:=hx.port;obtain⟨Ad,cd,rfl⟩:=(show Bv w xd p.disp from hx.disp).form;obtain⟨Aq,cq,rfl⟩:∃A c,xp= .slice A p.ps.length c:=by obtain⟨A,c,e,_⟩:=hx.ps;exact⟨A,c,e⟩
 obtain⟨A1,c1,rfl⟩:=(show Bv w x1 p.proto from hx.proto).form;obtain⟨A2,c2,rfl⟩:=(show Bv w x2 p.ver from hx.ver).form;obtain⟨A3,c3,rfl⟩:=(show Bv w x3 p.tr from hx.tr).form;obtain⟨A4,c4,rfl⟩:=(show Bv w x4 p.host from hx.host).form;have HX:=Hi hx;have HGV:=Hi hgv;have HVW:=Hi hw;have HSM:=Hi hsm;have HAZ:=Hi hz;have HKL:=Hi hkl;have HT:=Hi ht
 have HLL:=Hi hL;clear hx hgv hw hsm hz hkl ht hL;obtain⟨XV,hXV⟩:∃X:HV,X=⟨p.t,xn,xx,.slice Ad p.disp.length cd,xu,.slice Aq p.ps.length cq,xm,.slice A1 p.proto.length c1,.slice A2 p.ver.length c2,.slice A3 p.tr.length c3,.slice A4 p.host.length c4,p.port⟩:=⟨_,rfl⟩;rw[←hXV]at HX⊢;have HXV:=Hi hXV;clear hXV;change Calls _ _ #[.agg XV.row] _ _;go_enter Tryz.func45,Tryz.ntmps45
 go_upto_region 1 with fail
 change Code.wp _ _ _ _ (w.alloc (Obj.cells XV.row 28));have HB:=Hi (heap_alloc_new w (Obj.cells XV.row 28));have HLB:Hid (Le w (w.alloc (Obj.cells XV.row 28))):=Hi ((AC w).alloc _);generalize w.alloc (Obj.cells XV.row 28)=W0 at HB HLB⊢;obtain⟨b,hb⟩:∃b,b=w.heap.size:=⟨_,rfl⟩;rw[←hb]at HB⊢;have HBW:Hid (w.heap.size=b):=Hi hb.symm;clear hb
 have HX0:Hid (Hz ψ W0 ⟨p.t,xn,xx,.slice Ad p.disp.length cd,xu,.slice Aq p.ps.length cq,xm,.slice A1 p.proto.length c1,.slice A2 p.ver.length c2,.slice A3 p.tr.length c3,.slice A4 p.host.length c4,p.port⟩ p):=Hi (by rw[←HXV.out];exact HX.out.le HLB.out);have HL0:=Hi (HLL.out.le HLB.out)
 have HC3:Hid (W0.cell? ⟨b,3,none⟩=some (.slice Ad p.disp.length cd)):=Hi (by rw[AB HB.out 3,HXV.out];rfl);have HC14:Hid (W0.cell? ⟨b,14,none⟩=some (.slice Aq p.ps.length cq)):=Hi (by rw[AB HB.out 14,HXV.out];rfl);have HBD:Hid (Bv W0 (.slice Ad p.disp.length cd) p.disp):=Hi HX0.out.disp;have HB1:Hid (Bv W0 (.slice A1 p.proto.length c1) p.proto):=Hi HX0.out.proto
 have HB2:Hid (Bv W0 (.slice A2 p.ver.length c2) p.ver):=Hi HX0.out.ver;have HB3:Hid (Bv W0 (.slice A3 p.tr.length c3) p.tr):=Hi HX0.out.tr;have HB4:Hid (Bv W0 (.slice A4 p.host.length c4) p.host):=Hi HX0.out.host
 have HUP:Hid (∀k v,xu.row[k]? =some v→XV.row[4+k]? =some v):=Hi (by rw[HXV.out];exact CF ⟨p.t,xn,xx,.slice Ad p.disp.length cd,xu,.slice Aq p.ps.length cq,xm,.slice A1 p.proto.length c1,.slice A2 p.ver.length c2,.slice A3 p.tr.length c3,.slice A4 p.host.length c4,p.port⟩);have hm_mz:(Tryz.prog).follows .mixedOrders=true:=by kernel_rfl
 refine G3.wp_region_grow_tail (mzS W0 b p.disp u1 p.ps xu Ad p.disp.length cd Aq p.ps.length cq) ((Le W0)) 87 10 [6,7,8,9,10,11,12,13,14,4] hm_mz (by kernel_rfl) rfl rfl ?hG_mz ?hold_mz ?hs_mz ?hend_mz;case hG_mz=>exact(AC W0).drew
 case hold_mz=>
  intro t ht;simp only[List.mem_cons,List.mem_nil_iff,or_false,not_or]at ht;unfold mzS;split<;>first|exact True.intro|(exfalso;simp at ht;done)|rfl
 case hs_mz=>
  simp only[List.take_succ_cons,List.take_zero];refine⟨?_,?_,?_,?_,?_,?_,?_,?_,?_,?_,trivial⟩
  ·refine AA fun a W hg hop=>?_;have h1:_=_:=hq hop 1;have h1':=tg h1;refine⟨_,?_,rfl⟩;simp only[execOp,h1];go_simp
  ·refine AA fun a W hg hop=>?_;have h6:_=_:=hq hop 6;have h6':=tg h6;have hc:W.cell? ⟨b,3,none⟩=some (.slice Ad p.disp.length cd):=hg.cell HC3.out;refine⟨_,?_,rfl⟩;simp only[execOp,h6];go_simp
  ·refine AA fun a W hg hop=>?_;have h7:_=_:=hq hop 7;have h7':=tg h7;refine⟨_,?_,rfl⟩;have hc:=BT (P:=Tryz.prog) Tryz.underlying22 Tryz.underlying5 Tryz.underlying9 (HBD.out.le hg);simp only[execOp,h7];go_simp
  ·refine AA fun a W hg hop=>?_;have h1:_=_:=hq hop 1;have h1':=tg h1;refine⟨_,?_,rfl⟩;simp only[execOp,h1];go_simp
  ·refine AA fun a W hg hop=>?_;have h9:_=_:=hq hop 9;have h9':=tg h9;refine⟨_,?_,rfl⟩;have hs:=DL (P:=Tryz.prog) W b 4 28 25 XV.row xu.row (0,0) _ (hg.heap HB.out) HUP.out Tryz.underlying25 rfl Gg;simp only[execOp,h9,hs,Sem.run_bind,Sem.run_pure,Result.andThen,Sem.run_map];try rfl
  ·refine AG ?_ ?_ ?_ ?_
   ·exact fun t v w1 w2 kl h=>LM W0 b p.disp u1 p.ps xu Ad p.disp.length cd Aq p.ps.length cq t v w1 w2 kl h
   ·exact fun _ _ _ _ h=>h
   ·exact fun w1 w2 k h=>Le.trans h k
   ·intro a W hg hop;have h10:_=_:=hq hop 10;have h10':=tg h10;refine⟨42,#[xu.val],?_,(MU W xu p.uri u1 (HX0.out.uri.toUq.le hg) HGV.out HAZ.out (HL0.out.le hg)).mono ?_⟩
    ·simp only[execOp,h10];go_simp
    ·rintro e w' ⟨pv,hv,rfl,h1,h2,hle⟩;exact⟨_,rfl,hle,pv,hv,rfl,h1,h2⟩
  ·refine AA fun a W hg hop=>?_;have h1:_=_:=hq hop 1;have h1':=tg h1;refine⟨_,?_,rfl⟩;simp only[execOp,h1];go_simp
  ·refine AA fun a W hg hop=>?_;have h12:_=_:=hq hop 12;have h12':=tg h12;have hc:W.cell? ⟨b,14,none⟩=some (.slice Aq p.ps.length cq):=hg.cell HC14.out;refine⟨_,?_,rfl⟩;simp only[execOp,h12];go_simp
  ·refine AG ?_ ?_ ?_ ?_
   ·exact fun t v w1 w2 kl h=>LM W0 b p.disp u1 p.ps xu Ad p.disp.length cd Aq p.ps.length cq t v w1 w2 kl h
   ·exact fun _ _ _ _ h=>h
   ·exact fun w1 w2 k h=>Le.trans h k
   ·intro a W hg hop;have h13:_=_:=hq hop 13;have h13':=tg h13;refine⟨68,#[.slice Aq p.ps.length cq],?_,(NK (fun _=>True) W (.slice Aq p.ps.length cq) p.ps (HX0.out.ps.le hg) HKL.out.2 HKL.out.1).mono ?_⟩
    ·simp only[execOp,h13];go_simp
    ·rintro e w' ⟨v',rfl,hk,_,hle⟩;exact⟨_,rfl,hle,hk⟩
  ·refine GrowStep.le ?_ ?_ ?_ ?_
   ·exact fun t v w1 w2 k h=>LM W0 b p.disp u1 p.ps xu Ad p.disp.length cd Aq p.ps.length cq t v w1 w2 k h
   ·exact fun _ _ _ _ h=>h
   ·exact fun w1 w2 k h=>Le.trans h k
   ·intro a W hg hop;refine⟨.pointer (some ⟨W.heap.size,0,none⟩),W.alloc (Obj.cells Jo 84),?_,(AC W).alloc _,W.heap.size,rfl,hg.size,heap_alloc_new W _⟩;simp only[execOp];go_simp;try rfl
 case hend_mz=>
  intro s_ wz hg hS;obtain⟨g,e4,hgb,hgh⟩:∃g,s_ 4= .pointer (some ⟨g,0,none⟩)∧W0.heap.size≤g∧wz.heap[g]? =some (.cells Jo 84 (0,0)):=hS 4 (by decide);obtain⟨pv,hv,e11,hp1,hp2⟩:∃pv hv,s_ 11= .agg (u1.cells pv hv)∧Hp wz pv u1.ps∧Hp wz hv u1.hs:=hS 11 (by decide);have hp3:Hp wz (s_ 14) p.ps:=hS 14 (by decide);have e8:s_ 8= .string (st p.disp):=hS 8 (by decide);obtain⟨lv,elv⟩:∃lv,lv=s_ 14:=⟨_,rfl⟩
  rw[←elv]at hp3;have HLZ:=Hi (show Le W0 wz from hg);have HGB:=Hi hgb;have HGH:=Hi hgh;have HP1:=Hi hp1;have HP2:=Hi hp2;have HP3:=Hi hp3;clear hS hg hgb hgh;simp only[Aj,Act.put,List.setIfInBounds_toArray,List.set_cons_zero,List.set_cons_succ,List.drop_succ_cons,List.drop_zero];rw[e4,e8,e11,←elv];clear e4 e8 e11 elv
  obtain⟨Ap,np,cp,rfl⟩:∃A n c,pv= .slice A n c:=by obtain⟨A,c,e,_⟩:=hp1;exact⟨A,_,c,e⟩
  obtain⟨Ah,nh,ch,rfl⟩:∃A n c,hv= .slice A n c:=by obtain⟨A,c,e,_⟩:=hp2;exact⟨A,_,c,e⟩
  obtain⟨Al,nl,cl,rfl⟩:∃A n c,lv= .slice A n c:=by obtain⟨A,c,e,_⟩:=hp3;exact⟨A,_,c,e⟩
  clear hp1 hp2 hp3;go_upto_region 2 with(refine AD rfl 84 (.tmp 4) (.tmp 11) rfl g #[.string (st u1.scheme),.string (st u1.raw),.bool u1.wild,.bool u1.slash,.string (st u1.user),.string (st u1.pass),.string (st u1.host),.int .i64 u1.port,.slice Ap np cp,.slice Ah nh ch] rfl rfl 84 Jo HGH.out BZ rfl (Hs (u:=u1) HP1.out HP2.out) ?_)
  intro W5 hz5 hk5;have HRU:=Hi hz5;have HLX:Hid (Le W0 W5):=Hi (Below.trans HLZ.out (hk5.below HGB.out HLZ.out.size));have HPX:=Hi (And.intro (HP1.out.kp hk5 HGH.out (by decide)) (And.intro (HP2.out.kp hk5 HGH.out (by decide)) (HP3.out.kp hk5 HGH.out (by decide))))
  have HRB:Hid (W5.heap[b]? =some (.cells (HV.row ⟨p.t,xn,xx,.slice Ad p.disp.length cd,xu,.slice Aq p.ps.length cq,xm,.slice A1 p.proto.length c1,.slice A2 p.ver.length c2,.slice A3 p.tr.length c3,.slice A4 p.host.length c4,p.port⟩) 28 (0,0))):=Hi (by rw[←HXV.out];exact HLX.out.heap HB.out);clear hz5 hk5 HP1 HP2 HP3;have HP1:=Hi HPX.out.1;have HP2:=Hi HPX.out.2.1
  have HP3:=Hi HPX.out.2.2;have htt:p.t=0∨p.t=1∨p.t=2∨p.t=3∨p.t=4∨p.t=5∨p.t=6∨p.t=7∨p.t=8∨p.t=9∨p.t=10∨p.t=11∨p.t=12∨p.t=13∨p.t=14:=by have:=HT.out;omega
  rcases htt with htt|htt
  ·have HTP:Hid (p.t=0):=Hi htt;have g0:W5.cell? ⟨b,0,none⟩=some (.int .i64 0):=by rw[AB HRB.out 0,←htt];rfl
   clear htt;go_wp2;go_ret;exact⟨_,rfl,fun h=>absurd h (by rw[HTP.out];decide),fun _=>rfl,(HLB.out.trans HLX.out)⟩
  rcases htt with htt|htt
  ·have HTP:Hid (p.t=1):=Hi htt;have HTM:Hid (p.t=1∨p.t=2∨p.t=3∨p.t=9∨p.t=11∨p.t=12∨p.t=13∨p.t=14):=Hi (by rw[htt];decide);have g0:W5.cell? ⟨b,0,none⟩=some (.int .i64 1):=by rw[AB HRB.out 0,←htt];rfl
   clear htt
   go_wp2_with (first|refine wpList_load_row rfl 84 (.tmp 4) rfl g rfl 84 #[.string (st u1.scheme),.string (st u1.raw),.bool u1.wild,.bool u1.slash,.string (st u1.user),.string (st u1.pass),.string (st u1.host),.int .i64 u1.port,.slice Ap np cp,.slice Ah nh ch] (0,0) _ HRU.out Tryz.underlying84 rfl BZ ?_ |refine wpList_buildTo rfl 133 #[(0,.tmp 19),(1,.tmp 20),(2,.tmp 21)] rfl (some 22) rfl #[.string (st p.disp),.string (st u1.scheme),.string (st u1.raw),.bool u1.wild,.bool u1.slash,.string (st u1.user),.string (st u1.pass),.string (st u1.host),.int .i64 u1.port,.slice Ap np cp,.slice Ah nh ch,.slice Al nl cl] (by kernel_rfl) ?_)
   go_ret
   refine⟨_,rfl,fun _=>Dv.hto _ HTP.out ⟨AB (heap_alloc_new W5 _) 0,⟨_,_,fun k z hk=>by rw[AB (heap_alloc_new W5 _) (1+k)];exact FO _ _ hk,HP1.out.le ((AC W5).alloc _),HP2.out.le ((AC W5).alloc _),HSM.out⟩,by rw[AB (heap_alloc_new W5 _) 3,←HVW.out];rfl,_,AB (heap_alloc_new W5 _) 11,HP3.out.le ((AC W5).alloc _)⟩,fun h=>absurd (HTM.out) h,(HLB.out.trans HLX.out).alloc _⟩
  rcases htt with htt|htt
  ·have HTP:Hid (p.t=2):=Hi htt;have HTM:Hid (p.t=1∨p.t=2∨p.t=3∨p.t=9∨p.t=11∨p.t=12∨p.t=13∨p.t=14):=Hi (by rw[htt];decide);have g0:W5.cell? ⟨b,0,none⟩=some (.int .i64 2):=by rw[AB HRB.out 0,←htt];rfl
   clear htt
   go_wp2_with (first|refine wpList_load_row rfl 84 (.tmp 4) rfl g rfl 84 #[.string (st u1.scheme),.string (st u1.raw),.bool u1.wild,.bool u1.slash,.string (st u1.user),.string (st u1.pass),.string (st u1.host),.int .i64 u1.port,.slice Ap np cp,.slice Ah nh ch] (0,0) _ HRU.out Tryz.underlying84 rfl BZ ?_ |refine wpList_buildTo rfl 135 #[(0,.tmp 27),(1,.tmp 28),(2,.tmp 29)] rfl (some 30) rfl #[.string (st p.disp),.string (st u1.scheme),.string (st u1.raw),.bool u1.wild,.bool u1.slash,.string (st u1.user),.string (st u1.pass),.string (st u1.host),.int .i64 u1.port,.slice Ap np cp,.slice Ah nh ch,.slice Al nl cl] (by kernel_rfl) ?_)
   go_ret
   refine⟨_,rfl,fun _=>Dv.hfr _ HTP.out ⟨AB (heap_alloc_new W5 _) 0,⟨_,_,fun k z hk=>by rw[AB (heap_alloc_new W5 _) (1+k)];exact FO _ _ hk,HP1.out.le ((AC W5).alloc _),HP2.out.le ((AC W5).alloc _),HSM.out⟩,by rw[AB (heap_alloc_new W5 _) 3,←HVW.out];rfl,_,AB (heap_alloc_new W5 _) 11,HP3.out.le ((AC W5).alloc _)⟩,fun h=>absurd (HTM.out) h,(HLB.out.trans HLX.out).alloc _⟩
  rcases htt with htt|htt
  ·have HTP:Hid (p.t=3):=Hi htt;have HTM:Hid (p.t=1∨p.t=2∨p.t=3∨p.t=9∨p.t=11∨p.t=12∨p.t=13∨p.t=14):=Hi (by rw[htt];decide);have g0:W5.cell? ⟨b,0,none⟩=some (.int .i64 3):=by rw[AB HRB.out 0,←htt];rfl
   clear htt
   go_wp2_with (first|refine wpList_load_row rfl 84 (.tmp 4) rfl g rfl 84 #[.string (st u1.scheme),.string (st u1.raw),.bool u1.wild,.bool u1.slash,.string (st u1.user),.string (st u1.pass),.string (st u1.host),.int .i64 u1.port,.slice Ap np cp,.slice Ah nh ch] (0,0) _ HRU.out Tryz.underlying84 rfl BZ ?_ |refine wpList_buildTo rfl 137 #[(0,.tmp 35),(1,.tmp 36),(2,.tmp 37)] rfl (some 38) rfl #[.string (st p.disp),.string (st u1.scheme),.string (st u1.raw),.bool u1.wild,.bool u1.slash,.string (st u1.user),.string (st u1.pass),.string (st u1.host),.int .i64 u1.port,.slice Ap np cp,.slice Ah nh ch,.slice Al nl cl] (by kernel_rfl) ?_)
   go_ret
   refine⟨_,rfl,fun _=>Dv.hco _ HTP.out ⟨AB (heap_alloc_new W5 _) 0,⟨_,_,fun k z hk=>by rw[AB (heap_alloc_new W5 _) (1+k)];exact FO _ _ hk,HP1.out.le ((AC W5).alloc _),HP2.out.le ((AC W5).alloc _),HSM.out⟩,by rw[AB (heap_alloc_new W5 _) 3,←HVW.out];rfl,_,AB (heap_alloc_new W5 _) 11,HP3.out.le ((AC W5).alloc _)⟩,fun h=>absurd (HTM.out) h,(HLB.out.trans HLX.out).alloc _⟩
  rcases htt with htt|htt
  ·have HTP:Hid (p.t=4):=Hi htt;have g0:W5.cell? ⟨b,0,none⟩=some (.int .i64 4):=by rw[AB HRB.out 0,←htt];rfl
   clear htt;go_wp2;go_ret;exact⟨_,rfl,fun h=>absurd h (by rw[HTP.out];decide),fun _=>rfl,(HLB.out.trans HLX.out)⟩
  rcases htt with htt|htt
  ·have HTP:Hid (p.t=5):=Hi htt;have g0:W5.cell? ⟨b,0,none⟩=some (.int .i64 5):=by rw[AB HRB.out 0,←htt];rfl
   clear htt;go_wp2;go_ret;exact⟨_,rfl,fun h=>absurd h (by rw[HTP.out];decide),fun _=>rfl,(HLB.out.trans HLX.out)⟩
  rcases htt with htt|htt
  ·have HTP:Hid (p.t=6):=Hi htt;have g0:W5.cell? ⟨b,0,none⟩=some (.int .i64 6):=by rw[AB HRB.out 0,←htt];rfl
   clear htt;go_wp2;go_ret;exact⟨_,rfl,fun h=>absurd h (by rw[HTP.out];decide),fun _=>rfl,(HLB.out.trans HLX.out)⟩
  rcases htt with htt|htt
  ·have HTP:Hid (p.t=7):=Hi htt;have g0:W5.cell? ⟨b,0,none⟩=some (.int .i64 7):=by rw[AB HRB.out 0,←htt];rfl
   clear htt;go_wp2;go_ret;exact⟨_,rfl,fun h=>absurd h (by rw[HTP.out];decide),fun _=>rfl,(HLB.out.trans HLX.out)⟩
  rcases htt with htt|htt
  ·have HTP:Hid (p.t=8):=Hi htt;have g0:W5.cell? ⟨b,0,none⟩=some (.int .i64 8):=by rw[AB HRB.out 0,←htt];rfl
   clear htt;go_wp2;go_ret;exact⟨_,rfl,fun h=>absurd h (by rw[HTP.out];decide),fun _=>rfl,(HLB.out.trans HLX.out)⟩
  rcases htt with htt|htt
  ·have HTP:Hid (p.t=9):=Hi htt;have HTM:Hid (p.t=1∨p.t=2∨p.t=3∨p.t=9∨p.t=11∨p.t=12∨p.t=13∨p.t=14):=Hi (by rw[htt];decide);have g0:W5.cell? ⟨b,0,none⟩=some (.int .i64 9):=by rw[AB HRB.out 0,←htt];rfl
   clear htt;have g16:W5.cell? ⟨b,16,none⟩=some (.slice A1 p.proto.length c1):=AB HRB.out 16;have hc16:=BT (P:=Tryz.prog) Tryz.underlying22 Tryz.underlying5 Tryz.underlying9 (HB1.out.le HLX.out);have g17:W5.cell? ⟨b,17,none⟩=some (.slice A2 p.ver.length c2):=AB HRB.out 17;have hc17:=BT (P:=Tryz.prog) Tryz.underlying22 Tryz.underlying5 Tryz.underlying9 (HB2.out.le HLX.out)
   have g18:W5.cell? ⟨b,18,none⟩=some (.slice A3 p.tr.length c3):=AB HRB.out 18;have hc18:=BT (P:=Tryz.prog) Tryz.underlying22 Tryz.underlying5 Tryz.underlying9 (HB3.out.le HLX.out);have g19:W5.cell? ⟨b,19,none⟩=some (.slice A4 p.host.length c4):=AB HRB.out 19;have hc19:=BT (P:=Tryz.prog) Tryz.underlying22 Tryz.underlying5 Tryz.underlying9 (HB4.out.le HLX.out)
   have g20:W5.cell? ⟨b,20,none⟩=some (.int .i64 p.port):=AB HRB.out 20;go_wp2_with (first|refine wpList_buildTo rfl 140 #[(0,.tmp 45),(1,.tmp 48),(2,.tmp 51),(3,.tmp 54),(4,.tmp 56),(5,.tmp 57)] rfl (some 58) rfl #[.string (st p.proto),.string (st p.ver),.string (st p.tr),.string (st p.host),.int .i64 p.port,.slice Al nl cl] (by kernel_rfl) ?_)
   go_ret;refine⟨_,rfl,fun _=>Dv.hvi _ HTP.out ⟨AB (heap_alloc_new W5 _) 0,AB (heap_alloc_new W5 _) 1,AB (heap_alloc_new W5 _) 2,AB (heap_alloc_new W5 _) 3,AB (heap_alloc_new W5 _) 4,_,AB (heap_alloc_new W5 _) 5,HP3.out.le ((AC W5).alloc _)⟩,fun h=>absurd (HTM.out) h,(HLB.out.trans HLX.out).alloc _⟩
  rcases htt with htt|htt
  ·have HTP:Hid (p.t=10):=Hi htt;have g0:W5.cell? ⟨b,0,none⟩=some (.int .i64 10):=by rw[AB HRB.out 0,←htt];rfl
   clear htt;go_wp2;go_ret;exact⟨_,rfl,fun h=>absurd h (by rw[HTP.out];decide),fun _=>rfl,(HLB.out.trans HLX.out)⟩
  rcases htt with htt|htt
  ·have HTP:Hid (p.t=11):=Hi htt;have HTM:Hid (p.t=1∨p.t=2∨p.t=3∨p.t=9∨p.t=11∨p.t=12∨p.t=13∨p.t=14):=Hi (by rw[htt];decide);have g0:W5.cell? ⟨b,0,none⟩=some (.int .i64 11):=by rw[AB HRB.out 0,←htt];rfl
   clear htt
   go_wp2_with (first|refine wpList_load_row rfl 84 (.tmp 4) rfl g rfl 84 #[.string (st u1.scheme),.string (st u1.raw),.bool u1.wild,.bool u1.slash,.string (st u1.user),.string (st u1.pass),.string (st u1.host),.int .i64 u1.port,.slice Ap np cp,.slice Ah nh ch] (0,0) _ HRU.out Tryz.underlying84 rfl BZ ?_ |refine wpList_buildTo rfl 143 #[(0,.tmp 63)] rfl (some 64) rfl #[.string (st u1.scheme),.string (st u1.raw),.bool u1.wild,.bool u1.slash,.string (st u1.user),.string (st u1.pass),.string (st u1.host),.int .i64 u1.port,.slice Ap np cp,.slice Ah nh ch] (by kernel_rfl) ?_)
   go_ret;refine⟨_,rfl,fun _=>Dv.hro _ HTP.out ⟨_,_,fun k z hk=>by rw[AB (heap_alloc_new W5 _) (0+k),Nat.zero_add];exact hk,HP1.out.le ((AC W5).alloc _),HP2.out.le ((AC W5).alloc _),HSM.out⟩,fun h=>absurd (HTM.out) h,(HLB.out.trans HLX.out).alloc _⟩
  rcases htt with htt|htt
  ·have HTP:Hid (p.t=12):=Hi htt;have HTM:Hid (p.t=1∨p.t=2∨p.t=3∨p.t=9∨p.t=11∨p.t=12∨p.t=13∨p.t=14):=Hi (by rw[htt];decide);have g0:W5.cell? ⟨b,0,none⟩=some (.int .i64 12):=by rw[AB HRB.out 0,←htt];rfl
   clear htt
   go_wp2_with (first|refine wpList_load_row rfl 84 (.tmp 4) rfl g rfl 84 #[.string (st u1.scheme),.string (st u1.raw),.bool u1.wild,.bool u1.slash,.string (st u1.user),.string (st u1.pass),.string (st u1.host),.int .i64 u1.port,.slice Ap np cp,.slice Ah nh ch] (0,0) _ HRU.out Tryz.underlying84 rfl BZ ?_ |refine wpList_buildTo rfl 145 #[(0,.tmp 69)] rfl (some 70) rfl #[.string (st u1.scheme),.string (st u1.raw),.bool u1.wild,.bool u1.slash,.string (st u1.user),.string (st u1.pass),.string (st u1.host),.int .i64 u1.port,.slice Ap np cp,.slice Ah nh ch] (by kernel_rfl) ?_)
   go_ret;refine⟨_,rfl,fun _=>Dv.hrr _ HTP.out ⟨_,_,fun k z hk=>by rw[AB (heap_alloc_new W5 _) (0+k),Nat.zero_add];exact hk,HP1.out.le ((AC W5).alloc _),HP2.out.le ((AC W5).alloc _),HSM.out⟩,fun h=>absurd (HTM.out) h,(HLB.out.trans HLX.out).alloc _⟩
  rcases htt with htt|htt
  ·have HTP:Hid (p.t=13):=Hi htt;have HTM:Hid (p.t=1∨p.t=2∨p.t=3∨p.t=9∨p.t=11∨p.t=12∨p.t=13∨p.t=14):=Hi (by rw[htt];decide);have g0:W5.cell? ⟨b,0,none⟩=some (.int .i64 13):=by rw[AB HRB.out 0,←htt];rfl
   clear htt
   go_wp2_with (first|refine wpList_load_row rfl 84 (.tmp 4) rfl g rfl 84 #[.string (st u1.scheme),.string (st u1.raw),.bool u1.wild,.bool u1.slash,.string (st u1.user),.string (st u1.pass),.string (st u1.host),.int .i64 u1.port,.slice Ap np cp,.slice Ah nh ch] (0,0) _ HRU.out Tryz.underlying84 rfl BZ ?_ |refine wpList_buildTo rfl 147 #[(0,.tmp 75)] rfl (some 76) rfl #[.string (st u1.scheme),.string (st u1.raw),.bool u1.wild,.bool u1.slash,.string (st u1.user),.string (st u1.pass),.string (st u1.host),.int .i64 u1.port,.slice Ap np cp,.slice Ah nh ch] (by kernel_rfl) ?_)
   go_ret;refine⟨_,rfl,fun _=>Dv.hrf _ HTP.out ⟨_,_,fun k z hk=>by rw[AB (heap_alloc_new W5 _) (0+k),Nat.zero_add];exact hk,HP1.out.le ((AC W5).alloc _),HP2.out.le ((AC W5).alloc _),HSM.out⟩,fun h=>absurd (HTM.out) h,(HLB.out.trans HLX.out).alloc _⟩
  ·have HTP:Hid (p.t=14):=Hi htt;have HTM:Hid (p.t=1∨p.t=2∨p.t=3∨p.t=9∨p.t=11∨p.t=12∨p.t=13∨p.t=14):=Hi (by rw[htt];decide);have g0:W5.cell? ⟨b,0,none⟩=some (.int .i64 14):=by rw[AB HRB.out 0,←htt];rfl
   clear htt
   go_wp2_with (first|refine wpList_load_row rfl 84 (.tmp 4) rfl g rfl 84 #[.string (st u1.scheme),.string (st u1.raw),.bool u1.wild,.bool u1.slash,.string (st u1.user),.string (st u1.pass),.string (st u1.host),.int .i64 u1.port,.slice Ap np cp,.slice Ah nh ch] (0,0) _ HRU.out Tryz.underlying84 rfl BZ ?_ |refine wpList_buildTo rfl 149 #[(0,.tmp 81),(1,.tmp 82),(2,.tmp 83)] rfl (some 84) rfl #[.string (st p.disp),.string (st u1.scheme),.string (st u1.raw),.bool u1.wild,.bool u1.slash,.string (st u1.user),.string (st u1.pass),.string (st u1.host),.int .i64 u1.port,.slice Ap np cp,.slice Ah nh ch,.slice Al nl cl] (by kernel_rfl) ?_)
   go_ret
   refine⟨_,rfl,fun _=>Dv.hrb _ HTP.out ⟨AB (heap_alloc_new W5 _) 0,⟨_,_,fun k z hk=>by rw[AB (heap_alloc_new W5 _) (1+k)];exact FO _ _ hk,HP1.out.le ((AC W5).alloc _),HP2.out.le ((AC W5).alloc _),HSM.out⟩,by rw[AB (heap_alloc_new W5 _) 3,←HVW.out];rfl,_,AB (heap_alloc_new W5 _) 11,HP3.out.le ((AC W5).alloc _)⟩,fun h=>absurd (HTM.out) h,(HLB.out.trans HLX.out).alloc _⟩
theorem Lw(w:World)(v:Value):Calls Tryz.prog 210 #[v] w fun e w'=>e= .returned (.string ⟨#[77,97,120,45,70,111,114,119,97,114,100,115]⟩)∧w'=w:=by
 go_enter Tryz.func210,Tryz.ntmps210;go_wp2;go_ret;exact⟨rfl,rfl⟩
theorem GO(w0:World)(b n:Nat)(hb:w0.cell? ⟨b,0,none⟩=some (.int .u32 n))(hL:BW w0)(hz:n<4294967296):Calls Tryz.prog 213 #[.pointer (some ⟨b,0,none⟩)] w0 fun e w'=>e= .returned (.string (st (Lib.itoa n)))∧Le w0 w':=by
 have HL:=Hi hL;go_enter Tryz.func213,Tryz.ntmps213;have hwr:=IntWalk.i64_in (n:Int) (by omega);go_wp2_with fail
 refine(Fl n _ (by omega) (by omega) HL.out).mono ?_;rintro e w' ⟨rfl,hle⟩;have HLE:=Hi hle;clear hle;go_wp2;go_ret;exact⟨rfl,HLE.out⟩
def Lv(b bb n:Nat):Nat→Value→World→Prop
 |0,v,_=>v=(.pointer (some ⟨b,0,none⟩))
 |1,v,_=>v=(Value.iface 127 (.pointer (some ⟨bb,0,none⟩)))
 |13,v,_=>v=(Value.iface 127 (.pointer (some ⟨bb,0,none⟩)))
 |14,v,_=>v=(.pointer (some ⟨b,0,none⟩))
 |15,v,_=>v=(Value.string (st (Lib.itoa n)))
 |16,v,_=>v=(Value.func (Fn.method "WriteString") #[(Value.iface 127 (.pointer (some ⟨bb,0,none⟩)))] #[])
 |17,v,_=>v=(Value.func (Fn.method "WriteString") #[(Value.iface 127 (.pointer (some ⟨bb,0,none⟩)))] #[])
 |18,v,_=>v=(Value.iface 127 (.pointer (some ⟨bb,0,none⟩)))
 |_,_,_=>True
theorem NS(b bb n:Nat)(t:Nat)(v:Value)(w1 w2:World)(k:Le w1 w2)(h:Lv b bb n t v w1):Lv b bb n t v w2:=by
 unfold Lv at h⊢;split at h<;>first|exact h
theorem Pi(w0 w:World)(b bb n:Nat)(hb:w0.cell? ⟨b,0,none⟩=some (.int .u32 n))(hw:UW w0 bb [] w)(hL:BW w0)(hz:n<4294967296):
 Calls Tryz.prog 212 #[.pointer (some ⟨b,0,none⟩),.iface 127 (.pointer (some ⟨bb,0,none⟩))] w fun e w'=>e= .returned (.tuple #[])∧UW w0 bb ([77,97,120,45,70,111,114,119,97,114,100,115,58,32]++Lib.itoa n) w':=by
 have HIT:=Hi (Lib.itoa_length_le n (by omega) (by omega));have HB:=Hi hb;have HW0:=Hi hw;have HL:=Hi hL;have HZZ:=Hi hz;have hna:∀(n:Nat) (w:World),(nilAhead (n+1) 127 (.pointer (some ⟨bb,0,none⟩)) "WriteString").run Tryz.prog w= .ok (some false) w:=fun n w=>by kernel_rfl
 clear hb hw hL hz;go_enter Tryz.func212,Tryz.ntmps212;go_wp2;go_still_tail 6,(by kernel_rfl)
 still_call (Lw _ _)
 repeat still_step
 refine wpStill_nil ?_;change wpList _ _ _ _ _ (World.drew _);have HW1:=Hi (HW0.out.grow (AC _).drew);generalize World.drew _=wd1 at HW1⊢;go_wp2_with fail
 refine(HW1.out.ws ⟨#[77,97,120,45,70,111,114,119,97,114,100,115]⟩ (by decide)).mono ?_;rintro e w2 ⟨rfl,hw2⟩;have HW2:Hid (UW w0 bb [77,97,120,45,70,111,114,119,97,114,100,115] w2):=Hi hw2;clear hw2;go_wp2_with fail
 refine(HW2.out.ws ⟨#[58,32]⟩ (by decide)).mono ?_;rintro e w3 ⟨rfl,hw3⟩;have HW3:Hid (UW w0 bb [77,97,120,45,70,111,114,119,97,114,100,115,58,32] w3):=Hi hw3;clear hw3;go_wp2;have hm_hmfw:(Tryz.prog).follows .mixedOrders=true:=by kernel_rfl
 refine G3.wp_region_grow_tail (Lv b bb n) (UW w0 bb ([77,97,120,45,70,111,114,119,97,114,100,115,58,32])) 20 6 [13,14,15,16,17,18] hm_hmfw (by kernel_rfl) rfl rfl ?hG_hmfw ?hold_hmfw ?hs_hmfw ?hend_hmfw;case hG_hmfw=>exact HW3.out.grow (AC _).drew
 case hold_hmfw=>
  intro t ht;simp only[List.mem_cons,List.mem_nil_iff,or_false,not_or]at ht;unfold Lv;split<;>first|rfl|trivial|(exfalso;simp at ht)
 case hs_hmfw=>
  simp only[List.take_succ_cons,List.take_zero];refine⟨?_,?_,?_,?_,?_,?_,trivial⟩
  ·refine AA fun a W hg hop=>?_;have h1:_=_:=hq hop 1;have h1':=tg h1;refine⟨_,?_,rfl⟩;simp only[execOp,h1];go_simp
  ·refine AA fun a W hg hop=>?_;have h0:_=_:=hq hop 0;have h0':=tg h0;refine⟨_,?_,rfl⟩;simp only[execOp,h0];go_simp
  ·refine AG ?_ ?_ ?_ ?_
   ·exact fun t v w1 w2 k h=>NS b bb n t v w1 w2 k h
   ·exact fun _ _ _ _ h=>h
   ·exact fun w1 w2 k h=>h.grow k
   ·intro a W hg hop;have h14:_=_:=hq hop 14;have h14':=tg h14;refine⟨213,#[.pointer (some ⟨b,0,none⟩)],?_,(GO W b n (hg.le.cell HB.out) (HL.out.le hg.le) HZZ.out).mono ?_⟩
    ·simp only[execOp,h14];go_simp
    ·rintro e w' ⟨rfl,hle⟩;exact⟨_,rfl,hle,rfl⟩
  ·refine AA fun a W hg hop=>?_;have h13:_=_:=hq hop 13;have h13':=tg h13;refine⟨_,?_,rfl⟩;simp only[execOp];go_simp
  ·refine AA fun a W hg hop=>?_;have h16:_=_:=hq hop 16;have h16':=tg h16;refine⟨_,?_,rfl⟩;simp only[execOp,h16];go_simp
  ·refine AA fun a W hg hop=>?_;have h13:_=_:=hq hop 13;have h13':=tg h13;refine⟨_,?_,rfl⟩;simp only[execOp,h13];go_simp
 case hend_hmfw=>
  intro s_ wz hg hS;have HW4:=Hi (show UW w0 bb ([77,97,120,45,70,111,114,119,97,114,100,115,58,32]) wz from hg);have s13:s_ 13=(Value.iface 127 (.pointer (some ⟨bb,0,none⟩))):=hS 13 (by simp);have s14:s_ 14=(.pointer (some ⟨b,0,none⟩)):=hS 14 (by simp);have s15:s_ 15=(Value.string (st (Lib.itoa n))):=hS 15 (by simp)
  have s16:s_ 16=(Value.func (Fn.method "WriteString") #[(Value.iface 127 (.pointer (some ⟨bb,0,none⟩)))] #[]):=hS 16 (by simp);have s17:s_ 17=(Value.func (Fn.method "WriteString") #[(Value.iface 127 (.pointer (some ⟨bb,0,none⟩)))] #[]):=hS 17 (by simp);have s18:s_ 18=(Value.iface 127 (.pointer (some ⟨bb,0,none⟩))):=hS 18 (by simp);clear hS hg
  simp only[Aj,s13,s14,s15,s16,s17,s18,Act.put,List.setIfInBounds_toArray,List.set_cons_zero,List.set_cons_succ,List.drop_succ_cons,List.drop_zero];have HZ:=HIT;go_wp2_with fail
  refine(HW4.out.ws (st (Lib.itoa n)) (by have hz:=HZ.out;(try simp only[LA,LC,LN,AF]);(try simp only[ByteArray.size,List.size_toArray,LC,LN]);omega)).mono ?_;rintro e w5 ⟨rfl,hw5⟩;have HW5:Hid (UW w0 bb ([77,97,120,45,70,111,114,119,97,114,100,115,58,32]++(Lib.itoa n)) w5):=Hi hw5;clear hw5;go_wp2
  go_returns
  exact⟨rfl,HW5.out⟩
theorem Ih(w0:World)(b n:Nat)(hb:w0.cell? ⟨b,0,none⟩=some (.int .u32 n))(hL:BW w0)(hz:n<4294967296):Calls Tryz.prog 211 #[.pointer (some ⟨b,0,none⟩)] w0 fun e w'=>e= .returned (.string (st ([77,97,120,45,70,111,114,119,97,114,100,115,58,32]++Lib.itoa n)))∧Le w0 w':=by
 have HB:=Hi hb;have HL:=Hi hL;have HZ:=Hi hz;clear hb hL hz;go_enter Tryz.func211,Tryz.ntmps211;go_wp2_with fail
 refine(Pi w0 _ b w0.heap.size n HB.out ⟨(AC w0).alloc _,BR w0⟩ HL.out HZ.out).mono ?_;rintro e w2 ⟨rfl,hw2⟩;have HW2:=Hi hw2;clear hw2;go_wp2_with fail
 refine(Bj _ _ _ _ HW2.out.bld).mono ?_;rintro e w3 ⟨rfl,_,hf3⟩;have HL3:Hid (Le w0 w3):=Hi (Below.trans HW2.out.le hf3.1);clear hf3;go_wp2;go_ret;exact⟨by simp,HL3.out⟩
theorem L1(w:World)(v:Value):Calls Tryz.prog 217 #[v] w fun e w'=>e= .returned (.string ⟨#[69,120,112,105,114,101,115]⟩)∧w'=w:=by
 go_enter Tryz.func217,Tryz.ntmps217;go_wp2;go_ret;exact⟨rfl,rfl⟩
theorem GQ(w0:World)(n:Nat)(hL:BW w0)(hz:n<4294967296):Calls Tryz.prog 216 #[.int .u32 n] w0 fun e w'=>e= .returned (.string (st (Lib.itoa n)))∧Le w0 w':=by
 have HL:=Hi hL;go_enter Tryz.func216,Tryz.ntmps216;have hwr:=IntWalk.i64_in (n:Int) (by omega);go_wp2_with fail
 refine(Fl n _ (by omega) (by omega) HL.out).mono ?_;rintro e w' ⟨rfl,hle⟩;have HLE:=Hi hle;clear hle;go_wp2;go_ret;exact⟨rfl,HLE.out⟩
def RF(b n:Nat):Nat→Value→World→Prop
 |0,v,_=>v=(.pointer (some ⟨b,0,none⟩))
 |2,v,_=>v=(Value.string (st ([69,120,112,105,114,101,115,58,32]++Lib.itoa n)))
 |3,v,_=>v=(.pointer (some ⟨b,0,none⟩))
 |4,v,_=>v=(Value.string ⟨#[69,120,112,105,114,101,115]⟩)
 |5,v,_=>v=(Value.string (st [69,120,112,105,114,101,115,58,32]))
 |6,v,_=>v=(.pointer (some ⟨b,0,none⟩))
 |7,v,_=>v=(.pointer (some ⟨b,0,none⟩))
 |8,v,_=>v=(Value.int .u32 n)
 |9,v,_=>v=(Value.string (st (Lib.itoa n)))
 |10,v,_=>v=(Value.string (st ([69,120,112,105,114,101,115,58,32]++Lib.itoa n)))
 |_,_,_=>True
theorem L0(b n:Nat)(t:Nat)(v:Value)(w1 w2:World)(k:Le w1 w2)(h:RF b n t v w1):RF b n t v w2:=by
 unfold RF at h⊢;split at h<;>first|exact h
theorem Ik(w0:World)(b n:Nat)(hb:w0.cell? ⟨b,0,none⟩=some (.int .u32 n))(hL:BW w0)(hz:n<4294967296):Calls Tryz.prog 218 #[.pointer (some ⟨b,0,none⟩)] w0 fun e w'=>e= .returned (.string (st ([69,120,112,105,114,101,115,58,32]++Lib.itoa n)))∧Le w0 w':=by
 have HIT:=Hi (Lib.itoa_length_le n (by omega) (by omega));have HB:=Hi hb;have HL:=Hi hL;have HZ:=Hi hz;clear hb hL hz;go_enter Tryz.func218,Tryz.ntmps218;go_wp2;have hm_hex:(Tryz.prog).follows .mixedOrders=true:=by kernel_rfl
 refine wp_region_grow_put (RF b n) (fun _ _=>True) (Le w0) 11 [3,4,5,6,7,8,9,10,2] hm_hex (by kernel_rfl) rfl rfl ?hG_hex ?hold_hex ?hs_hex ?hend_hex;case hG_hex=>exact(AC _).drew
 case hold_hex=>
  intro t ht;simp only[List.mem_cons,List.mem_nil_iff,or_false,not_or]at ht;unfold RF;split<;>first|rfl|trivial|(exfalso;simp at ht)
 case hs_hex=>
  refine⟨?_,?_,?_,?_,?_,?_,?_,?_,?_,trivial⟩
  ·refine AA fun a W hg hop=>?_;have h0:_=_:=hq hop 0;have h0':=tg h0;refine⟨_,?_,rfl⟩;simp only[execOp,h0];go_simp
  ·refine AG ?_ ?_ ?_ ?_
   ·exact fun t v w1 w2 k h=>L0 b n t v w1 w2 k h
   ·exact fun _ _ _ _ h=>h
   ·exact fun w1 w2 k h=>Le.trans h k
   ·intro a W hg hop;have h3:_=_:=hq hop 3;have h3':=tg h3;refine⟨217,#[.pointer (some ⟨b,0,none⟩)],?_,(L1 W _).mono ?_⟩
    ·simp only[execOp,h3];go_simp
    ·rintro e w' ⟨rfl,rfl⟩;exact⟨_,rfl,AC _,rfl⟩
  ·refine AA fun a W hg hop=>?_;have h4:_=_:=hq hop 4;have h4':=tg h4;refine⟨(Value.string (st [69,120,112,105,114,101,115,58,32])),?_,rfl⟩;simp only[execOp,h4];go_simp;rfl
  ·refine AA fun a W hg hop=>?_;have h0:_=_:=hq hop 0;have h0':=tg h0;refine⟨_,?_,rfl⟩;simp only[execOp,h0];go_simp
  ·refine AA fun a W hg hop=>?_;have h6:_=_:=hq hop 6;have h6':=tg h6;refine⟨_,?_,rfl⟩;simp only[execOp,h6];go_simp
  ·refine AA fun a W hg hop=>?_;have h7:_=_:=hq hop 7;have h7':=tg h7;have hc:W.cell? ⟨b,0,none⟩=some (.int .u32 n):=hg.cell HB.out;refine⟨_,?_,rfl⟩;simp only[execOp,h7];go_simp
  ·refine AG ?_ ?_ ?_ ?_
   ·exact fun t v w1 w2 k h=>L0 b n t v w1 w2 k h
   ·exact fun _ _ _ _ h=>h
   ·exact fun w1 w2 k h=>Le.trans h k
   ·intro a W hg hop;have h8:_=_:=hq hop 8;have h8':=tg h8;refine⟨216,#[.int .u32 n],?_,(GQ W n (HL.out.le hg) HZ.out).mono ?_⟩
    ·simp only[execOp,h8];go_simp
    ·rintro e w' ⟨rfl,hle⟩;exact⟨_,rfl,hle,rfl⟩
  ·refine AA fun a W hg hop=>?_;have h5:_=_:=hq hop 5;have h5':=tg h5;have h9:_=_:=hq hop 9;have h9':=tg h9;refine⟨(Value.string (st ([69,120,112,105,114,101,115,58,32]++Lib.itoa n))),?_,rfl⟩;simp only[execOp,h5,h9];have hc:st [69,120,112,105,114,101,115,58,32]++st (Lib.itoa n)=st ([69,120,112,105,114,101,115,58,32]++Lib.itoa n):=GG _ _;rw[←hc];go_simp;have hz:=HIT.out
   simp only[AF,LA,LC,LN];omega
  ·refine AA fun a W hg hop=>?_;have h10:_=_:=hq hop 10;have h10':=tg h10;refine⟨(Value.string (st ([69,120,112,105,114,101,115,58,32]++Lib.itoa n))),?_,rfl⟩;simp only[execOp,h10];go_simp
 case hend_hex=>
  intro s_ wz hg hS hZ;have HLE:=Hi (show Le w0 wz from hg);have s2:=hS 2 (by decide);clear hS hZ hg;simp only[Aj,Act.put,List.setIfInBounds_toArray,List.set_cons_zero,List.set_cons_succ];have s2:s_ 2=(Value.string (st ([69,120,112,105,114,101,115,58,32]++Lib.itoa n))):=s2;rw[s2];go_wp2;go_ret;exact⟨rfl,HLE.out⟩
def UWc(w0:World)(bb g n:Nat)(t:Tx)(w:World):Prop:=UW w0 bb t w∧w.heap[g]? =some (.cells #[.int .u32 n] 102 (0,0))∧g≠bb
theorem UWc.grow{w0:World}{bb g n:Nat}{t:Tx}{w w':World}(h:UWc w0 bb g n t w)(k:Le w w'):UWc w0 bb g n t w':=⟨h.1.grow k,k.heap h.2.1,h.2.2⟩
theorem UWc.ws{w0:World}{bb g n:Nat}{t:Tx}{w:World}(h:UWc w0 bb g n t w)(s:ByteArray)(hl:t.length+s.size≤140737488355328):
 Calls Tryz.prog 107 #[.pointer (some ⟨bb,0,none⟩),.string s] w fun e w'=>e= .returned (.tuple #[.int .i64 s.size,.nilIface])∧UWc w0 bb g n (t++bs s) w':=
 (Hx _ _ _ s _ h.1.bld hl).mono fun e w' ⟨he,h1,h2⟩=>⟨he,⟨Below.trans h.1.le h2.1,h1⟩,h2.2 g _ h.2.1 (by simpa using h.2.2) (fun c fz e=>by injection e with _ e2 _;exact absurd e2 (by decide)),h.2.2⟩
theorem L7(w:World)(v:Value):Calls Tryz.prog 225 #[v] w fun e w'=>e= .returned (.string ⟨#[67,111,110,116,101,110,116,45,76,101,110,103,116,104]⟩)∧w'=w:=by
 go_enter Tryz.func225,Tryz.ntmps225;go_wp2;go_ret;exact⟨rfl,rfl⟩
theorem GS(w0:World)(n:Nat)(hL:BW w0)(hz:n<4294967296):Calls Tryz.prog 224 #[.int .u32 n] w0 fun e w'=>e= .returned (.string (st (Lib.itoa n)))∧Le w0 w':=by
 have HL:=Hi hL;go_enter Tryz.func224,Tryz.ntmps224;have hwr:=IntWalk.i64_in (n:Int) (by omega);go_wp2_with fail
 refine(Fl n _ (by omega) (by omega) HL.out).mono ?_;rintro e w' ⟨rfl,hle⟩;have HLE:=Hi hle;clear hle;go_wp2;go_ret;exact⟨rfl,HLE.out⟩
def RG(bb g n:Nat):Nat→Value→World→Prop
 |1,v,_=>v=(Value.iface 127 (.pointer (some ⟨bb,0,none⟩)))
 |2,v,_=>v=(.pointer (some ⟨g,0,none⟩))
 |12,v,_=>v=(Value.iface 127 (.pointer (some ⟨bb,0,none⟩)))
 |13,v,_=>v=(.int .u32 n)
 |14,v,_=>v=(Value.string (st (Lib.itoa n)))
 |15,v,_=>v=(Value.func (Fn.method "WriteString") #[(Value.iface 127 (.pointer (some ⟨bb,0,none⟩)))] #[])
 |16,v,_=>v=(Value.func (Fn.method "WriteString") #[(Value.iface 127 (.pointer (some ⟨bb,0,none⟩)))] #[])
 |17,v,_=>v=(Value.iface 127 (.pointer (some ⟨bb,0,none⟩)))
 |_,_,_=>True
theorem Pq(bb g n:Nat)(t:Nat)(v:Value)(w1 w2:World)(k:Le w1 w2)(h:RG bb g n t v w1):RG bb g n t v w2:=by
 unfold RG at h⊢;split at h<;>first|exact h
theorem Pp(w0 w:World)(bb n:Nat)(hw:UW w0 bb [] w)(hL:BW w0)(hz:n<4294967296):
 Calls Tryz.prog 223 #[.int .u32 n,.iface 127 (.pointer (some ⟨bb,0,none⟩))] w fun e w'=>e= .returned (.tuple #[])∧UW w0 bb ([67,111,110,116,101,110,116,45,76,101,110,103,116,104,58,32]++Lib.itoa n) w':=by
 have HIT:=Hi (Lib.itoa_length_le n (by omega) (by omega));have HW0:=Hi hw;have HL:=Hi hL;have HZZ:=Hi hz;have hna:∀(n:Nat) (w:World),(nilAhead (n+1) 127 (.pointer (some ⟨bb,0,none⟩)) "WriteString").run Tryz.prog w= .ok (some false) w:=fun n w=>by kernel_rfl
 clear hw hL hz;go_enter Tryz.func223,Tryz.ntmps223;go_upto_region 1 with fail
 have HW1:Hid (UWc w0 bb w.heap.size n [] (w.alloc (Obj.cells #[.int .u32 n] 102))):=Hi ⟨HW0.out.grow ((AC w).alloc _),heap_alloc_new w _,by have:=HW0.out.bld.lt;omega⟩;change Code.wp _ _ _ _ (w.alloc (Obj.cells #[.int .u32 n] 102));generalize w.alloc (Obj.cells #[.int .u32 n] 102)=W1 at HW1⊢;generalize w.heap.size=g at HW1⊢;go_still_tail 5,(by kernel_rfl)
 still_call (L7 _ _)
 repeat still_step
 refine wpStill_nil ?_;change wpList _ _ _ _ _ (World.drew _);have HWD:=Hi (HW1.out.grow (AC _).drew);generalize World.drew _=wd1 at HWD⊢;go_wp2_with fail
 refine(HWD.out.ws ⟨#[67,111,110,116,101,110,116,45,76,101,110,103,116,104]⟩ (by decide)).mono ?_;rintro e w2 ⟨rfl,hw2⟩;have HW2:Hid (UWc w0 bb g n [67,111,110,116,101,110,116,45,76,101,110,103,116,104] w2):=Hi hw2;clear hw2;go_wp2_with fail
 refine(HW2.out.ws ⟨#[58,32]⟩ (by decide)).mono ?_;rintro e w3 ⟨rfl,hw3⟩;have HW3:Hid (UWc w0 bb g n [67,111,110,116,101,110,116,45,76,101,110,103,116,104,58,32] w3):=Hi hw3;clear hw3;go_upto_region 3 with fail
 have hm_hcl:(Tryz.prog).follows .mixedOrders=true:=by kernel_rfl
 refine G3.wp_region_grow_tail (RG bb g n) ((UWc w0 bb g n [67,111,110,116,101,110,116,45,76,101,110,103,116,104,58,32])) 19 6 [12,13,14,15,16,17] hm_hcl (by kernel_rfl) rfl rfl ?hG_hcl ?hold_hcl ?hs_hcl ?hend_hcl;case hG_hcl=>exact HW3.out.grow (AC _).drew
 case hold_hcl=>
  intro t ht;simp only[List.mem_cons,List.mem_nil_iff,or_false,not_or]at ht;unfold RG;split<;>first|exact True.intro|(exfalso;simp at ht;done)|rfl
 case hs_hcl=>
  simp only[List.take_succ_cons,List.take_zero];refine⟨?_,?_,?_,?_,?_,?_,trivial⟩
  ·refine AA fun a W hg hop=>?_;have h1:_=_:=hq hop 1;have h1':=tg h1;refine⟨_,?_,rfl⟩;simp only[execOp,h1];go_simp
  ·refine AA fun a W hg hop=>?_;have h2:_=_:=hq hop 2;have h2':=tg h2;have hc:W.cell? ⟨g,0,none⟩=some (.int .u32 n):=(AB hg.2.1 0);refine⟨_,?_,rfl⟩;simp only[execOp,h2];go_simp
  ·refine AG ?_ ?_ ?_ ?_
   ·exact fun t v w1 w2 kl h=>Pq bb g n t v w1 w2 kl h
   ·exact fun _ _ _ _ h=>h
   ·exact fun w1 w2 k h=>h.grow k
   ·intro a W hg hop;have h13:_=_:=hq hop 13;have h13':=tg h13;refine⟨224,#[.int .u32 n],?_,(GS W n (HL.out.le hg.1.le) HZZ.out).mono ?_⟩
    ·simp only[execOp,h13];go_simp
    ·rintro e w' ⟨rfl,hle⟩;exact⟨_,rfl,hle,rfl⟩
  ·refine AA fun a W hg hop=>?_;have h12:_=_:=hq hop 12;have h12':=tg h12;refine⟨_,?_,rfl⟩;simp only[execOp];go_simp
  ·refine AA fun a W hg hop=>?_;have h15:_=_:=hq hop 15;have h15':=tg h15;refine⟨_,?_,rfl⟩;simp only[execOp,h15];go_simp
  ·refine AA fun a W hg hop=>?_;have h12:_=_:=hq hop 12;have h12':=tg h12;refine⟨_,?_,rfl⟩;simp only[execOp,h12];go_simp
 case hend_hcl=>
  intro s_ wz hg hS;have HW4:=Hi (show UWc w0 bb g n [67,111,110,116,101,110,116,45,76,101,110,103,116,104,58,32] wz from hg);have s14:s_ 14=(Value.string (st (Lib.itoa n))):=hS 14 (by simp);have s17:s_ 17=(Value.iface 127 (.pointer (some ⟨bb,0,none⟩))):=hS 17 (by simp);clear hS hg
  simp only[Aj,Act.put,List.setIfInBounds_toArray,List.set_cons_zero,List.set_cons_succ,List.drop_succ_cons,List.drop_zero];rw[s14,s17];clear s14 s17;go_wp2_with fail
  refine(HW4.out.ws (st (Lib.itoa n)) (by have hz:=HIT.out;simp only[LC,LN,AF];omega)).mono ?_;rintro e w5 ⟨rfl,hw5⟩;have HW5:Hid (UWc w0 bb g n ([67,111,110,116,101,110,116,45,76,101,110,103,116,104,58,32]++Lib.itoa n) w5):=Hi (by have h:=hw5;rw[AV]at h;exact h);clear hw5;go_wp2
  go_returns
  exact⟨rfl,HW5.out.1⟩
theorem Ip(w0:World)(n:Nat)(hL:BW w0)(hz:n<4294967296):Calls Tryz.prog 222 #[.int .u32 n] w0 fun e w'=>e= .returned (.string (st ([67,111,110,116,101,110,116,45,76,101,110,103,116,104,58,32]++Lib.itoa n)))∧Le w0 w':=by
 have HL:=Hi hL;have HZ:=Hi hz;clear hL hz;go_enter Tryz.func222,Tryz.ntmps222;go_wp2_with fail
 refine(Pp w0 _ w0.heap.size n ⟨(AC w0).alloc _,BR w0⟩ HL.out HZ.out).mono ?_;rintro e w2 ⟨rfl,hw2⟩;have HW2:=Hi hw2;clear hw2;go_wp2_with fail
 refine(Bj _ _ _ _ HW2.out.bld).mono ?_;rintro e w3 ⟨rfl,_,hf3⟩;have HL3:Hid (Le w0 w3):=Hi (Below.trans HW2.out.le hf3.1);clear hf3;go_wp2;go_ret;exact⟨by simp,HL3.out⟩
def kRt(u:PU):Tx:=60::(BY u++[62])
theorem Lp(w:World)(v:Value):Calls Tryz.prog 260 #[v] w fun e w'=>e= .returned (.string ⟨#[82,111,117,116,101]⟩)∧w'=w:=by
 go_enter Tryz.func260,Tryz.ntmps260;go_wp2;go_ret;exact⟨rfl,rfl⟩
theorem Lo(w0 w:World)(b bb:Nat)(t0:Tx)(u:PU)(hb:UIn w0 b 0 u)(hw:UW w0 bb t0 w)(hL:BW w0)(hz:AdZ [] u [])(ht0:t0.length≤1000):
 Calls Tryz.prog 265 #[.pointer (some ⟨b,0,none⟩),.iface 127 (.pointer (some ⟨bb,0,none⟩))] w fun e w'=>e= .returned (.tuple #[])∧UW w0 bb (t0++kRt u) w':=by
 have HB:=Hi hb;have HW0:=Hi hw;have HL:=Hi hL;have HHN:=Hi hz.host;have HLP:=Hi hz.lp;have HLH:=Hi hz.lh;have HZ:=Hi (⟨hz.ut,ht0⟩:_∧_);have hna:∀(n:Nat) (w:World),(nilAhead (n+1) 127 (.pointer (some ⟨bb,0,none⟩)) "WriteString").run Tryz.prog w= .ok (some false) w:=fun n w=>by kernel_rfl
 clear hb hw hL hz ht0;go_enter Tryz.func265,Tryz.ntmps265;go_wp2_with fail
 refine(HW0.out.ws ⟨#[60]⟩ (by have hz:=HZ.out;(try simp only[LA,LC,LN,AF]);(try simp only[ByteArray.size,List.size_toArray,LC,LN]);omega)).mono ?_;rintro e w1 ⟨rfl,hw1⟩;have HW1:Hid (UW w0 bb (t0++[60]) w1):=Hi hw1;clear hw1;go_wp2_with fail
 refine(Bn w0 _ b 0 bb (t0++[60]) (by have hz:=HZ.out;simp only[LA,LC,LN];omega) u HB.out HW1.out HL.out HHN.out HLP.out HLH.out).mono ?_;rintro e w2 ⟨rfl,hw2⟩;have HW2:Hid (UW w0 bb (t0++[60]++BY u) w2):=Hi hw2;clear hw2;go_wp2_with fail
 refine(HW2.out.ws ⟨#[62]⟩ (by have hz:=HZ.out;(try simp only[LA,LC,LN,AF]);(try simp only[ByteArray.size,List.size_toArray,LC,LN]);omega)).mono ?_;rintro e w3 ⟨rfl,hw3⟩;have HW3:Hid (UW w0 bb (t0++[60]++BY u++[62]) w3):=Hi hw3;clear hw3;go_wp2
 go_returns
 refine⟨rfl,?_⟩;have h:=HW3.out;unfold kRt;simp only[List.append_assoc,List.cons_append,List.nil_append,List.append_nil]at h⊢;exact h
theorem KC(w0:World)(b:Nat)(u:PU)(hb:UIn w0 b 0 u)(hL:BW w0)(hz:AdZ [] u []):Calls Tryz.prog 263 #[.pointer (some ⟨b,0,none⟩)] w0 fun e w'=>e= .returned (.string (st (kRt u)))∧Le w0 w':=by
 have HB:=Hi hb;have HL:=Hi hL;have HZ:=Hi hz;clear hb hL hz;go_enter Tryz.func263,Tryz.ntmps263;go_wp2_with fail
 refine(Lo w0 _ b w0.heap.size [] u HB.out ⟨(AC w0).alloc _,BR w0⟩ HL.out HZ.out (by decide)).mono ?_;rintro e w2 ⟨rfl,hw2⟩;have HW2:=Hi hw2;clear hw2;go_wp2_with fail
 refine(Bj _ _ _ _ HW2.out.bld).mono ?_;rintro e w3 ⟨rfl,_,hf3⟩;have HL3:Hid (Le w0 w3):=Hi (Below.trans HW2.out.le hf3.1);clear hf3;go_wp2;go_ret;exact⟨by simp,HL3.out⟩
theorem Pe(w0 w:World)(b bb:Nat)(u:PU)(hb:UIn w0 b 0 u)(hw:UW w0 bb [] w)(hL:BW w0)(hz:AdZ [] u []):
 Calls Tryz.prog 262 #[.pointer (some ⟨b,0,none⟩),.iface 127 (.pointer (some ⟨bb,0,none⟩))] w fun e w'=>e= .returned (.tuple #[])∧UW w0 bb ([82,111,117,116,101,58,32]++kRt u) w':=by
 have HB:=Hi hb;have HW0:=Hi hw;have HL:=Hi hL;have HZZ:=Hi hz;have hna:∀(n:Nat) (w:World),(nilAhead (n+1) 127 (.pointer (some ⟨bb,0,none⟩)) "WriteString").run Tryz.prog w= .ok (some false) w:=fun n w=>by kernel_rfl
 clear hb hw hL hz;go_enter Tryz.func262,Tryz.ntmps262;go_wp2;go_still_tail 6,(by kernel_rfl)
 still_call (Lp _ _)
 repeat still_step
 refine wpStill_nil ?_;change wpList _ _ _ _ _ (World.drew _);have HW1:=Hi (HW0.out.grow (AC _).drew);generalize World.drew _=wd1 at HW1⊢;go_wp2_with fail
 refine(HW1.out.ws ⟨#[82,111,117,116,101]⟩ (by decide)).mono ?_;rintro e w2 ⟨rfl,hw2⟩;have HW2:Hid (UW w0 bb [82,111,117,116,101] w2):=Hi hw2;clear hw2;go_wp2_with fail
 refine(HW2.out.ws ⟨#[58,32]⟩ (by decide)).mono ?_;rintro e w3 ⟨rfl,hw3⟩;have HW3:Hid (UW w0 bb [82,111,117,116,101,58,32] w3):=Hi hw3;clear hw3;go_wp2_with fail
 refine(Lo w0 _ b bb [82,111,117,116,101,58,32] u HB.out HW3.out HL.out HZZ.out (by decide)).mono ?_;rintro e w4 ⟨rfl,hw4⟩;have HW4:=Hi hw4;clear hw4;go_wp2
 go_returns
 exact⟨rfl,HW4.out⟩
theorem Id(w0:World)(b:Nat)(u:PU)(hb:UIn w0 b 0 u)(hL:BW w0)(hz:AdZ [] u []):Calls Tryz.prog 261 #[.pointer (some ⟨b,0,none⟩)] w0 fun e w'=>e= .returned (.string (st ([82,111,117,116,101,58,32]++kRt u)))∧Le w0 w':=by
 have HB:=Hi hb;have HL:=Hi hL;have HZ:=Hi hz;clear hb hL hz;go_enter Tryz.func261,Tryz.ntmps261;go_wp2_with fail
 refine(Pe w0 _ b w0.heap.size u HB.out ⟨(AC w0).alloc _,BR w0⟩ HL.out HZ.out).mono ?_;rintro e w2 ⟨rfl,hw2⟩;have HW2:=Hi hw2;clear hw2;go_wp2_with fail
 refine(Bj _ _ _ _ HW2.out.bld).mono ?_;rintro e w3 ⟨rfl,_,hf3⟩;have HL3:Hid (Le w0 w3):=Hi (Below.trans HW2.out.le hf3.1);clear hf3;go_wp2;go_ret;exact⟨by simp,HL3.out⟩
theorem Ln(w:World)(v:Value):Calls Tryz.prog 266 #[v] w fun e w'=>e= .returned (.string ⟨#[82,101,99,111,114,100,45,82,111,117,116,101]⟩)∧w'=w:=by
 go_enter Tryz.func266,Tryz.ntmps266;go_wp2;go_ret;exact⟨rfl,rfl⟩
theorem Lm(w0 w:World)(b bb:Nat)(t0:Tx)(u:PU)(hb:UIn w0 b 0 u)(hw:UW w0 bb t0 w)(hL:BW w0)(hz:AdZ [] u [])(ht0:t0.length≤1000):
 Calls Tryz.prog 271 #[.pointer (some ⟨b,0,none⟩),.iface 127 (.pointer (some ⟨bb,0,none⟩))] w fun e w'=>e= .returned (.tuple #[])∧UW w0 bb (t0++kRt u) w':=by
 have HB:=Hi hb;have HW0:=Hi hw;have HL:=Hi hL;have HHN:=Hi hz.host;have HLP:=Hi hz.lp;have HLH:=Hi hz.lh;have HZ:=Hi (⟨hz.ut,ht0⟩:_∧_);have hna:∀(n:Nat) (w:World),(nilAhead (n+1) 127 (.pointer (some ⟨bb,0,none⟩)) "WriteString").run Tryz.prog w= .ok (some false) w:=fun n w=>by kernel_rfl
 clear hb hw hL hz ht0;go_enter Tryz.func271,Tryz.ntmps271;go_wp2_with fail
 refine(HW0.out.ws ⟨#[60]⟩ (by have hz:=HZ.out;(try simp only[LA,LC,LN,AF]);(try simp only[ByteArray.size,List.size_toArray,LC,LN]);omega)).mono ?_;rintro e w1 ⟨rfl,hw1⟩;have HW1:Hid (UW w0 bb (t0++[60]) w1):=Hi hw1;clear hw1;go_wp2_with fail
 refine(Bn w0 _ b 0 bb (t0++[60]) (by have hz:=HZ.out;simp only[LA,LC,LN];omega) u HB.out HW1.out HL.out HHN.out HLP.out HLH.out).mono ?_;rintro e w2 ⟨rfl,hw2⟩;have HW2:Hid (UW w0 bb (t0++[60]++BY u) w2):=Hi hw2;clear hw2;go_wp2_with fail
 refine(HW2.out.ws ⟨#[62]⟩ (by have hz:=HZ.out;(try simp only[LA,LC,LN,AF]);(try simp only[ByteArray.size,List.size_toArray,LC,LN]);omega)).mono ?_;rintro e w3 ⟨rfl,hw3⟩;have HW3:Hid (UW w0 bb (t0++[60]++BY u++[62]) w3):=Hi hw3;clear hw3;go_wp2
 go_returns
 refine⟨rfl,?_⟩;have h:=HW3.out;unfold kRt;simp only[List.append_assoc,List.cons_append,List.nil_append,List.append_nil]at h⊢;exact h
theorem KB(w0:World)(b:Nat)(u:PU)(hb:UIn w0 b 0 u)(hL:BW w0)(hz:AdZ [] u []):Calls Tryz.prog 269 #[.pointer (some ⟨b,0,none⟩)] w0 fun e w'=>e= .returned (.string (st (kRt u)))∧Le w0 w':=by
 have HB:=Hi hb;have HL:=Hi hL;have HZ:=Hi hz;clear hb hL hz;go_enter Tryz.func269,Tryz.ntmps269;go_wp2_with fail
 refine(Lm w0 _ b w0.heap.size [] u HB.out ⟨(AC w0).alloc _,BR w0⟩ HL.out HZ.out (by decide)).mono ?_;rintro e w2 ⟨rfl,hw2⟩;have HW2:=Hi hw2;clear hw2;go_wp2_with fail
 refine(Bj _ _ _ _ HW2.out.bld).mono ?_;rintro e w3 ⟨rfl,_,hf3⟩;have HL3:Hid (Le w0 w3):=Hi (Below.trans HW2.out.le hf3.1);clear hf3;go_wp2;go_ret;exact⟨by simp,HL3.out⟩
theorem Pd(w0 w:World)(b bb:Nat)(u:PU)(hb:UIn w0 b 0 u)(hw:UW w0 bb [] w)(hL:BW w0)(hz:AdZ [] u []):
 Calls Tryz.prog 268 #[.pointer (some ⟨b,0,none⟩),.iface 127 (.pointer (some ⟨bb,0,none⟩))] w fun e w'=>e= .returned (.tuple #[])∧UW w0 bb ([82,101,99,111,114,100,45,82,111,117,116,101,58,32]++kRt u) w':=by
 have HB:=Hi hb;have HW0:=Hi hw;have HL:=Hi hL;have HZZ:=Hi hz;have hna:∀(n:Nat) (w:World),(nilAhead (n+1) 127 (.pointer (some ⟨bb,0,none⟩)) "WriteString").run Tryz.prog w= .ok (some false) w:=fun n w=>by kernel_rfl
 clear hb hw hL hz;go_enter Tryz.func268,Tryz.ntmps268;go_wp2;go_still_tail 6,(by kernel_rfl)
 still_call (Ln _ _)
 repeat still_step
 refine wpStill_nil ?_;change wpList _ _ _ _ _ (World.drew _);have HW1:=Hi (HW0.out.grow (AC _).drew);generalize World.drew _=wd1 at HW1⊢;go_wp2_with fail
 refine(HW1.out.ws ⟨#[82,101,99,111,114,100,45,82,111,117,116,101]⟩ (by decide)).mono ?_;rintro e w2 ⟨rfl,hw2⟩;have HW2:Hid (UW w0 bb [82,101,99,111,114,100,45,82,111,117,116,101] w2):=Hi hw2;clear hw2;go_wp2_with fail
 refine(HW2.out.ws ⟨#[58,32]⟩ (by decide)).mono ?_;rintro e w3 ⟨rfl,hw3⟩;have HW3:Hid (UW w0 bb [82,101,99,111,114,100,45,82,111,117,116,101,58,32] w3):=Hi hw3;clear hw3;go_wp2_with fail
 refine(Lm w0 _ b bb [82,101,99,111,114,100,45,82,111,117,116,101,58,32] u HB.out HW3.out HL.out HZZ.out (by decide)).mono ?_;rintro e w4 ⟨rfl,hw4⟩;have HW4:=Hi hw4;clear hw4;go_wp2
 go_returns
 exact⟨rfl,HW4.out⟩
theorem Ic(w0:World)(b:Nat)(u:PU)(hb:UIn w0 b 0 u)(hL:BW w0)(hz:AdZ [] u []):Calls Tryz.prog 267 #[.pointer (some ⟨b,0,none⟩)] w0 fun e w'=>e= .returned (.string (st ([82,101,99,111,114,100,45,82,111,117,116,101,58,32]++kRt u)))∧Le w0 w':=by
 have HB:=Hi hb;have HL:=Hi hL;have HZ:=Hi hz;clear hb hL hz;go_enter Tryz.func267,Tryz.ntmps267;go_wp2_with fail
 refine(Pd w0 _ b w0.heap.size u HB.out ⟨(AC w0).alloc _,BR w0⟩ HL.out HZ.out).mono ?_;rintro e w2 ⟨rfl,hw2⟩;have HW2:=Hi hw2;clear hw2;go_wp2_with fail
 refine(Bj _ _ _ _ HW2.out.bld).mono ?_;rintro e w3 ⟨rfl,_,hf3⟩;have HL3:Hid (Le w0 w3):=Hi (Below.trans HW2.out.le hf3.1);clear hf3;go_wp2;go_ret;exact⟨by simp,HL3.out⟩
theorem Lr(w:World)(v:Value):Calls Tryz.prog 272 #[v] w fun e w'=>e= .returned (.string ⟨#[82,101,102,101,114,45,84,111]⟩)∧w'=w:=by
 go_enter Tryz.func272,Tryz.ntmps272;go_wp2;go_ret;exact⟨rfl,rfl⟩
theorem Lq(w0 w:World)(b bb:Nat)(t0:Tx)(u:PU)(hb:UIn w0 b 0 u)(hw:UW w0 bb t0 w)(hL:BW w0)(hz:AdZ [] u [])(ht0:t0.length≤1000):
 Calls Tryz.prog 277 #[.pointer (some ⟨b,0,none⟩),.iface 127 (.pointer (some ⟨bb,0,none⟩))] w fun e w'=>e= .returned (.tuple #[])∧UW w0 bb (t0++kRt u) w':=by
 have HB:=Hi hb;have HW0:=Hi hw;have HL:=Hi hL;have HHN:=Hi hz.host;have HLP:=Hi hz.lp;have HLH:=Hi hz.lh;have HZ:=Hi (⟨hz.ut,ht0⟩:_∧_);have hna:∀(n:Nat) (w:World),(nilAhead (n+1) 127 (.pointer (some ⟨bb,0,none⟩)) "WriteString").run Tryz.prog w= .ok (some false) w:=fun n w=>by kernel_rfl
 clear hb hw hL hz ht0;go_enter Tryz.func277,Tryz.ntmps277;go_wp2_with fail
 refine(HW0.out.ws ⟨#[60]⟩ (by have hz:=HZ.out;(try simp only[LA,LC,LN,AF]);(try simp only[ByteArray.size,List.size_toArray,LC,LN]);omega)).mono ?_;rintro e w1 ⟨rfl,hw1⟩;have HW1:Hid (UW w0 bb (t0++[60]) w1):=Hi hw1;clear hw1;go_wp2_with fail
 refine(Bn w0 _ b 0 bb (t0++[60]) (by have hz:=HZ.out;simp only[LA,LC,LN];omega) u HB.out HW1.out HL.out HHN.out HLP.out HLH.out).mono ?_;rintro e w2 ⟨rfl,hw2⟩;have HW2:Hid (UW w0 bb (t0++[60]++BY u) w2):=Hi hw2;clear hw2;go_wp2_with fail
 refine(HW2.out.ws ⟨#[62]⟩ (by have hz:=HZ.out;(try simp only[LA,LC,LN,AF]);(try simp only[ByteArray.size,List.size_toArray,LC,LN]);omega)).mono ?_;rintro e w3 ⟨rfl,hw3⟩;have HW3:Hid (UW w0 bb (t0++[60]++BY u++[62]) w3):=Hi hw3;clear hw3;go_wp2
 go_returns
 refine⟨rfl,?_⟩;have h:=HW3.out;unfold kRt;simp only[List.append_assoc,List.cons_append,List.nil_append,List.append_nil]at h⊢;exact h
theorem KD(w0:World)(b:Nat)(u:PU)(hb:UIn w0 b 0 u)(hL:BW w0)(hz:AdZ [] u []):Calls Tryz.prog 275 #[.pointer (some ⟨b,0,none⟩)] w0 fun e w'=>e= .returned (.string (st (kRt u)))∧Le w0 w':=by
 have HB:=Hi hb;have HL:=Hi hL;have HZ:=Hi hz;clear hb hL hz;go_enter Tryz.func275,Tryz.ntmps275;go_wp2_with fail
 refine(Lq w0 _ b w0.heap.size [] u HB.out ⟨(AC w0).alloc _,BR w0⟩ HL.out HZ.out (by decide)).mono ?_;rintro e w2 ⟨rfl,hw2⟩;have HW2:=Hi hw2;clear hw2;go_wp2_with fail
 refine(Bj _ _ _ _ HW2.out.bld).mono ?_;rintro e w3 ⟨rfl,_,hf3⟩;have HL3:Hid (Le w0 w3):=Hi (Below.trans HW2.out.le hf3.1);clear hf3;go_wp2;go_ret;exact⟨by simp,HL3.out⟩
theorem Pf(w0 w:World)(b bb:Nat)(u:PU)(hb:UIn w0 b 0 u)(hw:UW w0 bb [] w)(hL:BW w0)(hz:AdZ [] u []):
 Calls Tryz.prog 274 #[.pointer (some ⟨b,0,none⟩),.iface 127 (.pointer (some ⟨bb,0,none⟩))] w fun e w'=>e= .returned (.tuple #[])∧UW w0 bb ([82,101,102,101,114,45,84,111,58,32]++kRt u) w':=by
 have HB:=Hi hb;have HW0:=Hi hw;have HL:=Hi hL;have HZZ:=Hi hz;have hna:∀(n:Nat) (w:World),(nilAhead (n+1) 127 (.pointer (some ⟨bb,0,none⟩)) "WriteString").run Tryz.prog w= .ok (some false) w:=fun n w=>by kernel_rfl
 clear hb hw hL hz;go_enter Tryz.func274,Tryz.ntmps274;go_wp2;go_still_tail 6,(by kernel_rfl)
 still_call (Lr _ _)
 repeat still_step
 refine wpStill_nil ?_;change wpList _ _ _ _ _ (World.drew _);have HW1:=Hi (HW0.out.grow (AC _).drew);generalize World.drew _=wd1 at HW1⊢;go_wp2_with fail
 refine(HW1.out.ws ⟨#[82,101,102,101,114,45,84,111]⟩ (by decide)).mono ?_;rintro e w2 ⟨rfl,hw2⟩;have HW2:Hid (UW w0 bb [82,101,102,101,114,45,84,111] w2):=Hi hw2;clear hw2;go_wp2_with fail
 refine(HW2.out.ws ⟨#[58,32]⟩ (by decide)).mono ?_;rintro e w3 ⟨rfl,hw3⟩;have HW3:Hid (UW w0 bb [82,101,102,101,114,45,84,111,58,32] w3):=Hi hw3;clear hw3;go_wp2_with fail
 refine(Lq w0 _ b bb [82,101,102,101,114,45,84,111,58,32] u HB.out HW3.out HL.out HZZ.out (by decide)).mono ?_;rintro e w4 ⟨rfl,hw4⟩;have HW4:=Hi hw4;clear hw4;go_wp2
 go_returns
 exact⟨rfl,HW4.out⟩
theorem Ie(w0:World)(b:Nat)(u:PU)(hb:UIn w0 b 0 u)(hL:BW w0)(hz:AdZ [] u []):Calls Tryz.prog 273 #[.pointer (some ⟨b,0,none⟩)] w0 fun e w'=>e= .returned (.string (st ([82,101,102,101,114,45,84,111,58,32]++kRt u)))∧Le w0 w':=by
 have HB:=Hi hb;have HL:=Hi hL;have HZ:=Hi hz;clear hb hL hz;go_enter Tryz.func273,Tryz.ntmps273;go_wp2_with fail
 refine(Pf w0 _ b w0.heap.size u HB.out ⟨(AC w0).alloc _,BR w0⟩ HL.out HZ.out).mono ?_;rintro e w2 ⟨rfl,hw2⟩;have HW2:=Hi hw2;clear hw2;go_wp2_with fail
 refine(Bj _ _ _ _ HW2.out.bld).mono ?_;rintro e w3 ⟨rfl,_,hf3⟩;have HL3:Hid (Le w0 w3):=Hi (Below.trans HW2.out.le hf3.1);clear hf3;go_wp2;go_ret;exact⟨by simp,HL3.out⟩
structure UtI(w W0:World)(T:Tx)(v:Value)(wr:World):Prop where
 le:Le W0 wr
 own:AY W0.heap.size wr v T
end Go.Proofs.YtejhpdcjafbklaaGreatDoor
