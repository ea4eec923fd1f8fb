/- The law FnHeadWritten: HwL HwB. -/
import Derived.Test.YtejhpdcjafbklaaGreatDoorHwK
set_option linter.all false
set_option maxHeartbeats 16000000
set_option maxRecDepth 8000
namespace Go.Proofs.YtejhpdcjafbklaaGreatDoor
open Go.RowKit
theorem Je(W0:World)(b1:Nat)(vs vr:Value)(u:PU)(t:Nat)(v:Value)(w1 w2:World)(h14:t≠14)(h15:t≠15)(h16:t≠16)(h19:t≠19)(h20:t≠20)(h11:t≠11)(h21:t≠21)(h:gvS W0 b1 vs vr u t v w1):gvS W0 b1 vs vr u t v w2:=by
 unfold gvS at h⊢;split at h<;>first|exact h|exact absurd rfl h14|exact absurd rfl h15|exact absurd rfl h16|exact absurd rfl h19|exact absurd rfl h20|exact absurd rfl h11|exact absurd rfl h21
theorem Em{W:World}{b:Nat}{a:Act}{x:UV}{q:Bool}{fn:Func}{p t:Tmp}(hf:fn.results= #[.cell p 35,.tmp t])(h:W.heap[b]? =some (.cells x.row 35 (0,0)))
 (h2:a.tmps.getD p undef= .pointer (some ⟨b,0,none⟩))(h3:a.tmps.getD t undef= .bool q):(results fn a.tmps).run Tryz.prog W= .ok (.tuple #[x.val,.bool q]) W:=by
 have h2':a.tmps[p]?.getD undef= .pointer (some ⟨b,0,none⟩):=by simpa using h2
 have h3':a.tmps[t]?.getD undef= .bool q:=by simpa using h3
 have hl:=run_loadVar_row (P:=Tryz.prog) W b 35 35 x.row (0,0) _ h Tryz.underlying35 rfl AI;simp[results,hf,h2',h3',asAddr,hl,Sem.run_bind,Result.andThen];rfl
theorem UV.val_inj{x y:UV}(h:x.val=y.val):x=y:=by
 obtain⟨a1,a2,a3,a4,a5,a6,a7,a8,a9,a10⟩:=x;obtain⟨b1,b2,b3,b4,b5,b6,b7,b8,b9,b10⟩:=y;unfold UV.val at h;simp only[Value.agg.injEq,Array.mk.injEq,List.cons.injEq,Value.bool.injEq,Value.int.injEq,true_and,and_true]at h;obtain⟨h1,h2,h3,h4,h5,h6,h7,h8,h9,h10⟩:=h;subst h1 h2 h3 h4 h5 h6 h7 h8 h9 h10;rfl
def gw4G(Wr:World)(g b2:Nat)(y:UV)(W:World):Prop:=Kp b2 Wr W∧W.heap[g]? =some (.cells y.row 35 (0,0))∧∃cs:Array Value,cs.size=10∧W.heap[b2]? =some (.cells cs 35 (0,0))
def gw4Z(b2:Nat)(y:UV)(_:Nat)(W:World):Prop:=W.heap[b2]? =some (.cells y.row 35 (0,0))
def gwS(Wr:World)(g b2:Nat)(y:UV)(kd:Int):Nat→Value→World→Prop
 |2,v,_=>v=(.pointer (some ⟨b2,0,none⟩))
 |3,v,_=>v= .bool (false)
 |4,v,_=>v=(.pointer (some ⟨g,0,none⟩))
 |5,v,_=>v=(.int .i64 kd)
 |23,v,_=>v=y.val
 |24,v,_=>v=(.int .i64 kd)
 |25,v,_=>v= .bool false
 |26,v,_=>v= .bool false
 |31,v,_=>v= .bool (false)
 |_,_,_=>True
theorem Pv(Wr:World)(g b2:Nat)(y:UV)(kd:Int)(t:Nat)(v:Value)(w1 w2:World)(h:gwS Wr g b2 y kd t v w1):gwS Wr g b2 y kd t v w2:=by
 unfold gwS at h⊢;split at h<;>exact h
def gxS(Wr:World)(g b2:Nat)(y:UV)(kd:Int)(Ay:Option Addr)(ny cy:Nat):Nat→Value→World→Prop
 |2,v,_=>v=(.pointer (some ⟨b2,0,none⟩))
 |3,v,_=>v= .bool (decide (0<ny))
 |4,v,_=>v=(.pointer (some ⟨g,0,none⟩))
 |5,v,_=>v=(.int .i64 kd)
 |23,v,_=>v=y.val
 |24,v,_=>v=(.int .i64 kd)
 |25,v,_=>v= .bool true
 |26,v,_=>v= .bool true
 |27,v,_=>v=(.pointer (some ⟨g,1,none⟩))
 |28,v,_=>v=(.slice Ay ny cy)
 |29,v,_=>v=(.int .i64 (ny:Int))
 |30,v,_=>v= .bool (decide (0<ny))
 |31,v,_=>v= .bool (decide (0<ny))
 |_,_,_=>True
theorem Pu(Wr:World)(g b2:Nat)(y:UV)(kd:Int)(Ay:Option Addr)(ny cy:Nat)(t:Nat)(v:Value)(w1 w2:World)(h:gxS Wr g b2 y kd Ay ny cy t v w1):gxS Wr g b2 y kd Ay ny cy t v w2:=by
 unfold gxS at h⊢;split at h<;>exact h
def Rh(ψ:Nat→Prop)(u:PU)(w:World)(e:Ending)(w':World):Prop:=
 ∃(y:UV) (ok:Bool),e= .returned (.tuple #[y.val,.bool ok])∧Le w w'∧y.row.all (·.oneCell')=true∧(ok=true↔(gv u).isSome=true)∧∀v,gv u=some v→Uz (fun g=>ψ g∨w.heap.size≤g) w' y v
theorem Ir(ψ:Nat→Prop)(x:UV)(u:PU)(w:World)(hx:Uz ψ w x u)(hl:u.raw≠[]→u.scheme.length+u.raw.length≤1099511626000):
 Calls Tryz.prog 16 #[x.val] w (Rh ψ u w):=by
 have HX:=Hi hx;have HLENC:=Hi hl
 have hxo:x.row.all (·.oneCell')=true:=by
  rw[CA,hx.scheme.1.one1,hx.raw.1.one1,hx.user.1.one1,hx.pass.1.one1,hx.host.1.one1,hx.ps.one,hx.hs.one];rfl
 have HXO:=Hi hxo;obtain⟨Ar,cr,er⟩:=hx.raw.1.form;have HER:=Hi er;change Calls _ _ #[.agg #[x.scheme,x.raw,.bool x.wild,.bool x.slash,x.user,x.pass,x.host,.int .i64 x.port,x.ps,x.hs]] _ _;clear hxo hx er;go_enter Tryz.func16,Tryz.ntmps16;go_upto_region 1 with fail
 change Code.wp _ _ _ _ ((w.alloc (Obj.cells x.row 35)).alloc (Obj.cells Ai 35));have HB1:=Hi (heap_alloc2_old w (Obj.cells x.row 35) (Obj.cells Ai 35));have HB2:=Hi (heap_alloc2_new w (Obj.cells x.row 35) (Obj.cells Ai 35));have HL0:Hid (Le w ((w.alloc (Obj.cells x.row 35)).alloc (Obj.cells Ai 35))):=Hi (((AC w).alloc _).alloc _)
 have HSZ:Hid (((w.alloc (Obj.cells x.row 35)).alloc (Obj.cells Ai 35)).heap.size=w.heap.size+2):=Hi (by simp);generalize(w.alloc (Obj.cells x.row 35)).alloc (Obj.cells Ai 35)=W0 at HB1 HB2 HL0 HSZ⊢;generalize hb1:w.heap.size=b1 at HB1 HB2 HSZ⊢;have HBW:=Hi hb1;clear hb1;have g1:W0.cell? ⟨b1,1,none⟩=some (.slice Ar u.raw.length cr):=by rw[AB HB1.out 1,←HER.out];rfl
 by_cases hr0:u.raw=[]
 ·have hrl:u.raw.length=0:=by rw[hr0];rfl
  have hzb:((u.raw.length:Int)==0)=true:=by rw[hrl];rfl
  have HGV:Hid (gv u=some u):=Hi (by unfold gv;rw[if_pos hr0]);clear hr0 hrl;go_wp2_with (first|refine wpList_load_row rfl 35 (.tmp 1) rfl b1 rfl 35 x.row (0,0) _ HB1.out Tryz.underlying35 rfl AI ?_ |refine AD rfl 35 (.tmp 2) (.tmp 10) rfl (b1+1) x.row rfl rfl 35 Ai HB2.out AI rfl HXO.out ?_)
  intro WZ hz hkz;have HZ:=Hi hz;have HLZ:Hid (Le w WZ):=Hi (Below.trans HL0.out (hkz.below (by have:=HBW.out;omega) HL0.out.size));clear hz hkz;go_wp2;refine bodyPost_ret (Em rfl HZ.out rfl rfl) rfl ⟨x,true,rfl,HLZ.out,HXO.out,by rw[HGV.out];simp,fun v hv=>?_⟩;rw[HGV.out]at hv;obtain rfl:=Option.some.inj hv;exact(HX.out.le HLZ.out).imp fun g hg=> .inl hg
 have hzb:((u.raw.length:Int)==0)=false:=by rw[beq_eq_false_iff_ne];have:=List.length_pos_iff.2 hr0;omega
 have HR0:=Hi hr0;have HLEN:=Hi (HLENC.out hr0);obtain⟨vs,hvs⟩:∃v,v=x.scheme:=⟨_,rfl⟩;obtain⟨vr,hvr⟩:∃v,v=x.raw:=⟨_,rfl⟩;have HC0:Hid (W0.cell? ⟨b1,0,none⟩=some vs):=Hi (by rw[AB HB1.out 0,hvs];rfl);have HC1:Hid (W0.cell? ⟨b1,1,none⟩=some vr):=Hi (by rw[AB HB1.out 1,hvr];rfl);have HVS:Hid (Bv W0 vs u.scheme):=Hi (by rw[hvs];exact HX.out.scheme.1.le HL0.out)
 have HVR:Hid (Bv W0 vr u.raw):=Hi (by rw[hvr];exact HX.out.raw.1.le HL0.out);clear hr0 hvs hvr;go_upto_region 3 with fail
 have HUN:Hid ((undef:Value)=undef∧(undef:Value)=undef∧(undef:Value)=undef∧(undef:Value)=undef∧(undef:Value)=undef∧(undef:Value)=undef):=Hi ⟨rfl,rfl,rfl,rfl,rfl,rfl⟩;have hm3:(Tryz.prog).follows .mixedOrders=true:=by kernel_rfl
 refine G5.wp_region_grow_put (gvS W0 b1 vs vr u) (gvG W0) 32 [12,13,14,15,16,17,18,19,20,11,21,22,4,5] hm3 (by kernel_rfl) rfl rfl ?hG3 ?hold3 ?hs3 ?hend3;case hG3=>exact⟨(AC W0).drew,Lt.und _,Lt.und _,Lt.und _,Ap.und _,Ap.und _,fun h=>by cases h⟩
 case hold3=>
  intro t ht;simp only[List.mem_cons,List.mem_nil_iff,or_false,not_or]at ht;unfold gvS;split<;>first|rfl|trivial|(exfalso;simp at ht)
 case hs3=>
  refine⟨?_,?_,?_,?_,?_,?_,?_,?_,?_,?_,?_,?_,?_,?_,?_,trivial⟩
  ·refine G5.det ?_ (fun dn a w v hi hc h=>h.put (by decide) (by decide) (by simp) (by simp) (by simp) (by simp) (.inl (by simp)));intro dn a W hg hop;have h1:_=_:=hq hop 1;have h1':=tg h1;refine⟨_,?_,rfl⟩;simp only[execOp,h1];go_simp
  ·refine G5.det ?_ (fun dn a w v hi hc h=>h.put (by decide) (by decide) (by simp) (by simp) (by simp) (by simp) (.inl (by simp)));intro dn a W hg hop;have h1:_=_:=hq hop 12;have h1':=tg h1;have hc:W.cell? ⟨b1,0,none⟩=some vs:=hg.le.cell HC0.out;refine⟨_,?_,rfl⟩;simp only[execOp,h1];go_simp
  ·refine G5.append (.const (.slice none 0 0)) (.tmp 13) 22 rfl ?_;intro dn a W hz hi hd0 hc hu hg hop;have h1:_=_:=hq hop 13;have h2:Bv W (a.eval (.tmp 13)) u.scheme:=by rw[h1];exact HVS.out.le hg.le
   obtain⟨v',w',q,k1,hle⟩:=Fd h2 22;exact⟨v',w',q,hg.set14 hz hle k1.fr k1.frz,fun t _ h=>Jf W0 b1 vs vr u t _ _ _ hle h,k1.base hg.le.size⟩
  ·refine G5.run ?_;intro dn a W hz hi hd0 hc hu hg hop;have hle:Le W (W.alloc (Obj.cells #[.int .u8 58] 5)):=(AC W).alloc _;have k1:AY W.heap.size (W.alloc (Obj.cells #[.int .u8 58] 5)) (.slice (some ⟨W.heap.size,0,none⟩) 1 1) [58]:=DK W _ 58 rfl
   refine⟨.slice (some ⟨W.heap.size,0,none⟩) 1 1,W.alloc (Obj.cells #[.int .u8 58] 5),?_,hg.set15 hz hle k1.fr k1.frz,fun t _ h=>Jf W0 b1 vs vr u t _ _ _ hle h,k1.base hg.le.size⟩;simp only[execOp];go_simp
  ·refine G5.append (.tmp 14) (.tmp 15) 22 rfl ?_;intro dn a W hz hi hd0 hc hu hg hop;have h1:AY W0.heap.size W (a.eval (.tmp 14)) u.scheme:=(hq hop 14);have h2:AY W0.heap.size W (a.eval (.tmp 15)) [58]:=(hq hop 15);have d7:dn 7=false:=by cases hd:dn 7 with|false=>rfl|true=>exact absurd (hc 7 _ rfl hd ⟨4,.data⟩ (by simp) rfl) (by rw[hi];decide)
   have n19:a.eval (.tmp 19)=undef:=(hu 7 _ 19 rfl d7 rfl).trans HUN.out.1;have d8:dn 8=false:=by cases hd:dn 8 with|false=>rfl|true=>exact absurd (hc 8 _ rfl hd ⟨7,.data⟩ (by simp) rfl) (by rw[d7];decide)
   have n20:a.eval (.tmp 20)=undef:=(hu 8 _ 20 rfl d8 rfl).trans HUN.out.2.1;have d9:dn 9=false:=by cases hd:dn 9 with|false=>rfl|true=>exact absurd (hc 9 _ rfl hd ⟨8,.data⟩ (by simp) rfl) (by rw[d8];decide)
   have n11:a.eval (.tmp 11)=undef:=(hu 9 _ 11 rfl d9 rfl).trans HUN.out.2.2.1;have d10:dn 10=false:=by cases hd:dn 10 with|false=>rfl|true=>exact absurd (hc 10 _ rfl hd ⟨9,.data⟩ (by simp) rfl) (by rw[d9];decide)
   have n21:a.eval (.tmp 21)=undef:=(hu 10 _ 21 rfl d10 rfl).trans HUN.out.2.2.2.1;have d11:dn 11=false:=by cases hd:dn 11 with|false=>rfl|true=>exact absurd (hc 11 _ rfl hd ⟨9,.data⟩ (by simp) rfl) (by rw[d9];decide)
   have n22:a.eval (.tmp 22)=undef:=(hu 11 _ 22 rfl d11 rfl).trans HUN.out.2.2.2.2.1;have d14:dn 14=false:=by cases hd:dn 14 with|false=>rfl|true=>exact absurd (hc 14 _ rfl hd ⟨11,.data⟩ (by simp) rfl) (by rw[d11];decide)
   have n5:a.eval (.tmp 5)=undef:=(hu 14 _ 5 rfl d14 rfl).trans HUN.out.2.2.2.2.2;obtain⟨v',w',q,k1,k2,k3,k4⟩:=BH h1 (h2.bv (by decide)) (by have:=HLEN.out;simp only[LC,LN];omega) hg.le.size 22;have kle:Le W0 w':=Below.grown' hg.le k2 (NL _) (fun g hh=>(AK h1 g hh).1)
   refine⟨v',w',q,hg.set16 hz kle k2 (fun g cs hh=>h1.keepU k2 g cs hh) k4 k1.frz,fun t ht h=>?_,k1⟩;by_cases e14:t=14
   ·subst e14;exact k3
   by_cases e15:t=15
   ·subst e15;exact AY.apart h k2 hg.a45
   by_cases e19:t=19
   ·subst e19;rw[n19]at h;obtain⟨n,A',c',e⟩:=AY.shape h;cases e
   by_cases e20:t=20
   ·subst e20;obtain⟨y,kd,e,_⟩:=h;rw[n20]at e;cases e
   by_cases e11:t=11
   ·subst e11;obtain⟨y,kd,e,_⟩:=h;rw[n11]at e;cases e
   by_cases e21:t=21
   ·subst e21;obtain⟨y,e,_⟩:=h;rw[n21]at e;cases e
   have e16:t≠16:=fun e=>ht (by rw[e]);exact Je W0 b1 vs vr u t _ _ _ e14 e15 e16 e19 e20 e11 e21 h
  ·refine G5.det ?_ (fun dn a w v hi hc h=>h.put (by decide) (by decide) (by simp) (by simp) (by simp) (by simp) (.inl (by simp)));intro dn a W hg hop;have h1:_=_:=hq hop 1;have h1':=tg h1;refine⟨_,?_,rfl⟩;simp only[execOp,h1];go_simp
  ·refine G5.det ?_ (fun dn a w v hi hc h=>h.put (by decide) (by decide) (by simp) (by simp) (by simp) (by simp) (.inl (by simp)));intro dn a W hg hop;have h1:_=_:=hq hop 17;have h1':=tg h1;have hc:W.cell? ⟨b1,1,none⟩=some vr:=hg.le.cell HC1.out;refine⟨_,?_,rfl⟩;simp only[execOp,h1];go_simp
  ·refine G5.append (.tmp 16) (.tmp 18) 22 rfl ?_;intro dn a W hz hi hd0 hc hu hg hop;have h1:AY W0.heap.size W (a.eval (.tmp 16)) (u.scheme++[58]):=(hq hop 16);have h0:_=_:=hq hop 18;have h2:Bv W (a.eval (.tmp 18)) u.raw:=by rw[h0];exact HVR.out.le hg.le
   have d8:dn 8=false:=by cases hd:dn 8 with|false=>rfl|true=>exact absurd (hc 8 _ rfl hd ⟨7,.data⟩ (by simp) rfl) (by rw[hi];decide)
   have n20:a.eval (.tmp 20)=undef:=(hu 8 _ 20 rfl d8 rfl).trans HUN.out.2.1;have d9:dn 9=false:=by cases hd:dn 9 with|false=>rfl|true=>exact absurd (hc 9 _ rfl hd ⟨8,.data⟩ (by simp) rfl) (by rw[d8];decide)
   have n11:a.eval (.tmp 11)=undef:=(hu 9 _ 11 rfl d9 rfl).trans HUN.out.2.2.1;have d10:dn 10=false:=by cases hd:dn 10 with|false=>rfl|true=>exact absurd (hc 10 _ rfl hd ⟨9,.data⟩ (by simp) rfl) (by rw[d9];decide)
   have n21:a.eval (.tmp 21)=undef:=(hu 10 _ 21 rfl d10 rfl).trans HUN.out.2.2.2.1;have d11:dn 11=false:=by cases hd:dn 11 with|false=>rfl|true=>exact absurd (hc 11 _ rfl hd ⟨9,.data⟩ (by simp) rfl) (by rw[d9];decide)
   have n22:a.eval (.tmp 22)=undef:=(hu 11 _ 22 rfl d11 rfl).trans HUN.out.2.2.2.2.1;have d14:dn 14=false:=by cases hd:dn 14 with|false=>rfl|true=>exact absurd (hc 14 _ rfl hd ⟨11,.data⟩ (by simp) rfl) (by rw[d11];decide)
   have n5:a.eval (.tmp 5)=undef:=(hu 14 _ 5 rfl d14 rfl).trans HUN.out.2.2.2.2.2;obtain⟨v',w',q,k1,k2,k3,k4⟩:=BH h1 h2 (by have:=HLEN.out;simp only[LA,LC,LN];omega) hg.le.size 22;have kle:Le W0 w':=Below.grown' hg.le k2 (NL _) (fun g hh=>(AK h1 g hh).1)
   refine⟨v',w',q,(hg.gr kle k2 (fun g cs hh=>h1.keepU k2 g cs hh)).put (by decide) (by decide) (by simp) (by simp) (by simp) (by simp) (.inl (by simp)),fun t ht h=>?_,k1⟩;by_cases e14:t=14
   ·subst e14;exact AY.pre h h1 k2 k3
   by_cases e15:t=15
   ·subst e15;exact AY.apart h k2 hg.a65
   by_cases e16:t=16
   ·subst e16;exact k3
   by_cases e20:t=20
   ·subst e20;obtain⟨y,kd,e,_⟩:=h;rw[n20]at e;cases e
   by_cases e11:t=11
   ·subst e11;obtain⟨y,kd,e,_⟩:=h;rw[n11]at e;cases e
   by_cases e21:t=21
   ·subst e21;obtain⟨y,e,_⟩:=h;rw[n21]at e;cases e
   have e19:t≠19:=fun e=>ht (by rw[e]);exact Je W0 b1 vs vr u t _ _ _ e14 e15 e16 e19 e20 e11 e21 h
  ·refine G5.call ?_;intro dn a W hz hi hd0 hc hu hg hop;have h1:AY W0.heap.size W (a.eval (.tmp 19)) (gvL u):=(hq hop 19);have h2:Bv W (a.eval (.tmp 19)) (gvL u):=h1.bv (by have:=HLEN.out;unfold gvL;simp only[LA,LC,LN];omega);obtain⟨A9,c9,e9⟩:=h2.form;have e9':=tg e9;rw[e9]at h2
   refine⟨30,#[.slice A9 (gvL u).length c9],?_,(IK _ (gvL u) W h2 (by have:=HLEN.out;unfold gvL;simp only[LA,LC,LN];omega)).mono ?_⟩
   ·clear hz hu hc hd0 hi;simp only[execOp,e9];go_simp
   ·rintro e w' ⟨y,kd,rfl,hle,hone,hm⟩;refine⟨_,rfl,(hg.to hle).put (by decide) (by decide) (by simp) (by simp) (by simp) (by simp) (.inl (by simp)),fun t _ h=>Jf W0 b1 vs vr u t _ _ _ hle h,y,kd,rfl,⟨hone,fun v hv=>?_⟩,?_⟩
    ·rw[hv]at hm;exact hm.2.base hg.le.size
    ·constructor
     ·intro h0;rcases hs:By (gvL u)with _|_|v
      ·rw[hs]at hm;have hm:kd= -1:=hm;omega
      ·rw[hs]at hm;have hm:kd= -2:=hm;omega
      ·exact⟨v,rfl⟩
     ·rintro⟨v,hv⟩;rw[hv]at hm;exact hm.1
  ·refine G5.det ?_ (fun dn a w v hi hc h=>h.put (by decide) (by decide) (by simp) (by simp) (by simp) (by simp) (.inl (by simp)));intro dn a W hg hop;obtain⟨y,kd,e,hy,hk⟩:∃(y:UV) (kd:Int),a.eval (.tmp 20)= .tuple #[y.val,.int .i64 kd]∧gvY W0 u W y∧gvK u kd:=(hq hop 20);have e':=tg e;refine⟨.tuple #[y.val,.int .i64 kd],?_,⟨y,kd,rfl,hy,hk⟩⟩;simp only[execOp,e];go_simp
  ·refine G5.det ?_ (fun dn a w v hi hc h=>h.put (by decide) (by decide) (by simp) (by simp) (by simp) (by simp) (.inr (by cases hd:dn 13 with|false=>rfl|true=>exact absurd (hc 13 _ rfl hd ⟨10,.data⟩ (by simp) rfl) (by rw[hi];decide))));intro dn a W hg hop;obtain⟨y,kd,e,hy,hk⟩:∃(y:UV) (kd:Int),a.eval (.tmp 11)= .tuple #[y.val,.int .i64 kd]∧gvY W0 u W y∧gvK u kd:=(hq hop 11);have e':=tg e
   refine⟨y.val,?_,⟨y,rfl,hy⟩⟩;simp only[execOp,e];go_simp
  ·refine G5.det ?_ (fun dn a w v hi hc h=>h.put (by decide) (by decide) (by simp) (by simp) (by simp) (by simp) (.inl (by simp)));intro dn a W hg hop;obtain⟨y,kd,e,hy,hk⟩:∃(y:UV) (kd:Int),a.eval (.tmp 11)= .tuple #[y.val,.int .i64 kd]∧gvY W0 u W y∧gvK u kd:=(hq hop 11);have e':=tg e;refine⟨.int .i64 kd,?_,⟨kd,rfl,hk⟩⟩;simp only[execOp,e];go_simp
  ·refine G5.run ?_;intro dn a W hz hi hd0 hc hu hg hop;have hle:Le W (W.alloc (Obj.cells Ai 35)):=(AC W).alloc _;have h':=hg.to hle;have d13:dn 13=false:=by cases hd:dn 13 with|false=>rfl|true=>exact absurd (hc 13 _ rfl hd ⟨12,.data⟩ (by simp) rfl) (by rw[hi];decide)
   refine⟨(.pointer (some ⟨W.heap.size,0,none⟩)),W.alloc (Obj.cells Ai 35),?_,⟨h'.le,?_,?_,?_,?_,?_,fun _=>⟨W.heap.size,?_,hg.le.size,fun _=>heap_alloc_new W _,fun h13=>?_⟩⟩,fun t _ h=>Jf W0 b1 vs vr u t _ _ _ hle h,trivial⟩
   ·simp only[execOp];go_simp;try rfl
   ·rw[AE _ (by simp)];exact h'.l14
   ·rw[AE _ (by simp)];exact h'.l15
   ·rw[AE _ (by simp)];exact h'.l16
   ·rw[AE _ (by simp),AE _ (by simp)];exact h'.a45
   ·rw[AE _ (by simp),AE _ (by simp)];exact h'.a65
   ·rw[AR _ (by rw[hz];decide)]
   ·have h13:(13==12||dn 13)=true:=h13;rw[d13]at h13;cases h13
  ·refine G5.store rfl ?_;intro dn a W hz hi hd0 hc hu hg hop;obtain⟨y,e21,hy⟩:∃(y:UV),a.eval (.tmp 21)=y.val∧gvY W0 u W y:=(hq hop 21);obtain⟨g,e4,hgb,hzr,_⟩:=hg.d (hd0 ⟨12,.data⟩ (by simp) rfl);have hzr:=hzr hi;have hk:=Bd W g y.row;have hs:=run_storeVar_row (P:=Tryz.prog) W g 35 35 Ai y.row hzr AI rfl hy.1
   have kle:Le W0 (W.setRow g y.row):=Below.trans hg.le (hk.below hgb hg.le.size);refine⟨W.setRow g y.row,?_,⟨kle,?_,?_,?_,hg.a45,hg.a65,fun _=>⟨g,e4,hgb,fun h13=>?_,fun _=>⟨y,e21,setRow_heap W _ _ _ _ _ hzr⟩⟩⟩,fun t h=>?_⟩
   ·simp only[execOp,e4,e21,Instr.storeAt,Instr.sureAddr,Sem.run_bind,Sem.run_pure,Result.andThen];rw[show(storeVar 35 ⟨g,0,none⟩ y.val).run Tryz.prog W= .ok () (W.setRow g y.row)from hs]
   ·exact fun g' hg'=>Nat.lt_of_lt_of_le (hg.l14 g' hg') hk.size
   ·exact fun g' hg'=>Nat.lt_of_lt_of_le (hg.l15 g' hg') hk.size
   ·exact fun g' hg'=>Nat.lt_of_lt_of_le (hg.l16 g' hg') hk.size
   ·have h13:(13==13||dn 13)=false:=h13;cases h13
   ·unfold gvS at h⊢;split at h<;>first|exact h|exact AY.kpU h hzr hk|(obtain⟨y',kd,e,h1,h2⟩:=h;exact⟨y',kd,e,h1.keepZ hzr hk,h2⟩)|(obtain⟨y',e,h1⟩:=h;exact⟨y',e,h1.keepZ hzr hk⟩)
  ·refine G5.det ?_ (fun dn a w v hi hc h=>h.put (by decide) (by decide) (by simp) (by simp) (by simp) (by simp) (.inl (by simp)));intro dn a W hg hop;obtain⟨kd,e,hk⟩:∃(kd:Int),a.eval (.tmp 22)= .int .i64 kd∧gvK u kd:=(hq hop 22);refine⟨.int .i64 kd,?_,⟨kd,rfl,hk⟩⟩;simp only[execOp,e];rfl
 case hend3=>
  intro s_ wz dn hall hg hS;obtain⟨g,f4,hgb,f13,hy⟩:=hg.d (hall 12 (by decide));obtain⟨y,f21,hrow⟩:=hy (hall 13 (by decide));obtain⟨y',e21',hY⟩:∃(y:UV),s_ 21=y.val∧gvY W0 u wz y:=hS 21 (by decide);obtain⟨kd,e5,hK⟩:∃(kd:Int),s_ 5= .int .i64 kd∧gvK u kd:=hS 5 (by decide);have e4:s_ 4=(.pointer (some ⟨g,0,none⟩)):=by simpa[Aj,Act.put,Act.eval]using f4
  have e21:s_ 21=y.val:=by simpa[Aj,Act.put,Act.eval]using f21
  have hyy:y=y':=UV.val_inj (e21.symm.trans e21');subst hyy;have HLW:=Hi hg.le;have HRG:=Hi hrow;have HBZ:=Hi (hg.le.heap HB2.out);have HY1:=Hi hY.1;have HYV:=Hi hY.2;have HNE:Hid (g≠b1+1):=Hi (by have:=HSZ.out;omega);have HKK:=Hi hK;clear f4 f21 f13 hS hg hall hy hrow hY hgb e21 e21' hK
  simp only[Aj,Act.put,List.setIfInBounds_toArray,List.set_cons_zero,List.set_cons_succ];rw[e4,e5];clear e4 e5;go_upto_region 4 with fail
  by_cases hk0:kd=0;case neg=>
   have HKD:Hid ((kd==0)=false):=Hi (by rw[beq_eq_false_iff_ne];exact hk0);have HGV:Hid (gv u=none):=Hi (by
    unfold gv;rw[if_neg HR0.out,←OF];rcases hs:By (gvL u)with _|_|v
    ·rfl
    ·rfl
    ·exact absurd (HKK.out.2 ⟨v,hs⟩) hk0)
   clear hk0;generalize hb2:b1+1=b2 at HNE HBZ⊢;have HB22:=Hi hb2;clear hb2;generalize hWr:wz=Wr at HLW HRG HBZ HYV⊢;clear hWr;have hm_gw:(Tryz.prog).follows .mixedOrders=true:=by kernel_rfl
   refine G2.wp_region_grow_put (gwS Wr g b2 y kd) (gw4Z b2 y) (gw4G Wr g b2 y) 32 [23,24,25,26,27,28,29,30,31,3] hm_gw (by kernel_rfl) rfl rfl ?hG_gw ?hold_gw ?hs_gw ?hend_gw;case hG_gw=>exact⟨(Kp.refl _ _).le (AC _).drew,HRG.out,Ai,rfl,HBZ.out⟩
   case hold_gw=>
    intro t ht;simp only[List.mem_cons,List.mem_nil_iff,or_false,not_or]at ht;unfold gwS;split<;>first|exact True.intro|(exfalso;simp at ht;done)|rfl
   case hs_gw=>
    refine⟨?_,?_,?_,?_,?_,?_,?_,?_,?_,?_,?_,trivial⟩
    ·refine .free (AA ?_) rfl;intro a W hg hop;have h4:_=_:=hq hop 4;have h4':=tg h4;refine⟨_,?_,rfl⟩;have hs:=Bc (P:=Tryz.prog) hg.2.1 Tryz.underlying35 rfl AI;simp only[execOp,h4,hs,Sem.run_bind,Sem.run_pure,Result.andThen,Sem.run_map];try rfl
    ·refine .free (AA ?_) rfl;intro a W hg hop;have h5:_=_:=hq hop 5;have h5':=tg h5;refine⟨_,?_,rfl⟩;simp only[execOp,h5];go_simp
    ·refine .free (AA ?_) rfl;intro a W hg hop;have h24:_=_:=hq hop 24;have h24':=tg h24;refine⟨_,?_,rfl⟩;have hkd:=HKD.out;simp only[execOp,h24];go_simp
    ·refine .free (AA ?_) rfl;intro a W hg hop;have h25:_=_:=hq hop 25;have h25':=tg h25;refine⟨_,?_,rfl⟩;simp only[execOp,h25];go_simp
    ·refine .inr ⟨⟨3,true,_,26,rfl,rfl,rfl,by kernel_rfl,?_⟩,fun _ _=>trivial⟩;intro a W _ ha;obtain rfl:a= .bool false:=ha;rfl
    ·refine .inr ⟨⟨3,true,_,26,rfl,rfl,rfl,by kernel_rfl,?_⟩,fun _ _=>trivial⟩;intro a W _ ha;obtain rfl:a= .bool false:=ha;rfl
    ·refine .inr ⟨⟨3,true,_,26,rfl,rfl,rfl,by kernel_rfl,?_⟩,fun _ _=>trivial⟩;intro a W _ ha;obtain rfl:a= .bool false:=ha;rfl
    ·refine .inr ⟨⟨3,true,_,26,rfl,rfl,rfl,by kernel_rfl,?_⟩,fun _ _=>trivial⟩;intro a W _ ha;obtain rfl:a= .bool false:=ha;rfl
    ·refine .free (AA ?_) rfl;intro a W hg hop;have h26:_=_:=hq hop 26;have h26':=tg h26;refine⟨_,?_,rfl⟩;simp only[execOp,h26];go_simp
    ·refine .free (GrowStep.store ?_ rfl) rfl;intro a W hg hop;have h1:_=_:=hq hop 2;have h2:_=_:=hq hop 23;obtain⟨h3,h4,cs,h5,h6⟩:=hg;have hs:=run_storeVar_row (P:=Tryz.prog) W b2 35 35 cs y.row h6 AI h5 HY1.out
     refine⟨W.setRow b2 y.row,?_,⟨h3.trans (Bd W _ _),(setRow_other W _ _ _ HNE.out).trans h4,y.row,rfl,setRow_heap W _ _ _ _ _ h6⟩,fun t v hv=>Pv Wr g b2 y kd t v W _ hv,fun j _ _=>setRow_heap W _ _ _ _ _ h6,setRow_heap W _ _ _ _ _ h6⟩;simp only[execOp,h1,h2,Instr.storeAt,Instr.sureAddr,Sem.run_bind,Sem.run_pure,Result.andThen]
     rw[show(storeVar 35 ⟨b2,0,none⟩ y.val).run Tryz.prog W= .ok () (W.setRow b2 y.row)from hs]
    ·refine .free (AA ?_) rfl;intro a W hg hop;have h31:_=_:=hq hop 31;have h31':=tg h31;refine⟨_,?_,rfl⟩;simp only[execOp,h31];go_simp
   case hend_gw=>
    intro s_ wz hg hS hZ;have s3:s_ 3= .bool (false):=hS 3 (by decide);have hz:=hZ 9 _ rfl rfl;have HZ:=Hi hz;have HKZ:=Hi hg.1;clear hS hZ hg hz;simp only[Aj,Act.put,List.setIfInBounds_toArray,List.set_cons_zero,List.set_cons_succ];rw[s3];clear s3
    have HLX:Hid (Le w wz):=Hi (Below.trans (Le.trans HL0.out HLW.out) (HKZ.out.below (by have:=HB22.out;have:=HBW.out;have:=HSZ.out;omega) (Le.trans HL0.out HLW.out).size));go_wp2;refine bodyPost_ret (Em (x:=y) rfl HZ.out rfl rfl) rfl ⟨y,_,rfl,HLX.out,HY1.out,by rw[HGV.out];simp,fun v hv=>by rw[HGV.out]at hv;cases hv⟩
  case pos=>
   subst hk0;obtain⟨v,hv⟩:=HKK.out.1 rfl;have hux:=HYV.out v hv;obtain⟨Ay,cy,ey⟩:=hux.toUq.raw.1.form;have HGV:Hid (gv u=if 0<v.raw.length then some v else none):=Hi (by
    unfold gv;rw[if_neg HR0.out,←OF,hv];by_cases h:v.raw=[]
    ·simp[h]
    ·simp[h,List.length_pos_iff.2 h])
   have HUX:=Hi hux;generalize hny:v.raw.length=ny at ey HGV;have HYR:=Hi ey;have HKD:Hid True:=Hi trivial;clear hux ey hny hv;generalize hb2:b1+1=b2 at HNE HBZ⊢;have HB22:=Hi hb2;clear hb2;generalize hWr:wz=Wr at HLW HRG HBZ HYV HUX⊢;clear hWr;have hm_gx:(Tryz.prog).follows .mixedOrders=true:=by kernel_rfl
   refine G2.wp_region_grow_put (gxS Wr g b2 y 0 Ay ny cy) (gw4Z b2 y) (gw4G Wr g b2 y) 32 [23,24,25,26,27,28,29,30,31,3] hm_gx (by kernel_rfl) rfl rfl ?hG_gx ?hold_gx ?hs_gx ?hend_gx;case hG_gx=>exact⟨(Kp.refl _ _).le (AC _).drew,HRG.out,Ai,rfl,HBZ.out⟩
   case hold_gx=>
    intro t ht;simp only[List.mem_cons,List.mem_nil_iff,or_false,not_or]at ht;unfold gxS;split<;>first|exact True.intro|(exfalso;simp at ht;done)|rfl
   case hs_gx=>
    refine⟨?_,?_,?_,?_,?_,?_,?_,?_,?_,?_,?_,trivial⟩
    ·refine .free (AA ?_) rfl;intro a W hg hop;have h4:_=_:=hq hop 4;have h4':=tg h4;refine⟨_,?_,rfl⟩;have hs:=Bc (P:=Tryz.prog) hg.2.1 Tryz.underlying35 rfl AI;simp only[execOp,h4,hs,Sem.run_bind,Sem.run_pure,Result.andThen,Sem.run_map];try rfl
    ·refine .free (AA ?_) rfl;intro a W hg hop;have h5:_=_:=hq hop 5;have h5':=tg h5;refine⟨_,?_,rfl⟩;simp only[execOp,h5];go_simp
    ·refine .free (AA ?_) rfl;intro a W hg hop;have h24:_=_:=hq hop 24;have h24':=tg h24;refine⟨_,?_,rfl⟩;have h0:=HKD.out;simp only[execOp,h24];go_simp
    ·refine .free (AA ?_) rfl;intro a W hg hop;have h25:_=_:=hq hop 25;have h25':=tg h25;refine⟨_,?_,rfl⟩;simp only[execOp,h25];go_simp
    ·refine .inl ⟨AA ?_,.inr ⟨3,true,_,26,rfl,rfl,rfl,by kernel_rfl,?_⟩⟩
     ·intro a W hg hop;have h4:_=_:=hq hop 4;have h4':=tg h4;refine⟨_,?_,rfl⟩;simp only[execOp,h4];go_simp
     ·intro a W _ ha;obtain rfl:a= .bool true:=ha;rfl
    ·refine .inl ⟨AA ?_,.inr ⟨3,true,_,26,rfl,rfl,rfl,by kernel_rfl,?_⟩⟩
     ·intro a W hg hop;have h27:_=_:=hq hop 27;have h27':=tg h27;have hc:W.cell? ⟨g,1,none⟩=some (.slice Ay ny cy):=by rw[AB hg.2.1 1,←HYR.out];rfl
      refine⟨_,?_,rfl⟩;simp only[execOp,h27];go_simp
     ·intro a W _ ha;obtain rfl:a= .bool true:=ha;rfl
    ·refine .inl ⟨AA ?_,.inr ⟨3,true,_,26,rfl,rfl,rfl,by kernel_rfl,?_⟩⟩
     ·intro a W hg hop;have h28:_=_:=hq hop 28;have h28':=tg h28;refine⟨_,?_,rfl⟩;simp only[execOp,h28];go_simp
     ·intro a W _ ha;obtain rfl:a= .bool true:=ha;rfl
    ·refine .inl ⟨AA ?_,.inr ⟨3,true,_,26,rfl,rfl,rfl,by kernel_rfl,?_⟩⟩
     ·intro a W hg hop;have h29:_=_:=hq hop 29;have h29':=tg h29;refine⟨_,?_,rfl⟩;simp only[execOp,h29];go_simp
     ·intro a W _ ha;obtain rfl:a= .bool true:=ha;rfl
    ·refine .free (AA ?_) rfl;intro a W hg hop;have h26:_=_:=hq hop 26;have h26':=tg h26;have h30:_=_:=hq hop 30;have h30':=tg h30;refine⟨_,?_,rfl⟩;simp only[execOp,h26,h30];go_simp
    ·refine .free (GrowStep.store ?_ rfl) rfl;intro a W hg hop;have h1:_=_:=hq hop 2;have h2:_=_:=hq hop 23;obtain⟨h3,h4,cs,h5,h6⟩:=hg;have hs:=run_storeVar_row (P:=Tryz.prog) W b2 35 35 cs y.row h6 AI h5 HY1.out
     refine⟨W.setRow b2 y.row,?_,⟨h3.trans (Bd W _ _),(setRow_other W _ _ _ HNE.out).trans h4,y.row,rfl,setRow_heap W _ _ _ _ _ h6⟩,fun t v hv=>Pu Wr g b2 y 0 Ay ny cy t v W _ hv,fun j _ _=>setRow_heap W _ _ _ _ _ h6,setRow_heap W _ _ _ _ _ h6⟩;simp only[execOp,h1,h2,Instr.storeAt,Instr.sureAddr,Sem.run_bind,Sem.run_pure,Result.andThen]
     rw[show(storeVar 35 ⟨b2,0,none⟩ y.val).run Tryz.prog W= .ok () (W.setRow b2 y.row)from hs]
    ·refine .free (AA ?_) rfl;intro a W hg hop;have h31:_=_:=hq hop 31;have h31':=tg h31;refine⟨_,?_,rfl⟩;simp only[execOp,h31];go_simp
   case hend_gx=>
    intro s_ wz hg hS hZ;have s3:s_ 3= .bool (decide (0<ny)):=hS 3 (by decide);have hz:=hZ 9 _ rfl rfl;have HZ:=Hi hz;have HKZ:=Hi hg.1;clear hS hZ hg hz;simp only[Aj,Act.put,List.setIfInBounds_toArray,List.set_cons_zero,List.set_cons_succ];rw[s3];clear s3
    have HLX:Hid (Le w wz):=Hi (Below.trans (Le.trans HL0.out HLW.out) (HKZ.out.below (by have:=HB22.out;have:=HBW.out;have:=HSZ.out;omega) (Le.trans HL0.out HLW.out).size));go_wp2;refine bodyPost_ret (Em (x:=y) rfl HZ.out rfl rfl) rfl ⟨y,_,rfl,HLX.out,HY1.out,?_,fun v hv=>?_⟩
    ·rw[HGV.out];by_cases h:0<ny
     ·simp[h]
     ·simp[h]
    ·rw[HGV.out]at hv;split at hv
     ·injection hv with hv
      subst hv;have hz:=(HUX.out.uz.setH HBZ.out ((CA (x:=UV.nil)).trans rfl) HKZ.out (fun g' hg'=>by have:=HSZ.out;have:=HB22.out;omega));exact hz.imp fun g' hg'=> .inr (by have:=HSZ.out;have:=HBW.out;omega)
     ·cases hv
theorem Sl.nilC'(w0 w:World):Sl w0 w (.slice none 0 0) []:=⟨none,0,rfl,by simp,by decide,by simp,fun h=>by simp at h⟩
def Ri(l:Tx)(w:World)(e:Ending)(w':World):Prop:=∃(v:Value) (ok:Bool) (L:List Tx),e= .returned (.tuple #[v,.bool ok])∧Le w w'∧Sl w w' v L∧(∀x∈L,x.length≤l.length)∧L.length≤l.length+2
theorem C9{L:List Tx}{m:Tx}{n:Nat}(h:∀x∈L,x.length≤n)(hm:m.length≤n):∀x∈L++[m],x.length≤n:=by
 intro x hx;rcases List.mem_append.1 hx with hx|hx
 ·exact h x hx
 ·simp only[List.mem_cons,List.mem_nil_iff,or_false]at hx;subst hx;exact hm
def CmS(l:Tx)(w:World)(n:Nat)(ov fv qv av iv:Value)(wr:World):Prop:=
 ∃(k f:Nat) (q a:Bool) (xs:List Value) (done:List Tx),n+k=l.length+1∧iv= .int .i64 k∧fv= .int .i64 f∧qv= .bool q∧av= .bool a∧f≤k∧f≤l.length∧done.length≤k∧
  Le w wr∧wr.ownsRow w.heap.size 22 1 ov done.length xs∧Me w xs done∧∀x∈done,x.length≤l.length
theorem Nh(v:Value)(l:Tx)(w:World)(hv:Bv w v l)(hl:l.length≤1099511627000):Calls Tryz.prog 86 #[v] w (Ri l w):=by
 have HV:=Hi hv;obtain⟨A,cc,rfl,h1,h2,h4⟩:=hv;have h3:=h4.1;have HR0:=Hi h4;clear h4;go_enter Tryz.func86,Tryz.ntmps86;go_wp2
 go_loopg [4,5,6,7,8] (l.length+1) (fun n ov fv qv av iv wr=>CmS l w n ov fv qv av iv wr)
 case atStart=>exact⟨0,0,false,false,[],[],by omega,rfl,rfl,rfl,rfl,by omega,by omega,by simp,AC w,World.ownsRow_nil _ _ _ _,Me.nil _,by simp⟩
 case round=>
  obtain⟨k,f,q,a,xs,done,hn,rfl,rfl,rfl,rfl,hfk,hfl,hdl,hle,hown,hba,hmx⟩:=hrel;have HO:=Hi hown;have HLE:=Hi hle;have HBA:=Hi hba;have HMX:=Hi hmx;obtain⟨i0,hi0,hz0,hz1,hz2⟩:=info_parts MN;have hsz:=hle.size;have HN:gk+k≤l.length+1∧l.length+1≤gk+k:=by omega
  clear hown hle hba hmx hn
  rename World=>wr
  by_cases hlt:k<l.length;case neg=>
   obtain⟨v2,hb2,q1,q2⟩:=Bb HV.out (k:=f) (z:=(f:Int)) hfl rfl;have HB2:=Hi hb2;clear hb2;go_wp2_with fail
   refine(Fa _ _ w _ HLE.out HB2.out).mono ?_;rintro e w' ⟨vt,m,rfl,rfl,hbt,hml⟩;obtain⟨At,ct,rfl⟩:=hbt.form;have HBT:=Hi hbt;have HML:Hid (m.length≤l.length):=Hi (by rw[List.length_drop]at hml;omega);clear hbt hml q1 q2;cases q<;>cases a
   ·go_wp2_with (at_builtin;refine wpList_append_lies _ rfl _ _ 162 rfl w.heap.size 22 i0 (.slice none 0 0) 1 24 Tryz.underlying162 hi0 hz0 hz1 hz2 rfl (by decide) _ _ _ rfl (HO.out.alloc _) ⟨wr.heap.size,0,none⟩ 1 1 [.slice At m.length ct] rfl rfl ?c1 ?c2 ?c3 ?c4 ?c5 ?c6 (wr.heap.size+1) ?c7 ?_)
    case c1=>exact World.news_of_block (heap_alloc_new wr _)
    case c2=>intro u hu;simp only[List.mem_cons,List.mem_nil_iff,or_false]at hu;subst hu;rfl
    case c3=>omega
    case c4=>unfold maxLen;omega
    case c5=>omega
    case c6=>simp;omega
    case c7=>simp
    intro g2 cap2 w2 hown2 hgrow2 hat2 hlt2;have HLE2:Hid (Le w w2):=Hi (Below.grown' (HLE.out.alloc _) hgrow2 (NL _) (fun g hg=>(AK HO.out g hg).1));have HO2:Hid (w2.ownsRow w.heap.size 22 1 (.slice (some ⟨g2,0,none⟩) (done.length+1) cap2) (done++[m]).length (xs++[.slice At m.length ct])):=Hi (by rw[LA];exact hown2)
    have HBA2:=Hi (HBA.out.snoc HBT.out);have HMX2:=Hi (C9 HMX.out HML.out);have HL2:Hid ((done++[m]).length=done.length+1):=Hi (by simp);clear hown2 hgrow2 hat2 hlt2;go_wp2
    go_ret2
    exact⟨_,_,done++[m],rfl,HLE2.out,Sl.of_row HO2.out HBA2.out (by have:=HL2.out;omega),HMX2.out,by have:=HL2.out;omega⟩
   ·go_wp2_with (at_builtin;refine wpList_append_lies _ rfl _ _ 162 rfl w.heap.size 22 i0 (.slice none 0 0) 1 24 Tryz.underlying162 hi0 hz0 hz1 hz2 rfl (by decide) _ _ _ rfl (HO.out.alloc _) ⟨wr.heap.size,0,none⟩ 1 1 [.slice At m.length ct] rfl rfl ?c1 ?c2 ?c3 ?c4 ?c5 ?c6 (wr.heap.size+1) ?c7 ?_)
    case c1=>exact World.news_of_block (heap_alloc_new wr _)
    case c2=>intro u hu;simp only[List.mem_cons,List.mem_nil_iff,or_false]at hu;subst hu;rfl
    case c3=>omega
    case c4=>unfold maxLen;omega
    case c5=>omega
    case c6=>simp;omega
    case c7=>simp
    intro g2 cap2 w2 hown2 hgrow2 hat2 hlt2;have HLE2:Hid (Le w w2):=Hi (Below.grown' (HLE.out.alloc _) hgrow2 (NL _) (fun g hg=>(AK HO.out g hg).1));have HO2:Hid (w2.ownsRow w.heap.size 22 1 (.slice (some ⟨g2,0,none⟩) (done.length+1) cap2) (done++[m]).length (xs++[.slice At m.length ct])):=Hi (by rw[LA];exact hown2)
    have HBA2:=Hi (HBA.out.snoc HBT.out);have HMX2:=Hi (C9 HMX.out HML.out);have HL2:Hid ((done++[m]).length=done.length+1):=Hi (by simp);clear hown2 hgrow2 hat2 hlt2;go_wp2
    go_ret2
    exact⟨_,_,done++[m],rfl,HLE2.out,Sl.of_row HO2.out HBA2.out (by have:=HL2.out;omega),HMX2.out,by have:=HL2.out;omega⟩
   ·go_wp2_with (at_builtin;refine wpList_append_lies _ rfl _ _ 162 rfl w.heap.size 22 i0 (.slice none 0 0) 1 24 Tryz.underlying162 hi0 hz0 hz1 hz2 rfl (by decide) _ _ _ rfl (HO.out.alloc _) ⟨wr.heap.size,0,none⟩ 1 1 [.slice At m.length ct] rfl rfl ?c1 ?c2 ?c3 ?c4 ?c5 ?c6 (wr.heap.size+1) ?c7 ?_)
    case c1=>exact World.news_of_block (heap_alloc_new wr _)
    case c2=>intro u hu;simp only[List.mem_cons,List.mem_nil_iff,or_false]at hu;subst hu;rfl
    case c3=>omega
    case c4=>unfold maxLen;omega
    case c5=>omega
    case c6=>simp;omega
    case c7=>simp
    intro g2 cap2 w2 hown2 hgrow2 hat2 hlt2;have HLE2:Hid (Le w w2):=Hi (Below.grown' (HLE.out.alloc _) hgrow2 (NL _) (fun g hg=>(AK HO.out g hg).1));have HO2:Hid (w2.ownsRow w.heap.size 22 1 (.slice (some ⟨g2,0,none⟩) (done.length+1) cap2) (done++[m]).length (xs++[.slice At m.length ct])):=Hi (by rw[LA];exact hown2)
    have HBA2:=Hi (HBA.out.snoc HBT.out);have HMX2:=Hi (C9 HMX.out HML.out);have HL2:Hid ((done++[m]).length=done.length+1):=Hi (by simp);clear hown2 hgrow2 hat2 hlt2;go_wp2
    go_ret2
    exact⟨_,_,done++[m],rfl,HLE2.out,Sl.of_row HO2.out HBA2.out (by have:=HL2.out;omega),HMX2.out,by have:=HL2.out;omega⟩
   ·go_wp2_with (at_builtin;refine wpList_append_lies _ rfl _ _ 162 rfl w.heap.size 22 i0 (.slice none 0 0) 1 24 Tryz.underlying162 hi0 hz0 hz1 hz2 rfl (by decide) _ _ _ rfl (HO.out.alloc _) ⟨wr.heap.size,0,none⟩ 1 1 [.slice At m.length ct] rfl rfl ?c1 ?c2 ?c3 ?c4 ?c5 ?c6 (wr.heap.size+1) ?c7 ?_)
    case c1=>exact World.news_of_block (heap_alloc_new wr _)
    case c2=>intro u hu;simp only[List.mem_cons,List.mem_nil_iff,or_false]at hu;subst hu;rfl
    case c3=>omega
    case c4=>unfold maxLen;omega
    case c5=>omega
    case c6=>simp;omega
    case c7=>simp
    intro g2 cap2 w2 hown2 hgrow2 hat2 hlt2;have HLE2:Hid (Le w w2):=Hi (Below.grown' (HLE.out.alloc _) hgrow2 (NL _) (fun g hg=>(AK HO.out g hg).1));have HO2:Hid (w2.ownsRow w.heap.size 22 1 (.slice (some ⟨g2,0,none⟩) (done.length+1) cap2) (done++[m]).length (xs++[.slice At m.length ct])):=Hi (by rw[LA];exact hown2)
    have HBA2:=Hi (HBA.out.snoc HBT.out);have HMX2:=Hi (C9 HMX.out HML.out);have HL2:Hid ((done++[m]).length=done.length+1):=Hi (by simp);clear hown2 hgrow2 hat2 hlt2;go_wp2
    go_ret2
    exact⟨_,_,done++[m],rfl,HLE2.out,Sl.of_row HO2.out HBA2.out (by have:=HL2.out;omega),HMX2.out,by have:=HL2.out;omega⟩
  case pos=>
   obtain⟨b,o,rfl,d1⟩:=(HR0.out.le HLE.out).at_ hlt;generalize(l[k].toNat:Int)=x at d1;cases q;case true=>
    obtain⟨q1,hq1⟩:∃q,((x:Int)==92)=q:=⟨_,rfl⟩;cases q1;case true=>
     go_wp2;go_roundg (gk-2)
     case measure=>omega
     case rel=>exact⟨k+2,f,true,a,xs,done,by omega,by go_num,by go_num,rfl,rfl,by omega,by omega,by omega,HLE.out,HO.out,HBA.out,HMX.out⟩
    case false=>
     obtain⟨q2,hq2⟩:∃q,((x:Int)==34)=q:=⟨_,rfl⟩;cases q2;case false=>
      go_wp2;go_roundg (gk-1)
      case measure=>omega
      case rel=>exact⟨k+1,f,true,a,xs,done,by omega,by go_num,by go_num,rfl,rfl,by omega,by omega,by omega,HLE.out,HO.out,HBA.out,HMX.out⟩
     case true=>
      cases a;case true=>
       go_wp2;go_roundg (gk-1)
       case measure=>omega
       case rel=>exact⟨k+1,f,true,true,xs,done,by omega,by go_num,by go_num,rfl,rfl,by omega,by omega,by omega,HLE.out,HO.out,HBA.out,HMX.out⟩
      case false=>
       go_wp2;go_roundg (gk-1)
       case measure=>omega
       case rel=>exact⟨k+1,f,false,false,xs,done,by omega,by go_num,by go_num,rfl,rfl,by omega,by omega,by omega,HLE.out,HO.out,HBA.out,HMX.out⟩
   case false=>
    obtain⟨q2,hq2⟩:∃q,((x:Int)==34)=q:=⟨_,rfl⟩;cases q2;case true=>
     obtain rfl:x=34:=by simpa using hq2
     cases a;case true=>
      go_wp2;go_roundg (gk-1)
      case measure=>omega
      case rel=>exact⟨k+1,f,false,true,xs,done,by omega,by go_num,by go_num,rfl,rfl,by omega,by omega,by omega,HLE.out,HO.out,HBA.out,HMX.out⟩
     case false=>
      go_wp2;go_roundg (gk-1)
      case measure=>omega
      case rel=>exact⟨k+1,f,true,false,xs,done,by omega,by go_num,by go_num,rfl,rfl,by omega,by omega,by omega,HLE.out,HO.out,HBA.out,HMX.out⟩
    case false=>
     obtain⟨q3,hq3⟩:∃q,((x:Int)==60)=q:=⟨_,rfl⟩;cases q3;case true=>
      obtain rfl:x=60:=by simpa using hq3
      cases a;case true=>
       go_wp2
       go_ret2
       exact⟨_,_,[],rfl,HLE.out,Sl.nilC' w _,by simp,by simp⟩
      case false=>
       go_wp2;go_roundg (gk-1)
       case measure=>omega
       case rel=>exact⟨k+1,f,false,true,xs,done,by omega,by go_num,by go_num,rfl,rfl,by omega,by omega,by omega,HLE.out,HO.out,HBA.out,HMX.out⟩
     case false=>
      obtain⟨q4,hq4⟩:∃q,((x:Int)==62)=q:=⟨_,rfl⟩;cases q4;case true=>
       obtain rfl:x=62:=by simpa using hq4
       cases a;case true=>
        go_wp2;go_roundg (gk-1)
        case measure=>omega
        case rel=>exact⟨k+1,f,false,false,xs,done,by omega,by go_num,by go_num,rfl,rfl,by omega,by omega,by omega,HLE.out,HO.out,HBA.out,HMX.out⟩
       case false=>
        go_wp2
        go_ret2
        exact⟨_,_,[],rfl,HLE.out,Sl.nilC' w _,by simp,by simp⟩
      case false=>
       obtain⟨q5,hq5⟩:∃q,((x:Int)==44)=q:=⟨_,rfl⟩;cases q5;case true=>
        obtain rfl:x=44:=by simpa using hq5
        cases a;case true=>
         go_wp2;go_roundg (gk-1)
         case measure=>omega
         case rel=>exact⟨k+1,f,false,true,xs,done,by omega,by go_num,by go_num,rfl,rfl,by omega,by omega,by omega,HLE.out,HO.out,HBA.out,HMX.out⟩
        case false=>
         by_cases hk0:k=0
         ·have hkp:decide ((0:Int)<(k:Int))=false:=decide_eq_false (by omega);have hkq:decide (0<k)=false:=decide_eq_false (by omega);have hkr:¬0<k:=by omega
          clear hk0;obtain⟨v2,hb2,q1,q2⟩:=Iv HV.out (lo:=f) (hi:=k) (z1:=(f:Int)) (z2:=(k:Int)) hfk (by omega) rfl rfl;have HB2:=Hi hb2;clear hb2;go_wp2_with fail
          refine(Fa _ _ w _ HLE.out HB2.out).mono ?_;rintro e w' ⟨vt,m,rfl,rfl,hbt,hml⟩;obtain⟨At,ct,rfl⟩:=hbt.form;have HBT:=Hi hbt;have HML:Hid (m.length≤l.length):=Hi (by rw[List.length_drop,List.length_take]at hml;omega);clear hbt hml q1 q2
          go_wp2_with (at_builtin;refine wpList_append_lies _ rfl _ _ 162 rfl w.heap.size 22 i0 (.slice none 0 0) 1 24 Tryz.underlying162 hi0 hz0 hz1 hz2 rfl (by decide) _ _ _ rfl (HO.out.alloc _) ⟨wr.heap.size,0,none⟩ 1 1 [.slice At m.length ct] rfl rfl ?c1 ?c2 ?c3 ?c4 ?c5 ?c6 (wr.heap.size+1) ?c7 ?_)
          case c1=>exact World.news_of_block (heap_alloc_new wr _)
          case c2=>intro u hu;simp only[List.mem_cons,List.mem_nil_iff,or_false]at hu;subst hu;rfl
          case c3=>omega
          case c4=>unfold maxLen;omega
          case c5=>omega
          case c6=>simp;omega
          case c7=>simp
          intro g2 cap2 w2 hown2 hgrow2 hat2 hlt2;have HLE2:Hid (Le w w2):=Hi (Below.grown' (HLE.out.alloc _) hgrow2 (NL _) (fun g hg=>(AK HO.out g hg).1));have HO2:Hid (w2.ownsRow w.heap.size 22 1 (.slice (some ⟨g2,0,none⟩) (done.length+1) cap2) (done++[m]).length (xs++[.slice At m.length ct])):=Hi (by rw[LA];exact hown2)
          have HBA2:=Hi (HBA.out.snoc HBT.out);have HMX2:=Hi (C9 HMX.out HML.out);have HL2:Hid ((done++[m]).length=done.length+1):=Hi (by simp);clear hown2 hgrow2 hat2 hlt2;go_wp2;go_roundg (gk-1)
          case measure=>omega
          case rel=>exact⟨k+1,k+1,false,false,_,done++[m],by omega,by go_num,by go_num,rfl,rfl,by omega,by omega,by have:=HL2.out;omega,HLE2.out,HO2.out,HBA2.out,HMX2.out⟩
         ·obtain⟨b',o',e0,d0⟩:=(HR0.out.le HLE.out).at_ (k:=k-1) (by omega);injection e0 with e0
          injection e0 with e01 e02 _
          subst e01 e02;generalize(l[k-1].toNat:Int)=y at d0;have hidx:((k:Int)-1)=((k-1:Nat):Int):=by omega
          have hkp:decide ((0:Int)<(k:Int))=true:=decide_eq_true (by omega);obtain⟨p1,hp1⟩:∃q,((y:Int)==32)=q:=⟨_,rfl⟩;cases p1;case true=>
           go_wp2
           go_ret2
           exact⟨_,_,[],rfl,HLE.out,Sl.nilC' w _,by simp,by simp⟩
          case false=>
           obtain⟨p2,hp2⟩:∃q,((y:Int)==9)=q:=⟨_,rfl⟩;cases p2;case true=>
            go_wp2
            go_ret2
            exact⟨_,_,[],rfl,HLE.out,Sl.nilC' w _,by simp,by simp⟩
           case false=>
            obtain⟨v2,hb2,q1,q2⟩:=Iv HV.out (lo:=f) (hi:=k) (z1:=(f:Int)) (z2:=(k:Int)) hfk (by omega) rfl rfl;have HB2:=Hi hb2;clear hb2;go_wp2_with fail
            refine(Fa _ _ w _ HLE.out HB2.out).mono ?_;rintro e w' ⟨vt,m,rfl,rfl,hbt,hml⟩;obtain⟨At,ct,rfl⟩:=hbt.form;have HBT:=Hi hbt;have HML:Hid (m.length≤l.length):=Hi (by rw[List.length_drop,List.length_take]at hml;omega);clear hbt hml q1 q2
            go_wp2_with (at_builtin;refine wpList_append_lies _ rfl _ _ 162 rfl w.heap.size 22 i0 (.slice none 0 0) 1 24 Tryz.underlying162 hi0 hz0 hz1 hz2 rfl (by decide) _ _ _ rfl (HO.out.alloc _) ⟨wr.heap.size,0,none⟩ 1 1 [.slice At m.length ct] rfl rfl ?c1 ?c2 ?c3 ?c4 ?c5 ?c6 (wr.heap.size+1) ?c7 ?_)
            case c1=>exact World.news_of_block (heap_alloc_new wr _)
            case c2=>intro u hu;simp only[List.mem_cons,List.mem_nil_iff,or_false]at hu;subst hu;rfl
            case c3=>omega
            case c4=>unfold maxLen;omega
            case c5=>omega
            case c6=>simp;omega
            case c7=>simp
            intro g2 cap2 w2 hown2 hgrow2 hat2 hlt2;have HLE2:Hid (Le w w2):=Hi (Below.grown' (HLE.out.alloc _) hgrow2 (NL _) (fun g hg=>(AK HO.out g hg).1));have HO2:Hid (w2.ownsRow w.heap.size 22 1 (.slice (some ⟨g2,0,none⟩) (done.length+1) cap2) (done++[m]).length (xs++[.slice At m.length ct])):=Hi (by rw[LA];exact hown2)
            have HBA2:=Hi (HBA.out.snoc HBT.out);have HMX2:=Hi (C9 HMX.out HML.out);have HL2:Hid ((done++[m]).length=done.length+1):=Hi (by simp);clear hown2 hgrow2 hat2 hlt2;go_wp2;go_roundg (gk-1)
            case measure=>omega
            case rel=>exact⟨k+1,k+1,false,false,_,done++[m],by omega,by go_num,by go_num,rfl,rfl,by omega,by omega,by have:=HL2.out;omega,HLE2.out,HO2.out,HBA2.out,HMX2.out⟩
       case false=>
        go_wp2;go_roundg (gk-1)
        case measure=>omega
        case rel=>exact⟨k+1,f,false,a,xs,done,by omega,by go_num,by go_num,rfl,rfl,by omega,by omega,by omega,HLE.out,HO.out,HBA.out,HMX.out⟩
end Go.Proofs.YtejhpdcjafbklaaGreatDoor
