/- The law FnHeadWritten: HwP HwI HwJ. -/
import Derived.Test.YtejhpdcjafbklaaGreatDoorUriOf
set_option linter.all false
set_option maxHeartbeats 32000000
set_option maxRecDepth 8000
namespace Go.Proofs.YtejhpdcjafbklaaGreatDoor
open Go.RowKit
theorem DM(w:World)(x y:Value)(lx ly:Tx)(b:Bool)(h:decide (lx=ly)=b)(hx:Bv w x lx)(hy:Bv w y ly):
 Calls Tryz.prog 37 #[x,y] w fun e w'=>e= .returned (.bool b)∧w=w':=by
 subst h;exact FL x y lx ly w hx hy
theorem Js(w:World)(x y:UV)(u v:PU)(b:Bool)(h:puB u v=b)(hx:Uq (fun _=>True) w x u)(hy:Uq (fun _=>True) w y v):
 Calls Tryz.prog 38 #[x.val,y.val] w fun e w'=>e= .returned (.bool b)∧Le w w':=by
 subst h;exact Jt _ _ w x y u v hx hy
section
variable {P:Program} {ops:Array Oper} {rest:List Oper} {o:Oper} {a:Act} {w:World} {Q:Exit→Act→World→Prop}
theorem Ee(hw:Region.wanted o (yielded ops a.tmps)=true)(ty:TypeId)(x:Operand)(ho:o.op= .load ty x)
 (g j:Nat)(hx:a.eval x= .pointer (some ⟨g,j,none⟩))(t:TypeId)(cs part:Array Value)(fr:Nat×Nat)(d:TypeDesc)(hg:w.heap[g]? =some (.cells cs t fr))(hp:∀k v,part[k]? =some v→cs[j+k]? =some v)
 (hu:P.underlying ty=some d)(hd:(match d with| .struct _| .array _ _=>true|_=>false)=true)(hi:(P.info? ty).map (·.size)=some part.size)
 (h:wpList P ops Q rest (a.put o.dst (.agg part)) w):wpList P ops Q (o::rest) a w:=
 wpList_step fun K hK=>by
  simp only[hw,if_true];unfold Oper.wp execOp;simp only[ho,hx,Instr.loadAt,Instr.sureAddr,Sem.run_bind,Sem.run_pure,Result.andThen_ok,Ch w g j t ty cs part fr d hg hp hu hd hi];exact hK _ _ h
end
def shS(W0:World)(n0 b2 b3:Nat)(x z:HV)(p q:PH)(u1 u2:PU):Nat→Value→World→Prop
 |2,v,_=>v=(.pointer (some ⟨b2,0,none⟩))
 |3,v,_=>v=(.pointer (some ⟨b3,0,none⟩))
 |5,v,_=>v=x.val
 |6,v,w_=>∃y:HV,v=y.val∧Hz (fun g=>g<n0∨W0.heap.size≤g) w_ y (nmd p u1)
 |7,v,_=>v=z.val
 |8,v,w_=>∃y:HV,v=y.val∧Hz (fun g=>g<n0∨W0.heap.size≤g) w_ y (nmd q u2)
 |_,_,_=>True
theorem N5(W0:World)(n0 b2 b3:Nat)(x z:HV)(p q:PH)(u1 u2:PU)(t:Nat)(v:Value)(w1 w2:World)(k:Le w1 w2)(h:shS W0 n0 b2 b3 x z p q u1 u2 t v w1):shS W0 n0 b2 b3 x z p q u1 u2 t v w2:=by
 unfold shS at h⊢;split at h<;>first|exact h|exact(by obtain⟨y,e,a⟩:=h;exact⟨y,e,a.le k⟩)
theorem Oz(ψ χ:Nat→Prop)(x z:HV)(p q:PH)(u1 u2:PU)(w:World)(hx:Hz ψ w x p)(hz:Hz χ w z q)(hu1:gv p.uri=some u1)(hu2:gv q.uri=some u2)
 (hl1:p.uri.raw≠[]→p.uri.scheme.length+p.uri.raw.length≤1099511626000)(hl2:q.uri.raw≠[]→q.uri.scheme.length+q.uri.raw.length≤1099511626000):
 Calls Tryz.prog 18 #[x.val,z.val] w fun e w'=>∃b:Bool,e= .returned (.bool b)∧Le w w'∧(b=true→nmd p u1=nmd q u2):=by
 obtain⟨n0,hn0⟩:∃n,n=w.heap.size:=⟨_,rfl⟩;have HX:Hid (Hz (·<n0) w x p):=Hi (by rw[hn0];exact hx.now);have HZ:Hid (Hz (·<n0) w z q):=Hi (by rw[hn0];exact hz.now);have HG1:=Hi hu1;have HG2:=Hi hu2;have HS1:=Hi hl1;have HS2:=Hi hl2;have HF1:=Hi hx.fit;have HF2:=Hi hz.fit;clear hx hz hu1 hu2 hl1 hl2;change Calls _ _ #[.agg x.row,.agg z.row] _ _
 go_enter Tryz.func18,Tryz.ntmps18;go_upto_region 1 with fail
 change Code.wp _ _ _ _ ((w.alloc (Obj.cells x.row 37)).alloc (Obj.cells z.row 37));have HB1:=Hi (heap_alloc2_old w (Obj.cells x.row 37) (Obj.cells z.row 37));have HB2:=Hi (heap_alloc2_new w (Obj.cells x.row 37) (Obj.cells z.row 37));have HL0:Hid (Le w ((w.alloc (Obj.cells x.row 37)).alloc (Obj.cells z.row 37))):=Hi (((AC w).alloc _).alloc _)
 have HSZ:Hid (((w.alloc (Obj.cells x.row 37)).alloc (Obj.cells z.row 37)).heap.size=w.heap.size+2):=Hi (by simp);generalize(w.alloc (Obj.cells x.row 37)).alloc (Obj.cells z.row 37)=W0 at HB1 HB2 HL0 HSZ⊢;obtain⟨b2,hb2⟩:∃b,b=w.heap.size:=⟨_,rfl⟩;obtain⟨b3,hb3⟩:∃b,b=w.heap.size+1:=⟨_,rfl⟩;rw[←hb3]at HB2⊢;rw[←hb2]at HB1⊢
 have HPL:Hid (b2=n0∧b3=n0+1∧W0.heap.size=n0+2∧w.heap.size=n0):=Hi (by have:=HSZ.out;omega);clear hb2 hb3 hn0;have hm_sh:(Tryz.prog).follows .mixedOrders=true:=by kernel_rfl
 refine G3.wp_region_grow_tail (shS W0 n0 b2 b3 x z p q u1 u2) ((Le W0)) 91 4 [5,6,7,8] hm_sh (by kernel_rfl) rfl rfl ?hG_sh ?hold_sh ?hs_sh ?hend_sh;case hG_sh=>exact(AC W0).drew
 case hold_sh=>
  intro t ht;simp only[List.mem_cons,List.mem_nil_iff,or_false,not_or]at ht;unfold shS;split<;>first|exact True.intro|(exfalso;simp at ht;done)|rfl
 case hs_sh=>
  simp only[List.take_succ_cons,List.take_zero];refine⟨?_,?_,?_,?_,trivial⟩
  ·refine AA fun a W hg hop=>?_;have h2:_=_:=hq hop 2;have h2':=tg h2;refine⟨_,?_,rfl⟩;have hs:=Bc (P:=Tryz.prog) (hg.heap HB1.out) Tryz.underlying37 rfl AS;simp only[execOp,h2,hs,Sem.run_bind,Sem.run_pure,Result.andThen,Sem.run_map];try rfl
  ·refine AG ?_ ?_ ?_ ?_
   ·exact fun t v w1 w2 kl h=>N5 W0 n0 b2 b3 x z p q u1 u2 t v w1 w2 kl h
   ·exact fun _ _ _ _ h=>h
   ·exact fun w1 w2 k h=>Le.trans h k
   ·intro a W hg hop;have h5:_=_:=hq hop 5;have h5':=tg h5;refine⟨36,#[x.val],?_,(LL (·<n0) x p u1 W (HX.out.le (Le.trans HL0.out hg)) HG1.out HS1.out).mono ?_⟩
    ·simp only[execOp,h5];go_simp
    ·rintro e w' ⟨y,rfl,hle,hz⟩;exact⟨_,rfl,hle,y,rfl,hz.imp (fun g hg2=>by have:=hg.size;rcases hg2 with h|h;exact .inl h;exact .inr (by omega))⟩
  ·refine AA fun a W hg hop=>?_;have h3:_=_:=hq hop 3;have h3':=tg h3;refine⟨_,?_,rfl⟩;have hs:=Bc (P:=Tryz.prog) (hg.heap HB2.out) Tryz.underlying37 rfl AS;simp only[execOp,h3,hs,Sem.run_bind,Sem.run_pure,Result.andThen,Sem.run_map];try rfl
  ·refine AG ?_ ?_ ?_ ?_
   ·exact fun t v w1 w2 kl h=>N5 W0 n0 b2 b3 x z p q u1 u2 t v w1 w2 kl h
   ·exact fun _ _ _ _ h=>h
   ·exact fun w1 w2 k h=>Le.trans h k
   ·intro a W hg hop;have h7:_=_:=hq hop 7;have h7':=tg h7;refine⟨36,#[z.val],?_,(LL (·<n0) z q u2 W (HZ.out.le (Le.trans HL0.out hg)) HG2.out HS2.out).mono ?_⟩
    ·simp only[execOp,h7];go_simp
    ·rintro e w' ⟨y,rfl,hle,hz⟩;exact⟨_,rfl,hle,y,rfl,hz.imp (fun g hg2=>by have:=hg.size;rcases hg2 with h|h;exact .inl h;exact .inr (by omega))⟩
 case hend_sh=>
  intro s_ wz hg hS;obtain⟨y1,e6,hy1⟩:∃y:HV,s_ 6=y.val∧Hz (fun g=>g<n0∨W0.heap.size≤g) wz y (nmd p u1):=hS 6 (by decide);obtain⟨y2,e8,hy2⟩:∃y:HV,s_ 8=y.val∧Hz (fun g=>g<n0∨W0.heap.size≤g) wz y (nmd q u2):=hS 8 (by decide);have HLW:=Hi (show Le W0 wz from hg);have HY1:=Hi hy1;have HY2:=Hi hy2;have HR1:=Hi (HLW.out.heap HB1.out);have HR2:=Hi (HLW.out.heap HB2.out)
  clear hS hg hy1 hy2;simp only[Aj,Act.put,List.setIfInBounds_toArray,List.set_cons_zero,List.set_cons_succ,List.drop_succ_cons,List.drop_zero];rw[e6,e8];clear e6 e8;go_wp2_with (refine AD rfl 37 (.tmp 2) (.tmp 6) rfl b2 y1.row rfl rfl 37 x.row HR1.out AS rfl HY1.out.fit.one ?_)
  intro W2 hz2 hk2;have HA1:=Hi hz2;have HA2:=Hi (hk2.heap (show b3≠b2 by have:=HPL.out;omega) HR2.out);have HY1':=Hi (HY1.out.setH HR1.out HF1.out.nou hk2 (fun g hg=>by have:=HPL.out;omega));have HY2':=Hi (HY2.out.setH HR1.out HF1.out.nou hk2 (fun g hg=>by have:=HPL.out;omega))
  have HL2:Hid (Le w W2):=Hi (Below.trans (Le.trans HL0.out HLW.out) (hk2.below (by have:=HPL.out;omega) (Le.trans HL0.out HLW.out).size));clear hz2 hk2 HY1 HY2;go_upto_region 2 with(refine AD rfl 37 (.tmp 3) (.tmp 8) rfl b3 y2.row rfl rfl 37 z.row HA2.out AS rfl HY2'.out.fit.one ?_)
  intro W3 hz3 hk3;have HQ1:=Hi (hk3.heap (show b2≠b3 by have:=HPL.out;omega) HA1.out);have HQ2:=Hi hz3;have HY1:=Hi (HY1'.out.setH HA2.out HF2.out.nou hk3 (fun g hg=>by have:=HPL.out;omega));have HY2:=Hi (HY2'.out.setH HA2.out HF2.out.nou hk3 (fun g hg=>by have:=HPL.out;omega))
  have HLZ:Hid (Le w W3):=Hi (Below.trans HL2.out (hk3.below (by have:=HPL.out;omega) HL2.out.size));have HLQ:Hid (Le W3 W3):=Hi (AC W3);clear hz3 hk3 HY1' HY2' HF1 HF2 HX HZ HB1 HB2 HR1 HR2 HA1 HA2;obtain⟨x_t1,x_name1,x_text1,x_disp1,x_uri1,x_ps1,x_num1,x_proto1,x_ver1,x_tr1,x_host1,x_port1⟩:=y1;obtain⟨p1,hp1⟩:∃p',nmd p u1=p':=⟨_,rfl⟩;rw[hp1]at HY1;have HP1:=Hi hp1;clear hp1
  obtain⟨t1,name1,text1,disp1,uri1,ps1,num1,proto1,ver1,tr1,host1,port1⟩:=p1;have ext1:t1=x_t1:=HY1.out.t.symm;subst ext1;obtain⟨Aname1,cname1,rfl⟩:=(show Bv W3 x_name1 name1 from HY1.out.name).form;obtain⟨Atext1,ctext1,rfl⟩:=(show Bv W3 x_text1 text1 from HY1.out.text).form;obtain⟨Adisp1,cdisp1,rfl⟩:=(show Bv W3 x_disp1 disp1 from HY1.out.disp).form
  obtain⟨Aps1,cps1,rfl⟩:∃A c,x_ps1= .slice A ps1.length c:=by obtain⟨A,c,e,_⟩:=HY1.out.ps;exact⟨A,c,e⟩
  have exnum1:num1=x_num1:=HY1.out.num.symm;subst exnum1;obtain⟨Aproto1,cproto1,rfl⟩:=(show Bv W3 x_proto1 proto1 from HY1.out.proto).form;obtain⟨Aver1,cver1,rfl⟩:=(show Bv W3 x_ver1 ver1 from HY1.out.ver).form;obtain⟨Atr1,ctr1,rfl⟩:=(show Bv W3 x_tr1 tr1 from HY1.out.tr).form;obtain⟨Ahost1,chost1,rfl⟩:=(show Bv W3 x_host1 host1 from HY1.out.host).form;have export1:port1=x_port1:=HY1.out.port.symm
  subst export1;obtain⟨x_t2,x_name2,x_text2,x_disp2,x_uri2,x_ps2,x_num2,x_proto2,x_ver2,x_tr2,x_host2,x_port2⟩:=y2;obtain⟨p2,hp2⟩:∃p',nmd q u2=p':=⟨_,rfl⟩;rw[hp2]at HY2;have HP2:=Hi hp2;clear hp2;obtain⟨t2,name2,text2,disp2,uri2,ps2,num2,proto2,ver2,tr2,host2,port2⟩:=p2;have ext2:t2=x_t2:=HY2.out.t.symm;subst ext2;obtain⟨Aname2,cname2,rfl⟩:=(show Bv W3 x_name2 name2 from HY2.out.name).form
  obtain⟨Atext2,ctext2,rfl⟩:=(show Bv W3 x_text2 text2 from HY2.out.text).form;obtain⟨Adisp2,cdisp2,rfl⟩:=(show Bv W3 x_disp2 disp2 from HY2.out.disp).form;obtain⟨Aps2,cps2,rfl⟩:∃A c,x_ps2= .slice A ps2.length c:=by obtain⟨A,c,e,_⟩:=HY2.out.ps;exact⟨A,c,e⟩
  have exnum2:num2=x_num2:=HY2.out.num.symm;subst exnum2;obtain⟨Aproto2,cproto2,rfl⟩:=(show Bv W3 x_proto2 proto2 from HY2.out.proto).form;obtain⟨Aver2,cver2,rfl⟩:=(show Bv W3 x_ver2 ver2 from HY2.out.ver).form;obtain⟨Atr2,ctr2,rfl⟩:=(show Bv W3 x_tr2 tr2 from HY2.out.tr).form;obtain⟨Ahost2,chost2,rfl⟩:=(show Bv W3 x_host2 host2 from HY2.out.host).form;have export2:port2=x_port2:=HY2.out.port.symm
  subst export2;have a0_1:W3.cell? ⟨b2,0,none⟩=some (.int .i64 t1):=AB HQ1.out 0;have a0_2:W3.cell? ⟨b3,0,none⟩=some (.int .i64 t2):=AB HQ2.out 0;have HZ1:=HY1;have HZ2:=HY2;by_cases e0:t1=t2;case neg=>
   have b0:((t1:Int)==t2)=false:=by rw[beq_eq_false_iff_ne];exact e0
   go_wp2;go_ret;exact⟨false,rfl,HLZ.out,fun h=>by cases h⟩
  have b0:((t1:Int)==t2)=true:=by rw[e0];exact beq_self_eq_true _
  have HE0:=Hi e0;clear e0;have a1_1:W3.cell? ⟨b2,1,none⟩=some (.slice Aname1 name1.length cname1):=AB HQ1.out 1;have a1_2:W3.cell? ⟨b3,1,none⟩=some (.slice Aname2 name2.length cname2):=AB HQ2.out 1;obtain⟨r1,h1⟩:∃r,decide (name1=name2)=r:=⟨_,rfl⟩;have HE1:=Hi h1;clear h1;go_wp2_with fail
  refine(DM W3 _ _ name1 name2 r1 HE1.out (HZ1.out.name.le HLQ.out) (HZ2.out.name.le HLQ.out)).mono ?_;rintro e w' ⟨rfl,rfl⟩;cases r1;case false=>
   go_wp2;go_ret;exact⟨false,rfl,HLZ.out,fun h=>by cases h⟩
  have a2_1:W3.cell? ⟨b2,2,none⟩=some (.slice Atext1 text1.length ctext1):=AB HQ1.out 2;have a2_2:W3.cell? ⟨b3,2,none⟩=some (.slice Atext2 text2.length ctext2):=AB HQ2.out 2;obtain⟨r2,h2⟩:∃r,decide (text1=text2)=r:=⟨_,rfl⟩;have HE2:=Hi h2;clear h2;go_wp2_with fail
  refine(DM W3 _ _ text1 text2 r2 HE2.out (HZ1.out.text.le HLQ.out) (HZ2.out.text.le HLQ.out)).mono ?_;rintro e w' ⟨rfl,rfl⟩;cases r2;case false=>
   go_wp2;go_ret;exact⟨false,rfl,HLZ.out,fun h=>by cases h⟩
  have a3_1:W3.cell? ⟨b2,3,none⟩=some (.slice Adisp1 disp1.length cdisp1):=AB HQ1.out 3;have a3_2:W3.cell? ⟨b3,3,none⟩=some (.slice Adisp2 disp2.length cdisp2):=AB HQ2.out 3;obtain⟨r3,h3⟩:∃r,decide (disp1=disp2)=r:=⟨_,rfl⟩;have HE3:=Hi h3;clear h3;go_wp2_with fail
  refine(DM W3 _ _ disp1 disp2 r3 HE3.out (HZ1.out.disp.le HLQ.out) (HZ2.out.disp.le HLQ.out)).mono ?_;rintro e w' ⟨rfl,rfl⟩;cases r3;case false=>
   go_wp2;go_ret;exact⟨false,rfl,HLZ.out,fun h=>by cases h⟩
  obtain⟨r4,h4⟩:∃r,puB uri1 uri2=r:=⟨_,rfl⟩;have HE4:=Hi h4;clear h4;have a4_1_0:W3.cell? ⟨b2,4,none⟩=some (x_uri1.scheme):=AB HQ1.out 4;have a4_1_1:W3.cell? ⟨b2,5,none⟩=some (x_uri1.raw):=AB HQ1.out 5;have a4_1_2:W3.cell? ⟨b2,6,none⟩=some (.bool x_uri1.wild):=AB HQ1.out 6;have a4_1_3:W3.cell? ⟨b2,7,none⟩=some (.bool x_uri1.slash):=AB HQ1.out 7
  have a4_1_4:W3.cell? ⟨b2,8,none⟩=some (x_uri1.user):=AB HQ1.out 8;have a4_1_5:W3.cell? ⟨b2,9,none⟩=some (x_uri1.pass):=AB HQ1.out 9;have a4_1_6:W3.cell? ⟨b2,10,none⟩=some (x_uri1.host):=AB HQ1.out 10;have a4_1_7:W3.cell? ⟨b2,11,none⟩=some (.int .i64 x_uri1.port):=AB HQ1.out 11;have a4_1_8:W3.cell? ⟨b2,12,none⟩=some (x_uri1.ps):=AB HQ1.out 12
  have a4_1_9:W3.cell? ⟨b2,13,none⟩=some (x_uri1.hs):=AB HQ1.out 13;have a4_2_0:W3.cell? ⟨b3,4,none⟩=some (x_uri2.scheme):=AB HQ2.out 4;have a4_2_1:W3.cell? ⟨b3,5,none⟩=some (x_uri2.raw):=AB HQ2.out 5;have a4_2_2:W3.cell? ⟨b3,6,none⟩=some (.bool x_uri2.wild):=AB HQ2.out 6;have a4_2_3:W3.cell? ⟨b3,7,none⟩=some (.bool x_uri2.slash):=AB HQ2.out 7
  have a4_2_4:W3.cell? ⟨b3,8,none⟩=some (x_uri2.user):=AB HQ2.out 8;have a4_2_5:W3.cell? ⟨b3,9,none⟩=some (x_uri2.pass):=AB HQ2.out 9;have a4_2_6:W3.cell? ⟨b3,10,none⟩=some (x_uri2.host):=AB HQ2.out 10;have a4_2_7:W3.cell? ⟨b3,11,none⟩=some (.int .i64 x_uri2.port):=AB HQ2.out 11;have a4_2_8:W3.cell? ⟨b3,12,none⟩=some (x_uri2.ps):=AB HQ2.out 12
  have a4_2_9:W3.cell? ⟨b3,13,none⟩=some (x_uri2.hs):=AB HQ2.out 13;go_wp2_with fail
  refine(Js W3 x_uri1 x_uri2 uri1 uri2 r4 HE4.out (HZ1.out.uri.toUq.le HLQ.out) (HZ2.out.uri.toUq.le HLQ.out)).mono ?_;rintro e W5 ⟨rfl,hle5⟩;have HV1:=Hi (hle5.heap HQ1.out);have HV2:=Hi (hle5.heap HQ2.out);have HLQ':=Hi (Le.trans HLQ.out hle5);clear HLQ;have HLQ:=HLQ';clear HLQ';have HLZ':=Hi (Le.trans HLZ.out hle5);clear HLZ;have HLZ:=HLZ';clear HLZ' hle5;cases r4
  case false=>
   go_wp2;go_ret;exact⟨false,rfl,HLZ.out,fun h=>by cases h⟩
  have a5_1:W5.cell? ⟨b2,14,none⟩=some (.slice Aps1 ps1.length cps1):=AB HV1.out 14;have a5_2:W5.cell? ⟨b3,14,none⟩=some (.slice Aps2 ps2.length cps2):=AB HV2.out 14;obtain⟨r5,h5⟩:∃r,decide (ps1=ps2)=r:=⟨_,rfl⟩;have HE5:=Hi h5;clear h5;go_wp2_with fail
  refine(Dx _ _ W5 _ _ ps1 ps2 r5 HE5.out (HZ1.out.ps.le HLQ.out) (HZ2.out.ps.le HLQ.out)).mono ?_;rintro e W6 ⟨rfl,m6,hw6⟩;have hle6:Le W5 W6:=by rw[hw6];exact(AC W5).drewN m6
  clear hw6;have HX61:=Hi (hle6.heap HV1.out);have HX62:=Hi (hle6.heap HV2.out);have HLQ':=Hi (Le.trans HLQ.out hle6);clear HLQ;have HLQ:=HLQ';clear HLQ';have HLZ':=Hi (Le.trans HLZ.out hle6);clear HLZ;have HLZ:=HLZ';clear HLZ' hle6;cases r5;case false=>
   go_wp2;go_ret;exact⟨false,rfl,HLZ.out,fun h=>by cases h⟩
  have a6_1:W6.cell? ⟨b2,15,none⟩=some (.int .u32 num1):=AB HX61.out 15;have a6_2:W6.cell? ⟨b3,15,none⟩=some (.int .u32 num2):=AB HX62.out 15;by_cases e6:num1=num2;case neg=>
   have b6:((num1:Int)==num2)=false:=by rw[beq_eq_false_iff_ne];omega
   go_wp2;go_ret;exact⟨false,rfl,HLZ.out,fun h=>by cases h⟩
  have b6:((num1:Int)==num2)=true:=by rw[e6];exact beq_self_eq_true _
  have HE6:=Hi e6;clear e6;have a7_1:W6.cell? ⟨b2,16,none⟩=some (.slice Aproto1 proto1.length cproto1):=AB HX61.out 16;have a7_2:W6.cell? ⟨b3,16,none⟩=some (.slice Aproto2 proto2.length cproto2):=AB HX62.out 16;obtain⟨r7,h7⟩:∃r,decide (proto1=proto2)=r:=⟨_,rfl⟩;have HE7:=Hi h7;clear h7;go_wp2_with fail
  refine(DM W6 _ _ proto1 proto2 r7 HE7.out (HZ1.out.proto.le HLQ.out) (HZ2.out.proto.le HLQ.out)).mono ?_;rintro e w' ⟨rfl,rfl⟩;cases r7;case false=>
   go_wp2;go_ret;exact⟨false,rfl,HLZ.out,fun h=>by cases h⟩
  have a8_1:W6.cell? ⟨b2,17,none⟩=some (.slice Aver1 ver1.length cver1):=AB HX61.out 17;have a8_2:W6.cell? ⟨b3,17,none⟩=some (.slice Aver2 ver2.length cver2):=AB HX62.out 17;obtain⟨r8,h8⟩:∃r,decide (ver1=ver2)=r:=⟨_,rfl⟩;have HE8:=Hi h8;clear h8;go_wp2_with fail
  refine(DM W6 _ _ ver1 ver2 r8 HE8.out (HZ1.out.ver.le HLQ.out) (HZ2.out.ver.le HLQ.out)).mono ?_;rintro e w' ⟨rfl,rfl⟩;cases r8;case false=>
   go_wp2;go_ret;exact⟨false,rfl,HLZ.out,fun h=>by cases h⟩
  have a9_1:W6.cell? ⟨b2,18,none⟩=some (.slice Atr1 tr1.length ctr1):=AB HX61.out 18;have a9_2:W6.cell? ⟨b3,18,none⟩=some (.slice Atr2 tr2.length ctr2):=AB HX62.out 18;obtain⟨r9,h9⟩:∃r,decide (tr1=tr2)=r:=⟨_,rfl⟩;have HE9:=Hi h9;clear h9;go_wp2_with fail
  refine(DM W6 _ _ tr1 tr2 r9 HE9.out (HZ1.out.tr.le HLQ.out) (HZ2.out.tr.le HLQ.out)).mono ?_;rintro e w' ⟨rfl,rfl⟩;cases r9;case false=>
   go_wp2;go_ret;exact⟨false,rfl,HLZ.out,fun h=>by cases h⟩
  have a10_1:W6.cell? ⟨b2,19,none⟩=some (.slice Ahost1 host1.length chost1):=AB HX61.out 19;have a10_2:W6.cell? ⟨b3,19,none⟩=some (.slice Ahost2 host2.length chost2):=AB HX62.out 19;obtain⟨r10,h10⟩:∃r,decide (host1=host2)=r:=⟨_,rfl⟩;have HE10:=Hi h10;clear h10;go_wp2_with fail
  refine(DM W6 _ _ host1 host2 r10 HE10.out (HZ1.out.host.le HLQ.out) (HZ2.out.host.le HLQ.out)).mono ?_;rintro e w' ⟨rfl,rfl⟩;cases r10;case false=>
   go_wp2;go_ret;exact⟨false,rfl,HLZ.out,fun h=>by cases h⟩
  have a11_1:W6.cell? ⟨b2,20,none⟩=some (.int .i64 port1):=AB HX61.out 20;have a11_2:W6.cell? ⟨b3,20,none⟩=some (.int .i64 port2):=AB HX62.out 20;by_cases e11:port1=port2;case neg=>
   have b11:((port1:Int)==port2)=false:=by rw[beq_eq_false_iff_ne];exact e11
   go_wp2;go_ret;exact⟨false,rfl,HLZ.out,fun h=>by cases h⟩
  have b11:((port1:Int)==port2)=true:=by rw[e11];exact beq_self_eq_true _
  have HE11:=Hi e11;clear e11;go_wp2;go_ret;refine⟨true,rfl,HLZ.out,fun _=>?_⟩;have E0:t1=t2:=HE0.out;have E1:name1=name2:=of_decide_eq_true HE1.out;have E2:text1=text2:=of_decide_eq_true HE2.out;have E3:disp1=disp2:=of_decide_eq_true HE3.out;have E4:uri1=uri2:=(K9 uri1 uri2).1 HE4.out;have E5:ps1=ps2:=of_decide_eq_true HE5.out;have E6:num1=num2:=HE6.out
  have E7:proto1=proto2:=of_decide_eq_true HE7.out;have E8:ver1=ver2:=of_decide_eq_true HE8.out;have E9:tr1=tr2:=of_decide_eq_true HE9.out;have E10:host1=host2:=of_decide_eq_true HE10.out;have E11:port1=port2:=HE11.out;rw[HP1.out,HP2.out,E0,E1,E2,E3,E4,E5,E6,E7,E8,E9,E10,E11]
theorem Oy(tt:Int)(v:Value)(l:Tx)(w:World)(ht1:1≤tt)(ht2:tt≤14)(hv:Bv w v l)(hl0:l.length≤100000000000):
 Calls Tryz.prog 35 #[.int .i64 tt,v] w (DE w):=by
 have hl:l.length≤1099511626000:=by omega
 have HLNN:=Hi hl0;have HVX:=Hi hv;have HTT:=Hi (And.intro ht1 ht2);obtain⟨Av,cv,rfl,h1,h2,h4⟩:=hv;clear h4;go_enter Tryz.func35,Tryz.ntmps35;go_wp2_with fail
 refine(EF tt HTT.out.1 HTT.out.2 w).mono ?_;rintro e w' ⟨rfl,hw⟩;subst hw;obtain⟨B1,c1,V1,qv1,le1,bt1⟩:=AT (base:=0) w (st (nmT tt)) (Nat.zero_le _) (by rw[AF];have:=C3 tt;omega);rw[AV]at bt1;have HBN1:=Hi bt1.1;clear bt1
 go_upto_region 2 with(first|refine wpList_buildTo rfl 37 #[(0,.tmp 8),(1,.tmp 11)] rfl (some 12) rfl (HV.row ⟨tt,.slice (some ⟨B1,0,none⟩) (st (nmT tt)).size c1,.slice none 0 0,.slice none 0 0,UV.nil,.slice none 0 0,0,.slice none 0 0,.slice none 0 0,.slice none 0 0,.slice none 0 0,0⟩) (by kernel_rfl) ?_ |refine AD rfl 37 (.tmp 6) (.tmp 12) rfl V1.heap.size (HV.row ⟨tt,.slice (some ⟨B1,0,none⟩) (st (nmT tt)).size c1,.slice none 0 0,.slice none 0 0,UV.nil,.slice none 0 0,0,.slice none 0 0,.slice none 0 0,.slice none 0 0,.slice none 0 0,0⟩) rfl rfl 37 HV.nil.row (heap_alloc_new V1 _) AS rfl (HV.all.trans rfl) ?_)
 intro W3 hz3 hk3;have HL3:Hid (Le w W3):=Hi (Le.trans le1 (Below.trans ((AC V1).alloc _) (hk3.below (NL _) ((AC V1).alloc _).size)));have HLV3:Hid (Le V1 W3):=Hi (Below.trans ((AC V1).alloc _) (hk3.below (NL _) ((AC V1).alloc _).size));have HHB:Hid (w.heap.size≤V1.heap.size∧V1.heap.size<W3.heap.size):=Hi ⟨le1.size,AQ hz3⟩
 have HR3:=Hi hz3;have HBN:=Hi (HBN1.out.le HLV3.out);have HY3:=Hi (HVX.out.le HL3.out);clear hz3 hk3 qv1 le1 HBN1 HLV3;generalize V1.heap.size=hb at HHB HR3⊢;by_cases hp0:l.length=0
 ·have hzb:((l.length:Int)==0)=true:=by rw[hp0];rfl
  go_wp2
  go_ret2
  exact DE.fail w _ HL3.out (-2) (by decide)
 have hzb:((l.length:Int)==0)=false:=by rw[beq_eq_false_iff_ne];omega
 have hpos:0<l.length:=by omega
 clear hp0
 go_upto_block 0 with fail
 go_cut [7]from 17 (fun s7 wx=>∃(kd:Int) (x:HV),s7= .int .i64 kd∧wx.heap[hb]? =some (.cells x.row 37 (0,0))∧Gs x∧Le w wx∧(kd=0→∃q,Hz (w.heap.size≤·) wx x q∧PHk q))
 case first=>
  have htt:tt=1∨tt=2∨tt=3∨tt=4∨tt=5∨tt=6∨tt=7∨tt=8∨tt=9∨tt=10∨tt=11∨tt=12∨tt=13∨tt=14:=by omega
  clear ht1 ht2 HTT;rcases htt with h|h|h|h|h|h|h|h|h|h|h|h|h|h<;>subst h;case inl=>
   go_wp2_with fail
   refine(FW _ l W3 HY3.out (by have:=HLNN.out;omega)).mono ?_;rintro e W4 ⟨nv,pv,xu,kd,rfl,hle4,hone,hm⟩;obtain⟨An,mn,cn,rfl⟩:∃A n c,nv= .slice A n c:=by
    rcases hs:Bi l with _|⟨n,u,kvs⟩
    ·rw[hs]at hm;exact⟨_,_,_,hm.2.2.1⟩
    ·rw[hs]at hm;obtain⟨A,c,e⟩:=hm.2.1.form;exact⟨A,_,c,e⟩
   obtain⟨Ap,mp,cp,rfl⟩:∃A n c,pv= .slice A n c:=by
    rcases hs:Bi l with _|⟨n,u,kvs⟩
    ·rw[hs]at hm;exact⟨_,_,_,hm.2.2.2⟩
    ·rw[hs]at hm;obtain⟨A,c,e,_⟩:=hm.2.2.2.1;exact⟨A,_,c,e⟩
   have hxn:xu.row.all Eq=true∧xu.wild=false:=by
    rcases hs:Bi l with _|⟨n,u,kvs⟩
    ·rw[hs]at hm;rw[hm.2.1];exact⟨CA.trans rfl,rfl⟩
    ·rw[hs]at hm;have hqq:=hm.2.2.1.toUq;refine⟨?_,hqq.wild.trans (CW hs).2.1⟩;rw[CA,hqq.scheme.1.nou,hqq.raw.1.nou,hqq.user.1.nou,hqq.pass.1.nou,hqq.host.1.nou,hqq.ps.nou,hqq.hs.nou];rfl
   have HM:=Hi hm;have HXO:=Hi hone;have HXN:=Hi hxn;have HL4:=Hi hle4;have HR4:=Hi (hle4.heap HR3.out);clear hle4 hone hm hxn;go_wp2_with (refine AM rfl 22 (.tmp 34) (.tmp 30) rfl hb 3 (.slice An mn cn) rfl rfl rfl 37 _ HR4.out (show 3<21 by decide) B5 ?_)
   intro W5 hz5 hk5;rw[HV.set_disp]at hz5;have HR5:=Hi hz5;have HK5:=Hi hk5;have HL5:Hid (Le w W5):=Hi (Below.trans (Le.trans HL3.out HL4.out) (hk5.below HHB.out.1 (Le.trans HL3.out HL4.out).size));clear hz5 hk5;go_wp2_with (refine BG rfl 35 (.tmp 35) (.tmp 31) rfl hb 4 xu.row rfl rfl 37 _ HR5.out AI (show 4+10≤21 by decide) HXO.out ?_)
   intro W6 hz6 hk6;rw[HV.put_uri]at hz6;have HR6:=Hi hz6;have HK6:=Hi hk6;have HL6:Hid (Le w W6):=Hi (Below.trans HL5.out (hk6.below HHB.out.1 HL5.out.size));clear hz6 hk6;go_upto_region 11 with(refine AM rfl 33 (.tmp 36) (.tmp 32) rfl hb 14 (.slice Ap mp cp) rfl rfl rfl 37 _ HR6.out (show 14<21 by decide) D0 ?_)
   intro W7 hz7 hk7;rw[HV.set_ps]at hz7;have HR7:=Hi hz7;have HK7:=Hi hk7;have HL7:Hid (Le w W7):=Hi (Below.trans HL6.out (hk7.below HHB.out.1 HL6.out.size));have g6:W7.cell? ⟨hb,6,none⟩=some (.bool false):=by rw[AB hz7 6,←HXN.out.2];rfl
   clear hz7 hk7;have HFX5:Hid ((HV.row ⟨1,.slice (some ⟨B1,0,none⟩) (st (nmT 1)).size c1,.slice none 0 0,.slice An mn cn,UV.nil,.slice none 0 0,0,.slice none 0 0,.slice none 0 0,.slice none 0 0,.slice none 0 0,0⟩).all Eq=true):=Hi (HV.all.trans rfl)
   have HFX6:Hid ((HV.row ⟨1,.slice (some ⟨B1,0,none⟩) (st (nmT 1)).size c1,.slice none 0 0,.slice An mn cn,xu,.slice none 0 0,0,.slice none 0 0,.slice none 0 0,.slice none 0 0,.slice none 0 0,0⟩).all Eq=true):=Hi (DD HXN.out.1)
   have HFX7:Hid (Gs ⟨1,.slice (some ⟨B1,0,none⟩) (st (nmT 1)).size c1,.slice none 0 0,.slice An mn cn,xu,.slice Ap mp cp,0,.slice none 0 0,.slice none 0 0,.slice none 0 0,.slice none 0 0,0⟩):=Hi ⟨DD HXO.out,DD HXN.out.1,_,_,_,rfl⟩
   have HEND:Hid (kd=0→∃q,Hz (w.heap.size≤·) W7 ⟨1,.slice (some ⟨B1,0,none⟩) (st (nmT 1)).size c1,.slice none 0 0,.slice An mn cn,xu,.slice Ap mp cp,0,.slice none 0 0,.slice none 0 0,.slice none 0 0,.slice none 0 0,0⟩ q∧PHk q):=Hi (fun h=>by
    have hm:=HM.out;rcases hs:Bi l with _|⟨n,u,kvs⟩
    ·rw[hs]at hm;rw[hm.1]at h;exact absurd h (by decide)
    rw[hs]at hm;obtain⟨_,hbn,hux,hkq,hko⟩:=hm;obtain⟨⟨s,hsu,hsl⟩,hw,hkv⟩:=CW hs;have hl0:=HLNN.out;have hno:∀g,W3.heap.size≤g→g≠hb:=fun g hg=>by have:=HHB.out.2;omega
    have hko':KO (W3.heap.size≤·) (.slice Ap mp cp) kvs:=fun _=>hko;have u7:=((hux.uz.setH HR4.out (HV.all.trans rfl) HK5.out hno).setH HR5.out HFX5.out HK6.out hno).setH HR6.out HFX6.out HK7.out hno;have n7:=((hbn.setH HR4.out (HV.all.trans rfl) HK5.out).setH HR5.out HFX5.out HK6.out).setH HR6.out HFX6.out HK7.out
    have k7:=((hkq.setH HR4.out (HV.all.trans rfl) HK5.out (hko'.imp hno)).setH HR5.out HFX5.out HK6.out (hko'.imp hno)).setH HR6.out HFX6.out HK7.out (hko'.imp hno);have b7:=(((HBN.out.le HL4.out).setH HR4.out (HV.all.trans rfl) HK5.out).setH HR5.out HFX5.out HK6.out).setH HR6.out HFX6.out HK7.out;have hsz:∀g,W3.heap.size≤g→w.heap.size≤g:=fun g hg=>by have:=HL3.out.size;omega
    exact⟨⟨1,nmT 1,[],n,u,kvs,0,[],[],[],[],0⟩,⟨rfl,b7,Bv.nil _,n7,u7.imp hsz,k7,hko'.imp hsz,rfl,Bv.nil _,Bv.nil _,Bv.nil _,Bv.nil _,rfl⟩,hw,fun _=>FY hsu hw,FZ hsu,hkv,fun x h=>(by cases h),FX hsu (by omega)⟩)
   go_wp2;go_meet;case rel=>exact⟨kd,_,rfl,HR7.out,HFX7.out,HL7.out,HEND.out⟩
  case inr.inl=>
   go_wp2_with fail
   refine(FW _ l W3 HY3.out (by have:=HLNN.out;omega)).mono ?_;rintro e W4 ⟨nv,pv,xu,kd,rfl,hle4,hone,hm⟩;obtain⟨An,mn,cn,rfl⟩:∃A n c,nv= .slice A n c:=by
    rcases hs:Bi l with _|⟨n,u,kvs⟩
    ·rw[hs]at hm;exact⟨_,_,_,hm.2.2.1⟩
    ·rw[hs]at hm;obtain⟨A,c,e⟩:=hm.2.1.form;exact⟨A,_,c,e⟩
   obtain⟨Ap,mp,cp,rfl⟩:∃A n c,pv= .slice A n c:=by
    rcases hs:Bi l with _|⟨n,u,kvs⟩
    ·rw[hs]at hm;exact⟨_,_,_,hm.2.2.2⟩
    ·rw[hs]at hm;obtain⟨A,c,e,_⟩:=hm.2.2.2.1;exact⟨A,_,c,e⟩
   have hxn:xu.row.all Eq=true∧xu.wild=false:=by
    rcases hs:Bi l with _|⟨n,u,kvs⟩
    ·rw[hs]at hm;rw[hm.2.1];exact⟨CA.trans rfl,rfl⟩
    ·rw[hs]at hm;have hqq:=hm.2.2.1.toUq;refine⟨?_,hqq.wild.trans (CW hs).2.1⟩;rw[CA,hqq.scheme.1.nou,hqq.raw.1.nou,hqq.user.1.nou,hqq.pass.1.nou,hqq.host.1.nou,hqq.ps.nou,hqq.hs.nou];rfl
   have HM:=Hi hm;have HXO:=Hi hone;have HXN:=Hi hxn;have HL4:=Hi hle4;have HR4:=Hi (hle4.heap HR3.out);clear hle4 hone hm hxn;go_wp2_with (refine AM rfl 22 (.tmp 34) (.tmp 30) rfl hb 3 (.slice An mn cn) rfl rfl rfl 37 _ HR4.out (show 3<21 by decide) B5 ?_)
   intro W5 hz5 hk5;rw[HV.set_disp]at hz5;have HR5:=Hi hz5;have HK5:=Hi hk5;have HL5:Hid (Le w W5):=Hi (Below.trans (Le.trans HL3.out HL4.out) (hk5.below HHB.out.1 (Le.trans HL3.out HL4.out).size));clear hz5 hk5;go_wp2_with (refine BG rfl 35 (.tmp 35) (.tmp 31) rfl hb 4 xu.row rfl rfl 37 _ HR5.out AI (show 4+10≤21 by decide) HXO.out ?_)
   intro W6 hz6 hk6;rw[HV.put_uri]at hz6;have HR6:=Hi hz6;have HK6:=Hi hk6;have HL6:Hid (Le w W6):=Hi (Below.trans HL5.out (hk6.below HHB.out.1 HL5.out.size));clear hz6 hk6;go_upto_region 11 with(refine AM rfl 33 (.tmp 36) (.tmp 32) rfl hb 14 (.slice Ap mp cp) rfl rfl rfl 37 _ HR6.out (show 14<21 by decide) D0 ?_)
   intro W7 hz7 hk7;rw[HV.set_ps]at hz7;have HR7:=Hi hz7;have HK7:=Hi hk7;have HL7:Hid (Le w W7):=Hi (Below.trans HL6.out (hk7.below HHB.out.1 HL6.out.size));have g6:W7.cell? ⟨hb,6,none⟩=some (.bool false):=by rw[AB hz7 6,←HXN.out.2];rfl
   clear hz7 hk7;have HFX5:Hid ((HV.row ⟨2,.slice (some ⟨B1,0,none⟩) (st (nmT 2)).size c1,.slice none 0 0,.slice An mn cn,UV.nil,.slice none 0 0,0,.slice none 0 0,.slice none 0 0,.slice none 0 0,.slice none 0 0,0⟩).all Eq=true):=Hi (HV.all.trans rfl)
   have HFX6:Hid ((HV.row ⟨2,.slice (some ⟨B1,0,none⟩) (st (nmT 2)).size c1,.slice none 0 0,.slice An mn cn,xu,.slice none 0 0,0,.slice none 0 0,.slice none 0 0,.slice none 0 0,.slice none 0 0,0⟩).all Eq=true):=Hi (DD HXN.out.1)
   have HFX7:Hid (Gs ⟨2,.slice (some ⟨B1,0,none⟩) (st (nmT 2)).size c1,.slice none 0 0,.slice An mn cn,xu,.slice Ap mp cp,0,.slice none 0 0,.slice none 0 0,.slice none 0 0,.slice none 0 0,0⟩):=Hi ⟨DD HXO.out,DD HXN.out.1,_,_,_,rfl⟩
   have HEND:Hid (kd=0→∃q,Hz (w.heap.size≤·) W7 ⟨2,.slice (some ⟨B1,0,none⟩) (st (nmT 2)).size c1,.slice none 0 0,.slice An mn cn,xu,.slice Ap mp cp,0,.slice none 0 0,.slice none 0 0,.slice none 0 0,.slice none 0 0,0⟩ q∧PHk q):=Hi (fun h=>by
    have hm:=HM.out;rcases hs:Bi l with _|⟨n,u,kvs⟩
    ·rw[hs]at hm;rw[hm.1]at h;exact absurd h (by decide)
    rw[hs]at hm;obtain⟨_,hbn,hux,hkq,hko⟩:=hm;obtain⟨⟨s,hsu,hsl⟩,hw,hkv⟩:=CW hs;have hl0:=HLNN.out;have hno:∀g,W3.heap.size≤g→g≠hb:=fun g hg=>by have:=HHB.out.2;omega
    have hko':KO (W3.heap.size≤·) (.slice Ap mp cp) kvs:=fun _=>hko;have u7:=((hux.uz.setH HR4.out (HV.all.trans rfl) HK5.out hno).setH HR5.out HFX5.out HK6.out hno).setH HR6.out HFX6.out HK7.out hno;have n7:=((hbn.setH HR4.out (HV.all.trans rfl) HK5.out).setH HR5.out HFX5.out HK6.out).setH HR6.out HFX6.out HK7.out
    have k7:=((hkq.setH HR4.out (HV.all.trans rfl) HK5.out (hko'.imp hno)).setH HR5.out HFX5.out HK6.out (hko'.imp hno)).setH HR6.out HFX6.out HK7.out (hko'.imp hno);have b7:=(((HBN.out.le HL4.out).setH HR4.out (HV.all.trans rfl) HK5.out).setH HR5.out HFX5.out HK6.out).setH HR6.out HFX6.out HK7.out;have hsz:∀g,W3.heap.size≤g→w.heap.size≤g:=fun g hg=>by have:=HL3.out.size;omega
    exact⟨⟨2,nmT 2,[],n,u,kvs,0,[],[],[],[],0⟩,⟨rfl,b7,Bv.nil _,n7,u7.imp hsz,k7,hko'.imp hsz,rfl,Bv.nil _,Bv.nil _,Bv.nil _,Bv.nil _,rfl⟩,hw,fun _=>FY hsu hw,FZ hsu,hkv,fun x h=>(by cases h),FX hsu (by omega)⟩)
   go_wp2;go_meet;case rel=>exact⟨kd,_,rfl,HR7.out,HFX7.out,HL7.out,HEND.out⟩
  case inr.inr.inl=>
   go_wp2_with fail
   refine(GZ 3 _ l W3 (by decide) (by decide) HY3.out hl0).mono ?_;rintro e W4 ⟨A4,n4,c4,kd,rfl,hle4,hnc,hmx,hone⟩;have HLX:=Hi (Le.trans HL3.out hle4);have HONE:=Hi hone;clear hle4 hone;go_wp2
   go_ret2
   refine⟨A4,n4,c4,kd,rfl,HLX.out,hnc,hmx,fun a b=>?_⟩;obtain⟨g,x,q,e,h1,h2,h3⟩:=HONE.out a b;exact⟨g,x,q,e,h1,h2.imp (fun g hg=>by have:=HL3.out.size;omega),h3⟩
  case inr.inr.inr.inl=>
   go_wp2_with (refine AM rfl 22 (.tmp 62) (.tmp 61) rfl hb 2 (.slice Av l.length cv) rfl rfl rfl 37 _ HR3.out (show 2<21 by decide) B5 ?_)
   intro W5 hz5 hk5;rw[HV.set_text]at hz5;have HR5:=Hi hz5;have HK5:=Hi hk5;have HL5:Hid (Le w W5):=Hi (Below.trans HL3.out (hk5.below HHB.out.1 HL3.out.size));clear hz5 hk5;go_wp2;go_meet
   case rel=>exact⟨0,_,rfl,HR5.out,⟨HV.all.trans rfl,HV.all.trans rfl,_,_,_,rfl⟩,HL5.out,fun _=>⟨⟨4,nmT 4,l,[],PU.zero,[],0,[],[],[],[],0⟩,⟨rfl,HBN.out.setH HR3.out (HV.all.trans rfl) HK5.out,HVX.out.le HL5.out,Bv.nil _,(Hz.nil _ _).uri,Kq.nil _ _,KO.nil _ _,rfl,Bv.nil _,Bv.nil _,Bv.nil _,Bv.nil _,rfl⟩,rfl,fun h=>absurd (show BP 4∨Et 4 from h) (by decide),rfl,fun x h=>(by cases h),fun x h=>(by cases h),fun h=>absurd rfl h⟩⟩
  case inr.inr.inr.inr.inl=>
   go_wp2_with (refine wpList_load_row rfl 37 (.tmp 6) rfl hb rfl 37 (HV.row ⟨5,.slice (some ⟨B1,0,none⟩) (st (nmT 5)).size c1,.slice none 0 0,.slice none 0 0,UV.nil,.slice none 0 0,0,.slice none 0 0,.slice none 0 0,.slice none 0 0,.slice none 0 0,0⟩) (0,0) _ HR3.out Tryz.underlying37 rfl AS ?_)
   refine(O0 (.slice (some ⟨B1,0,none⟩) (st (nmT 5)).size c1) _ (nmT 5) l W3 HBN.out HY3.out (by have:=HLNN.out;omega)).mono ?_;rintro e W4 ⟨x,kd,rfl,hle4,hfit,hz⟩;have HFT:=Hi hfit;have HZZ:=Hi hz;have HL4:=Hi hle4;have HR4:=Hi (hle4.heap HR3.out);clear hle4 hfit hz
   go_wp2_with (refine AD rfl 37 (.tmp 6) (.tmp 69) rfl hb x.row rfl rfl 37 _ HR4.out AS rfl HFT.out.one ?_)
   intro W5 hz5 hk5;have HR5:=Hi hz5;have HK5:=Hi hk5;have HL5:Hid (Le w W5):=Hi (Below.trans (Le.trans HL3.out HL4.out) (hk5.below HHB.out.1 (Le.trans HL3.out HL4.out).size));clear hz5 hk5;go_wp2;go_meet
   case rel=>exact⟨kd,x,rfl,HR5.out,HFT.out,HL5.out,fun h=>by
    obtain⟨p,hz,hpt,hk⟩:=HZZ.out h;exact⟨p,(hz.setH HR4.out (HV.all.trans rfl) HK5.out (fun g hg=>by have:=HHB.out.2;omega)).imp (fun g hg=>by have:=HL3.out.size;omega),hk⟩⟩
  case inr.inr.inr.inr.inr.inl=>
   go_wp2_with fail
   refine(JJ _ l W3 HY3.out).mono ?_;rintro e w' ⟨nu,kd,rfl,rfl,hnu,hkd⟩;go_wp2_with (refine AM rfl 26 (.tmp 22) (.tmp 20) rfl hb 15 (.int .u32 nu) rfl rfl rfl 37 _ HR3.out (show 15<21 by decide) De ?_)
   intro W5 hz5 hk5;rw[HV.set_num]at hz5;have HR5:=Hi hz5;have HK5:=Hi hk5;have HL5:Hid (Le w W5):=Hi (Below.trans HL3.out (hk5.below HHB.out.1 HL3.out.size));clear hz5 hk5;go_wp2;go_meet
   case rel=>exact⟨kd,_,rfl,HR5.out,⟨HV.all.trans rfl,HV.all.trans rfl,_,_,_,rfl⟩,HL5.out,fun _=>⟨⟨6,nmT 6,[],[],PU.zero,[],nu,[],[],[],[],0⟩,⟨rfl,HBN.out.setH HR3.out (HV.all.trans rfl) HK5.out,Bv.nil _,Bv.nil _,(Hz.nil _ _).uri,Kq.nil _ _,KO.nil _ _,rfl,Bv.nil _,Bv.nil _,Bv.nil _,Bv.nil _,rfl⟩,rfl,fun h=>absurd (show BP 6∨Et 6 from h) (by decide),rfl,fun x h=>(by cases h),fun x h=>(by cases h),fun h=>absurd rfl h⟩⟩
  case inr.inr.inr.inr.inr.inr.inl=>
   go_wp2_with fail
   refine(JJ _ l W3 HY3.out).mono ?_;rintro e w' ⟨nu,kd,rfl,rfl,hnu,hkd⟩;go_wp2_with (refine AM rfl 26 (.tmp 22) (.tmp 20) rfl hb 15 (.int .u32 nu) rfl rfl rfl 37 _ HR3.out (show 15<21 by decide) De ?_)
   intro W5 hz5 hk5;rw[HV.set_num]at hz5;have HR5:=Hi hz5;have HK5:=Hi hk5;have HL5:Hid (Le w W5):=Hi (Below.trans HL3.out (hk5.below HHB.out.1 HL3.out.size));clear hz5 hk5;go_wp2;go_meet
   case rel=>exact⟨kd,_,rfl,HR5.out,⟨HV.all.trans rfl,HV.all.trans rfl,_,_,_,rfl⟩,HL5.out,fun _=>⟨⟨7,nmT 7,[],[],PU.zero,[],nu,[],[],[],[],0⟩,⟨rfl,HBN.out.setH HR3.out (HV.all.trans rfl) HK5.out,Bv.nil _,Bv.nil _,(Hz.nil _ _).uri,Kq.nil _ _,KO.nil _ _,rfl,Bv.nil _,Bv.nil _,Bv.nil _,Bv.nil _,rfl⟩,rfl,fun h=>absurd (show BP 7∨Et 7 from h) (by decide),rfl,fun x h=>(by cases h),fun x h=>(by cases h),fun h=>absurd rfl h⟩⟩
  case inr.inr.inr.inr.inr.inr.inr.inl=>
   go_wp2_with fail
   refine(JJ _ l W3 HY3.out).mono ?_;rintro e w' ⟨nu,kd,rfl,rfl,hnu,hkd⟩;go_wp2_with (refine AM rfl 26 (.tmp 22) (.tmp 20) rfl hb 15 (.int .u32 nu) rfl rfl rfl 37 _ HR3.out (show 15<21 by decide) De ?_)
   intro W5 hz5 hk5;rw[HV.set_num]at hz5;have HR5:=Hi hz5;have HK5:=Hi hk5;have HL5:Hid (Le w W5):=Hi (Below.trans HL3.out (hk5.below HHB.out.1 HL3.out.size));clear hz5 hk5;go_wp2;go_meet
   case rel=>exact⟨kd,_,rfl,HR5.out,⟨HV.all.trans rfl,HV.all.trans rfl,_,_,_,rfl⟩,HL5.out,fun _=>⟨⟨8,nmT 8,[],[],PU.zero,[],nu,[],[],[],[],0⟩,⟨rfl,HBN.out.setH HR3.out (HV.all.trans rfl) HK5.out,Bv.nil _,Bv.nil _,(Hz.nil _ _).uri,Kq.nil _ _,KO.nil _ _,rfl,Bv.nil _,Bv.nil _,Bv.nil _,Bv.nil _,rfl⟩,rfl,fun h=>absurd (show BP 8∨Et 8 from h) (by decide),rfl,fun x h=>(by cases h),fun x h=>(by cases h),fun h=>absurd rfl h⟩⟩
  case inr.inr.inr.inr.inr.inr.inr.inr.inl=>
   go_wp2_with fail
   refine(GZ 9 _ l W3 (by decide) (by decide) HY3.out hl0).mono ?_;rintro e W4 ⟨A4,n4,c4,kd,rfl,hle4,hnc,hmx,hone⟩;have HLX:=Hi (Le.trans HL3.out hle4);have HONE:=Hi hone;clear hle4 hone;go_wp2
   go_ret2
   refine⟨A4,n4,c4,kd,rfl,HLX.out,hnc,hmx,fun a b=>?_⟩;obtain⟨g,x,q,e,h1,h2,h3⟩:=HONE.out a b;exact⟨g,x,q,e,h1,h2.imp (fun g hg=>by have:=HL3.out.size;omega),h3⟩
  case inr.inr.inr.inr.inr.inr.inr.inr.inr.inl=>
   go_wp2_with (refine AM rfl 22 (.tmp 62) (.tmp 61) rfl hb 2 (.slice Av l.length cv) rfl rfl rfl 37 _ HR3.out (show 2<21 by decide) B5 ?_)
   intro W5 hz5 hk5;rw[HV.set_text]at hz5;have HR5:=Hi hz5;have HK5:=Hi hk5;have HL5:Hid (Le w W5):=Hi (Below.trans HL3.out (hk5.below HHB.out.1 HL3.out.size));clear hz5 hk5;go_wp2;go_meet
   case rel=>exact⟨0,_,rfl,HR5.out,⟨HV.all.trans rfl,HV.all.trans rfl,_,_,_,rfl⟩,HL5.out,fun _=>⟨⟨10,nmT 10,l,[],PU.zero,[],0,[],[],[],[],0⟩,⟨rfl,HBN.out.setH HR3.out (HV.all.trans rfl) HK5.out,HVX.out.le HL5.out,Bv.nil _,(Hz.nil _ _).uri,Kq.nil _ _,KO.nil _ _,rfl,Bv.nil _,Bv.nil _,Bv.nil _,Bv.nil _,rfl⟩,rfl,fun h=>absurd (show BP 10∨Et 10 from h) (by decide),rfl,fun x h=>(by cases h),fun x h=>(by cases h),fun h=>absurd rfl h⟩⟩
  case inr.inr.inr.inr.inr.inr.inr.inr.inr.inr.inl=>
   go_wp2_with fail
   refine(GZ 11 _ l W3 (by decide) (by decide) HY3.out hl0).mono ?_;rintro e W4 ⟨A4,n4,c4,kd,rfl,hle4,hnc,hmx,hone⟩;have HLX:=Hi (Le.trans HL3.out hle4);have HONE:=Hi hone;clear hle4 hone;go_wp2
   go_ret2
   refine⟨A4,n4,c4,kd,rfl,HLX.out,hnc,hmx,fun a b=>?_⟩;obtain⟨g,x,q,e,h1,h2,h3⟩:=HONE.out a b;exact⟨g,x,q,e,h1,h2.imp (fun g hg=>by have:=HL3.out.size;omega),h3⟩
  case inr.inr.inr.inr.inr.inr.inr.inr.inr.inr.inr.inl=>
   go_wp2_with fail
   refine(GZ 12 _ l W3 (by decide) (by decide) HY3.out hl0).mono ?_;rintro e W4 ⟨A4,n4,c4,kd,rfl,hle4,hnc,hmx,hone⟩;have HLX:=Hi (Le.trans HL3.out hle4);have HONE:=Hi hone;clear hle4 hone;go_wp2
   go_ret2
   refine⟨A4,n4,c4,kd,rfl,HLX.out,hnc,hmx,fun a b=>?_⟩;obtain⟨g,x,q,e,h1,h2,h3⟩:=HONE.out a b;exact⟨g,x,q,e,h1,h2.imp (fun g hg=>by have:=HL3.out.size;omega),h3⟩
  case inr.inr.inr.inr.inr.inr.inr.inr.inr.inr.inr.inr.inl=>
   go_wp2_with fail
   refine(JL 13 _ l W3 (by decide) (by decide) HY3.out hpos hl).mono ?_;rintro e W4 ⟨x,kd,rfl,hle4,hfit,hz⟩;have HFT:=Hi hfit;have HZZ:=Hi hz;have HL4:=Hi hle4;have HR4:=Hi (hle4.heap HR3.out);clear hle4 hfit hz;go_wp2_with (refine AD rfl 37 (.tmp 6) (.tmp 56) rfl hb x.row rfl rfl 37 _ HR4.out AS rfl HFT.out.one ?_)
   intro W5 hz5 hk5;have HR5:=Hi hz5;have HK5:=Hi hk5;have HL5:Hid (Le w W5):=Hi (Below.trans (Le.trans HL3.out HL4.out) (hk5.below HHB.out.1 (Le.trans HL3.out HL4.out).size));clear hz5 hk5;go_wp2;go_meet
   case rel=>exact⟨kd,x,rfl,HR5.out,HFT.out,HL5.out,fun h=>by
    obtain⟨p,hz,hpt,hk⟩:=HZZ.out h;exact⟨p,(hz.setH HR4.out (HV.all.trans rfl) HK5.out (fun g hg=>by have:=HHB.out.2;omega)).imp (fun g hg=>by have:=HL3.out.size;omega),hk⟩⟩
  case inr.inr.inr.inr.inr.inr.inr.inr.inr.inr.inr.inr.inr=>
   go_wp2_with fail
   refine(FW _ l W3 HY3.out (by have:=HLNN.out;omega)).mono ?_;rintro e W4 ⟨nv,pv,xu,kd,rfl,hle4,hone,hm⟩;obtain⟨An,mn,cn,rfl⟩:∃A n c,nv= .slice A n c:=by
    rcases hs:Bi l with _|⟨n,u,kvs⟩
    ·rw[hs]at hm;exact⟨_,_,_,hm.2.2.1⟩
    ·rw[hs]at hm;obtain⟨A,c,e⟩:=hm.2.1.form;exact⟨A,_,c,e⟩
   obtain⟨Ap,mp,cp,rfl⟩:∃A n c,pv= .slice A n c:=by
    rcases hs:Bi l with _|⟨n,u,kvs⟩
    ·rw[hs]at hm;exact⟨_,_,_,hm.2.2.2⟩
    ·rw[hs]at hm;obtain⟨A,c,e,_⟩:=hm.2.2.2.1;exact⟨A,_,c,e⟩
   have hxn:xu.row.all Eq=true∧xu.wild=false:=by
    rcases hs:Bi l with _|⟨n,u,kvs⟩
    ·rw[hs]at hm;rw[hm.2.1];exact⟨CA.trans rfl,rfl⟩
    ·rw[hs]at hm;have hqq:=hm.2.2.1.toUq;refine⟨?_,hqq.wild.trans (CW hs).2.1⟩;rw[CA,hqq.scheme.1.nou,hqq.raw.1.nou,hqq.user.1.nou,hqq.pass.1.nou,hqq.host.1.nou,hqq.ps.nou,hqq.hs.nou];rfl
   have HM:=Hi hm;have HXO:=Hi hone;have HXN:=Hi hxn;have HL4:=Hi hle4;have HR4:=Hi (hle4.heap HR3.out);clear hle4 hone hm hxn;go_wp2_with (refine AM rfl 22 (.tmp 34) (.tmp 30) rfl hb 3 (.slice An mn cn) rfl rfl rfl 37 _ HR4.out (show 3<21 by decide) B5 ?_)
   intro W5 hz5 hk5;rw[HV.set_disp]at hz5;have HR5:=Hi hz5;have HK5:=Hi hk5;have HL5:Hid (Le w W5):=Hi (Below.trans (Le.trans HL3.out HL4.out) (hk5.below HHB.out.1 (Le.trans HL3.out HL4.out).size));clear hz5 hk5;go_wp2_with (refine BG rfl 35 (.tmp 35) (.tmp 31) rfl hb 4 xu.row rfl rfl 37 _ HR5.out AI (show 4+10≤21 by decide) HXO.out ?_)
   intro W6 hz6 hk6;rw[HV.put_uri]at hz6;have HR6:=Hi hz6;have HK6:=Hi hk6;have HL6:Hid (Le w W6):=Hi (Below.trans HL5.out (hk6.below HHB.out.1 HL5.out.size));clear hz6 hk6;go_upto_region 11 with(refine AM rfl 33 (.tmp 36) (.tmp 32) rfl hb 14 (.slice Ap mp cp) rfl rfl rfl 37 _ HR6.out (show 14<21 by decide) D0 ?_)
   intro W7 hz7 hk7;rw[HV.set_ps]at hz7;have HR7:=Hi hz7;have HK7:=Hi hk7;have HL7:Hid (Le w W7):=Hi (Below.trans HL6.out (hk7.below HHB.out.1 HL6.out.size));have g6:W7.cell? ⟨hb,6,none⟩=some (.bool false):=by rw[AB hz7 6,←HXN.out.2];rfl
   clear hz7 hk7;have HFX5:Hid ((HV.row ⟨14,.slice (some ⟨B1,0,none⟩) (st (nmT 14)).size c1,.slice none 0 0,.slice An mn cn,UV.nil,.slice none 0 0,0,.slice none 0 0,.slice none 0 0,.slice none 0 0,.slice none 0 0,0⟩).all Eq=true):=Hi (HV.all.trans rfl)
   have HFX6:Hid ((HV.row ⟨14,.slice (some ⟨B1,0,none⟩) (st (nmT 14)).size c1,.slice none 0 0,.slice An mn cn,xu,.slice none 0 0,0,.slice none 0 0,.slice none 0 0,.slice none 0 0,.slice none 0 0,0⟩).all Eq=true):=Hi (DD HXN.out.1)
   have HFX7:Hid (Gs ⟨14,.slice (some ⟨B1,0,none⟩) (st (nmT 14)).size c1,.slice none 0 0,.slice An mn cn,xu,.slice Ap mp cp,0,.slice none 0 0,.slice none 0 0,.slice none 0 0,.slice none 0 0,0⟩):=Hi ⟨DD HXO.out,DD HXN.out.1,_,_,_,rfl⟩
   have HEND:Hid (kd=0→∃q,Hz (w.heap.size≤·) W7 ⟨14,.slice (some ⟨B1,0,none⟩) (st (nmT 14)).size c1,.slice none 0 0,.slice An mn cn,xu,.slice Ap mp cp,0,.slice none 0 0,.slice none 0 0,.slice none 0 0,.slice none 0 0,0⟩ q∧PHk q):=Hi (fun h=>by
    have hm:=HM.out;rcases hs:Bi l with _|⟨n,u,kvs⟩
    ·rw[hs]at hm;rw[hm.1]at h;exact absurd h (by decide)
    rw[hs]at hm;obtain⟨_,hbn,hux,hkq,hko⟩:=hm;obtain⟨⟨s,hsu,hsl⟩,hw,hkv⟩:=CW hs;have hl0:=HLNN.out;have hno:∀g,W3.heap.size≤g→g≠hb:=fun g hg=>by have:=HHB.out.2;omega
    have hko':KO (W3.heap.size≤·) (.slice Ap mp cp) kvs:=fun _=>hko;have u7:=((hux.uz.setH HR4.out (HV.all.trans rfl) HK5.out hno).setH HR5.out HFX5.out HK6.out hno).setH HR6.out HFX6.out HK7.out hno;have n7:=((hbn.setH HR4.out (HV.all.trans rfl) HK5.out).setH HR5.out HFX5.out HK6.out).setH HR6.out HFX6.out HK7.out
    have k7:=((hkq.setH HR4.out (HV.all.trans rfl) HK5.out (hko'.imp hno)).setH HR5.out HFX5.out HK6.out (hko'.imp hno)).setH HR6.out HFX6.out HK7.out (hko'.imp hno);have b7:=(((HBN.out.le HL4.out).setH HR4.out (HV.all.trans rfl) HK5.out).setH HR5.out HFX5.out HK6.out).setH HR6.out HFX6.out HK7.out;have hsz:∀g,W3.heap.size≤g→w.heap.size≤g:=fun g hg=>by have:=HL3.out.size;omega
    exact⟨⟨14,nmT 14,[],n,u,kvs,0,[],[],[],[],0⟩,⟨rfl,b7,Bv.nil _,n7,u7.imp hsz,k7,hko'.imp hsz,rfl,Bv.nil _,Bv.nil _,Bv.nil _,Bv.nil _,rfl⟩,hw,fun _=>FY hsu hw,FZ hsu,hkv,fun x h=>(by cases h),FX hsu (by omega)⟩)
   go_wp2;go_meet;case rel=>exact⟨kd,_,rfl,HR7.out,HFX7.out,HL7.out,HEND.out⟩
 case rest=>
 obtain⟨kd,x,rfl,hr,hfit,hle,hz⟩:=hcut;by_cases hk0:kd=0;case neg=>
  have hkb:(kd != 0)=true:=by rw[bne_iff_ne];exact hk0
  go_wp2
  go_ret2
  exact DE.fail w _ hle kd hk0
 case pos=>
 subst hk0
 rename World=>Wx
 obtain⟨q,hzq,hkq⟩:=hz rfl;have HRX:=Hi hr;have HFX:=Hi hfit;have HLX2:=Hi hle;have HZQ:=Hi hzq;have HKQ:=Hi hkq;clear hr hfit hle hz hzq hkq;go_wp2_with (first|refine wpList_load_row rfl 37 (.tmp 6) rfl hb rfl 37 x.row (0,0) _ HRX.out Tryz.underlying37 rfl AS ?_ |refine Cf rfl 74 rfl (some 75) rfl x rfl ?_)
 go_ret2
 refine⟨_,1,1,0,rfl,HLX2.out.trans ((AC Wx).alloc _),NL _,by decide,fun _ _=>⟨Wx.heap.size,x,q,rfl,fun j v hv=>by rw[AB (heap_alloc_new Wx _) j];exact hv,HZQ.out.le ((AC Wx).alloc _),HKQ.out⟩⟩
def TrV(w:World)(l:Tx)(v:Value):Prop:=∃m,Bv w v m∧m.length≤l.length
def phS(w:World)(l:Tx)(Av A2:Option Addr)(lv cv n2 c2 ak:Nat):Nat→Value→World→Prop
 |0,v,_=>v=(.slice Av lv cv)
 |4,v,_=>v=(.int .i64 (ak:Int))
 |5,v,w_=>TrV w l v
 |6,v,w_=>TrV w l v
 |25,v,_=>v=(.slice Av lv cv)
 |26,v,_=>v=(.int .i64 (ak:Int))
 |27,v,_=>v=(.slice Av ak cv)
 |28,v,w_=>TrV w l v
 |29,v,_=>v=(.slice Av lv cv)
 |30,v,_=>v=(.int .i64 (ak:Int))
 |31,v,_=>v=(.int .i64 ((ak:Int)+1))
 |32,v,_=>v=(.slice A2 n2 c2)
 |33,v,w_=>TrV w l v
 |_,_,_=>True
theorem N8(w:World)(l:Tx)(Av A2:Option Addr)(lv cv n2 c2 ak:Nat)(t:Nat)(v:Value)(w1 w2:World)(k:Le w1 w2)(h:phS w l Av A2 lv cv n2 c2 ak t v w1):phS w l Av A2 lv cv n2 c2 ak t v w2:=by
 unfold phS at h⊢;split at h<;>first|exact h|exact h
theorem G0(v:Value)(l:Tx)(w:World)(hv:Bv w v l)(hl0:l.length≤100000000000):
 Calls Tryz.prog 17 #[v] w (DE w):=by
 have HVX:=Hi hv;obtain⟨Av,cv,rfl,h1,h2,h4⟩:=hv;have HR:=Hi h4;clear h4;go_enter Tryz.func17,Tryz.ntmps17;go_wp2
 go_loopg [4] (l.length) (fun n iv wr=>∃k:Nat,n+k=l.length∧iv= .int .i64 k∧w=wr)
 case atStart=>exact⟨0,by omega,rfl,rfl⟩
 case round=>
  obtain⟨ak,hn,rfl,rfl⟩:=hrel;have HN:gk+ak≤l.length∧l.length≤gk+ak:=by omega
  clear hn;go_upto_region 2 with fail
  go_cut [18]from 8 to 20 (fun s18 wx=>∃q:Bool,s18= .bool q∧w=wx∧(q=true→ak<l.length))
  case first=>
   by_cases hlt:ak<l.length
   ·obtain⟨bb,oo,rfl,d1⟩:=HR.out.at_ hlt;generalize(l[ak].toNat:Int)=x at d1;obtain⟨p1,hp1⟩:∃q,((x:Int) != 58)=q:=⟨_,rfl⟩;cases p1
    ·go_wp2;go_meet;case rel=>exact⟨false,rfl,rfl,by simp⟩
    ·go_wp2;go_meet;case rel=>exact⟨true,rfl,rfl,fun _=>hlt⟩
   ·go_wp2;go_meet;case rel=>exact⟨false,rfl,rfl,by simp⟩
  case rest=>
  obtain⟨q,rfl,rfl,hqq⟩:=hcut;cases q;case true=>
   have hlt:=hqq rfl;go_wp2;go_roundg (gk-1)
   case measure=>omega
   case rel=>exact⟨ak+1,by omega,by go_num,rfl⟩
  clear hqq;by_cases hend:ak=l.length
  ·have hb:((ak:Int)==(l.length:Int))=true:=by rw[hend];simp
   clear hend;go_wp2
   go_ret2
   exact DE.fail w _ (AC _) (-1) (by decide)
  have hb:((ak:Int)==(l.length:Int))=false:=by rw[beq_eq_false_iff_ne];omega
  have hlt:ak<l.length:=by omega
  clear hend;have HTK:Hid (Bv w (.slice Av ak cv) (l.take ak)):=Hi (CD HVX.out (k:=ak) (by omega) (m:=cv) (by omega) (NL _));obtain⟨v2,hb2,q1,q2⟩:=Bb HVX.out (k:=ak+1) (z:=(ak:Int)+1) (by omega) (by omega);have HV2:=Hi hb2;obtain⟨A2,c2,rfl⟩:=hb2.form;generalize hn2:(l.drop (ak+1)).length=n2 at HV2 q1 q2;clear hb2 q2 hn2;go_upto_region 6 with fail
  have hm_ph:(Tryz.prog).follows .mixedOrders=true:=by kernel_rfl
  refine wp_region_grow_put (phS w l Av A2 l.length cv n2 c2 ak) (fun _ _=>True) (Le w) 59 [25,26,27,28,29,30,31,32,33,5,6] hm_ph (by kernel_rfl) rfl rfl ?hG_ph ?hold_ph ?hs_ph ?hend_ph;case hG_ph=>exact(AC w).drew
  case hold_ph=>
   intro t ht;simp only[List.mem_cons,List.mem_nil_iff,or_false,not_or]at ht;unfold phS;split<;>first|exact True.intro|(exfalso;simp at ht;done)|rfl
  case hs_ph=>
   refine⟨?_,?_,?_,?_,?_,?_,?_,?_,?_,?_,?_,trivial⟩
   ·refine AA fun a W hg hop=>?_;have h0:_=_:=hq hop 0;have h0':=tg h0;refine⟨_,?_,rfl⟩;simp only[execOp,h0];go_simp
   ·refine AA fun a W hg hop=>?_;have h4:_=_:=hq hop 4;have h4':=tg h4;refine⟨_,?_,rfl⟩;simp only[execOp,h4];go_simp
   ·refine AA fun a W hg hop=>?_;have h25:_=_:=hq hop 25;have h25':=tg h25;have h26:_=_:=hq hop 26;have h26':=tg h26;refine⟨_,?_,rfl⟩;have hkc:ak≤cv:=by omega
    have hkn:0≤(ak:Int):=by omega
    simp only[execOp,h25,h26];go_simp
   ·refine AG ?_ ?_ ?_ ?_
    ·exact fun t v w1 w2 kl h=>N8 w l Av A2 l.length cv n2 c2 ak t v w1 w2 kl h
    ·exact fun _ _ _ _ h=>h
    ·exact fun w1 w2 k h=>Le.trans h k
    ·intro a W hg hop;have h27:_=_:=hq hop 27;have h27':=tg h27;refine⟨31,#[.slice Av ak cv],?_,(Fa (.slice Av ak cv) _ w W hg HTK.out).mono ?_⟩
     ·simp only[execOp,h27];go_simp
     ·rintro e w' ⟨v',m,rfl,rfl,hb,hm⟩;exact⟨v',rfl,AC _,m,hb,by rw[List.length_take]at hm;omega⟩
   ·refine AA fun a W hg hop=>?_;have h0:_=_:=hq hop 0;have h0':=tg h0;refine⟨_,?_,rfl⟩;simp only[execOp,h0];go_simp
   ·refine AA fun a W hg hop=>?_;have h4:_=_:=hq hop 4;have h4':=tg h4;refine⟨_,?_,rfl⟩;simp only[execOp,h4];go_simp
   ·refine AA fun a W hg hop=>?_;have h30:_=_:=hq hop 30;have h30':=tg h30;refine⟨_,?_,rfl⟩;simp only[execOp,h30];go_simp;exact IntWalk.i64_in _ (by omega)
   ·refine AA fun a W hg hop=>?_;have h29:_=_:=hq hop 29;have h29':=tg h29;have h31:_=_:=hq hop 31;have h31':=tg h31;refine⟨_,?_,rfl⟩;simp only[execOp,h29,h31];have hqq:=q1 W;go_simp
   ·refine AG ?_ ?_ ?_ ?_
    ·exact fun t v w1 w2 kl h=>N8 w l Av A2 l.length cv n2 c2 ak t v w1 w2 kl h
    ·exact fun _ _ _ _ h=>h
    ·exact fun w1 w2 k h=>Le.trans h k
    ·intro a W hg hop;have h32:_=_:=hq hop 32;have h32':=tg h32;refine⟨31,#[.slice A2 n2 c2],?_,(Fa (.slice A2 n2 c2) _ w W hg HV2.out).mono ?_⟩
     ·simp only[execOp,h32];go_simp
     ·rintro e w' ⟨v',m,rfl,rfl,hb,hm⟩;exact⟨v',rfl,AC _,m,hb,by rw[List.length_drop]at hm;omega⟩
   ·refine AA fun a W hg hop=>?_;have h28:TrV w l (a.eval (.tmp 28)):=(hq hop 28);refine⟨a.eval (.tmp 28),?_,h28⟩;rfl
   ·refine AA fun a W hg hop=>?_;have h33:TrV w l (a.eval (.tmp 33)):=(hq hop 33);refine⟨a.eval (.tmp 33),?_,h33⟩;rfl
  case hend_ph=>
   intro s_ wz hg hS hZ;have HLZ:=Hi (show Le w wz from hg);obtain⟨m1,hm1,hl1⟩:TrV w l (s_ 5):=hS 5 (by decide);obtain⟨m2,hm2,hl2⟩:TrV w l (s_ 6):=hS 6 (by decide);obtain⟨An,cn,e5⟩:=hm1.form;obtain⟨At,ct,e6⟩:=hm2.form;rw[e5]at hm1;rw[e6]at hm2;have HM1:=Hi hm1;have HM2:=Hi hm2;clear hS hZ hg hm1 hm2
   simp only[Aj,Act.put,List.setIfInBounds_toArray,List.set_cons_zero,List.set_cons_succ];rw[e5,e6];clear e5 e6;obtain⟨b1,hb1⟩:∃b,DU m1=b:=⟨_,rfl⟩;have C1:=Hi (AW (Cr _ m1 wz (HM1.out.le HLZ.out)) hb1);have C2:=Hi (K0 _ m2 wz (HM2.out.le HLZ.out));clear hb1;go_wp2_with fail
   refine C1.out.mono ?_;rintro e w' ⟨rfl,rfl⟩;cases b1;case false=>
    go_wp2
    go_ret2
    exact DE.fail w _ HLZ.out (-2) (by decide)
   go_wp2_with fail
   refine C2.out.mono ?_;rintro e w' ⟨b2,rfl,rfl⟩;cases b2;case false=>
    go_wp2
    go_ret2
    exact DE.fail w _ HLZ.out (-2) (by decide)
   clear C1 C2;go_wp2_with fail
   refine(Kz _ m1 wz (HM1.out.le HLZ.out)).mono ?_;rintro e W2 ⟨t,rfl,ht0,ht14,hle2⟩;have HL2:=Hi (Le.trans HLZ.out hle2);clear hle2;by_cases hg:t=0∨t=7
   ·have HX:Hid (Gs ⟨0,.slice An m1.length cn,.slice At m2.length ct,.slice none 0 0,UV.nil,.slice none 0 0,0,.slice none 0 0,.slice none 0 0,.slice none 0 0,.slice none 0 0,0⟩):=Hi ⟨HV.all.trans rfl,HV.all.trans rfl,_,_,_,rfl⟩;rcases hg with rfl|rfl<;>
    ·go_wp2_with (first|refine wpList_buildTo rfl 37 #[(1,.tmp 50),(2,.tmp 51)] rfl (some 52) rfl (HV.row ⟨0,.slice An m1.length cn,.slice At m2.length ct,.slice none 0 0,UV.nil,.slice none 0 0,0,.slice none 0 0,.slice none 0 0,.slice none 0 0,.slice none 0 0,0⟩) (by kernel_rfl) ?_ |refine Cf rfl 52 rfl (some 53) rfl ⟨0,.slice An m1.length cn,.slice At m2.length ct,.slice none 0 0,UV.nil,.slice none 0 0,0,.slice none 0 0,.slice none 0 0,.slice none 0 0,.slice none 0 0,0⟩ rfl ?_)
     go_ret2
     refine⟨_,1,1,0,rfl,HL2.out.trans ((AC W2).alloc _),NL _,by decide,fun _ _=>⟨W2.heap.size,⟨0,.slice An m1.length cn,.slice At m2.length ct,.slice none 0 0,UV.nil,.slice none 0 0,0,.slice none 0 0,.slice none 0 0,.slice none 0 0,.slice none 0 0,0⟩,⟨0,m1,m2,[],PU.zero,[],0,[],[],[],[],0⟩,rfl,fun j v hv=>by rw[AB (heap_alloc_new W2 _) j];exact hv,?_,rfl,fun h=>absurd (show BP 0∨Et 0 from h) (by decide),rfl,fun x h=>(by cases h),fun x h=>(by cases h),fun h=>absurd rfl h⟩⟩
     exact⟨rfl,HM1.out.le (HL2.out.trans ((AC W2).alloc _)),HM2.out.le (HL2.out.trans ((AC W2).alloc _)),Bv.nil _,(Hz.nil _ _).uri,Kq.nil _ _,KO.nil _ _,rfl,Bv.nil _,Bv.nil _,Bv.nil _,Bv.nil _,rfl⟩
   ·have hb0:((t:Int)==0)=false:=by rw[beq_eq_false_iff_ne];omega
    have hb7:((t:Int)==7)=false:=by rw[beq_eq_false_iff_ne];omega
    have ht1:1≤t:=by omega
    clear hg;go_wp2_with fail
    refine(Oy t _ m2 W2 ht1 ht14 (HM2.out.le HL2.out) (by omega)).mono ?_;rintro e W4 ⟨A4,n4,c4,kd,rfl,hle4,hnc,hmx,hone⟩;have HLX:=Hi (Le.trans HL2.out hle4);have HONE:=Hi hone;clear hle4 hone;go_wp2
    go_ret2
    refine⟨A4,n4,c4,kd,rfl,HLX.out,hnc,hmx,fun a b=>?_⟩;obtain⟨g,x,q,e,h1,h2,h3⟩:=HONE.out a b;exact⟨g,x,q,e,h1,h2.imp (fun g hg=>by have:=HL2.out.size;omega),h3⟩
end Go.Proofs.YtejhpdcjafbklaaGreatDoor
