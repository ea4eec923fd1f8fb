/- The law FnHeadWritten: Known. -/
import Derived.Lib.SmallJoins
import Derived.Test.YtejhpdcjafbklaaGreatDoorHead
set_option linter.all false
set_option maxHeartbeats 4000000
set_option maxRecDepth 8000
namespace Go.Proofs.YtejhpdcjafbklaaGreatDoor
open Go.RowKit
def uri4(user host:Tx)(port:Int):PU:=⟨Fb,[],false,false,user,[],host,port,[],[]⟩
theorem set10{W:World}{b:Nat}{T:TypeId}{a0 a1 a2 a3 a4 a5 a6 a7 a8 a9:Value}(hb:W.heap[b]? =some (.cells #[a0,a1,a2,a3,a4,a5,a6,a7,a8,a9] T (0,0)))(v0 v1 v2 v3 v4 v5 v6 v7 v8 v9:Value):
 ∃W',W'=((((((((((W.setCell ⟨b,0,none⟩ v0).setCell ⟨b,1,none⟩ v1).setCell ⟨b,2,none⟩ v2).setCell ⟨b,3,none⟩ v3).setCell ⟨b,4,none⟩ v4).setCell ⟨b,5,none⟩ v5).setCell ⟨b,6,none⟩ v6).setCell ⟨b,7,none⟩ v7).setCell ⟨b,8,none⟩ v8).setCell ⟨b,9,none⟩ v9)∧W'.heap[b]? =some (.cells #[v0,v1,v2,v3,v4,v5,v6,v7,v8,v9] T (0,0))∧Kp b W W':=by
 have h0:(W.setCell ⟨b,0,none⟩ v0).heap[b]? =some (.cells #[v0,a1,a2,a3,a4,a5,a6,a7,a8,a9] T (0,0)):=AX hb 0 v0;have h1:((W.setCell ⟨b,0,none⟩ v0).setCell ⟨b,1,none⟩ v1).heap[b]? =some (.cells #[v0,v1,a2,a3,a4,a5,a6,a7,a8,a9] T (0,0)):=AX h0 1 v1
 have h2:(((W.setCell ⟨b,0,none⟩ v0).setCell ⟨b,1,none⟩ v1).setCell ⟨b,2,none⟩ v2).heap[b]? =some (.cells #[v0,v1,v2,a3,a4,a5,a6,a7,a8,a9] T (0,0)):=AX h1 2 v2;have h3:((((W.setCell ⟨b,0,none⟩ v0).setCell ⟨b,1,none⟩ v1).setCell ⟨b,2,none⟩ v2).setCell ⟨b,3,none⟩ v3).heap[b]? =some (.cells #[v0,v1,v2,v3,a4,a5,a6,a7,a8,a9] T (0,0)):=AX h2 3 v3
 have h4:(((((W.setCell ⟨b,0,none⟩ v0).setCell ⟨b,1,none⟩ v1).setCell ⟨b,2,none⟩ v2).setCell ⟨b,3,none⟩ v3).setCell ⟨b,4,none⟩ v4).heap[b]? =some (.cells #[v0,v1,v2,v3,v4,a5,a6,a7,a8,a9] T (0,0)):=AX h3 4 v4
 have h5:((((((W.setCell ⟨b,0,none⟩ v0).setCell ⟨b,1,none⟩ v1).setCell ⟨b,2,none⟩ v2).setCell ⟨b,3,none⟩ v3).setCell ⟨b,4,none⟩ v4).setCell ⟨b,5,none⟩ v5).heap[b]? =some (.cells #[v0,v1,v2,v3,v4,v5,a6,a7,a8,a9] T (0,0)):=AX h4 5 v5
 have h6:(((((((W.setCell ⟨b,0,none⟩ v0).setCell ⟨b,1,none⟩ v1).setCell ⟨b,2,none⟩ v2).setCell ⟨b,3,none⟩ v3).setCell ⟨b,4,none⟩ v4).setCell ⟨b,5,none⟩ v5).setCell ⟨b,6,none⟩ v6).heap[b]? =some (.cells #[v0,v1,v2,v3,v4,v5,v6,a7,a8,a9] T (0,0)):=AX h5 6 v6
 have h7:((((((((W.setCell ⟨b,0,none⟩ v0).setCell ⟨b,1,none⟩ v1).setCell ⟨b,2,none⟩ v2).setCell ⟨b,3,none⟩ v3).setCell ⟨b,4,none⟩ v4).setCell ⟨b,5,none⟩ v5).setCell ⟨b,6,none⟩ v6).setCell ⟨b,7,none⟩ v7).heap[b]? =some (.cells #[v0,v1,v2,v3,v4,v5,v6,v7,a8,a9] T (0,0)):=AX h6 7 v7
 have h8:(((((((((W.setCell ⟨b,0,none⟩ v0).setCell ⟨b,1,none⟩ v1).setCell ⟨b,2,none⟩ v2).setCell ⟨b,3,none⟩ v3).setCell ⟨b,4,none⟩ v4).setCell ⟨b,5,none⟩ v5).setCell ⟨b,6,none⟩ v6).setCell ⟨b,7,none⟩ v7).setCell ⟨b,8,none⟩ v8).heap[b]? =some (.cells #[v0,v1,v2,v3,v4,v5,v6,v7,v8,a9] T (0,0)):=AX h7 8 v8
 have h9:((((((((((W.setCell ⟨b,0,none⟩ v0).setCell ⟨b,1,none⟩ v1).setCell ⟨b,2,none⟩ v2).setCell ⟨b,3,none⟩ v3).setCell ⟨b,4,none⟩ v4).setCell ⟨b,5,none⟩ v5).setCell ⟨b,6,none⟩ v6).setCell ⟨b,7,none⟩ v7).setCell ⟨b,8,none⟩ v8).setCell ⟨b,9,none⟩ v9).heap[b]? =some (.cells #[v0,v1,v2,v3,v4,v5,v6,v7,v8,v9] T (0,0)):=AX h8 9 v9
 exact⟨_,rfl,h9,(((((((((((Kp.refl b W).set 0 _).set 1 _).set 2 _).set 3 _).set 4 _).set 5 _).set 6 _).set 7 _).set 8 _).set 9 _)⟩
theorem uri_c(w:World)(s1 s2:ByteArray)(p:Int)(h1:s1.size≤1099511627776)(h2:s2.size≤1099511627776):
 Calls Tryz.prog 21 #[.string s1,.string s2,.int .i64 p] w fun e w'=>∃x:UV,e= .returned x.val∧Uq (w.heap.size≤·) w' x (uri4 (bs s1) (bs s2) p)∧Le w w':=by
 go_enter Tryz.func21,Tryz.ntmps21;have qc:=Joins.run_convert_bytes_const_at (P:=Tryz.prog) (w.alloc (Obj.cells #[.slice none 0 0,.slice none 0 0,.bool false,.bool false,.slice none 0 0,.slice none 0 0,.slice none 0 0,.int .i64 0,.slice none 0 0,.slice none 0 0] 25)) 22 5 #[.int .u8 115,.int .u8 105,.int .u8 112] 3 3 (w.heap.size+1) (by simp) Tryz.underlying22 Tryz.underlying5
 obtain⟨B2,c2,W2,q2,le2,bt2⟩:=AT (base:=w.heap.size+1) ((w.alloc (Obj.cells #[.slice none 0 0,.slice none 0 0,.bool false,.bool false,.slice none 0 0,.slice none 0 0,.slice none 0 0,.int .i64 0,.slice none 0 0,.slice none 0 0] 25)).alloc (Obj.cells #[.int .u8 115,.int .u8 105,.int .u8 112] 5 (3,4))) s1 (by simp) (by omega)
 obtain⟨B3,c3,W3,q3,le3,bt3⟩:=AT (base:=w.heap.size+1) W2 s2 (by have:=le2.size;simp at this;omega) (by omega);have hle3:Le ((w.alloc (Obj.cells #[.slice none 0 0,.slice none 0 0,.bool false,.bool false,.slice none 0 0,.slice none 0 0,.slice none 0 0,.int .i64 0,.slice none 0 0,.slice none 0 0] 25)).alloc (Obj.cells #[.int .u8 115,.int .u8 105,.int .u8 112] 5 (3,4))) W3:=Le.trans le2 le3
 have hb:W3.heap[w.heap.size]? =some (.cells #[.slice none 0 0,.slice none 0 0,.bool false,.bool false,.slice none 0 0,.slice none 0 0,.slice none 0 0,.int .i64 0,.slice none 0 0,.slice none 0 0] 25 (0,0)):=Le.heap hle3 (heap_alloc2_old w _ _);have hs:W3.heap[w.heap.size+1]? =some (.cells #[.int .u8 115,.int .u8 105,.int .u8 112] 5 (3,4)):=Le.heap hle3 (heap_alloc2_new w _ _)
 have y0:W3.cell? ⟨w.heap.size,0,none⟩=some (.slice none 0 0):=AB hb 0;have z0:W3.frozen? ⟨w.heap.size,0,none⟩=false:=AN hb 0;have y1:W3.cell? ⟨w.heap.size,1,none⟩=some (.slice none 0 0):=AB hb 1;have z1:W3.frozen? ⟨w.heap.size,1,none⟩=false:=AN hb 1;have y2:W3.cell? ⟨w.heap.size,2,none⟩=some (.bool false):=AB hb 2
 have z2:W3.frozen? ⟨w.heap.size,2,none⟩=false:=AN hb 2;have y3:W3.cell? ⟨w.heap.size,3,none⟩=some (.bool false):=AB hb 3;have z3:W3.frozen? ⟨w.heap.size,3,none⟩=false:=AN hb 3;have y4:W3.cell? ⟨w.heap.size,4,none⟩=some (.slice none 0 0):=AB hb 4;have z4:W3.frozen? ⟨w.heap.size,4,none⟩=false:=AN hb 4
 have y5:W3.cell? ⟨w.heap.size,5,none⟩=some (.slice none 0 0):=AB hb 5;have z5:W3.frozen? ⟨w.heap.size,5,none⟩=false:=AN hb 5;have y6:W3.cell? ⟨w.heap.size,6,none⟩=some (.slice none 0 0):=AB hb 6;have z6:W3.frozen? ⟨w.heap.size,6,none⟩=false:=AN hb 6;have y7:W3.cell? ⟨w.heap.size,7,none⟩=some (.int .i64 0):=AB hb 7
 have z7:W3.frozen? ⟨w.heap.size,7,none⟩=false:=AN hb 7;have y8:W3.cell? ⟨w.heap.size,8,none⟩=some (.slice none 0 0):=AB hb 8;have z8:W3.frozen? ⟨w.heap.size,8,none⟩=false:=AN hb 8;have y9:W3.cell? ⟨w.heap.size,9,none⟩=some (.slice none 0 0):=AB hb 9;have z9:W3.frozen? ⟨w.heap.size,9,none⟩=false:=AN hb 9;have HB:=Hi hb;have HS:=Hi hs
 have HL3:=Hi hle3;have HB2:=Hi (bt2.le le3);have HB3:=Hi bt3;clear hb hs hle3 le2 le3 bt2 bt3;have HLE:Hid (Le w W3):=Hi (Le.trans (((AC w).alloc _).alloc _) HL3.out);go_wp2
 obtain⟨W4,hW4,h4,k4⟩:=set10 HB.out (.slice (some ⟨w.heap.size+1,0,none⟩) 3 3) (.slice none 0 0) (.bool false) (.bool false) (.slice (some ⟨B2,0,none⟩) s1.size c2) (.slice none 0 0) (.slice (some ⟨B3,0,none⟩) s2.size c3) (.int .i64 p) (.slice none 0 0) (.slice none 0 0);rw[←hW4];clear hW4
 refine bodyPost_ret (results_cell_row rfl _ _ w.heap.size 25 _ (0,0) _ rfl h4 Tryz.underlying25 rfl Cx) rfl ?_;refine⟨⟨.slice (some ⟨w.heap.size+1,0,none⟩) 3 3,.slice none 0 0,false,false,.slice (some ⟨B2,0,none⟩) s1.size c2,.slice none 0 0,.slice (some ⟨B3,0,none⟩) s2.size c3,p,.slice none 0 0,.slice none 0 0⟩,rfl,?_,Below.trans HLE.out (k4.below (NL _) HLE.out.size)⟩
 have f1:Bq (w.heap.size+1≤·) W3 (.slice (some ⟨w.heap.size+1,0,none⟩) 3 3) Fb:=by
  refine⟨⟨_,3,rfl,by decide,by decide,by decide,fun _=>⟨w.heap.size+1,0,rfl,fun j hj=>?_⟩⟩,fun g hg=>?_⟩
  ·have e:=AB HS.out (0+j);rw[e]
   match j,hj with
   |0,_=>rfl
   |1,_=>rfl
   |2,_=>rfl
  ·simp only[Value.ownBlock,Option.some.injEq]at hg;omega
 have f2:Bq (w.heap.size+1≤·) W3 (.slice (some ⟨B2,0,none⟩) s1.size c2) (bs s1):=⟨HB2.out.1,fun g h=>(HB2.out.2 g h).1⟩;have f3:Bq (w.heap.size+1≤·) W3 (.slice (some ⟨B3,0,none⟩) s2.size c3) (bs s2):=⟨HB3.out.1,fun g h=>(HB3.out.2 g h).1⟩;have hw:∀g,w.heap.size+1≤g→w.heap.size≤g:=fun g h=>by omega
 exact Uq.imp (φ:=(w.heap.size+1≤·)) (Uq.keep (w:=W3) ⟨f1,Bq.nil _ _,rfl,rfl,f2,Bq.nil _ _,f3,rfl,Kq.nil _ _,Kq.nil _ _⟩ (fun g hg hlt=>k4.block g hlt (by intro e;injection e with e;omega))) hw
theorem Kq.at_{φ:Nat→Prop}{w:World}{A:Option Addr}{n c:Nat}{l:KVs}(h:Kq φ w (.slice A n c) l){k:Nat}(hk:k<l.length):
 ∃g o,A=some ⟨g,o,none⟩∧∃x y,w.cell? ⟨g,o+k*2,none⟩=some x∧w.cell? ⟨g,o+k*2+1,none⟩=some y∧Hid (Bv w x l[k].1)∧Hid (Bv w y l[k].2):=by
 obtain⟨A',c',e,h1,h2,h3,h4⟩:=h;injection e with e1 e2 e3
 subst e1;obtain⟨g,o,rfl,_,hc⟩:=h4 (by omega);obtain⟨x,y,hx,hy,hx2,hy2⟩:=hc k hk;exact⟨g,o,rfl,x,y,hx,hy,Hi hx2.1,Hi hy2.1⟩
theorem Bv.dn{w:World}{v:Value}{l:Tx}(h:Bv w v l)(n:Nat):Bv (w.drewN n) v l:=h.le ((AC w).drewN n)
theorem Es(a b:KVs)(k:Nat)(h:a.take k=b.take k)(ha:k<a.length)(hb:k<b.length)(he:a[k]=b[k]):a.take (k+1)=b.take (k+1):=by
 rw[List.take_succ_eq_append_getElem ha,List.take_succ_eq_append_getElem hb,h,he]
theorem Ct(w:World)(x y:Value)(lx ly:Tx)(b:Bool)(h:decide (lx=ly)=b)(hx:Bv w x lx)(hy:Bv w y ly):
 Calls Tryz.prog 11 #[x,y] w fun e w'=>e= .returned (.bool b)∧∃m,w'=w.drewN m:=by
 subst h;exact MF w x y lx ly hx hy
theorem Kv(φ ψ:Nat→Prop)(w:World)(a b:Value)(la lb:KVs)(ha:Kq φ w a la)(hb:Kq ψ w b lb):
 Calls Tryz.prog 44 #[a,b] w fun e w'=>e= .returned (.bool (decide (la=lb)))∧Dr w w':=by
 have ha0:=Hi ha;have hb0:=Hi hb;obtain⟨A,c,rfl,h1,h2,h3,_⟩:=ha;obtain⟨B,d,rfl,k1,k2,k3,_⟩:=hb;by_cases hl:la.length=lb.length
 ·have E1:((la.length:Int) != (lb.length:Int))=false:=by simp[hl]
  have E2:=Hi hl;clear hl;go_enter Tryz.func44,Tryz.ntmps44;go_wp2
  go_loopg [5] (la.length) (fun n i wr=>∃k:Nat,n+k=la.length∧i= .int .i64 k∧Dr w wr∧la.take k=lb.take k)
  case atStart=>exact⟨0,by omega,rfl,Dr.refl _,rfl⟩
  case round=>
   obtain⟨k,hn,rfl,hd,ht⟩:=hrel;have HT:=Hi ht;have HD:=Hi hd;have HN:gk+k≤la.length∧la.length≤gk+k:=by omega
   clear ht hn;by_cases hlt:k<la.length
   ·have hlt2:k<lb.length:=by have:=E2.out;omega
    obtain⟨b1,o1,rfl,x1,x2,d1,d2,X1,X2⟩:=(ha0.out.le hd.le).at_ hlt;obtain⟨b2,o2,rfl,y1,y2,e1,e2,Y1,Y2⟩:=(hb0.out.le hd.le).at_ hlt2;clear hd;by_cases hk:la[k].1=lb[k].1
    ·have Ht1:=Hi (decide_eq_true hk);by_cases hv:la[k].2=lb[k].2
     ·have Ht2:=Hi (decide_eq_true hv);have HF:Hid (la.take (k+1)=lb.take (k+1)):=Hi (Es _ _ _ HT.out hlt hlt2 (Prod.ext hk hv));clear hk hv;go_wp2
      go_quiet ((first|(go_at_call 11;exact Calls.quiet_of (Ct _ _ _ _ _ _ Ht1.out (X1.out.dn _) (Y1.out.dn _)))|(go_at_call 11;exact Calls.quiet_of (Ct _ _ _ _ _ _ Ht2.out (X2.out.dn _) (Y2.out.dn _)))))
      go_wp2;go_roundg (gk-1)
      case measure=>omega
      case rel=>exact⟨k+1,by omega,by go_num,HD.out.step _,HF.out⟩
     ·have Hf2:=Hi (decide_eq_false hv);have HF:Hid (decide (la=lb)=false):=Hi (decide_eq_false (by rintro rfl;exact hv rfl));clear hk hv;go_wp2
      go_quiet ((first|(go_at_call 11;exact Calls.quiet_of (Ct _ _ _ _ _ _ Ht1.out (X1.out.dn _) (Y1.out.dn _)))|(go_at_call 11;exact Calls.quiet_of (Ct _ _ _ _ _ _ Hf2.out (X2.out.dn _) (Y2.out.dn _)))))
      go_wp2;go_ret;exact⟨by rw[HF.out];rfl,HD.out.step _⟩
    ·have Hf1:=Hi (decide_eq_false hk);have HF:Hid (decide (la=lb)=false):=Hi (decide_eq_false (by rintro rfl;exact hk rfl));clear hk;go_wp2
     go_quiet ((go_at_call 11;exact Calls.quiet_of (Ct _ _ _ _ _ _ Hf1.out (X1.out.dn _) (Y1.out.dn _))))
     go_wp2;go_ret;exact⟨by rw[HF.out];rfl,HD.out.step _⟩
   ·have HF:Hid (decide (la=lb)=true):=Hi (decide_eq_true (by
     have e1:=List.take_of_length_le (i:=k) (l:=la) (by omega);have e2:=List.take_of_length_le (i:=k) (l:=lb) (by have:=E2.out;omega);rw[←e1,←e2,HT.out]))
    clear hd;go_wp2;go_ret;exact⟨by rw[HF.out];rfl,HD.out⟩
 ·have E1:((la.length:Int) != (lb.length:Int))=true:=by simp;omega
  have E2:decide (la=lb)=false:=decide_eq_false (by intro h;exact hl (by rw[h]));rw[E2];clear hl E2;go_enter Tryz.func44,Tryz.ntmps44;go_wp2;go_ret;exact⟨rfl,Dr.refl _⟩
end Go.Proofs.YtejhpdcjafbklaaGreatDoor
namespace Go.Proofs.YtejhpdcjafbklaaGreatDoor
open Go.RowKit
theorem Kq.dn{φ:Nat→Prop}{w:World}{v:Value}{l:KVs}(h:Kq φ w v l)(n:Nat):Kq φ (w.drewN n) v l:=h.le ((AC w).drewN n)
def puB(u v:PU):Bool:=decide (u.scheme=v.scheme)&&decide (u.raw=v.raw)&&(u.wild==v.wild)&&(u.slash==v.slash)&&decide (u.user=v.user)&&decide (u.pass=v.pass)&&decide (u.host=v.host)&&(u.port==v.port)&&decide (u.ps=v.ps)&&decide (u.hs=v.hs)
theorem K9(u v:PU):puB u v=true↔u=v:=by
 obtain⟨us,ur,uw,usl,uu,up,uh,upo,ups,uhs⟩:=u;obtain⟨vs,vr,vw,vsl,vu,vp,vh,vpo,vps,vhs⟩:=v;simp[puB,and_assoc]
theorem Gz(φ ψ:Nat→Prop)(w:World)(a b:Value)(la lb:KVs)(r:Bool)(h:decide (la=lb)=r)(ha:Kq φ w a la)(hb:Kq ψ w b lb):
 Calls Tryz.prog 44 #[a,b] w fun e w'=>e= .returned (.bool r)∧∃m,w'=w.drewN m:=by
 subst h;exact Kv φ ψ w a b la lb ha hb
theorem Ku(φ ψ:Nat→Prop)(w:World)(x y:UV)(u v:PU)(hx:Uq φ w x u)(hy:Uq ψ w y v):
 Calls Tryz.prog 25 #[x.val,y.val] w fun e w'=>e= .returned (.bool (puB u v))∧Le w w':=by
 have hvx:Hid (x.val= .agg #[x.scheme,x.raw,.bool x.wild,.bool x.slash,x.user,x.pass,x.host,.int .i64 x.port,x.ps,x.hs]):=Hi rfl;have hvy:Hid (y.val= .agg #[y.scheme,y.raw,.bool y.wild,.bool y.slash,y.user,y.pass,y.host,.int .i64 y.port,y.ps,y.hs]):=Hi rfl;rw[hvx.out,hvy.out]
 have hle0:Le w ((w.alloc (Obj.cells #[x.scheme,x.raw,.bool x.wild,.bool x.slash,x.user,x.pass,x.host,.int .i64 x.port,x.ps,x.hs] 25)).alloc (Obj.cells #[y.scheme,y.raw,.bool y.wild,.bool y.slash,y.user,y.pass,y.host,.int .i64 y.port,y.ps,y.hs] 25)):=((AC w).alloc _).alloc _;have HX:=Hi (hx.le hle0);have HY:=Hi (hy.le hle0);have HLE:=Hi hle0
 obtain⟨xs,xr,xw,xsl,xu,xp,xh,xpo,xps,xhs⟩:=x;obtain⟨ys,yr,yw,ysl,yu,yp,yh,ypo,yps,yhs⟩:=y;obtain⟨us,ur,uw,usl,uu,up,uh,upo,ups,uhs⟩:=u;obtain⟨vs,vr,vw,vsl,vu,vp,vh,vpo,vps,vhs⟩:=v;obtain rfl:xw=uw:=hx.wild;obtain rfl:xsl=usl:=hx.slash;obtain rfl:xpo=upo:=hx.port;obtain rfl:yw=vw:=hy.wild;obtain rfl:ysl=vsl:=hy.slash;obtain rfl:ypo=vpo:=hy.port;clear hx hy hle0 hvx hvy;dsimp only at HX HY HLE⊢
 obtain⟨bw,Ew⟩:∃b,(xw==yw)=b:=⟨_,rfl⟩;obtain⟨bsl,Esl⟩:∃b,(xsl==ysl)=b:=⟨_,rfl⟩;obtain⟨bpo,Epo⟩:∃b,(xpo==ypo)=b:=⟨_,rfl⟩;obtain⟨b_scheme,h_scheme⟩:∃b,decide (us=vs)=b:=⟨_,rfl⟩;obtain⟨b_raw,h_raw⟩:∃b,decide (ur=vr)=b:=⟨_,rfl⟩;obtain⟨b_user,h_user⟩:∃b,decide (uu=vu)=b:=⟨_,rfl⟩;obtain⟨b_pass,h_pass⟩:∃b,decide (up=vp)=b:=⟨_,rfl⟩;obtain⟨b_host,h_host⟩:∃b,decide (uh=vh)=b:=⟨_,rfl⟩
 obtain⟨b_ps,h_ps⟩:∃b,decide (ups=vps)=b:=⟨_,rfl⟩;obtain⟨b_hs,h_hs⟩:∃b,decide (uhs=vhs)=b:=⟨_,rfl⟩;have HPU:Hid (puB ⟨us,ur,xw,xsl,uu,up,uh,xpo,ups,uhs⟩ ⟨vs,vr,yw,ysl,vu,vp,vh,ypo,vps,vhs⟩=(b_scheme&&b_raw&&bw&&bsl&&b_user&&b_pass&&b_host&&bpo&&b_ps&&b_hs)):=Hi (by
  simp only[puB,h_scheme,h_raw,Ew,Esl,h_user,h_pass,h_host,Epo,h_ps,h_hs])
 have e_scheme:=Hi h_scheme;have e_raw:=Hi h_raw;have e_user:=Hi h_user;have e_pass:=Hi h_pass;have e_host:=Hi h_host;have e_ps:=Hi h_ps;have e_hs:=Hi h_hs;clear h_scheme h_raw h_user h_pass h_host h_ps h_hs;rw[HPU.out];clear HPU;go_enter Tryz.func25,Tryz.ntmps25
 go_wp2_with (first|(go_at_call 11;first|(refine(Ct _ _ _ _ _ _ e_scheme.out (by first|exact HX.out.scheme.1.dn _|exact HX.out.scheme.1) (by first|exact HY.out.scheme.1.dn _|exact HY.out.scheme.1)).mono ?_;rintro e w' ⟨rfl,n,rfl⟩)|(refine(Ct _ _ _ _ _ _ e_raw.out (by first|exact HX.out.raw.1.dn _|exact HX.out.raw.1) (by first|exact HY.out.raw.1.dn _|exact HY.out.raw.1)).mono ?_;rintro e w' ⟨rfl,n,rfl⟩)|(refine(Ct _ _ _ _ _ _ e_user.out (by first|exact HX.out.user.1.dn _|exact HX.out.user.1) (by first|exact HY.out.user.1.dn _|exact HY.out.user.1)).mono ?_;rintro e w' ⟨rfl,n,rfl⟩)|(refine(Ct _ _ _ _ _ _ e_pass.out (by first|exact HX.out.pass.1.dn _|exact HX.out.pass.1) (by first|exact HY.out.pass.1.dn _|exact HY.out.pass.1)).mono ?_;rintro e w' ⟨rfl,n,rfl⟩)|(refine(Ct _ _ _ _ _ _ e_host.out (by first|exact HX.out.host.1.dn _|exact HX.out.host.1) (by first|exact HY.out.host.1.dn _|exact HY.out.host.1)).mono ?_;rintro e w' ⟨rfl,n,rfl⟩))|(go_at_call 44;first|(refine(Gz φ ψ _ _ _ _ _ _ e_ps.out (by first|exact HX.out.ps.dn _|exact HX.out.ps) (by first|exact HY.out.ps.dn _|exact HY.out.ps)).mono ?_;rintro e w' ⟨rfl,n,rfl⟩)|(refine(Gz φ ψ _ _ _ _ _ _ e_hs.out (by first|exact HX.out.hs.dn _|exact HX.out.hs) (by first|exact HY.out.hs.dn _|exact HY.out.hs)).mono ?_;rintro e w' ⟨rfl,n,rfl⟩)))
 all_goals (go_ret;refine⟨Cy ?_,by first|exact HLE.out.drewN _|exact HLE.out⟩;simp[*])
end Go.Proofs.YtejhpdcjafbklaaGreatDoor
namespace Go.Proofs.YtejhpdcjafbklaaGreatDoor
open Go.RowKit
def Fj:Tx:=[115,105,112,58,98,111,98,64,98,46,111,114,103,58,53,48,55,48]
def LT:PU:=uri4 [98,111,98] [98,46,111,114,103] 5070
def PR:Tx:=[73,78,86,73,84,69]
def PQ:Tx:=[67,83,101,113,58,32,55,32,73,78,86,73,84,69]
theorem Qy:By Fj= .val LT:=by rfl
theorem Qz:BY LT=Fj:=by kernel_rfl
theorem Q1:ES 7 PR=PQ:=by kernel_rfl
theorem Q2:B8 LT.host:=fun x hx=>by
 have:x∈([98,46,111,114,103]:Tx):=hx;revert x;decide
theorem PP:LT.small:=by unfold LT uri4 PU.small Fb;simp
theorem Q0{r:PU}{ok:Bool}(h:KN Fj PU.zero (if ok=true then some r else none)):ok=true∧r=LT:=by
 have h1:=law h;rw[Qy]at h1;cases ok with
 |true=>exact⟨rfl,by injection h1⟩
 |false=>cases h1
def UV.nil:UV:=⟨.slice none 0 0,.slice none 0 0,false,false,.slice none 0 0,.slice none 0 0,.slice none 0 0,0,.slice none 0 0,.slice none 0 0⟩
theorem QP(φ:Nat→Prop)(w:World):Uq φ w UV.nil PU.zero:=⟨Bq.nil _ _,Bq.nil _ _,rfl,rfl,Bq.nil _ _,Bq.nil _ _,Bq.nil _ _,rfl,Kq.nil _ _,Kq.nil _ _⟩
def Q4(v:Value):HV:=⟨5,.slice none 0 0,v,.slice none 0 0,UV.nil,.slice none 0 0,7,.slice none 0 0,.slice none 0 0,.slice none 0 0,.slice none 0 0,0⟩
theorem CO(w:World)(l:Tx)(hl:l.length≤1099511627776)(fz:Nat×Nat):Bv (w.alloc (Obj.cells (l.map fun c=>Value.int .u8 (c.toNat:Int)).toArray 5 fz)) (.slice (some ⟨w.heap.size,0,none⟩) l.length l.length) l:=by
 refine⟨_,_,rfl,NL _,by omega,by omega,fun _=>⟨_,_,rfl,fun j hj=>?_⟩⟩;have e:=AB (heap_alloc_new w (Obj.cells (l.map fun c=>Value.int .u8 (c.toNat:Int)).toArray 5 fz)) (0+j);rw[e];simp[List.getElem?_eq_getElem hj]
theorem is_b(w:World)(a:Value)(la lb:Tx)(s:ByteArray)(ha:Bv w a la)(hs:bs s=lb)(hl:lb.length≤140737488355328)(h:la=lb):
 Calls Tryz.prog 23 #[a,.string s] w fun e w'=>e= .returned (.bool true)∧Le w w':=by
 have:=is_c w a la s ha (by rw[←BD,hs];exact hl);rw[hs,decide_eq_true h]at this;exact this
theorem IX(w:World)(hL:BW w):Calls Tryz.prog 8 #[] w fun e w'=>e= .returned (.bool true)∧Le w w':=by
 have HL:=Hi hL;clear hL;go_enter Tryz.func8,Tryz.ntmps8;go_wp2_with fail
 refine(uri_c _ (st [98,111,98]) (st [98,46,111,114,103]) 5070 (by decide) (by decide)).mono ?_;rintro e w1 ⟨x,rfl,hx,hle1⟩;rw[AV,AV]at hx;have HX:=Hi hx;have HLE1:=Hi hle1;obtain⟨R,hR,hRs⟩:∃R,x.val= .agg R∧R=x.row:=⟨_,rfl,rfl⟩;have hone:R.all (·.oneCell')=true:=by rw[hRs];exact hx.one
 have hsz:R.size=10:=by rw[hRs];rfl
 have HR:=Hi hR;have HRS:=Hi hRs;have hst:=run_storeCells_new (P:=Tryz.prog) w1 25 #[.slice none 0 0,.slice none 0 0,.bool false,.bool false,.slice none 0 0,.slice none 0 0,.slice none 0 0,.int .i64 0,.slice none 0 0,.slice none 0 0] R (by rw[hsz];exact Cx) (by rw[hsz];rfl) hone;rw[hR];clear hx hle1 hR hRs hone
 have qc:=Joins.run_convert_bytes_const_at (P:=Tryz.prog) (w1.alloc (Obj.cells R 25)) 22 5 #[.int .u8 115,.int .u8 105,.int .u8 112,.int .u8 58,.int .u8 98,.int .u8 111,.int .u8 98,.int .u8 64,.int .u8 98,.int .u8 46,.int .u8 111,.int .u8 114,.int .u8 103,.int .u8 58,.int .u8 53,.int .u8 48,.int .u8 55,.int .u8 48] 18 18 (w1.heap.size+1) (by simp) Tryz.underlying22 Tryz.underlying5
 go_wp2_with fail
 have hbv:Bv ((w1.alloc (Obj.cells R 25)).alloc (Obj.cells (Fj.map fun c=>Value.int .u8 (c.toNat:Int)).toArray 5 (18,19))) (.slice (some ⟨w1.heap.size+1,0,none⟩) 18 18) Fj:=by
  have:=CO (w1.alloc (Obj.cells R 25)) Fj (by decide) (18,19);have e:(w1.alloc (Obj.cells R 25)).heap.size=w1.heap.size+1:=by simp
  rw[e]at this;exact this
 have hle2:Le w ((w1.alloc (Obj.cells R 25)).alloc (Obj.cells (Fj.map fun c=>Value.int .u8 (c.toNat:Int)).toArray 5 (18,19))):=(HLE1.out.alloc _).alloc _;have hb1:((w1.alloc (Obj.cells R 25)).alloc (Obj.cells (Fj.map fun c=>Value.int .u8 (c.toNat:Int)).toArray 5 (18,19))).heap[w1.heap.size]? =some (Obj.cells R 25):=heap_alloc2_old w1 _ _
 have HX2:=Hi (HX.out.le (((AC w1).alloc (Obj.cells R 25)).alloc (Obj.cells (Fj.map fun c=>Value.int .u8 (c.toNat:Int)).toArray 5 (18,19))));refine(NI _ _ Fj hbv (by decide) (HL.out.le hle2)).mono ?_;rintro e w3 ⟨hle3,y,ok,r,rfl,hy,hpt⟩;obtain⟨rfl,rfl⟩:=Q0 hpt;have HX3:=Hi (HX2.out.le hle3);have HY3:=Hi hy;have HB3:=Hi (hle3.heap hb1)
 have HLE3:=Hi (Le.trans hle2 hle3);obtain⟨S,hS,hSs⟩:∃S,y.val= .agg S∧S=y.row:=⟨_,rfl,rfl⟩;have hone2:S.all (·.oneCell')=true:=by rw[hSs];exact hy.one
 have hsz2:S.size=10:=by rw[hSs];rfl
 have HS:=Hi hS;have HSS:=Hi hSs;have hst2:=run_storeCells_new (P:=Tryz.prog) w3 25 #[.slice none 0 0,.slice none 0 0,.bool false,.bool false,.slice none 0 0,.slice none 0 0,.slice none 0 0,.int .i64 0,.slice none 0 0,.slice none 0 0] S (by rw[hsz2];exact Cx) (by rw[hsz2];rfl) hone2;rw[hS];clear hbv hle2 hb1 HX2 HX hle3 hy hpt hS hSs hone2 hst qc
 have qc:=Joins.run_convert_bytes_const_at (P:=Tryz.prog) (w3.alloc (Obj.cells S 25)) 22 5 #[.int .u8 73,.int .u8 78,.int .u8 86,.int .u8 73,.int .u8 84,.int .u8 69] 6 6 (w3.heap.size+1) (by simp) Tryz.underlying22 Tryz.underlying5;go_wp2_with fail
 have hbv:Bv ((w3.alloc (Obj.cells S 25)).alloc (Obj.cells (PR.map fun c=>Value.int .u8 (c.toNat:Int)).toArray 5 (6,7))) (.slice (some ⟨w3.heap.size+1,0,none⟩) 6 6) PR:=by
  have:=CO (w3.alloc (Obj.cells S 25)) PR (by decide) (6,7);have e:(w3.alloc (Obj.cells S 25)).heap.size=w3.heap.size+1:=by simp
  rw[e]at this;exact this
 have hle4:Le w3 ((w3.alloc (Obj.cells S 25)).alloc (Obj.cells (PR.map fun c=>Value.int .u8 (c.toNat:Int)).toArray 5 (6,7))):=((AC w3).alloc _).alloc _;have hb3:((w3.alloc (Obj.cells S 25)).alloc (Obj.cells (PR.map fun c=>Value.int .u8 (c.toNat:Int)).toArray 5 (6,7))).heap[w3.heap.size]? =some (Obj.cells S 25):=heap_alloc2_old w3 _ _
 refine(KH (fun _=>True) _ (Q4 (.slice (some ⟨w3.heap.size+1,0,none⟩) 6 6)) [] PR PU.zero [] ⟨Bq.nil _ _,QP _ _,Kq.nil _ _⟩ hbv (by unfold PU.zero PU.small;simp) rfl rfl ⟨by decide,by intro z hz;cases hz⟩ ⟨by decide,by intro z hz;cases hz⟩ ⟨by decide,by intro z hz;cases hz⟩ (HL.out.le (Le.trans HLE3.out hle4)) (show(7:Nat)<4294967296 by decide) (by decide)).mono ?_
 rintro e w5 ⟨v1,v2,rfl,hv1,hv2,hle5⟩;have hq:Hid (Bv w5 v1 PQ):=Hi (by have:=hv1.1;rw[show(Q4 (.slice (some ⟨w3.heap.size+1,0,none⟩) 6 6)).num=7 from rfl,Q1]at this;exact this);have HX5:=Hi ((HX3.out.le hle4).le hle5);have HY5:=Hi ((HY3.out.le hle4).le hle5);have HB5:=Hi (hle5.heap (hle4.heap HB3.out));have HC5:=Hi (hle5.heap hb3)
 have HLE5:=Hi (Le.trans (Le.trans HLE3.out hle4) hle5);clear hbv hle4 hb3 hst2 qc hv1 hv2 hle5;go_wp2_with (refine wpList_load_row rfl 25 (.tmp 1) rfl w1.heap.size rfl 25 R (0,0) _ HB5.out Tryz.underlying25 rfl (by rw[hsz];exact Cx) ?_)
 rw[←HR.out];refine(KZ _ _ x LT HX5.out PP rfl (HL.out.le HLE5.out) Q2 ⟨by decide,by intro z hz;cases hz⟩ ⟨by decide,by intro z hz;cases hz⟩ (by decide) (by decide)).mono ?_;rintro e w6 ⟨v3,rfl,hv3,hle6⟩;rw[Qz]at hv3;have HQ6:=Hi (hq.out.le hle6);have HX6:=Hi (HX5.out.le hle6);have HY6:=Hi (HY5.out.le hle6);have HB6:=Hi (hle6.heap HB5.out)
 have HC6:=Hi (hle6.heap HC5.out);have HLE6:=Hi (Le.trans HLE5.out hle6);have HV6:=Hi hv3.1;clear hv3 hle6 HX5 HY5 HB5 HC5 HX3 HY3 HB3;go_wp2_with fail
 refine(is_b _ _ _ Fj _ HV6.out rfl (by decide) rfl).mono ?_;rintro e w7 ⟨rfl,hle7⟩;have HQ7:=Hi (HQ6.out.le hle7);have HX7:=Hi (HX6.out.le hle7);have HY7:=Hi (HY6.out.le hle7);have HB7:=Hi (hle7.heap HB6.out);have HC7:=Hi (hle7.heap HC6.out);have HLE7:=Hi (Le.trans HLE6.out hle7);clear hle7
 have xc0:w7.cell? ⟨w1.heap.size,0,none⟩=some (x.scheme):=by rw[AB HB7.out 0,HRS.out];rfl
 have xc1:w7.cell? ⟨w1.heap.size,1,none⟩=some (x.raw):=by rw[AB HB7.out 1,HRS.out];rfl
 have xc2:w7.cell? ⟨w1.heap.size,2,none⟩=some (.bool x.wild):=by rw[AB HB7.out 2,HRS.out];rfl
 have xc3:w7.cell? ⟨w1.heap.size,3,none⟩=some (.bool x.slash):=by rw[AB HB7.out 3,HRS.out];rfl
 have xc4:w7.cell? ⟨w1.heap.size,4,none⟩=some (x.user):=by rw[AB HB7.out 4,HRS.out];rfl
 have xc5:w7.cell? ⟨w1.heap.size,5,none⟩=some (x.pass):=by rw[AB HB7.out 5,HRS.out];rfl
 have xc6:w7.cell? ⟨w1.heap.size,6,none⟩=some (x.host):=by rw[AB HB7.out 6,HRS.out];rfl
 have xc7:w7.cell? ⟨w1.heap.size,7,none⟩=some (.int .i64 x.port):=by rw[AB HB7.out 7,HRS.out];rfl
 have xc8:w7.cell? ⟨w1.heap.size,8,none⟩=some (x.ps):=by rw[AB HB7.out 8,HRS.out];rfl
 have xc9:w7.cell? ⟨w1.heap.size,9,none⟩=some (x.hs):=by rw[AB HB7.out 9,HRS.out];rfl
 have yc0:w7.cell? ⟨w3.heap.size,0,none⟩=some (y.scheme):=by rw[AB HC7.out 0,HSS.out];rfl
 have yc1:w7.cell? ⟨w3.heap.size,1,none⟩=some (y.raw):=by rw[AB HC7.out 1,HSS.out];rfl
 have yc2:w7.cell? ⟨w3.heap.size,2,none⟩=some (.bool y.wild):=by rw[AB HC7.out 2,HSS.out];rfl
 have yc3:w7.cell? ⟨w3.heap.size,3,none⟩=some (.bool y.slash):=by rw[AB HC7.out 3,HSS.out];rfl
 have yc4:w7.cell? ⟨w3.heap.size,4,none⟩=some (y.user):=by rw[AB HC7.out 4,HSS.out];rfl
 have yc5:w7.cell? ⟨w3.heap.size,5,none⟩=some (y.pass):=by rw[AB HC7.out 5,HSS.out];rfl
 have yc6:w7.cell? ⟨w3.heap.size,6,none⟩=some (y.host):=by rw[AB HC7.out 6,HSS.out];rfl
 have yc7:w7.cell? ⟨w3.heap.size,7,none⟩=some (.int .i64 y.port):=by rw[AB HC7.out 7,HSS.out];rfl
 have yc8:w7.cell? ⟨w3.heap.size,8,none⟩=some (y.ps):=by rw[AB HC7.out 8,HSS.out];rfl
 have yc9:w7.cell? ⟨w3.heap.size,9,none⟩=some (y.hs):=by rw[AB HC7.out 9,HSS.out];rfl
 go_wp2_with fail
 refine(Ku _ _ _ x y LT LT HX7.out HY7.out).mono ?_;rintro e w8 ⟨rfl,hle8⟩;rw[show puB LT LT=true from(K9 _ _).2 rfl];have HQ8:=Hi (HQ7.out.le hle8);have HLE8:=Hi (Le.trans HLE7.out hle8);clear hle8;go_wp2_with fail
 refine(is_b _ _ _ PQ _ HQ8.out rfl (by decide) rfl).mono ?_;rintro e w9 ⟨rfl,hle9⟩;have HLE9:=Hi (Le.trans HLE8.out hle9);clear hle9;go_wp2;go_ret;exact⟨rfl,HLE9.out⟩
end Go.Proofs.YtejhpdcjafbklaaGreatDoor
