/- The law FnHeadWritten: HmTx HmHt Same UriOf. -/
import Derived.Test.YtejhpdcjafbklaaGreatDoorHmRb
set_option linter.all false
set_option maxHeartbeats 32000000
set_option maxRecDepth 8000
namespace Go.Proofs.YtejhpdcjafbklaaGreatDoor
open Go.RowKit
theorem L8(w:World)(v:Value):Calls Tryz.prog 195 #[v] w fun e w'=>e= .returned (.string ⟨#[67,97,108,108,45,73,68]⟩)∧w'=w:=by
 go_enter Tryz.func195,Tryz.ntmps195;go_wp2;go_ret;exact⟨rfl,rfl⟩
theorem GT(w0:World)(b:Nat)(m:Tx)(hb:w0.cell? ⟨b,0,none⟩=some (.string (st m))):Calls Tryz.prog 198 #[.pointer (some ⟨b,0,none⟩)] w0 fun e w'=>e= .returned (.string (st m))∧w'=w0:=by
 go_enter Tryz.func198,Tryz.ntmps198;go_wp2;go_ret;exact⟨rfl,rfl⟩
theorem Pr(w0 w:World)(b bb:Nat)(m:Tx)(hb:w0.cell? ⟨b,0,none⟩=some (.string (st m)))(hw:UW w0 bb [] w)(hL:BW w0)(hz:m.length≤1099511627776):
 Calls Tryz.prog 197 #[.pointer (some ⟨b,0,none⟩),.iface 127 (.pointer (some ⟨bb,0,none⟩))] w fun e w'=>e= .returned (.tuple #[])∧UW w0 bb ([67,97,108,108,45,73,68,58,32]++m) w':=by
 have HB:=Hi hb;have HW0:=Hi hw;have HL:=Hi hL;have HZZ:=Hi hz;have hna:∀(n:Nat) (w:World),(nilAhead (n+1) 127 (.pointer (some ⟨bb,0,none⟩)) "WriteString").run Tryz.prog w= .ok (some false) w:=fun n w=>by kernel_rfl
 clear hb hw hL hz;go_enter Tryz.func197,Tryz.ntmps197;go_wp2;go_still_tail 6,(by kernel_rfl)
 still_call (L8 _ _)
 repeat still_step
 refine wpStill_nil ?_;change wpList _ _ _ _ _ (World.drew _);have HW1:=Hi (HW0.out.grow (AC _).drew);generalize World.drew _=wd1 at HW1⊢;go_wp2_with fail
 refine(HW1.out.ws ⟨#[67,97,108,108,45,73,68]⟩ (by decide)).mono ?_;rintro e w2 ⟨rfl,hw2⟩;have HW2:Hid (UW w0 bb [67,97,108,108,45,73,68] w2):=Hi hw2;clear hw2;go_wp2_with fail
 refine(HW2.out.ws ⟨#[58,32]⟩ (by decide)).mono ?_;rintro e w3 ⟨rfl,hw3⟩;have HW3:Hid (UW w0 bb [67,97,108,108,45,73,68,58,32] w3):=Hi hw3;clear hw3;go_wp2;go_still_tail 6,(by kernel_rfl)
 still_call (GT _ b m (HW3.out.le.cell HB.out))
 repeat still_step
 refine wpStill_nil ?_;change wpList _ _ _ _ _ (World.drew _);have HW4:=Hi (HW3.out.grow (AC _).drew);generalize World.drew _=wd4 at HW4⊢;have HZ:=HZZ;go_wp2_with fail
 refine(HW4.out.ws (st m) (by have hz:=HZ.out;(try simp only[LA,LC,LN,AF]);(try simp only[ByteArray.size,List.size_toArray,LC,LN]);omega)).mono ?_;rintro e w5 ⟨rfl,hw5⟩;have HW5:Hid (UW w0 bb ([67,97,108,108,45,73,68,58,32]++m) w5):=Hi hw5;clear hw5;go_wp2
 go_returns
 exact⟨rfl,HW5.out⟩
theorem Iq(w0:World)(b:Nat)(m:Tx)(hb:w0.cell? ⟨b,0,none⟩=some (.string (st m)))(hL:BW w0)(hz:m.length≤1099511627776):Calls Tryz.prog 196 #[.pointer (some ⟨b,0,none⟩)] w0 fun e w'=>e= .returned (.string (st ([67,97,108,108,45,73,68,58,32]++m)))∧Le w0 w':=by
 have HB:=Hi hb;have HL:=Hi hL;have HZ:=Hi hz;clear hb hL hz;go_enter Tryz.func196,Tryz.ntmps196;go_wp2_with fail
 refine(Pr w0 _ b w0.heap.size m HB.out ⟨(AC w0).alloc _,BR w0⟩ HL.out HZ.out).mono ?_;rintro e w2 ⟨rfl,hw2⟩;have HW2:=Hi hw2;clear hw2;go_wp2_with fail
 refine(Bj _ _ _ _ HW2.out.bld).mono ?_;rintro e w3 ⟨rfl,_,hf3⟩;have HL3:Hid (Le w0 w3):=Hi (Below.trans HW2.out.le hf3.1);clear hf3;go_wp2;go_ret;exact⟨by simp,HL3.out⟩
theorem L4(w:World)(v:Value):Calls Tryz.prog 228 #[v] w fun e w'=>e= .returned (.string ⟨#[67,111,110,116,101,110,116,45,84,121,112,101]⟩)∧w'=w:=by
 go_enter Tryz.func228,Tryz.ntmps228;go_wp2;go_ret;exact⟨rfl,rfl⟩
theorem GR(w0:World)(b:Nat)(m:Tx)(hb:w0.cell? ⟨b,0,none⟩=some (.string (st m))):Calls Tryz.prog 231 #[.pointer (some ⟨b,0,none⟩)] w0 fun e w'=>e= .returned (.string (st m))∧w'=w0:=by
 go_enter Tryz.func231,Tryz.ntmps231;go_wp2;go_ret;exact⟨rfl,rfl⟩
theorem Pn(w0 w:World)(b bb:Nat)(m:Tx)(hb:w0.cell? ⟨b,0,none⟩=some (.string (st m)))(hw:UW w0 bb [] w)(hL:BW w0)(hz:m.length≤1099511627776):
 Calls Tryz.prog 230 #[.pointer (some ⟨b,0,none⟩),.iface 127 (.pointer (some ⟨bb,0,none⟩))] w fun e w'=>e= .returned (.tuple #[])∧UW w0 bb ([67,111,110,116,101,110,116,45,84,121,112,101,58,32]++m) w':=by
 have HB:=Hi hb;have HW0:=Hi hw;have HL:=Hi hL;have HZZ:=Hi hz;have hna:∀(n:Nat) (w:World),(nilAhead (n+1) 127 (.pointer (some ⟨bb,0,none⟩)) "WriteString").run Tryz.prog w= .ok (some false) w:=fun n w=>by kernel_rfl
 clear hb hw hL hz;go_enter Tryz.func230,Tryz.ntmps230;go_wp2;go_still_tail 6,(by kernel_rfl)
 still_call (L4 _ _)
 repeat still_step
 refine wpStill_nil ?_;change wpList _ _ _ _ _ (World.drew _);have HW1:=Hi (HW0.out.grow (AC _).drew);generalize World.drew _=wd1 at HW1⊢;go_wp2_with fail
 refine(HW1.out.ws ⟨#[67,111,110,116,101,110,116,45,84,121,112,101]⟩ (by decide)).mono ?_;rintro e w2 ⟨rfl,hw2⟩;have HW2:Hid (UW w0 bb [67,111,110,116,101,110,116,45,84,121,112,101] w2):=Hi hw2;clear hw2;go_wp2_with fail
 refine(HW2.out.ws ⟨#[58,32]⟩ (by decide)).mono ?_;rintro e w3 ⟨rfl,hw3⟩;have HW3:Hid (UW w0 bb [67,111,110,116,101,110,116,45,84,121,112,101,58,32] w3):=Hi hw3;clear hw3;go_wp2;go_still_tail 6,(by kernel_rfl)
 still_call (GR _ b m (HW3.out.le.cell HB.out))
 repeat still_step
 refine wpStill_nil ?_;change wpList _ _ _ _ _ (World.drew _);have HW4:=Hi (HW3.out.grow (AC _).drew);generalize World.drew _=wd4 at HW4⊢;have HZ:=HZZ;go_wp2_with fail
 refine(HW4.out.ws (st m) (by have hz:=HZ.out;(try simp only[LA,LC,LN,AF]);(try simp only[ByteArray.size,List.size_toArray,LC,LN]);omega)).mono ?_;rintro e w5 ⟨rfl,hw5⟩;have HW5:Hid (UW w0 bb ([67,111,110,116,101,110,116,45,84,121,112,101,58,32]++m) w5):=Hi hw5;clear hw5;go_wp2
 go_returns
 exact⟨rfl,HW5.out⟩
theorem In(w0:World)(b:Nat)(m:Tx)(hb:w0.cell? ⟨b,0,none⟩=some (.string (st m)))(hL:BW w0)(hz:m.length≤1099511627776):Calls Tryz.prog 229 #[.pointer (some ⟨b,0,none⟩)] w0 fun e w'=>e= .returned (.string (st ([67,111,110,116,101,110,116,45,84,121,112,101,58,32]++m)))∧Le w0 w':=by
 have HB:=Hi hb;have HL:=Hi hL;have HZ:=Hi hz;clear hb hL hz;go_enter Tryz.func229,Tryz.ntmps229;go_wp2_with fail
 refine(Pn w0 _ b w0.heap.size m HB.out ⟨(AC w0).alloc _,BR w0⟩ HL.out HZ.out).mono ?_;rintro e w2 ⟨rfl,hw2⟩;have HW2:=Hi hw2;clear hw2;go_wp2_with fail
 refine(Bj _ _ _ _ HW2.out.bld).mono ?_;rintro e w3 ⟨rfl,_,hf3⟩;have HL3:Hid (Le w0 w3):=Hi (Below.trans HW2.out.le hf3.1);clear hf3;go_wp2;go_ret;exact⟨by simp,HL3.out⟩
theorem Lx(w0:World)(b:Nat)(n:Tx)(hb:w0.cell? ⟨b,0,none⟩=some (.string (st n))):Calls Tryz.prog 284 #[.pointer (some ⟨b,0,none⟩)] w0 fun e w'=>e= .returned (.string (st n))∧w'=w0:=by
 go_enter Tryz.func284,Tryz.ntmps284;go_wp2;go_ret;exact⟨rfl,rfl⟩
theorem GP(w0:World)(b:Nat)(m:Tx)(hb:w0.cell? ⟨b,1,none⟩=some (.string (st m))):Calls Tryz.prog 287 #[.pointer (some ⟨b,0,none⟩)] w0 fun e w'=>e= .returned (.string (st m))∧w'=w0:=by
 go_enter Tryz.func287,Tryz.ntmps287;go_wp2;go_ret;exact⟨rfl,rfl⟩
theorem Pj(w0 w:World)(b bb:Nat)(n m:Tx)(hb:w0.cell? ⟨b,0,none⟩=some (.string (st n))∧w0.cell? ⟨b,1,none⟩=some (.string (st m)))(hw:UW w0 bb [] w)(hL:BW w0)(hz:n.length≤1099511627776∧m.length≤1099511627776):
 Calls Tryz.prog 286 #[.pointer (some ⟨b,0,none⟩),.iface 127 (.pointer (some ⟨bb,0,none⟩))] w fun e w'=>e= .returned (.tuple #[])∧UW w0 bb (n++(58::32::m)) w':=by
 have HB:=Hi hb;have HW0:=Hi hw;have HL:=Hi hL;have HZ:=Hi hz;have hna:∀(n:Nat) (w:World),(nilAhead (n+1) 127 (.pointer (some ⟨bb,0,none⟩)) "WriteString").run Tryz.prog w= .ok (some false) w:=fun n w=>by kernel_rfl
 clear hb hw hL hz;go_enter Tryz.func286,Tryz.ntmps286;go_wp2;go_still_tail 6,(by kernel_rfl)
 still_call (Lx _ b n (HW0.out.le.cell HB.out.1))
 repeat still_step
 refine wpStill_nil ?_;change wpList _ _ _ _ _ (World.drew _);have HW1:=Hi (HW0.out.grow (AC _).drew);generalize World.drew _=wd1 at HW1⊢;go_wp2_with fail
 refine(HW1.out.ws (st n) (by have hz:=HZ.out;(try simp only[LA,LC,LN,AF]);(try simp only[ByteArray.size,List.size_toArray,LC,LN]);omega)).mono ?_;rintro e w2 ⟨rfl,hw2⟩;have HW2:Hid (UW w0 bb ([]++n) w2):=Hi hw2;clear hw2;go_wp2_with fail
 refine(HW2.out.ws ⟨#[58,32]⟩ (by have hz:=HZ.out;(try simp only[LA,LC,LN,AF]);(try simp only[ByteArray.size,List.size_toArray,LC,LN]);omega)).mono ?_;rintro e w3 ⟨rfl,hw3⟩;have HW3:Hid (UW w0 bb ([]++n++[58,32]) w3):=Hi hw3;clear hw3;go_wp2;go_still_tail 6,(by kernel_rfl)
 still_call (GP _ b m (HW3.out.le.cell HB.out.2))
 repeat still_step
 refine wpStill_nil ?_;change wpList _ _ _ _ _ (World.drew _);have HW4:=Hi (HW3.out.grow (AC _).drew);generalize World.drew _=wd4 at HW4⊢;go_wp2_with fail
 refine(HW4.out.ws (st m) (by have hz:=HZ.out;(try simp only[LA,LC,LN,AF]);(try simp only[ByteArray.size,List.size_toArray,LC,LN]);omega)).mono ?_;rintro e w5 ⟨rfl,hw5⟩;have HW5:Hid (UW w0 bb ([]++n++[58,32]++m) w5):=Hi hw5;clear hw5;go_wp2
 go_returns
 refine⟨rfl,?_⟩;have h:=HW5.out;simp only[List.append_assoc,List.cons_append,List.nil_append]at h⊢;exact h
theorem Ii(w0:World)(b:Nat)(n m:Tx)(hb:w0.cell? ⟨b,0,none⟩=some (.string (st n))∧w0.cell? ⟨b,1,none⟩=some (.string (st m)))(hL:BW w0)(hz:n.length≤1099511627776∧m.length≤1099511627776):Calls Tryz.prog 285 #[.pointer (some ⟨b,0,none⟩)] w0 fun e w'=>e= .returned (.string (st (n++(58::32::m))))∧Le w0 w':=by
 have HB:=Hi hb;have HL:=Hi hL;have HZ:=Hi hz;clear hb hL hz;go_enter Tryz.func285,Tryz.ntmps285;go_wp2_with fail
 refine(Pj w0 _ b w0.heap.size n m HB.out ⟨(AC w0).alloc _,BR w0⟩ HL.out HZ.out).mono ?_;rintro e w2 ⟨rfl,hw2⟩;have HW2:=Hi hw2;clear hw2;go_wp2_with fail
 refine(Bj _ _ _ _ HW2.out.bld).mono ?_;rintro e w3 ⟨rfl,_,hf3⟩;have HL3:Hid (Le w0 w3):=Hi (Below.trans HW2.out.le hf3.1);clear hf3;go_wp2;go_ret;exact⟨by simp,HL3.out⟩
theorem OR(P:Program)(W:World)(T:TypeId)(a:Addr)(s m:ByteArray):(Builtin.ssaWrapNilChk_ #[T] T #[.pointer (some a),.string s,.string m]).run P W= .ok (.pointer (some a)) W:=rfl
theorem J2{P:Program}(W:World)(g:Nat)(v:Value)(T E:TypeId)(wr:Option String)(hT:P.underlying T=some (.pointer E))(hl:(loadVar E ⟨g,0,none⟩).run P W= .ok v W):
 (receiverAt T (.val (.pointer (some ⟨g,0,none⟩))) false wr).run P W= .ok v W:=by
 unfold receiverAt;rw[Sem.run_bind,run_underlying hT];cases wr with
 |none=>
  simp only[Result.andThen_ok,Place.get,Sem.run_bind,Sem.run_pure,asAddr];exact hl
 |some nm=>
  have hw:=OR P W T ⟨g,0,none⟩ "".toUTF8 nm.toUTF8;simp only[Result.andThen_ok,Place.get,Sem.run_bind,Sem.run_pure,strVal,hw,asAddr];exact hl
theorem DY{P:Program}(k:Nat)(W:World)(g:Nat)(v:Value)(T E:TypeId)(name:String)(f:FuncId)(hT:P.underlying T=some (.pointer E))
 (hm:(P.info? T).map (fun i=>(i.methods.find? (·.name==name)).map (fun m=>(m.path.toList,m.func)))=some (some ([],some (f,false))))
 (hl:(loadVar E ⟨g,0,none⟩).run P W= .ok v W):
 (method (k+1) T (.pointer (some ⟨g,0,none⟩)) name).run P W= .ok (f,v) W:=by
 cases hi:P.info? T with
 |none=>rw[hi]at hm;cases hm
 |some i=>
  rw[hi]at hm;simp only[Option.map_some,Option.some.injEq]at hm;cases hf:i.methods.find? (·.name==name)with
  |none=>rw[hf]at hm;cases hm
  |some m=>
   rw[hf]at hm;simp only[Option.map_some,Option.some.injEq,Prod.mk.injEq]at hm;obtain⟨h1,h2⟩:=hm;have ht:(typeInfo T).run P W= .ok i W:=by simp[typeInfo,hi]
   unfold method;rw[Sem.run_bind,ht];simp only[Result.andThen_ok,hf,h1,h2,follow,Sem.run_bind,Sem.run_pure,J2 W g v T E _ hT hl]
theorem M5(k:Nat)(W:World)(g:Nat)(n:Nat)(h:W.cell? ⟨g,0,none⟩=some (.int .u32 n)):
 (method (k+1) 101 (.pointer (some ⟨g,0,none⟩)) "Value").run Tryz.prog W= .ok (216,.int .u32 n) W:=by
 refine DY k W g _ _ 100 _ _ Tryz.underlying101 (by kernel_rfl) ?_;go_simp
theorem M6(k:Nat)(W:World)(g:Nat)(n:Nat)(h:W.cell? ⟨g,0,none⟩=some (.int .u32 n)):
 (method (k+1) 103 (.pointer (some ⟨g,0,none⟩)) "Value").run Tryz.prog W= .ok (224,.int .u32 n) W:=by
 refine DY k W g _ _ 102 _ _ Tryz.underlying103 (by kernel_rfl) ?_;go_simp
theorem M7(k:Nat)(W:World)(g:Nat)(n:Nat)(h:W.cell? ⟨g,0,none⟩=some (.int .u32 n)):
 (method (k+1) 103 (.pointer (some ⟨g,0,none⟩)) "String").run Tryz.prog W= .ok (222,.int .u32 n) W:=by
 refine DY k W g _ _ 102 _ _ Tryz.underlying103 (by kernel_rfl) ?_;go_simp
theorem Pm{p:PH}{v:PU}(h:HSz {p with uri:=v}):(hTx p v).length≤2100000000∧(vTx p v).length≤2000000100:=by
 have h1:(vTx p v).length≤2000000100:=H7 h;have h2:p.name.length≤1000000:=h.name;have h3:=C3 p.t;refine⟨?_,h1⟩;unfold hTx nTx;split<;>simp only[LA,LC]<;>omega
theorem Gi(ψ:Nat→Prop)(x:HV)(p:PH)(u1:PU)(w:World)(hx:Hz ψ w x p)(hr:Rgt p u1)(hv:HvP p)(hw:u1.wild=false)(hL:BW w):
 Calls Tryz.prog 9 #[x.val] w fun e w'=>∃a b,e= .returned (.tuple #[a,b])∧Bv w' a (hTx p u1)∧Bv w' b (vTx p u1)∧Le w w':=by
 have HX:=Hi hx;have HR:=Hi hr;have HVP:=Hi hv;have HW:=Hi hw;have HL:=Hi hL;have HGZ:=Hi (MC hv.uri hv.ulo hv.uhi hr.gv);have HLT:=Hi (Pm (hv.hsz hr.gv));clear hx hr hv hw hL;change Calls _ _ #[.agg x.row] _ _;obtain⟨XR,hXR⟩:∃R:Array Value,R=x.row:=⟨_,rfl⟩;rw[←hXR];have HXR:=Hi hXR;have hsz:XR.size=21:=by rw[hXR];rfl
 have HSZ:=Hi hsz;clear hXR hsz;go_enter Tryz.func9,Tryz.ntmps9;go_upto_region 1 with fail
 change Code.wp _ _ _ _ (w.alloc (Obj.cells XR 28));have HB:=Hi (heap_alloc_new w (Obj.cells XR 28));have HL0:Hid (Le w (w.alloc (Obj.cells XR 28))):=Hi ((AC w).alloc _);generalize w.alloc (Obj.cells XR 28)=W0 at HB HL0⊢;obtain⟨b,hb⟩:∃b,b=w.heap.size:=⟨_,rfl⟩;rw[←hb]at HB⊢;clear hb
 go_wp2_with (refine wpList_load_row rfl 28 (.tmp 1) rfl b rfl 28 XR (0,0) _ HB.out Tryz.underlying28 rfl (by rw[HSZ.out];exact Be) ?_)
 have HVAL:Hid ((.agg XR:Value)=x.val):=Hi (by rw[HXR.out];rfl);rw[HVAL.out];refine(Im ψ x p u1 W0 (HX.out.le HL0.out) HR.out.gv HW.out HGZ.out.small HVP.out.iaz (Li HVP.out.ps) ⟨HR.out.lo,HR.out.hi⟩ (HL.out.le HL0.out)).mono ?_;rintro e W2 ⟨r,rfl,hH,hle2⟩;have HL2:Hid (Le w W2):=Hi (HL0.out.trans hle2);clear hle2 HVAL;cases hH with
 |hto g ht h=>
  have HTP:Hid (p.t=1):=Hi ht;have HH:=Hi h;have HZA:Hid (AdZ p.disp u1 p.ps):=Hi (HVP.out.adz HR.out (.inl (by rw[HTP.out];decide)) p.disp HVP.out.disp p.ps HVP.out.ps);have HTV:Hid (vTx p u1=kAd p.disp u1 p.ps):=Hi (vAd HR.out (.inl HTP.out))
  have HTS:Hid (hTx p u1=84::111::58::32::kAd p.disp u1 p.ps):=Hi ((Cz (N:=[84,111]) HTP.out (by decide) HTV.out (by decide)).trans rfl);clear ht h;go_wp2_with fail
  refine(Ib W2 g p.disp u1 p.ps HH.out (HL.out.le HL2.out) HZA.out).mono ?_;rintro e W3 ⟨rfl,hle3⟩;have hlen:(st (hTx p u1)).size≤140737488355328:=by rw[AF];have:=HLT.out.1;omega
  rw[HTS.out]at hlen;obtain⟨B,c,W4,q,le1,bt⟩:=AT (base:=0) W3 (st (84::111::58::32::kAd p.disp u1 p.ps)) (Nat.zero_le _) hlen;rw[AV]at bt;have HB4:=Hi bt.1;have HL24:Hid (Le W2 W4):=Hi (hle3.trans le1);clear bt le1 hle3 hlen;go_wp2_with fail
  refine(KA W4 g p.disp u1 p.ps (HH.out.le HL24.out) (HL.out.le (HL2.out.trans HL24.out)) HZA.out).mono ?_;rintro e W5 ⟨rfl,hle5⟩;have hlen:(st (vTx p u1)).size≤140737488355328:=by rw[AF];have:=HLT.out.2;omega
  rw[HTV.out]at hlen;obtain⟨B2,c2,W6,q2,le2,bt2⟩:=AT (base:=0) W5 (st (kAd p.disp u1 p.ps)) (Nat.zero_le _) hlen;rw[AV]at bt2;have HB6:=Hi bt2.1;have HB46:=Hi ((HB4.out.le hle5).le le2);have HL6:Hid (Le w W6):=Hi (((HL2.out.trans HL24.out).trans hle5).trans le2);clear bt2 le2 hle5 hlen;go_wp2
  go_ret2
  exact⟨_,_,rfl,by rw[HTS.out];exact HB46.out,by rw[HTV.out];exact HB6.out,HL6.out⟩
 |hfr g ht h=>
  have HTP:Hid (p.t=2):=Hi ht;have HH:=Hi h;have HZA:Hid (AdZ p.disp u1 p.ps):=Hi (HVP.out.adz HR.out (.inl (by rw[HTP.out];decide)) p.disp HVP.out.disp p.ps HVP.out.ps);have HTV:Hid (vTx p u1=kAd p.disp u1 p.ps):=Hi (vAd HR.out (.inr (.inl HTP.out)))
  have HTS:Hid (hTx p u1=70::114::111::109::58::32::kAd p.disp u1 p.ps):=Hi ((Cz (N:=[70,114,111,109]) HTP.out (by decide) HTV.out (by decide)).trans rfl);clear ht h;go_wp2_with fail
  refine(Ij W2 g p.disp u1 p.ps HH.out (HL.out.le HL2.out) HZA.out).mono ?_;rintro e W3 ⟨rfl,hle3⟩;have hlen:(st (hTx p u1)).size≤140737488355328:=by rw[AF];have:=HLT.out.1;omega
  rw[HTS.out]at hlen;obtain⟨B,c,W4,q,le1,bt⟩:=AT (base:=0) W3 (st (70::114::111::109::58::32::kAd p.disp u1 p.ps)) (Nat.zero_le _) hlen;rw[AV]at bt;have HB4:=Hi bt.1;have HL24:Hid (Le W2 W4):=Hi (hle3.trans le1);clear bt le1 hle3 hlen;go_wp2_with fail
  refine(KF W4 g p.disp u1 p.ps (HH.out.le HL24.out) (HL.out.le (HL2.out.trans HL24.out)) HZA.out).mono ?_;rintro e W5 ⟨rfl,hle5⟩;have hlen:(st (vTx p u1)).size≤140737488355328:=by rw[AF];have:=HLT.out.2;omega
  rw[HTV.out]at hlen;obtain⟨B2,c2,W6,q2,le2,bt2⟩:=AT (base:=0) W5 (st (kAd p.disp u1 p.ps)) (Nat.zero_le _) hlen;rw[AV]at bt2;have HB6:=Hi bt2.1;have HB46:=Hi ((HB4.out.le hle5).le le2);have HL6:Hid (Le w W6):=Hi (((HL2.out.trans HL24.out).trans hle5).trans le2);clear bt2 le2 hle5 hlen;go_wp2
  go_ret2
  exact⟨_,_,rfl,by rw[HTS.out];exact HB46.out,by rw[HTV.out];exact HB6.out,HL6.out⟩
 |hco g ht h=>
  have HTP:Hid (p.t=3):=Hi ht;have HH:=Hi h;have HZA:Hid (AdZ p.disp u1 p.ps):=Hi (HVP.out.adz HR.out (.inl (by rw[HTP.out];decide)) p.disp HVP.out.disp p.ps HVP.out.ps);have HTV:Hid (vTx p u1=kAd p.disp u1 p.ps):=Hi (vAd HR.out (.inr (.inr (.inl HTP.out))))
  have HTS:Hid (hTx p u1=67::111::110::116::97::99::116::58::32::kAd p.disp u1 p.ps):=Hi ((Cz (N:=[67,111,110,116,97,99,116]) HTP.out (by decide) HTV.out (by decide)).trans rfl);clear ht h;go_wp2_with fail
  refine(Io W2 g p.disp u1 p.ps HH.out (HL.out.le HL2.out) HZA.out).mono ?_;rintro e W3 ⟨rfl,hle3⟩;have hlen:(st (hTx p u1)).size≤140737488355328:=by rw[AF];have:=HLT.out.1;omega
  rw[HTS.out]at hlen;obtain⟨B,c,W4,q,le1,bt⟩:=AT (base:=0) W3 (st (67::111::110::116::97::99::116::58::32::kAd p.disp u1 p.ps)) (Nat.zero_le _) hlen;rw[AV]at bt;have HB4:=Hi bt.1;have HL24:Hid (Le W2 W4):=Hi (hle3.trans le1);clear bt le1 hle3 hlen;go_wp2_with fail
  refine(KI W4 g p.disp u1 p.ps (HH.out.le HL24.out) (HL.out.le (HL2.out.trans HL24.out)) HZA.out).mono ?_;rintro e W5 ⟨rfl,hle5⟩;have hlen:(st (vTx p u1)).size≤140737488355328:=by rw[AF];have:=HLT.out.2;omega
  rw[HTV.out]at hlen;obtain⟨B2,c2,W6,q2,le2,bt2⟩:=AT (base:=0) W5 (st (kAd p.disp u1 p.ps)) (Nat.zero_le _) hlen;rw[AV]at bt2;have HB6:=Hi bt2.1;have HB46:=Hi ((HB4.out.le hle5).le le2);have HL6:Hid (Le w W6):=Hi (((HL2.out.trans HL24.out).trans hle5).trans le2);clear bt2 le2 hle5 hlen;go_wp2
  go_ret2
  exact⟨_,_,rfl,by rw[HTS.out];exact HB46.out,by rw[HTV.out];exact HB6.out,HL6.out⟩
 |hrb g ht h=>
  have HTP:Hid (p.t=14):=Hi ht;have HH:=Hi h;have HZA:Hid (AdZ p.disp u1 p.ps):=Hi (HVP.out.adz HR.out (.inl (by rw[HTP.out];decide)) p.disp HVP.out.disp p.ps HVP.out.ps);have HTV:Hid (vTx p u1=kAd p.disp u1 p.ps):=Hi (vAd HR.out (.inr (.inr (.inr HTP.out))))
  have HTS:Hid (hTx p u1=82::101::102::101::114::114::101::100::45::66::121::58::32::kAd p.disp u1 p.ps):=Hi ((Cz (N:=[82,101,102,101,114,114,101,100,45,66,121]) HTP.out (by decide) HTV.out (by decide)).trans rfl);clear ht h;go_wp2_with fail
  refine(If W2 g p.disp u1 p.ps HH.out (HL.out.le HL2.out) HZA.out).mono ?_;rintro e W3 ⟨rfl,hle3⟩;have hlen:(st (hTx p u1)).size≤140737488355328:=by rw[AF];have:=HLT.out.1;omega
  rw[HTS.out]at hlen;obtain⟨B,c,W4,q,le1,bt⟩:=AT (base:=0) W3 (st (82::101::102::101::114::114::101::100::45::66::121::58::32::kAd p.disp u1 p.ps)) (Nat.zero_le _) hlen;rw[AV]at bt;have HB4:=Hi bt.1;have HL24:Hid (Le W2 W4):=Hi (hle3.trans le1);clear bt le1 hle3 hlen;go_wp2_with fail
  refine(KE W4 g p.disp u1 p.ps (HH.out.le HL24.out) (HL.out.le (HL2.out.trans HL24.out)) HZA.out).mono ?_;rintro e W5 ⟨rfl,hle5⟩;have hlen:(st (vTx p u1)).size≤140737488355328:=by rw[AF];have:=HLT.out.2;omega
  rw[HTV.out]at hlen;obtain⟨B2,c2,W6,q2,le2,bt2⟩:=AT (base:=0) W5 (st (kAd p.disp u1 p.ps)) (Nat.zero_le _) hlen;rw[AV]at bt2;have HB6:=Hi bt2.1;have HB46:=Hi ((HB4.out.le hle5).le le2);have HL6:Hid (Le w W6):=Hi (((HL2.out.trans HL24.out).trans hle5).trans le2);clear bt2 le2 hle5 hlen;go_wp2
  go_ret2
  exact⟨_,_,rfl,by rw[HTS.out];exact HB46.out,by rw[HTV.out];exact HB6.out,HL6.out⟩
 |hvi g ht h=>
  have HTP:Hid (p.t=9):=Hi ht;have HH:=Hi h;have HZA:Hid (ViZ p.proto p.ver p.tr p.host p.port p.ps):=Hi (HVP.out.viz HR.out HTP.out);have HTV:Hid (vTx p u1=vkT p.proto p.ver p.tr p.host p.port p.ps):=Hi (vVi HR.out HTP.out)
  have HTS:Hid (hTx p u1=86::105::97::58::32::vkT p.proto p.ver p.tr p.host p.port p.ps):=Hi ((Cz (N:=[86,105,97]) HTP.out (by decide) HTV.out (by decide)).trans rfl);clear ht h;go_wp2_with fail
  refine(Ia W2 g p.proto p.ver p.tr p.host p.port p.ps HH.out (HL.out.le HL2.out) HZA.out).mono ?_;rintro e W3 ⟨rfl,hle3⟩;have hlen:(st (hTx p u1)).size≤140737488355328:=by rw[AF];have:=HLT.out.1;omega
  rw[HTS.out]at hlen;obtain⟨B,c,W4,q,le1,bt⟩:=AT (base:=0) W3 (st (86::105::97::58::32::vkT p.proto p.ver p.tr p.host p.port p.ps)) (Nat.zero_le _) hlen;rw[AV]at bt;have HB4:=Hi bt.1;have HL24:Hid (Le W2 W4):=Hi (hle3.trans le1);clear bt le1 hle3 hlen;go_wp2_with fail
  refine(GL W4 g p.proto p.ver p.tr p.host p.port p.ps (HH.out.le HL24.out) (HL.out.le (HL2.out.trans HL24.out)) HZA.out).mono ?_;rintro e W5 ⟨rfl,hle5⟩;have hlen:(st (vTx p u1)).size≤140737488355328:=by rw[AF];have:=HLT.out.2;omega
  rw[HTV.out]at hlen;obtain⟨B2,c2,W6,q2,le2,bt2⟩:=AT (base:=0) W5 (st (vkT p.proto p.ver p.tr p.host p.port p.ps)) (Nat.zero_le _) hlen;rw[AV]at bt2;have HB6:=Hi bt2.1;have HB46:=Hi ((HB4.out.le hle5).le le2);have HL6:Hid (Le w W6):=Hi (((HL2.out.trans HL24.out).trans hle5).trans le2);clear bt2 le2 hle5 hlen;go_wp2
  go_ret2
  exact⟨_,_,rfl,by rw[HTS.out];exact HB46.out,by rw[HTV.out];exact HB6.out,HL6.out⟩
 |hro g ht h=>
  have HTP:Hid (p.t=11):=Hi ht;have HH:=Hi h;have HZA:Hid (AdZ [] u1 []):=Hi (HVP.out.adz HR.out (.inr (by rw[HTP.out];decide)) [] (by decide) [] (by decide));have HTV:Hid (vTx p u1=kRt u1):=Hi (vRt HR.out (.inl HTP.out));have HTS:Hid (hTx p u1=82::111::117::116::101::58::32::kRt u1):=Hi ((Cz (N:=[82,111,117,116,101]) HTP.out (by decide) HTV.out (by decide)).trans rfl)
  clear ht h;go_wp2_with fail
  refine(Id W2 g u1 HH.out (HL.out.le HL2.out) HZA.out).mono ?_;rintro e W3 ⟨rfl,hle3⟩;have hlen:(st (hTx p u1)).size≤140737488355328:=by rw[AF];have:=HLT.out.1;omega
  rw[HTS.out]at hlen;obtain⟨B,c,W4,q,le1,bt⟩:=AT (base:=0) W3 (st (82::111::117::116::101::58::32::kRt u1)) (Nat.zero_le _) hlen;rw[AV]at bt;have HB4:=Hi bt.1;have HL24:Hid (Le W2 W4):=Hi (hle3.trans le1);clear bt le1 hle3 hlen;go_wp2_with fail
  refine(KC W4 g u1 (HH.out.le HL24.out) (HL.out.le (HL2.out.trans HL24.out)) HZA.out).mono ?_;rintro e W5 ⟨rfl,hle5⟩;have hlen:(st (vTx p u1)).size≤140737488355328:=by rw[AF];have:=HLT.out.2;omega
  rw[HTV.out]at hlen;obtain⟨B2,c2,W6,q2,le2,bt2⟩:=AT (base:=0) W5 (st (kRt u1)) (Nat.zero_le _) hlen;rw[AV]at bt2;have HB6:=Hi bt2.1;have HB46:=Hi ((HB4.out.le hle5).le le2);have HL6:Hid (Le w W6):=Hi (((HL2.out.trans HL24.out).trans hle5).trans le2);clear bt2 le2 hle5 hlen;go_wp2
  go_ret2
  exact⟨_,_,rfl,by rw[HTS.out];exact HB46.out,by rw[HTV.out];exact HB6.out,HL6.out⟩
 |hrr g ht h=>
  have HTP:Hid (p.t=12):=Hi ht;have HH:=Hi h;have HZA:Hid (AdZ [] u1 []):=Hi (HVP.out.adz HR.out (.inr (by rw[HTP.out];decide)) [] (by decide) [] (by decide));have HTV:Hid (vTx p u1=kRt u1):=Hi (vRt HR.out (.inr (.inl HTP.out)))
  have HTS:Hid (hTx p u1=82::101::99::111::114::100::45::82::111::117::116::101::58::32::kRt u1):=Hi ((Cz (N:=[82,101,99,111,114,100,45,82,111,117,116,101]) HTP.out (by decide) HTV.out (by decide)).trans rfl);clear ht h;go_wp2_with fail
  refine(Ic W2 g u1 HH.out (HL.out.le HL2.out) HZA.out).mono ?_;rintro e W3 ⟨rfl,hle3⟩;have hlen:(st (hTx p u1)).size≤140737488355328:=by rw[AF];have:=HLT.out.1;omega
  rw[HTS.out]at hlen;obtain⟨B,c,W4,q,le1,bt⟩:=AT (base:=0) W3 (st (82::101::99::111::114::100::45::82::111::117::116::101::58::32::kRt u1)) (Nat.zero_le _) hlen;rw[AV]at bt;have HB4:=Hi bt.1;have HL24:Hid (Le W2 W4):=Hi (hle3.trans le1);clear bt le1 hle3 hlen;go_wp2_with fail
  refine(KB W4 g u1 (HH.out.le HL24.out) (HL.out.le (HL2.out.trans HL24.out)) HZA.out).mono ?_;rintro e W5 ⟨rfl,hle5⟩;have hlen:(st (vTx p u1)).size≤140737488355328:=by rw[AF];have:=HLT.out.2;omega
  rw[HTV.out]at hlen;obtain⟨B2,c2,W6,q2,le2,bt2⟩:=AT (base:=0) W5 (st (kRt u1)) (Nat.zero_le _) hlen;rw[AV]at bt2;have HB6:=Hi bt2.1;have HB46:=Hi ((HB4.out.le hle5).le le2);have HL6:Hid (Le w W6):=Hi (((HL2.out.trans HL24.out).trans hle5).trans le2);clear bt2 le2 hle5 hlen;go_wp2
  go_ret2
  exact⟨_,_,rfl,by rw[HTS.out];exact HB46.out,by rw[HTV.out];exact HB6.out,HL6.out⟩
 |hrf g ht h=>
  have HTP:Hid (p.t=13):=Hi ht;have HH:=Hi h;have HZA:Hid (AdZ [] u1 []):=Hi (HVP.out.adz HR.out (.inr (by rw[HTP.out];decide)) [] (by decide) [] (by decide));have HTV:Hid (vTx p u1=kRt u1):=Hi (vRt HR.out (.inr (.inr HTP.out)))
  have HTS:Hid (hTx p u1=82::101::102::101::114::45::84::111::58::32::kRt u1):=Hi ((Cz (N:=[82,101,102,101,114,45,84,111]) HTP.out (by decide) HTV.out (by decide)).trans rfl);clear ht h;go_wp2_with fail
  refine(Ie W2 g u1 HH.out (HL.out.le HL2.out) HZA.out).mono ?_;rintro e W3 ⟨rfl,hle3⟩;have hlen:(st (hTx p u1)).size≤140737488355328:=by rw[AF];have:=HLT.out.1;omega
  rw[HTS.out]at hlen;obtain⟨B,c,W4,q,le1,bt⟩:=AT (base:=0) W3 (st (82::101::102::101::114::45::84::111::58::32::kRt u1)) (Nat.zero_le _) hlen;rw[AV]at bt;have HB4:=Hi bt.1;have HL24:Hid (Le W2 W4):=Hi (hle3.trans le1);clear bt le1 hle3 hlen;go_wp2_with fail
  refine(KD W4 g u1 (HH.out.le HL24.out) (HL.out.le (HL2.out.trans HL24.out)) HZA.out).mono ?_;rintro e W5 ⟨rfl,hle5⟩;have hlen:(st (vTx p u1)).size≤140737488355328:=by rw[AF];have:=HLT.out.2;omega
  rw[HTV.out]at hlen;obtain⟨B2,c2,W6,q2,le2,bt2⟩:=AT (base:=0) W5 (st (kRt u1)) (Nat.zero_le _) hlen;rw[AV]at bt2;have HB6:=Hi bt2.1;have HB46:=Hi ((HB4.out.le hle5).le le2);have HL6:Hid (Le w W6):=Hi (((HL2.out.trans HL24.out).trans hle5).trans le2);clear bt2 le2 hle5 hlen;go_wp2
  go_ret2
  exact⟨_,_,rfl,by rw[HTS.out];exact HB46.out,by rw[HTV.out];exact HB6.out,HL6.out⟩
 |hci g ht h=>
  have HTP:Hid (p.t=4):=Hi ht;have HH:=Hi h;have HZA:Hid (p.text.length≤1099511627776):=Hi (by have:=HVP.out.text;omega);have HTV:Hid (vTx p u1=p.text):=Hi (vTe (.inl HTP.out));have HTS:Hid (hTx p u1=67::97::108::108::45::73::68::58::32::p.text):=Hi ((Cz (N:=[67,97,108,108,45,73,68]) HTP.out (by decide) HTV.out (by decide)).trans rfl);clear ht h;go_wp2_with fail
  refine(Iq W2 g p.text HH.out (HL.out.le HL2.out) HZA.out).mono ?_;rintro e W3 ⟨rfl,hle3⟩;have hlen:(st (hTx p u1)).size≤140737488355328:=by rw[AF];have:=HLT.out.1;omega
  rw[HTS.out]at hlen;obtain⟨B,c,W4,q,le1,bt⟩:=AT (base:=0) W3 (st (67::97::108::108::45::73::68::58::32::p.text)) (Nat.zero_le _) hlen;rw[AV]at bt;have HB4:=Hi bt.1;have HL24:Hid (Le W2 W4):=Hi (hle3.trans le1);clear bt le1 hle3 hlen;go_wp2_with fail
  refine(GT W4 g p.text (HL24.out.cell HH.out)).mono ?_;rintro e W5 ⟨rfl,hw5⟩;have hle5:Le W4 W5:=by rw[hw5];exact AC _
  clear hw5;have hlen:(st (vTx p u1)).size≤140737488355328:=by rw[AF];have:=HLT.out.2;omega
  rw[HTV.out]at hlen;obtain⟨B2,c2,W6,q2,le2,bt2⟩:=AT (base:=0) W5 (st (p.text)) (Nat.zero_le _) hlen;rw[AV]at bt2;have HB6:=Hi bt2.1;have HB46:=Hi ((HB4.out.le hle5).le le2);have HL6:Hid (Le w W6):=Hi (((HL2.out.trans HL24.out).trans hle5).trans le2);clear bt2 le2 hle5 hlen;go_wp2
  go_ret2
  exact⟨_,_,rfl,by rw[HTS.out];exact HB46.out,by rw[HTV.out];exact HB6.out,HL6.out⟩
 |hct g ht h=>
  have HTP:Hid (p.t=10):=Hi ht;have HH:=Hi h;have HZA:Hid (p.text.length≤1099511627776):=Hi (by have:=HVP.out.text;omega);have HTV:Hid (vTx p u1=p.text):=Hi (vTe (.inr (.inl HTP.out)))
  have HTS:Hid (hTx p u1=67::111::110::116::101::110::116::45::84::121::112::101::58::32::p.text):=Hi ((Cz (N:=[67,111,110,116,101,110,116,45,84,121,112,101]) HTP.out (by decide) HTV.out (by decide)).trans rfl);clear ht h;go_wp2_with fail
  refine(In W2 g p.text HH.out (HL.out.le HL2.out) HZA.out).mono ?_;rintro e W3 ⟨rfl,hle3⟩;have hlen:(st (hTx p u1)).size≤140737488355328:=by rw[AF];have:=HLT.out.1;omega
  rw[HTS.out]at hlen;obtain⟨B,c,W4,q,le1,bt⟩:=AT (base:=0) W3 (st (67::111::110::116::101::110::116::45::84::121::112::101::58::32::p.text)) (Nat.zero_le _) hlen;rw[AV]at bt;have HB4:=Hi bt.1;have HL24:Hid (Le W2 W4):=Hi (hle3.trans le1);clear bt le1 hle3 hlen;go_wp2_with fail
  refine(GR W4 g p.text (HL24.out.cell HH.out)).mono ?_;rintro e W5 ⟨rfl,hw5⟩;have hle5:Le W4 W5:=by rw[hw5];exact AC _
  clear hw5;have hlen:(st (vTx p u1)).size≤140737488355328:=by rw[AF];have:=HLT.out.2;omega
  rw[HTV.out]at hlen;obtain⟨B2,c2,W6,q2,le2,bt2⟩:=AT (base:=0) W5 (st (p.text)) (Nat.zero_le _) hlen;rw[AV]at bt2;have HB6:=Hi bt2.1;have HB46:=Hi ((HB4.out.le hle5).le le2);have HL6:Hid (Le w W6):=Hi (((HL2.out.trans HL24.out).trans hle5).trans le2);clear bt2 le2 hle5 hlen;go_wp2
  go_ret2
  exact⟨_,_,rfl,by rw[HTS.out];exact HB46.out,by rw[HTV.out];exact HB6.out,HL6.out⟩
 |hge g ht h=>
  have HTP:Hid (p.t=0):=Hi ht;have HH:=Hi h;have HZA:Hid (p.name.length≤1099511627776∧p.text.length≤1099511627776):=Hi (by have:=HVP.out.text;have:=HVP.out.name;exact⟨by omega,by omega⟩);have HTV:Hid (vTx p u1=p.text):=Hi (vTe (.inr (.inr HTP.out)));have HTS:Hid (hTx p u1=p.name++(58::32::p.text)):=Hi (hGe HTP.out);clear ht h;go_wp2_with fail
  refine(Ii W2 g p.name p.text HH.out (HL.out.le HL2.out) HZA.out).mono ?_;rintro e W3 ⟨rfl,hle3⟩;have hlen:(st (hTx p u1)).size≤140737488355328:=by rw[AF];have:=HLT.out.1;omega
  rw[HTS.out]at hlen;obtain⟨B,c,W4,q,le1,bt⟩:=AT (base:=0) W3 (st (p.name++(58::32::p.text))) (Nat.zero_le _) hlen;rw[AV]at bt;have HB4:=Hi bt.1;have HL24:Hid (Le W2 W4):=Hi (hle3.trans le1);clear bt le1 hle3 hlen;go_wp2_with fail
  refine(GP W4 g p.text (HL24.out.cell HH.out.2)).mono ?_;rintro e W5 ⟨rfl,hw5⟩;have hle5:Le W4 W5:=by rw[hw5];exact AC _
  clear hw5;have hlen:(st (vTx p u1)).size≤140737488355328:=by rw[AF];have:=HLT.out.2;omega
  rw[HTV.out]at hlen;obtain⟨B2,c2,W6,q2,le2,bt2⟩:=AT (base:=0) W5 (st (p.text)) (Nat.zero_le _) hlen;rw[AV]at bt2;have HB6:=Hi bt2.1;have HB46:=Hi ((HB4.out.le hle5).le le2);have HL6:Hid (Le w W6):=Hi (((HL2.out.trans HL24.out).trans hle5).trans le2);clear bt2 le2 hle5 hlen;go_wp2
  go_ret2
  exact⟨_,_,rfl,by rw[HTS.out];exact HB46.out,by rw[HTV.out];exact HB6.out,HL6.out⟩
 |hcs g ht h=>
  have HTP:Hid (p.t=5):=Hi ht;have HH:=Hi h;have HZA:Hid (p.num<4294967296∧p.text.length≤1099511627776):=Hi (⟨HVP.out.num,by have:=HVP.out.text;omega⟩);have HTV:Hid (vTx p u1=Dp p.num p.text):=Hi (vCs HTP.out);have HTS:Hid (hTx p u1=ES p.num p.text):=Hi ((Cz (N:=[67,83,101,113]) HTP.out (by decide) HTV.out (by decide)).trans rfl);clear ht h;go_wp2_with fail
  refine(GU W2 g p.num p.text HH.out (HL.out.le HL2.out) HZA.out.1 HZA.out.2).mono ?_;rintro e W3 ⟨rfl,hle3⟩;have hlen:(st (hTx p u1)).size≤140737488355328:=by rw[AF];have:=HLT.out.1;omega
  rw[HTS.out]at hlen;obtain⟨B,c,W4,q,le1,bt⟩:=AT (base:=0) W3 (st (ES p.num p.text)) (Nat.zero_le _) hlen;rw[AV]at bt;have HB4:=Hi bt.1;have HL24:Hid (Le W2 W4):=Hi (hle3.trans le1);clear bt le1 hle3 hlen;go_wp2_with fail
  refine(Hr W4 g p.num p.text (HL24.out.heap HH.out) (HL.out.le (HL2.out.trans HL24.out)) HZA.out.1 HZA.out.2).mono ?_;rintro e W5 ⟨rfl,hle5⟩;have hlen:(st (vTx p u1)).size≤140737488355328:=by rw[AF];have:=HLT.out.2;omega
  rw[HTV.out]at hlen;obtain⟨B2,c2,W6,q2,le2,bt2⟩:=AT (base:=0) W5 (st (Dp p.num p.text)) (Nat.zero_le _) hlen;rw[AV]at bt2;have HB6:=Hi bt2.1;have HB46:=Hi ((HB4.out.le hle5).le le2);have HL6:Hid (Le w W6):=Hi (((HL2.out.trans HL24.out).trans hle5).trans le2);clear bt2 le2 hle5 hlen;go_wp2
  go_ret2
  exact⟨_,_,rfl,by rw[HTS.out];exact HB46.out,by rw[HTV.out];exact HB6.out,HL6.out⟩
 |hmf g ht h=>
  have HTP:Hid (p.t=6):=Hi ht;have HH:=Hi h;have HZA:Hid (p.num<4294967296):=Hi (HVP.out.num);have HTV:Hid (vTx p u1=Lib.itoa p.num):=Hi (vNu (.inl HTP.out));have HTS:Hid (hTx p u1=77::97::120::45::70::111::114::119::97::114::100::115::58::32::Lib.itoa p.num):=Hi ((Cz (N:=[77,97,120,45,70,111,114,119,97,114,100,115]) HTP.out (by decide) HTV.out (by decide)).trans rfl)
  clear ht h;go_wp2_with fail
  refine(Ih W2 g p.num HH.out (HL.out.le HL2.out) HZA.out).mono ?_;rintro e W3 ⟨rfl,hle3⟩;have hlen:(st (hTx p u1)).size≤140737488355328:=by rw[AF];have:=HLT.out.1;omega
  rw[HTS.out]at hlen;obtain⟨B,c,W4,q,le1,bt⟩:=AT (base:=0) W3 (st (77::97::120::45::70::111::114::119::97::114::100::115::58::32::Lib.itoa p.num)) (Nat.zero_le _) hlen;rw[AV]at bt;have HB4:=Hi bt.1;have HL24:Hid (Le W2 W4):=Hi (hle3.trans le1);clear bt le1 hle3 hlen;go_wp2_with fail
  refine(GO W4 g p.num (HL24.out.cell HH.out) (HL.out.le (HL2.out.trans HL24.out)) HZA.out).mono ?_;rintro e W5 ⟨rfl,hle5⟩;have hlen:(st (vTx p u1)).size≤140737488355328:=by rw[AF];have:=HLT.out.2;omega
  rw[HTV.out]at hlen;obtain⟨B2,c2,W6,q2,le2,bt2⟩:=AT (base:=0) W5 (st (Lib.itoa p.num)) (Nat.zero_le _) hlen;rw[AV]at bt2;have HB6:=Hi bt2.1;have HB46:=Hi ((HB4.out.le hle5).le le2);have HL6:Hid (Le w W6):=Hi (((HL2.out.trans HL24.out).trans hle5).trans le2);clear bt2 le2 hle5 hlen;go_wp2
  go_ret2
  exact⟨_,_,rfl,by rw[HTS.out];exact HB46.out,by rw[HTV.out];exact HB6.out,HL6.out⟩
 |hex g ht h=>
  have HTP:Hid (p.t=7):=Hi ht;have HH:=Hi h;have HZA:Hid (p.num<4294967296):=Hi (HVP.out.num);have HTV:Hid (vTx p u1=Lib.itoa p.num):=Hi (vNu (.inr (.inl HTP.out)));have HTS:Hid (hTx p u1=69::120::112::105::114::101::115::58::32::Lib.itoa p.num):=Hi ((Cz (N:=[69,120,112,105,114,101,115]) HTP.out (by decide) HTV.out (by decide)).trans rfl);clear ht h;go_wp2_with fail
  refine(Ik W2 g p.num HH.out (HL.out.le HL2.out) HZA.out).mono ?_;rintro e W3 ⟨rfl,hle3⟩;have hlen:(st (hTx p u1)).size≤140737488355328:=by rw[AF];have:=HLT.out.1;omega
  rw[HTS.out]at hlen;obtain⟨B,c,W4,q,le1,bt⟩:=AT (base:=0) W3 (st (69::120::112::105::114::101::115::58::32::Lib.itoa p.num)) (Nat.zero_le _) hlen;rw[AV]at bt;have HB4:=Hi bt.1;have HL24:Hid (Le W2 W4):=Hi (hle3.trans le1);clear bt le1 hle3 hlen;have hme4:∀k,_:=fun k=>M5 k W4 g p.num (HL24.out.cell HH.out);go_wp2_with fail
  refine(GQ W4 p.num (HL.out.le (HL2.out.trans HL24.out)) HZA.out).mono ?_;rintro e W5 ⟨rfl,hle5⟩;have hlen:(st (vTx p u1)).size≤140737488355328:=by rw[AF];have:=HLT.out.2;omega
  rw[HTV.out]at hlen;obtain⟨B2,c2,W6,q2,le2,bt2⟩:=AT (base:=0) W5 (st (Lib.itoa p.num)) (Nat.zero_le _) hlen;rw[AV]at bt2;have HB6:=Hi bt2.1;have HB46:=Hi ((HB4.out.le hle5).le le2);have HL6:Hid (Le w W6):=Hi (((HL2.out.trans HL24.out).trans hle5).trans le2);clear bt2 le2 hle5 hlen;go_wp2
  go_ret2
  exact⟨_,_,rfl,by rw[HTS.out];exact HB46.out,by rw[HTV.out];exact HB6.out,HL6.out⟩
 |hcl g ht h=>
  have HTP:Hid (p.t=8):=Hi ht;have HH:=Hi h;have HZA:Hid (p.num<4294967296):=Hi (HVP.out.num);have HTV:Hid (vTx p u1=Lib.itoa p.num):=Hi (vNu (.inr (.inr HTP.out)))
  have HTS:Hid (hTx p u1=67::111::110::116::101::110::116::45::76::101::110::103::116::104::58::32::Lib.itoa p.num):=Hi ((Cz (N:=[67,111,110,116,101,110,116,45,76,101,110,103,116,104]) HTP.out (by decide) HTV.out (by decide)).trans rfl);clear ht h;have hme:∀k,_:=fun k=>M7 k W2 g p.num HH.out;go_wp2_with fail
  refine(Ip W2 p.num (HL.out.le HL2.out) HZA.out).mono ?_;rintro e W3 ⟨rfl,hle3⟩;have hlen:(st (hTx p u1)).size≤140737488355328:=by rw[AF];have:=HLT.out.1;omega
  rw[HTS.out]at hlen;obtain⟨B,c,W4,q,le1,bt⟩:=AT (base:=0) W3 (st (67::111::110::116::101::110::116::45::76::101::110::103::116::104::58::32::Lib.itoa p.num)) (Nat.zero_le _) hlen;rw[AV]at bt;have HB4:=Hi bt.1;have HL24:Hid (Le W2 W4):=Hi (hle3.trans le1);clear bt le1 hle3 hlen;clear hme;have hme4:∀k,_:=fun k=>M6 k W4 g p.num (HL24.out.cell HH.out);go_wp2_with fail
  refine(GS W4 p.num (HL.out.le (HL2.out.trans HL24.out)) HZA.out).mono ?_;rintro e W5 ⟨rfl,hle5⟩;have hlen:(st (vTx p u1)).size≤140737488355328:=by rw[AF];have:=HLT.out.2;omega
  rw[HTV.out]at hlen;obtain⟨B2,c2,W6,q2,le2,bt2⟩:=AT (base:=0) W5 (st (Lib.itoa p.num)) (Nat.zero_le _) hlen;rw[AV]at bt2;have HB6:=Hi bt2.1;have HB46:=Hi ((HB4.out.le hle5).le le2);have HL6:Hid (Le w W6):=Hi (((HL2.out.trans HL24.out).trans hle5).trans le2);clear bt2 le2 hle5 hlen;go_wp2
  go_ret2
  exact⟨_,_,rfl,by rw[HTS.out];exact HB46.out,by rw[HTV.out];exact HB6.out,HL6.out⟩
theorem Dj(w:World)(x y:Value)(lx ly:Tx)(b:Bool)(h:decide (lx=ly)=b)(hx:Bv w x lx)(hy:Bv w y ly):
 Calls Tryz.prog 37 #[x,y] w fun e w'=>e= .returned (.bool b)∧∃m,w'=w.drewN m:=by
 subst h;exact(FL x y lx ly w hx hy).mono fun e w' ⟨h1,h2⟩=>⟨h1,0,by rw[←h2];cases w;rfl⟩
theorem EL(w:World)(x y:Value)(lx ly:Tx)(b:Bool)(h:decide (lx=ly)=b)(hx:Bv w x lx)(hy:Bv w y ly):
 Calls Tryz.prog 37 #[x,y] w fun e w'=>e= .returned (.bool b)∧∃m,w'=w.drewN m:=Dj w x y lx ly b h hx hy
theorem IE(φ ψ:Nat→Prop)(w:World)(a b:Value)(la lb:KVs)(ha:Kq φ w a la)(hb:Kq ψ w b lb):
 Calls Tryz.prog 39 #[a,b] w fun e w'=>e= .returned (.bool (decide (la=lb)))∧Dr w w':=by
 have ha0:=Hi ha;have hb0:=Hi hb;obtain⟨A,c,rfl,h1,h2,h3,_⟩:=ha;obtain⟨B,d,rfl,k1,k2,k3,_⟩:=hb;by_cases hl:la.length=lb.length
 ·have E1:((la.length:Int) != (lb.length:Int))=false:=by simp[hl]
  have E2:=Hi hl;clear hl;go_enter Tryz.func39,Tryz.ntmps39;go_wp2
  go_loopg [5] (la.length) (fun n i wr=>∃k:Nat,n+k=la.length∧i= .int .i64 k∧Dr w wr∧la.take k=lb.take k)
  case atStart=>exact⟨0,by omega,rfl,Dr.refl _,rfl⟩
  case round=>
   obtain⟨k,hn,rfl,hd,ht⟩:=hrel;have HT:=Hi ht;have HD:=Hi hd;have HN:gk+k≤la.length∧la.length≤gk+k:=by omega
   clear ht hn;by_cases hlt:k<la.length
   ·have hlt2:k<lb.length:=by have:=E2.out;omega
    obtain⟨b1,o1,rfl,x1,x2,d1,d2,X1,X2⟩:=(ha0.out.le hd.le).at_ hlt;obtain⟨b2,o2,rfl,y1,y2,e1,e2,Y1,Y2⟩:=(hb0.out.le hd.le).at_ hlt2;clear hd;by_cases hk:la[k].1=lb[k].1
    ·have Ht1:=Hi (decide_eq_true hk);by_cases hv:la[k].2=lb[k].2
     ·have Ht2:=Hi (decide_eq_true hv);have HF:Hid (la.take (k+1)=lb.take (k+1)):=Hi (Es _ _ _ HT.out hlt hlt2 (Prod.ext hk hv));clear hk hv;go_wp2
      go_quiet ((first|(go_at_call 37;exact Calls.quiet_of (Dj _ _ _ _ _ _ Ht1.out (X1.out.dn _) (Y1.out.dn _)))|(go_at_call 37;exact Calls.quiet_of (Dj _ _ _ _ _ _ Ht2.out (X2.out.dn _) (Y2.out.dn _)))))
      go_wp2;go_roundg (gk-1)
      case measure=>omega
      case rel=>exact⟨k+1,by omega,by go_num,HD.out.step _,HF.out⟩
     ·have Hf2:=Hi (decide_eq_false hv);have HF:Hid (decide (la=lb)=false):=Hi (decide_eq_false (by rintro rfl;exact hv rfl));clear hk hv;go_wp2
      go_quiet ((first|(go_at_call 37;exact Calls.quiet_of (Dj _ _ _ _ _ _ Ht1.out (X1.out.dn _) (Y1.out.dn _)))|(go_at_call 37;exact Calls.quiet_of (Dj _ _ _ _ _ _ Hf2.out (X2.out.dn _) (Y2.out.dn _)))))
      go_wp2;go_ret;exact⟨by rw[HF.out];rfl,HD.out.step _⟩
    ·have Hf1:=Hi (decide_eq_false hk);have HF:Hid (decide (la=lb)=false):=Hi (decide_eq_false (by rintro rfl;exact hk rfl));clear hk;go_wp2
     go_quiet ((go_at_call 37;exact Calls.quiet_of (Dj _ _ _ _ _ _ Hf1.out (X1.out.dn _) (Y1.out.dn _))))
     go_wp2;go_ret;exact⟨by rw[HF.out];rfl,HD.out.step _⟩
   ·have HF:Hid (decide (la=lb)=true):=Hi (decide_eq_true (by
     have e1:=List.take_of_length_le (i:=k) (l:=la) (by omega);have e2:=List.take_of_length_le (i:=k) (l:=lb) (by have:=E2.out;omega);rw[←e1,←e2,HT.out]))
    clear hd;go_wp2;go_ret;exact⟨by rw[HF.out];rfl,HD.out⟩
 ·have E1:((la.length:Int) != (lb.length:Int))=true:=by simp;omega
  have E2:decide (la=lb)=false:=decide_eq_false (by intro h;exact hl (by rw[h]));rw[E2];clear hl E2;go_enter Tryz.func39,Tryz.ntmps39;go_wp2;go_ret;exact⟨rfl,Dr.refl _⟩
theorem Dx(φ ψ:Nat→Prop)(w:World)(a b:Value)(la lb:KVs)(r:Bool)(h:decide (la=lb)=r)(ha:Kq φ w a la)(hb:Kq ψ w b lb):
 Calls Tryz.prog 39 #[a,b] w fun e w'=>e= .returned (.bool r)∧∃m,w'=w.drewN m:=by
 subst h;exact IE φ ψ w a b la lb ha hb
theorem Jt(φ ψ:Nat→Prop)(w:World)(x y:UV)(u v:PU)(hx:Uq φ w x u)(hy:Uq ψ w y v):
 Calls Tryz.prog 38 #[x.val,y.val] w fun e w'=>e= .returned (.bool (puB u v))∧Le w w':=by
 have hvx:Hid (x.val= .agg #[x.scheme,x.raw,.bool x.wild,.bool x.slash,x.user,x.pass,x.host,.int .i64 x.port,x.ps,x.hs]):=Hi rfl;have hvy:Hid (y.val= .agg #[y.scheme,y.raw,.bool y.wild,.bool y.slash,y.user,y.pass,y.host,.int .i64 y.port,y.ps,y.hs]):=Hi rfl;rw[hvx.out,hvy.out]
 have hle0:Le w ((w.alloc (Obj.cells #[x.scheme,x.raw,.bool x.wild,.bool x.slash,x.user,x.pass,x.host,.int .i64 x.port,x.ps,x.hs] 35)).alloc (Obj.cells #[y.scheme,y.raw,.bool y.wild,.bool y.slash,y.user,y.pass,y.host,.int .i64 y.port,y.ps,y.hs] 35)):=((AC w).alloc _).alloc _;have HX:=Hi (hx.le hle0);have HY:=Hi (hy.le hle0);have HLE:=Hi hle0
 obtain⟨xs,xr,xw,xsl,xu,xp,xh,xpo,xps,xhs⟩:=x;obtain⟨ys,yr,yw,ysl,yu,yp,yh,ypo,yps,yhs⟩:=y;obtain⟨us,ur,uw,usl,uu,up,uh,upo,ups,uhs⟩:=u;obtain⟨vs,vr,vw,vsl,vu,vp,vh,vpo,vps,vhs⟩:=v;obtain rfl:xw=uw:=hx.wild;obtain rfl:xsl=usl:=hx.slash;obtain rfl:xpo=upo:=hx.port;obtain rfl:yw=vw:=hy.wild;obtain rfl:ysl=vsl:=hy.slash;obtain rfl:ypo=vpo:=hy.port;clear hx hy hle0 hvx hvy;dsimp only at HX HY HLE⊢
 obtain⟨bw,Ew⟩:∃b,(xw==yw)=b:=⟨_,rfl⟩;obtain⟨bsl,Esl⟩:∃b,(xsl==ysl)=b:=⟨_,rfl⟩;obtain⟨bpo,Epo⟩:∃b,(xpo==ypo)=b:=⟨_,rfl⟩;obtain⟨b_scheme,h_scheme⟩:∃b,decide (us=vs)=b:=⟨_,rfl⟩;obtain⟨b_raw,h_raw⟩:∃b,decide (ur=vr)=b:=⟨_,rfl⟩;obtain⟨b_user,h_user⟩:∃b,decide (uu=vu)=b:=⟨_,rfl⟩;obtain⟨b_pass,h_pass⟩:∃b,decide (up=vp)=b:=⟨_,rfl⟩;obtain⟨b_host,h_host⟩:∃b,decide (uh=vh)=b:=⟨_,rfl⟩
 obtain⟨b_ps,h_ps⟩:∃b,decide (ups=vps)=b:=⟨_,rfl⟩;obtain⟨b_hs,h_hs⟩:∃b,decide (uhs=vhs)=b:=⟨_,rfl⟩;have HPU:Hid (puB ⟨us,ur,xw,xsl,uu,up,uh,xpo,ups,uhs⟩ ⟨vs,vr,yw,ysl,vu,vp,vh,ypo,vps,vhs⟩=(b_scheme&&b_raw&&bw&&bsl&&b_user&&b_pass&&b_host&&bpo&&b_ps&&b_hs)):=Hi (by
  simp only[puB,h_scheme,h_raw,Ew,Esl,h_user,h_pass,h_host,Epo,h_ps,h_hs])
 have e_scheme:=Hi h_scheme;have e_raw:=Hi h_raw;have e_user:=Hi h_user;have e_pass:=Hi h_pass;have e_host:=Hi h_host;have e_ps:=Hi h_ps;have e_hs:=Hi h_hs;clear h_scheme h_raw h_user h_pass h_host h_ps h_hs;rw[HPU.out];clear HPU;go_enter Tryz.func38,Tryz.ntmps38
 go_wp2_with (first|(go_at_call 37;first|(refine(EL _ _ _ _ _ _ e_scheme.out (by first|exact HX.out.scheme.1.dn _|exact HX.out.scheme.1) (by first|exact HY.out.scheme.1.dn _|exact HY.out.scheme.1)).mono ?_;rintro e w' ⟨rfl,n,rfl⟩)|(refine(EL _ _ _ _ _ _ e_raw.out (by first|exact HX.out.raw.1.dn _|exact HX.out.raw.1) (by first|exact HY.out.raw.1.dn _|exact HY.out.raw.1)).mono ?_;rintro e w' ⟨rfl,n,rfl⟩)|(refine(EL _ _ _ _ _ _ e_user.out (by first|exact HX.out.user.1.dn _|exact HX.out.user.1) (by first|exact HY.out.user.1.dn _|exact HY.out.user.1)).mono ?_;rintro e w' ⟨rfl,n,rfl⟩)|(refine(EL _ _ _ _ _ _ e_pass.out (by first|exact HX.out.pass.1.dn _|exact HX.out.pass.1) (by first|exact HY.out.pass.1.dn _|exact HY.out.pass.1)).mono ?_;rintro e w' ⟨rfl,n,rfl⟩)|(refine(EL _ _ _ _ _ _ e_host.out (by first|exact HX.out.host.1.dn _|exact HX.out.host.1) (by first|exact HY.out.host.1.dn _|exact HY.out.host.1)).mono ?_;rintro e w' ⟨rfl,n,rfl⟩))|(go_at_call 39;first|(refine(Dx φ ψ _ _ _ _ _ _ e_ps.out (by first|exact HX.out.ps.dn _|exact HX.out.ps) (by first|exact HY.out.ps.dn _|exact HY.out.ps)).mono ?_;rintro e w' ⟨rfl,n,rfl⟩)|(refine(Dx φ ψ _ _ _ _ _ _ e_hs.out (by first|exact HX.out.hs.dn _|exact HX.out.hs) (by first|exact HY.out.hs.dn _|exact HY.out.hs)).mono ?_;rintro e w' ⟨rfl,n,rfl⟩)))
 all_goals (go_ret;refine⟨Cy ?_,by first|exact HLE.out.drewN _|exact HLE.out⟩;simp[*])
theorem Bv.oneU{w:World}{v:Value}{l:Tx}(h:Bv w v l):v.oneCell'=true:=by obtain⟨A,c,rfl,_⟩:=h;rfl
theorem KrS.shapeU{w0 w:World}{base:Nat}{v:Value}{l:KVs}(h:KrS w0 w base v l):∃A c,v= .slice A l.length c:=by
 obtain⟨xs,h1,_⟩:=h;rcases h1.2 with⟨rfl,hn⟩|⟨g,cap,cur,rfl,_⟩
 ·exact⟨none,0,by rw[hn]⟩
 ·exact⟨_,_,rfl⟩
theorem KrS.oneU{w0 w:World}{base:Nat}{v:Value}{l:KVs}(h:KrS w0 w base v l):v.oneCell'=true:=by obtain⟨A,c,rfl⟩:=h.shapeU;rfl
theorem IT(φ:Nat→Prop)(v:Value)(l:KVs)(w0 w:World)(h0:Le w0 w)(hv:Kq φ w0 v l):Calls Tryz.prog 20 #[v] w fun e w'=>∃v',e= .returned v'∧KrS w0 w' w.heap.size v' l∧Le w w':=by
 have HV:=Hi hv;have H0:=Hi h0;obtain⟨A,cc,rfl,hc1,hc2,hc3,_⟩:=hv;clear h0;obtain⟨i0,hi0,hz0,hz1,hz2⟩:=info_parts JD;go_enter Tryz.func20,Tryz.ntmps20;go_wp2
 go_loopg [3,4] (l.length) (fun n sv i wr=>∃(k:Nat) (xs:List Value),n+k=l.length∧i= .int .i64 k∧Le w wr∧wr.ownsRow w.heap.size 80 2 sv k xs∧I1 w0 xs (l.take k))
 case atStart=>exact⟨0,[],by omega,rfl,AC w,World.ownsRow_nil _ _ _ _,I1.nil _⟩
 case round=>
  obtain⟨k,xs,hn,rfl,hle,hown,hpa⟩:=hrel;have HO:=Hi hown;have HLE:=Hi hle;have HPA:=Hi hpa;have HN:gk+k≤l.length∧l.length≤gk+k:=by omega
  have hsz:=hle.size;clear hn hown hpa;by_cases hkl:k<l.length
  ·obtain⟨g,o,rfl,x,y,d1,d2,X,Y⟩:=HV.out.at_ hkl;have d1:=(Le.trans H0.out hle).cell d1;have d2:=(Le.trans H0.out hle).cell d2;have hx1:=X.out.oneU;have hy1:=Y.out.oneU;clear hle
   go_wp2_with ((at_builtin;refine wpList_append_lies _ rfl _ _ 33 rfl w.heap.size 80 i0 (.agg #[.slice none 0 0,.slice none 0 0]) 2 48 Tryz.underlying33 hi0 hz0 hz1 hz2 rfl (by decide) _ _ _ rfl (HO.out.alloc _) ⟨wr.heap.size,0,none⟩ 1 1 [x,y] rfl rfl ?c1 ?c2 ?c3 ?c4 ?c5 ?c6 (wr.heap.size+1) ?c7 ?_))
   case c1=>exact World.news_of_block (heap_alloc_new wr _)
   case c2=>intro u hu;simp only[List.mem_cons,List.mem_nil_iff,or_false]at hu;rcases hu with rfl|rfl<;>assumption
   case c3=>omega
   case c4=>unfold maxLen;omega
   case c5=>omega
   case c6=>simp;omega
   case c7=>simp
   intro g2 cap2 w2 hown2 hgrow2 hat2 hlt2;have HLE2:Hid (Le w w2):=Hi (Below.grown' (HLE.out.alloc _) hgrow2 (NL _) (fun g hg=>(AK HO.out g hg).1));have HO2:=Hi hown2;have HPA2:Hid (I1 w0 (xs++[x,y]) (l.take (k+1))):=Hi (by
    rw[List.take_succ_eq_append_getElem hkl];exact HPA.out.snoc X.out Y.out)
   clear hown2 hgrow2 hat2 hlt2 d1 d2;go_wp2;go_roundg (gk-1)
   case measure=>omega
   case rel=>exact⟨k+1,_,by omega,by go_num,HLE2.out,HO2.out,HPA2.out⟩
  ·obtain rfl:k=l.length:=by omega
   have HKR:Hid (KrS w0 wr w.heap.size u3 l):=Hi ⟨xs,HO.out,by have h:=HPA.out;rw[List.take_of_length_le (NL _)]at h;exact h⟩;clear hle;go_wp2;go_ret;exact⟨_,rfl,HKR.out,HLE.out⟩
def uoR(x:UV)(pv hv:Value):Array Value:= #[x.scheme,x.raw,.bool x.wild,.bool x.slash,x.user,x.pass,x.host,.int .i64 x.port,pv,hv]
theorem Gx:((Tryz.prog).info? 35).map (·.size)=some 10:=by kernel_rfl
theorem Oa{φ:Nat→Prop}{w:World}{x:UV}{u:PU}(h:Uq φ w x u){pv hv:Value}(h1:pv.oneCell'=true)(h2:hv.oneCell'=true):(uoR x pv hv).all (·.oneCell')=true:=by
 unfold uoR;simp only[List.all_toArray,List.all_cons,List.all_nil,h.scheme.one,h.raw.one,h.user.one,h.pass.one,h.host.one,h1,h2];rfl
theorem KrS.monoU{w0 w:World}{base base':Nat}{v:Value}{l:KVs}(h:KrS w0 w base v l)(k:base'≤base):KrS w0 w base' v l:=by
 obtain⟨xs,h1,h2⟩:=h;exact⟨xs,h1.mono k,h2⟩
def uoS(w:World)(x:UV)(u:PU):Nat→Value→World→Prop
 |1,v,_=>v= .pointer (some ⟨w.heap.size,0,none⟩)
 |2,v,_=>v= .pointer (some ⟨w.heap.size+1,0,none⟩)
 |3,v,_=>v=(.pointer (some ⟨w.heap.size,0,none⟩))
 |4,v,_=>v=x.scheme
 |5,v,_=>v=(.pointer (some ⟨w.heap.size,1,none⟩))
 |6,v,_=>v=x.raw
 |7,v,_=>v=(.pointer (some ⟨w.heap.size,2,none⟩))
 |8,v,_=>v= .bool x.wild
 |9,v,_=>v=(.pointer (some ⟨w.heap.size,3,none⟩))
 |10,v,_=>v= .bool x.slash
 |11,v,_=>v=(.pointer (some ⟨w.heap.size,4,none⟩))
 |12,v,_=>v=x.user
 |13,v,_=>v=(.pointer (some ⟨w.heap.size,5,none⟩))
 |14,v,_=>v=x.pass
 |15,v,_=>v=(.pointer (some ⟨w.heap.size,6,none⟩))
 |16,v,_=>v=x.host
 |17,v,_=>v=(.pointer (some ⟨w.heap.size,7,none⟩))
 |18,v,_=>v= .int .i64 x.port
 |19,v,_=>v=(.pointer (some ⟨w.heap.size,8,none⟩))
 |20,v,_=>v=x.ps
 |21,v,W=>KrS w W (w.heap.size+2) v u.ps
 |22,v,_=>v=(.pointer (some ⟨w.heap.size,9,none⟩))
 |23,v,_=>v=x.hs
 |24,v,W=>KrS w W (w.heap.size+2) v u.hs
 |25,v,W=>∃pv hv,v= .agg (uoR x pv hv)∧KrS w W (w.heap.size+2) pv u.ps∧KrS w W (w.heap.size+2) hv u.hs
 |_,_,_=>True
theorem Ny(w:World)(x:UV)(u:PU)(t:Nat)(v:Value)(w1 w2:World)(k:Le w1 w2)(h:uoS w x u t v w1):uoS w x u t v w2:=by
 unfold uoS at h⊢;split at h<;>first|exact h|exact h.le k|(obtain⟨a1,a2,e,b1,b2⟩:=h;exact⟨a1,a2,e,b1.le k,b2.le k⟩)
def uoG(w:World)(x:UV)(W:World):Prop:=Le w W∧W.heap[w.heap.size]? =some (.cells x.row 25 (0,0))∧∃cs:Array Value,cs.size=10∧W.heap[w.heap.size+1]? =some (.cells cs 35 (0,0))
def uoZ(w:World)(x:UV)(u:PU)(_:Nat)(W:World):Prop:=∃pv hv,W.heap[w.heap.size+1]? =some (.cells (uoR x pv hv) 35 (0,0))∧KrS w W (w.heap.size+2) pv u.ps∧KrS w W (w.heap.size+2) hv u.hs
theorem Nx(w:World)(x:UV)(u:PU)(j:Nat)(w1 w2:World)(k:Le w1 w2)(h:uoZ w x u j w1):uoZ w x u j w2:=by
 obtain⟨pv,hv,h1,h2,h3⟩:=h;exact⟨pv,hv,k.heap h1,h2.le k,h3.le k⟩
theorem OZ(φ:Nat→Prop)(w:World)(x:UV)(u:PU)(hx:Uq φ w x u)(hpl:u.ps.length≤1099511627776)(hhl:u.hs.length≤1099511627776):
 Calls Tryz.prog 19 #[x.val] w fun e w'=>∃y:UV,e= .returned y.val∧Uq (fun _=>True) w' y u∧Le w w'∧(∀g,y.ps.ownBlock=some g→w.heap.size≤g)∧(∀g,y.hs.ownBlock=some g→w.heap.size≤g):=by
 have HX:=Hi hx;have hval:Hid (x.val= .agg #[x.scheme,x.raw,.bool x.wild,.bool x.slash,x.user,x.pass,x.host,.int .i64 x.port,x.ps,x.hs]):=Hi rfl;clear hx;rw[hval.out];go_enter Tryz.func19,Tryz.ntmps19;go_wp2;have hm:(Tryz.prog).follows .mixedOrders=true:=by kernel_rfl
 have hGl:∀w1 w2,Le w1 w2→uoG w x w1→uoG w x w2:=fun w1 w2 k h=>⟨Le.trans h.1 k,k.heap h.2.1,by obtain⟨cs,h1,h2⟩:=h.2.2;exact⟨cs,h1,k.heap h2⟩⟩;refine wp_region_grow_put (uoS w x u) (uoZ w x u) (uoG w x) 26 [3,4,5,6,7,8,9,10,11,12,13,14,15,16,17,18,19,20,21,22,23,24,25] hm (by kernel_rfl) rfl rfl ?hG ?hold ?hs ?hend
 case hG=>exact⟨(((AC w).alloc _).alloc _).drew,heap_alloc2_old w _ _,_,rfl,heap_alloc2_new w _ _⟩
 case hold=>
  intro t ht;simp only[List.mem_cons,List.mem_nil_iff,or_false,not_or]at ht;unfold uoS;split<;>first|rfl|trivial|(exfalso;simp at ht)
 case hs=>
  refine⟨?_,?_,?_,?_,?_,?_,?_,?_,?_,?_,?_,?_,?_,?_,?_,?_,?_,?_,?_,?_,?_,?_,?_,?_,trivial⟩
  ·refine AA fun a W hg hop=>?_;have h0:_=_:=hq hop 1;have h0':=tg h0;refine⟨_,?_,rfl⟩;simp only[execOp,h0];go_simp
  ·refine AA fun a W hg hop=>?_;have h0:_=_:=hq hop 3;have h0':=tg h0;have c1:W.cell? ⟨w.heap.size,0,none⟩=some (x.scheme):=by rw[AB hg.2.1 0];rfl
   refine⟨_,?_,rfl⟩;simp only[execOp,h0];go_simp
  ·refine AA fun a W hg hop=>?_;have h0:_=_:=hq hop 1;have h0':=tg h0;refine⟨_,?_,rfl⟩;simp only[execOp,h0];go_simp
  ·refine AA fun a W hg hop=>?_;have h0:_=_:=hq hop 5;have h0':=tg h0;have c1:W.cell? ⟨w.heap.size,1,none⟩=some (x.raw):=by rw[AB hg.2.1 1];rfl
   refine⟨_,?_,rfl⟩;simp only[execOp,h0];go_simp
  ·refine AA fun a W hg hop=>?_;have h0:_=_:=hq hop 1;have h0':=tg h0;refine⟨_,?_,rfl⟩;simp only[execOp,h0];go_simp
  ·refine AA fun a W hg hop=>?_;have h0:_=_:=hq hop 7;have h0':=tg h0;have c1:W.cell? ⟨w.heap.size,2,none⟩=some (.bool x.wild):=by rw[AB hg.2.1 2];rfl
   refine⟨_,?_,rfl⟩;simp only[execOp,h0];go_simp
  ·refine AA fun a W hg hop=>?_;have h0:_=_:=hq hop 1;have h0':=tg h0;refine⟨_,?_,rfl⟩;simp only[execOp,h0];go_simp
  ·refine AA fun a W hg hop=>?_;have h0:_=_:=hq hop 9;have h0':=tg h0;have c1:W.cell? ⟨w.heap.size,3,none⟩=some (.bool x.slash):=by rw[AB hg.2.1 3];rfl
   refine⟨_,?_,rfl⟩;simp only[execOp,h0];go_simp
  ·refine AA fun a W hg hop=>?_;have h0:_=_:=hq hop 1;have h0':=tg h0;refine⟨_,?_,rfl⟩;simp only[execOp,h0];go_simp
  ·refine AA fun a W hg hop=>?_;have h0:_=_:=hq hop 11;have h0':=tg h0;have c1:W.cell? ⟨w.heap.size,4,none⟩=some (x.user):=by rw[AB hg.2.1 4];rfl
   refine⟨_,?_,rfl⟩;simp only[execOp,h0];go_simp
  ·refine AA fun a W hg hop=>?_;have h0:_=_:=hq hop 1;have h0':=tg h0;refine⟨_,?_,rfl⟩;simp only[execOp,h0];go_simp
  ·refine AA fun a W hg hop=>?_;have h0:_=_:=hq hop 13;have h0':=tg h0;have c1:W.cell? ⟨w.heap.size,5,none⟩=some (x.pass):=by rw[AB hg.2.1 5];rfl
   refine⟨_,?_,rfl⟩;simp only[execOp,h0];go_simp
  ·refine AA fun a W hg hop=>?_;have h0:_=_:=hq hop 1;have h0':=tg h0;refine⟨_,?_,rfl⟩;simp only[execOp,h0];go_simp
  ·refine AA fun a W hg hop=>?_;have h0:_=_:=hq hop 15;have h0':=tg h0;have c1:W.cell? ⟨w.heap.size,6,none⟩=some (x.host):=by rw[AB hg.2.1 6];rfl
   refine⟨_,?_,rfl⟩;simp only[execOp,h0];go_simp
  ·refine AA fun a W hg hop=>?_;have h0:_=_:=hq hop 1;have h0':=tg h0;refine⟨_,?_,rfl⟩;simp only[execOp,h0];go_simp
  ·refine AA fun a W hg hop=>?_;have h0:_=_:=hq hop 17;have h0':=tg h0;have c1:W.cell? ⟨w.heap.size,7,none⟩=some (.int .i64 x.port):=by rw[AB hg.2.1 7];rfl
   refine⟨_,?_,rfl⟩;simp only[execOp,h0];go_simp
  ·refine AA fun a W hg hop=>?_;have h0:_=_:=hq hop 1;have h0':=tg h0;refine⟨_,?_,rfl⟩;simp only[execOp,h0];go_simp
  ·refine AA fun a W hg hop=>?_;have h0:_=_:=hq hop 19;have h0':=tg h0;have c1:W.cell? ⟨w.heap.size,8,none⟩=some (x.ps):=by rw[AB hg.2.1 8];rfl
   refine⟨_,?_,rfl⟩;simp only[execOp,h0];go_simp
  ·refine AG ?_ ?_ ?_ ?_
   ·exact fun t v w1 w2 k h=>Ny w x u t v w1 w2 k h
   ·exact fun j w1 w2 k h=>Nx w x u j w1 w2 k h
   ·exact hGl
   intro a W hg hop;have h0:_=_:=hq hop 20;have h0':=tg h0;have hz:=hg.2.2;refine⟨20,#[x.ps],?_,(IT φ x.ps u.ps w W hg.1 HX.out.ps).mono ?_⟩
   ·simp only[execOp,h0];go_simp
   ·rintro e w' ⟨v',rfl,hk,hle⟩;exact⟨v',rfl,hle,KrS.monoU hk (by obtain⟨cs,_,h⟩:=hz;have:=AQ h;omega)⟩
  ·refine AA fun a W hg hop=>?_;have h0:_=_:=hq hop 1;have h0':=tg h0;refine⟨_,?_,rfl⟩;simp only[execOp,h0];go_simp
  ·refine AA fun a W hg hop=>?_;have h0:_=_:=hq hop 22;have h0':=tg h0;have c1:W.cell? ⟨w.heap.size,9,none⟩=some (x.hs):=by rw[AB hg.2.1 9];rfl
   refine⟨_,?_,rfl⟩;simp only[execOp,h0];go_simp
  ·refine AG ?_ ?_ ?_ ?_
   ·exact fun t v w1 w2 k h=>Ny w x u t v w1 w2 k h
   ·exact fun j w1 w2 k h=>Nx w x u j w1 w2 k h
   ·exact hGl
   intro a W hg hop;have h0:_=_:=hq hop 23;have h0':=tg h0;have hz:=hg.2.2;refine⟨20,#[x.hs],?_,(IT φ x.hs u.hs w W hg.1 HX.out.hs).mono ?_⟩
   ·simp only[execOp,h0];go_simp
   ·rintro e w' ⟨v',rfl,hk,hle⟩;exact⟨v',rfl,hle,KrS.monoU hk (by obtain⟨cs,_,h⟩:=hz;have:=AQ h;omega)⟩
  ·refine AA fun a W hg hop=>?_;have h0:_=_:=hq hop 4;have h0':=tg h0;have h1:_=_:=hq hop 6;have h1':=tg h1;have h2:_=_:=hq hop 8;have h2':=tg h2;have h3:_=_:=hq hop 10;have h3':=tg h3;have h4:_=_:=hq hop 12;have h4':=tg h4;have h5:_=_:=hq hop 14;have h5':=tg h5;have h6:_=_:=hq hop 16;have h6':=tg h6;have h7:_=_:=hq hop 18;have h7':=tg h7
   have k1:KrS w W (w.heap.size+2) (a.eval (.tmp 21)) u.ps:=(hq hop 21);have k2:KrS w W (w.heap.size+2) (a.eval (.tmp 24)) u.hs:=(hq hop 24);generalize hy1:a.eval (.tmp 21)=y1 at k1;generalize hy2:a.eval (.tmp 24)=y2 at k2;have hy1':=tg hy1;have hy2':=tg hy2;refine⟨.agg (uoR x y1 y2),?_,y1,y2,rfl,k1,k2⟩;unfold uoR;obtain⟨A1,c1,e1⟩:=k1.shapeU;obtain⟨A2,c2,e2⟩:=k2.shapeU
   obtain⟨_,_,q0,_⟩:=As HX.out.scheme.1;obtain⟨_,_,q1,_⟩:=As HX.out.raw.1;obtain⟨_,_,q2,_⟩:=As HX.out.user.1;obtain⟨_,_,q3,_⟩:=As HX.out.pass.1;obtain⟨_,_,q4,_⟩:=As HX.out.host.1;rw[q0]at h0 h0'⊢;rw[q1]at h1 h1'⊢;rw[q2]at h4 h4'⊢;rw[q3]at h5 h5'⊢;rw[q4]at h6 h6'⊢;subst e1 e2;simp only[execOp,h0,h1,h2,h3,h4,h5,h6,h7,hy1,hy2];go_simp
  ·refine GrowStep.store ?_ rfl;intro a W hg hop;have h1:_=_:=hq hop 2;obtain⟨pv,hv,h2,k1,k2⟩:∃pv hv,a.eval (.tmp 25)= .agg (uoR x pv hv)∧KrS w W (w.heap.size+2) pv u.ps∧KrS w W (w.heap.size+2) hv u.hs:=hq hop 25;obtain⟨h3,h4,cs,h5,h6⟩:=hg;have hk:=Bd W (w.heap.size+1) (uoR x pv hv);have hone:(uoR x pv hv).all (·.oneCell')=true:=Oa HX.out k1.oneU k2.oneU
   have hst:=run_storeVar_row (P:=Tryz.prog) W (w.heap.size+1) 35 35 cs (uoR x pv hv) h6 Gx h5 hone;have hkr:∀v l,KrS w W (w.heap.size+2) v l→KrS w (W.setRow (w.heap.size+1) (uoR x pv hv)) (w.heap.size+2) v l:=fun v l h=>h.kp hk (by omega)
   refine⟨W.setRow (w.heap.size+1) (uoR x pv hv),?_,⟨Below.trans h3 (hk.below (by omega) h3.size),hk.heap (by omega) h4,_,rfl,setRow_heap W _ _ _ _ _ h6⟩,fun t v hh=>?_,fun _ _ h=>⟨pv,hv,setRow_heap W _ _ _ _ _ h6,hkr _ _ k1,hkr _ _ k2⟩,⟨pv,hv,setRow_heap W _ _ _ _ _ h6,hkr _ _ k1,hkr _ _ k2⟩⟩
   ·simp only[execOp,h1,h2,Instr.storeAt,Instr.sureAddr,Sem.run_bind,Sem.run_pure,Result.andThen,hst]
   ·unfold uoS at hh⊢;split at hh<;>first|exact hh|exact hkr _ _ hh|(obtain⟨a1,a2,e,b1,b2⟩:=hh;exact⟨a1,a2,e,hkr _ _ b1,hkr _ _ b2⟩)
 case hend=>
  intro v WX hg hS hZ;obtain⟨pv,hv,hb,k1,k2⟩:=hZ 23 _ rfl rfl;have HB:=Hi hb;have K1:=Hi k1;have K2:=Hi k2;have HLE:=Hi hg.1;clear hS hZ hg hb k1 k2;simp only[Aj,Act.put,List.setIfInBounds_toArray,List.set_cons_zero,List.set_cons_succ];go_wp2;refine bodyPost_ret (results_cell_row rfl _ _ (w.heap.size+1) 35 _ (0,0) _ rfl HB.out Tryz.underlying35 rfl Gx) rfl ?_
  exact⟨⟨x.scheme,x.raw,x.wild,x.slash,x.user,x.pass,x.host,x.port,pv,hv⟩,rfl,⟨⟨HX.out.scheme.1.le HLE.out,fun _ _=>trivial⟩,⟨HX.out.raw.1.le HLE.out,fun _ _=>trivial⟩,HX.out.wild,HX.out.slash,⟨HX.out.user.1.le HLE.out,fun _ _=>trivial⟩,⟨HX.out.pass.1.le HLE.out,fun _ _=>trivial⟩,⟨HX.out.host.1.le HLE.out,fun _ _=>trivial⟩,HX.out.port,K1.out.kq HLE.out hpl,K2.out.kq HLE.out hhl⟩,HLE.out,fun g hg=>(by obtain⟨xs,h1,_⟩:=K1.out;have:=(AK h1 g hg).1;omega),fun g hg=>(by obtain⟨xs,h1,_⟩:=K2.out;have:=(AK h1 g hg).1;omega)⟩
end Go.Proofs.YtejhpdcjafbklaaGreatDoor
