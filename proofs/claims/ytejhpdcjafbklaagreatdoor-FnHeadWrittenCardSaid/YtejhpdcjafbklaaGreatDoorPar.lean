/- The law FnHeadWritten: Laid Row0 Low Par. -/
import Derived.Test.YtejhpdcjafbklaaGreatDoorCards
import Derived.Test.YtejhpdcjafbklaaGreatDoorTie
import Derived.ProofKit
import Derived.OpenShut
import Derived.LaidMore
import Derived.Lib.LaidU8
import Derived.Stop.LaidErr
import Derived.Stop.Joined
import Derived.Deep.DeepHandedRow
import Derived.Test.YtejhpdcjafbklaaGreatDoorShelf
set_option linter.all false
set_option maxRecDepth 100000
set_option maxHeartbeats 2000000
namespace Go.Proofs.YtejhpdcjafbklaaGreatDoor
open Go.RowKit
structure BW(w:World):Prop where
 pow:Lib.TabIs Tryz.prog w "internal/strconv.uint64pow10" .u64 Lib.pow10Tab
 syn:∃tp p,w.var? Tryz.prog "strconv.ErrSyntax" =some #[.iface tp p]
 rng:∃tp p,w.var? Tryz.prog "strconv.ErrRange" =some #[.iface tp p]
 white:Lib.WhiteTab 5 w
 z0:w.cell? ⟨4,0,none⟩=some (.pointer none)
 z4:∃b o,w.cell? ⟨8,0,none⟩=some (.pointer (some ⟨b,o,none⟩))∧w.cell? ⟨b,o,none⟩=some (.bool false)∧w.cell? ⟨b,o+1,none⟩=some (.string (st []))
 z6:∃b o,w.cell? ⟨9,0,none⟩=some (.pointer (some ⟨b,o,none⟩))∧w.cell? ⟨b,o,none⟩=some (.bool true)∧w.cell? ⟨b,o+1,none⟩=some (.string (st []))
theorem KW{w w':World}(h:Le w w'){n:String}{cs:Array Value}(hv:w.var? Tryz.prog n=some cs):w'.var? Tryz.prog n=some cs:=by
 unfold World.var? at hv⊢;cases hg:(Tryz.prog).globalNamed n with
 |none=>simp[hg]at hv
 |some g=>
  simp only[hg,Option.bind_some]at hv⊢;have hlt:g<w.heap.size:=by
   rcases Nat.lt_or_ge g w.heap.size with h'|h'
   ·exact h'
   ·simp[Array.getElem?_eq_none h']at hv
  rw[h.block g hlt];exact hv
theorem BW.le{w w':World}(h:BW w)(k:Le w w'):BW w' where
 pow:=KW k h.pow
 syn:=by obtain⟨tp,p,e⟩:=h.syn;exact⟨tp,p,KW k e⟩
 rng:=by obtain⟨tp,p,e⟩:=h.rng;exact⟨tp,p,KW k e⟩
 white:=WhiteTab_below h.white k
 z0:=k.cell h.z0
 z4:=by obtain⟨b,o,e1,e2,e3⟩:=h.z4;exact⟨b,o,k.cell e1,k.cell e2,k.cell e3⟩
 z6:=by obtain⟨b,o,e1,e2,e3⟩:=h.z6;exact⟨b,o,k.cell e1,k.cell e2,k.cell e3⟩
def Nq(l:Tx)(w:World)(e:Ending)(w':World):Prop:=
 Le w w'∧((∃v,Lib.atoiAll l= .ok v∧e= .returned (.tuple #[.int .i64 v,.nilIface]))∨
  ((∀v,Lib.atoiAll l≠.ok v)∧∃n a,-9223372036854775808≤n∧n≤9223372036854775807∧e= .returned (.tuple #[.int .i64 n,.iface 240 (.pointer (some a))])))
theorem MO(s:ByteArray)(w:World)(hs:s.size≤1099511627776)(hL:BW w):Calls Tryz.prog 140 #[.string s] w (Nq (bs s) w):=by
 have hb:bs s=s.data.toList:=rfl;rcases h:Lib.atoiAll (bs s)with v|_|_
 ·refine(Tryz.strconv_Atoi_ok s (by omega) v h w).mono fun e w' ⟨he,hw⟩=>⟨?_,.inl ⟨v,h,he⟩⟩;rcases hw with rfl|⟨t,rfl⟩
  ·exact AC _
  ·exact LR w _ t
 ·obtain⟨tp,p,hv⟩:=hL.syn;refine(Tryz.strconv_Atoi_syntax_var s (by omega) h tp p w hv).mono fun e w' ⟨N,he,_,_,hb⟩=>⟨hb,.inr ⟨fun v hv=>(by rw[h]at hv;cases hv),0,_,by omega,by omega,he⟩⟩
 ·obtain⟨tp,p,hv⟩:=hL.rng;have:=Lib.atoiSat_bounds s.data.toList;refine(Tryz.strconv_Atoi_range_var s (by omega) h tp p w hv).mono fun e w' ⟨N,he,_,_,hb⟩=>⟨hb,.inr ⟨fun v hv=>(by rw[h]at hv;cases hv),_,_,this.1,this.2,he⟩⟩
theorem LS(w:World)(n:Nat)(os:Array Obj):Le w (Sort.grow (w.drewN n) os):=
 (AC w).drewN n |>.trans ⟨rfl,rfl,rfl,by simp[Sort.grow],fun k hk=>by
  show((w.drewN n).heap++os)[k]? =(w.drewN n).heap[k]?;rw[Array.getElem?_append_left hk]⟩
theorem Fl(n:Int)(w:World)(h0: -9223372036854775808≤n)(h1:n≤9223372036854775807)(hL:BW w):
 Calls Tryz.prog 92 #[.int .i64 n] w fun e w'=>e= .returned (.string (st (Lib.itoa n)))∧Le w w':=
 (Tryz.strconv_Itoa n h0 h1 w hL.pow).mono fun e w' ⟨he,k,os,hw⟩=>⟨he,hw▸LS w k os⟩
theorem cut_c(s p:ByteArray)(w:World):Calls Tryz.prog 109 #[.string s,.string p] w fun e w'=>
 e= .returned (.tuple #[.string (st (Lib.trimPrefix (bs s) (bs p))),.bool (Lib.hasPrefix (bs s) (bs p))])∧w=w':=
 (Tryz.strings_CutPrefix s p w).mono fun e w' ⟨he,hw⟩=>⟨he,hw.symm⟩
def spB(c:UInt8):Bool:=(9≤c&&c≤13)||c==32
theorem Jq(w:World)(hL:BW w):PredGrows Tryz.prog 149 #[] Lib.isSpaceR w:=fun W x hx hb=>by
 refine(Tryz.unicode_IsSpace_any (x:Int) W (by omega) (by omega) (hL.le hb).white).mono fun e w' ⟨he,hw⟩=>⟨?_,hw⟩;rw[he,Lib.isSpaceZ_nat]
def CP(s t:ByteArray):Prop:=(∃k,k≤s.size∧bs t=(bs s).drop k)∧(∀x r,bs s=x::r→x.toNat<128→spB x=false→t=s)∧(bs s=[]→t=s)
theorem Of(s:ByteArray):CP s (Lib.trimLeftF Lib.isSpaceR s):=by
 have hl:=BD s;refine⟨?_,?_,?_⟩
 ·unfold Lib.trimLeftF;rcases Lib.idxFunc_range Lib.isSpaceR false s with h|⟨h1,h2⟩
  ·rw[if_pos h];exact⟨s.size,NL _,by rw[List.drop_of_length_le (by omega)];rfl⟩
  ·rw[if_neg (by omega)];refine⟨(Lib.idxFunc Lib.isSpaceR false s).toNat,by omega,?_⟩;rw[Ao,List.take_of_length_le (by omega)]
 ·intro x r hx ha hsp;have hpos:0<s.size:=by rw[←hl,hx];simp
  obtain⟨n,hn⟩:∃n,s.size=n+1:=⟨s.size-1,by omega⟩;have hd:Utf8.decode s 0=(x.toNat,1):=by
   rcases Ev s 0 hpos with⟨h',h1,h2⟩|⟨h1,h2,h3,h4,h5⟩
   ·rw[h2];simp[hx]
   ·have h6:=h5 0 (by omega) (by omega) (by omega);simp only[hx,List.getElem_cons_zero]at h6;omega
  have hz:Lib.isSpaceR x.toNat=false:=by
   unfold spB at hsp;simp only[Bool.or_eq_false_iff,Bool.and_eq_false_iff,decide_eq_false_iff_not,UInt8.le_iff_toNat_le,beq_eq_false_iff_ne,ne_eq]at hsp;have e32:¬x.toNat=32:=fun e=>hsp.2 (UInt8.toNat_inj.1 (by rw[e];rfl));have e9:(9:UInt8).toNat=9:=rfl;have e13:(13:UInt8).toNat=13:=rfl;rw[e9,e13]at hsp;unfold Lib.isSpaceR
   simp only[Bool.or_eq_false_iff,Bool.and_eq_false_iff,decide_eq_false_iff_not,beq_eq_false_iff_ne,ne_eq];omega
  have hi:Lib.idxFunc Lib.isSpaceR false s=0:=by
   unfold Lib.idxFunc;rw[show Lib.idxFuncFrom Lib.isSpaceR false s s.size 0=Lib.idxFuncFrom Lib.isSpaceR false s (n+1) 0 from by rw[hn]];simp only[Lib.idxFuncFrom,if_pos hpos,hd,hz,if_true];rfl
  unfold Lib.trimLeftF;rw[hi,if_neg (by omega)];rw[show(0:Int).toNat=0 from rfl,Hm,List.take_of_length_le (by omega)];exact FB s
 ·intro h0;have hz:s.size=0:=by rw[←hl,h0];rfl
  have hi:Lib.idxFunc Lib.isSpaceR false s= -1:=by
   unfold Lib.idxFunc;exact Lib.idxFuncFrom_end _ _ _ _ _ (by omega)
  unfold Lib.trimLeftF;rw[hi,if_pos rfl];exact MM (by rw[h0];rfl)
theorem QT(s:ByteArray)(w:World)(hL:BW w):Calls Tryz.prog 148 #[.string s,.func (.func 149) #[] #[]] w fun e w'=>∃t,CP s t∧e= .returned (.string t)∧Le w w':=
 (Tryz.strings_TrimLeftFunc_grows 149 #[] (fun args w=>by kernel_rfl) Lib.isSpaceR s w (Jq w hL)).mono fun e w' ⟨he,hw⟩=>⟨_,Of s,he,hw⟩
end Go.Proofs.YtejhpdcjafbklaaGreatDoor
namespace Go.Proofs.YtejhpdcjafbklaaGreatDoor
open Go.ChangeShapes Go.WideShapes Go.ChangeAt Go.RowKit
theorem knob:ownKnob Tryz.prog.godebug=none:=by kernel_rfl
theorem NC:laidOutB Tryz.prog=true:=by kernel_rfl
theorem gPow:Tryz.prog.globalNamed "internal/strconv.uint64pow10" =some 0:=by kernel_rfl
theorem yPow:(Tryz.prog.globals[0]?).map (·.type)=some 197:=by kernel_rfl
theorem cPow:Tryz.prog.cellsOf 197=20:=by kernel_rfl
theorem cU64:Tryz.prog.cellsOf 108=1:=by kernel_rfl
theorem cU8:Tryz.prog.cellsOf 5=1:=by kernel_rfl
theorem bU8:Tryz.prog.bytesOf 5=1:=by kernel_rfl
theorem Qf:(Rows.laid_internal_strconv_uint64pow10:DataW Unit)=Lib.tabData .u64 Lib.pow10Tab:=by
 unfold Rows.laid_internal_strconv_uint64pow10 Lib.tabData Lib.pow10Tab;rfl
theorem Qe{W:World}(h:Lib.VarReads Tryz.prog W "internal/strconv.uint64pow10" Rows.laid_internal_strconv_uint64pow10):Lib.TabIs Tryz.prog W "internal/strconv.uint64pow10" .u64 Lib.pow10Tab:=by
 obtain⟨g,t,cs,fuel,p,hg,hty,hvar,hd⟩:=h;obtain rfl:=Option.some.inj (gPow.symm.trans hg);obtain rfl:=Option.some.inj (yPow.symm.trans hty);rw[Qf]at hd;have:=Lib.cells_of_tab Tryz.underlying197 Tryz.underlying108 cU64 cPow hd;unfold Lib.TabIs;rw[hvar,←this]
theorem Qa(u:TypeId)(h:Tryz.prog.typeName? 3 u=some "*errors.errorString"):u=166:=
 typeName_ptr_named (nm:= "errors.errorString") (by rw[show "*" ++ "errors.errorString" = "*errors.errorString" from rfl];kernel_rfl) (by kernel_rfl) (by decide) u (by rw[show "*" ++ "errors.errorString" = "*errors.errorString" from rfl];exact h)
theorem cEs:Tryz.prog.cellsOf 168=1:=by kernel_rfl
theorem cStr:Tryz.prog.cellsOf 9=1:=by kernel_rfl
theorem gSyn:Tryz.prog.globalNamed "strconv.ErrSyntax" =some 6:=by kernel_rfl
theorem ySyn:(Tryz.prog.globals[6]?).map (·.type)=some 86:=by kernel_rfl
theorem gRng:Tryz.prog.globalNamed "strconv.ErrRange" =some 7:=by kernel_rfl
theorem yRng:(Tryz.prog.globals[7]?).map (·.type)=some 86:=by kernel_rfl
theorem gz0:Tryz.prog.globalNamed "net/netip.z0" =some 4:=by kernel_rfl
theorem yz0:(Tryz.prog.globals[4]?).map (·.type)=some 223:=by kernel_rfl
theorem gz4:Tryz.prog.globalNamed "net/netip.z4" =some 8:=by kernel_rfl
theorem yz4:(Tryz.prog.globals[8]?).map (·.type)=some 223:=by kernel_rfl
theorem gz6:Tryz.prog.globalNamed "net/netip.z6noz" =some 9:=by kernel_rfl
theorem yz6:(Tryz.prog.globals[9]?).map (·.type)=some 223:=by kernel_rfl
theorem cHan:Tryz.prog.cellsOf 223=1:=by kernel_rfl
theorem cDet:Tryz.prog.cellsOf 235=2:=by kernel_rfl
theorem cPtr:Tryz.prog.cellsOf 221=1:=by kernel_rfl
theorem P1:Tryz.prog.cellsOf 4=1:=by kernel_rfl
theorem list1{l:List Value}(h:l.length=1):∃v,l=[v]:=by
 match l,h with
 |[v],_=>exact⟨v,rfl⟩
theorem PL{l:List Value}(h:l.length=2):∃v u,l=[v,u]:=by
 match l,h with
 |[v,u],_=>exact⟨v,u,rfl⟩
theorem QV{s:ByteArray}(h:s.data.toList=[]):s=st []:=by rw[←FB s];unfold bs;rw[h]
theorem OE{W:World}{n:String}{g:Nat}{d:DataW Unit}(hg0:Tryz.prog.globalNamed n=some g)(hy0:(Tryz.prog.globals[g]?).map (·.type)=some 223)
 (h:Lib.VarReads Tryz.prog W n d):∃v y fuel,W.cell? ⟨g,0,none⟩=some v∧d= .agg [y.1]∧DataW.trod (fun _=>()) Tryz.prog W 0 (fun _=>true) false fuel 221 [v]=some y:=by
 obtain⟨g',t,cs,fuel,p,hg,hty,hvar,hd⟩:=h;obtain rfl:=Option.some.inj (hg0.symm.trans hg);obtain rfl:=Option.some.inj (hy0.symm.trans hty);obtain⟨y0,n,hx,hlen,h0⟩:=ChangeShapes.trod_struct1 Tryz.underlying223 hd;rw[cHan]at hlen;obtain⟨l⟩:=cs;obtain⟨v,rfl⟩:=list1 hlen;refine⟨v,y0,n,?_,?_,?_⟩
 ·simpa using World.var?_cell hg0 hvar 0
 ·injection hx
 ·have e:([v].drop 0).take (Tryz.prog.cellsOf 221)=[v]:=by rw[cPtr];rfl
  rw[←e];exact h0
theorem z0_of{W:World}(h:Lib.VarReads Tryz.prog W "net/netip.z0" Rows.laid_net_netip_z0):W.cell? ⟨4,0,none⟩=some (.pointer none):=by
 obtain⟨v,y,fuel,hc,hd,hf⟩:=OE gz0 yz0 h;rcases DataW.trod_pointer Tryz.underlying221 hf with⟨hcs,_⟩|⟨a,cs',y',n,_,hcs,hx,_,_⟩
 ·injection hcs with e;rw[hc,e]
 ·exfalso;rw[hx]at hd;unfold Rows.laid_net_netip_z0 at hd;injection hd with hd
  injection hd with hd
  cases hd
theorem QI{W:World}{n:String}{g:Nat}{b:Bool}(hg0:Tryz.prog.globalNamed n=some g)(hy0:(Tryz.prog.globals[g]?).map (·.type)=some 223)
 (h:Lib.VarReads Tryz.prog W n (.agg [.ptr (.agg [.lit (.bool b),.lit (.string [])])])):∃k o,W.cell? ⟨g,0,none⟩=some (.pointer (some ⟨k,o,none⟩))∧W.cell? ⟨k,o,none⟩=some (.bool b)∧W.cell? ⟨k,o+1,none⟩=some (.string (st [])):=by
 obtain⟨v,y,fuel,hc,hd,hf⟩:=OE hg0 hy0 h;rcases DataW.trod_pointer Tryz.underlying221 hf with⟨_,hx⟩|⟨a,cs',y',n,_,hcs,hx,hcells,hy⟩
 ·exfalso;rw[hx]at hd;injection hd with hd
  injection hd with hd
  cases hd
 ·injection hcs with e
  subst e;rw[hx]at hd;injection hd with hd
  injection hd with hd _
  injection hd with hd
  rw[cDet]at hcells;obtain⟨_,hl',hc'⟩:=World.cells?_some hcells;obtain⟨y0,y1,n',hx2,_,h0,h1⟩:=ChangeShapes.trod_struct2 Tryz.underlying235 hy;rw[hx2]at hd;injection hd with hd
  injection hd with e0 e1
  injection e1 with e1 _
  obtain⟨c0,c1,rfl⟩:=PL hl';have t0:([c0,c1].drop 0).take (Tryz.prog.cellsOf 4)=[c0]:=by rw[P1];rfl
  have t1:([c0,c1].drop 1).take (Tryz.prog.cellsOf 9)=[c1]:=by rw[cStr];rfl
  have h0':DataW.trod (fun _=>()) Tryz.prog W 0 (fun _=>true) false n' 4 [c0]=some y0:=by rw[←t0];exact h0
  have h1':DataW.trod (fun _=>()) Tryz.prog W 0 (fun _=>true) false n' 9 [c1]=some y1:=by rw[←t1];exact h1
  obtain⟨b',hb,hb2⟩:=DataW.trod_bool Tryz.underlying4 h0';obtain⟨s,hs,hs2,_⟩:=DataW.trod_string Tryz.underlying9 h1';injection hb with hb
  injection hs with hs
  subst hb;subst hs;rw[hb2]at e0;rw[hs2]at e1;injection e0 with e0
  injection e0 with e0
  injection e1 with e1
  injection e1 with e1
  have k0:=hc' 0 (by omega);have k1:=hc' 1 (by omega);have hsp:=World.cell?_spot k0;obtain⟨kb,ko,spot⟩:=a;have hspot:spot=none:=by simpa[Addr.add]using hsp
  subst hspot;refine⟨kb,ko,hc,?_,?_⟩
  ·have:=k0;rw[add_plain]at this;rw[e0];simpa using this
  ·have:=k1;rw[add_plain]at this;rw[←QV e1.symm];simpa using this
theorem Mi:(Rows.laid_unicode_White_Space:DataW Unit)=Lib.whiteData:=by
 unfold Rows.laid_unicode_White_Space Lib.whiteData;rfl
theorem Mh{W:World}(h:Lib.VarReads Tryz.prog W "unicode.White_Space" Rows.laid_unicode_White_Space):Lib.WhiteTab 5 W:=by
 rw[Mi]at h;exact whiteTab_of_reads Tryz.lays199 ⟨by kernel_rfl,by kernel_rfl,by kernel_rfl,by kernel_rfl,by kernel_rfl,by kernel_rfl,by kernel_rfl,by kernel_rfl⟩ h
theorem N6{W:World}{n:String}{g:Nat}{text:List UInt8}{r:List (String×DataW Unit)}(h:laidMet Tryz.prog ((n,.iface "*errors.errorString" (.ptr (.agg [.lit (.string text)])))::r) W)
 (hg:Tryz.prog.globalNamed n=some g)(hy:(Tryz.prog.globals[g]?).map (·.type)=some 86):∃tp p,W.var? Tryz.prog n=some #[.iface tp p]:=by
 obtain⟨a,s,hv,_⟩:=laid_sentinel h hg hy Tryz.underlying86 Qa Tryz.underlying166 Tryz.underlying168 rfl rfl Tryz.underlying9 cEs cStr;exact⟨_,_,hv⟩
theorem PN{W:World}{lst r1 r2:List (String×DataW Unit)}(h:laidMet Tryz.prog lst W)
 (hp:("internal/strconv.uint64pow10",Rows.laid_internal_strconv_uint64pow10)∈lst)(hw:("unicode.White_Space",Rows.laid_unicode_White_Space)∈lst)
 (h0:("net/netip.z0",Rows.laid_net_netip_z0)∈lst)(h4:("net/netip.z4",Rows.laid_net_netip_z4)∈lst)(h6:("net/netip.z6noz",Rows.laid_net_netip_z6noz)∈lst)
 (hr:laidMet Tryz.prog (("strconv.ErrRange",Rows.laid_strconv_ErrRange)::r1) W)(hs:laidMet Tryz.prog (("strconv.ErrSyntax",Rows.laid_strconv_ErrSyntax)::r2) W):BW W where
 pow:=Qe (Lib.laidMet.reads h hp)
 syn:=N6 hs gSyn ySyn
 rng:=N6 hr gRng yRng
 white:=Mh (Lib.laidMet.reads h hw)
 z0:=z0_of (Lib.laidMet.reads h h0)
 z4:=QI gz4 yz4 (Lib.laidMet.reads h h4)
 z6:=QI gz6 yz6 (Lib.laidMet.reads h h6)
section
variable {H:Type} {enc:TypeId×Value→H}
theorem u8_wf{z:Int}(h:(Lit.int .u8 z).wf=true):0≤z∧z≤255:=by
 have e1:IntKind.u8.min=0:=rfl;have e2:IntKind.u8.max=255:=rfl;simpa[Lit.wf,e1,e2]using h
theorem CL{W:World}{held:Bool}{fuel:Nat}{v:Value}{x:DataW H×List MemPlace}(hf:DataW.trod enc Tryz.prog W 0 (fun _=>true) held fuel 22 [v]=some x)
 (hw:(x.1.weights Tryz.prog 22).all (·≤reachBytes)=true):∃l,Bv W v l:=by
 rcases open_ints Tryz.underlying22 Tryz.underlying5 cU8 hf with⟨hcs,hx⟩|⟨a,len,cap,zs,hcs,_,hl,hm,hz,hx,hcell,hwz⟩
 ·injection hcs with e
  subst e;exact⟨[],Bv.nil W⟩
 ·injection hcs with e
  subst e;simp only[if_true]at hz;have hlen:zs.length*1≤reachBytes:=by
   rw[hx]at hw;have h1:=List.all_eq_true.1 hw (((lits (H:=H) .u8 (zs.take len)).length+(lits (H:=H) .u8 (zs.drop len)).length)*Tryz.prog.bytesOf 5) (by simp[DataW.weights,Tryz.underlying22]);simp only[lits,List.length_map,List.length_take,List.length_drop,bU8,decide_eq_true_eq]at h1;omega
  have hr:reachBytes=140737488351232:=rfl;have hmx:maxLen=9223372036854775807:=rfl;refine⟨(zs.take len).map fun z=>UInt8.ofNat z.toNat,some a,cap,?_,?_,?_,?_,?_⟩
  ·rw[List.length_map,List.length_take,Nat.min_eq_left (by omega)]
  ·rw[List.length_map,List.length_take];omega
  ·omega
  ·rw[List.length_map,List.length_take];omega
  ·intro h0;rw[List.length_map,List.length_take]at h0;have hpos:0<zs.length:=by omega
   obtain⟨b,o,spot⟩:=a;have hspot:spot=none:=by simpa[Addr.add]using World.cell?_spot (hcell 0 hpos)
   subst hspot;refine⟨b,o,rfl,fun j hj=>?_⟩;rw[List.length_map,List.length_take]at hj;have hj':j<zs.length:=by omega
   have hc:=hcell j hj';rw[add_plain]at hc;have hz2:=u8_wf (hwz zs[j] (List.getElem_mem hj'));rw[hc];have hg:zs.getD j 0=zs[j]:=by simp[List.getD,List.getElem?_eq_getElem hj']
   rw[hg];have he:((zs.take len).map fun z=>UInt8.ofNat z.toNat)[j]'(by rw[List.length_map,List.length_take];omega)=UInt8.ofNat zs[j].toNat:=by simp
   rw[he];have hn:zs[j].toNat<256:=by omega
   have:((UInt8.ofNat zs[j].toNat).toNat:Int)=zs[j]:=by
    have e1:(UInt8.ofNat zs[j].toNat).toNat=zs[j].toNat%256:=by simp
    rw[e1,Nat.mod_eq_of_lt hn];omega
   rw[this]
theorem EA:∀{ts:List TypeId} (hts:∀t∈ts,Tryz.prog.readableRec t=true∧t<Tryz.prog.types.size) {vs:List Value} {ds:List (DataW H)} {p:List MemPlace} {W W':World}
 (h:DataW.TrodAll enc Tryz.prog W 0 (fun _=>true) true ts vs ds p) (hb:Le W W') (hlt:∀x∈p,x.block<W.heap.size) (sp:Nat→Bool) (hsp:∀x∈p,sp x.block=true),DataW.TrodAll enc Tryz.prog W' 0 sp true ts vs ds p
 |[],_,vs,ds,p,W,W',h,_,_,_,_=>by
  obtain⟨rfl,rfl,rfl⟩:=trodAll_nil h;exact trodAll_mk0
 |t::ts,hts,vs,ds,p,W,W',h,hb,hlt,sp,hsp=>by
  obtain⟨v,vs',d,ds',p1,q1,rfl,rfl,rfl,h1,h2⟩:=trodAll_cons h
  exact trodAll_cons_mk (WideElems.Trod_stays NC (hts t (List.mem_cons_self ..)).1 (hts t (List.mem_cons_self ..)).2 h1 (fun x hx=>hb.same (hlt x (List.mem_append_left _ hx))) (fun x hx=>hsp x (List.mem_append_left _ hx)))
   (EA (fun t' ht'=>hts t' (List.mem_cons_of_mem _ ht')) h2 hb (fun x hx=>hlt x (List.mem_append_right _ hx)) sp (fun x hx=>hsp x (List.mem_append_right _ hx)))
theorem LB{f:Func}{s:ChangeSpec}{W W':World}{args:Array Value}{ds gs:List (DataW H)}{before:List MemPlace}
 (hW:DataW.Whole enc Tryz.prog f.params.toList s.vars false W args.toList ds gs before)(hv:s.vars=[])(hr:f.resultTypes= #[4])
 (hs:s.fn H ds={results:=[.lit (.bool true)],args:=ds})(hts:∀t∈f.params.toList,Tryz.prog.readableRec t=true∧t<Tryz.prog.types.size)(hb:Le W W'):
 s.post enc Tryz.prog f false true false false W args (.bool true) W':=by
 have hW':=hW;obtain⟨p,q,hA,hV,rfl,hz,hn⟩:=hW;rw[hv]at hV;obtain⟨rfl,rfl⟩:=trodVars_none hV;have hlt:∀x∈p++[],x.block<W.heap.size:=fun x hx=>by simpa using hW'.lt x hx
 have hlt':∀x∈p,x.block<W.heap.size:=fun x hx=>hlt x (List.mem_append_left _ hx);have hres:∀(b:Nat) (sp:Nat→Bool) (hd:Bool),DataW.TrodAll enc Tryz.prog W' b sp hd f.resultTypes.toList ((Value.bool true).resultList f.resultTypes.size) (s.fn H (ds++[])).results []:=by
  intro b sp hd;rw[List.append_nil,hs,hr];exact trodAll_mk1 (shut_bool Tryz.underlying4 true)
 have hargs:∀sp:Nat→Bool,(∀x∈p++[],sp x.block=true)→DataW.TrodAll enc Tryz.prog W' 0 sp true f.params.toList args.toList (s.fn H (ds++[])).args p:=by
  intro sp hsp;rw[List.append_nil,hs];exact EA hts hA hb hlt' sp (fun x hx=>hsp x (List.mem_append_left _ hx))
 have hvars:∀sp:Nat→Bool,DataW.TrodVars enc Tryz.prog W' sp s.vars (s.fn H (ds++[])).vars []:=by
  intro sp;rw[List.append_nil,hs,hv];rfl
 refine⟨ds,[],p++[],[],p,[],hW',hres _ _ _,hargs _ (fun x hx=>by simpa using hlt x hx),hvars _,World.keptBut_mono (fun x hx=>⟨hx,Or.inr (List.mem_append.1 hx)⟩) (hb.frame (·∈p++[])),fun _=>?_⟩;have hok:Value.okWide Tryz.prog W' .any 0 4 (.bool true):=okWide_bool_mk Tryz.underlying4 true;have hok1:=ok_one (P:=Tryz.prog) (W':=W') (f:=f) (v:= .bool true) (t:=4) hr rfl hok
 refine⟨hok1,_,_,([]++p)++[],⟨[]++p,[],trodAll_append (hargs _ (fun _ _=>rfl)) (hres _ _ _),hvars _,rfl,?_,?_⟩,?_⟩
 ·intro b off hp;have hin:MemPlace.cell b off∈p++[]:=by simpa using hp
  rw[hb.frozen (hlt _ hin)];exact hz b off hin
 ·intro ha;cases ha
 ·intro x hx _;simpa using hx
end
end Go.Proofs.YtejhpdcjafbklaaGreatDoor
namespace Go.Proofs.YtejhpdcjafbklaaGreatDoor
open Go.RowKit
theorem ER(s:ByteArray)(w:World):Calls Tryz.prog 64 #[.string s] w fun e w'=>e= .returned (.iface 166 (.pointer (some ⟨w.heap.size,0,none⟩)))∧Le w w':=by
 go_enter Tryz.func64,Tryz.ntmps64;go_wp2;go_ret;exact⟨rfl,by go_grown⟩
def alB(c:Int):Bool:=decide ((97≤c∧c≤122)∨(65≤c∧c≤90))
theorem DP(x:UInt8):alB (x.toNat:Int)=FG x:=by
 rw[Bool.eq_iff_iff];simp only[alB,FG,decide_eq_true_eq,Bool.or_eq_true,Bool.and_eq_true,UInt8.le_iff_toNat_le];have e1:(97:UInt8).toNat=97:=rfl;have e2:(122:UInt8).toNat=122:=rfl;have e3:(65:UInt8).toNat=65:=rfl;have e4:(90:UInt8).toNat=90:=rfl;omega
theorem Lb(c:Int)(w:World):Calls Tryz.prog 90 #[.int .i32 c] w fun e w'=>e= .returned (.bool (alB c))∧w=w':=by
 by_cases h1:97≤c
 ·by_cases h2:c≤122
  ·have h:alB c=true:=by simp only[alB,decide_eq_true_eq];omega
   have H:=Hi h;clear h;go_enter Tryz.func90,Tryz.ntmps90;go_wp2;go_ret;exact⟨by rw[H.out];rfl,rfl⟩
  ·have h:alB c=false:=by simp only[alB,decide_eq_false_iff_not];omega
   have H:=Hi h;clear h;have e1:decide (c≤122)=false:=by simp;omega
   have e2:decide (c≤90)=false:=by simp;omega
   go_enter Tryz.func90,Tryz.ntmps90;go_wp2;all_goals (go_ret;exact⟨by rw[H.out];rfl,rfl⟩)
 ·by_cases h3:65≤c
  ·by_cases h4:c≤90
   ·have h:alB c=true:=by simp only[alB,decide_eq_true_eq];omega
    have H:=Hi h;clear h;go_enter Tryz.func90,Tryz.ntmps90;go_wp2;all_goals (go_ret;exact⟨by rw[H.out];rfl,rfl⟩)
   ·have h:alB c=false:=by simp only[alB,decide_eq_false_iff_not];omega
    have H:=Hi h;clear h;have e2:decide (c≤90)=false:=by simp;omega
    go_enter Tryz.func90,Tryz.ntmps90;go_wp2;all_goals (go_ret;exact⟨by rw[H.out];rfl,rfl⟩)
  ·have h:alB c=false:=by simp only[alB,decide_eq_false_iff_not];omega
   have H:=Hi h;clear h;go_enter Tryz.func90,Tryz.ntmps90;go_wp2;all_goals (go_ret;exact⟨by rw[H.out];rfl,rfl⟩)
def Bld(B b:Nat)(l:Tx)(w:World):Prop:=Lib.IsBuilderF 129 5 B b (Lib.byteCells l) w
def BFr(B b:Nat)(w w':World):Prop:=Below B w w'∧Lib.OthersKept 5 (some b) w w'
theorem BR(w:World):Bld w.heap.size w.heap.size [] (w.alloc (.cells #[.pointer none,.slice none 0 0] 129)):=Lib.IsBuilderF.of (Lib.fresh_isBuilder _ _ w)
theorem Bld.le{B b:Nat}{l:Tx}{w w':World}(h:Bld B b l w)(hb:Le w w'):Bld B b l w':=by
 have hk:w.grownBy w' none:=⟨hb.os,hb.tape,hb.output,hb.size,fun k hk _=>hb.block k hk⟩
 have one:∀p,Lib.BuilderAtF 129 5 B b p (Lib.byteCells l) w→Lib.BuilderAtF 129 5 B b p (Lib.byteCells l) w':=fun p h=>by
  have hlt:=h.lt;obtain⟨hB,v,hv,hown,hne⟩:=h;exact⟨hB,v,(hb.block b hlt).trans hv,hown.kept hk (Classical.em _),hne⟩
 exact h.elim (fun x=> .inl (one _ x)) (fun x=> .inr (one _ x))
theorem Bld.lt{B b:Nat}{l:Tx}{w:World}(h:Bld B b l w):b<w.heap.size:=h.elim (fun x=>x.lt) (fun x=>x.lt)
theorem Bld.ge{B b:Nat}{l:Tx}{w:World}(h:Bld B b l w):B≤b:=h.elim (fun x=>x.1) (fun x=>x.1)
theorem Hx(B b:Nat)(l:Tx)(s:ByteArray)(w:World)(h:Bld B b l w)(hl:l.length+s.size≤140737488355328):Calls Tryz.prog 107 #[.pointer (some ⟨b,0,none⟩),.string s] w fun e w'=>
 e= .returned (.tuple #[.int .i64 s.size,.nilIface])∧Bld B b (l++bs s) w'∧BFr B b w w':=by
 refine(Tryz.Builder_WriteString_k B b (Lib.byteCells l) s w h (by rw[Lib.byteCells_length];exact hl) (Nat.le_of_lt (Nat.lt_of_le_of_lt h.ge h.lt))).mono fun e w' ⟨he,h1,h2,h3⟩=>⟨he,?_,h2,h3⟩;rw[Lib.strCells_eq,←Lib.byteCells_append]at h1;exact .inr h1
theorem QJ(B b:Nat)(l:Tx)(c:Int)(x:UInt8)(w:World)(h:Bld B b l w)(hc:c=(x.toNat:Int))(hl:l.length+1≤140737488355328):Calls Tryz.prog 108 #[.pointer (some ⟨b,0,none⟩),.int .u8 c] w fun e w'=>
 e= .returned .nilIface∧Bld B b (l++[x]) w'∧BFr B b w w':=by
 refine(Tryz.Builder_WriteByte_k B b (Lib.byteCells l) c w h (by rw[Lib.byteCells_length];exact hl) (Nat.le_of_lt (Nat.lt_of_le_of_lt h.ge h.lt))).mono fun e w' ⟨he,h1,h2,h3⟩=>⟨he,?_,h2,h3⟩;rw[hc,show Lib.byteCells l++[Value.int .u8 (x.toNat:Int)]=Lib.byteCells (l++[x])from by rw[Lib.byteCells_append];rfl]at h1;exact .inr h1
theorem Bj(B b:Nat)(l:Tx)(w:World)(h:Bld B b l w):Calls Tryz.prog 70 #[.pointer (some ⟨b,0,none⟩)] w fun e w'=>
 e= .returned (.string (st l))∧Bld B b l w'∧BFr B b w w':=
 (Tryz.Builder_String_any_k B b l w h (Nat.le_of_lt (Nat.lt_of_le_of_lt h.ge h.lt))).mono fun e w' ⟨he,h1,h2,h3⟩=>⟨he,h1,h2,h3⟩
theorem P4(w0 w:World)(n:Int)(hw:w=w0.alloc (.cells #[.pointer none,.slice none 0 0] 129))(h0:0≤n)(hn:n≤281474976710656):Calls Tryz.prog 106 #[.pointer (some ⟨w0.heap.size,0,none⟩),.int .i64 n] w fun e w'=>
 e= .returned (.tuple #[])∧Bld w0.heap.size w0.heap.size [] w'∧Le w0 w':=by
 obtain⟨m,rfl⟩:=Int.eq_ofNat_of_zero_le h0;subst hw;refine(Tryz.Builder_Grow_fresh w0.heap.size w0.heap.size m _ (NL _) (heap_alloc_new w0 _) (by simp) (by omega)).mono fun e w' ⟨he,h1,h2⟩=>⟨he,.inr (Lib.BuilderAtF.of h1),(Below.alloc (AC w0) (NL _) _).trans h2⟩
theorem DS(l:Tx)(h:l.all (fun c=>97≤c&&c≤122)=true):l.map Bf=l:=by
 induction l with
 |nil=>rfl
 |cons x r ih=>
  simp only[List.all_cons,Bool.and_eq_true,decide_eq_true_eq]at h;have e:Bf x=x:=by
   unfold Bf;rw[if_neg];simp only[Bool.and_eq_true,decide_eq_true_eq,UInt8.le_iff_toNat_le,not_and];have h1:=UInt8.le_iff_toNat_le.1 h.1.1;have h2:=UInt8.le_iff_toNat_le.1 h.1.2;have e1:(97:UInt8).toNat=97:=rfl;have e2:(122:UInt8).toNat=122:=rfl;have e3:(65:UInt8).toNat=65:=rfl;have e4:(90:UInt8).toNat=90:=rfl;omega
  rw[List.map_cons,e,ih h.2]
theorem F6(x:UInt8):(97≤x&&x≤122)=decide (97≤(x.toNat:Int)∧(x.toNat:Int)≤122):=by
 rw[Bool.eq_iff_iff];simp only[Bool.and_eq_true,decide_eq_true_eq,UInt8.le_iff_toNat_le];have e1:(97:UInt8).toNat=97:=rfl;have e2:(122:UInt8).toNat=122:=rfl;omega
theorem FI(x:UInt8)(h1:65≤(x.toNat:Int))(h2:(x.toNat:Int)≤90):((Bf x).toNat:Int)=(x.toNat:Int)+(32):=by
 unfold Bf;rw[if_pos]
 ·have:=x.toNat_lt;rw[UInt8.toNat_add];have e:(32:UInt8).toNat=32:=rfl;rw[e];omega
 ·simp only[Bool.and_eq_true,decide_eq_true_eq,UInt8.le_iff_toNat_le];have e3:(65:UInt8).toNat=65:=rfl;have e4:(90:UInt8).toNat=90:=rfl;omega
theorem F5(x:UInt8)(h:¬(65≤(x.toNat:Int)∧(x.toNat:Int)≤90)):Bf x=x:=by
 unfold Bf;rw[if_neg];simp only[Bool.and_eq_true,decide_eq_true_eq,UInt8.le_iff_toNat_le,not_and];have e3:(65:UInt8).toNat=65:=rfl;have e4:(90:UInt8).toNat=90:=rfl;omega
theorem GE(s:ByteArray)(w:World)(hs:s.size≤1099511627776):Calls Tryz.prog 88 #[.string s] w fun e w'=>e= .returned (.string (st ((bs s).map Bf)))∧Le w w':=by
 have HL:=Hi (BD s);go_enter Tryz.func88,Tryz.ntmps88;go_wp2
 go_loopg [3] (s.size) (fun n nl wr=>∃p:Nat,n+p=s.size∧nl= .int .i64 (-1)∧Le w wr∧wr.heap[w.heap.size]? =some (.stringIter s p)∧((bs s).take p).all (fun c=>97≤c&&c≤122)=true)
 case atStart=>exact⟨0,by omega,rfl,(AC w).iter s 0,World.iter_heap _ _ _,rfl⟩
 case round=>
  obtain⟨p,hn,rfl,hle,hit,hq⟩:=hrel;have HQ:=Hi hq;have HLE:=Hi hle;have HN:gk+p≤s.size∧s.size≤gk+p:=by omega
  clear hn hq hle;by_cases hlt:p<s.size
  ·obtain⟨c,d,W1,hnx,hst,hit1,hW1⟩:=CY (P:=Tryz.prog) hit hlt;have HLE1:=Hi (hW1▸HLE.out.iterAt (NL _) s (p+d):Le w W1);have HST:=Hi hst;have HS2:1≤d∧p+d≤s.size∧0≤c∧c≤1114111:=⟨hst.1,hst.2.1,hst.2.2.1,hst.2.2.2.1⟩;have HIT1:=Hi hit1;clear hW1 hst hit hit1;by_cases hc:97≤c∧c≤122
   ·have hF:Hid (((bs s).take (p+d)).all (fun c=>97≤c&&c≤122)=true):=by
     obtain⟨_,_,_,_,h5⟩:=HST.out;rcases h5 with⟨hp,e,rfl,_⟩|⟨e,_⟩
     ·show((bs s).take (p+1)).all _=true;rw[List.take_succ_eq_append_getElem hp,Dm,HQ.out,F6,←e];simpa using hc
     ·omega
    obtain⟨hc1,hc2⟩:=hc;go_wp2;go_roundg (gk-d)
    case measure=>omega
    case rel=>exact⟨p+d,by omega,rfl,HLE1.out,HIT1.out,hF.out⟩
   ·have hT:Hid (((bs s).take p).map Bf=(bs s).take p):=DS _ HQ.out;have hb1:decide (97≤c)=false∨(97≤c∧decide (c≤122)=false):=by
     by_cases h:97≤c
     ·exact .inr ⟨h,by simp only[decide_eq_false_iff_not];omega⟩
     ·exact .inl (by simp only[decide_eq_false_iff_not];omega)
    clear hc;rcases hb1 with hb1|⟨hb0,hb1⟩;all_goals
     go_wp2_with fail
     refine(P4 W1 _ s.size rfl (by omega) (by omega)).mono ?_;rintro e w2 ⟨rfl,hB,hle2⟩;have HB:=Hi hB;have HLE2:=Hi (HLE1.out.trans hle2);clear hB hle2;go_wp2_with fail
     refine(Hx _ _ [] (s.extract 0 p) _ HB.out (by rw[←BD,Ao];simp only[LN,List.length_drop,List.length_take,HL.out];omega)).mono ?_;rintro e w3 ⟨rfl,hB,hfr⟩;have HB3:Hid (Bld W1.heap.size W1.heap.size (((bs s).take p).map Bf) w3):=by
      rw[hT.out];rw[List.nil_append,Ao,List.drop_zero]at hB;exact hB
     have HLE3:Hid (Le w w3):=Below.trans HLE2.out (hfr.1.mono HLE1.out.size);have HSZ:w.heap.size≤W1.heap.size:=HLE1.out.size;clear hB hfr;go_wp2
     go_loopg [7] (s.size-p) (fun n i wr=>∃k:Nat,n+k=s.size∧i= .int .i64 k∧Le w wr∧Bld W1.heap.size W1.heap.size (((bs s).take k).map Bf) wr)
     case atStart=>exact⟨p,by omega,rfl,HLE3.out,HB3.out⟩
     case round=>
      obtain⟨k,hn,rfl,hle,hB⟩:=hrel;have HB4:=Hi hB;have HLE4:=Hi hle;clear hB hle;by_cases hk:k<s.size
      ·have HX:Hid (s[k]'hk=(bs s)[k]'(by rw[HL.out];exact hk)):=Nk s k hk;have HM:Hid (((bs s).take (k+1)).map Bf=((bs s).take k).map Bf++[Bf (s[k]'hk)]):=by
        rw[List.take_succ_eq_append_getElem (by rw[HL.out];exact hk),List.map_append,HX.out];rfl
       have hcase:(65≤((s[k]'hk).toNat:Int)∧((s[k]'hk).toNat:Int)≤90)∨(¬(65≤((s[k]'hk).toNat:Int)∧((s[k]'hk).toNat:Int)≤90)∧(decide (65≤((s[k]'hk).toNat:Int))=false∨(65≤((s[k]'hk).toNat:Int)∧decide (((s[k]'hk).toNat:Int)≤90)=false))):=by
        by_cases h1:65≤((s[k]'hk).toNat:Int)
        ·by_cases h2:((s[k]'hk).toNat:Int)≤90
         ·exact .inl ⟨h1,h2⟩
         ·exact .inr ⟨fun h=>h2 h.2,.inr ⟨h1,by simp only[decide_eq_false_iff_not];exact h2⟩⟩
        ·exact .inr ⟨fun h=>h1 h.1,.inl (by simp only[decide_eq_false_iff_not];exact h1)⟩
       rcases hcase with⟨h1,h2⟩|⟨hno,hcase⟩
       ·have HY:=Hi (FI _ h1 h2);go_wp2_with fail
        refine(QJ W1.heap.size _ _ _ (Bf (s[k]'hk)) _ HB4.out ?_ ?_).mono ?_
        ·have:=HY.out;omega
        ·rw[List.length_map,List.length_take,HL.out];omega
        rintro e w5 ⟨rfl,hB,hfr⟩;rw[←HM.out]at hB;have HB5:=Hi hB;have HLE5:Hid (Le w w5):=Below.trans HLE4.out (hfr.1.mono HSZ);clear hB hfr;go_wp2;go_roundg (gk-1)
        case measure=>omega
        case rel=>exact⟨k+1,by omega,by go_num,HLE5.out,HB5.out⟩
       ·have HY:=Hi (F5 _ hno);clear hno;rcases hcase with h1|⟨h0,h1⟩;all_goals
         go_wp2_with fail
         refine(QJ W1.heap.size _ _ _ (Bf (s[k]'hk)) _ HB4.out ?_ ?_).mono ?_
         ·rw[HY.out]
         ·rw[List.length_map,List.length_take,HL.out];omega
         rintro e w5 ⟨rfl,hB,hfr⟩;rw[←HM.out]at hB;have HB5:=Hi hB;have HLE5:Hid (Le w w5):=Below.trans HLE4.out (hfr.1.mono HSZ);clear hB hfr;go_wp2;go_roundg (gk-1)
         case measure=>omega
         case rel=>exact⟨k+1,by omega,by go_num,HLE5.out,HB5.out⟩
      ·have hE:Hid (((bs s).take k).map Bf=(bs s).map Bf):=by rw[List.take_of_length_le (by rw[HL.out];omega)];exact rfl
       obtain⟨acc,hacc⟩:∃acc,acc=((bs s).take k).map Bf:=⟨_,rfl⟩;rw[←hacc]at HB4 hE;clear hacc;go_wp2_with fail
       refine(Bj W1.heap.size _ _ _ HB4.out).mono ?_;rintro e w5 ⟨rfl,hB,hfr⟩;have HLE5:Hid (Le w w5):=Below.trans HLE4.out (hfr.1.mono HSZ);clear hB hfr;go_wp2;go_ret;exact⟨by rw[hE.out];rfl,HLE5.out⟩
  ·have hnx:=fun ty=>Lib.run_next_end_at (P:=Tryz.prog) wr _ s p ty hit hlt;have hT:Hid ((bs s).map Bf=bs s):=by
    refine DS _ ?_;have h1:=HQ.out;rw[List.take_of_length_le (by rw[HL.out];omega)]at h1;exact h1
   clear hit;go_wp2;go_ret;exact⟨by rw[hT.out,FB];rfl,HLE.out⟩
def F9(l:KVs)(k:Tx):Nat:=l.findIdx (fun x=>decide (x.1=k))
def Hy(l:KVs)(k:Tx):Int:=if F9 l k<l.length then(F9 l k:Int)else-1
theorem PS{l:KVs}{k:Tx}{i:Nat}(hi:i<l.length)(h:l[i].1=k)(hn:(l.take i).all (fun x=> !decide (x.1=k))=true):Hy l k=i:=by
 have e:F9 l k=i:=by
  unfold F9;rw[List.findIdx_eq hi];refine⟨by simpa using h,fun j hj=>?_⟩;have:=List.all_eq_true.1 hn l[j] (by rw[List.mem_take_iff_getElem];exact⟨j,by omega,rfl⟩);simpa using this
 unfold Hy;rw[e,if_pos hi]
theorem LU{l:KVs}{k:Tx}(hn:l.all (fun x=> !decide (x.1=k))=true):Hy l k= -1:=by
 have e:F9 l k=l.length:=by
  unfold F9;rw[List.findIdx_eq_length];intro x hx;have:=List.all_eq_true.1 hn x hx;simpa using this
 unfold Hy;rw[e,if_neg (Nat.lt_irrefl _)]
theorem DX(l:Tx):(st l).toList=l:=by rw[Lib.toList_data];rfl
theorem ID(a b:Tx):((st a).toList==(st b).toList)=decide (a=b):=by rw[DX,DX];by_cases h:a=b<;>simp[h]
theorem PW(w:World)(v:Value)(l:KVs)(key:Tx)(hv:Hp w v l):
 Calls Tryz.prog 162 #[v,.string (st key)] w fun e w'=>e= .returned (.int .i64 (Hy l key))∧Le w w':=by
 obtain⟨A,c,rfl,hc1,hc2,hl,_,hr⟩:=hv;go_enter Tryz.func162,Tryz.ntmps162;go_wp2
 go_loopg [9] (l.length) (fun n i wr=>∃k:Nat,n+k=l.length∧i= .int .i64 k∧Le w wr∧(l.take k).all (fun x=> !decide (x.1=key))=true)
 case atStart=>exact⟨0,by omega,rfl,AC w,rfl⟩
 case round=>
  obtain⟨k,hn,rfl,hle,hq⟩:=hrel;have HQ:=Hi hq;have HLE:=Hi hle;have HN:gk+k≤l.length∧l.length≤gk+k:=by omega
  clear hn hq;by_cases hlt:k<l.length
  ·obtain⟨g,o,rfl,hg,hcells⟩:=hr (by omega);have d1:=hle.cell (hcells k hlt).1;have d2:=hle.cell (hcells k hlt).2;clear hle hcells hg hr;by_cases hk:l[k].1=key
   ·have hb:((st l[k].1).toList==(st key).toList)=true:=by rw[ID];simpa using hk
    have hres:=Hi (PS hlt hk HQ.out);clear hk;go_wp2;go_ret;exact⟨by rw[hres.out];rfl,HLE.out.alloc _⟩
   ·have hb:((st l[k].1).toList==(st key).toList)=false:=by rw[ID];simpa using hk
    have hF:=Hi (show(l.take (k+1)).all (fun x=> !decide (x.1=key))=true from by
     rw[List.take_succ_eq_append_getElem hlt];simp only[List.all_append,HQ.out,List.all_cons,List.all_nil];simpa using hk)
    clear hk;go_wp2;go_roundg (gk-1)
    case measure=>omega
    case rel=>exact⟨k+1,by omega,by go_num,HLE.out.alloc _,hF.out⟩
  ·have hres:=Hi (LU (k:=key) (l:=l) (by have h1:=HQ.out;rw[List.take_of_length_le (by omega)]at h1;exact h1));clear hr hle;go_wp2;go_ret;exact⟨by rw[hres.out];rfl,HLE.out⟩
theorem MV{l:KVs}{k v:Tx}:∀(i:Nat),Hy l k=i→i<l.length→B7 l k v=l.set i (k,v):=by
 induction l with
 |nil=>intro i h hi;simp at hi
 |cons x r ih=>
  intro i h hi;unfold B7;by_cases hx:x.1=k
  ·have e:F9 (x::r) k=0:=by unfold F9;rw[List.findIdx_cons];simp[hx]
   unfold Hy at h;rw[e,if_pos (by simp)]at h;obtain rfl:i=0:=by omega
   rw[if_pos hx];rfl
  ·have e:F9 (x::r) k=F9 r k+1:=by unfold F9;rw[List.findIdx_cons];simp[hx]
   unfold Hy at h;rw[e]at h;rw[if_neg hx];by_cases hr:F9 r k<r.length
   ·rw[if_pos (by simp;omega)]at h;obtain rfl:i=F9 r k+1:=by omega
    rw[ih (F9 r k) (by unfold Hy;rw[if_pos hr]) hr];rfl
   ·rw[if_neg (by simp;omega)]at h;omega
theorem MW{l:KVs}{k v:Tx}(h:Hy l k= -1):B7 l k v=l++[(k,v)]:=by
 induction l with
 |nil=>rfl
 |cons x r ih=>
  unfold B7;by_cases hx:x.1=k
  ·have e:F9 (x::r) k=0:=by unfold F9;rw[List.findIdx_cons];simp[hx]
   unfold Hy at h;rw[e,if_pos (by simp)]at h;omega
  ·have e:F9 (x::r) k=F9 r k+1:=by unfold F9;rw[List.findIdx_cons];simp[hx]
   unfold Hy at h;rw[e]at h;rw[if_neg hx];by_cases hr:F9 r k<r.length
   ·rw[if_pos (by simp;omega)]at h;omega
   ·rw[ih (by unfold Hy;rw[if_neg hr])];rfl
theorem J7(l:KVs)(k:Tx):(∃i:Nat,Hy l k=i∧∃hi:i<l.length,l[i].1=k)∨Hy l k= -1:=by
 unfold Hy;by_cases h:F9 l k<l.length
 ·refine .inl ⟨F9 l k,by rw[if_pos h],h,?_⟩;have:=List.findIdx_getElem (xs:=l) (p:=fun(x:Tx×Tx)=>decide (x.1=k)) (w:=h);exact of_decide_eq_true this
 ·exact .inr (by rw[if_neg h])
theorem IW(l:KVs)(i:Nat)(hi:i<l.length)(k v:Tx)(hk:l[i].1=k):(BO l).set (i*2+1) (.string (st v))=BO (l.set i (k,v)):=by
 induction l generalizing i with
 |nil=>simp at hi
 |cons x r ih=>
  cases i with
  |zero=>simp only[List.getElem_cons_zero]at hk;simp[BO,hk]
  |succ i=>
   have:=ih i (by simpa using hi) (by simpa using hk);rw[show(i+1)*2+1=i*2+1+1+1 from by omega];simp only[BO,List.set_cons_succ,this]
structure PFr(base b:Nat)(w w':World):Prop where
 os:w'.os=w.os
 tape:w'.tape=w.tape
 output:w'.output=w.output
 size:w.heap.size≤w'.heap.size
 low:∀k,k<base→k≠b→w'.heap[k]? =w.heap[k]?
 oth:Lib.OthersKept 172 (some b) w w'
theorem PFr.refl(base b:Nat)(w:World):PFr base b w w:=⟨rfl,rfl,rfl,NL _,fun _ _ _=>rfl,Lib.OthersKept.refl _ _ _⟩
theorem PFr.trans{base b:Nat}{u v w:World}(h:PFr base b u v)(k:PFr base b v w):PFr base b u w:=
 ⟨k.os.trans h.os,k.tape.trans h.tape,k.output.trans h.output,Nat.le_trans h.size k.size,fun i hi hb=>(k.low i hi hb).trans (h.low i hi hb),h.oth.trans k.oth⟩
theorem Le.oth{v w:World}(k:Le v w)(e:TypeId)(b:Option Nat):Lib.OthersKept e b v w:=fun i o hi _ _=>k.heap hi
theorem PFr.le{base b:Nat}{u v w:World}(h:PFr base b u v)(k:Le v w)(hb:base≤u.heap.size):PFr base b u w:=
 h.trans ⟨k.os,k.tape,k.output,k.size,fun i hi _=>k.block i (Nat.lt_of_lt_of_le hi (Nat.le_trans hb h.size)),k.oth _ _⟩
theorem PFr.grown{base b:Nat}{u v w:World}{row:Option Nat}(h:PFr base b u v)(hg:v.grownBy w row)(hb:base≤u.heap.size)(hrow:∀g,row=some g→base≤g∧∃c fz,v.heap[g]? =some (.cells c 172 fz)):PFr base b u w:=
 ⟨hg.os.trans h.os,hg.tape.trans h.tape,hg.output.trans h.output,Nat.le_trans h.size hg.size,
  fun i hi hne=>(hg.block i (Nat.lt_of_lt_of_le hi (Nat.le_trans hb h.size)) (fun e=>by have:=(hrow i e.symm).1;omega)).trans (h.low i hi hne),
  h.oth.grown hg (fun g hg'=>(hrow g hg').2)⟩
theorem PFr.set{base b:Nat}{u v:World}(h:PFr base b u v)(o:Nat)(x:Value):PFr base b u (v.setCell ⟨b,o,none⟩ x):=
 ⟨h.os,h.tape,h.output,by simpa[World.setCell]using h.size,fun i hi hne=>(Below.heap_setCell _ _ _ _ hne).trans (h.low i hi hne),h.oth.setCell _ rfl _⟩
def PAt(w:World)(base b o:Nat)(T:TypeId)(cs:Array Value)(l:KVs):Prop:=
 ∃v,cs[o]? =some v∧w.heap[b]? =some (.cells cs T (0,0))∧w.ownsRow base 172 2 v l.length (BO l)
theorem IU:((Tryz.prog).info? 172).map (fun i=>(i.zero,i.size,i.bytes))=some (some (.agg #[.string ⟨#[]⟩,.string ⟨#[]⟩]),2,32):=by kernel_rfl
theorem Gd{w:World}{base:Nat}{v:Value}{n:Nat}{xs:List Value}(h:w.ownsRow base 172 2 v n xs){b:Nat}{cs:Array Value}{T:TypeId}{fz:Nat×Nat}(hb:w.heap[b]? =some (.cells cs T fz))(hT:T≠172):some b≠v.ownBlock:=by
 rcases h.2 with⟨rfl,_⟩|⟨g,cap,cur,rfl,_,hg,_⟩
 ·simp[Value.ownBlock]
 ·simp only[Value.ownBlock,ne_eq,Option.some.injEq];rintro rfl;rw[hg]at hb;injection hb with hb
  injection hb with _ h2
  exact hT h2.symm
theorem IL{w:World}{base:Nat}{v:Value}{n:Nat}{xs:List Value}(h:w.ownsRow base 172 2 v n xs):∀g,v.ownBlock=some g→base≤g∧∃c fz,w.heap[g]? =some (.cells c 172 fz):=by
 intro g hg;rcases h.2 with⟨rfl,_⟩|⟨g',cap,cur,rfl,hb,hh,_⟩
 ·simp[Value.ownBlock]at hg
 ·simp only[Value.ownBlock,Option.some.injEq]at hg;subst hg;exact⟨hb,cur,_,hh⟩
def I3(base b o:Nat)(T:TypeId)(cs:Array Value)(l:KVs)(w:World)(e:Ending)(w':World):Prop:=
 ∃v',e= .returned v'∧PAt w' base b o T (cs.setIfInBounds o v') l∧PFr base b w w'
theorem add_c(base b o:Nat)(T:TypeId)(cs:Array Value)(l:KVs)(k v:Tx)(w:World)(h:PAt w base b o T cs l)(hT:T≠172)(hbase:base≤w.heap.size)
 (hl:l.length≤1099511627775)(hm:∀x∈l,x.1.length≤1099511627776∧x.2.length≤1099511627776):
 Calls Tryz.prog 150 #[.pointer (some ⟨b,o,none⟩),.string (st k),.string (st v)] w (I3 base b o T cs (B7 l k v) w):=by
 obtain⟨x,hx,hb,hown⟩:=h;have hcell:w.cell? ⟨b,o,none⟩=some x:=(AB hb o).trans hx;have hHp:=Hp.of_own hown (by omega) hm;obtain⟨c,A,rfl⟩:∃c A,x= .slice A l.length c:=by obtain⟨A,c,e,_⟩:=hHp;exact⟨c,A,e⟩
 have HOWN:=Hi hown;have HB:=Hi hb;have HX:=Hi hx;have HHP:=Hi hHp;clear hb hx hown hHp hm;go_enter Tryz.func150,Tryz.ntmps150;go_wp2_with fail
 refine(PW _ _ _ _ HHP.out).mono ?_;rintro e w1 ⟨rfl,hle1⟩;have HLE1:=Hi hle1;have c1:=hle1.cell hcell;have HOWN1:Hid (w1.ownsRow base 172 2 (.slice A l.length c) l.length (BO l)):=HOWN.out.kept ⟨hle1.os,hle1.tape,hle1.output,hle1.size,fun i hi _=>hle1.block i hi⟩ (Classical.em _);have HB1:=Hi (hle1.heap HB.out);clear hle1 hcell;rcases J7 l k with⟨i,hi,hil,hik⟩|hno
 ·rw[hi];have hres:=Hi (MV (v:=v) i hi hil);clear hi;obtain⟨g,cap,hv,_⟩:=HOWN1.out.form (by omega);obtain⟨rfl,rfl⟩:A=some ⟨g,0,none⟩∧c=cap:=by injection hv with h1 _ h2;exact⟨h1,h2⟩
  clear hv;have hbg:b≠g:=by
   have:=Gd HOWN1.out HB1.out hT;simp only[Value.ownBlock,ne_eq,Option.some.injEq]at this;exact this
  have hll:(BO l).length=l.length*2:=GD l
  have c2:w1.cell? ⟨g,i*2+1,none⟩=some ((BO l)[i*2+1]'(by omega)):=by
   rw[HOWN1.out.cellAt (i*2+1) (by omega),List.getElem?_eq_getElem (by omega)]
  have z2:w1.frozen? ⟨g,i*2+1,none⟩=false:=HOWN1.out.frozenAt _
  have c3:∀x,(w1.setCell ⟨g,i*2+1,none⟩ x).cell? ⟨b,o,none⟩=some (.slice (some ⟨g,0,none⟩) l.length c):=fun x=>by
   rw[World.cell?_setCell_other _ _ _ _ (by intro e;injection e with e;exact hbg e.symm)];exact c1
  generalize(BO l)[i*2+1]=y at c2;have HG:=Hi hbg;clear hbg hll;go_wp2;go_ret;refine⟨.slice (some ⟨g,0,none⟩) l.length c,rfl,?_,?_⟩
  ·rw[hres.out];have hst:=HOWN1.out.stored (i*2+1) (.string (st v));refine⟨_,by rw[Array.getElem?_setIfInBounds_self_of_lt (by exact(Array.getElem?_eq_some_iff.1 HX.out).1)],?_,?_⟩
   ·have h1:=HB1.out;have h2:cs.setIfInBounds o (.slice (some ⟨g,0,none⟩) l.length c)=cs:=by
     apply Array.ext
     ·simp
     ·intro j h1 h2;rw[Array.getElem_setIfInBounds];split
      ·rename_i e
       subst e;have:=HX.out;rw[Array.getElem?_eq_getElem h2]at this;exact(Option.some.inj this).symm
      ·rfl
    rw[h2];exact(Below.heap_setCell _ _ _ _ HG.out).trans h1
   ·rw[←IW l i hil k v hik,List.length_set];exact hst.1
  ·refine((PFr.refl base b w).le HLE1.out hbase).grown (HOWN1.out.stored (i*2+1) _).2 hbase ?_;intro g' hg';injection hg' with hg'
   subst hg';exact IL HOWN1.out g rfl
 ·rw[hno];have hres:=Hi (MW (v:=v) hno);clear hno;obtain⟨i0,hi0,hz0,hz1,hz2⟩:=info_parts IU;have z1:w1.frozen? ⟨b,o,none⟩=false:=AN HB1.out o
  go_wp2_with (at_builtin;refine wpList_append_lies _ rfl _ _ 82 rfl base 172 i0 (.agg #[.string ⟨#[]⟩,.string ⟨#[]⟩]) 2 32 Tryz.underlying82 hi0 hz0 hz1 hz2 rfl (by decide) _ _ _ rfl (HOWN1.out.alloc _) ⟨w1.heap.size,0,none⟩ 1 1 [.string (st k),.string (st v)] rfl rfl ?c1 ?c2 ?c3 ?c4 ?c5 ?c6 (w1.heap.size+1) ?c7 ?_)
  case c1=>exact World.news_of_block (heap_alloc_new w1 _)
  case c2=>intro u hu;simp only[List.mem_cons,List.mem_nil_iff,or_false]at hu;rcases hu with rfl|rfl<;>rfl
  case c3=>omega
  case c4=>unfold maxLen;omega
  case c5=>omega
  case c6=>have:=HLE1.out.size;simp;omega
  case c7=>simp
  intro g cap w2 hown2 hgrow2 hat2 hlt2;have hnb:=Gd HOWN1.out HB1.out hT;have hb2:w2.heap[b]? =some (.cells cs T (0,0)):=by
   rw[hgrow2.block b (by have:=AQ HB1.out;simp;omega) hnb];exact(Below.heap_alloc _ _ _ (AQ HB1.out)).trans HB1.out
  have q1:w2.cell? ⟨b,o,none⟩=some (.slice A l.length c):=(AB hb2 o).trans HX.out;have q2:w2.frozen? ⟨b,o,none⟩=false:=AN hb2 o;have HB2:=Hi hb2;have HOWN2:Hid (w2.ownsRow base 172 2 (.slice (some ⟨g,0,none⟩) (l.length+1) cap) (l++[(k,v)]).length (BO (l++[(k,v)]))):=by
   rw[Dt,LA];exact hown2
  have HPF:Hid (PFr base b w w2):=by
   refine PFr.grown ((PFr.refl base b w).le (HLE1.out.alloc _) hbase) hgrow2 hbase ?_;intro g' hg';have:=IL HOWN1.out g' hg';obtain⟨h1,c',fz,h2⟩:=this;exact⟨h1,c',fz,(Below.heap_alloc _ _ _ (AQ h2)).trans h2⟩
  clear hown2 hgrow2 hat2 hlt2 hnb hb2 z1 c1;go_wp2;go_ret;refine⟨_,rfl,?_,HPF.out.set o _⟩;rw[hres.out];refine⟨_,by rw[Array.getElem?_setIfInBounds_self_of_lt (by exact(Array.getElem?_eq_some_iff.1 HX.out).1)],AX HB2.out o _,?_⟩;exact HOWN2.out.kept (row:=some b) (BK _ _ _ _) (.inr (fun e=>Gd HOWN2.out HB2.out hT e.symm))
end Go.Proofs.YtejhpdcjafbklaaGreatDoor
