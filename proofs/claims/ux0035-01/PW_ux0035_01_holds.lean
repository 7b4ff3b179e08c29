import PyProof.Rows.All
import Wide.All
import OpenK.AllK
import Wide.FinOn
import PySem.Challenge.RW_ux0035_01
set_option Elab.async false
set_option maxRecDepth 100000
set_option linter.all false
set_option maxHeartbeats 4000000
set_option compiler.extract_closed false
set_option compiler.reuse false
set_option genSizeOf false
local macro_rules | `(tactic| ext) => `(tactic| kernel_rfl)
section
open PySem PySem.W PySem.W.X PyProof.Rows
namespace Mine.Internal
theorem yI : type_of% @PySem.wpAny_bind := @PySem.wpAny_bind
theorem yJ : type_of% @PySem.wpAny_pure := @PySem.wpAny_pure
theorem yK : type_of% @List.getD_eq_getElem?_getD := @List.getD_eq_getElem?_getD
theorem yL : type_of% @List.mem_cons_of_mem := @List.mem_cons_of_mem
theorem yM : type_of% @List.getElem?_eq_getElem := @List.getElem?_eq_getElem
theorem yN : type_of% @Nat.le_trans := @Nat.le_trans
noncomputable abbrev tI:= @PySem.W.Fast.tw10156331382660048174
noncomputable abbrev vU:= @PySem.W.Fast.tw11892475500146522536
noncomputable abbrev ym:= @PySem.W.Fast.tw6613529449190102663
noncomputable abbrev vE:= @PySem.W.Fast.tw14364793385576792824
noncomputable abbrev seenQ:= @PySem.W.Fast.tw4187177175401517315
noncomputable abbrev kp:= @PySem.W.Fast.tw5923862056798008813
noncomputable def rL (p:Program) (w:World) (n₀:Nat) (ann:Option Value):Nat→SharedT→Thread→Option SharedT
 | 0,_,_=>none
 | n+1,s,t=>match through t with
  | true=>some s
  | false=>match ym n₀ ann t with
   | false=>none
   | true=>match tI (vU vE) p w s t with
    | some (s',t')=>rL p w n₀ ann n s' t'
    | none=>none
theorem nW {p:Program} {w:World} {n₀:Nat} {ann:Option Value}:∀{n:Nat} {s s':SharedT} {t:Thread},rL p w n₀ ann n s t=some s'→topRun treeTable p w n₀ ann n s.abs t=some s'.abs
 | 0,_,_,_,h=>by cases h
 | n+1,s,s',t,h=>by
  unfold rL at h
  unfold topRun
  cases ht:through t with
  | true=>rw[ht] at h;cases h;rfl
  | false=>
   rw[ht] at h
   rw[show ym n₀ ann t=stepOk n₀ ann t by rw[PySem.W.Fast.te6613529449190102663]] at h
   cases hk:stepOk n₀ ann t with
   | false=>rw[hk] at h;cases h
   | true=>
    rw[hk] at h
    rw[show tI (vU vE) p w s t=stepT (denote treeTable) p w s t by rw[PySem.W.Fast.te10156331382660048174,PySem.W.Fast.te11892475500146522536,PySem.W.Fast.te14364793385576792824]] at h
    cases hs:stepT (denote treeTable) p w s t with
    | none=>rw[hs] at h;cases h
    | some r=>obtain⟨s₂,t₂⟩:=r;rw[hs] at h;rw[stepT_spec hs];exact nW h
def yp:List Obj→Nat→BT→BT
 | [],_,t=>t
 | o::l,i,t=>yp l (i+1) (t.ins i o)
noncomputable def ql (P:Params):BT:=yp (boot_heap P).objs.toList 0 .nil
theorem tw (P:Params):absHeap (ql P) 11 {}=boot_heap P:=by ext
theorem pN (P:Params):((boot_heap P).isNs mainGlobals,(boot_heap P).objs.size,(boot_heap P).nsMap mainGlobals "__annotations__")=(true,11,some (.ref 6)):=by ext
def dH {β:Type} (p:Program) (N:Nat) (f:World→SharedT→β) (r:World→β) (w:World):Prop:=
 ∀os,(rL p w 11 (some (.ref 6)) N ⟨ql w.params,11,{},Array.mk [],boot_drawn,boot_toks,os⟩ (topStub p)).map (f w)=some (r w)
theorem both {β:Type} {p:Program} {N:Nat} {f:World→SharedT→β} {r:World→β} (h0:∀w:World,dH p N f r (w.withFollow "special-get-raises" false)) (h1:∀w:World,dH p N f r (w.withFollow "special-get-raises" true)):∀w,dH p N f r w:=byRow2 "special-get-raises" h0 h1
noncomputable def sound (p:Program) (w:World) (s:SharedT):Bool:=staticsOk (kp p.main.body) (boot_heap w.params) s.abs.heap&&namesBound p s.abs.heap&&gensDone s.abs&&laidKept (boot_heap w.params) s.abs.heap
theorem sL {p q:Program} {loose:List Str} {Xt:Shared→Bool} {α:Type} {Yf:Shared→α} {Ya:World→α} {N:Nat} (e:opening p=plainProg p.main.scope.names) (hN:Nat.ble 600 N=true) (f:∀s,fenceModules? p s=some s)
  (run1:∀w:World,dH p N (fun _ s=>seenQ q loose (kp p.main.body) Xt true s.abs) (fun _=>openGood q loose) w) (run2:∀w:World,dH p N (fun w s=>(sound p w s,Yf s.abs)) (fun w=>(true,Ya w)) w):LeftO p q loose Xt Yf Ya N:=fun w=>by
 obtain⟨⟨h,gs,d,k,os⟩,e1,e2⟩:=Option.map_eq_some_iff.mp (boot_open e hN f w)
 obtain⟨rfl,rfl,rfl,rfl⟩:h=boot_heap w.params∧gs=Array.mk []∧d=boot_drawn∧k=boot_toks:=by simpa using e2
 obtain⟨z1,z2,z3⟩:_∧_∧_:=by simpa only[Prod.mk.injEq] using pN w.params
 obtain⟨s,r1,l2⟩:=Option.map_eq_some_iff.mp (run1 w os)
 have r2:=run2 w os
 rw[r1] at r2
 rw[show seenQ= @openSeen from PySem.W.Fast.te4187177175401517315.symm,show kp= @importedModules from PySem.W.Fast.te5923862056798008813.symm] at l2
 obtain⟨l1,l3⟩:sound p w s=true∧Yf s.abs=Ya w:=by simpa only[Option.map_some,Option.some.injEq,Prod.mk.injEq] using r2
 unfold sound at l1
 rw[show kp= @importedModules from PySem.W.Fast.te5923862056798008813.symm] at l1
 have r:=nW r1
 have t:topFrom treeTable p w N ⟨boot_heap w.params,Array.mk [],boot_drawn,boot_toks,os⟩=some s.abs:=by
  unfold topFrom
  dsimp only
  rw[z1,z2,z3]
  rw[show(⟨ql w.params,11,{},Array.mk [],boot_drawn,boot_toks,os⟩:SharedT).abs=⟨boot_heap w.params,Array.mk [],boot_drawn,boot_toks,os⟩ from congrArg (fun h=>Shared.mk h (Array.mk []) boot_drawn boot_toks os) (tw w.params)] at r
  rw[r]
  show(match staticsOk (importedModules p.main.body) (boot_heap w.params) s.abs.heap&&namesBound p s.abs.heap&&gensDone s.abs&&laidKept (boot_heap w.params) s.abs.heap with | true=>_ | false=>_)=_
  rw[l1]
 unfold openEnds
 rw[e1]
 show Option.map _ (topFrom treeTable p w N _)=_
 rw[t]
 show some (_,_)=some (_,_)
 rw[show openSeen q loose (importedModules p.main.body) Xt true s.abs=openGood q loose from l2,l3]
def wG:List Nat:=[0,2,3,4,5,11,12,13,14,15,16,17,18,19,20,21,22,23,24,25,26,27,28,29,30,31,32,33,34,35,36,37,38,39,40,41,42,43,44,45,46,47,48,49,50,51,52,53,54,55,56,57,58,59,60,61,62,63,64,66,67,68,69,70,71,72,73]
def vw:Program:=view PySem.Challenge.pw_ux0035_01 wG
def gw:List Str:=["_Accumulator","insort_right","bisect_right","bisect_left","EXACT_TOKEN_TYPES"]
theorem tc:(defOf vw "law").isSome=true:=by ext
def dl:DefRec:=((defOf vw "law").get tc).1
theorem ue:OpenLaw.wellSaid PySem.Challenge.rw_ux0035_01=true:=(congrFun PySem.W.Fast.te9446332074065402090 _).trans (by ext)
theorem opens:opening PySem.Challenge.pw_ux0035_01=plainProg PySem.Challenge.pw_ux0035_01.main.scope.names:=by ext
theorem vj (s:Shared):fenceModules? PySem.Challenge.pw_ux0035_01 s=some s:=by ext
theorem defs:defOf vw "law" =some (dl,[]):=by ext
theorem theDef:PySem.Challenge.pw_ux0035_01.theDef "law" =some (dl.params,dl.body,dl.scope):=by ext
theorem th:dl.name=PySem.Str.ofString "law":=by ext
theorem lG:kwWritten? dl.params.kwonlyargs dl.params.kw_defaults=some []:=by ext
theorem vr:(chainsOk vw&&opensWell PySem.Challenge.pw_ux0035_01&&(frees PySem.Challenge.rw_ux0035_01.row.toRowW&&PySem.Challenge.rw_ux0035_01.row.within.isEmpty))=true:=by ext
abbrev xu (s:Shared):Bool:=xlAt vw [] s&&recOk [] s
theorem we (w:World):dH PySem.Challenge.pw_ux0035_01 3000 (fun _ s=>seenQ vw gw (kp PySem.Challenge.pw_ux0035_01.main.body) xu true s.abs) (fun _=>openGood vw gw) (w.withFollow "special-get-raises" false):=fun os=>by ext
theorem wd (w:World):dH PySem.Challenge.pw_ux0035_01 3000 (fun _ s=>seenQ vw gw (kp PySem.Challenge.pw_ux0035_01.main.body) xu true s.abs) (fun _=>openGood vw gw) (w.withFollow "special-get-raises" true):=fun os=>by ext
theorem left {as:List Nat} {K:Params→Frag} (h0:∀w:World,dH PySem.Challenge.pw_ux0035_01 3000 (fun w s=>(sound PySem.Challenge.pw_ux0035_01 w s,obsZ as s.abs)) (fun w=>(true,valZ K 278 727 w)) (w.withFollow "special-get-raises" false)) (h1:∀w:World,dH PySem.Challenge.pw_ux0035_01 3000 (fun w s=>(sound PySem.Challenge.pw_ux0035_01 w s,obsZ as s.abs)) (fun w=>(true,valZ K 278 727 w)) (w.withFollow "special-get-raises" true)):
 LeftO PySem.Challenge.rw_ux0035_01.row.prog vw gw xu (obsZ as) (valZ K 278 727) 3000:=sL (p:=PySem.Challenge.pw_ux0035_01) opens rfl vj (both we wd) (both h0 h1)
theorem bare:PySem.Challenge.rw_ux0035_01.row.prog.bare:=⟨rfl,rfl,rfl,rfl,rfl,by decide +kernel⟩
theorem top (as:List Nat) (K:Params→Frag) (hw:PySem.Challenge.rw_ux0035_01.row.toRowW.promised) (h0:∀w:World,dH PySem.Challenge.pw_ux0035_01 3000 (fun w s=>(sound PySem.Challenge.pw_ux0035_01 w s,obsZ as s.abs)) (fun w=>(true,valZ K 278 727 w)) (w.withFollow "special-get-raises" false)) (h1:∀w:World,dH PySem.Challenge.pw_ux0035_01 3000 (fun w s=>(sound PySem.Challenge.pw_ux0035_01 w s,obsZ as s.abs)) (fun w=>(true,valZ K 278 727 w)) (w.withFollow "special-get-raises" true))
  (hc:WalkX vw gw (XL vw []) (obsZ as) (valZ K 278 727) PySem.Challenge.rw_ux0035_01.row.toRowW dl [] fun f vs=>call f vs):PySem.Challenge.rw_ux0035_01.row.Holds:=
 holds_openX (q:=vw) (loose:=gw) (Xt:=xu) (XP:=XL vw []) (d:=dl) (kwd:=[]) (N:=3000) (left h0 h1) (fun s e=>xl_of s (Bool.and_eq_true_iff.mp e).1) XL.keeps defs theDef lG (fun s e=>recFacts_of (Bool.and_eq_true_iff.mp e).2) rfl (row_said ue) vr bare hw hc
end Mine.Internal
local macro_rules | `(tactic| o_law) => `(tactic| refine PySem.W.holds_law Mine.Internal.ue fun ue => ?_)
local macro_rules | `(tactic| k_head) => `(tactic| z_head)
local macro_rules | `(($t : $_)) => do
  unless t.raw.isOfKind `Lean.Parser.Term.structInst do Lean.Macro.throwUnsupported
  return Lean.mkIdent `Mine.Internal.vw
local macro_rules | `(tactic| refine $f $a*) => do
  unless f.raw.getId == `PySem.W.holds_openX && a.size > 19 do Lean.Macro.throwUnsupported
  let t (i : Nat) : Lean.TSyntax `term := ⟨a[i]!.raw[3][1][0]⟩
  let p ← `(fun w os => by ext)
  `(tactic| refine $(Lean.Syntax.mkApp (Lean.mkIdent `Mine.Internal.top) #[t 4, t 5, ⟨a[18]!⟩, p, p, ⟨a[19]!⟩]))
set_option maxRecDepth 100000 in
set_option maxHeartbeats 0 in
open_top hdz for PySem.Challenge.rw_ux0035_01
end
set_option tactic.hygienic false
namespace Mine.Internal
theorem ob0x2 {A0 A1:Prop} {G:Prop} (h:A0∧A1) (k:A0→A1→G):G:=k h.1 h.2
theorem ob0x3 {A0 A1 A2:Prop} {G:Prop} (h:A0∧A1∧A2) (k:A0→A1→A2→G):G:=ob0x2 h.2 (k h.1)
theorem ob0x4 {A0 A1 A2 A3:Prop} {G:Prop} (h:A0∧A1∧A2∧A3) (k:A0→A1→A2→A3→G):G:=ob0x3 h.2 (k h.1)
theorem ob0x5 {A0 A1 A2 A3 A4:Prop} {G:Prop} (h:A0∧A1∧A2∧A3∧A4) (k:A0→A1→A2→A3→A4→G):G:=ob0x4 h.2 (k h.1)
theorem ob0x6 {A0 A1 A2 A3 A4 A5:Prop} {G:Prop} (h:A0∧A1∧A2∧A3∧A4∧A5) (k:A0→A1→A2→A3→A4→A5→G):G:=ob0x5 h.2 (k h.1)
theorem ob0x7 {A0 A1 A2 A3 A4 A5 A6:Prop} {G:Prop} (h:A0∧A1∧A2∧A3∧A4∧A5∧A6) (k:A0→A1→A2→A3→A4→A5→A6→G):G:=ob0x6 h.2 (k h.1)
theorem ob0x8 {A0 A1 A2 A3 A4 A5 A6 A7:Prop} {G:Prop} (h:A0∧A1∧A2∧A3∧A4∧A5∧A6∧A7) (k:A0→A1→A2→A3→A4→A5→A6→A7→G):G:=ob0x7 h.2 (k h.1)
theorem ob1x1 {α0:Sort _} {A0:α0→Prop} {G:Prop} (h:∃x0,A0 x0) (k:∀x0,A0 x0→G):G:=h.elim k
theorem ob1x2 {α0:Sort _} {A0 A1:α0→Prop} {G:Prop} (h:∃x0,A0 x0∧A1 x0) (k:∀x0,A0 x0→A1 x0→G):G:=h.elim fun x h=>ob0x2 h (k x)
theorem ob1x3 {α0:Sort _} {A0 A1 A2:α0→Prop} {G:Prop} (h:∃x0,A0 x0∧A1 x0∧A2 x0) (k:∀x0,A0 x0→A1 x0→A2 x0→G):G:=h.elim fun x h=>ob0x3 h (k x)
theorem ob1x4 {α0:Sort _} {A0 A1 A2 A3:α0→Prop} {G:Prop} (h:∃x0,A0 x0∧A1 x0∧A2 x0∧A3 x0) (k:∀x0,A0 x0→A1 x0→A2 x0→A3 x0→G):G:=h.elim fun x h=>ob0x4 h (k x)
theorem ob1x5 {α0:Sort _} {A0 A1 A2 A3 A4:α0→Prop} {G:Prop} (h:∃x0,A0 x0∧A1 x0∧A2 x0∧A3 x0∧A4 x0) (k:∀x0,A0 x0→A1 x0→A2 x0→A3 x0→A4 x0→G):G:=h.elim fun x h=>ob0x5 h (k x)
theorem ob1x6 {α0:Sort _} {A0 A1 A2 A3 A4 A5:α0→Prop} {G:Prop} (h:∃x0,A0 x0∧A1 x0∧A2 x0∧A3 x0∧A4 x0∧A5 x0) (k:∀x0,A0 x0→A1 x0→A2 x0→A3 x0→A4 x0→A5 x0→G):G:=h.elim fun x h=>ob0x6 h (k x)
theorem ob1x7 {α0:Sort _} {A0 A1 A2 A3 A4 A5 A6:α0→Prop} {G:Prop} (h:∃x0,A0 x0∧A1 x0∧A2 x0∧A3 x0∧A4 x0∧A5 x0∧A6 x0) (k:∀x0,A0 x0→A1 x0→A2 x0→A3 x0→A4 x0→A5 x0→A6 x0→G):G:=h.elim fun x h=>ob0x7 h (k x)
theorem ob1x8 {α0:Sort _} {A0 A1 A2 A3 A4 A5 A6 A7:α0→Prop} {G:Prop} (h:∃x0,A0 x0∧A1 x0∧A2 x0∧A3 x0∧A4 x0∧A5 x0∧A6 x0∧A7 x0) (k:∀x0,A0 x0→A1 x0→A2 x0→A3 x0→A4 x0→A5 x0→A6 x0→A7 x0→G):G:=h.elim fun x h=>ob0x8 h (k x)
theorem ob2x1 {α0 α1:Sort _} {A0:α0→α1→Prop} {G:Prop} (h:∃x0 x1,A0 x0 x1) (k:∀x0 x1,A0 x0 x1→G):G:=h.elim fun x h=>ob1x1 h (k x)
theorem ob2x2 {α0 α1:Sort _} {A0 A1:α0→α1→Prop} {G:Prop} (h:∃x0 x1,A0 x0 x1∧A1 x0 x1) (k:∀x0 x1,A0 x0 x1→A1 x0 x1→G):G:=h.elim fun x h=>ob1x2 h (k x)
theorem ob2x3 {α0 α1:Sort _} {A0 A1 A2:α0→α1→Prop} {G:Prop} (h:∃x0 x1,A0 x0 x1∧A1 x0 x1∧A2 x0 x1) (k:∀x0 x1,A0 x0 x1→A1 x0 x1→A2 x0 x1→G):G:=h.elim fun x h=>ob1x3 h (k x)
theorem ob2x4 {α0 α1:Sort _} {A0 A1 A2 A3:α0→α1→Prop} {G:Prop} (h:∃x0 x1,A0 x0 x1∧A1 x0 x1∧A2 x0 x1∧A3 x0 x1) (k:∀x0 x1,A0 x0 x1→A1 x0 x1→A2 x0 x1→A3 x0 x1→G):G:=h.elim fun x h=>ob1x4 h (k x)
theorem ob2x5 {α0 α1:Sort _} {A0 A1 A2 A3 A4:α0→α1→Prop} {G:Prop} (h:∃x0 x1,A0 x0 x1∧A1 x0 x1∧A2 x0 x1∧A3 x0 x1∧A4 x0 x1) (k:∀x0 x1,A0 x0 x1→A1 x0 x1→A2 x0 x1→A3 x0 x1→A4 x0 x1→G):G:=h.elim fun x h=>ob1x5 h (k x)
theorem ob2x6 {α0 α1:Sort _} {A0 A1 A2 A3 A4 A5:α0→α1→Prop} {G:Prop} (h:∃x0 x1,A0 x0 x1∧A1 x0 x1∧A2 x0 x1∧A3 x0 x1∧A4 x0 x1∧A5 x0 x1) (k:∀x0 x1,A0 x0 x1→A1 x0 x1→A2 x0 x1→A3 x0 x1→A4 x0 x1→A5 x0 x1→G):G:=h.elim fun x h=>ob1x6 h (k x)
theorem ob2x7 {α0 α1:Sort _} {A0 A1 A2 A3 A4 A5 A6:α0→α1→Prop} {G:Prop} (h:∃x0 x1,A0 x0 x1∧A1 x0 x1∧A2 x0 x1∧A3 x0 x1∧A4 x0 x1∧A5 x0 x1∧A6 x0 x1) (k:∀x0 x1,A0 x0 x1→A1 x0 x1→A2 x0 x1→A3 x0 x1→A4 x0 x1→A5 x0 x1→A6 x0 x1→G):G:=h.elim fun x h=>ob1x7 h (k x)
theorem ob2x8 {α0 α1:Sort _} {A0 A1 A2 A3 A4 A5 A6 A7:α0→α1→Prop} {G:Prop} (h:∃x0 x1,A0 x0 x1∧A1 x0 x1∧A2 x0 x1∧A3 x0 x1∧A4 x0 x1∧A5 x0 x1∧A6 x0 x1∧A7 x0 x1) (k:∀x0 x1,A0 x0 x1→A1 x0 x1→A2 x0 x1→A3 x0 x1→A4 x0 x1→A5 x0 x1→A6 x0 x1→A7 x0 x1→G):G:=h.elim fun x h=>ob1x8 h (k x)
theorem ob3x1 {α0 α1 α2:Sort _} {A0:α0→α1→α2→Prop} {G:Prop} (h:∃x0 x1 x2,A0 x0 x1 x2) (k:∀x0 x1 x2,A0 x0 x1 x2→G):G:=h.elim fun x h=>ob2x1 h (k x)
theorem ob3x2 {α0 α1 α2:Sort _} {A0 A1:α0→α1→α2→Prop} {G:Prop} (h:∃x0 x1 x2,A0 x0 x1 x2∧A1 x0 x1 x2) (k:∀x0 x1 x2,A0 x0 x1 x2→A1 x0 x1 x2→G):G:=h.elim fun x h=>ob2x2 h (k x)
theorem ob3x3 {α0 α1 α2:Sort _} {A0 A1 A2:α0→α1→α2→Prop} {G:Prop} (h:∃x0 x1 x2,A0 x0 x1 x2∧A1 x0 x1 x2∧A2 x0 x1 x2) (k:∀x0 x1 x2,A0 x0 x1 x2→A1 x0 x1 x2→A2 x0 x1 x2→G):G:=h.elim fun x h=>ob2x3 h (k x)
theorem ob3x4 {α0 α1 α2:Sort _} {A0 A1 A2 A3:α0→α1→α2→Prop} {G:Prop} (h:∃x0 x1 x2,A0 x0 x1 x2∧A1 x0 x1 x2∧A2 x0 x1 x2∧A3 x0 x1 x2) (k:∀x0 x1 x2,A0 x0 x1 x2→A1 x0 x1 x2→A2 x0 x1 x2→A3 x0 x1 x2→G):G:=h.elim fun x h=>ob2x4 h (k x)
theorem ob3x5 {α0 α1 α2:Sort _} {A0 A1 A2 A3 A4:α0→α1→α2→Prop} {G:Prop} (h:∃x0 x1 x2,A0 x0 x1 x2∧A1 x0 x1 x2∧A2 x0 x1 x2∧A3 x0 x1 x2∧A4 x0 x1 x2) (k:∀x0 x1 x2,A0 x0 x1 x2→A1 x0 x1 x2→A2 x0 x1 x2→A3 x0 x1 x2→A4 x0 x1 x2→G):G:=h.elim fun x h=>ob2x5 h (k x)
theorem ob3x6 {α0 α1 α2:Sort _} {A0 A1 A2 A3 A4 A5:α0→α1→α2→Prop} {G:Prop} (h:∃x0 x1 x2,A0 x0 x1 x2∧A1 x0 x1 x2∧A2 x0 x1 x2∧A3 x0 x1 x2∧A4 x0 x1 x2∧A5 x0 x1 x2) (k:∀x0 x1 x2,A0 x0 x1 x2→A1 x0 x1 x2→A2 x0 x1 x2→A3 x0 x1 x2→A4 x0 x1 x2→A5 x0 x1 x2→G):G:=h.elim fun x h=>ob2x6 h (k x)
theorem ob3x7 {α0 α1 α2:Sort _} {A0 A1 A2 A3 A4 A5 A6:α0→α1→α2→Prop} {G:Prop} (h:∃x0 x1 x2,A0 x0 x1 x2∧A1 x0 x1 x2∧A2 x0 x1 x2∧A3 x0 x1 x2∧A4 x0 x1 x2∧A5 x0 x1 x2∧A6 x0 x1 x2) (k:∀x0 x1 x2,A0 x0 x1 x2→A1 x0 x1 x2→A2 x0 x1 x2→A3 x0 x1 x2→A4 x0 x1 x2→A5 x0 x1 x2→A6 x0 x1 x2→G):G:=h.elim fun x h=>ob2x7 h (k x)
theorem ob3x8 {α0 α1 α2:Sort _} {A0 A1 A2 A3 A4 A5 A6 A7:α0→α1→α2→Prop} {G:Prop} (h:∃x0 x1 x2,A0 x0 x1 x2∧A1 x0 x1 x2∧A2 x0 x1 x2∧A3 x0 x1 x2∧A4 x0 x1 x2∧A5 x0 x1 x2∧A6 x0 x1 x2∧A7 x0 x1 x2) (k:∀x0 x1 x2,A0 x0 x1 x2→A1 x0 x1 x2→A2 x0 x1 x2→A3 x0 x1 x2→A4 x0 x1 x2→A5 x0 x1 x2→A6 x0 x1 x2→A7 x0 x1 x2→G):G:=h.elim fun x h=>ob2x8 h (k x)
theorem ob4x1 {α0 α1 α2 α3:Sort _} {A0:α0→α1→α2→α3→Prop} {G:Prop} (h:∃x0 x1 x2 x3,A0 x0 x1 x2 x3) (k:∀x0 x1 x2 x3,A0 x0 x1 x2 x3→G):G:=h.elim fun x h=>ob3x1 h (k x)
theorem ob4x2 {α0 α1 α2 α3:Sort _} {A0 A1:α0→α1→α2→α3→Prop} {G:Prop} (h:∃x0 x1 x2 x3,A0 x0 x1 x2 x3∧A1 x0 x1 x2 x3) (k:∀x0 x1 x2 x3,A0 x0 x1 x2 x3→A1 x0 x1 x2 x3→G):G:=h.elim fun x h=>ob3x2 h (k x)
theorem ob4x3 {α0 α1 α2 α3:Sort _} {A0 A1 A2:α0→α1→α2→α3→Prop} {G:Prop} (h:∃x0 x1 x2 x3,A0 x0 x1 x2 x3∧A1 x0 x1 x2 x3∧A2 x0 x1 x2 x3) (k:∀x0 x1 x2 x3,A0 x0 x1 x2 x3→A1 x0 x1 x2 x3→A2 x0 x1 x2 x3→G):G:=h.elim fun x h=>ob3x3 h (k x)
theorem ob4x4 {α0 α1 α2 α3:Sort _} {A0 A1 A2 A3:α0→α1→α2→α3→Prop} {G:Prop} (h:∃x0 x1 x2 x3,A0 x0 x1 x2 x3∧A1 x0 x1 x2 x3∧A2 x0 x1 x2 x3∧A3 x0 x1 x2 x3) (k:∀x0 x1 x2 x3,A0 x0 x1 x2 x3→A1 x0 x1 x2 x3→A2 x0 x1 x2 x3→A3 x0 x1 x2 x3→G):G:=h.elim fun x h=>ob3x4 h (k x)
theorem ob4x6 {α0 α1 α2 α3:Sort _} {A0 A1 A2 A3 A4 A5:α0→α1→α2→α3→Prop} {G:Prop} (h:∃x0 x1 x2 x3,A0 x0 x1 x2 x3∧A1 x0 x1 x2 x3∧A2 x0 x1 x2 x3∧A3 x0 x1 x2 x3∧A4 x0 x1 x2 x3∧A5 x0 x1 x2 x3) (k:∀x0 x1 x2 x3,A0 x0 x1 x2 x3→A1 x0 x1 x2 x3→A2 x0 x1 x2 x3→A3 x0 x1 x2 x3→A4 x0 x1 x2 x3→A5 x0 x1 x2 x3→G):G:=h.elim fun x h=>ob3x6 h (k x)
theorem ob4x7 {α0 α1 α2 α3:Sort _} {A0 A1 A2 A3 A4 A5 A6:α0→α1→α2→α3→Prop} {G:Prop} (h:∃x0 x1 x2 x3,A0 x0 x1 x2 x3∧A1 x0 x1 x2 x3∧A2 x0 x1 x2 x3∧A3 x0 x1 x2 x3∧A4 x0 x1 x2 x3∧A5 x0 x1 x2 x3∧A6 x0 x1 x2 x3) (k:∀x0 x1 x2 x3,A0 x0 x1 x2 x3→A1 x0 x1 x2 x3→A2 x0 x1 x2 x3→A3 x0 x1 x2 x3→A4 x0 x1 x2 x3→A5 x0 x1 x2 x3→A6 x0 x1 x2 x3→G):G:=h.elim fun x h=>ob3x7 h (k x)
theorem ob4x8 {α0 α1 α2 α3:Sort _} {A0 A1 A2 A3 A4 A5 A6 A7:α0→α1→α2→α3→Prop} {G:Prop} (h:∃x0 x1 x2 x3,A0 x0 x1 x2 x3∧A1 x0 x1 x2 x3∧A2 x0 x1 x2 x3∧A3 x0 x1 x2 x3∧A4 x0 x1 x2 x3∧A5 x0 x1 x2 x3∧A6 x0 x1 x2 x3∧A7 x0 x1 x2 x3) (k:∀x0 x1 x2 x3,A0 x0 x1 x2 x3→A1 x0 x1 x2 x3→A2 x0 x1 x2 x3→A3 x0 x1 x2 x3→A4 x0 x1 x2 x3→A5 x0 x1 x2 x3→A6 x0 x1 x2 x3→A7 x0 x1 x2 x3→G):G:=h.elim fun x h=>ob3x8 h (k x)
theorem ob5x1 {α0 α1 α2 α3 α4:Sort _} {A0:α0→α1→α2→α3→α4→Prop} {G:Prop} (h:∃x0 x1 x2 x3 x4,A0 x0 x1 x2 x3 x4) (k:∀x0 x1 x2 x3 x4,A0 x0 x1 x2 x3 x4→G):G:=h.elim fun x h=>ob4x1 h (k x)
theorem ob5x2 {α0 α1 α2 α3 α4:Sort _} {A0 A1:α0→α1→α2→α3→α4→Prop} {G:Prop} (h:∃x0 x1 x2 x3 x4,A0 x0 x1 x2 x3 x4∧A1 x0 x1 x2 x3 x4) (k:∀x0 x1 x2 x3 x4,A0 x0 x1 x2 x3 x4→A1 x0 x1 x2 x3 x4→G):G:=h.elim fun x h=>ob4x2 h (k x)
theorem ob5x3 {α0 α1 α2 α3 α4:Sort _} {A0 A1 A2:α0→α1→α2→α3→α4→Prop} {G:Prop} (h:∃x0 x1 x2 x3 x4,A0 x0 x1 x2 x3 x4∧A1 x0 x1 x2 x3 x4∧A2 x0 x1 x2 x3 x4) (k:∀x0 x1 x2 x3 x4,A0 x0 x1 x2 x3 x4→A1 x0 x1 x2 x3 x4→A2 x0 x1 x2 x3 x4→G):G:=h.elim fun x h=>ob4x3 h (k x)
theorem ob5x4 {α0 α1 α2 α3 α4:Sort _} {A0 A1 A2 A3:α0→α1→α2→α3→α4→Prop} {G:Prop} (h:∃x0 x1 x2 x3 x4,A0 x0 x1 x2 x3 x4∧A1 x0 x1 x2 x3 x4∧A2 x0 x1 x2 x3 x4∧A3 x0 x1 x2 x3 x4) (k:∀x0 x1 x2 x3 x4,A0 x0 x1 x2 x3 x4→A1 x0 x1 x2 x3 x4→A2 x0 x1 x2 x3 x4→A3 x0 x1 x2 x3 x4→G):G:=h.elim fun x h=>ob4x4 h (k x)
theorem ob5x7 {α0 α1 α2 α3 α4:Sort _} {A0 A1 A2 A3 A4 A5 A6:α0→α1→α2→α3→α4→Prop} {G:Prop} (h:∃x0 x1 x2 x3 x4,A0 x0 x1 x2 x3 x4∧A1 x0 x1 x2 x3 x4∧A2 x0 x1 x2 x3 x4∧A3 x0 x1 x2 x3 x4∧A4 x0 x1 x2 x3 x4∧A5 x0 x1 x2 x3 x4∧A6 x0 x1 x2 x3 x4) (k:∀x0 x1 x2 x3 x4,A0 x0 x1 x2 x3 x4→A1 x0 x1 x2 x3 x4→A2 x0 x1 x2 x3 x4→A3 x0 x1 x2 x3 x4→A4 x0 x1 x2 x3 x4→A5 x0 x1 x2 x3 x4→A6 x0 x1 x2 x3 x4→G):G:=h.elim fun x h=>ob4x7 h (k x)
theorem ob5x8 {α0 α1 α2 α3 α4:Sort _} {A0 A1 A2 A3 A4 A5 A6 A7:α0→α1→α2→α3→α4→Prop} {G:Prop} (h:∃x0 x1 x2 x3 x4,A0 x0 x1 x2 x3 x4∧A1 x0 x1 x2 x3 x4∧A2 x0 x1 x2 x3 x4∧A3 x0 x1 x2 x3 x4∧A4 x0 x1 x2 x3 x4∧A5 x0 x1 x2 x3 x4∧A6 x0 x1 x2 x3 x4∧A7 x0 x1 x2 x3 x4) (k:∀x0 x1 x2 x3 x4,A0 x0 x1 x2 x3 x4→A1 x0 x1 x2 x3 x4→A2 x0 x1 x2 x3 x4→A3 x0 x1 x2 x3 x4→A4 x0 x1 x2 x3 x4→A5 x0 x1 x2 x3 x4→A6 x0 x1 x2 x3 x4→A7 x0 x1 x2 x3 x4→G):G:=h.elim fun x h=>ob4x8 h (k x)
theorem ob6x1 {α0 α1 α2 α3 α4 α5:Sort _} {A0:α0→α1→α2→α3→α4→α5→Prop} {G:Prop} (h:∃x0 x1 x2 x3 x4 x5,A0 x0 x1 x2 x3 x4 x5) (k:∀x0 x1 x2 x3 x4 x5,A0 x0 x1 x2 x3 x4 x5→G):G:=h.elim fun x h=>ob5x1 h (k x)
theorem ob6x4 {α0 α1 α2 α3 α4 α5:Sort _} {A0 A1 A2 A3:α0→α1→α2→α3→α4→α5→Prop} {G:Prop} (h:∃x0 x1 x2 x3 x4 x5,A0 x0 x1 x2 x3 x4 x5∧A1 x0 x1 x2 x3 x4 x5∧A2 x0 x1 x2 x3 x4 x5∧A3 x0 x1 x2 x3 x4 x5) (k:∀x0 x1 x2 x3 x4 x5,A0 x0 x1 x2 x3 x4 x5→A1 x0 x1 x2 x3 x4 x5→A2 x0 x1 x2 x3 x4 x5→A3 x0 x1 x2 x3 x4 x5→G):G:=h.elim fun x h=>ob5x4 h (k x)
theorem ob7x1 {α0 α1 α2 α3 α4 α5 α6:Sort _} {A0:α0→α1→α2→α3→α4→α5→α6→Prop} {G:Prop} (h:∃x0 x1 x2 x3 x4 x5 x6,A0 x0 x1 x2 x3 x4 x5 x6) (k:∀x0 x1 x2 x3 x4 x5 x6,A0 x0 x1 x2 x3 x4 x5 x6→G):G:=h.elim fun x h=>ob6x1 h (k x)
theorem ob7x4 {α0 α1 α2 α3 α4 α5 α6:Sort _} {A0 A1 A2 A3:α0→α1→α2→α3→α4→α5→α6→Prop} {G:Prop} (h:∃x0 x1 x2 x3 x4 x5 x6,A0 x0 x1 x2 x3 x4 x5 x6∧A1 x0 x1 x2 x3 x4 x5 x6∧A2 x0 x1 x2 x3 x4 x5 x6∧A3 x0 x1 x2 x3 x4 x5 x6) (k:∀x0 x1 x2 x3 x4 x5 x6,A0 x0 x1 x2 x3 x4 x5 x6→A1 x0 x1 x2 x3 x4 x5 x6→A2 x0 x1 x2 x3 x4 x5 x6→A3 x0 x1 x2 x3 x4 x5 x6→G):G:=h.elim fun x h=>ob6x4 h (k x)
theorem iF {α:Sort _} {a b:α}:(if false=true then a else b)=b:=rfl
theorem iT {α:Sort _} {a b:α}:(if true=true then a else b)=a:=rfl
theorem q2 {k n:Nat} (h:k≤n):(max 0 (min (k:Int) (n:Int))).toNat=k:=by rw[Int.min_eq_left (Int.ofNat_le.mpr h),Int.max_eq_right (Int.natCast_nonneg _)];rfl
theorem yh {k n:Nat} (h:n≤k):(max 0 (min (k:Int) (n:Int))).toNat=n:=by rw[Int.min_eq_right (Int.ofNat_le.mpr h),Int.max_eq_right (Int.natCast_nonneg _)];rfl
theorem q1 (k n:Nat):(max 0 (min (k:Int) (n:Int))).toNat=min k n:=(Nat.le_total k n).elim (fun h=>(q2 h).trans (Nat.min_eq_left h).symm) fun h=>(yh h).trans (Nat.min_eq_right h).symm
theorem q3 {k n:Nat} (h:¬k≤n):(max 0 (min (k:Int) (n:Int))).toNat=n:=yh (Nat.le_of_not_le h)
theorem q4 {k m n:Nat} (h:k≤m) (g:m≤n):(max 0 (min (k:Int) (n:Int))).toNat=k:=q2 (yN h g)
theorem q5 (X:Int) (n:Nat):(max 0 (min X (n:Int))).toNat≤n:=Int.toNat_le.mpr (Int.max_le.mpr ⟨Int.natCast_nonneg _,Int.min_le_right _ _⟩)
theorem q6 (X:Int):max 0 X=((max 0 X).toNat:Int):=(Int.toNat_of_nonneg (Int.le_max_left _ _)).symm
theorem q8 {n:Nat} (h:0<n):(-1+(n:Int)).toNat=n - 1:=by
 cases n with
 | zero=>exact absurd h (Nat.lt_irrefl 0)
 | succ n=>rw[Int.natCast_succ,Int.add_comm,Int.add_neg_cancel_right];rfl
theorem q7:∀n:Nat,(max 0 (min (-1+(n:Int)) (n:Int))).toNat=n - 1
 | 0=>rfl
 | n+1=>by rw[Int.natCast_succ,Int.add_comm,Int.add_neg_cancel_right];exact q2 (Nat.le_succ n)
theorem q9 {j n:Nat} (h:j≤n):(max (j:Int) (n:Int)).toNat=n:=by rw[Int.max_eq_right (Int.ofNat_le.mpr h)];rfl
theorem q10 (a b c:Nat):min (a - b) (c - b)≤c:=yN (Nat.min_le_right _ _) (Nat.sub_le _ _)
theorem q11 {h a b lo:Nat} (e:h≤a) (r:Nat.ble a b=true):min h b - lo=h - lo:=congrArg (· - lo) (Nat.min_eq_left (yN e (Nat.le_of_ble_eq_true r)))
theorem q12 {h a b lo j:Nat} (g:j<h - lo) (e:h≤a) (r:Nat.ble a b=true):j<min h b - lo:=Nat.lt_of_lt_of_eq g (q11 e r).symm
theorem q13 {h a b lo:Nat} (e:h≤a) (r:b=a):min h b - lo=h - lo:=congrArg (· - lo) (Nat.min_eq_left (yN e (Nat.le_of_eq r.symm)))
theorem q14 {h a lo j:Nat} (g:j<h - lo) (e:h≤a):lo+j<a:=Nat.lt_of_lt_of_le (Nat.add_lt_of_lt_sub' g) e
theorem vA {a b:Nat} (h:decide ((a:Int)<(b:Int))=true):a<b:=Int.ofNat_lt.mp (of_decide_eq_true h)
theorem yy {a b:Nat} (h:decide ((a:Int)<(b:Int))=false):b≤a:=Nat.le_of_not_lt fun x=>of_decide_eq_false h (Int.ofNat_lt.mpr x)
theorem yj {a b:Nat} (h:a<b):(a+b) / 2<b:=Nat.div_lt_of_lt_mul (by rw[Nat.two_mul];exact Nat.add_lt_add_right h b)
theorem yi {a b:Nat} (h:a<b):a≤(a+b) / 2:=(Nat.le_div_iff_mul_le Nat.two_pos).mpr (by rw[Nat.mul_two];exact Nat.add_le_add_left (Nat.le_of_lt h) a)
theorem q19 {a b:Nat} (h:decide ((a:Int)<(b:Int))=true):b - ((a+b) / 2+1)<b - a:=Nat.sub_lt_sub_left (vA h) (Nat.lt_succ_of_le (yi (vA h)))
theorem q20 {a b:Nat} (h:decide ((a:Int)<(b:Int))=true):(a+b) / 2 - a<b - a:=Nat.sub_lt_sub_right (yi (vA h)) (yj (vA h))
theorem q21 {a b c:Nat} (h:decide ((a:Int)<(b:Int))=true) (g:b≤c):(a+b) / 2<c:=Nat.lt_of_lt_of_le (yj (vA h)) g
theorem q23 {a b c:Nat} (h:decide ((a:Int)<(c:Int))=false) (g:a≤b) (k:b≤c):a=b:=Nat.le_antisymm g (yN k (yy h))
theorem q25 {x:Bool} {P:Prop} (h:x=true↔P) (g:x=false) (k:P):False:=Bool.noConfusion (g.symm.trans (h.mpr k))
theorem q26 {P:Prop} {a b:Int} (h:decide (a≤b)=true↔P) (g:decide (b<a)=true) (k:P):False:=absurd (of_decide_eq_true (h.mpr k)) (Int.not_le.mpr (of_decide_eq_true g))
theorem q27 {a b:Nat} {P:Prop} (h:a<b↔P):(a:Int)<(b:Int)↔P:=Int.ofNat_lt.trans h
theorem q28 {a b:Nat} {P:Prop} (h:a<b↔P):P↔(a:Int)<(b:Int):=(Int.ofNat_lt.trans h).symm
theorem q30 {a b:Int} {c d:Nat} (h:b<a↔d<c):a≤b↔c≤d:=by rw[←Int.not_lt,←Nat.not_lt,h]
theorem q31 {a b:Int} {c d:Nat} (h:a<b↔c<d) (g:b<a↔d<c) (e:a=b):c=d:=Nat.le_antisymm (Nat.le_of_not_lt fun x=>Int.lt_irrefl _ (e▸g.mpr x)) (Nat.le_of_not_lt fun x=>Int.lt_irrefl _ (e▸h.mpr x))
theorem q33 {x y:Int} {P:Prop} (h:x<y↔P):256+x - y<256↔P:=Iff.trans ⟨fun k=>by lia,fun k=>by lia⟩ h
theorem q34 {x y:Int} {P:Prop} (h:x<y↔P):256+1*(x - y)<256↔P:=by rw[Int.one_mul,←Int.add_sub_assoc];exact q33 h
theorem q35 {x y:Int} {P:Prop} (h:x<y↔P):256+ -1*(y - x)<256↔P:=by rw[Int.neg_one_mul,Int.neg_sub,←Int.add_sub_assoc];exact q33 h
theorem q36 {x y:Int} {P:Prop} (h:x<y↔P):1*x<1*y↔P:=by rw[Int.one_mul,Int.one_mul];exact h
theorem q37 {x y:Int} {P:Prop} (h:y<x↔P): -1*x< -1*y↔P:=by rw[Int.neg_one_mul,Int.neg_one_mul];exact Int.neg_lt_neg_iff.trans h
theorem q38 {a b c d:Int} {P Q R:Prop} (h:a<b↔P) (g:a=b↔Q) (k:d<c↔R):(a<b∨a=b∧ -c< -d)↔(P∨Q∧R):=or_congr h (and_congr g (Int.neg_lt_neg_iff.trans k))
theorem q39' {a b c d:Int} {P R Q:Prop} (h:b<a↔P) (g:a=b↔Q) (k:c<d↔R):(-a< -b∨ -a= -b∧c<d)↔(P∨Q∧R):=by rw[Int.neg_lt_neg_iff,Int.neg_inj,h,g,k]
theorem xm {α β:Type} {lt:α→α→Prop} {le:β→β→Prop} (t:∀{a b c},lt a b→lt b c→lt a c) (u:∀{a b c},le a b→le b c→le a c) {a b c:α} {x y z:β} (h:lt a b∨a=b∧le x y) (g:lt b c∨b=c∧le y z):lt a c∨a=c∧le x z:=
 h.elim (fun h=>g.elim (fun g=> .inl (t h g)) fun g=> .inl (g.1▸h)) fun h=>g.elim (fun g=> .inl (h.1▸g)) fun g=> .inr ⟨h.1.trans g.1,u h.2 g.2⟩
theorem q41 {a b c d:Int} (n:¬(b<a∨b=a∧d≤c)):a<b∨a=b∧c≤d:=(Int.lt_trichotomy a b).elim .inl fun h=>h.elim (fun e=> .inr ⟨e,Int.le_of_lt (Int.not_le.mp fun l=>n (.inr ⟨e.symm,l⟩))⟩) fun h=>absurd (.inl h) n
theorem q42 {a b c d:Nat} (n:¬(b<a∨a=b∧d≤c)):a<b∨b=a∧c≤d:=(Nat.lt_trichotomy a b).elim .inl fun h=>h.elim (fun e=> .inr ⟨e.symm,Nat.le_of_lt (Nat.not_le.mp fun l=>n (.inr ⟨e,l⟩))⟩) fun h=>absurd (.inl h) n
theorem q43 {P E X:Prop} (n:¬E):P↔(P∨E∧X):=⟨.inl,fun h=>h.elim id fun q=>absurd q.1 n⟩
theorem xy {α:Type} {a b:α} {P X:Prop} (n:¬a=b):P↔(P∨b=a∧X):=⟨.inl,fun h=>h.elim id fun q=>absurd q.1.symm n⟩
theorem xl {α:Type} {lt:α→α→Prop} {c d:α} {X:Prop} (t:∀a,¬lt a a) (e:d=c):X↔(lt c d∨c=d∧X):=⟨fun x=> .inr ⟨e.symm,x⟩,fun h=>h.elim (fun l=>absurd (e▸l) (t _)) And.right⟩
theorem xx {α:Type} {lt:α→α→Prop} {c d:α} {X:Prop} (t:∀a,¬lt a a) (e:c=d):X↔(lt c d∨d=c∧X):=⟨fun x=> .inr ⟨e.symm,x⟩,fun h=>h.elim (fun l=>absurd (e▸l) (t _)) And.right⟩
theorem vI {α:Type} {lt:α→α→Prop} {c d:α} {X:Prop} (t:∀a,¬lt a a) (e:c=d):X↔(lt c d∨c=d∧X):=⟨fun x=> .inr ⟨e,x⟩,fun h=>h.elim (fun l=>absurd (e▸l) (t _)) And.right⟩
theorem q47 {a b c d:Nat} (e:d=c):(¬a<b)↔(c<d∨c=d∧b≤a):=Nat.not_lt.trans (xl Nat.lt_irrefl e)
theorem q48 {a b c d:Nat} (e:c=d):(¬a<b)↔(c<d∨d=c∧b≤a):=Nat.not_lt.trans (xx Nat.lt_irrefl e)
theorem q49 {a b c d:Int} (e:d=c):(¬a<b)↔(c<d∨c=d∧b≤a):=Int.not_lt.trans (xl Int.lt_irrefl e)
theorem q50 {a b:Nat} {X:Prop} (n:¬a=b):(¬a<b)↔(b<a∨b=a∧X):=(⟨fun h=>Nat.lt_of_le_of_ne (Nat.not_lt.mp h) (Ne.symm n),fun h=>Nat.not_lt.mpr (Nat.le_of_lt h)⟩:¬a<b↔b<a).trans (xy n)
theorem q51 {a b:Int} {X:Prop} (n:¬a=b):(¬a<b)↔(b<a∨b=a∧X):=(⟨fun h=>Int.lt_iff_le_and_ne.mpr ⟨Int.not_lt.mp h,Ne.symm n⟩,fun h=>Int.not_lt.mpr (Int.le_of_lt h)⟩:¬a<b↔b<a).trans (xy n)
theorem q52 {a b:Nat} {X:Prop} (n:¬b=a):(¬a<b)↔(b<a∨a=b∧X):=(⟨fun h=>Nat.lt_of_le_of_ne (Nat.not_lt.mp h) n,fun h=>Nat.not_lt.mpr (Nat.le_of_lt h)⟩:¬a<b↔b<a).trans (xy n)
theorem q53 {a b x:Nat} (h:a<b):a - x<b:=Nat.lt_of_le_of_lt (Nat.sub_le _ _) h
theorem xw {a b:Nat} (h:0<a) (g:a≤b):a - 1<b:=Nat.lt_of_lt_of_le (Nat.sub_lt h Nat.one_pos) g
theorem q55 {a b:Nat} (g:a≤b) (h:¬(a==0)=true):a - 1<b:=xw (Nat.pos_of_ne_zero fun e=>h (beq_iff_eq.mpr e)) g
theorem q56 {a b:Nat} (g:a≤b) (h:(a==0)=false):a - 1<b:=q55 g (by rw[h];exact Bool.false_ne_true)
theorem q57 {p:Nat} (h:0<p):(p:Int) - 1=((p - 1:Nat):Int):=(Int.natCast_sub h).symm
theorem q58 {p:Nat} (h:(p==0)=false):(p:Int) - 1=((p - 1:Nat):Int):=q57 (Nat.pos_of_ne_zero fun e=>by rw[e] at h;cases h)
theorem q59 {a b d:Nat} {c:Prop} (e:c∧d=b) (h:a<d - 1):a+1<b:=Nat.lt_of_lt_of_eq (Nat.add_lt_of_lt_sub h) e.2
theorem q60 {a b:Nat} (h:1≤a) (g:a<b):a - 1<b - 1:=Nat.sub_lt_sub_right h g
theorem q61 {a:Nat} (h:¬a=0):a - 1+1=a+1 - 1:=Nat.sub_add_cancel (Nat.pos_of_ne_zero h)
theorem q62 {a b:Nat} (h:a≤b - 1) (g:0<b):a<b:=Nat.lt_of_le_of_lt h (Nat.sub_lt g Nat.one_pos)
theorem q63 {a b n m:Nat} (h:b≤n) (r:Nat.ble (n+1) m=true):min a b<m:=Nat.lt_of_lt_of_le (Nat.lt_succ_of_le (yN (Nat.min_le_right _ _) h)) (Nat.le_of_ble_eq_true r)
theorem q64 {a b n m:Nat} (h:b≤n) (r:Nat.ble n m=true):min a b≤m:=yN (Nat.min_le_right _ _) (yN h (Nat.le_of_ble_eq_true r))
theorem q65 {a b n:Nat} (h:b=n) (r:n≤5):min a b+1+1+(b - (a+2))≤100000:=yN (Nat.add_le_add (Nat.add_le_add_right (yN (Nat.min_le_right a b) (h▸r)) 2) (yN (Nat.sub_le b _) (h▸r))) (Nat.le_of_ble_eq_true (n:=5+2+5) rfl)
theorem q66 {a b n c m:Nat} (h:b=n) (r:Nat.ble (n+n) m=true):min a b - c+(b - 5)≤m:=yN (Nat.add_le_add (yN (Nat.sub_le _ c) (yN (Nat.min_le_right a b) (Nat.le_of_eq h))) (yN (Nat.sub_le b _) (Nat.le_of_eq h))) (Nat.le_of_ble_eq_true r)
theorem yx {a b:Nat} (h:a+1<b):min a b+(b - (a+2)+1+1)=b:=by
 rw[Nat.min_eq_left (Nat.le_of_lt (Nat.lt_of_succ_lt h))]
 exact(Nat.add_left_comm a (b - (a+2)) 2).trans (Nat.sub_add_cancel h)
theorem q68 {a b c:Nat} (e:b=c) (h:a+1<c):min a b+(b - (a+2)+1+1)=c:=(yx (e▸h)).trans e
theorem q69 {a b:Nat} (h:a≤b):min a b+(b - a+1)=b+1:=by rw[Nat.min_eq_left h,←Nat.add_assoc,Nat.add_sub_of_le h]
theorem q70 {k n:Nat} {j:Int} (h:k≤n) (e:j=(k:Int)):min j.toNat n=k:=by rw[e];exact Nat.min_eq_left h
theorem q71 {a b c:Nat} (h:a - b=c+1):a - (b+1)=c:=by rw[Nat.sub_add_eq,h];rfl
theorem q72 {a b c:Nat} (h:b - a=c+1):a<b:=Nat.lt_of_sub_eq_succ h
theorem q73 {a b:Nat} (h:b - a=0) (g:a≤b):a=b:=Nat.le_antisymm g (Nat.le_of_sub_eq_zero h)
theorem q74 {a:Int} {b:Nat} (h:0≤a∧a<(b:Int)):a.toNat<b:=(Int.toNat_lt h.1).mpr h.2
theorem q75 {a b n:Nat} (h:b≤n) (g:1≤a∧a≤b) (r:Nat.beq n 5=true):¬a=6:=fun e=>absurd (yN g.2 h) (by rw[e,Nat.eq_of_beq_eq_true r];decide)
theorem q76 {a b:Nat} (h:decide (b<a)=true):¬a<b:=Nat.not_lt.mpr (Nat.le_of_lt (of_decide_eq_true h))
theorem r1 {x a b:Nat} (h:x≤a) (r:Nat.ble a b=true):x≤b:=yN h (Nat.le_of_ble_eq_true r)
theorem r2 {x a b:Nat} (h:x≤a) (r:Nat.ble (a+1) b=true):x<b:=Nat.lt_of_le_of_lt h (Nat.le_of_ble_eq_true r)
theorem r3 {x a b:Nat} (h:x<a) (r:Nat.ble a b=true):x<b:=Nat.lt_of_lt_of_le h (Nat.le_of_ble_eq_true r)
theorem r4 {x a b:Nat} (h:x<a) (r:Nat.ble a b=true):x≤b:=Nat.le_of_lt (r3 h r)
theorem r5 {x a b:Nat} (h:x=a) (r:Nat.ble a b=true):x≤b:=r1 (Nat.le_of_eq h) r
theorem r6 {x a b:Nat} (h:x=a) (r:Nat.ble (a+1) b=true):x<b:=r2 (Nat.le_of_eq h) r
theorem r7 {x a b:Nat} (h:x=a) (r:Nat.ble b a=true):b≤x:=yN (Nat.le_of_ble_eq_true r) (Nat.le_of_eq h.symm)
theorem r8 {x a b:Nat} (h:x=a) (r:Nat.ble (b+1) a=true):b<x:=r7 h r
theorem r9 {x y a b:Nat} (h:x≤y) (g:y≤a) (r:Nat.ble a b=true):x≤b:=r1 (yN h g) r
theorem r11 {x y a b:Nat} (h:x=y) (g:y≤a) (r:Nat.ble a b=true):x≤b:=r1 (h▸g) r
theorem r12 {x y a b:Nat} (h:x=y) (g:y<a) (r:Nat.ble a b=true):x≤b:=r4 (h▸g) r
theorem r13 {x y a b:Nat} (h:x≤y) (g:y≤a) (r:Nat.ble (a+1) b=true):x<b:=r2 (yN h g) r
theorem r15 {x y a b:Nat} (h:x=y) (g:y≤a) (r:Nat.ble (a+1) b=true):x<b:=r2 (h▸g) r
theorem r20 {x y a b:Nat} (h:x≤y) (g:y=a) (r:Nat.ble (a+1) b=true):x<b:=r2 (g▸h) r
theorem s1 {a b c:Nat} (h:1≤a∧a<c) (e:c - a=c - b):a=b:=Nat.le_antisymm (Nat.le_of_not_lt fun k=>absurd e (Nat.ne_of_lt (Nat.sub_lt_sub_left (Nat.lt_trans k h.2) k))) (Nat.le_of_not_lt fun k=>absurd e.symm (Nat.ne_of_lt (Nat.sub_lt_sub_left h.2 k)))
theorem s2 {a b n:Nat} (e:b=n+1) (h:1≤a∧a≤n+1 - 1):1≤a∧a<b:=⟨h.1,e▸Nat.lt_succ_of_le h.2⟩
theorem s2' {a b n:Nat} (e:b=n+1) (h:1≤a∧a≤n+1 - 1):2≤b:=e▸Nat.succ_le_succ (yN h.1 h.2)
theorem s3 {a:Int} (h:a.natAbs<4611686018427387904): -2 ^ 62≤a:=Int.neg_le_of_neg_le (Int.le_trans (by rw[←Int.natAbs_neg];exact Int.le_natAbs) (Int.ofNat_le.mpr (Nat.le_of_lt h)))
theorem s4 {a:Int} (h:a.natAbs<4611686018427387904):a<2 ^ 62:=Int.lt_of_le_of_lt Int.le_natAbs (Int.ofNat_lt.mpr h)
theorem s5 {a b c:Nat} (h:a - c=b) (k:c=0):a=b:=by rw[k] at h;exact h
theorem s6 {a b n m:Nat} {C:Prop} (h:b≤n) (e:C∧a=b) (r:Nat.ble (n+1) m=true):a - 1<m:=q53 (r2 (e.2▸h) r)
theorem s7 {a b c n m:Nat} (h:c≤n) (e:b=c) (r:Nat.ble n m=true):min a b≤m:=q64 (e▸h) r
theorem yv {a b c n m:Nat} (h:c<n) (e:b=c+1) (r:Nat.ble n m=true):min a b≤m:=q64 (e▸h) r
theorem yg {b c d:Nat} (h:b≤5) (e:c=b - d+1):c≤6:=e▸Nat.succ_le_succ (yN (Nat.sub_le _ _) h)
theorem s8 {a b c d m:Nat} (h:b≤5) (e:c=b - d+1) (g:a≤4*c) (r:Nat.ble 24 m=true):a≤m:=r1 (yN g (Nat.mul_le_mul_left 4 (yg h e))) r
theorem s9 {a k m:Nat} (g:a≤24) (r:Nat.ble 28 m=true):k % 4+a≤m:=r1 (Nat.add_le_add (Nat.le_of_lt (Nat.mod_lt k (by decide:4>0))) g) r
theorem s9' {a b c d k m:Nat} (h:b≤5) (e:c=b - d+1) (g:a≤4*c) (r:Nat.ble 28 m=true):k % 4+a≤m:=s9 (s8 h e g rfl) r
theorem s11 {c d:Nat} (e:c=d+1):((d+1:Nat):Int) - 1=((c - 1:Nat):Int):=by rw[e];show(d:Int)+1 - 1=((d+1 - 1:Nat):Int);exact Int.add_sub_cancel _ 1
theorem yw {a b n m:Nat} (h:b<n) (e:a=b+1) (r:Nat.ble n m=true):a - 1<m:=e▸r3 h r
theorem s13 {a b c:Nat} (e:b=c+1) (h:a≤b - 1):a<b:=q62 h (e▸Nat.succ_pos c)
theorem s14 {a b c n m:Nat} (g:a+b≤c) (h:c<n) (r:Nat.ble n m=true):a<m∧b<m:=⟨r3 (Nat.lt_of_le_of_lt (yN (Nat.le_add_right _ _) g) h) r,r3 (Nat.lt_of_le_of_lt (yN (Nat.le_add_left _ _) g) h) r⟩
theorem s14' {a b c n m:Nat} (g:a+b≤c) (h:c≤n) (r:Nat.ble (n+1) m=true):a<m∧b<m:=s14 g (Nat.lt_succ_of_le h) r
theorem s15 {a b n m:Nat} (h:a≤b) (g:b≤n) (r:Nat.ble (1+n) m=true):1+a≤m:=r1 (Nat.add_le_add_left (yN h g) 1) r
theorem s16 {a b c d:Nat} (h:c<d∨c=d∧a≤b) (g:d<c∨d=c∧b≤a):a=b:=h.elim (fun h=>g.elim (fun g=>absurd g (Nat.lt_asymm h)) fun g=>absurd h (g.1▸Nat.lt_irrefl _)) fun h=>g.elim (fun g=>absurd g (h.1▸Nat.lt_irrefl _)) fun g=>Nat.le_antisymm h.2 g.2
theorem s16' {a b c d:Nat} (h:c<d∨d=c∧b≤a) (g:d<c∨c=d∧a≤b):a=b:=(s16 (h.imp_right fun h=>⟨h.1.symm,h.2⟩) (g.imp_right fun g=>⟨g.1.symm,g.2⟩)).symm
theorem s17 {a b:Nat} {P Q:Prop} (h:b<a∨b=a∧P) (g:a<b∨a=b∧Q):a=b:=h.elim (fun h=>g.elim (fun g=>absurd g (Nat.lt_asymm h)) And.left) fun h=>h.1.symm
theorem s17' {a b:Nat} {P Q:Prop} (h:a<b∨b=a∧P) (g:b<a∨a=b∧Q):a=b:=h.elim (fun h=>g.elim (fun g=>absurd g (Nat.lt_asymm h)) And.left) fun h=>h.1.symm
theorem s18 {a b c:Nat} (h:c<a) (g:a≤b):a - 1<b:=xw (Nat.lt_of_le_of_lt (Nat.zero_le _) h) g
theorem s19 {a c:Nat} {D:Prop} (h:1≤c) (e:D∧a=c):(a:Int) - 1=((a - 1:Nat):Int):=q57 (e.2▸h)
theorem s20 {k x y:Nat} (h:x<y):k≤x↔k≤x∧k<y:=⟨fun g=>⟨g,Nat.lt_of_le_of_lt g h⟩,And.left⟩
theorem s21 {k:Nat} (h:k+1<5):(k+1+4) % 5=k:=(Nat.add_mod_right k 5).trans (Nat.mod_eq_of_lt (Nat.lt_of_succ_lt h))
theorem s22 {A n k c:Nat} (h:A+16*(n+1)<c) (r:Nat.ble k 16=true):A+k+16*n<c:=Nat.lt_of_le_of_lt (by rw[Nat.add_assoc,Nat.add_comm k,Nat.mul_succ];exact Nat.add_le_add_left (Nat.add_le_add_left (Nat.le_of_ble_eq_true r) _) A) h
theorem s23 {a b c:Nat} (h:a+(b+1)<c):a+1+b<c:=by rw[Nat.add_assoc,Nat.add_comm 1 b];exact h
theorem s23' {a b c:Nat} (h:a+(b+1)≤c):a+1+b≤c:=by rw[Nat.add_assoc,Nat.add_comm 1 b];exact h
theorem s24 {a b m k:Nat} (h:a+16*(m+1)<b) (r:Nat.ble k 16=true):a+k<b:=Nat.lt_of_le_of_lt (Nat.le_add_right _ (16*m)) (s22 h r)
theorem s24' {a b m k:Nat} (h:a+16*(m+5)<b) (r:Nat.ble k 80=true):a+k<b:=Nat.lt_of_le_of_lt (Nat.add_le_add_left (yN (Nat.le_of_ble_eq_true r) (Nat.mul_le_mul_left 16 (Nat.le_add_left 5 m))) a) h
theorem s25 (n:Nat): -2 ^ 64<(n:Int):=Int.lt_of_lt_of_le (by decide) (Int.natCast_nonneg n)
theorem s28 {n:Nat}:(-1+((n+1:Nat):Int)).toNat=n:=q8 (Nat.succ_pos n)
theorem t1 {a b c n m:Nat} (e:c+a=b) (h:b≤n) (r:Nat.ble n m=true):a≤m:=r1 (yN (Nat.le_add_left a c) (e▸h)) r
theorem t2 {a b c n m:Nat} (e:a+c=b) (h:b≤n) (r:Nat.ble n m=true):a≤m:=r1 (yN (Nat.le_add_right a c) (e▸h)) r
theorem t3 {a b c n m:Nat} (e:c+a=b) (h:b≤n) (r:Nat.ble (n+1) m=true):a<m:=r2 (yN (Nat.le_add_left a c) (e▸h)) r
theorem t4 {a b c n m:Nat} (e:a+c=b) (h:b≤n) (r:Nat.ble (n+1) m=true):a<m:=r2 (yN (Nat.le_add_right a c) (e▸h)) r
theorem t5 {a c n m:Nat} (h:a+c≤n) (r:Nat.ble n m=true):a≤m:=r1 (yN (Nat.le_add_right a c) h) r
theorem t6 {a c n m:Nat} (h:c+a≤n) (r:Nat.ble n m=true):a≤m:=r1 (yN (Nat.le_add_left a c) h) r
theorem t7 {a c n m:Nat} (h:a+c≤n) (r:Nat.ble (n+1) m=true):a<m:=r2 (yN (Nat.le_add_right a c) h) r
theorem t8 {a c n m:Nat} (h:c+a≤n) (r:Nat.ble (n+1) m=true):a<m:=r2 (yN (Nat.le_add_left a c) h) r
theorem t9 {a b c n m:Nat} (e:a+c=b) (h:b<n) (r:Nat.ble n m=true):a<m:=r3 (Nat.lt_of_le_of_lt (Nat.le_add_right a c) (e▸h)) r
theorem t10 {a c n m:Nat} (h:c+a<n) (r:Nat.ble n m=true):a<m:=r3 (Nat.lt_of_le_of_lt (Nat.le_add_left a c) h) r
theorem yt {a b n m:Nat} {C:Prop} (h:b≤n) (e:C∧a=b) (r:Nat.ble n m=true):a≤m:=r1 (e.2▸h) r
theorem t13 {a n m:Nat} (e:n=m % 2) (r:Nat.ble 2 a=true):n<a:=r3 (e▸Nat.mod_lt m Nat.two_pos) r
theorem yr {a b n m:Nat} (r:Nat.blt 0 n=true) (k:Nat.ble n b=true):a % n<b:=r3 (Nat.mod_lt a (Nat.le_of_ble_eq_true r)) k
theorem t16 {x y z a b:Nat} (h:x=y) (g:y=z) (k:z≤a) (r:Nat.ble a b=true):x≤b:=r1 (h▸g▸k) r
theorem t17 {x y z a b:Nat} (h:x=y) (g:y=z) (k:z≤a) (r:Nat.ble (a+1) b=true):x<b:=r2 (h▸g▸k) r
theorem t18 {a b n m:Nat} (h:a≤n) (g:b≤n) (r:Nat.ble (n+n) m=true):a+b≤m:=r1 (Nat.add_le_add h g) r
theorem t21 {a b c:Nat} (h:a+1<c) (e:b=c):a<b:=Nat.lt_of_lt_of_eq (Nat.lt_of_succ_lt h) e.symm
theorem u1 {a b:Nat} (h:b=a):a≤b:=Nat.le_of_eq h.symm
theorem u2 {a b c:Nat} (h:a≤b) (e:b=c):a≤c:=e▸h
theorem u3 {a b c:Nat} (h:a≤b) (e:c=b):a≤c:=e▸h
theorem u4 {a b c:Nat} (e:a=b) (h:b≤c):a≤c:=e▸h
theorem u7 {a n b:Nat} (r:(Nat.blt 0 n&&Nat.ble n b)=true):a % n<b:=yr (m:=0) (Bool.and_eq_true_iff.mp r).1 (Bool.and_eq_true_iff.mp r).2
theorem u8 {a n b:Nat} (r:(Nat.blt 0 n&&Nat.ble n b)=true):a % n≤b:=Nat.le_of_lt (u7 r)
theorem u9 {a b c:Nat} (h:a<b) (e:c=b):a<c:=e▸h
theorem u10 {a b c:Nat} (e:a=b) (h:b<c):a<c:=e▸h
theorem u12 {a b c x:Nat} (h:a<b) (g:b≤c):a - x<c:=q53 (Nat.lt_of_lt_of_le h g)
theorem u13 {a b c:Nat} (h:a+c<b):a<b:=Nat.lt_of_le_of_lt (Nat.le_add_right a c) h
theorem u15 {a:Nat} {P:Prop} (h:1≤a∧P):a≠0:=Nat.ne_of_gt h.1
theorem u16 {a b c:Nat} (h:a=b) (g:c=b):a=c:=h.trans g.symm
theorem u17 {a b:Nat} (r:Nat.ble a b=true):a≤b:=Nat.le_of_ble_eq_true r
theorem v1 {x a b:Nat} {P:Prop} (h:x≤a∧P) (r:Nat.ble a b=true):x≤b:=r1 h.1 r
theorem v2 {x a b:Nat} {P:Prop} (h:P∧x≤a) (r:Nat.ble a b=true):x≤b:=r1 h.2 r
theorem v3 {x a b:Nat} {P:Prop} (h:x<a∧P) (r:Nat.ble a b=true):x<b:=r3 h.1 r
theorem v4 {x a b:Nat} {P:Prop} (h:P∧x<a) (r:Nat.ble a b=true):x<b:=r3 h.2 r
theorem v5 {a c n m:Nat} {P:Prop} (h:a+c≤n∧P) (r:Nat.ble n m=true):a≤m:=t5 h.1 r
theorem v8 {a c n m:Nat} {P:Prop} (h:c+a≤n∧P) (r:Nat.ble (n+1) m=true):a<m:=t8 h.1 r
theorem w1 {c d:Int} {X:Prop} (e:d=c):X↔(c<d∨c=d∧X):=xl Int.lt_irrefl e
theorem w2 {c d:Nat} {X:Prop} (e:d=c):X↔(c<d∨c=d∧X):=xl Nat.lt_irrefl e
theorem w3 {c d:Int} {X:Prop} (e:c=d):X↔(c<d∨d=c∧X):=xx Int.lt_irrefl e
theorem w4 {c d:Nat} {X:Prop} (e:c=d):X↔(c<d∨d=c∧X):=xx Nat.lt_irrefl e
theorem w5 {c d:Int} {X:Prop} (e:c=d):X↔(c<d∨c=d∧X):=vI Int.lt_irrefl e
theorem w6 {c d:Nat} {X:Prop} (e:c=d):X↔(c<d∨c=d∧X):=vI Nat.lt_irrefl e
theorem x1 {a b c x y z:Int} (h:a<b∨a=b∧x≤y) (g:b<c∨b=c∧y≤z):a<c∨a=c∧x≤z:=xm (lt:=fun a b:Int=>a<b) (le:=fun a b:Int=>a≤b) Int.lt_trans Int.le_trans h g
theorem x2 {a b c x y z:Nat} (h:a<b∨a=b∧y≤x) (g:b<c∨b=c∧z≤y):a<c∨a=c∧z≤x:=xm (lt:=fun a b:Nat=>a<b) (le:=fun a b:Nat=>b≤a) Nat.lt_trans (fun h g=>yN g h) h g
theorem x3 {a b c x y z:Nat} (h:a<b∨a=b∧x≤y) (g:b<c∨b=c∧y≤z):a<c∨a=c∧x≤z:=xm (lt:=fun a b:Nat=>a<b) (le:=fun a b:Nat=>a≤b) Nat.lt_trans yN h g
theorem x4 {a b c x y z:Nat} (h:b<a∨a=b∧x≤y) (g:c<b∨b=c∧y≤z):c<a∨a=c∧x≤z:=xm (lt:=fun a b:Nat=>b<a) (le:=fun a b:Nat=>a≤b) (fun h g=>Nat.lt_trans g h) yN h g
theorem y1 {k r x z:Nat} (h:x<r∧r<z):((k≤r∧¬k≤x)∧k<z)↔(x<k∧k≤r):=⟨fun g=>⟨Nat.lt_of_not_le g.1.2,g.1.1⟩,fun g=>⟨⟨g.2,Nat.not_le.mpr g.1⟩,Nat.lt_of_le_of_lt g.2 h.2⟩⟩
theorem y2 {a b c d:Int} (ha:0≤a) (h:0≤b∧b≤c∧0≤d∧d≤c):0≤a+b∧b≤c∧0≤d∧d≤a+c:=⟨Int.add_nonneg ha h.1,h.2.1,h.2.2.1,Int.le_trans h.2.2.2 (Int.le_add_of_nonneg_left ha)⟩
theorem y3 {a b:Int} (ha:0≤a) (h:0≤b):0≤a+b∧0≤a∧a≤a+b:=⟨Int.add_nonneg ha h,ha,Int.le_add_of_nonneg_right h⟩
theorem y4 {a b c d f:Nat} {E:Prop} (h5:a≤f) (h4:f≤d) (h3:E∧b=c) (h2:d≤200) (h1:c≤5):a+(b - 1)≤1000:=r1 (Nat.add_le_add (yN h5 (yN h4 h2)) (yN (Nat.sub_le _ _) (h3.2▸h1))) rfl
theorem y5 {c d:Nat} {X:Prop} (e:d=c):X↔(c<d∨d=c∧X):=⟨fun x=> .inr ⟨e,x⟩,fun h=>h.elim (fun l=>absurd (e▸l) (Nat.lt_irrefl _)) And.right⟩
theorem y8 {a b c:Nat} (h:b - a=c) (g:b≤c) (k:c>0):a=0:=Nat.eq_zero_of_not_pos fun p=>absurd h (Nat.ne_of_lt (Nat.lt_of_lt_of_le (Nat.sub_lt (Nat.pos_of_ne_zero fun e=>by rw[e,Nat.zero_sub] at h;exact absurd h (Nat.ne_of_lt k)) p) g))
theorem y9 {a b:Nat} (h:1≤a) (g:a≤b):a - 1<b:=xw h g
theorem y10 {p:Nat} (h:1≤p):(p:Int) - 1=((p - 1:Nat):Int):=q57 h
theorem y11 {a:Int} {b c:Nat} (h2:1≤b∧b≤c) (h1:c≤5) (h3:0<a∧a<256):256<a↔6<b:=iff_of_false (Int.lt_asymm h3.2) (Nat.not_lt.mpr (yN h2.2 (Nat.le_succ_of_le h1)))
theorem y12 {a:Int} {b c:Nat} (h2:1≤b∧b≤c) (h1:c≤5) (h3:0<a∧a<256):a<256↔b<6:=iff_of_true h3.2 (Nat.lt_succ_of_le (yN h2.2 h1))
theorem y13 {a:Int} {b c:Nat} (h2:1≤b∧b≤c) (h3:0<a∧a<256):0<a↔0<b:=iff_of_true h3.1 h2.1
theorem y14 {a:Int} {b:Nat} (h3:0<a∧a<256):a<0↔b<0:=iff_of_false (Int.lt_asymm h3.1) (Nat.not_lt_zero b)
theorem y15 {b c d:Nat} (h2:1≤b∧b≤c) (h1:c≤5) (h3:d<24):(d:Int)<24↔b<6:=iff_of_true (Int.ofNat_lt.mpr h3) (Nat.lt_succ_of_le (yN h2.2 h1))
theorem y16 {b c d:Nat} (h2:1≤b∧b≤c) (h1:c≤5) (h3:d<24):24<(d:Int)↔6<b:=iff_of_false (Int.lt_asymm (Int.ofNat_lt.mpr h3)) (Nat.not_lt.mpr (yN h2.2 (Nat.le_succ_of_le h1)))
theorem y17 {b c d:Nat} (h2:1≤b∧b≤c): -1<(d:Int)↔0<b:=iff_of_true (Int.lt_of_lt_of_le (by decide) (Int.natCast_nonneg d)) h2.1
theorem vC {a:Int} {b c:Nat} (g:0≤a) (e:a.toNat=c) (k:c<b) (h:b<1000000):a<1000000:=(Int.toNat_lt g).mp (e▸Nat.lt_trans k h)
theorem y18 {a:Int} {b c:Nat} (g:0≤a) (e:a.toNat=c) (k:c<b) (h:b<1000000): -9223372036854775808≤a∧a<9223372036854775808:=⟨Int.le_trans (by decide) g,Int.lt_trans (vC g e k h) (by decide)⟩
theorem y19 {a:Int} {b c:Nat} (g:0≤a) (e:a.toNat=c) (k:c<b) (h:b<1000000):a<2 ^ 63:=Int.lt_trans (vC g e k h) (by decide)
theorem y20 {a:Int} {b:Nat} (g:0≤a) (k:a.toNat<b) (h:b≤100000):a<2 ^ 63:=Int.lt_trans ((Int.toNat_lt g).mp (Nat.lt_of_lt_of_le k h)) (by decide)
theorem y21 {a:Int} {c d:Nat} (g:0≤a) (h:a.toNat<c) (e:d=c):a<(d:Int):=(Int.toNat_lt g).mp (e▸h)
theorem y22 {a b c m:Nat} (e:a=b - c+1) (h:b≤5) (r:Nat.ble 6 m=true):a≤m:=r1 (yg h e) r
theorem y23 {a b c d n m:Nat} (g:a+b≤d) (h:c+d<n) (r:Nat.ble n m=true):a<m∧b<m:=s14 g (Nat.lt_of_le_of_lt (Nat.le_add_left d c) h) r
theorem y24 {a b c n m:Nat} (e:b=c+1) (h:c<n) (r:Nat.ble n m=true):min a b≤m:=yv h e r
theorem y25 {a b n m:Nat} (e:a=b+1) (h:b<n) (r:Nat.ble n m=true):a - 1<m:=yw h e r
theorem y26 {a b c n m:Nat} (e:b=c) (h:c≤n) (r:Nat.ble n m=true):min a b≤m:=s7 h e r
theorem y27 {a b n m:Nat} {C:Prop} (e:C∧a=b) (h:b≤n) (r:Nat.ble (n+1) m=true):a - 1<m:=s6 h e r
theorem y29 {a b n:Nat} (h:a≤b) (g:b≤n) (r:Nat.ble (n+1) 18446744073709551616=true):(a:Int)<2 ^ 64:=Int.lt_of_lt_of_le (Int.ofNat_lt.mpr (r13 h g r)) (by decide)
theorem y30 {a b c d g n m:Nat} (e:g+a=b) (h:b+c+d≤n) (r:Nat.ble n m=true):a≤m:=r1 (yN (Nat.le_add_left a g) (e▸yN (Nat.le_add_right b c) (yN (Nat.le_add_right _ d) h))) r
theorem y31 {a b c d:Nat} (h:a≤d) (g:b≤c*d):a+b≤c*d+d:=Nat.add_comm a b▸Nat.add_le_add g h
theorem y32 {a b:Nat} (g:a≤b*5) (h:b≤5):a≤25:=yN g (Nat.mul_le_mul_right 5 h)
theorem y33 {a:Nat} (h:2≤a):0<a - 1:=Nat.sub_pos_of_lt h
theorem y34 {a b c d:Nat} (e:b=1) (h:a+(c+3)<d):a+b+(c+1)<d:=Nat.lt_of_le_of_lt (by rw[e,Nat.add_assoc,Nat.add_comm 1];exact Nat.add_le_add_left (Nat.le_succ _) a) h
theorem y36 {a b c f:Nat} (e:b+f=c):a+b≤a+c:=Nat.add_le_add_left (e▸Nat.le_add_right b f) a
theorem y37 {a b c:Nat} (e:a=b) (r:Nat.beq (b - 1) c=true):a - 1=c:=e▸Nat.eq_of_beq_eq_true r
theorem y38 {a b c d n m k:Nat} (h1:a≤d) (h2:b≤c) (h3:d≤n) (h4:c≤m) (r:Nat.ble (n+m) k=true):a+b≤k:=r1 (Nat.add_le_add (yN h1 h3) (yN h2 h4)) r
theorem y39 {a b c d:Nat} (g:a<b∧b≤d) (h:d<c):a<b∧b≤c:=⟨g.1,yN g.2 (Nat.le_of_lt h)⟩
theorem y40 {a b m:Nat} (h:a+16*(m+1)<b):a+1+1<b:=s24 (k:=2) h rfl
theorem y41 {a b c n m k:Nat} (h:b≤n) (g:c≤m) (r:Nat.ble (n+m) k=true):min a b+c≤k:=r1 (Nat.add_le_add (yN (Nat.min_le_right a b) h) g) r
theorem y42 {a b:Nat} (h:a<b) (g:¬a=b - 1):a<b - 1:=Nat.lt_of_le_of_ne (Nat.le_sub_one_of_lt h) g
theorem y43 {a b c:Nat} (h:a≤b+c):a+1≤b+(c+1):=Nat.succ_le_succ h
theorem y44 {A n c:Nat} (h:A+16*(n+1)<c):A+1+1+16*n<c:=s22 (k:=2) h rfl
theorem y45 {a b c:Nat} (h:a+(b+1)<c):a+b<c:=Nat.lt_of_succ_lt h
theorem y46 {a k m:Nat} (g:a≤4*6) (r:Nat.ble 28 m=true):k % 4+a≤m:=s9 g r
theorem y47 {a k n m:Nat} (e:n=m % k) (r:(Nat.blt 0 k&&Nat.ble k a)=true):n<a:=e▸u7 r
theorem y48 {a c n m:Nat} {P:Prop} (h:c+a≤n∧P) (r:Nat.ble (n+1) m=true):0+a<m:=(Nat.zero_add a).symm▸v8 h r
theorem y49 {a b n m:Nat} {C:Prop} (e:C∧a=b) (h:b≤n) (r:Nat.ble n m=true):a≤m:=yt h e r
theorem y50 {a b c n m:Nat} (e:a+b=c) (h:c≤n) (r:Nat.ble (n+1) m=true):a+1+b≤m:=r1 (by rw[Nat.add_right_comm];exact Nat.succ_le_succ (e▸h)) r
theorem y51 {a b c:Nat} (g:¬b≤a) (h:b<c):a<b∧b<c:=⟨Nat.lt_of_not_le g,h⟩
theorem y53 {a b:Nat} (e:a=b) (h:¬b<2):2≤a:=e▸Nat.le_of_not_lt h
noncomputable abbrev zA (a b:Nat):Prop:=a≤b
noncomputable abbrev zB (a b:Nat):Prop:=a<b
noncomputable abbrev zC (a b:Nat):Prop:=a=b
noncomputable abbrev zD (a b:Int):Prop:=a=b
noncomputable abbrev zE (a b:Prop):Prop:=a↔b
noncomputable abbrev zF (a:Prop):Prop:=¬a
noncomputable abbrev zG (a b:Prop):Prop:=a∨b
noncomputable abbrev zH (a b:Prop):Prop:=a∧b
noncomputable abbrev zI (a b:Int):Prop:=a≤b
noncomputable abbrev zJ (a b:Int):Prop:=a<b
noncomputable abbrev zK:Prop:=False
open Lean in
local macro_rules
  | `(tactic| obtain $p:rcasesPatMed := $e:term) => do
    let rec flat (s : Syntax) : Nat → List Syntax
      | 0 => [s]
      | n + 1 =>
        if s.getKind == `Lean.Parser.Tactic.rcasesPatMed then (if s[0].getNumArgs == 1 then flat s[0][0] n else [mkNode `Lean.Parser.Tactic.rcasesPat.paren #[mkAtom "(", mkNode `Lean.Parser.Tactic.rcasesPatLo #[s, mkNullNode], mkAtom ")"]])
        else
          let xs := s[1].getSepArgs.toList
          if s.getKind != `Lean.Parser.Tactic.rcasesPat.tuple || xs.isEmpty || xs.any (fun x => x[1].getNumArgs > 0) then [s]
          else xs.dropLast.map (fun x => if x[0][0].getNumArgs == 1 then x[0][0][0] else x[0]) ++ flat xs.getLast![0] n
    let ps := (flat p.raw 20).toArray
    let k := ps.size
    if k < 2 || k > 14 then Macro.throwUnsupported
    let isT (s : Syntax) : Bool := s.getKind == `Lean.Parser.Tactic.rcasesPat.tuple && s[1].getSepArgs.size > 1
    let ts : Array (TSyntax `tactic) ← ps.mapM fun s =>
      if isT s then `(tactic| (intro zz; obtain $(⟨mkNode `Lean.Parser.Tactic.rcasesPatMed #[mkNullNode #[s]]⟩):rcasesPatMed := zz)) else `(tactic| rintro $(⟨mkNode `Lean.Parser.Tactic.rintroPat.one #[s]⟩):rintroPat)
    let alts : Array (TSyntax `Lean.Parser.Tactic.tacticSeq) ← ((List.range k).filter fun a => a < 9 && k - a < 13).toArray.mapM fun a =>
      `(tacticSeq| (refine $(mkIdent (`Mine.Internal ++ Name.mkSimple s!"ob{a}x{k - a}")) $e ?_; try clear $e); $[$ts:tactic];*)
    `(tactic| first $[| $alts]* | rcases $e:term with $p)
open Lean in
local macro_rules
  | `(tactic| fail $s:str) => do
    match s.getString.splitOn "/" with
    | "" :: p :: q =>
      let r := (p.splitOn " ").tail!
      let (d, r) := if r.isEmpty || p.startsWith "z" then ("/", q) else (" ", r)
      if r.isEmpty then Macro.throwUnsupported
      `(tactic| fail $(quote ("/" ++ d.intercalate r)))
    | _ => Macro.throwUnsupported
open Lean in
local macro_rules
  | `(tactic| fail $s:str) => do
    match s.getString.splitOn "/" with
    | "" :: p :: _ =>
      let q := p.splitOn " "
      let a := q.head!
      let n := (a.takeWhile (· != ':')).toString.toName
      let h ← `(‹_›)
      let o ← `(_)
      let t := Syntax.mkApp (mkIdent (if n.isAtomic then `Mine.Internal ++ n else n)) ((a.toList.filter fun c => c == '+' || c == '*').map fun c => if c == '+' then h else o).toArray
      if a.startsWith "z" then `(tactic| (guard_target = $t; fail $(quote ("/" ++ " ".intercalate q.tail!))))
      else if a.endsWith "r" then `(tactic| (refine $t ?_; with_unfolding_all exact rfl))
      else if a.endsWith "u" then `(tactic| with_unfolding_all exact $t)
      else `(tactic| exact $t)
    | _ => Macro.throwUnsupported
local macro_rules | `(tactic| omega) => `(tactic| first | assumption | with_reducible fail "/Eq.refl:*/And.left:+/And.right:+/zA:** r1:+r Nat.le_add_left:** Nat.le_of_not_lt:+ r4:+r r12:++r r5:+r Nat.le_of_lt:+ t5:+r Nat.le_succ_of_le:+ yN:++ Nat.le_of_not_le:+ r11:++r t16:+++r u4:++ s23':+ y26:++r Nat.le_of_eq:+ u1:+ Nat.le_sub_one_of_lt:+ y22:++r Nat.le_add_right:** r9:++r q5:** q64:+r q65:++ s2':++ s7:++r s9':+++r s15:++r Nat.min_le_left:** t1:++r t2:++r y24:++r y49:++r y53:++ Nat.le_refl:* Nat.succ_le_succ:+ u3:++ r7:+r q10:*** q66:+r Nat.le_of_sub_eq_zero:+ s8:+++r t18:++r u8:r t6:+r v1:+r v2:+r v5:+r y4:+++++ y30:++r y31:++ y32:++ y36:+ y38:++++r y41:++r y43:+ y46:+r y50:++r u17:r/zB:** r3:+r u9:++ Nat.lt_succ_of_le:+ r2:+r r6:+r r15:++r t17:+++r u13:+ t7:+r y9:++ t21:++ Nat.succ_lt_succ:+ u10:++ r8:+r q19:+ q20:+ q21:++ r13:++r q53:+ s18:++ u7:r y48:+r Nat.succ_pos:* Nat.lt_of_not_le:+ Nat.lt_of_le_of_lt:++ Nat.lt_of_le_of_ne:++ q55:++ q56:++ q59:++ q62:++ Nat.lt_of_succ_lt:+ q14:++ Nat.add_lt_of_lt_sub':+ q74:+ s22:+r s23:+ t10:+r v3:+r v4:+r y45:+ Nat.pos_of_ne_zero:+ Nat.lt_of_succ_lt_succ:+ Nat.lt_trans:++ r20:++r u12:++ q60:++ q12:++r q63:+r q72:+ s24:+r s24':+r t13:+r s13:++ t3:++r t9:++r y25:++r y27:++r y33:+ y34:++ y40:+ y42:++ y44:+ y47:+r/zC:** Nat.le_antisymm:++ Nat.sub_add_cancel:+u q23:+++ q2:+ q3:+ q68:++ q71:+ q31:+++ u16:++ q61:+ q4:++ q1:** q7:* q8:+ q9:+ q11:+r q13:+r q13:++ q69:+ q70:++ q73:++ s1:++ s5:++ s16:++ s16':++ s17:++ s17':++ s21:+ s28: y8:+++ y37:+r/zD:** q57:+ q58:+ q6:* s11:+ s19:++ y10:+/zE:** Int.ofNat_lt:u q27:+u q30:+ q43:+ q28:+ q33:+ q34:+ q35:+ q36:+ q37:+ q38:+++ q39':+++ w5:+ w6:+ q47:+ q48:+ q49:+ q50:+ q51:+ q52:+ s20:+ Int.ofNat_inj:u y1:+ y5:+ y11:+++ y12:+++ y13:++ y14:+ y15:+++ y16:+++ y17:+/zF:* q75:++r u15:+ q76:+ Nat.not_lt.mpr:+ Nat.not_le.mpr:+/zG:** x1:++ x2:++ x4:++ q41:+ q42:+/zH:** s2:++ s14:++r s14':++r y2:++ y3:++ y18:++++ y23:++r y39:++ y51:++/zI:** s3:+ Int.natCast_nonneg:*/zJ:** s4:+ s25:* y19:++++ y20:+++ y21:+++ y29:++r/zK: q25:+++ q26:+++" | contradiction | lia)
section
open PySem PySem.W PyProof.Rows PySem.Calls
noncomputable def mO {α:Type} (r:α→α→Bool) (x:α):List α→List α
 | []=>[x]
 | y::t=>if r y x then y::mO r x t else x::y::t
noncomputable def dc {α:Type} (r:α→α→Bool):List α→List α
 | []=>[]
 | x::t=>mO r x (dc r t)
noncomputable def bg (l:List Nat):List (Nat×Nat):=l.zipIdx.flatMap fun q=>((l.take q.2).filter fun a=>decide (a>q.1)).map fun a=>(a,q.1)
noncomputable def bQ (l:List Nat) (k:Nat):List Nat:=l.take k++[l.getD (k+1) 0]++[l.getD k 0]++l.drop (k+2)
noncomputable def tJ (l:List Nat) (k:Nat):Bool:=(l.take k).countP (· <l.getD k 0) != (l.take k).countP (·≤l.getD (k+1) 0)
noncomputable def dq (one:List Nat) (f:List (List Nat)) (k:Nat):List (List Nat):=if tJ one k&&!f.contains (bQ one k) then f++[bQ one k] else f
noncomputable def bx:Nat→Nat→List (List Nat)→Option (List (List Nat))
 | 0,_,_=>none
 | n+1,i,f=>if i<f.length then bx n (i+1) ((List.range ((f.getD i []).length - 1)).foldl (dq (f.getD i [])) f) else some f
noncomputable def eM (l:List Nat) (r:Nat):List Nat:=l.take (l.countP (·≤r))++r::l.drop (l.countP (·≤r))
noncomputable def dU:List Nat→List Nat→Bool
 | x::a,y::b=>if x==y then dU a b else decide (x<y)
 | _,_=>false
noncomputable def jE (row:List Nat) (r p:Nat):List Nat:=[if p==0 then 0 else row.getD (p - 1) 0,r,if p<row.length then row.getD p 0 else 6]
noncomputable def bJ (s:List Nat×List (List Nat)) (r:Nat):List Nat×List (List Nat):=
 (eM s.1 r,if s.1.countP (· <r)==s.1.length||decide (r<s.1.getD (s.1.countP (· <r)) 0) then s.2++[jE s.1 r (s.1.countP (· <r))] else s.2)
noncomputable def b7 (up:Bool) (a b:Nat):Bool:=if up then decide (a<b) else decide (b<a)
noncomputable def gW (up:Bool) (s:List Nat×List Nat) (x:Nat):List Nat×List Nat:=(x::s.1.dropWhile (b7 up · x),s.2++s.1.takeWhile (b7 up · x))
noncomputable def dF (up:Bool) (l:List Nat):List Nat:=let s:=l.foldl (gW up) ([],[]);s.2++s.1
noncomputable def jg (l:List Nat) (h:Nat):Nat:=(l.filter (· <h)).foldl Nat.max 0
noncomputable def fb (l:List Nat) (h:Nat):Nat:=(l.filter (h< ·)).foldl Nat.min 6
noncomputable def fX (F:List Nat):List (List Nat):=(List.range F.length).map fun k=>[jg (F.take k) (F.getD k 0),F.getD k 0,fb (F.take k) (F.getD k 0)]
noncomputable def au (F:List Nat):List (List Nat):=dc dU (fX F)
noncomputable def cJ (l:List Nat):List (List Nat):=dc dU (l.foldl bJ ([],[])).2
noncomputable abbrev gA (t:List Nat):Nat:=t.getD 0 0
noncomputable abbrev gB (t:List Nat):Nat:=t.getD 1 0
noncomputable abbrev gC (t:List Nat):Nat:=t.getD 2 0
noncomputable def gv (own:List (List Nat)):Nat:=own.foldl (fun z t=>z*(own.filter fun g=>decide (gA t<gB g)&&decide (gB g<gC t)).length) 1
noncomputable def eK (s t:List Nat):Bool:=if gA s==gA t then decide (gC t<gC s) else decide (gA s<gA t)
noncomputable def eJ (s t:List Nat):Bool:=if gC s==gC t then decide (gA s<gA t) else decide (gC t<gC s)
noncomputable def fm (up:Bool) (s t:List Nat):Bool:=if up then decide (gB s<gB t) else decide (gB t<gB s)
noncomputable def cq (own:List (List Nat)):List Nat:=(dc eK own).map gB
noncomputable def cV (own:List (List Nat)):List Nat:=(dc eJ own).map gB
noncomputable def jy (up:Bool) (own:List (List Nat)):List Nat:=(dc (fm up) own).map gB
noncomputable def c7 (own:List (List Nat)) (S:List Nat):Bool:=((bg (cq own)).filter fun p=>!(bg S).contains p)++((bg S).filter fun p=>!(bg (cV own)).contains p)==[]
noncomputable def nO:List Nat:=[1,1,2,6,24,120]
noncomputable def PR:Nat→List (List Nat)
 | 1=>[[0]]
 | 2=>[[0,1],[1,0]]
 | 3=>[[0,1,2],[0,2,1],[1,0,2],[1,2,0],[2,0,1],[2,1,0]]
 | 4=>[[0,1,2,3],[0,1,3,2],[0,2,1,3],[0,2,3,1],[0,3,1,2],[0,3,2,1],[1,0,2,3],[1,0,3,2],[1,2,0,3],[1,2,3,0],[1,3,0,2],[2,0,1,3],[2,0,3,1],[2,1,0,3],[3,0,1,2]]
 | 5=>[[0,1,2,3,4],[0,1,2,4,3],[0,1,3,2,4],[0,1,3,4,2],[0,1,4,2,3],[0,1,4,3,2],[0,2,1,3,4],[0,2,1,4,3],[0,2,3,1,4],[0,2,3,4,1],[0,2,4,1,3],[0,3,1,2,4],[0,3,1,4,2],[0,3,2,1,4],[0,4,1,2,3],[1,0,2,3,4],[1,0,2,4,3],[1,0,3,2,4],[1,0,3,4,2],[1,0,4,2,3],[1,2,0,3,4],[1,2,0,4,3],[1,2,3,0,4],[1,3,0,2,4],[2,0,1,3,4],[2,0,1,4,3],[2,0,3,1,4],[2,1,0,3,4],[3,0,1,2,4]]
 | _=>[]
noncomputable def jf (F s:List Nat):List Nat:=s.map fun k=>F.getD k 0
noncomputable def rG (t:List Nat) (r:Nat):Bool:=decide (gA t<r)&&decide (r<gC t)
noncomputable def xt (own:List (List Nat)) (S:List Nat):Bool:=own.all fun t=>S.find? (rG t)==some (gB t)
noncomputable def vW (own FO:List (List Nat)) (S:List Nat):Bool:=(xt own S==(cJ S==own))&&((cJ S==own)==FO.contains S)&&(FO.contains S==c7 own S)
noncomputable def xZ (own:List (List Nat)):Bool:=own.all fun s=>decide (gA s<gB s)&&decide (gB s<gC s)&&own.all fun t=>(!(gA s==gA t&&gC s==gC t)||s==t)&&(!(gB s==gB t)||s==t)
noncomputable def jz (F:List Nat):Bool:=xZ (au F)&&match bx 130 0 [F] with
 | none=>false
 | some FO=>decide (FO.length≤200)&&FO.length*gv (au F)==nO.getD F.length 0&&
  (FO.filter fun o=>dF true o==jy true (au F))==[cq (au F)]&&(FO.filter fun o=>dF false o==jy false (au F))==[cV (au F)]&&
  (PR F.length).all fun s=>vW (au F) FO (jf F s)
noncomputable def xI:List (List Nat):=[[1,2,3,4,5],[1,2,3,5,4],[1,2,4,3,5],[1,2,4,5,3],[1,2,5,3,4],[1,2,5,4,3],[1,3,2,4,5],[1,3,2,5,4],[1,3,4,2,5],[1,3,4,5,2],[1,3,5,2,4],[1,3,5,4,2],[1,4,2,3,5],[1,4,2,5,3],[1,4,3,2,5],[1,4,3,5,2],[1,4,5,2,3],[1,4,5,3,2],[1,5,2,3,4],[1,5,2,4,3],[1,5,3,2,4],[1,5,3,4,2],[1,5,4,2,3],[1,5,4,3,2]]
noncomputable def xH:List (List Nat):=[[2,1,3,4,5],[2,1,3,5,4],[2,1,4,3,5],[2,1,4,5,3],[2,1,5,3,4],[2,1,5,4,3],[2,3,1,4,5],[2,3,1,5,4],[2,3,4,1,5],[2,3,4,5,1],[2,3,5,1,4],[2,3,5,4,1],[2,4,1,3,5],[2,4,1,5,3],[2,4,3,1,5],[2,4,3,5,1],[2,4,5,1,3],[2,4,5,3,1],[2,5,1,3,4],[2,5,1,4,3],[2,5,3,1,4],[2,5,3,4,1],[2,5,4,1,3],[2,5,4,3,1]]
noncomputable def xG:List (List Nat):=[[3,1,2,4,5],[3,1,2,5,4],[3,1,4,2,5],[3,1,4,5,2],[3,1,5,2,4],[3,1,5,4,2],[3,2,1,4,5],[3,2,1,5,4],[3,2,4,1,5],[3,2,4,5,1],[3,2,5,1,4],[3,2,5,4,1],[3,4,1,2,5],[3,4,1,5,2],[3,4,2,1,5],[3,4,2,5,1],[3,4,5,1,2],[3,4,5,2,1],[3,5,1,2,4],[3,5,1,4,2],[3,5,2,1,4],[3,5,2,4,1],[3,5,4,1,2],[3,5,4,2,1]]
noncomputable def xF:List (List Nat):=[[4,1,2,3,5],[4,1,2,5,3],[4,1,3,2,5],[4,1,3,5,2],[4,1,5,2,3],[4,1,5,3,2],[4,2,1,3,5],[4,2,1,5,3],[4,2,3,1,5],[4,2,3,5,1],[4,2,5,1,3],[4,2,5,3,1],[4,3,1,2,5],[4,3,1,5,2],[4,3,2,1,5],[4,3,2,5,1],[4,3,5,1,2],[4,3,5,2,1],[4,5,1,2,3],[4,5,1,3,2],[4,5,2,1,3],[4,5,2,3,1],[4,5,3,1,2],[4,5,3,2,1]]
noncomputable def xE:List (List Nat):=[[5,1,2,3,4],[5,1,2,4,3],[5,1,3,2,4],[5,1,3,4,2],[5,1,4,2,3],[5,1,4,3,2],[5,2,1,3,4],[5,2,1,4,3],[5,2,3,1,4],[5,2,3,4,1],[5,2,4,1,3],[5,2,4,3,1],[5,3,1,2,4],[5,3,1,4,2],[5,3,2,1,4],[5,3,2,4,1],[5,3,4,1,2],[5,3,4,2,1],[5,4,1,2,3],[5,4,1,3,2],[5,4,2,1,3],[5,4,2,3,1],[5,4,3,1,2],[5,4,3,2,1]]
noncomputable def AF:Nat→List (List Nat)
 | 1=>[[1]]
 | 2=>[[1,2],[2,1]]
 | 3=>[[1,2,3],[1,3,2],[2,1,3],[2,3,1],[3,1,2],[3,2,1]]
 | 4=>[[1,2,3,4],[1,2,4,3],[1,3,2,4],[1,3,4,2],[1,4,2,3],[1,4,3,2],[2,1,3,4],[2,1,4,3],[2,3,1,4],[2,3,4,1],[2,4,1,3],[2,4,3,1],[3,1,2,4],[3,1,4,2],[3,2,1,4],[3,2,4,1],[3,4,1,2],[3,4,2,1],[4,1,2,3],[4,1,3,2],[4,2,1,3],[4,2,3,1],[4,3,1,2],[4,3,2,1]]
 | 5=>xI++xH++xG++xF++xE
 | _=>[]
theorem ya:(AF 1).all jz=true:=by decide +kernel
theorem x9:(AF 2).all jz=true:=by decide +kernel
theorem x8:(AF 3).all jz=true:=by decide +kernel
theorem x7:(AF 4).all jz=true:=by decide +kernel
theorem xc:xI.all jz=true:=by decide +kernel
theorem w':xH.all jz=true:=by decide +kernel
theorem w9:xG.all jz=true:=by decide +kernel
theorem w8:xF.all jz=true:=by decide +kernel
theorem w7:xE.all jz=true:=by decide +kernel
end
section
open PySem PySem.Calls PyProof.Rows PySem.W
inductive PV where
 | none
 | bool (b:Bool)
 | int (i:Int)
 | str (s:Str)
 | tup (l:List PV)
 | lst (l:List PV)
 | ins (c:Addr) (names:List Str) (vals items:List PV) (sq:Bool)
 | opq (v:Value)
noncomputable abbrev ae:=Addr→Option Obj
noncomputable def Sub (G G':ae):Prop:=∀b o,G b=some o→G' b=some o
theorem Sub.refl (G:ae):Sub G G:=fun _ _ e=>e
theorem Sub.trans {G G' G'':ae} (a:Sub G G') (b:Sub G' G''):Sub G G'':=fun x o e=>b x o (a x o e)
inductive mK (o:Obj) (m:Str→Option Value):Prop
 | mk (es ep) (a:o.data= .dict es ep) (b:StrKeys es) (c:∀name,nsFind es name=m name)
theorem mK.of {h:Heap} {a:Addr} {m:Str→Option Value} (x:h.Ns a m):∃o,h.get? a=some o∧mK o m:=let ⟨o,es,ep,e,d,r⟩:=x;⟨o,e,es,ep,d,r.1,r.2⟩
noncomputable def eB:List Str:=[⟨#[112,117,115,104]⟩,⟨#[112,111,112,95,102,114,111,109]⟩,⟨#[112,111,112]⟩,⟨#[114,101,115,101,116]⟩,⟨#[105,115,95,111,110,108,121,119,115]⟩,⟨#[112,97,114,116,95,99,111,117,110,116]⟩,⟨#[97,112,112,101,110,100]⟩,⟨#[110,101,119,108,105,110,101]⟩,⟨#[95,97,112,112,101,110,100,95,99,104,117,110,107]⟩,⟨#[95,115,116,114]⟩]
noncomputable def Tells (m:Str→Option Value) (names:List Str) (us:List Value):Prop:=(∀x u,(x,u)∈names.zip us→m x=some u)∧∀x∈eB,m x=none
noncomputable def bM (o:Obj) (c d:Addr) (sq:Bool) (vs:List Value):Prop:=o.cls= .ref c∧o.dict=some d∧(if sq=true then ∃k,o.data= .seq vs.toArray k else o.data= .plain∧vs=[])
inductive vZ (G:ae) (v:Value) (c:String) (P:List Value→Prop):Prop
 | mk (a o vs n) (e:v= .ref a) (g:G a=some o) (i:o.cls= .type c) (d:o.data= .seq (List.toArray vs) n) (r:P vs)
inductive yf (G:ae) (v:Value) (c:Addr) (names:List Str) (sq:Bool) (P Q:List Value→Prop):Prop
 | mk (a o d od m us vs) (e:v= .ref a) (g:G a=some o) (i:bM o c d sq vs) (k:G d=some od) (n:mK od m) (t:Tells m names us) (x:P us) (y:Q vs)
inductive xj (vs:List Value) (P:Value→Prop) (Q:List Value→Prop):Prop
 | mk (v r) (e:vs=v::r) (x:P v) (y:Q r)
mutual
noncomputable def Rd (G:ae):PV→Value→Prop
 | .none,v=>v= .none
 | .bool b,v=>v= .bool b
 | .int i,v=>∃t,v= .int i t
 | .str s,v=>∃t,v= .str s t
 | .tup l,v=>vZ G v "tuple" (aE G l)
 | .lst l,v=>vZ G v "list" (aE G l)
 | .ins c names vals items sq,v=>yf G v c names sq (aE G vals) (aE G items)
 | .opq u,v=>v=u
noncomputable def aE (G:ae):List PV→List Value→Prop
 | [],vs=>vs=[]
 | p::l,vs=>xj vs (Rd G p) (aE G l)
end
mutual
theorem Rd.mono {G G':ae} (h:Sub G G'):∀(p:PV) (v:Value),Rd G p v→Rd G' p v
 | .none,_,x=>x
 | .bool _,_,x=>x
 | .int _,_,x=>x
 | .str _,_,x=>x
 | .tup l,_,⟨a,o,vs,n,e,g,c,d,r⟩=>⟨a,o,vs,n,e,h _ _ g,c,d,aE.mono h l vs r⟩
 | .lst l,_,⟨a,o,vs,n,e,g,c,d,r⟩=>⟨a,o,vs,n,e,h _ _ g,c,d,aE.mono h l vs r⟩
 | .ins _ _ vals items _,_,⟨a,o,d,od,m,us,vs,e,g,i,g2,nn,mm,r1,r2⟩=>⟨a,o,d,od,m,us,vs,e,h _ _ g,i,h _ _ g2,nn,mm,aE.mono h vals us r1,aE.mono h items vs r2⟩
 | .opq _,_,x=>x
theorem aE.mono {G G':ae} (h:Sub G G'):∀(l:List PV) (vs:List Value),aE G l vs→aE G' l vs
 | [],_,x=>x
 | p::l,_,⟨v,r,e,x,y⟩=>⟨v,r,e,Rd.mono h p v x,aE.mono h l r y⟩
end
theorem aE.nil {G:ae}:aE G [] []:=rfl
theorem aE.cons {G:ae} {p:PV} {v:Value} {l:List PV} {vs:List Value} (a:Rd G p v) (b:aE G l vs):aE G (p::l) (v::vs):=⟨v,vs,rfl,a,b⟩
theorem aE.length {G:ae}:∀{l:List PV} {vs:List Value},aE G l vs→vs.length=l.length
 | [],_,h=>by cases h;rfl
 | _::_,_,⟨_,_,e,_,r⟩=>by subst e;exact congrArg (· +1) (aE.length r)
theorem aE.append {G:ae}:∀{l:List PV} {vs:List Value} {l':List PV} {vs':List Value},aE G l vs→aE G l' vs'→aE G (l++l') (vs++vs')
 | [],_,_,_,h,h'=>by cases h;exact h'
 | _::_,_,_,_,⟨v,r,e,x,y⟩,h'=>by subst e;exact⟨v,_,rfl,x,aE.append y h'⟩
theorem aE.get {G:ae}:∀{l:List PV} {vs:List Value} {i:Nat} {p:PV},aE G l vs→l[i]?=some p→∃v,vs[i]?=some v∧Rd G p v
 | p::_,_,0,_,⟨v,r,e,x,_⟩,h=>by subst e;simp at h;subst h;exact⟨v,rfl,x⟩
 | _::l,_,i+1,_,⟨v,r,e,_,y⟩,h=>by subst e;simpa using aE.get (i:=i) y (by simpa using h)
theorem aE.drop {G:ae}:∀{l:List PV} {vs:List Value} (i:Nat),aE G l vs→aE G (l.drop i) (vs.drop i)
 | _,_,0,h=>by simpa using h
 | [],_,_+1,h=>by cases h;exact rfl
 | _::l,_,i+1,⟨v,r,e,_,y⟩=>by subst e;simpa using aE.drop i y
theorem aE.take {G:ae}:∀{l:List PV} {vs:List Value} (i:Nat),aE G l vs→aE G (l.take i) (vs.take i)
 | _,_,0,_=>by rw[List.take_zero,List.take_zero];exact aE.nil
 | [],_,_+1,h=>by cases h;exact rfl
 | _::l,_,i+1,⟨v,r,e,x,y⟩=>by subst e;exact⟨v,_,rfl,x,aE.take i y⟩
structure Cx where
 prog:Program
 w:World
 K:Frag
 mg:Str→Option Value
 mb:Str→Option Value
 tabs:List (Addr×Addr×Str)
 codeOf:Scope→Option (Value×Str)
inductive fe (h:Heap) (c P:Addr) (q:Str):Prop
 | mk (a:c≠P) (ps) (b:h.IsCode c P ps) (d:h.TableAt c P ps) (e:∀pos c',codeAmong pos ps.toList=some c'→∃x o,c'= .ref x∧h.get? x=some o∧o.cls= .type "code"∧h.CodeRec c' q)
structure b5 (X:Cx) (h:Heap):Prop where
 kin:X.K.In h
 g:h.Ns mainGlobals X.mg
 b:h.Ns builtinsNs X.mb
 nolimit:h.NoLimit
 nodigits:∃mc,h.Ns cStatics mc∧mc "sys.int_max_str_digits" =none
 builtins:∀x:Str,x≠"__name__"→X.mb x=bootBuiltins x
 bmain:∃bm ob,X.mg "__builtins__" =some (.ref bm)∧bm≠builtinsNs∧h.get? bm=some ob∧ob.cls= .type "module"∧ob.dict=some builtinsNs∧ob.data= .plain
 tabs:∀t∈X.tabs,fe h t.1 t.2.1 t.2.2
noncomputable def aw (X:Cx) (b:Addr):Prop:=(∃o,X.K.lookup b=some o)∨b=mainGlobals∨b=builtinsNs∨b=cStatics∨X.mg "__builtins__" =some (.ref b)∨∃t∈X.tabs,b=t.1∨b=t.2.1
theorem b5.special {X:Cx} {h:Heap} (x:b5 X h) {b:Addr} (s:aw X b):∃o,h.get? b=some o:=by
 rcases s with⟨o,e⟩ | rfl | rfl | rfl | e | ⟨t,ht,rfl | rfl⟩
 ·exact⟨o,x.kin _ _ e⟩
 ·obtain⟨o,_,_,ho,_⟩:=x.g;exact⟨o,ho⟩
 ·obtain⟨o,_,_,ho,_⟩:=x.b;exact⟨o,ho⟩
 ·obtain⟨mc,⟨o,_,_,ho,_⟩,_⟩:=x.nodigits;exact⟨o,ho⟩
 ·obtain⟨bm,ob,e1,_,e2,_⟩:=x.bmain
  rw[e] at e1;cases e1;exact⟨ob,e2⟩
 ·obtain⟨_,ps,_,⟨⟨o,_,ho,_⟩,_⟩,_⟩:=x.tabs t ht;exact⟨o,ho⟩
 ·obtain⟨_,ps,_,⟨_,ho⟩,_⟩:=x.tabs t ht;exact⟨_,ho⟩
theorem fe.keeps {h h':Heap} {c P:Addr} {q:Str} (x:fe h c P q) (hk:∀b o,h.get? b=some o→h'.get? b=some o):fe h' c P q:=
 let ⟨ne,ps,a,b,d⟩:=x
 ⟨ne,ps,a.keeps hk,b.keeps hk,fun pos c' e=>let ⟨y,o,e1,e2,e3,e4⟩:=d pos c' e;⟨y,o,e1,hk _ _ e2,e3,e4.keeps hk⟩⟩
theorem jm {h h':Heap} {a x:Addr} {q:Str} (r:h.CodeRec (.ref x) q) (hs:Heap.SameBut a h h') (hx:x≠a):h'.CodeRec (.ref x) q:=by
 obtain⟨c,o,vs,t,e,g,r⟩:=r
 cases e
 exact⟨_,o,vs,t,rfl,(hs.2 _ hx).trans g,r⟩
noncomputable def d8 (o:Obj):Prop:=∀vs,o.cls= .type "code"→o.data≠ .fields vs
theorem fe.sameBut {h h':Heap} {a c P:Addr} {q:Str} (x:fe h c P q) (hs:Heap.SameBut a h h') (hc:c≠a) (hP:P≠a) {oa:Obj} (ha:h.get? a=some oa) (hcl:d8 oa):fe h' c P q:=by
 obtain⟨ne,ps,A,B,D⟩:=x
 refine⟨ne,ps,A.extBut hs.extBut hc hP,B.sameBut hs hc hP,fun pos c' e=>?_⟩
 obtain⟨y,o,e1,e2,e3,e4⟩:=D pos c' e
 subst e1
 have hy:y≠a:=fun z=>by
  subst z
  rw[ha] at e2
  cases e2
  obtain⟨_,o',vs,_,q1,q2,q3,_⟩:=e4
  cases q1
  rw[ha] at q2
  cases q2
  exact hcl vs e3 q3
 exact⟨y,o,rfl,(hs.2 _ hy).trans e2,e3,jm e4 hs hy⟩
theorem b5.keeps {X:Cx} {h h':Heap} (x:b5 X h) (hk:∀b o,h.get? b=some o→h'.get? b=some o):b5 X h' where
 kin:=x.kin.keeps hk
 g:=x.g.keeps hk
 b:=x.b.keeps hk
 nolimit:=x.nolimit.keeps hk
 nodigits:=let ⟨mc,a,b⟩:=x.nodigits;⟨mc,a.keeps hk,b⟩
 builtins:=x.builtins
 bmain:=let ⟨bm,ob,a,b,c,d⟩:=x.bmain;⟨bm,ob,a,b,hk _ _ c,d⟩
 tabs:=fun t ht=>(x.tabs t ht).keeps hk
theorem b5.sameBut {X:Cx} {h h':Heap} {a:Addr} (x:b5 X h) (hs:Heap.SameBut a h h') (ha:¬aw X a) {oa:Obj} (hoa:h.get? a=some oa) (hcl:d8 oa):b5 X h':=by
 have ne:∀{b},aw X b→b≠a:=fun s e=>ha (e▸s)
 refine⟨fun b o e=>(hs.2 _ (ne (.inl ⟨o,e⟩))).trans (x.kin b o e),x.g.sameBut hs (ne (.inr (.inl rfl))),x.b.sameBut hs (ne (.inr (.inr (.inl rfl)))),x.nolimit.sameBut hs (ne (.inr (.inr (.inr (.inl rfl))))),?_,x.builtins,?_,?_⟩
 ·obtain⟨mc,a,b⟩:=x.nodigits
  exact⟨mc,a.sameBut hs (ne (.inr (.inr (.inr (.inl rfl))))),b⟩
 ·obtain⟨bm,ob,a,b,c,d⟩:=x.bmain
  exact⟨bm,ob,a,b,(hs.2 _ (ne (.inr (.inr (.inr (.inr (.inl a))))))).trans c,d⟩
 ·intro t ht
  exact(x.tabs t ht).sameBut hs (ne (.inr (.inr (.inr (.inr (.inr ⟨t,ht, .inl rfl⟩)))))) (ne (.inr (.inr (.inr (.inr (.inr ⟨t,ht, .inr rfl⟩)))))) hoa hcl
noncomputable abbrev lJ (vs:Array Value):Obj:={cls:= .none,data:= .fields vs}
inductive xi (T:List (Addr×Addr×Str)) (h':Heap) (b:Addr) (o:Obj):Prop
 | mk (t) (ht:t∈T) (q:b=t.2.1) (vs more) (r:o=lJ vs) (g:h'.get? b=some (lJ (vs++more)))
noncomputable abbrev rR (X:Cx):=xi X.tabs
noncomputable def bf (X:Cx) (S:ae) (h':Heap):Prop:=∀b o,S b=some o→h'.get? b=some o∨rR X h' b o
noncomputable abbrev cz (X:Cx) (h h':Heap):Prop:=bf X h.get? h'
theorem bf.trans {X:Cx} {S:ae} {h h':Heap} (a:bf X S h) (b:cz X h h'):bf X S h':=by
 intro c o e
 rcases a c o e with x | ⟨t,ht,q,vs,more,r,g⟩
 ·exact b c o x
 ·rcases b c _ g with x | ⟨t',ht',q',vs',more',r',g'⟩
  ·exact .inr ⟨t,ht,q,vs,more,r,x⟩
  ·have:vs++more=vs':=by
    have:=congrArg Obj.data r'
    simpa [lJ] using this
   exact .inr ⟨t,ht,q,vs,more++more',r,by rw[g',←this,Array.append_assoc]⟩
theorem bf.get {X:Cx} {S:ae} {h:Heap} (k:bf X S h) {b:Addr} {o:Obj} (e:S b=some o) (hc:o.cls≠ .none):h.get? b=some o:=by
 rcases k b o e with x | ⟨_,_,_,vs,_,r,_⟩
 ·exact x
 ·subst r;exact absurd rfl hc
theorem bf.get' {X:Cx} {S:ae} {h:Heap} (k:bf X S h) {b:Addr} {o:Obj} (e:S b=some o) (hc:∀vs,o.data≠ .fields vs):h.get? b=some o:=by
 rcases k b o e with x | ⟨_,_,_,vs,_,r,_⟩
 ·exact x
 ·subst r;exact absurd rfl (hc vs)
theorem bf.there {X:Cx} {S:ae} {h:Heap} (k:bf X S h) {b:Addr} {o:Obj} (e:S b=some o):∃o',h.get? b=some o':=by
 rcases k b o e with x | ⟨_,_,_,vs,_,r,g⟩
 ·exact⟨_,x⟩
 ·exact⟨_,g⟩
theorem cz.refl (X:Cx) (h:Heap):cz X h h:=fun _ _ e=> .inl e
theorem cz.iq {X:Cx} {h h':Heap} (k:∀b o,h.get? b=some o→h'.get? b=some o):cz X h h':=fun b o e=> .inl (k b o e)
theorem cz.get {X:Cx} {h h':Heap} (k:cz X h h') {b:Addr} {o:Obj} (e:h.get? b=some o) (hc:o.cls≠ .none):h'.get? b=some o:=bf.get k e hc
theorem cz.trans {X:Cx} {h h' h'':Heap} (a:cz X h h') (b:cz X h' h''):cz X h h'':=bf.trans a b
theorem cz.oldK {X:Cx} {h h':Heap} (k:cz X h h') (ht:∀t∈X.tabs,isCodeTable h t.2.1):OldK h h':=by
 refine⟨fun b o e=>?_,fun b o e=>?_⟩
 ·rcases k b o e with x | ⟨t,m,q,vs,more,r,g⟩
  ·exact .inl x
  ·subst r
   exact .inr (.inl ⟨q▸ht t m,rfl,vs,more,rfl,g⟩)
 ·rcases k b o e with x | ⟨t,m,q,vs,more,r,g⟩
  ·exact⟨_,x⟩
  ·exact⟨_,g⟩
theorem cz.cell {X:Cx} {h h':Heap} (k:cz X h h') {c:Addr} {v:Option Value} (x:h.IsCell c v):h'.IsCell c v:=by
 obtain⟨o,ho,hd⟩:=x
 rcases k c o ho with y | ⟨_,_,_,vs,_,r,_⟩
 ·exact⟨o,y,hd⟩
 ·subst r;cases hd
theorem cz.ns {X:Cx} {h h':Heap} (k:cz X h h') {a:Addr} {m:Str→Option Value} (x:h.Ns a m):h'.Ns a m:=by
 obtain⟨o,es,ep,ho,hd,r⟩:=x
 rcases k a o ho with y | ⟨_,_,_,vs,_,r',_⟩
 ·exact⟨o,es,ep,y,hd,r⟩
 ·subst r';cases hd
noncomputable def gU (X:Cx) (G:ae) (s:Shared):Prop:=AllBare s.gens∧∀t∈X.tabs,G t.2.1=none
structure Step (X:Cx) (s:Shared) (G:ae) (s':Shared) (G':ae):Prop where
 keep:cz X s.heap s'.heap
 gnd:b5 X s'.heap
 sub:Sub G G'
 within:Sub G' s'.heap.get?
 low:∀b o o',G' b=some o→s.heap.get? b=some o'→G b=some o
 os:s'.os=s.os
 gens:gU X G' s'
theorem Step.refl {X:Cx} {s:Shared} {G:ae} (g:b5 X s.heap) (w:Sub G s.heap.get?) (b:gU X G s):Step X s G s G:=
 ⟨cz.refl X _,g,Sub.refl G,w,fun _ _ _ e _=>e,rfl,b⟩
theorem Step.toks {X:Cx} {s:Shared} {G:ae} (t:Nat) (g:b5 X s.heap) (w:Sub G s.heap.get?) (b:gU X G s):Step X s G {s with toks:=t} G:=
 ⟨cz.refl X _,g,Sub.refl G,w,fun _ _ _ e _=>e,rfl,b⟩
theorem Step.trans {X:Cx} {s s' s'':Shared} {G G' G'':ae} (a:Step X s G s' G') (b:Step X s' G' s'' G''):Step X s G s'' G'':=
 ⟨a.keep.trans b.keep,b.gnd,a.sub.trans b.sub,b.within,fun x o o' e h=>let ⟨o1,h1⟩:=bf.there a.keep h;a.low x o o' (b.low x o o1 e h1) h,b.os.trans a.os,b.gens⟩
noncomputable def grown (G:ae) (h h':Heap):ae:=fun b=>match h.get? b with | some _=>G b | none=>h'.get? b
theorem b5.tab {X:Cx} {h:Heap} (g:b5 X h) {t:Addr×Addr×Str} (ht:t∈X.tabs):∃o,h.get? t.2.1=some o:=g.special (.inr (.inr (.inr (.inr (.inr ⟨t,ht, .inr rfl⟩)))))
theorem gU.of {X:Cx} {G G':ae} {s s':Shared} (b:gU X G s) (hg:s'.gens=s.gens) (h:∀t∈X.tabs,G t.2.1=none→G' t.2.1=none):gU X G' s':=⟨hg▸b.1,fun t ht=>h t ht (b.2 t ht)⟩
theorem Step.wj {X:Cx} {s:Shared} {G:ae} {h':Heap} {tk:Nat} (g:b5 X s.heap) (w:Sub G s.heap.get?) (b:gU X G s)
  (k:∀b o,s.heap.get? b=some o→h'.get? b=some o):Step X s G {s with heap:=h',toks:=tk} (grown G s.heap h'):=by
 refine⟨cz.iq k,g.keeps k,fun b o e=>?_,fun b o e=>?_,fun b o o' e h=>?_,rfl,?_⟩
 ·unfold grown;rw[w b o e];exact e
 ·unfold grown at e
  split at e
  ·exact k b o (w b o e)
  ·exact e
 ·unfold grown at e;rw[h] at e;exact e
 ·refine b.of rfl fun t ht e=>?_
  obtain⟨o,ho⟩:=g.tab ht
  unfold grown;rw[ho];exact e
theorem iL {G:ae} {h h':Heap} {a:Addr} {o:Obj} (hn:h.get? a=none) (e:h'.get? a=some o):grown G h h' a=some o:=by
 unfold grown;rw[hn];exact e
theorem aq (h:Heap):h.get? h.objs.size=none:=by
 cases e:h.get? h.objs.size with
 | none=>rfl
 | some o=>exact absurd (Heap.lt_size e) (Nat.lt_irrefl _)
noncomputable def a0 (env:Env) (h:Heap) (x:Str) (v:Value):Prop:=match env.kindOf x with
 | some .local=>∃m,h.Ns env.locals m∧m x=some v
 | some .cell=>∃c,env.cells.lookup x=some c∧h.IsCell c (some v)
 | some .free=>∃c,env.cells.lookup x=some c∧h.IsCell c (some v)∧(x==("__classdict__":Str))=false
 | _=>False
theorem a0.keep {X:Cx} {env:Env} {h h':Heap} {x:Str} {v:Value} (k:cz X h h') (a:a0 env h x v):a0 env h' x v:=by
 unfold a0 at a ⊢
 generalize env.kindOf x=kd at a ⊢
 cases kd with
 | none=>exact a.elim
 | some kd=>
  cases kd with
  | «local»=>obtain⟨m,n,e⟩:=a;exact⟨m,k.ns n,e⟩
  | cell=>obtain⟨c,n,e⟩:=a;exact⟨c,n,k.cell e⟩
  | free=>obtain⟨c,n,e,z⟩:=a;exact⟨c,n,k.cell e,z⟩
  | _=>exact a.elim
noncomputable abbrev az:=List (Str×Option PV)
structure bU (X:Cx) (env:Env) (sc:Scope) (ρ:az) (s:Shared) (G:ae):Prop where
 gnd:b5 X s.heap
 within:Sub G s.heap.get?
 gens:gU X G s
 scope:env.scope=sc
 kind:sc.kind= .function
 globals:env.globals=mainGlobals
 builtins:env.builtins=builtinsNs
 cod:∀v q,X.codeOf sc=some (v,q)→env.code=v∧env.qual=q
 vars:∀x p,ρ.lookup x=some (some p)→∃v,a0 env s.heap x v∧Rd G p v
theorem bU.step {X:Cx} {env:Env} {sc:Scope} {ρ:az} {s s':Shared} {G G':ae} (e:bU X env sc ρ s G) (t:Step X s G s' G'):bU X env sc ρ s' G':=
 ⟨t.gnd,t.within,t.gens,e.scope,e.kind,e.globals,e.builtins,e.cod,fun x p h=>let ⟨v,a,b⟩:=e.vars x p h;⟨v,a.keep t.keep,Rd.mono t.sub _ _ b⟩⟩
noncomputable def aV (A:Around) (n:Nat):Prop:=A.depth+n<recursionLimit∧A.units+16*n<cLine∧A.handled=none
noncomputable def aa (X:Cx) (n:Nat) (sc:Scope) (ρ:az) (e:PySem.Expr) (p:PV):Prop:=
 ∀(A:Around) (env:Env) (s:Shared) (G:ae) (Q E:Value→Shared→Prop),aV A n→bU X env sc ρ s G→
  (∀v s' G',Step X s G s' G'→Rd G' p v→Q v s')→wpAny (model X.prog X.w) A (eval e env) Q E s
section
variable {X:Cx} {n:Nat} {sc:Scope} {ρ:az}
theorem aa.fv {k:Nat} {pos:Pos}:aa X n sc ρ (.Constant .none k pos) .none:=fun A env s G Q E _ e h=>
 wpAny_Constant_none (h _ _ _ (Step.refl e.gnd e.within e.gens) rfl)
theorem aa.cBool {b:Bool} {k:Nat} {pos:Pos}:aa X n sc ρ (.Constant (.bool b) k pos) (.bool b):=fun A env s G Q E _ e h=>
 wpAny_Constant_bool (h _ _ _ (Step.refl e.gnd e.within e.gens) rfl)
theorem aa.cInt {i:Int} {k:Nat} {pos:Pos}:aa X n sc ρ (.Constant (.int i) k pos) (.int i):=fun A env s G Q E _ e h=>
 wpAny_Constant_int (h _ _ _ (Step.toks _ e.gnd e.within e.gens) ⟨_,rfl⟩)
theorem aa.cStr {x:Str} {k:Nat} {pos:Pos}:aa X n sc ρ (.Constant (.str x) k pos) (.str x):=fun A env s G Q E _ e h=>
 wpAny_Constant_str (h _ _ _ (Step.toks _ e.gnd e.within e.gens) ⟨_,rfl⟩)
theorem bh {env:Env} (h:env.scope=sc) (x:Str):env.kindOf x=sc.names.lookup x:=by unfold Env.kindOf;rw[h]
theorem aa.var {x:Str} {pos:Pos} {p:PV} (h:ρ.lookup x=some (some p)) (hd:(x==("__debug__":Str))=false:=by decide):aa X n sc ρ (.Name x pos) p:=by
 intro A env s G Q E _ e k
 obtain⟨v,a,b⟩:=e.vars x p h
 have hk:env.scope.kind= .function:=by rw[e.scope];exact e.kind
 refine wpAny_Name ?_ hd
 have fin:=k v s G (Step.refl e.gnd e.within e.gens) b
 unfold a0 at a
 cases hl:env.kindOf x with
 | none=>rw[hl] at a;exact a.elim
 | some kd=>
  rw[hl] at a
  cases kd with
  | «local»=>obtain⟨m,hn,hv⟩:=a;exact wpAny_loadName_local hk hl hn hv fin
  | cell=>obtain⟨c,hc,hv⟩:=a;exact wpAny_loadName_cell hk hl hc hv fin
  | free=>obtain⟨c,hc,hv,hz⟩:=a;exact wpAny_loadName_free hk hl hc hv fin hz
  | _=>exact a.elim
theorem aa.global {x:Str} {pos:Pos} {v:Value} {p:PV} (hk:sc.names.lookup x=some .globalImplicit) (hv:X.mg x=some v) (hp:∀G,Rd G p v)
  (hd:(x==("__debug__":Str))=false:=by decide):aa X n sc ρ (.Name x pos) p:=by
 intro A env s G Q E _ e k
 have hf:env.scope.kind= .function:=by rw[e.scope];exact e.kind
 refine Name_function_global hf (by rw[bh e.scope];exact hk) ?_ hd
 exact loadGlobal_global (by rw[e.globals];exact e.gnd.g) hv (k v s G (Step.refl e.gnd e.within e.gens) (hp G))
theorem aa.builtin {x:Str} {pos:Pos} {v:Value} (hk:sc.names.lookup x=some .globalImplicit) (hv:X.mg x=Option.none) (hb:bootBuiltins x=some v)
  (hn:x≠"__name__":=by decide) (hd:(x==("__debug__":Str))=false:=by decide):aa X n sc ρ (.Name x pos) (.opq v):=by
 intro A env s G Q E _ e k
 have hf:env.scope.kind= .function:=by rw[e.scope];exact e.kind
 refine Name_function_global hf (by rw[bh e.scope];exact hk) ?_ hd
 exact loadGlobal_builtin (by rw[e.globals];exact e.gnd.g) hv (by rw[e.builtins];exact e.gnd.b) ((e.gnd.builtins x hn).trans hb) (k v s G (Step.refl e.gnd e.within e.gens) rfl)
noncomputable def lH (X:Cx) (n:Nat) (G:ae) (s:Shared) (t:Sem Value) (r:PV):Prop:=
 ∀(A:Around) (Q E:Value→Shared→Prop),aV A n→(∀v s' G',Step X s G s' G'→Rd G' r v→Q v s')→wpAny (model X.prog X.w) A t Q E s
structure Base (X:Cx) (s:Shared) (G:ae):Prop where
 gnd:b5 X s.heap
 within:Sub G s.heap.get?
 gens:gU X G s
theorem bU.base {env:Env} {s:Shared} {G:ae} (e:bU X env sc ρ s G):Base X s G:=⟨e.gnd,e.within,e.gens⟩
theorem Step.base {s s':Shared} {G G':ae} (t:Step X s G s' G'):Base X s' G':=⟨t.gnd,t.within,t.gens⟩
theorem Base.refl {s:Shared} {G:ae} (b:Base X s G):Step X s G s G:=Step.refl b.gnd b.within b.gens
theorem Base.toks {s:Shared} {G:ae} (b:Base X s G) (t:Nat):Step X s G {s with toks:=t} G:=Step.toks t b.gnd b.within b.gens
noncomputable def aK (X:Cx) (n:Nat) (op:Operator) (p q r:PV):Prop:=∀G s a b,Base X s G→Rd G p a→Rd G q b→lH X n G s (binaryOp op a b) r
noncomputable def ay (X:Cx) (n:Nat) (op:CmpOp) (p q r:PV):Prop:=∀G s a b,Base X s G→Rd G p a→Rd G q b→lH X n G s (compareOp op a b) r
noncomputable def aJ (X:Cx) (n:Nat) (p:PV) (b:Bool):Prop:=∀G s v (A:Around) (Q:Bool→Shared→Prop) (E:Value→Shared→Prop),aV A n→Base X s G→Rd G p v→(∀s' G',Step X s G s' G'→Q b s')→wpAny (model X.prog X.w) A (truthy v) Q E s
theorem aa.bin {op:Operator} {l r:PySem.Expr} {pos:Pos} {p q t:PV} (hl:aa X n sc ρ l p) (hr:aa X n sc ρ r q) (ho:aK X n op p q t):aa X n sc ρ (.BinOp l op r pos) t:=
 fun A env s G Q E rm e k=>wpAny_BinOp (hl A env s G _ E rm e fun v s1 G1 t1 d1=>hr A env s1 G1 _ E rm (e.step t1) fun u s2 G2 t2 d2=>
  ho G2 s2 v u t2.base (Rd.mono t2.sub _ _ d1) d2 A _ E rm fun z s3 G3 t3 d3=>k z s3 G3 ((t1.trans t2).trans t3) d3)
theorem aa.cmp {op:CmpOp} {l r:PySem.Expr} {pos:Pos} {p q t:PV} (hl:aa X n sc ρ l p) (hr:aa X n sc ρ r q) (ho:ay X n op p q t)
  (hm:behindInMarks op r=false:=by with_unfolding_all rfl):aa X n sc ρ (.Compare l [op] [r] pos) t:=
 fun A env s G Q E rm e k=>wpAny_Compare1 (hl A env s G _ E rm e fun v s1 G1 t1 d1=>hr A env s1 G1 _ E rm (e.step t1) fun u s2 G2 t2 d2=>
  ho G2 s2 v u t2.base (Rd.mono t2.sub _ _ d1) d2 A _ E rm fun z s3 G3 t3 d3=>k z s3 G3 ((t1.trans t2).trans t3) d3) hm
noncomputable def bb (X:Cx) (n:Nat) (sc:Scope) (ρ:az) (e:PySem.Expr) (b:Bool):Prop:=
 ∀(A:Around) (env:Env) (s:Shared) (G:ae) (Q:Bool→Shared→Prop) (E:Value→Shared→Prop),aV A n→bU X env sc ρ s G→
  (∀s' G',Step X s G s' G'→Q b s')→wpAny (model X.prog X.w) A (isTrue e env (eval e env)) Q E s
theorem bb.cmp {op:CmpOp} {l r:PySem.Expr} {pos:Pos} {p q t:PV} {b:Bool} (hl:aa X n sc ρ l p) (hr:aa X n sc ρ r q) (ho:ay X n op p q t) (hb:aJ X n t b)
  (hm:behindInMarks op r=false:=by with_unfolding_all rfl):bb X n sc ρ (.Compare l [op] [r] pos) b:=
 fun A env s G Q E rm e k=>wpAny_isTrue_Compare1 (hl A env s G _ E rm e fun v s1 G1 t1 d1=>hr A env s1 G1 _ E rm (e.step t1) fun u s2 G2 t2 d2=>
  ho G2 s2 v u t2.base (Rd.mono t2.sub _ _ d1) d2 A _ E rm fun z s3 G3 t3 d3=>hb G3 s3 z A _ E rm t3.base d3 fun s4 G4 t4=>k s4 G4 (((t1.trans t2).trans t3).trans t4)) hm
theorem bb.value {e:PySem.Expr} {p:PV} {b:Bool} (hl:aa X n sc ρ e p) (hb:aJ X n p b)
  (he:∀env,isTrue e env (eval e env)=(do let v ←eval e env;standAt e.pos;holding [v] (truthy v)):=by intro _;rfl):bb X n sc ρ e b:=
 fun A env s G Q E rm ev k=>wpAny_isTrue_value (hl A env s G _ E rm ev fun v s1 G1 t1 d1=>hb G1 s1 v A _ E rm t1.base d1 fun s4 G4 t4=>k s4 G4 (t1.trans t4)) (he env)
theorem bb.not {x:PySem.Expr} {pos:Pos} {b:Bool} (h:bb X n sc ρ x b):bb X n sc ρ (.UnaryOp .Not x pos) (!b):=
 fun A env s G Q E rm e k=>wpAny_isTrue_Not (h A env s G _ E rm e fun s' G' t=>k s' G' t)
noncomputable def AllP (X:Cx) (n:Nat) (sc:Scope) (ρ:az) (op:BoolOp) (es:List PySem.Expr) (b:Bool):Prop:=
 ∀(A:Around) (env:Env) (s:Shared) (G:ae) (Q:Bool→Shared→Prop) (E:Value→Shared→Prop),aV A n→bU X env sc ρ s G→
  (∀s' G',Step X s G s' G'→Q b s')→wpAny (model X.prog X.w) A (allTrue op es env) Q E s
theorem AllP.vt:AllP X n sc ρ .And [] true:=fun _ _ _ _ _ _ _ e k=>wpAny_allTrue_And_nil (k _ _ e.base.refl)
theorem AllP.wh:AllP X n sc ρ .Or [] false:=fun _ _ _ _ _ _ _ e k=>wpAny_allTrue_Or_nil (k _ _ e.base.refl)
theorem AllP.uk {x:PySem.Expr} {r:List PySem.Expr} {b:Bool} (h:bb X n sc ρ x true) (t:AllP X n sc ρ .And r b):AllP X n sc ρ .And (x::r) b:=
 fun A env s G Q E rm e k=>wpAny_allTrue_And_cons (h A env s G _ E rm e fun s1 G1 t1=>by
  dsimp only[iT];exact t A env s1 G1 _ E rm (e.step t1) fun s2 G2 t2=>k s2 G2 (t1.trans t2))
theorem AllP.um {x:PySem.Expr} {r:List PySem.Expr} (h:bb X n sc ρ x false):AllP X n sc ρ .And (x::r) false:=
 fun A env s G Q E rm e k=>wpAny_allTrue_And_cons (h A env s G _ E rm e fun s1 G1 t1=>by
  dsimp only[iF];exact k s1 G1 t1)
theorem AllP.yk {x:PySem.Expr} {r:List PySem.Expr} (h:bb X n sc ρ x true):AllP X n sc ρ .Or (x::r) true:=
 fun A env s G Q E rm e k=>wpAny_allTrue_Or_cons (h A env s G _ E rm e fun s1 G1 t1=>by
  dsimp only[iT];exact k s1 G1 t1)
theorem AllP.xA {x:PySem.Expr} {r:List PySem.Expr} {b:Bool} (h:bb X n sc ρ x false) (t:AllP X n sc ρ .Or r b):AllP X n sc ρ .Or (x::r) b:=
 fun A env s G Q E rm e k=>wpAny_allTrue_Or_cons (h A env s G _ E rm e fun s1 G1 t1=>by
  dsimp only[iF];exact t A env s1 G1 _ E rm (e.step t1) fun s2 G2 t2=>k s2 G2 (t1.trans t2))
theorem bb.rH {op:BoolOp} {vs:List PySem.Expr} {pos:Pos} {b:Bool} (h:AllP X n sc ρ op vs b):bb X n sc ρ (.BoolOp op vs pos) b:=
 fun A env s G Q E rm e k=>wpAny_isTrue_BoolOp (h A env s G _ E rm e k)
theorem aa.yD {test body orelse:PySem.Expr} {pos:Pos} {p:PV} (h:bb X n sc ρ test true) (hb:aa X n sc ρ body p):aa X n sc ρ (.IfExp test body orelse pos) p:=
 fun A env s G Q E rm e k=>wpAny_IfExp (h A env s G _ E rm e fun s1 G1 t1=>by
  dsimp only[iT];exact hb A env s1 G1 _ E rm (e.step t1) fun v s2 G2 t2 d=>k v s2 G2 (t1.trans t2) d)
theorem aa.yE {test body orelse:PySem.Expr} {pos:Pos} {p:PV} (h:bb X n sc ρ test false) (hb:aa X n sc ρ orelse p):aa X n sc ρ (.IfExp test body orelse pos) p:=
 fun A env s G Q E rm e k=>wpAny_IfExp (h A env s G _ E rm e fun s1 G1 t1=>by
  dsimp only[iF];exact hb A env s1 G1 _ E rm (e.step t1) fun v s2 G2 t2 d=>k v s2 G2 (t1.trans t2) d)
theorem aa.tS {x y:PySem.Expr} {pos:Pos} {p q:PV} (hx:aa X n sc ρ x p) (hp:aJ X n p true) (hy:aa X n sc ρ y q):aa X n sc ρ (.BoolOp .And [x,y] pos) q:=
 fun A env s G Q E rm e k=>wpAny_And2 (hx A env s G _ E rm e fun v s1 G1 t1 d1=>hp G1 s1 v A _ E rm t1.base d1 fun s2 G2 t2=>by
  dsimp only[iT];exact hy A env s2 G2 _ E rm (e.step (t1.trans t2)) fun u s3 G3 t3 d3=>k u s3 G3 ((t1.trans t2).trans t3) d3)
theorem aa.tT {x y:PySem.Expr} {pos:Pos} {p:PV} (hx:aa X n sc ρ x p) (hp:aJ X n p false):aa X n sc ρ (.BoolOp .And [x,y] pos) p:=
 fun A env s G Q E rm e k=>wpAny_And2 (hx A env s G _ E rm e fun v s1 G1 t1 d1=>hp G1 s1 v A _ E rm t1.base d1 fun s2 G2 t2=>by
  dsimp only[iF];exact k v s2 G2 (t1.trans t2) (Rd.mono t2.sub _ _ d1))
theorem aa.xP {x y:PySem.Expr} {pos:Pos} {p:PV} (hx:aa X n sc ρ x p) (hp:aJ X n p true):aa X n sc ρ (.BoolOp .Or [x,y] pos) p:=
 fun A env s G Q E rm e k=>wpAny_Or2 (hx A env s G _ E rm e fun v s1 G1 t1 d1=>hp G1 s1 v A _ E rm t1.base d1 fun s2 G2 t2=>by
  dsimp only[iT];exact k v s2 G2 (t1.trans t2) (Rd.mono t2.sub _ _ d1))
theorem aa.vJ {x y:PySem.Expr} {pos:Pos} {p q:PV} (hx:aa X n sc ρ x p) (hp:aJ X n p false) (hy:aa X n sc ρ y q):aa X n sc ρ (.BoolOp .Or [x,y] pos) q:=
 fun A env s G Q E rm e k=>wpAny_Or2 (hx A env s G _ E rm e fun v s1 G1 t1 d1=>hp G1 s1 v A _ E rm t1.base d1 fun s2 G2 t2=>by
  dsimp only[iF];exact hy A env s2 G2 _ E rm (e.step (t1.trans t2)) fun u s3 G3 t3 d3=>k u s3 G3 ((t1.trans t2).trans t3) d3)
inductive aj (X:Cx) (n:Nat) (sc:Scope) (ρ:az):List PySem.Expr→List PV→Prop
 | nil:aj X n sc ρ [] []
 | cons {e:PySem.Expr} {es:List PySem.Expr} {p:PV} {ps:List PV}:aa X n sc ρ e p→aj X n sc ρ es ps→(∀env,starEach (e::es) env=(false,eval e env)::starEach es env)→aj X n sc ρ (e::es) (p::ps)
theorem aj.ag {e:PySem.Expr} {es:List PySem.Expr} {p:PV} {ps:List PV} (a:aa X n sc ρ e p) (b:aj X n sc ρ es ps) (h:∀env,starEach (e::es) env=(false,eval e env)::starEach es env:=by intro _;rfl):aj X n sc ρ (e::es) (p::ps):= .cons a b h
theorem aj.go {es:List PySem.Expr} {ps:List PV} (h:aj X n sc ρ es ps):∀(A:Around) (env:Env) (s:Shared) (G:ae) (pos:Pos) (Q:List Value→Shared→Prop) (E:Value→Shared→Prop),aV A n→bU X env sc ρ s G→
  (∀vs s' G',Step X s G s' G'→aE G' ps vs→Q vs s')→wpAny (model X.prog X.w) A (spliced (backTo pos (starEach es env))) Q E s:=by
 induction h with
 | nil=>intro A env s G pos Q E _ e k;exact spliced_nil (k [] s G e.base.refl aE.nil)
 | cons a b hs ih=>
  intro A env s G pos Q E rm e k
  rw[hs env]
  refine spliced_cons (x:=eval _ env) ?_
  exact a A env s G _ E rm e fun v s1 G1 t1 d1=>ih A env s1 G1 pos _ E rm (e.step t1) fun vs s2 G2 t2 d2=>k _ s2 G2 (t1.trans t2) (aE.cons (Rd.mono t2.sub _ _ d1) d2)
theorem aj.length {es:List PySem.Expr} {ps:List PV} (h:aj X n sc ρ es ps):ps.length=es.length:=by
 induction h with
 | nil=>rfl
 | cons _ _ _ ih=>simp[ih]
theorem a8 {h:Heap} (o:Obj):∀b o',h.get? b=some o'→(h.push o).get? b=some o':=fun _ _ e=>Heap.get?_push_of_some _ e
theorem Base.push {s:Shared} {G:ae} (b:Base X s G) (o:Obj):Step X s G {s with heap:=s.heap.push o} (grown G s.heap (s.heap.push o)):=
 Step.wj b.gnd b.within b.gens (a8 o)
theorem aa.tuple {es:List PySem.Expr} {k:Nat} {pos:Pos} {ps:List PV} (h:aj X n sc ρ es ps) (hz:es.length≤1000:=by decide):aa X n sc ρ (.Tuple es k pos) (.tup ps):=by
 intro A env s G Q E rm e K
 refine wpAny_Tuple_spliced (h.go A env s G pos _ E rm e fun vs s1 G1 t1 d1=>⟨?_,?_⟩)
 ·have:=d1.length;rw[this,h.length];exact yN hz (by unfold sizeLine;decide)
 ·have st:=t1.base.push {cls:= .type "tuple",data:= .seq (List.toArray vs)}
  exact K _ _ _ (t1.trans st) ⟨_,_,vs,0,rfl,iL (aq _) (Heap.get?_push_size _ rfl),rfl,rfl,aE.mono st.sub _ _ d1⟩
theorem aa.list {es:List PySem.Expr} {pos:Pos} {ps:List PV} (h:aj X n sc ρ es ps) (hz:es.length≤1000:=by decide):aa X n sc ρ (.List es pos) (.lst ps):=by
 intro A env s G Q E rm e K
 refine wpAny_List_spliced (h.go A env s G pos _ E rm e fun vs s1 G1 t1 d1=>⟨?_,?_⟩)
 ·have:=d1.length;rw[this,h.length];exact yN hz (by unfold sizeLine;decide)
 ·have st:=t1.base.push {cls:= .type "list",data:= .seq (List.toArray vs)}
  exact K _ _ _ (t1.trans st) ⟨_,_,vs,0,rfl,iL (aq _) (Heap.get?_push_size _ rfl),rfl,rfl,aE.mono st.sub _ _ d1⟩
end
section
variable {X:Cx} {n:Nat}
theorem lH.toks {G:ae} {s:Shared} {t:Sem Value} {r:PV} {v:Value} {k:Nat} (b:Base X s G) (hr:Rd G r v)
  (h:∀(A:Around) (Q E:Value→Shared→Prop),aV A n→Q v {s with toks:=k}→wpAny (model X.prog X.w) A t Q E s):lH X n G s t r:=
 fun A Q E rm q=>h A Q E rm (q _ _ _ (b.toks k) hr)
theorem lH.same {G:ae} {s:Shared} {t:Sem Value} {r:PV} {v:Value} (b:Base X s G) (hr:Rd G r v)
  (h:∀(A:Around) (Q E:Value→Shared→Prop),aV A n→Q v s→wpAny (model X.prog X.w) A t Q E s):lH X n G s t r:=
 fun A Q E rm q=>h A Q E rm (q _ _ _ b.refl hr)
theorem aK.add {a b:Int}:aK X n .Add (.int a) (.int b) (.int (a+b)):=by
 (intro G s _ _ bs zz;obtain⟨t,rfl⟩:=zz;intro zz;obtain⟨u,rfl⟩:=zz)
 exact .toks bs ⟨_,rfl⟩ fun A Q E _ q=>P.add_int q
theorem aK.sub {a b:Int}:aK X n .Sub (.int a) (.int b) (.int (a - b)):=by
 (intro G s _ _ bs zz;obtain⟨t,rfl⟩:=zz;intro zz;obtain⟨u,rfl⟩:=zz)
 exact .toks bs ⟨_,rfl⟩ fun A Q E _ q=>P.sub_int q
theorem aK.mul {a b:Int} (h:IntMulOk a b):aK X n .Mult (.int a) (.int b) (.int (a*b)):=by
 (intro G s _ _ bs zz;obtain⟨t,rfl⟩:=zz;intro zz;obtain⟨u,rfl⟩:=zz)
 exact .toks bs ⟨_,rfl⟩ fun A Q E _ q=>P.mul_int q h
theorem aK.mod {a b:Int} (hb:b≠0):aK X n .Mod (.int a) (.int b) (.int (a.fmod b)):=by
 (intro G s _ _ bs zz;obtain⟨t,rfl⟩:=zz;intro zz;obtain⟨u,rfl⟩:=zz)
 exact .toks bs ⟨_,rfl⟩ fun A Q E _ q=>mod_int' hb q
theorem aK.floordiv {a b:Int} (hb:b≠0) (hs:b.natAbs<1073741824):aK X n .FloorDiv (.int a) (.int b) (.int (a.fdiv b)):=by
 (intro G s _ _ bs zz;obtain⟨t,rfl⟩:=zz;intro zz;obtain⟨u,rfl⟩:=zz)
 exact .toks bs ⟨_,rfl⟩ fun A Q E _ q=>floordiv_int hb q (Or.inl (PyProof.noPylong_small hs))
theorem ay.ltI {a b:Int}:ay X n .Lt (.int a) (.int b) (.bool (decide (a<b))):=by
 (intro G s _ _ bs zz;obtain⟨t,rfl⟩:=zz;intro zz;obtain⟨u,rfl⟩:=zz)
 exact .same bs rfl fun A Q E _ q=>P.lt_int q
theorem ay.yA {a b:Int}:ay X n .LtE (.int a) (.int b) (.bool (decide (a≤b))):=by
 (intro G s _ _ bs zz;obtain⟨t,rfl⟩:=zz;intro zz;obtain⟨u,rfl⟩:=zz)
 exact .same bs rfl fun A Q E _ q=>P.le_int q
theorem ay.rF {a b:Int}:ay X n .Gt (.int a) (.int b) (.bool (decide (a>b))):=by
 (intro G s _ _ bs zz;obtain⟨t,rfl⟩:=zz;intro zz;obtain⟨u,rfl⟩:=zz)
 exact .same bs rfl fun A Q E _ q=>P.gt_int q
theorem ay.yF {a b:Int}:ay X n .GtE (.int a) (.int b) (.bool (decide (a≥b))):=by
 (intro G s _ _ bs zz;obtain⟨t,rfl⟩:=zz;intro zz;obtain⟨u,rfl⟩:=zz)
 exact .same bs rfl fun A Q E _ q=>P.ge_int q
theorem ay.tZ {a b:Int}:ay X n .Eq (.int a) (.int b) (.bool (a==b)):=by
 (intro G s _ _ bs zz;obtain⟨t,rfl⟩:=zz;intro zz;obtain⟨u,rfl⟩:=zz)
 exact .same bs rfl fun A Q E _ q=>P.eq_int q
theorem ay.yo {a b:Int}:ay X n .NotEq (.int a) (.int b) (.bool (a != b)):=by
 (intro G s _ _ bs zz;obtain⟨t,rfl⟩:=zz;intro zz;obtain⟨u,rfl⟩:=zz)
 exact .same bs rfl fun A Q E _ q=>P.ne_int q
theorem aJ.bool {b:Bool}:aJ X n (.bool b) b:=by
 rintro G s _ A Q E _ bs rfl k
 exact wpAny_truthy_bool (k s G bs.refl)
end
end
section
open PySem PySem.Calls PyProof.Rows PySem.W
open Classical
theorem o9 {h:Heap} {a:Addr} {m m':Str→Option Value} (x:h.Ns a m) (y:h.Ns a m'):m=m':=by
 obtain⟨o,es,ep,ho,hd,_,hf⟩:=x
 obtain⟨o',es',ep',ho',hd',_,hf'⟩:=y
 rw[ho] at ho'
 cases ho'
 rw[hd] at hd'
 cases hd'
 funext z
 rw[←hf,←hf']
mutual
noncomputable def PV.flat:PV→Bool
 | .lst _=>false
 | .ins _ _ _ _ _=>false
 | .tup l=>PV.bO l
 | _=>true
noncomputable def PV.bO:List PV→Bool
 | []=>true
 | p::l=>p.flat&&PV.bO l
end
mutual
theorem Rd.flat {G G':ae} (h:∀b o,G b=some o→o.cls= .type "tuple"→(∃vs n,o.data= .seq vs n)→G' b=some o):∀(p:PV) (v:Value),p.flat=true→Rd G p v→Rd G' p v
 | .none,_,_,x=>x
 | .bool _,_,_,x=>x
 | .int _,_,_,x=>x
 | .str _,_,_,x=>x
 | .tup l,_,f,⟨a,o,vs,n,e,g,c,d,r⟩=>⟨a,o,vs,n,e,h _ _ g c ⟨_,_,d⟩,c,d,aE.flat h l vs f r⟩
 | .lst l,_,f,_=>(Bool.false_ne_true f).elim
 | .ins _ _ _ _ _,_,f,_=>(Bool.false_ne_true f).elim
 | .opq _,_,_,x=>x
theorem aE.flat {G G':ae} (h:∀b o,G b=some o→o.cls= .type "tuple"→(∃vs n,o.data= .seq vs n)→G' b=some o):∀(l:List PV) (vs:List Value),PV.bO l=true→aE G l vs→aE G' l vs
 | [],_,_,x=>x
 | p::l,_,f,⟨v,r,e,x,y⟩=>by
  obtain⟨f1,f2⟩:=Bool.and_eq_true_iff.mp (show(p.flat&&PV.bO l)=true from f)
  exact⟨v,r,e,Rd.flat h p v f1 x,aE.flat h l r f2 y⟩
end
noncomputable abbrev eh:Str:=⟨#[95,105,110,105,116,105,97,108,95,115,105,122,101]⟩
noncomputable abbrev qg:Str:=⟨#[95,109,97,120,108,101,110]⟩
noncomputable abbrev lg:Str:=⟨#[95,115,112,108,105,116,99,104,97,114,115]⟩
noncomputable abbrev eT:Str:=⟨#[95,108,105,110,101,115]⟩
noncomputable abbrev jC:Str:=⟨#[95,99,117,114,114,101,110,116,95,108,105,110,101]⟩
noncomputable abbrev bq:Addr:=178
noncomputable abbrev ct:Addr:=94
inductive Own
 | lst (a:Addr) (l:List PV)
 | acc (a d:Addr) (n:Int) (l:List PV)
 | fmt (f df ln a d:Addr) (ml:Int) (sp:Str) (lines:List PV) (n:Int) (l:List PV)
noncomputable def Own.addr:Own→Addr
 | .lst a _=>a
 | .acc a _ _ _=>a
 | .fmt f _ _ _ _ _ _ _ _ _=>f
noncomputable def Own.fp:Own→List Addr
 | .lst a _=>[a]
 | .acc a d _ _=>[a,d]
 | .fmt f df ln a d _ _ _ _ _=>[f,df,ln,a,d]
noncomputable abbrev bS (n:Int) (l:List PV):PV:= .ins bq [eh] [.int n] l true
noncomputable abbrev wN (ml:Int) (sp:Str) (lines:List PV) (n:Int) (l:List PV):PV:= .ins ct [qg,lg,eT,jC] [.int ml, .str sp, .lst lines,bS n l] [] false
noncomputable def Own.pv:Own→PV
 | .lst _ l=> .lst l
 | .acc _ _ n l=>bS n l
 | .fmt _ _ _ _ _ ml sp lines n l=>wN ml sp lines n l
inductive lI (h:Heap) (d:Addr) (m:Str→Option Value) (k:Nat):Prop
 | mk (o es ep) (a:h.get? d=some o) (b:o.data= .dict es ep) (c:StrKeys es) (e:∀name,nsFind es name=m name) (z:es.size≤k)
theorem lI.ns {h:Heap} {d:Addr} {m:Str→Option Value} {k:Nat} (x:lI h d m k):h.Ns d m:=let ⟨o,es,ep,a,b,c,e,_⟩:=x;⟨o,es,ep,a,b,c,e⟩
inductive LstAt (G:ae) (h:Heap) (a:Addr) (l:List PV):Prop
 | mk (vs) (p:h.PlainList a (List.toArray vs)) (d:aE G l vs)
inductive AccAt (G:ae) (h:Heap) (a d:Addr) (n:Int) (l:List PV):Prop
 | mk (o m vs t) (ho:h.get? a=some o) (i:bM o bq d true vs) (z:lI h d m 100) (q:m eh=some (.int n t)∧∀x∈eB,m x=none) (r:aE G l vs) (ne:a≠d)
inductive tU (G:ae) (h:Heap) (f df ln a d:Addr) (ml:Int) (sp:Str) (lines:List PV) (n:Int) (l:List PV):Prop
 | mk (o m t u) (ho:h.get? f=some o) (i:bM o ct df false []) (ns:h.Ns df m) (m1:m qg=some (.int ml t)) (m2:m lg=some (.str sp u)) (m3:m eT=some (.ref ln)) (m4:m jC=some (.ref a)∧∀x∈eB,m x=none)
  (x:LstAt G h ln lines) (y:AccAt G h a d n l) (nd:[f,df,ln,a,d].Nodup)
noncomputable def Own.At (G:ae) (h:Heap):Own→Prop
 | .lst a l=>LstAt G h a l
 | .acc a d n l=>AccAt G h a d n l
 | .fmt f df ln a d ml sp lines n l=>tU G h f df ln a d ml sp lines n l
noncomputable def ff (o:Obj):Prop:=(∀vs,o.data≠ .fields vs)∧(∀v,o.data≠ .cell v)∧(o.cls= .type "tuple"→∀vs n,o.data≠ .seq vs n)
theorem IsList.solid {h:Heap} {a:Addr} {vs:Array Value} (x:h.IsList a vs):∃o,h.get? a=some o∧ff o:=
 let ⟨o,ho,hc,n,hd⟩:=x;⟨o,ho,by rw[hd];nofun,by rw[hd];nofun,fun e=>by rw[hc] at e;exact absurd e (by decide)⟩
theorem Ns.solid {h:Heap} {a:Addr} {m:Str→Option Value} (x:h.Ns a m):∃o,h.get? a=some o∧ff o:=
 let ⟨o,es,ep,ho,hd,_⟩:=x;⟨o,ho,by rw[hd];nofun,by rw[hd];nofun,fun _=>by rw[hd];nofun⟩
theorem bM.solid {o:Obj} {c d:Addr} {sq:Bool} {vs:List Value} (x:bM o c d sq vs):ff o:=by
 obtain⟨hc,_,hd⟩:=x
 cases sq with
 | true=>dsimp only[iT] at hd;obtain⟨k,hd⟩:=hd;exact⟨by rw[hd];nofun,by rw[hd];nofun,fun e=>by rw[hc] at e;cases e⟩
 | false=>dsimp only[iF] at hd;exact⟨by rw[hd.1];nofun,by rw[hd.1];nofun,fun e=>by rw[hc] at e;cases e⟩
theorem LstAt.solid {G:ae} {h:Heap} {a:Addr} {l:List PV} (x:LstAt G h a l):∃o,h.get? a=some o∧ff o:=let ⟨_,x,_⟩:=x;IsList.solid x.isList
theorem AccAt.solid {G:ae} {h:Heap} {a d:Addr} {n:Int} {l:List PV} (x:AccAt G h a d n l):∀b∈[a,d],∃o,h.get? b=some o∧ff o:=by
 obtain⟨o,m,vs,t,ho,hi,hn,_⟩:=x
 intro b hb
 simp only[List.mem_cons,List.not_mem_nil,or_false] at hb
 rcases hb with rfl | rfl
 ·exact⟨o,ho,hi.solid⟩
 ·exact Ns.solid hn.ns
theorem Own.At.solid {G:ae} {h:Heap} {o:Own} (x:o.At G h):∀b∈o.fp,∃ob,h.get? b=some ob∧ff ob:=by
 cases o with
 | lst a l=>intro b hb;simp only[Own.fp,List.mem_cons,List.not_mem_nil,or_false] at hb;subst hb;exact LstAt.solid x
 | acc a d n l=>exact AccAt.solid x
 | fmt f df ln a d ml sp lines n l=>
  obtain⟨o,m,t,u,ho,hi,hn,_,_,_,_,hl,ha,_⟩:=x
  intro b hb
  simp only[Own.fp,List.mem_cons,List.not_mem_nil,or_false] at hb
  rcases hb with rfl | rfl | rfl | hb
  ·exact⟨o,ho,hi.solid⟩
  ·exact Ns.solid hn
  ·exact LstAt.solid hl
  ·exact AccAt.solid ha b (by simpa using hb)
theorem LstAt.keep {G G':ae} {h h':Heap} {a:Addr} {l:List PV} (x:LstAt G h a l) (s:Sub G G') (k:∀o,h.get? a=some o→h'.get? a=some o):LstAt G' h' a l:=
 let ⟨vs,p,d⟩:=x;⟨vs,p.at k,aE.mono s _ _ d⟩
theorem AccAt.keep {G G':ae} {h h':Heap} {a d:Addr} {n:Int} {l:List PV} (x:AccAt G h a d n l) (s:Sub G G') (k:∀b∈[a,d],∀o,h.get? b=some o→h'.get? b=some o):AccAt G' h' a d n l:=
 let ⟨o,m,vs,t,ho,hi,⟨od,es,ep,hod,r,r2,r3,r4⟩,q,dd,ne⟩:=x;⟨o,m,vs,t,k a (by simp) o ho,hi,⟨od,es,ep,k d (by simp) od hod,r,r2,r3,r4⟩,q,aE.mono s _ _ dd,ne⟩
theorem Own.At.keep {G G':ae} {h h':Heap} {o:Own} (x:o.At G h) (s:Sub G G') (k:∀b∈o.fp,∀ob,h.get? b=some ob→h'.get? b=some ob):o.At G' h':=by
 cases o with
 | lst a l=>exact LstAt.keep x s (k a (by simp[Own.fp]))
 | acc a d n l=>exact AccAt.keep x s k
 | fmt f df ln a d ml sp lines n l=>
  obtain⟨o,m,t,u,ho,hi,⟨od,es,ep,hod,r⟩,q1,q2,q3,q4,hl,ha,ne⟩:=x
  exact⟨o,m,t,u,k f (by simp[Own.fp]) o ho,hi,⟨od,es,ep,k df (by simp[Own.fp]) od hod,r⟩,q1,q2,q3,q4,hl.keep s (k ln (by simp[Own.fp])),ha.keep s (fun b hb=>k b (by simp[Own.fp] at hb ⊢;rcases hb with rfl | rfl<;>simp)),ne⟩
theorem LstAt.rd {G:ae} {h:Heap} {a:Addr} {l:List PV} (x:LstAt G h a l) (k:∀o,h.get? a=some o→G a=some o):Rd G (.lst l) (.ref a):=
 let ⟨vs,p,d⟩:=x;let ⟨o,ho,hc,n,hd⟩:=p.isList;⟨a,o,vs,n,rfl,k o ho,hc,hd,d⟩
theorem AccAt.rd {G:ae} {h:Heap} {a d:Addr} {n:Int} {l:List PV} (x:AccAt G h a d n l) (k:∀b∈[a,d],∀o,h.get? b=some o→G b=some o):Rd G (bS n l) (.ref a):=by
 obtain⟨o,m,vs,t,ho,hi,hn,q,dd,ne⟩:=x
 obtain⟨od,hod,hno⟩:=mK.of hn.ns
 exact⟨a,o,d,od,m,[.int n t],vs,rfl,k a (by simp) o ho,hi,k d (by simp) od hod,hno,⟨fun x u e=>by simp at e;obtain⟨rfl,rfl⟩:=e;exact q.1,q.2⟩,aE.cons ⟨t,rfl⟩ aE.nil,dd⟩
theorem Own.At.rd {G:ae} {h:Heap} {o:Own} (x:o.At G h) (k:∀b∈o.fp,∀ob,h.get? b=some ob→G b=some ob):Rd G o.pv (.ref o.addr):=by
 cases o with
 | lst a l=>exact LstAt.rd x (k a (by simp[Own.fp]))
 | acc a d n l=>exact AccAt.rd x k
 | fmt f df ln a d ml sp lines n l=>
  obtain⟨o,m,t,u,ho,hi,hn,q1,q2,q3,q4,hl,ha,ne⟩:=x
  obtain⟨od,hod,hno⟩:=mK.of hn
  refine⟨f,o,df,od,m,[.int ml t, .str sp u, .ref ln, .ref a],[],rfl,k f (by simp[Own.fp]) o ho,hi,k df (by simp[Own.fp]) od hod,hno,⟨?_,q4.2⟩,?_,aE.nil⟩
  ·have q4:=q4.1
   intro x u e
   simp at e
   rcases e with⟨rfl,rfl⟩ | ⟨rfl,rfl⟩ | ⟨rfl,rfl⟩ | ⟨rfl,rfl⟩<;>assumption
  ·exact aE.cons ⟨t,rfl⟩ (aE.cons ⟨u,rfl⟩ (aE.cons (hl.rd (k ln (by simp[Own.fp]))) (aE.cons (ha.rd (fun b hb=>k b (by simp[Own.fp] at hb ⊢;rcases hb with rfl | rfl<;>simp))) aE.nil)))
structure Bd where
 S:ae
 G:ae
 os:OsState
 wr:Bool
structure Fin (X:Cx) (D:Bd) (s:Shared) (G:ae):Prop where
 keep:bf X D.S s.heap
 gnd:b5 X s.heap
 sub:Sub D.G G
 within:Sub G s.heap.get?
 low:∀b o o',G b=some o→D.S b=some o'→D.G b=some o
 os:s.os=D.os
 gens:gU X G s
theorem Fin.step {X:Cx} {D:Bd} {s s':Shared} {G G':ae} (f:Fin X D s G) (t:Step X s G s' G'):Fin X D s' G':=
 ⟨f.keep.trans t.keep,t.gnd,f.sub.trans t.sub,t.within,fun b o o' e h=>let ⟨o1,h1⟩:=bf.there f.keep h;f.low b o o' (t.low b o o1 e h1) h,t.os.trans f.os,t.gens⟩
structure av (X:Cx) (fp:List Addr) (s:Shared) (G:ae) (s':Shared) (G':ae):Prop where
 keep:∀b o,b∉fp→s.heap.get? b=some o→s'.heap.get? b=some o∨rR X s'.heap b o
 gnd:b5 X s'.heap
 sub:Sub G G'
 within:Sub G' s'.heap.get?
 low:∀b o o',G' b=some o→s.heap.get? b=some o'→G b=some o
 os:s'.os=s.os
 gens:gU X G' s'
 off:∀b∈fp,G b=none→G' b=none
theorem av.dh {X:Cx} {s s':Shared} {G G':ae} (t:Step X s G s' G') (fp:List Addr) (h:∀b∈fp,∃o,s.heap.get? b=some o):av X fp s G s' G':=⟨fun b o _ e=>t.keep b o e,t.gnd,t.sub,t.within,t.low,t.os,t.gens,fun b hb e=>by
 obtain⟨o,ho⟩:=h b hb
 cases q:G' b with
 | none=>rfl
 | some o'=>rw[t.low b o' o q ho] at e;cases e⟩
theorem av.toStep {X:Cx} {s s':Shared} {G G':ae} (t:av X [] s G s' G'):Step X s G s' G':=⟨fun b o e=>t.keep b o (by simp) e,t.gnd,t.sub,t.within,t.low,t.os,t.gens⟩
theorem av.get {X:Cx} {fp:List Addr} {s s':Shared} {G G':ae} (t:av X fp s G s' G') {b:Addr} {o:Obj} (hb:b∉fp) (e:s.heap.get? b=some o) (hd:∀vs,o.data≠ .fields vs):s'.heap.get? b=some o:=by
 rcases t.keep b o hb e with x | ⟨_,_,_,vs,_,r,_⟩
 ·exact x
 ·subst r;exact absurd rfl (hd vs)
theorem av.there {X:Cx} {fp:List Addr} {s s':Shared} {G G':ae} (t:av X fp s G s' G') {b:Addr} {o:Obj} (hb:b∉fp) (e:s.heap.get? b=some o):∃o',s'.heap.get? b=some o':=by
 rcases t.keep b o hb e with x | ⟨_,_,_,vs,_,r,g⟩
 ·exact⟨_,x⟩
 ·exact⟨_,g⟩
theorem av.trans {X:Cx} {fp:List Addr} {s s' s'':Shared} {G G' G'':ae} (a:av X fp s G s' G') (b:av X fp s' G' s'' G''):av X fp s G s'' G'':=by
 refine⟨fun c o hc e=>?_,b.gnd,a.sub.trans b.sub,b.within,fun c o o' e h=>?_,b.os.trans a.os,b.gens,fun c hc e=>b.off c hc (a.off c hc e)⟩
 ·rcases a.keep c o hc e with x | ⟨t,ht,q,vs,more,r,g⟩
  ·exact b.keep c o hc x
  ·rcases b.keep c _ hc g with x | ⟨t',ht',q',vs',more',r',g'⟩
   ·exact .inr ⟨t,ht,q,vs,more,r,x⟩
   ·have:vs++more=vs':=by
     have:=congrArg Obj.data r'
     simpa [lJ] using this
    exact .inr ⟨t,ht,q,vs,more++more',r,by rw[g',←this,Array.append_assoc]⟩
 ·cases q:G c with
  | some o1=>
   have:=b.sub _ _ (a.sub _ _ q)
   rw[this] at e;exact e
  | none=>
   by_cases hc:c∈fp
   ·rw[b.off c hc (a.off c hc q)] at e;cases e
   ·obtain⟨o1,h1⟩:=a.there hc h
    have:=a.low c o o' (b.low c o o1 e h1) h
    rw[q] at this;cases this
theorem av.mono {X:Cx} {fp fp':List Addr} {s s':Shared} {G G':ae} (t:av X fp s G s' G') (h:∀b∈fp,b∈fp') (hx:∀b∈fp',b∉fp→∃o,s.heap.get? b=some o):av X fp' s G s' G':=
 ⟨fun b o hb e=>t.keep b o (fun q=>hb (h b q)) e,t.gnd,t.sub,t.within,t.low,t.os,t.gens,fun b hb e=>by
  by_cases q:b∈fp
  ·exact t.off b q e
  ·obtain⟨o,ho⟩:=hx b hb q
   cases z:G' b with
   | none=>rfl
   | some o'=>rw[t.low b o' o z ho] at e;cases e⟩
theorem av.drop {X:Cx} {fp fp':List Addr} {s s':Shared} {G G':ae} (t:av X fp s G s' G') (h:∀b∈fp,b∈fp'∨s.heap.get? b=none) (hs:∀b∈fp',b∈fp):av X fp' s G s' G':=
 ⟨fun b o hb e=>t.keep b o (fun q=>(h b q).elim hb fun x=>by rw[x] at e;cases e) e,t.gnd,t.sub,t.within,t.low,t.os,t.gens,fun b hb e=>t.off b (hs b hb) e⟩
noncomputable abbrev aA:=List (Str×Option Own)
inductive dW (ω:aA) (a:Addr):Prop
 | mk (x o) (e:ω.lookup x=some (some o)) (h:a∈o.fp)
structure dp (ω:aA) (D:Bd) (s:Shared) (G:ae):Prop where
 at_:∀x o,ω.lookup x=some (some o)→o.At G s.heap
 off:∀x o,ω.lookup x=some (some o)→∀b∈o.fp,D.S b=none∧G b=none
 apart:∀x y o o',ω.lookup x=some (some o)→ω.lookup y=some (some o')→x≠y→∀b∈o.fp,b∉o'.fp
structure bC (X:Cx) (env:Env) (sc:Scope) (ρ:az) (ω:aA) (D:Bd) (s:Shared) (G:ae):Prop where
 er:bU X env sc ρ s G
 fin:Fin X D s G
 spec:∀b,aw X b→∃o,D.S b=some o
 loc:D.S env.locals=none∧G env.locals=none∧∃m,s.heap.Ns env.locals m
 cel:D.wr=true→∀x c,env.cells.lookup x=some c→env.kindOf x=some .cell→D.S c=none∧G c=none∧∃v,s.heap.IsCell c v
 celIs:D.wr=true→∀x,env.kindOf x=some .cell→∃c,env.cells.lookup x=some c
 apart:D.wr=true→env.cells.Pairwise (fun a b=>a.2≠b.2)
 held:dp ω D s G
 own:∀x o,ω.lookup x=some (some o)→a0 env s.heap x (.ref o.addr)∧env.locals∉o.fp
theorem Step.cg {X:Cx} {s s':Shared} {G G':ae} (t:Step X s G s' G') {a:Addr} {o:Obj} (h:G a=none) (ho:s.heap.get? a=some o):G' a=none:=by
 cases q:G' a with
 | none=>rfl
 | some o'=>rw[t.low a o' o q ho] at h;cases h
theorem cU {h:Heap} {a:Addr} {m:Str→Option Value} (x:h.Ns a m):∃o,h.get? a=some o∧∃es ep,o.data= .dict es ep:=let ⟨o,es,ep,ho,hd,_⟩:=x;⟨o,ho,es,ep,hd⟩
theorem dp.step {X:Cx} {ω:aA} {D:Bd} {s s':Shared} {G G':ae} (r:dp ω D s G) (t:Step X s G s' G'):dp ω D s' G':=by
 refine⟨fun x o h=>(r.at_ x o h).keep t.sub fun b hb ob e=>?_,fun x o h b hb=>?_,r.apart⟩
 ·obtain⟨ob',e',q⟩:=(r.at_ x o h).solid b hb
  rw[e] at e';cases e'
  exact bf.get' t.keep e q.1
 ·obtain⟨ob,e,_⟩:=(r.at_ x o h).solid b hb
  exact⟨(r.off x o h b hb).1,t.cg (r.off x o h b hb).2 e⟩
theorem bC.step {X:Cx} {env:Env} {sc:Scope} {ρ:az} {ω:aA} {D:Bd} {s s':Shared} {G G':ae} (r:bC X env sc ρ ω D s G) (t:Step X s G s' G'):bC X env sc ρ ω D s' G':=by
 refine⟨r.er.step t,r.fin.step t,r.spec,?_,?_,r.celIs,r.apart,r.held.step t,fun x o h=>⟨(r.own x o h).1.keep t.keep,(r.own x o h).2⟩⟩
 ·obtain⟨a,b,m,c⟩:=r.loc
  obtain⟨o,ho,_⟩:=cU c
  exact⟨a,t.cg b ho,m,t.keep.ns c⟩
 ·intro w x c h1 h2
  obtain⟨a,b,v,d⟩:=r.cel w x c h1 h2
  obtain⟨o,ho,_⟩:=id d
  exact⟨a,t.cg b ho,v,t.keep.cell d⟩
noncomputable def cR (h:Heap) (ω:aA) (G:ae):ae:=fun b=>if dW ω b then h.get? b else G b
noncomputable def cm:aA→az→az
 | [],ρ=>ρ
 | (x,some o)::r,ρ=>(x,some o.pv)::cm r ρ
 | (x,none)::r,ρ=>(x,(ρ.lookup x).join)::cm r ρ
theorem mA {ω:aA} {ρ:az} {x:Str} {p:PV} (h:(cm ω ρ).lookup x=some (some p)):(∃o,ω.lookup x=some (some o)∧p=o.pv)∨ρ.lookup x=some (some p):=by
 induction ω with
 | nil=>exact .inr h
 | cons q r ih=>
  obtain⟨y,z⟩:=q
  cases z with
  | none=>
   replace h:((y,(ρ.lookup y).join)::cm r ρ).lookup x=some (some p):=h
   rw[List.lookup_cons] at h ⊢
   cases hb:x==y with
   | true=>
    rw[hb] at h
    have e:=beq_iff_eq.mp hb
    subst e
    refine .inr ?_
    cases e:ρ.lookup x with
    | none=>rw[e] at h;cases h
    | some w=>rw[e] at h;exact h
   | false=>rw[hb] at h;exact ih h
  | some o=>
   replace h:((y,some o.pv)::cm r ρ).lookup x=some (some p):=h
   rw[List.lookup_cons] at h ⊢
   cases hb:x==y with
   | true=>rw[hb] at h;simp only[Option.some.injEq] at h;exact .inl ⟨o,rfl,h.symm⟩
   | false=>rw[hb] at h;exact ih h
theorem bC.plus {X:Cx} {env:Env} {sc:Scope} {ρ:az} {ω:aA} {D:Bd} {s:Shared} {G:ae} (r:bC X env sc ρ ω D s G):
  bU X env sc (cm ω ρ) s (cR s.heap ω G)∧Sub G (cR s.heap ω G):=by
 have sub:Sub G (Mine.Internal.cR s.heap ω G):=by
  intro b o e
  unfold Mine.Internal.cR
  split
  ·exact r.er.within b o e
  ·exact e
 have bare:gU X (Mine.Internal.cR s.heap ω G) s:=r.er.gens.of rfl fun t ht e=>by
  unfold Mine.Internal.cR
  rw[if_neg]
  ·exact e
  ·(intro zz;obtain⟨x,o,h1,hb⟩:=zz)
   obtain⟨o',h'⟩:=r.spec t.2.1 (.inr (.inr (.inr (.inr (.inr ⟨t,ht, .inr rfl⟩)))))
   rw[(r.held.off x o h1 _ hb).1] at h';cases h'
 refine⟨⟨r.er.gnd,?_,bare,r.er.scope,r.er.kind,r.er.globals,r.er.builtins,r.er.cod,?_⟩,sub⟩
 ·intro b o e
  unfold Mine.Internal.cR at e
  split at e
  ·exact e
  ·exact r.er.within b o e
 ·intro x p h
  rcases mA h with⟨o,h1,rfl⟩ | h1
  ·refine⟨_,(r.own x o h1).1,((r.held.at_ x o h1).keep sub fun _ _ _ e=>e).rd fun b hb ob e=>?_⟩
   unfold Mine.Internal.cR
   rw[if_pos ⟨x,o,h1,hb⟩]
   exact e
  ·obtain⟨v,a,b⟩:=r.er.vars x p h1
   exact⟨v,a,Rd.mono sub _ _ b⟩
theorem bC.back {X:Cx} {env:Env} {sc:Scope} {ρ:az} {ω:aA} {D:Bd} {s s':Shared} {G G':ae} (r:bC X env sc ρ ω D s G) (t:Step X s (cR s.heap ω G) s' G'):
  ∃G1,Step X s G s' G1∧(∀p v,p.flat=true→Rd G' p v→Rd G1 p v)∧∀b o,s.heap.get? b=none→G' b=some o→G1 b=some o:=by
 have ownLt:∀b,dW ω b→∃o,s.heap.get? b=some o∧ff o∧G b=none:=by
  (intro b zz;obtain⟨x,o,h1,hb⟩:=zz)
  obtain⟨ob,e,q⟩:=(r.held.at_ x o h1).solid b hb
  exact⟨ob,e,q,(r.held.off x o h1 b hb).2⟩
 refine⟨fun b=>if dW ω b then none else G' b,⟨t.keep,t.gnd,?_,?_,?_,t.os,t.gens.of rfl fun t ht e=>by
  show(if dW ω t.2.1 then none else G' t.2.1)=none
  split<;>first | rfl | exact e⟩,?_,?_⟩
 ·intro b o e
  have h1:¬dW ω b:=fun q=>by obtain⟨_,_,_,z⟩:=ownLt b q;rw[z] at e;cases e
  show(if dW ω b then none else G' b)=some o
  rw[if_neg h1]
  apply t.sub
  unfold Mine.Internal.cR
  rw[if_neg h1];exact e
 ·intro b o e
  have e':(if dW ω b then none else G' b)=some o:=e
  split at e'
  ·cases e'
  ·exact t.within b o e'
 ·intro b o o' e hl
  have e':(if dW ω b then none else G' b)=some o:=e
  split at e'
  ·cases e'
  ·rename_i h1
   have:=t.low b o o' e' hl
   unfold Mine.Internal.cR at this
   rw[if_neg h1] at this;exact this
 ·intro p v hf hr
  refine Rd.flat (fun b o e hc hd=>?_) p v hf hr
  have h1:¬dW ω b:=fun q=>by
   obtain⟨o1,ho,hs,_⟩:=ownLt b q
   have:=bf.get' t.keep ho hs.1
   rw[t.within b o e] at this
   cases this
   obtain⟨vs,n,hd⟩:=hd
   exact hs.2.2 hc vs n hd
  show(if dW ω b then none else G' b)=some o
  rw[if_neg h1];exact e
 ·intro b o hn e
  have h1:¬dW ω b:=fun q=>by
   obtain⟨o1,ho,_⟩:=ownLt b q
   rw[hn] at ho;cases ho
  show(if dW ω b then none else G' b)=some o
  rw[if_neg h1];exact e
inductive xD where
 | next | brk | cont
noncomputable def xD.uh:xD→Flow
 | .next=> .next
 | .brk=> .brk
 | .cont=> .cont
noncomputable abbrev a6:=xD→az→aA→Prop
noncomputable def cI (X:Cx) (n:Nat) (sc:Scope) (ρ:az) (ω:aA) (tree:Env→Sem Flow) (P:a6) (R:PV→aA→Prop):Prop:=
 ∀(A:Around) (env:Env) (s:Shared) (G:ae) (D:Bd) (Q:Flow→Shared→Prop) (E:Value→Shared→Prop),aV A n→D.wr=true→bC X env sc ρ ω D s G→
  (∀fl ρ' ω' s' G',P fl ρ' ω'→bC X env sc ρ' ω' D s' G'→Q fl.uh s')→(∀p ω' v s' G',R p ω'→Fin X D s' G'→dp ω' D s' G'→Rd G' p v→Q (.ret v) s')→
  wpAny (model X.prog X.w) A (tree env) Q E s
noncomputable abbrev aF (X:Cx) (n:Nat) (sc:Scope) (ρ:az) (ω:aA) (st:Stmt) (P:a6) (R:PV→aA→Prop):Prop:=cI X n sc ρ ω (fun env=>exec st env) P R
noncomputable abbrev af (X:Cx) (n:Nat) (sc:Scope) (ρ:az) (ω:aA) (st:List Stmt) (P:a6) (R:PV→aA→Prop):Prop:=cI X n sc ρ ω (fun env=>execs st env) P R
section
variable {X:Cx} {n:Nat} {sc:Scope} {ρ:az} {ω:aA} {P P':a6} {R R':PV→aA→Prop} {tree:Env→Sem Flow}
theorem cI.mono (h:cI X n sc ρ ω tree P R) (hp:∀fl ρ' ω',P fl ρ' ω'→P' fl ρ' ω') (hr:∀p ω,R p ω→R' p ω):cI X n sc ρ ω tree P' R':=
 fun A env s G D Q E rm wr r k1 k2=>h A env s G D Q E rm wr r (fun fl ρ' ω' s' G' p=>k1 fl ρ' ω' s' G' (hp _ _ _ p)) fun p ω' v s' G' x=>k2 p ω' v s' G' (hr _ _ x)
noncomputable def aG (ρ' ρ:az):Prop:=∀x p,ρ'.lookup x=some (some p)→ρ.lookup x=some (some p)
noncomputable def aC (ω' ω:aA):Prop:=∀x p,ω'.lookup x=some (some p)→ω.lookup x=some (some p)
theorem dp.less {ω ω':aA} {D:Bd} {s:Shared} {G:ae} (r:dp ω D s G) (ho:aC ω' ω):dp ω' D s G:=
 ⟨fun x o e=>r.at_ x o (ho _ _ e),fun x o e=>r.off x o (ho _ _ e),fun x y o o' e e'=>r.apart x y o o' (ho _ _ e) (ho _ _ e')⟩
theorem bC.less {env:Env} {D:Bd} {s:Shared} {G:ae} {ρ':az} {ω':aA} (r:bC X env sc ρ ω D s G) (h:aG ρ' ρ) (ho:aC ω' ω):bC X env sc ρ' ω' D s G:=
 ⟨⟨r.er.gnd,r.er.within,r.er.gens,r.er.scope,r.er.kind,r.er.globals,r.er.builtins,r.er.cod,fun x p e=>r.er.vars x p (h x p e)⟩,r.fin,r.spec,r.loc,r.cel,r.celIs,r.apart,r.held.less ho,fun x l e=>r.own x l (ho x l e)⟩
theorem cI.less {ρ':az} {ω':aA} (h:cI X n sc ρ' ω' tree P R) (a:aG ρ' ρ) (b:aC ω' ω):cI X n sc ρ ω tree P R:=
 fun A env s G D Q E rm wr r k1 k2=>h A env s G D Q E rm wr (r.less a b) k1 k2
theorem af.nil (h:P .next ρ ω):af X n sc ρ ω [] P R:=fun A env s G D Q E rm wr r k1 k2=>wpAny_execs_nil (k1 .next ρ ω s G h r)
theorem af.cons {st:Stmt} {rest:List Stmt} (h:aF X n sc ρ ω st (fun fl ρ' ω'=>match fl with | .next=>af X n sc ρ' ω' rest P R | f=>P f ρ' ω') R):af X n sc ρ ω (st::rest) P R:=by
 intro A env s G D Q E rm wr r k1 k2
 refine wpAny_execs_cons (h A env s G D _ E rm wr r (fun fl ρ' ω' s' G' p r'=>?_) fun p ω' v s' G' x f hl d=>k2 p ω' v s' G' x f hl d)
 cases fl with
 | next=>exact p A env s' G' D Q E rm wr r' k1 k2
 | brk=>exact k1 .brk ρ' ω' s' G' p r'
 | cont=>exact k1 .cont ρ' ω' s' G' p r'
theorem aF.brk {pos:Pos} (h:P .brk ρ ω):aF X n sc ρ ω (.Break pos) P R:=fun A env s G D Q E rm wr r k1 k2=>wpAny_Break (k1 .brk ρ ω s G h r)
theorem aF.cont {pos:Pos} (h:P .cont ρ ω):aF X n sc ρ ω (.Continue pos) P R:=fun A env s G D Q E rm wr r k1 k2=>wpAny_Continue (k1 .cont ρ ω s G h r)
theorem Fin.back {env:Env} {D:Bd} {s s':Shared} {G G':ae} (r:bC X env sc ρ ω D s G) (t:Step X s (cR s.heap ω G) s' G'):Fin X D s' G':=by
 refine⟨r.fin.keep.trans t.keep,t.gnd,r.fin.sub.trans ((bC.plus r).2.trans t.sub),t.within,fun b o o' e h=>?_,t.os.trans r.fin.os,t.gens⟩
 obtain⟨o1,ho1⟩:=bf.there r.fin.keep h
 have h1:=t.low b o o1 e ho1
 unfold Mine.Internal.cR at h1
 split at h1
 ·rename_i q
  obtain⟨x,l,h2,hb⟩:=q
  rw[(r.held.off x l h2 b hb).1] at h;cases h
 ·exact r.fin.low b o o' h1 h
theorem dp.nil {D:Bd} {s:Shared} {G:ae}:dp [] D s G:=⟨fun _ _ e=>(nomatch e),fun _ _ e=>(nomatch e),fun _ _ _ _ e=>(nomatch e)⟩
theorem aF.ret {e:PySem.Expr} {pos:Pos} {p:PV} (h:aa X n sc (cm ω ρ) e p) (hr:R p []):aF X n sc ρ ω (.Return (some e) pos) P R:=
 fun A env s G D Q E rm wr r k1 k2=>wpAny_Return_some (h A env s _ _ E rm r.plus.1 fun v s' G' t d=>k2 p [] v s' G' hr (Fin.back r t) dp.nil d)
theorem aF.vH {e:PySem.Expr} {pos:Pos} {p:PV} (h:aa X n sc (cm ω ρ) e p) (hf:p.flat=true) (hr:R p ω):aF X n sc ρ ω (.Return (some e) pos) P R:=by
 intro A env s G D Q E rm wr r k1 k2
 refine wpAny_Return_some (h A env s _ _ E rm r.plus.1 fun v s' G' t d=>?_)
 obtain⟨G1,t1,fl,_⟩:=r.back t
 exact k2 p ω v s' G1 hr (r.fin.step t1) (r.held.step t1) (fl p v hf d)
theorem aF.vF {pos:Pos} (hr:R .none ω):aF X n sc ρ ω (.Return none pos) P R:=
 fun A env s G D Q E rm wr r k1 k2=>wpAny_Return_none (k2 .none ω .none s G hr r.fin r.held rfl)
theorem aF.ite {test:PySem.Expr} {body orelse:List Stmt} {pos:Pos} {b:Bool} (h:bb X n sc (cm ω ρ) test b) (ht:b=true→af X n sc ρ ω body P R) (hf:b=false→af X n sc ρ ω orelse P R):
  aF X n sc ρ ω (.If test body orelse pos) P R:=by
 intro A env s G D Q E rm wr r k1 k2
 refine wpAny_If (h A env s _ _ E rm r.plus.1 fun s' G' t=>?_)
 obtain⟨G1,t1,_⟩:=r.back t
 cases b with
 | true=>exact ht rfl A env s' G1 D Q E rm wr (r.step t1) k1 k2
 | false=>exact hf rfl A env s' G1 D Q E rm wr (r.step t1) k1 k2
end
end
set_option genInjectivity false
section
open PySem PySem.Calls PyProof.Rows PySem.W
section
variable {X:Cx} {n:Nat} {sc:Scope} {ρ:az} {ω:aA} {env:Env} {D:Bd} {s:Shared} {G:ae}
theorem dP (r:bC X env sc ρ ω D s G) {a:Addr} (h:D.S a=none):¬aw X a:=fun q=>by
 obtain⟨o,e⟩:=r.spec a q
 rw[h] at e;cases e
theorem Fin.change {h':Heap} {tk:Nat} {a:Addr} {oa:Obj} (f:Fin X D s G) (hs:Heap.SameBut a s.heap h') (hD:D.S a=none) (hG:G a=none) (hoa:s.heap.get? a=some oa) (hcl:d8 oa) (hsp:¬aw X a):
  Fin X D {s with heap:=h',toks:=tk} G:=by
 have ne:∀{b o},D.S b=some o→b≠a:=fun h e=>by rw[e,hD] at h;cases h
 have neG:∀{b o},G b=some o→b≠a:=fun h e=>by rw[e,hG] at h;cases h
 refine⟨fun b o e=>?_,f.gnd.sameBut hs hsp hoa hcl,f.sub,fun b o e=>(hs.2 b (neG e)).trans (f.within b o e),f.low,f.os,f.gens⟩
 rcases f.keep b o e with x | ⟨t,ht,q,vs,more,r,g⟩
 ·exact .inl ((hs.2 b (ne e)).trans x)
 ·exact .inr ⟨t,ht,q,vs,more,r,(hs.2 b (ne e)).trans g⟩
theorem a0.cases {h:Heap} {x:Str} {v:Value} (a:a0 env h x v):(env.kindOf x=some .local∧∃m,h.Ns env.locals m∧m x=some v)∨(∃c,env.cells.lookup x=some c∧h.IsCell c (some v)∧(env.kindOf x=some .cell∨(env.kindOf x=some .free∧(x==("__classdict__":Str))=false))):=by
 unfold a0 at a
 cases hk:env.kindOf x with
 | none=>rw[hk] at a;exact a.elim
 | some kd=>
  rw[hk] at a
  cases kd with
  | «local»=>exact .inl ⟨rfl,a⟩
  | cell=>obtain⟨c,a,b⟩:=a;exact .inr ⟨c,a,b, .inl rfl⟩
  | free=>obtain⟨c,a,b,d⟩:=a;exact .inr ⟨c,a,b, .inr ⟨rfl,d⟩⟩
  | _=>exact a.elim
theorem a0.local {h:Heap} {x:Str} {v:Value} {m:Str→Option Value} (hk:env.kindOf x=some .local) (hn:h.Ns env.locals m) (hv:m x=some v):a0 env h x v:=by
 unfold a0;rw[hk];exact⟨m,hn,hv⟩
theorem a0.cell {h:Heap} {x:Str} {v:Value} {c:Addr} (hk:env.kindOf x=some .cell) (hc:env.cells.lookup x=some c) (hv:h.IsCell c (some v)):a0 env h x v:=by
 unfold a0;rw[hk];exact⟨c,hc,hv⟩
theorem a0.free {h:Heap} {x:Str} {v:Value} {c:Addr} (hk:env.kindOf x=some .free) (hz:(x==("__classdict__":Str))=false) (hc:env.cells.lookup x=some c) (hv:h.IsCell c (some v)):a0 env h x v:=by
 unfold a0;rw[hk];exact⟨c,hc,hv,hz⟩
theorem dR {h:Heap} {c a:Addr} {v:Option Value} {m:Str→Option Value} (x:h.IsCell c v) (y:h.Ns a m):c≠a:=by
 rintro rfl
 obtain⟨o,ho,hd⟩:=x
 obtain⟨o',_,_,ho',hd',_⟩:=y
 rw[ho] at ho';cases ho'
 rw[hd] at hd';cases hd'
theorem nu {h:Heap} {c a:Addr} {vs:Array Value} {m:Str→Option Value} (x:h.IsList c vs) (y:h.Ns a m):c≠a:=by
 rintro rfl
 obtain⟨o,ho,_,n,hd⟩:=x
 obtain⟨o',_,_,ho',hd',_⟩:=y
 rw[ho] at ho';cases ho'
 rw[hd] at hd';cases hd'
theorem ia {h:Heap} {c a:Addr} {vs:Array Value} {v:Option Value} (x:h.IsList c vs) (y:h.IsCell a v):c≠a:=by
 rintro rfl
 obtain⟨o,ho,_,n,hd⟩:=x
 obtain⟨o',ho',hd'⟩:=y
 rw[ho] at ho';cases ho'
 rw[hd] at hd';cases hd'
theorem b8.at {sc:Scope} {x:Str} {D:Bd} (h:sc.names.lookup x=some .local∨sc.names.lookup x=some .cell) (wr:D.wr=true):sc.names.lookup x=some .local∨(D.wr=true∧sc.names.lookup x=some .cell):=h.imp id fun e=>⟨wr,e⟩
noncomputable def b8 (sc:Scope) (x:Str):Prop:=sc.names.lookup x=some .local∨sc.names.lookup x=some .cell
structure eQ (X:Cx) (env:Env) (D:Bd) (s:Shared) (G:ae) (x:Str) (v:Value) (h':Heap) (tk:Nat):Prop where
 fin:Fin X D {s with heap:=h',toks:=tk} G
 here:a0 env h' x v
 other:∀y u,y≠x→a0 env s.heap y u→a0 env h' y u
 solid:∀b ob,s.heap.get? b=some ob→ff ob→b≠env.locals→h'.get? b=some ob
 ns:∃m,h'.Ns env.locals m
 cells:∀c v,s.heap.IsCell c v→∃v',h'.IsCell c v'
theorem bC.storeAt (r:bC X env sc ρ ω D s G) {x:Str} {v:Value} (hx:sc.names.lookup x=some .local∨(D.wr=true∧sc.names.lookup x=some .cell)) {A:Around} {Q:Unit→Shared→Prop} {E:Value→Shared→Prop}
  (k:∀h' tk,eQ X env D s G x v h' tk→Q () {s with heap:=h',toks:=tk}):wpAny (model X.prog X.w) A (storeName env x v) Q E s:=by
 have kf:env.scope.kind= .function:=by rw[r.er.scope];exact r.er.kind
 obtain⟨l1,l2,m,hn⟩:=r.loc
 rcases hx with hx | ⟨wr,hx⟩
 ·have hl:env.kindOf x=some .local:=by rw[bh r.er.scope];exact hx
  obtain⟨o,ho,es,ep,hd⟩:=cU hn
  refine wpAny_storeName_local hl hn (fun h' hn' hs=>k h' _ ?_) (by rw[kf];rfl)
  refine⟨r.fin.change hs l1 l2 ho ?_ (dP r l1), .local hl hn' (by simp),?_,fun b ob e _ ne=>(hs.2 b ne).trans e,⟨_,hn'⟩,fun c v q=>⟨v,q.sameBut hs (dR q hn)⟩⟩
  ·intro _ _;rw[hd];nofun
  ·intro y u hy a
   rcases a.cases with⟨hk,m',hn1,hv⟩ | ⟨c,h1,h2,h3⟩
   ·refine .local hk hn' ?_
    rw[if_neg hy,←o9 hn1 hn];exact hv
   ·have h4:=h2.sameBut hs (dR h2 hn)
    rcases h3 with h3 | ⟨h3,hz⟩
    ·exact .cell h3 h1 h4
    ·exact .free h3 hz h1 h4
 ·have hl:env.kindOf x=some .cell:=by rw[bh r.er.scope];exact hx
  obtain⟨c,hlk⟩:=r.celIs wr x hl
  obtain⟨d1,d2,v0,hv0⟩:=r.cel wr x c hlk hl
  obtain⟨o,ho,hd⟩:=id hv0
  refine wpAny_storeName_cell kf hl hlk hv0 fun h' hc' hs=>k h' s.toks ?_
  refine⟨r.fin.change hs d1 d2 ho ?_ (dP r d1), .cell hl hlk hc',?_,fun b ob e so _=>(hs.2 b (fun z=>by subst z;rw[ho] at e;cases e;exact so.2.1 _ hd)).trans e,⟨_,hn.sameBut hs (Ne.symm (dR hv0 hn))⟩,fun c1 v q=>?_⟩
  ·intro _ _;rw[hd];nofun
  ·intro y u hy a
   rcases a.cases with⟨hk,m',hn1,hv⟩ | ⟨c1,h1,h2,h3⟩
   ·exact .local hk (hn1.sameBut hs (Ne.symm (dR hv0 hn1))) hv
   ·have hne:c1≠c:=fun e=>hy (name_of_addr (r.apart wr) (mem_of_lookup h1) (e▸mem_of_lookup hlk))
    have h4:=h2.sameBut hs hne
    rcases h3 with h3 | ⟨h3,hz⟩
    ·exact .cell h3 h1 h4
    ·exact .free h3 hz h1 h4
  ·by_cases e:c1=c
   ·subst e;exact⟨_,hc'⟩
   ·exact⟨v,q.sameBut hs e⟩
theorem eQ.base (r:bC X env sc ρ ω D s G) {x:Str} {v:Value} {h':Heap} {tk:Nat} (S:eQ X env D s G x v h' tk) {ρ':az} {ω':aA}
  (hv:∀y p,ρ'.lookup y=some (some p)→∃u,a0 env h' y u∧Rd G p u)
  (hh:dp ω' D {s with heap:=h',toks:=tk} G) (ho:∀y o,ω'.lookup y=some (some o)→a0 env h' y (.ref o.addr)∧env.locals∉o.fp):
  bC X env sc ρ' ω' D {s with heap:=h',toks:=tk} G:=by
 refine⟨⟨S.fin.gnd,S.fin.within,S.fin.gens,r.er.scope,r.er.kind,r.er.globals,r.er.builtins,r.er.cod,hv⟩,S.fin,r.spec,⟨r.loc.1,r.loc.2.1,S.ns⟩,?_,r.celIs,r.apart,hh,ho⟩
 intro w y c h1 h2
 obtain⟨a,b,u,d⟩:=r.cel w y c h1 h2
 exact⟨a,b,S.cells c u d⟩
theorem eQ.at_ {x:Str} {v:Value} {h':Heap} {tk:Nat} (S:eQ X env D s G x v h' tk) {o:Own} (a:o.At G s.heap) (hl:env.locals∉o.fp):o.At G h':=
 a.keep (Sub.refl _) fun b hb ob e=>by
  obtain⟨ob',e',so⟩:=a.solid b hb
  rw[e] at e';cases e'
  exact S.solid b ob e so (fun z=>hl (z▸hb))
theorem aN {α:Type} {x y:Str} {p:α} {l:List (Str×α)} (h:y≠x):((x,p)::l).lookup y=l.lookup y:=by
 rw[List.lookup_cons,beq_false_of_ne h]
theorem aM {α:Type} {x:Str} {p:α} {l:List (Str×α)}:((x,p)::l).lookup x=some p:=by
 rw[List.lookup_cons,beq_self_eq_true]
theorem eQ.pure (r:bC X env sc ρ ω D s G) {x:Str} {v:Value} {h':Heap} {tk:Nat} (S:eQ X env D s G x v h' tk) {p:PV} (d:Rd G p v):
  bC X env sc ((x,some p)::ρ) ((x,none)::ω) D {s with heap:=h',toks:=tk} G:=by
 have ne:∀{y o},((x,(none:Option Own))::ω).lookup y=some (some o)→y≠x∧ω.lookup y=some (some o):=by
  intro y l e
  by_cases hy:y=x
  ·subst hy;rw[aM] at e;cases e
  ·rw[aN hy] at e;exact⟨hy,e⟩
 refine S.base r ?_ ⟨fun y o e=>?_,fun y o e=>?_,fun y z o o' e e'=>?_⟩ fun y o e=>?_
 ·intro y q e
  by_cases hy:y=x
  ·subst hy
   rw[aM] at e;cases e
   exact⟨v,S.here,d⟩
  ·rw[aN hy] at e
   obtain⟨u,a,b⟩:=r.er.vars y q e
   exact⟨u,S.other y u hy a,b⟩
 ·exact S.at_ (r.held.at_ y o (ne e).2) (r.own y o (ne e).2).2
 ·exact r.held.off y o (ne e).2
 ·exact r.held.apart y z o o' (ne e).2 (ne e').2
 ·obtain⟨hy,e⟩:=ne e
  exact⟨S.other y _ hy (r.own y o e).1,(r.own y o e).2⟩
structure lO (env:Env) (ω:aA) (D:Bd) (s:Shared) (G:ae) (o:Own):Prop where
 at_:o.At G s.heap
 off:∀b∈o.fp,D.S b=none∧G b=none
 loc:env.locals∉o.fp
 apart:∀y o',ω.lookup y=some (some o')→∀b∈o.fp,b∉o'.fp
theorem eQ.owned (r:bC X env sc ρ ω D s G) {x:Str} {o:Own} {h':Heap} {tk:Nat} (S:eQ X env D s G x (.ref o.addr) h' tk) (d:lO env ω D s G o):
  bC X env sc ((x,none)::ρ) ((x,some o)::ω) D {s with heap:=h',toks:=tk} G:=by
 have cs:∀{y o'},((x,some o)::ω).lookup y=some (some o')→(y=x∧o'=o)∨(y≠x∧ω.lookup y=some (some o')):=by
  intro y o' e
  by_cases hy:y=x
  ·subst hy;rw[aM] at e;cases e;exact .inl ⟨rfl,rfl⟩
  ·rw[aN hy] at e;exact .inr ⟨hy,e⟩
 refine S.base r ?_ ⟨fun y o' e=>?_,fun y o' e=>?_,fun y z o1 o2 e e' hne=>?_⟩ fun y o' e=>?_
 ·intro y q e
  by_cases hy:y=x
  ·subst hy
   rw[aM] at e;cases e
  ·rw[aN hy] at e
   obtain⟨u,a,b⟩:=r.er.vars y q e
   exact⟨u,S.other y u hy a,b⟩
 ·rcases cs e with⟨rfl,rfl⟩ | ⟨hy,e⟩
  ·exact S.at_ d.at_ d.loc
  ·exact S.at_ (r.held.at_ y o' e) (r.own y o' e).2
 ·rcases cs e with⟨rfl,rfl⟩ | ⟨hy,e⟩
  ·exact d.off
  ·exact r.held.off y o' e
 ·rcases cs e with⟨h1,h2⟩ | ⟨hy,e1⟩
  ·rcases cs e' with⟨h3,h4⟩ | ⟨hz,e2⟩
   ·exact absurd (h1.trans h3.symm) hne
   ·rw[h2];exact d.apart z o2 e2
  ·rcases cs e' with⟨h3,h4⟩ | ⟨hz,e2⟩
   ·rw[h4];exact fun b hb hb'=>d.apart y o1 e1 b hb' hb
   ·exact r.held.apart y z o1 o2 e1 e2 hne
 ·rcases cs e with⟨rfl,rfl⟩ | ⟨hy,e⟩
  ·exact⟨S.here,d.loc⟩
  ·exact⟨S.other y _ hy (r.own y o' e).1,(r.own y o' e).2⟩
end
section
variable {X:Cx} {n:Nat} {sc:Scope} {ρ:az} {ω:aA} {P:a6} {R:PV→aA→Prop}
noncomputable def bH (X:Cx) (n:Nat) (sc:Scope) (ρ:az) (e:PySem.Expr) (l:List PV):Prop:=
 ∀(A:Around) (env:Env) (s:Shared) (G:ae) (Q E:Value→Shared→Prop),aV A n→bU X env sc ρ s G→
  (∀a vs s' G',Step X s G s' G'→s.heap.get? a=none→G' a=none→s'.heap.PlainList a (List.toArray vs)→aE G' l vs→Q (.ref a) s')→wpAny (model X.prog X.w) A (eval e env) Q E s
theorem Step.freeze {s s':Shared} {G G':ae} (t:Step X s G s' G') {a:Addr} {o:Obj} (g:b5 X s.heap) (hn:s.heap.get? a=none) (ho:s'.heap.get? a=some o):
  ∃G'',Step X s G s' G''∧Sub G' G''∧G'' a=some o:=by
 have up:Sub G' (fun b=>if b=a then some o else G' b):=fun b o' e=>by
  show(if b=a then some o else G' b)=some o'
  by_cases q:b=a
  ·rw[if_pos q]
   subst q
   have:=t.within b o' e
   rw[ho] at this;exact this
  ·rw[if_neg q];exact e
 refine⟨fun b=>if b=a then some o else G' b,⟨t.keep,t.gnd,t.sub.trans up,fun b o' e=>?_,fun b o' o'' e h=>?_,t.os,t.gens.of rfl fun t ht e=>by
  show(if t.2.1=a then some o else G' t.2.1)=none
  rw[if_neg]
  ·exact e
  ·intro z
   obtain⟨o1,h1⟩:=g.tab ht
   rw[z,hn] at h1;cases h1⟩,up,if_pos rfl⟩
 ·have e':(if b=a then some o else G' b)=some o':=e
  split at e'
  ·rename_i q;rw[q,←e'];exact ho
  ·exact t.within b o' e'
 ·have e':(if b=a then some o else G' b)=some o':=e
  split at e'
  ·rename_i q;rw[q,hn] at h;cases h
  ·exact t.low b o' o'' e' h
theorem bH.frozen {e:PySem.Expr} {l:List PV} (h:bH X n sc ρ e l):aa X n sc ρ e (.lst l):=by
 intro A env s G Q E rm ev k
 refine h A env s G Q E rm ev fun a vs s' G' t hn hg hl hr=>?_
 obtain⟨o,ho,hc,m,hd⟩:=hl.isList
 obtain⟨G'',t',up,hG⟩:=t.freeze ev.gnd hn ho
 exact k _ _ _ t' ⟨a,o,vs,m,rfl,hG,hc,hd,aE.mono up _ _ hr⟩
theorem bH.list {es:List PySem.Expr} {pos:Pos} {ps:List PV} (h:aj X n sc ρ es ps) (hz:es.length≤1000:=by decide):bH X n sc ρ (.List es pos) ps:=by
 intro A env s G Q E rm e K
 refine wpAny_List_spliced (h.go A env s G pos _ E rm e fun vs s1 G1 t1 d1=>⟨?_,?_⟩)
 ·have:=d1.length;rw[this,h.length];exact yN hz (by unfold sizeLine;decide)
 ·let o:Obj:={cls:= .type "list",data:= .seq (List.toArray vs)}
  have ho:(s1.heap.push o).get? s1.heap.objs.size=some o:=Heap.get?_push_size _ rfl
  have st:Step X s1 G1 {s1 with heap:=s1.heap.push o} G1:=⟨cz.iq (a8 o),t1.gnd.keeps (a8 o),Sub.refl _,fun b o' e=>a8 o b o' (t1.within b o' e),fun _ _ _ e _=>e,rfl,t1.gens⟩
  refine K _ vs _ G1 (t1.trans st) ?_ ?_ ⟨0,ho⟩ d1
  ·cases q:s.heap.get? s1.heap.objs.size with
   | none=>rfl
   | some o'=>
    obtain⟨o2,h2⟩:=bf.there t1.keep q
    rw[aq] at h2;cases h2
  ·cases q:G1 s1.heap.objs.size with
   | none=>rfl
   | some o'=>have:=t1.within _ _ q;rw[aq] at this;cases this
theorem wF {env:Env} {D:Bd} {s:Shared} {G:ae} (r:bC X env sc ρ ω D s G):env.scope.kind= .function:=by rw[r.er.scope];exact r.er.kind
theorem aF.assign {x:Str} {e:PySem.Expr} {pos pos':Pos} {p:PV} (h:aa X n sc ρ e p) (hx:b8 sc x) (k:P .next ((x,some p)::ρ) ((x,none)::ω))
  (hs:∀env,swapsWith e (some (.Name x pos')) pos.line env=pure false:=by intro _;rfl):aF X n sc ρ ω (.Assign [.Name x pos'] e pos) P R:=
 fun A env s G D Q E rm wr r k1 k2=>wpAny_Assign_Name (h A env s G _ E rm r.er fun v s1 G1 t1 d1=>(r.step t1).storeAt (b8.at hx wr) fun h' tk S=>k1 .next _ _ _ G1 k (S.pure (r.step t1) d1)) (hs env)
theorem aF.jv {x:Str} {e:PySem.Expr} {pos pos':Pos} {p:PV} (h:aa X n sc (cm ω ρ) e p) (hf:p.flat=true) (hx:b8 sc x) (k:P .next ((x,some p)::ρ) ((x,none)::ω))
  (hs:∀env,swapsWith e (some (.Name x pos')) pos.line env=pure false:=by intro _;rfl):aF X n sc ρ ω (.Assign [.Name x pos'] e pos) P R:=by
 intro A env s G D Q E rm wr r k1 k2
 refine wpAny_Assign_Name (h A env s _ _ E rm r.plus.1 fun v s1 G1 t1 d1=>?_) (hs env)
 obtain⟨G2,t2,fl,_⟩:=r.back t1
 exact(r.step t2).storeAt (b8.at hx wr) fun h' tk S=>k1 .next _ _ _ G2 k (S.pure (r.step t2) (fl _ _ hf d1))
theorem dZ {env:Env} {D:Bd} {s s':Shared} {G G':ae} (r:bC X env sc ρ ω D s G) {o:Own} (t:Step X s G s' G') (hn:∀b∈o.fp,s.heap.get? b=none) (hg:∀b∈o.fp,G' b=none)
  (hl:o.At G' s'.heap):lO env ω D s' G' o:=by
 refine⟨hl,fun b hb=>⟨?_,hg b hb⟩,fun hb=>?_,fun y o' e b hb hb'=>?_⟩
 ·cases q:D.S b with
  | none=>rfl
  | some o=>obtain⟨o2,h2⟩:=bf.there r.fin.keep q;rw[hn b hb] at h2;cases h2
 ·obtain⟨_,_,m,hm⟩:=r.loc
  obtain⟨o,ho,_⟩:=cU hm
  rw[hn _ hb] at ho;cases ho
 ·obtain⟨ob,ho,_⟩:=(r.held.at_ y o' e).solid b hb'
  rw[hn b hb] at ho;cases ho
theorem aF.oL {x:Str} {e:PySem.Expr} {pos pos':Pos} {l:List PV} (h:bH X n sc ρ e l) (hx:b8 sc x) (k:∀a,P .next ((x,none)::ρ) ((x,some (.lst a l))::ω))
  (hs:∀env,swapsWith e (some (.Name x pos')) pos.line env=pure false:=by intro _;rfl):aF X n sc ρ ω (.Assign [.Name x pos'] e pos) P R:=
 fun A env s G D Q E rm wr r k1 k2=>wpAny_Assign_Name (h A env s G _ E rm r.er fun a vs s1 G1 t1 hn hg hl hr=>(r.step t1).storeAt (b8.at hx wr) fun h' tk S=>
  k1 .next _ _ _ G1 (k a) (S.owned (r.step t1) (o:= .lst a l) (dZ r t1 (fun b hb=>by simp[Own.fp] at hb;subst hb;exact hn) (fun b hb=>by simp[Own.fp] at hb;subst hb;exact hg) ⟨vs,hl,hr⟩))) (hs env)
theorem aG.refl (ρ:az):aG ρ ρ:=fun _ _ e=>e
theorem bC.freeze {env:Env} {D:Bd} {s:Shared} {G:ae} (r:bC X env sc ρ ω D s G) {x:Str} {a:Addr} {l:List PV} (hx:ω.lookup x=some (some (.lst a l))):
  ∃G',Sub G G'∧bC X env sc ((x,some (.lst l))::ρ) ((x,none)::ω) D s G':=by
 obtain⟨vs,pl,dd⟩:=r.held.at_ x _ hx
 obtain⟨o,ho,hc,m,hd⟩:=pl.isList
 obtain⟨offS,lK⟩:=r.held.off x _ hx a (by simp[Own.fp])
 obtain⟨va,hloc⟩:=r.own x _ hx
 have hloc':env.locals≠a:=fun q=>hloc (by simp[Own.fp,q])
 have up:Sub G (fun b=>if b=a then some o else G b):=fun b o' e=>by
  show(if b=a then some o else G b)=some o'
  rw[if_neg (fun q=>by rw[q,lK] at e;cases e)];exact e
 have inv:∀{b o'},(if b=a then some o else G b)=some o'→(b=a∧o'=o)∨(b≠a∧G b=some o'):=by
  intro b o' e
  split at e
  ·rename_i q;cases e;exact .inl ⟨q,rfl⟩
  ·rename_i q;exact .inr ⟨q,e⟩
 have ne:∀{y o},((x,(none:Option Own))::ω).lookup y=some (some o)→y≠x∧ω.lookup y=some (some o):=by
  intro y l e
  by_cases hy:y=x
  ·subst hy;rw[aM] at e;cases e
  ·rw[aN hy] at e;exact⟨hy,e⟩
 have nn:∀{b},b≠a→G b=none→(if b=a then some o else G b)=none:=fun h e=>by rw[if_neg h];exact e
 have wi:Sub (fun b=>if b=a then some o else G b) s.heap.get?:=fun b o' e=>by
  rcases inv e with⟨rfl,rfl⟩ | ⟨_,e⟩
  ·exact ho
  ·exact r.er.within b o' e
 have bare:gU X (fun b=>if b=a then some o else G b) s:=r.er.gens.of rfl fun t ht e=>nn (fun z=>by
  obtain⟨o1,h1⟩:=r.spec t.2.1 (.inr (.inr (.inr (.inr (.inr ⟨t,ht, .inr rfl⟩)))))
  rw[z,offS] at h1;cases h1) e
 refine⟨_,up,⟨⟨r.er.gnd,wi,bare,r.er.scope,r.er.kind,r.er.globals,r.er.builtins,r.er.cod,fun y p e=>?_⟩,⟨r.fin.keep,r.fin.gnd,r.fin.sub.trans up,wi,fun b o' o'' e h=>?_,r.fin.os,bare⟩,r.spec,⟨r.loc.1,nn hloc' r.loc.2.1,r.loc.2.2⟩,fun w y c h1 h2=>?_,r.celIs,r.apart,⟨fun y o' e=>?_,fun y o' e b hb=>?_,fun y z o1 o2 e e'=>r.held.apart y z o1 o2 (ne e).2 (ne e').2⟩,fun y o' e=>r.own y o' (ne e).2⟩⟩
 ·by_cases hy:y=x
  ·subst hy
   rw[aM] at e;cases e
   exact⟨_,va,a,o,vs,m,rfl,if_pos rfl,hc,hd,aE.mono up _ _ dd⟩
  ·rw[aN hy] at e
   obtain⟨u,p1,p2⟩:=r.er.vars y p e
   exact⟨u,p1,Rd.mono up _ _ p2⟩
 ·rcases inv e with⟨rfl,rfl⟩ | ⟨_,e⟩
  ·rw[offS] at h;cases h
  ·exact r.fin.low b o' o'' e h
 ·obtain⟨p1,p2,v,p3⟩:=r.cel w y c h1 h2
  exact⟨p1,nn (fun q=>by subst q;obtain⟨o2,h2,h3⟩:=p3;rw[ho] at h2;cases h2;rw[hd] at h3;cases h3) p2,v,p3⟩
 ·exact(r.held.at_ y o' (ne e).2).keep up fun _ _ _ e=>e
 ·obtain⟨p1,p2⟩:=r.held.off y o' (ne e).2 b hb
  exact⟨p1,nn (fun q=>r.held.apart x y _ o' hx (ne e).2 (Ne.symm (ne e).1) a (by simp[Own.fp]) (q▸hb)) p2⟩
theorem cI.freeze {tree:Env→Sem Flow} {x:Str} {a:Addr} {l:List PV} (hx:ω.lookup x=some (some (.lst a l))) (h:cI X n sc ((x,some (.lst l))::ρ) ((x,none)::ω) tree P R):cI X n sc ρ ω tree P R:=by
 intro A env s G D Q E rm wr r k1 k2
 obtain⟨G',_,r'⟩:=r.freeze hx
 exact h A env s G' D Q E rm wr r' k1 k2
end
noncomputable def cA (X:Cx) (n:Nat) (f:Addr) (ps:List PV) (lG:List (Str×PV)) (p:PV):Prop:=
 ∀(A:Around) (s:Shared) (G:ae) (vs kvs:List Value) (R:Result→Shared→Prop),aV A n→Base X s G→aE G ps vs→aE G (lG.map (·.2)) kvs→
  (∀v s' G',Step X s G s' G'→Rd G' p v→R (.ok (.ret v)) s')→codeAny (model X.prog X.w) A (.call (.ref f) ⟨vs,(lG.map (·.1)).zip kvs⟩) R s
theorem jc {k:Str→Option NameKind} {x:Str}:∀{b:List (Str×Value)} {m:Str→Option Value},(∀y∈b,y.1≠x)→bindL k b m x=m x
 | [],_,_=>rfl
 | (y,v)::r,m,h=>by
  unfold bindL
  rw[jc (fun z hz=>h z (yL _ hz))]
  have:x≠y:=Ne.symm (h (y,v) List.mem_cons_self)
  split
  ·exact if_neg this
  ·rfl
theorem j8 {k:Str→Option NameKind} {x:Str} {v:Value} (hk:k x=some .local):∀{b:List (Str×Value)} {m:Str→Option Value},(b.map (·.1)).Nodup→(x,v)∈b→bindL k b m x=some v
 | (y,u)::r,m,hn,h=>by
  unfold bindL
  rw[List.map_cons,List.nodup_cons] at hn
  rcases List.mem_cons.mp h with e | h
  ·cases e
   rw[jc (x:=x) (fun z hz (e:z.1=x)=>hn.1 (by show x∈_;rw[←e];exact List.mem_map_of_mem hz)),if_pos hk];exact if_pos rfl
  ·exact j8 hk hn.2 h
theorem jd {k:Str→Option NameKind} {x:Str}:∀{b:List (Str×Value)} {m:Str→Option Value},(∀y∈b,y.1≠x)→bindC k b m x=m x
 | [],_,_=>rfl
 | (y,v)::r,m,h=>by
  unfold bindC
  rw[jd (fun z hz=>h z (yL _ hz))]
  have:x≠y:=Ne.symm (h (y,v) List.mem_cons_self)
  split
  ·rfl
  ·exact if_neg this
theorem j9 {k:Str→Option NameKind} {x:Str} {v:Value} (hk:k x=some .cell):∀{b:List (Str×Value)} {m:Str→Option Value},(b.map (·.1)).Nodup→(x,v)∈b→bindC k b m x=some v
 | (y,u)::r,m,hn,h=>by
  unfold bindC
  rw[List.map_cons,List.nodup_cons] at hn
  rcases List.mem_cons.mp h with e | h
  ·cases e
   rw[jd (x:=x) (fun z hz (e:z.1=x)=>hn.1 (by show x∈_;rw[←e];exact List.mem_map_of_mem hz)),if_neg (by rw[hk];decide)];exact if_pos rfl
  ·exact j9 hk hn.2 h
noncomputable def params (names:List Str) (ps:List PV):az:=names.zip (ps.map some)
theorem eY {G:ae}:∀{names:List Str} {ps:List PV} {vs:List Value} {x:Str} {p:PV},aE G ps vs→(params names ps).lookup x=some (some p)→∃v,(x,v)∈names.zip vs∧Rd G p v
 | [],_,_,_,_,_,h=>by simp[params] at h
 | _::_,[],_,_,_,_,h=>by simp[params] at h
 | y::r,q::l,vs,x,p,⟨v,vs',e,d,d'⟩,h=>by
  subst e
  simp only[params,List.map_cons,List.zip_cons_cons,List.lookup_cons] at h
  cases hb:x==y with
  | true=>
   rw[hb] at h
   cases h
   have:x=y:=beq_iff_eq.mp hb
   subst this
   exact⟨v,List.mem_cons_self,d⟩
  | false=>
   rw[hb] at h
   obtain⟨u,m,du⟩:=eY d' h
   exact⟨u,yL _ m,du⟩
theorem eP {h:Heap} {a:Addr} (hz:h.objs.size≤a):h.get? a=none:=by
 cases e:h.get? a with
 | none=>rfl
 | some o=>exact absurd (Heap.lt_size e) (Nat.not_lt.mpr hz)
theorem ao {h:Heap} {G:ae} {a:Addr} (w:Sub G h.get?) (e:h.get? a=none):G a=none:=by
 cases q:G a with
 | none=>rfl
 | some o=>rw[w a o q] at e;cases e
section
variable {X:Cx} {n:Nat}
theorem aV.deeper {A:Around} {env:Env} (r:aV A (n+1)):aV (A.deeper env) n:=by
 refine⟨?_,?_,r.2.2⟩
 ·have:=r.1;show A.depth+1+n<_;omega
 ·have:=r.2.1;show A.units+3+16*n<_;omega
noncomputable abbrev vS (p:PV):a6:=fun fl _ _=>fl= .next∧p= .none
noncomputable abbrev vT (p:PV) (x:Str) (o:Own):a6:=fun fl _ ω=>fl= .next∧p= .none∧ω.lookup x=some (some o)
noncomputable abbrev vG (p:PV) (x:Str) (o:Own):PV→aA→Prop:=fun q ω=>q=p∧ω.lookup x=some (some o)
theorem oH {f:Addr} {oc:Value} {od:Option Addr} {osl:Array (Option Value)} {fd:FuncData} {body:List Stmt} {ps dps:List PV} {lG:List (Str×PV)} {dvs:List Value} {names:List Str} {ω:aA} {P:a6} {R:PV→aA→Prop} {qs:List PV} {us:List Value}
  (hk:X.K.lookup f=some ⟨oc,od, .func fd,osl⟩) (hb:fd.body= .stmts body) (hclo:fd.closure=[]) (hgl:fd.globals=mainGlobals) (hbi:fd.builtins=builtinsNs)
  (hcode:codeIn X.K fd.code fd.qualname=true) {args:Args} (hbind:∀s:Shared,b5 X s.heap→BindsTo s fd args (names.zip us))
  (hst:∀x∈names,b8 fd.scope x) (hnd:names.Nodup) (hlen:us.length=names.length)
  (hco:fd.scope.isCoroutine=false) (hgen:fd.scope.isGenerator=false) (hkf:fd.scope.kind= .function) (hcd:∀v q,X.codeOf fd.scope=some (v,q)→fd.code=v∧fd.qualname++".<locals>." =q)
  {ρ:az} (B:af X n fd.scope ρ ω body P R) {A:Around} {s:Shared} {G:ae} {Q:Result→Shared→Prop} (rm:aV A (n+1)) (bs:Base X s G)
  (hρ:∀x p,ρ.lookup x=some (some p)→∃v,(x,v)∈names.zip us∧Rd G p v)
  (fp:List Addr) (hfp:∀b∈fp,G b=none∧¬aw X b)
  (hω:∀x o,ω.lookup x=some (some o)→(x,Value.ref o.addr)∈names.zip us∧o.At G s.heap∧∀b∈o.fp,b∈fp)
  (hap:∀x y o o',ω.lookup x=some (some o)→ω.lookup y=some (some o')→x≠y→∀b∈o.fp,b∉o'.fp)
  (k1:∀ρ' ω' s' G' D,D=(⟨fun b=>if b∈fp then none else s.heap.get? b,G,s.os,true⟩:Bd)→P .next ρ' ω'→Fin X D s' G'→dp ω' D s' G'→Q (.ok (.ret .none)) s')
  (k2:∀p ω' v s' G' D,D=(⟨fun b=>if b∈fp then none else s.heap.get? b,G,s.os,true⟩:Bd)→R p ω'→Fin X D s' G'→dp ω' D s' G'→Rd G' p v→Q (.ok (.ret v)) s')
  (hbc:∀ρ ω,¬P .brk ρ ω∧¬P .cont ρ ω):
  codeAny (model X.prog X.w) A (.call (.ref f) args) Q s:=by
 have kinds:∀x∈names.zip us,fd.scope.names.lookup x.1=some .local∨(fd.scope.names.lookup x.1=some .cell∧((cellsFrom (s.heap.objs.size+1) fd.scope.names []).lookup x.1).isSome=true):=by
  intro x hx
  rcases hst x.1 (List.of_mem_zip hx).1 with h | h
  ·exact .inl h
  ·exact .inr ⟨h,cellsFrom_some _ _ _ (.inl h)⟩
 show codeAny _ A (.call (.ref f) args) Q s
 have hdep:A.depth<recursionLimit:=by have:=rm.1;omega
 refine codeAny_call_function hdep (bs.gnd.kin _ _ hk) rfl hco hgen hb (codeRec_of bs.gnd.kin hcode) (hbind s bs.gnd _ _ _ _ ?_)
 rw[hclo]
 refine wpAny_newFunctionEnv_cells hkf kinds fun env he s₁ I=>?_
 subst he
 refine⟨bs.gnd.nolimit.keeps I.toInCall.keep,codeAny_func ?_⟩
 show wpAny (model X.prog X.w) (A.deeper (callEnvC fd s.heap.objs.size f)) (execs body (callEnvC fd s.heap.objs.size f)) _ _ s₁
 obtain⟨⟨⟨h₁,tk,rfl⟩,hns,hkeep,hfresh⟩,hcell,hapc,hab⟩:=I
 have st:Step X s G {s with heap:=h₁,toks:=tk} G:=⟨cz.iq hkeep,bs.gnd.keeps hkeep,Sub.refl _,fun b o e=>hkeep b o (bs.within b o e),fun _ _ _ e _=>e,rfl,bs.gens⟩
 have hnames:((names.zip us).map (·.1)).Nodup:=by rw[List.map_fst_zip (by omega)];exact hnd
 have varAt:∀x v,(x,v)∈names.zip us→a0 (callEnvC fd s.heap.objs.size f) h₁ x v:=by
  intro x v hm
  rcases kinds _ hm with h | ⟨h,hc⟩
  ·exact .local h hns (j8 h hnames hm)
  ·obtain⟨c,hc⟩:=Option.isSome_iff_exists.mp hc
   exact .cell h hc (by have:=hcell x c hc;rw[j9 h hnames hm] at this;exact this)
 have noS:∀{b},s.heap.get? b=none→(if b∈fp then none else s.heap.get? b)=none:=fun e=>by split<;>first | rfl | exact e
 have r:bC X (callEnvC fd s.heap.objs.size f) fd.scope ρ ω (⟨fun b=>if b∈fp then none else s.heap.get? b,G,s.os,true⟩:Bd) {s with heap:=h₁,toks:=tk} G:=by
  refine⟨⟨st.gnd,st.within,st.gens,rfl,hkf,hgl,hbi,hcd,?_⟩,⟨fun b o e=>?_,st.gnd,Sub.refl _,st.within,fun b o o' e h=>?_,rfl,st.gens⟩,fun b q=>?_,⟨noS (aq _),ao bs.within (aq _),_,hns⟩,fun _=>?_,?_,fun _=>hapc,⟨fun x o e=>(hω x o e).2.1.keep (Sub.refl _) fun b _ ob e=>hkeep b ob e,fun x o e b hb=>⟨if_pos ((hω x o e).2.2 b hb),(hfp b ((hω x o e).2.2 b hb)).1⟩,hap⟩,fun x o e=>⟨varAt _ _ (hω x o e).1,fun hb=>?_⟩⟩
  ·intro x q e
   obtain⟨v,hm,d⟩:=hρ x q e
   exact⟨v,varAt x v hm,d⟩
  ·have e':(if b∈fp then none else s.heap.get? b)=some o:=e
   split at e'
   ·cases e'
   ·exact .inl (hkeep b o e')
  ·exact e
  ·obtain⟨o,e⟩:=bs.gnd.special q
   exact⟨o,by show(if b∈fp then none else s.heap.get? b)=some o;rw[if_neg (fun h=>(hfp b h).2 q)];exact e⟩
  ·intro x c h1 h2
   have hlt:=hab x c (mem_of_lookup h1)
   have hz:s.heap.get? c=none:=eP (Nat.le_of_lt hlt)
   exact⟨noS hz,ao bs.within hz,_,hcell x c h1⟩
  ·intro _ x h
   have:((cellsFrom (s.heap.objs.size+1) fd.scope.names []).lookup x).isSome=true:=cellsFrom_some _ _ _ (.inl h)
   exact Option.isSome_iff_exists.mp this
  ·obtain⟨ob,e',_⟩:=(hω x o e).2.1.solid _ hb
   rw[show(callEnvC fd s.heap.objs.size f).locals=s.heap.objs.size from rfl,aq] at e';cases e'
 refine B (A.deeper _) _ _ _ _ _ _ rm.deeper rfl r (fun fl ρ' ω' s' G' q r'=>?_) fun q ω' v s' G' e f' hl d=>?_
 ·cases fl with
  | next=>exact k1 ρ' ω' s' G' _ rfl q r'.fin r'.held
  | brk=>exact absurd q (hbc _ _).1
  | cont=>exact absurd q (hbc _ _).2
 ·exact k2 q ω' v s' G' _ rfl e f' hl d
@[elab_as_elim] theorem vs0 {P:List Value→Prop} {l:List Value} (h:l.length=0) (k:P []):P l:=by cases l with | nil=>exact k | cons _ _=>cases h
@[elab_as_elim] theorem vs1 {P:List Value→Prop} {l:List Value} (h:l.length=1) (k:∀a,P [a]):P l:=by cases l with | nil=>cases h | cons a _=>exact vs0 (Nat.succ.inj h) (k a)
@[elab_as_elim] theorem vs2 {P:List Value→Prop} {l:List Value} (h:l.length=2) (k:∀a b,P [a,b]):P l:=by cases l with | nil=>cases h | cons a _=>exact vs1 (Nat.succ.inj h) (k a)
@[elab_as_elim] theorem vs3 {P:List Value→Prop} {l:List Value} (h:l.length=3) (k:∀a b c,P [a,b,c]):P l:=by cases l with | nil=>cases h | cons a _=>exact vs2 (Nat.succ.inj h) (k a)
@[elab_as_elim] theorem vs4 {P:List Value→Prop} {l:List Value} (h:l.length=4) (k:∀a b c d,P [a,b,c,d]):P l:=by cases l with | nil=>cases h | cons a _=>exact vs3 (Nat.succ.inj h) (k a)
theorem cA.enter {f:Addr} {oc:Value} {od:Option Addr} {osl:Array (Option Value)} {fd:FuncData} {body:List Stmt} {ps dps:List PV} {lG:List (Str×PV)} {dvs:List Value} {p:PV} (names:List Str)
  (hk:X.K.lookup f=some ⟨oc,od, .func fd,osl⟩) (hb:fd.body= .stmts body) (hclo:fd.closure=[]) (hgl:fd.globals=mainGlobals) (hbi:fd.builtins=builtinsNs)
  (hcode:codeIn X.K fd.code fd.qualname=true) (hbind:∀s:Shared,b5 X s.heap→∀vs kvs:List Value,vs.length=ps.length→kvs.length=lG.length→BindsTo s fd ⟨vs,(lG.map (·.1)).zip kvs⟩ (names.zip (vs++dvs++kvs)))
  (hd:∀G,aE G dps dvs) (hlen:ps.length+dps.length+lG.length=names.length) (hst:∀x∈names,b8 fd.scope x) (hnd:names.Nodup)
  (hco:fd.scope.isCoroutine=false) (hgen:fd.scope.isGenerator=false) (hkf:fd.scope.kind= .function) (hcd:∀v q,X.codeOf fd.scope=some (v,q)→fd.code=v∧fd.qualname++".<locals>." =q)
  (B:af X n fd.scope (params names (ps++dps++lG.map (·.2))) [] body (vS p) (fun q _=>q=p)):cA X (n+1) f ps lG p:=by
 intro A s G vs kvs R rm bs hv hkv k
 have hl:vs.length=ps.length:=hv.length
 have hkl:kvs.length=lG.length:=by rw[hkv.length];simp
 have all:aE G (ps++dps++lG.map (·.2)) (vs++dvs++kvs):=aE.append (aE.append hv (hd G)) hkv
 have toSt:∀{s' G' D},D=(⟨fun b=>if b∈([]:List Addr) then none else s.heap.get? b,G,s.os,true⟩:Bd)→Fin X D s' G'→Step X s G s' G':=by
  rintro s' G' D rfl f'
  exact⟨fun b o e=>f'.keep b o (by simpa using e),f'.gnd,f'.sub,f'.within,fun b o o' e h=>f'.low b o o' e (by simpa using h),f'.os,f'.gens⟩
 refine oH (us:=vs++dvs++kvs) hk hb hclo hgl hbi hcode (fun s g=>hbind s g vs kvs hl hkl) hst hnd ?_ hco hgen hkf hcd B rm bs (fun x p e=>eY all e) [] (by simp) (fun _ _ e=>(nomatch e)) (fun _ _ _ _ e=>(nomatch e)) ?_ ?_ ?_ (qs:=[]) (dps:=[]) (lG:=[]) (dvs:=[]) (ps:=[])
 ·rw[all.length];simp;lia
 ·(intro ρ' ω' s' G' D hD zz;obtain⟨_,rfl⟩:=zz;intro f' _)
  exact k .none s' G' (toSt hD f') rfl
 ·rintro q ω' v s' G' D hD rfl f' _ d
  exact k v s' G' (toSt hD f') d
 ·exact fun _ _=>⟨fun h=>(nomatch h.1),fun h=>(nomatch h.1)⟩
noncomputable def gN (X:Cx) (n:Nat) (f:Addr) (o:Own) (ps:List PV) (p:PV) (o':Own):Prop:=
 ∀(A:Around) (s:Shared) (G:ae) (vs:List Value) (R:Result→Shared→Prop),aV A n→Base X s G→o.At G s.heap→(∀b∈o.fp,G b=none∧¬aw X b)→aE G ps vs→
  (∀v s' G',av X o.fp s G s' G'→o'.At G' s'.heap→(∀b∈o.fp,G' b=none)→Rd G' p v→R (.ok (.ret v)) s')→codeAny (model X.prog X.w) A (.call (.ref f) ⟨.ref o.addr::vs,[]⟩) R s
theorem gN.enter {f:Addr} {oc:Value} {od:Option Addr} {osl:Array (Option Value)} {fd:FuncData} {body:List Stmt} {ps dps:List PV} {dvs:List Value} {p:PV} {o o':Own} (self:Str) (names:List Str)
  (hk:X.K.lookup f=some ⟨oc,od, .func fd,osl⟩) (hb:fd.body= .stmts body) (hclo:fd.closure=[]) (hgl:fd.globals=mainGlobals) (hbi:fd.builtins=builtinsNs)
  (hcode:codeIn X.K fd.code fd.qualname=true) (hbind:∀s:Shared,b5 X s.heap→∀(v:Value) (vs:List Value),vs.length=ps.length→BindsTo s fd ⟨v::vs,[]⟩ ((self::names).zip (v::(vs++dvs))))
  (hd:∀G,aE G dps dvs) (hlen:ps.length+dps.length=names.length) (hst:∀x∈self::names,b8 fd.scope x) (hnd:(self::names).Nodup)
  (hco:fd.scope.isCoroutine=false) (hgen:fd.scope.isGenerator=false) (hkf:fd.scope.kind= .function) (hcd:∀v q,X.codeOf fd.scope=some (v,q)→fd.code=v∧fd.qualname++".<locals>." =q) (hfp:o'.fp=o.fp)
  (B:af X n fd.scope ((self,none)::params names (ps++dps)) [(self,some o)] body (vT p self o') (vG p self o')):gN X (n+1) f o ps p o':=by
 intro A s G vs R rm bs ho hof hv k
 have hl:vs.length=ps.length:=hv.length
 have all:aE G (ps++dps) (vs++dvs):=aE.append hv (hd G)
 have one:∀{x q},([(self,some o)]:aA).lookup x=some (some q)→x=self∧q=o:=by
  intro x q e
  rw[List.lookup_cons] at e
  cases hb:x==self with
  | true=>rw[hb] at e;cases e;exact⟨beq_iff_eq.mp hb,rfl⟩
  | false=>rw[hb] at e;cases e
 have toSt:∀{ω' s' G' D},D=(⟨fun b=>if b∈o.fp then none else s.heap.get? b,G,s.os,true⟩:Bd)→Fin X D s' G'→dp ω' D s' G'→ω'.lookup self=some (some o')→av X o.fp s G s' G'∧o'.At G' s'.heap∧∀b∈o.fp,G' b=none:=by
  rintro ω' s' G' D rfl f' hl e
  have off:∀b∈o.fp,G' b=none:=fun b hb=>(hl.off self o' e b (hfp▸hb)).2
  refine⟨⟨fun b ob hb e=>f'.keep b ob (by show(if b∈o.fp then none else s.heap.get? b)=some ob;rw[if_neg hb];exact e),f'.gnd,f'.sub,f'.within,fun b ob ob' e h=>?_,f'.os,f'.gens,fun b hb _=>off b hb⟩,hl.at_ self o' e,off⟩
  by_cases hb:b∈o.fp
  ·rw[off b hb] at e;cases e
  ·exact f'.low b ob ob' e (by show(if b∈o.fp then none else s.heap.get? b)=some ob';rw[if_neg hb];exact h)
 have hz:self∉names:=(List.nodup_cons.mp hnd).1
 refine oH (us:= .ref o.addr::(vs++dvs)) hk hb hclo hgl hbi hcode (fun s g=>hbind s g _ vs hl) hst hnd ?_ hco hgen hkf hcd B rm bs (fun x p e=>?_) o.fp hof (fun x q e=>?_) (fun x y q q' e e' ne=>absurd ((one e).1.trans (one e').1.symm) ne) ?_ ?_ ?_ (qs:=[]) (dps:=[]) (lG:=[]) (dvs:=[]) (ps:=[])
 ·rw[List.length_cons,all.length,List.length_cons];simp;omega
 ·by_cases hx:x=self
  ·subst hx;rw[aM] at e;cases e
  ·rw[aN hx] at e
   obtain⟨v,hm,d⟩:=eY all e
   exact⟨v,by rw[List.zip_cons_cons];exact yL _ hm,d⟩
 ·obtain⟨rfl,rfl⟩:=one e
  exact⟨by rw[List.zip_cons_cons];exact List.mem_cons_self,ho,fun b hb=>hb⟩
 ·(intro ρ' ω' s' G' D hD zz;obtain⟨_,rfl,e⟩:=zz;intro f' hl)
  obtain⟨a,b,c⟩:=toSt hD f' hl e
  exact k .none s' G' a b c rfl
 ·(intro q ω' v s' G' D hD zz;obtain⟨rfl,e⟩:=zz;intro f' hl d)
  obtain⟨a,b,c⟩:=toSt hD f' hl e
  exact k v s' G' a b c d
 ·exact fun _ _=>⟨fun h=>(nomatch h.1),fun h=>(nomatch h.1)⟩
variable {sc:Scope} {ρ:az}
theorem bN {es:List PySem.Expr} {ps:List PV} (h:aj X n sc ρ es ps) (pos:Pos) (env:Env):(backTo pos (starEach es env)).any (·.1)=false:=by
 induction h with
 | nil=>rfl
 | cons _ _ hs ih=>
  rw[hs env]
  show((backTo pos ((false,_)::starEach _ env)).any (·.1))=false
  simp only[backTo,List.map_cons,List.any_cons,Bool.false_or]
  exact ih
theorem aY {es:List PySem.Expr} {ps:List PV} (h:aj X n sc ρ es ps) {A:Around} {env:Env} {s:Shared} {G:ae} {pos:Pos} {f:Value} {Q:Args→Shared→Prop} {E:Value→Shared→Prop} (rm:aV A n) (e:bU X env sc ρ s G)
  (k:∀vs s' G',Step X s G s' G'→aE G' ps vs→Q ⟨vs,[]⟩ s'):wpAny (model X.prog X.w) A (evalArgs f true (backTo pos (starEach es env)) []) Q E s:=by
 cases h with
 | nil=>
  show wpAny _ A (evalArgs f true [] []) Q E s
  unfold evalArgs
  show wpAny _ A (spliced []>>=_) Q E s
  refine yI (spliced_nil ?_)
  refine yI (yJ (wpAny_holding ?_))
  exact yI (yJ (yI (yJ (yJ (k [] s G e.base.refl aE.nil)))))
 | cons a b hs=>
  have q:=(aj.cons a b hs).go A env s G pos (fun vs s'=>Q ⟨vs,[]⟩ s') E rm e fun vs s' G' t d=>k vs s' G' t d
  rw[hs env] at q ⊢
  exact evalArgs_plain q
theorem call_of {f:Addr} {ps:List PV} {p:PV} (h:cA X n f ps [] p) {A:Around} {s:Shared} {G:ae} {vs:List Value} {Q E:Value→Shared→Prop} (rm:aV A n) (b:Base X s G) (d:aE G ps vs)
  (k:∀v s' G',Step X s G s' G'→Rd G' p v→Q v s'):wpAny (model X.prog X.w) A (call (.ref f) vs) Q E s:=by
 refine wpAny_call ?_
 have:=h A s G vs [] (fun r s'=>match r with | .ok (.ret v)=>Q v s' | .ok _=>False | .error e=>E e s') rm b d aE.nil fun v s' G' t d=>k v s' G' t d
 exact this
theorem aa.bK {x:Str} {pf pos:Pos} {es:List PySem.Expr} {f:Addr} {oc:Value} {od:Option Addr} {osl:Array (Option Value)} {fd:FuncData} {ps:List PV} {p:PV} (hf:aa X n sc ρ (.Name x pf) (.opq (.ref f))) (hk:X.K.lookup f=some ⟨oc,od, .func fd,osl⟩)
  (ha:aj X n sc ρ es ps) (h:cA X n f ps [] p):aa X n sc ρ (.Call (.Name x pf) es [] pos) p:=by
 intro A env s G Q E rm e k
 refine wpAny_Call_Name_kw (hf A env s G _ E rm e fun v s1 G1 t1 d1=>?_)
 cases d1
 refine callWith_function (o:=⟨oc,od, .func fd,osl⟩) (fd:=fd) ?_
 refine aY ha rm (e.step t1) fun vs s2 G2 t2 d2=>⟨⟨t2.gnd.kin _ _ hk,rfl⟩,?_⟩
 exact call_of h rm t2.base d2 fun v s3 G3 t3 d3=>k v s3 G3 ((t1.trans t2).trans t3) d3
theorem aa.kr {x:Str} {pf pos:Pos} {es:List PySem.Expr} {id:String} {ps:List PV} {p:PV} (hf:aa X n sc ρ (.Name x pf) (.opq (.builtin id)))
  (ha:aj X n sc ρ es ps) (h:∀G s vs,Base X s G→aE G ps vs→lH X n G s (call (.builtin id) vs) p):aa X n sc ρ (.Call (.Name x pf) es [] pos) p:=by
 intro A env s G Q E rm e k
 refine wpAny_Call_Name_kw (hf A env s G _ E rm e fun v s1 G1 t1 d1=>?_)
 cases d1
 refine callWith_builtin (bN ha pos env) ?_
 exact aY ha rm (e.step t1) fun vs s2 G2 t2 d2=>h G2 s2 vs t2.base d2 A _ E rm fun v s3 G3 t3 d3=>k v s3 G3 ((t1.trans t2).trans t3) d3
end
theorem av.base {X:Cx} {fp:List Addr} {s s':Shared} {G G':ae} (t:av X fp s G s' G'):Base X s' G':=⟨t.gnd,t.within,t.gens⟩
structure bA (X:Cx) (n:Nat) (tgt:PySem.Expr) (it:Addr) (fp:List Addr) (K:ae→Heap→List PV→Prop):Prop where
 stable:∀G G' h h' rest,K G h rest→Sub G G'→(∀b∈fp,∀o,h.get? b=some o→h'.get? b=some o)→Sub G' h'.get?→K G' h' rest
 live:∀G h rest,K G h rest→∀b∈fp,∃o vs,h.get? b=some o∧o.data= .fields vs
 turn:∀(A:Around) (s:Shared) (G:ae) (E:Value→Shared→Prop) (rest:List PV) (Q:Option Value→Shared→Prop),aV A n→Base X s G→K G s.heap rest→(∀b∈fp,G b=none∧¬aw X b)→
  (rest=[]→∀s' G',av X fp s G s' G'→Q none s')→(∀p r,rest=p::r→∀v s' G',av X fp s G s' G'→Rd G' p v→K G' s'.heap r→Q (some v) s')→
  wpAny (model X.prog X.w) A (pyNext (.ref it)) (fun r s1=>match r with | none=>Q none s1 | some v=>wpAny (model X.prog X.w) A (letOwnedTupleGo tgt (.ref it) v) (fun _ s2=>Q (some v) s2) E s1) E s
 self:∀(A:Around) (s:Shared) (G:ae) (rest:List PV) (Q E:Value→Shared→Prop),K G s.heap rest→Q (.ref it) s→wpAny (model X.prog X.w) A (pyIter (.ref it)) Q E s
noncomputable def dj (X:Cx) (n:Nat) (sc:Scope) (ρ:az) (e:PySem.Expr) (tgt:PySem.Expr) (l:List PV):Prop:=
 ∀(A:Around) (env:Env) (s:Shared) (G:ae) (Q E:Value→Shared→Prop),aV A n→bU X env sc ρ s G→
  (∀it fp K s' G',Step X s G s' G'→(∀b∈fp,s.heap.get? b=none∧G' b=none)→bA X n tgt it fp K→K G' s'.heap l→Q (.ref it) s')→
  wpAny (model X.prog X.w) A (eval e env) (fun x s1=>wpAny (model X.prog X.w) A (pyIter x) Q E s1) E s
noncomputable def fW (X:Cx) (n:Nat) (p:PV) (tgt:PySem.Expr) (l:List PV):Prop:=
 ∀(A:Around) (s:Shared) (G:ae) (v:Value) (Q E:Value→Shared→Prop),aV A n→Base X s G→Rd G p v→
  (∀it fp K s' G',Step X s G s' G'→(∀b∈fp,s.heap.get? b=none∧G' b=none)→bA X n tgt it fp K→K G' s'.heap l→Q (.ref it) s')→
  wpAny (model X.prog X.w) A (pyIter v) Q E s
theorem aB {X:Cx} {s s1:Shared} {G G1:ae} (t1:Step X s G s1 G1) {b:Addr} (h:s1.heap.get? b=none):s.heap.get? b=none:=by
 cases z:s.heap.get? b with
 | none=>rfl
 | some o=>obtain⟨o',h'⟩:=bf.there t1.keep z;rw[h] at h';cases h'
theorem dj.of {X:Cx} {n:Nat} {sc:Scope} {ρ:az} {e tgt:PySem.Expr} {p:PV} {l:List PV} (h:aa X n sc ρ e p) (k:fW X n p tgt l):dj X n sc ρ e tgt l:=
 fun A env s G Q E rm ev q=>h A env s G _ E rm ev fun v s1 G1 t1 d1=>k A s1 G1 v Q E rm t1.base d1 fun it fp K s2 G2 t2 f T kk=>q it fp K s2 G2 (t1.trans t2) (fun b hb=>⟨aB t1 (f b hb).1,(f b hb).2⟩) T kk
structure gS (D D':Bd):Prop where
 S:Sub D.S D'.S
 G:Sub D.G D'.G
 low:∀b o o',D'.G b=some o→D.S b=some o'→D.G b=some o
 os:D'.os=D.os
 wr:D'.wr=D.wr
section
variable {X:Cx} {n:Nat} {sc:Scope} {ρ:az} {ω:aA} {env:Env} {D D':Bd} {s s':Shared} {G G':ae}
theorem Sub.none {S S':ae} (h:Sub S S') {a:Addr} (e:S' a=none):S a=none:=by
 cases q:S a with
 | none=>rfl
 | some o=>rw[h a o q] at e;cases e
theorem Fin.fZ (l:gS D D') (f:Fin X D' s G):Fin X D s G:=
 ⟨fun b o e=>f.keep b o (l.S b o e),f.gnd,l.G.trans f.sub,f.within,fun b o o' e h=>l.low b o o' (f.low b o o' e (l.S b o' h)) h,f.os.trans l.os,f.gens⟩
theorem dp.fZ (l:gS D D') (r:dp ω D' s G):dp ω D s G:=⟨r.at_,fun x o e b hb=>⟨l.S.none (r.off x o e b hb).1,(r.off x o e b hb).2⟩,r.apart⟩
theorem bC.fZ (l:gS D D') (r:bC X env sc ρ ω D' s G) (sp:∀b,aw X b→∃o,D.S b=some o):bC X env sc ρ ω D s G:=
 ⟨r.er,r.fin.fZ l,sp,⟨l.S.none r.loc.1,r.loc.2⟩,fun w x c h1 h2=>let ⟨a,b⟩:=r.cel (l.wr.trans w) x c h1 h2;⟨l.S.none a,b⟩,fun w=>r.celIs (l.wr.trans w),fun w=>r.apart (l.wr.trans w),r.held.fZ l,r.own⟩
noncomputable def Bd.upd (D:Bd) (fp:List Addr) (h:Heap) (G:ae):Bd:=⟨fun b=>if b∈fp then h.get? b else D.S b,G,D.os,D.wr⟩
theorem gS.upd {fp:List Addr} (hf:∀b∈fp,D.S b=none) (f:Fin X D s G):gS D (D.upd fp s.heap G):=by
 refine⟨fun b o e=>?_,f.sub,f.low,rfl,rfl⟩
 show(if b∈fp then s.heap.get? b else D.S b)=some o
 rw[if_neg (fun h=>by rw[hf b h] at e;cases e)];exact e
structure Off (env:Env) (h:Heap) (fp:List Addr):Prop where
 loc:env.locals∉fp
 cell:∀c v,h.IsCell c v→c∉fp
theorem bC.closer {fp:List Addr} (r:bC X env sc ρ ω D s G) (hf:Off env s.heap fp)
  (ho:∀x o,ω.lookup x=some (some o)→∀b∈o.fp,b∉fp) (hs:∀b∈fp,¬aw X b):bC X env sc ρ ω (D.upd fp s.heap G) s G:=by
 have neg:∀{b},b∉fp→D.S b=none→(if b∈fp then s.heap.get? b else D.S b)=none:=fun h e=>by rw[if_neg h];exact e
 refine⟨r.er,⟨?_,r.fin.gnd,Sub.refl _,r.fin.within,fun _ _ _ e _=>e,r.fin.os,r.fin.gens⟩,?_,⟨neg hf.loc r.loc.1,r.loc.2⟩,fun w x c h1 h2=>?_,r.celIs,r.apart,⟨r.held.at_,fun x o e b hb=>⟨neg (ho x o e b hb) (r.held.off x o e b hb).1,(r.held.off x o e b hb).2⟩,r.held.apart⟩,r.own⟩
 ·intro b o e
  have e':(if b∈fp then s.heap.get? b else D.S b)=some o:=e
  split at e'
  ·exact .inl e'
  ·exact r.fin.keep b o e'
 ·intro b q
  obtain⟨o,e⟩:=r.spec b q
  exact⟨o,by show(if b∈fp then s.heap.get? b else D.S b)=some o;rw[if_neg (fun h=>hs b h q)];exact e⟩
 ·obtain⟨a,b,v,d⟩:=r.cel w x c h1 h2
  exact⟨neg (hf.cell c v d) a,b,v,d⟩
noncomputable abbrev cn (h:Heap) (fp:List Addr):Prop:=∀b∈fp,∃o vs,h.get? b=some o∧o.data= .fields vs
theorem cn.cell {h:Heap} {fp:List Addr} (l:cn h fp) {c:Addr} {v:Option Value} (x:h.IsCell c v):c∉fp:=fun hb=>by
 obtain⟨o,vs,ho,hd⟩:=l c hb
 obtain⟨o',ho',hd'⟩:=x
 rw[ho] at ho';cases ho'
 rw[hd] at hd';cases hd'
theorem cn.ns {h:Heap} {fp:List Addr} (l:cn h fp) {c:Addr} {m:Str→Option Value} (x:h.Ns c m):c∉fp:=fun hb=>by
 obtain⟨o,vs,ho,hd⟩:=l c hb
 obtain⟨o',_,_,ho',hd',_⟩:=x
 rw[ho] at ho';cases ho'
 rw[hd] at hd';cases hd'
theorem cn.list {h:Heap} {fp:List Addr} (l:cn h fp) {c:Addr} {vs:Array Value} (x:h.IsList c vs):c∉fp:=fun hb=>by
 obtain⟨o,us,ho,hd⟩:=l c hb
 obtain⟨o',ho',_,n,hd'⟩:=x
 rw[ho] at ho';cases ho'
 rw[hd] at hd';cases hd'
theorem cn.off {env:Env} {h:Heap} {fp:List Addr} (l:cn h fp) (hn:∃m,h.Ns env.locals m):Off env h fp:=⟨let ⟨_,hn⟩:=hn;l.ns hn,fun _ _ hc=>l.cell hc⟩
theorem cn.solid {h:Heap} {fp:List Addr} (l:cn h fp) {b:Addr} {o:Obj} (e:h.get? b=some o) (q:ff o):b∉fp:=fun hb=>by
 obtain⟨o',vs,ho,hd⟩:=l b hb
 rw[e] at ho;cases ho
 exact q.1 vs hd
theorem cn.own {h:Heap} {fp:List Addr} (l:cn h fp) (r:dp ω D s G) (e:s.heap=h):∀x o,ω.lookup x=some (some o)→∀b∈o.fp,b∉fp:=fun x o hx b hb=>by
 obtain⟨ob,ho,q⟩:=(r.at_ x o hx).solid b hb
 rw[e] at ho
 exact l.solid ho q
theorem av.ns {fp:List Addr} (t:av X fp s G s' G') {a:Addr} {m:Str→Option Value} (ha:a∉fp) (h:s.heap.Ns a m):s'.heap.Ns a m:=
 let ⟨o,es,ep,ho,hd,r⟩:=h;⟨o,es,ep,t.get ha ho (by rw[hd];nofun),hd,r⟩
theorem av.cell {fp:List Addr} (t:av X fp s G s' G') {c:Addr} {v:Option Value} (hc:c∉fp) (h:s.heap.IsCell c v):s'.heap.IsCell c v:=
 let ⟨o,ho,hd⟩:=h;⟨o,t.get hc ho (by rw[hd];nofun),hd⟩
theorem av.var {fp:List Addr} (t:av X fp s G s' G') (l:Off env s.heap fp) {x:Str} {v:Value} (a:a0 env s.heap x v):a0 env s'.heap x v:=by
 unfold a0 at a ⊢
 split at a
 ·obtain⟨m,hn,e⟩:=a
  exact⟨m,t.ns l.loc hn,e⟩
 ·obtain⟨c,h1,h2⟩:=a;exact⟨c,h1,t.cell (l.cell _ _ h2) h2⟩
 ·obtain⟨c,h1,h2,h3⟩:=a;exact⟨c,h1,t.cell (l.cell _ _ h2) h2,h3⟩
 ·exact a.elim
theorem av.pZ {fp:List Addr} (t:av X fp s G s' G') (l:Off env s.heap fp) (e:bU X env sc ρ s G):bU X env sc ρ s' G':=
 ⟨t.gnd,t.within,t.gens,e.scope,e.kind,e.globals,e.builtins,e.cod,fun x p h=>let ⟨v,a,b⟩:=e.vars x p h;⟨v,t.var l a,Rd.mono t.sub _ _ b⟩⟩
theorem av.gr {fp:List Addr} (t:av X fp s G s' G') {a:Addr} {o:Obj} (h:G a=none) (ho:s.heap.get? a=some o):G' a=none:=by
 cases q:G' a with
 | none=>rfl
 | some o'=>rw[t.low a o' o q ho] at h;cases h
theorem av.at_ {fp:List Addr} (t:av X fp s G s' G') {o:Own} (h:o.At G s.heap) (hf:∀b∈o.fp,b∉fp):o.At G' s'.heap:=
 h.keep t.sub fun b hb ob e=>by
  obtain⟨ob',e',q⟩:=h.solid b hb
  rw[e] at e';cases e'
  exact t.get (hf b hb) e q.1
theorem av.lK {fp:List Addr} (t:av X fp s G s' G') {o:Own} (h:o.At G s.heap) (hG:∀b∈o.fp,G b=none):∀b∈o.fp,G' b=none:=fun b hb=>by
 obtain⟨ob,e,_⟩:=h.solid b hb
 exact t.gr (hG b hb) e
theorem bC.turn {fp:List Addr} (r:bC X env sc ρ ω D s G) (t:av X fp s G s' G') (l:Off env s.heap fp) (hfp:∀b∈fp,∃o,D.S b=some o) (hs:∀b∈fp,¬aw X b):bC X env sc ρ ω (D.upd fp s'.heap G') s' G':=by
 have off:∀{b},D.S b=none→b∉fp:=fun e h=>by obtain⟨o,e'⟩:=hfp _ h;rw[e] at e';cases e'
 have neg:∀{b},D.S b=none→(if b∈fp then s'.heap.get? b else D.S b)=none:=fun e=>by rw[if_neg (off e)];exact e
 have offO:∀x o,ω.lookup x=some (some o)→∀b∈o.fp,b∉fp:=fun x o e b hb=>off (r.held.off x o e b hb).1
 refine⟨t.pZ l r.er,⟨?_,t.gnd,Sub.refl _,t.within,fun _ _ _ e _=>e,t.os.trans r.fin.os,t.gens⟩,?_,?_,fun w x c h1 h2=>?_,r.celIs,r.apart,⟨fun x o e=>t.at_ (r.held.at_ x o e) (offO x o e),fun x o e b hb=>⟨neg (r.held.off x o e b hb).1,t.lK (r.held.at_ x o e) (fun b hb=>(r.held.off x o e b hb).2) b hb⟩,r.held.apart⟩,fun x o e=>⟨t.var l (r.own x o e).1,(r.own x o e).2⟩⟩
 ·intro b o e
  have e':(if b∈fp then s'.heap.get? b else D.S b)=some o:=e
  split at e'
  ·exact .inl e'
  ·rename_i hb
   rcases r.fin.keep b o e' with y | ⟨tt,ht,q,vs,more,z,g⟩
   ·exact t.keep b o hb y
   ·rcases t.keep b _ hb g with y | ⟨tt',ht',q',vs',more',z',g'⟩
    ·exact .inr ⟨tt,ht,q,vs,more,z,y⟩
    ·have:vs++more=vs':=by
      have:=congrArg Obj.data z'
      simpa [lJ] using this
     exact .inr ⟨tt,ht,q,vs,more++more',z,by rw[g',←this,Array.append_assoc]⟩
 ·intro b q
  obtain⟨o,e⟩:=r.spec b q
  exact⟨o,by show(if b∈fp then s'.heap.get? b else D.S b)=some o;rw[if_neg (fun h=>hs b h q)];exact e⟩
 ·obtain⟨a,b,m,hn⟩:=r.loc
  obtain⟨o,es,ep,ho,z⟩:=id hn
  exact⟨neg a,t.gr b ho,m,t.ns l.loc hn⟩
 ·obtain⟨a,b,v,hc⟩:=r.cel w x c h1 h2
  obtain⟨o,ho,hd⟩:=id hc
  exact⟨neg a,t.gr b ho,v,t.cell (l.cell c v hc) hc⟩
theorem gS.turn {D₀ D:Bd} {fp:List Addr} (b:gS D₀ D) (hf:∀b∈fp,D₀.S b=none) (f:Fin X D s G) (t:av X fp s G s' G') (hfp:∀b∈fp,∃o,D.S b=some o):gS D₀ (D.upd fp s'.heap G'):=by
 refine⟨fun c o e=>?_,b.G.trans (f.sub.trans t.sub),fun c o o' e h=>?_,b.os,b.wr⟩
 ·show(if c∈fp then s'.heap.get? c else D.S c)=some o
  rw[if_neg (fun h=>by rw[hf c h] at e;cases e)];exact b.S c o e
 ·obtain⟨o1,h1⟩:=bf.there f.keep (b.S c o' h)
  exact b.low c o o' (f.low c o o' (t.low c o o1 e h1) (b.S c o' h)) h
end
noncomputable def fM (X:Cx) (n:Nat) (wr:Bool) (sc:Scope) (tgt:PySem.Expr) (p:PV) (ρ:az) (ω:aA) (k:az→aA→Prop):Prop:=
 ∀(A:Around) (env:Env) (s:Shared) (G:ae) (D:Bd) (v:Value) (Q:Unit→Shared→Prop) (E:Value→Shared→Prop),aV A n→D.wr=wr→bC X env sc ρ ω D s G→Rd G p v→
  (∀ρ' ω' s' G',k ρ' ω'→bC X env sc ρ' ω' D s' G'→Q () s')→wpAny (model X.prog X.w) A (assign tgt env v) Q E s
noncomputable def aU (X:Cx) (n:Nat) (sc:Scope) (tgt:PySem.Expr) (body orelse:List Stmt) (P:a6) (R:PV→aA→Prop):List PV→az→aA→Prop
 | [],ρ,ω=>af X n sc ρ ω orelse P R
 | p::l,ρ,ω=>fM X n true sc tgt p ρ ω fun ρ1 ω1=>af X n sc ρ1 ω1 body (fun fl ρ' ω'=>match fl with | .next | .cont=>aU X n sc tgt body orelse P R l ρ' ω' | .brk=>P .next ρ' ω') R
section
variable {X:Cx} {n:Nat} {sc:Scope} {ρ:az} {ω:aA} {P:a6} {R:PV→aA→Prop}
theorem forLoop {tgt:PySem.Expr} {body orelse:List Stmt} {it:Addr} {fp:List Addr} {K:ae→Heap→List PV→Prop} (T:bA X n tgt it fp K) {A:Around} {env:Env} {D₀:Bd} {Rr:Result→Shared→Prop} (rm:aV A n) (wr:D₀.wr=true)
  (hf:∀b∈fp,D₀.S b=none) (hs:∀b∈fp,¬aw X b) (sp:∀b,aw X b→∃o,D₀.S b=some o)
  (k1:∀fl ρ' ω' s' G',P fl ρ' ω'→bC X env sc ρ' ω' D₀ s' G'→Rr (.ok fl.uh) s') (k2:∀p ω' v s' G',R p ω'→Fin X D₀ s' G'→dp ω' D₀ s' G'→Rd G' p v→Rr (.ok (.ret v)) s')
  {l:List PV} {s:Shared} {G:ae} {D:Bd} (r:bC X env sc ρ ω D s G) (b:gS D₀ D) (hfp:∀b∈fp,∃o,D.S b=some o) (hG:∀b∈fp,G b=none) (hK:K G s.heap l) (L:aU X n sc tgt body orelse P R l ρ ω):
  codeAny (model X.prog X.w) A (.forLoop tgt (.ref it) body orelse env) Rr s:=by
 refine codeAny_forLoop_any (fun m s=>∃(l:List PV) (ρ:az) (ω:aA) (G:ae) (D:Bd),l.length=m∧bC X env sc ρ ω D s G∧gS D₀ D∧(∀b∈fp,∃o,D.S b=some o)∧(∀b∈fp,G b=none)∧K G s.heap l∧aU X n sc tgt body orelse P R l ρ ω) ?_ l.length ⟨l,ρ,ω,G,D,rfl,r,b,hfp,hG,hK,L⟩
 (intro m s zz;obtain⟨l,ρ,ω,G,D,rfl,r,b,hfp,hG,hK,L⟩:=zz)
 have lv:=T.live _ _ _ hK
 have lK:∀{s' G'},av X fp s G s' G'→∀b∈fp,G' b=none:=by
  intro s' G' t b hb
  obtain⟨o,_,ho,_⟩:=lv b hb
  cases q:G' b with
  | none=>rfl
  | some o'=>have:=hG b hb;rw[t.low b o' o q ho] at this;cases this
 refine wpAny_mono (T.turn A s G _ l (fun r s1=>match r with
  | none=>wpAny (model X.prog X.w) A (execs orelse env) (fun f s₃=>Rr (.ok f) s₃) (notedBy (model X.prog X.w) A env fun e s'=>Rr (.error e) s') s1
  | some v=>wpAny (model X.prog X.w) A (assign tgt env v) (fun _ s₂=>wpAny (model X.prog X.w) A (execs body env) (fun f s₃=>match f with
     | .next | .cont=>∃m,m<l.length∧∃(l':List PV) (ρ:az) (ω:aA) (G:ae) (D:Bd),l'.length=m∧bC X env sc ρ ω D s₃ G∧gS D₀ D∧(∀b∈fp,∃o,D.S b=some o)∧(∀b∈fp,G b=none)∧K G s₃.heap l'∧aU X n sc tgt body orelse P R l' ρ ω
     | .brk=>Rr (.ok .next) s₃
     | .ret v=>Rr (.ok (.ret v)) s₃) (notedBy (model X.prog X.w) A env fun e s'=>Rr (.error e) s') s₂) (notedBy (model X.prog X.w) A env fun e s'=>Rr (.error e) s') s1)
  rm r.er.base hK (fun b hb=>⟨hG b hb,hs b hb⟩) ?_ ?_) (fun r s1 h=>?_) fun _ _ e=>e
 ·rintro rfl s' G' t
  have r':=r.turn t (cn.off lv r.loc.2.2) hfp hs
  have bd:=b.turn hf r.fin t hfp
  exact L A env s' G' _ _ _ rm (bd.wr.trans wr) r' (fun fl ρ' ω' s2 G2 p r2=>k1 fl ρ' ω' s2 G2 p (r2.fZ bd sp)) fun p ω' v s2 G2 x f hl d=>k2 p ω' v s2 G2 x (f.fZ bd) (hl.fZ bd) d
 ·rintro p l' rfl v s' G' t d hK'
  have r':=r.turn t (cn.off lv r.loc.2.2) hfp hs
  have bd:=b.turn hf r.fin t hfp
  have lv':=T.live _ _ _ hK'
  have hfp':∀b∈fp,∃o,(D.upd fp s'.heap G').S b=some o:=fun b hb=>by
   obtain⟨o,_,ho,_⟩:=lv' b hb
   exact⟨o,by show(if b∈fp then s'.heap.get? b else D.S b)=some o;rw[if_pos hb];exact ho⟩
  refine L A env s' G' _ v _ _ rm (bd.wr.trans wr) r' d fun ρ1 ω1 s2 G2 hL r2=>?_
  refine hL A env s2 G2 _ _ _ rm (bd.wr.trans wr) r2 (fun fl ρ2 ω2 s3 G3 hp r3=>?_) fun p ω' v s3 G3 x f hl d=>k2 p ω' v s3 G3 x (f.fZ bd) (hl.fZ bd) d
  have again:aU X n sc tgt body orelse P R l' ρ2 ω2→∃m,m<(p::l').length∧∃(l':List PV) (ρ:az) (ω:aA) (G:ae) (D:Bd),l'.length=m∧bC X env sc ρ ω D s3 G∧gS D₀ D∧(∀b∈fp,∃o,D.S b=some o)∧(∀b∈fp,G b=none)∧K G s3.heap l'∧aU X n sc tgt body orelse P R l' ρ ω:=by
   intro hL'
   refine⟨l'.length,by simp,l',ρ2,ω2,G3,_,rfl,r3,bd,hfp',?_,?_,hL'⟩
   ·intro b hb
    obtain⟨o,_,ho,_⟩:=lv' b hb
    obtain⟨o1,h1⟩:=hfp' b hb
    cases q:G3 b with
    | none=>rfl
    | some o'=>
     have:G' b=some o':=r3.fin.low b o' o1 q h1
     rw[lK t b hb] at this;cases this
   ·refine T.stable _ _ _ _ _ hK' r3.fin.sub (fun b hb o e=>?_) r3.fin.within
    obtain⟨o1,vs,h1,hd⟩:=lv' b hb
    rw[h1] at e;cases e
    have e2:(D.upd fp s'.heap G').S b=some o:=by show(if b∈fp then s'.heap.get? b else D.S b)=some o;rw[if_pos hb];exact h1
    rcases r3.fin.keep b o e2 with y | ⟨tt,ht,q,_⟩
    ·exact y
    ·exact absurd (.inr (.inr (.inr (.inr (.inr ⟨tt,ht, .inr q⟩))))) (hs b hb)
  cases fl with
  | next=>exact again hp
  | cont=>exact again hp
  | brk=>exact k1 .next ρ2 ω2 s3 G3 hp (r3.fZ bd sp)
 ·cases r with
  | none=>exact h
  | some v=>exact h
theorem aF.forIn {tgt iter:PySem.Expr} {body orelse:List Stmt} {pos:Pos} {l:List PV} (hi:dj X n sc ρ iter tgt l) (L:aU X n sc tgt body orelse P R l ρ ω)
  (hsx:∀env x,foldedSetIterable iter env x=pure x:=by intro _ _;rfl):aF X n sc ρ ω (.For tgt iter body orelse pos) P R:=by
 intro A env s G D Q E rm wr r k1 k2
 refine wpAny_For (hi A env s G _ E rm r.er fun it fp K s1 G1 t1 f T hK=>?_) (hsx env)
 have r1:=r.step t1
 have lv:=T.live _ _ _ hK
 have hf:∀b∈fp,D.S b=none:=fun b hb=>by
  cases q:D.S b with
  | none=>rfl
  | some o=>obtain⟨o',h'⟩:=bf.there r.fin.keep q;rw[(f b hb).1] at h';cases h'
 have hs:∀b∈fp,¬aw X b:=fun b hb=>dP r (hf b hb)
 have r2:bC X env sc ρ ω (D.upd fp s1.heap G1) s1 G1:=by
  exact r1.closer (cn.off lv r1.loc.2.2) (cn.own lv r1.held rfl) hs
 refine forLoop T (Rr:=fun r s'=>match r with | .ok f=>Q f s' | .error e=>cameBackBy (model X.prog X.w) A env E e s') rm wr hf hs r.spec (fun fl ρ' ω' s' G' p r'=>k1 fl ρ' ω' s' G' p r') (fun p ω' v s' G' x f hl d=>k2 p ω' v s' G' x f hl d) r2 (gS.upd hf r1.fin) (fun b hb=>?_) (fun b hb=>(f b hb).2) hK L
 obtain⟨o,_,ho,_⟩:=lv b hb
 exact⟨o,by show(if b∈fp then s1.heap.get? b else D.S b)=some o;rw[if_pos hb];exact ho⟩
end
section
variable {X:Cx} {n:Nat} {sc:Scope} {ρ:az} {ω:aA} {wr:Bool}
theorem Base.ext {s:Shared} {G:ae} (b:Base X s G) {h':Heap} {tk:Nat} (k:∀b o,s.heap.get? b=some o→h'.get? b=some o):Step X s G {s with heap:=h',toks:=tk} G:=
 ⟨cz.iq k,b.gnd.keeps k,Sub.refl _,fun a o e=>k a o (b.within a o e),fun _ _ _ e _=>e,rfl,b.gens⟩
theorem bY {h h':Heap} (x:Heap.ExtBut h.objs.size h h'):∀b o,h.get? b=some o→h'.get? b=some o:=fun b o e=>x b o (fun q=>by rw[q,aq] at e;cases e) e
theorem Base.fresh {s:Shared} {G:ae} (b:Base X s G) (o:Obj):Step X s G {s with heap:=s.heap.push o} G:=b.ext (a8 o)
noncomputable def cw (wr:Bool) (sc:Scope) (x:Str):Prop:=sc.names.lookup x=some .local∨(wr=true∧sc.names.lookup x=some .cell)
theorem cw.at {wr:Bool} {sc:Scope} {x:Str} {D:Bd} (h:cw wr sc x) (e:D.wr=wr):sc.names.lookup x=some .local∨(D.wr=true∧sc.names.lookup x=some .cell):=h.imp id fun q=>⟨e.trans q.1,q.2⟩
theorem fM.name {x:Str} {pos:Pos} {p:PV} {k:az→aA→Prop} (hx:cw wr sc x) (h:k ((x,some p)::ρ) ((x,none)::ω)):fM X n wr sc (.Name x pos) p ρ ω k:=
 fun A env s G D v Q E rm wr' r d q=>wpAny_assign_Name (r.storeAt (cw.at hx wr') fun h' tk S=>q _ _ _ G h (S.pure r d))
noncomputable def bB (X:Cx) (n:Nat) (wr:Bool) (sc:Scope) (tgts:List PySem.Expr) (ps:List PV) (ρ:az) (ω:aA) (k:az→aA→Prop):Prop:=
 ∀(A:Around) (env:Env) (s:Shared) (G:ae) (D:Bd) (vs:List Value) (Q:Unit→Shared→Prop) (E:Value→Shared→Prop),aV A n→D.wr=wr→bC X env sc ρ ω D s G→aE G ps vs→
  (∀ρ' ω' s' G',k ρ' ω'→bC X env sc ρ' ω' D s' G'→Q () s')→wpAny (model X.prog X.w) A (assignInOrder ((assignEach tgts env).map (·.2)) vs) Q E s
theorem bB.nil {k:az→aA→Prop} (h:k ρ ω):bB X n wr sc [] [] ρ ω k:=by
 intro A env s G D vs Q E rm wr r d q
 cases d
 exact wpAny_assignInOrder_none (q _ _ _ G h r)
theorem bB.cons {x:Str} {pos:Pos} {tgts:List PySem.Expr} {p:PV} {ps:List PV} {k:az→aA→Prop} (hx:cw wr sc x) (h:bB X n wr sc tgts ps ((x,some p)::ρ) ((x,none)::ω) k):bB X n wr sc (.Name x pos::tgts) (p::ps) ρ ω k:=by
 intro A env s G D vs Q E rm wr' r d q
 obtain⟨v,vs',rfl,d1,d2⟩:=d
 refine wpAny_assignInOrder_more (t:=assign (.Name x pos) env) ?_
 exact wpAny_assign_Name (r.storeAt (cw.at hx wr') fun h' tk S=>h A env _ G D vs' Q E rm wr' (S.pure r d1) d2 q)
theorem Rd.tuple {G:ae} {h:Heap} {ps:List PV} {v:Value} (w:Sub G h.get?) (d:Rd G (.tup ps) v):∃a vs,v= .ref a∧h.IsTuple a (List.toArray vs)∧aE G ps vs∧∃o,G a=some o:=
 let ⟨a,o,vs,m,e,g,c,dd,r⟩:=d
 ⟨a,vs,e,⟨o,w _ _ g,c,m,dd⟩,r,o,g⟩
theorem Rd.list {G:ae} {h:Heap} {ps:List PV} {v:Value} (w:Sub G h.get?) (d:Rd G (.lst ps) v):∃a vs,v= .ref a∧h.IsList a (List.toArray vs)∧aE G ps vs∧∃o,G a=some o:=
 let ⟨a,o,vs,m,e,g,c,dd,r⟩:=d
 ⟨a,vs,e,⟨o,w _ _ g,c,m,dd⟩,r,o,g⟩
theorem fM.tuple {tgts:List PySem.Expr} {k0:Nat} {pos:Pos} {ps:List PV} {k:az→aA→Prop} (h:bB X n wr sc tgts ps ρ ω k) (hl:∀env,(assignEach tgts env).length=ps.length:=by intro _;rfl)
  (hst:∀env,(assignEach tgts env).findIdx? (·.1)=none:=by intro _;rfl):fM X n wr sc (.Tuple tgts k0 pos) (.tup ps) ρ ω k:=by
 intro A env s G D v Q E rm wr r d q
 obtain⟨a,vs,rfl,ht,d',_⟩:=Rd.tuple r.er.within d
 refine wpAny_assign_Tuple rm.2.2 ht (by rw[hl env,List.size_toArray,d'.length]) (hst env) fun h' hx=>?_
 exact h A env _ G D vs Q E rm wr (r.step (r.er.base.ext (tk:=s.toks) (bY hx))) d' q
theorem lP {s:Shared} {G:ae} (b:Base X s G) {it:Addr} {h':Heap} {tk:Nat} {o:Obj} (hs:Heap.SameBut it s.heap h') (hg:G it=none) (hsp:¬aw X it) (ho:s.heap.get? it=some o) (hnc:o.cls≠ .type "code"):av X [it] s G {s with heap:=h',toks:=tk} G:=by
 refine⟨fun c o' hc e=> .inl ((hs.2 c (by simpa using hc)).trans e),b.gnd.sameBut hs hsp ho (fun _ h=>absurd h hnc),Sub.refl _,fun c o' e=>(hs.2 c (fun q=>by rw[q,hg] at e;cases e)).trans (b.within c o' e),fun _ _ _ e _=>e,rfl,b.gens,fun _ _ e=>e⟩
theorem fe.sY {h h':Heap} {a c P:Addr} {q:Str} (x:fe h c P q) (hs:Heap.ExtBut a h h') (hc:c≠a) (hP:P≠a) {oa:Obj} (ha:h.get? a=some oa) (hcl:d8 oa):fe h' c P q:=by
 obtain⟨ne,ps,A,B,D⟩:=x
 refine⟨ne,ps,A.extBut hs hc hP,B.extBut hs hc hP,fun pos c' e=>?_⟩
 obtain⟨y,o,e1,e2,e3,e4⟩:=D pos c' e
 subst e1
 obtain⟨_,o',vs,t,q1,q2,q3,q4⟩:=e4
 cases q1
 have hy:y≠a:=fun z=>by
  subst z
  rw[ha] at e2
  cases e2
  rw[ha] at q2
  cases q2
  exact hcl vs e3 q3
 exact⟨y,o,rfl,hs y o hy e2,e3,_,o',vs,t,rfl,hs y o' hy q2,q3,q4⟩
theorem b5.extBut {h h':Heap} {a:Addr} (x:b5 X h) (hs:Heap.ExtBut a h h') (ha:¬aw X a) {oa:Obj} (hoa:h.get? a=some oa) (hcl:d8 oa):b5 X h':=by
 have ne:∀{b},aw X b→b≠a:=fun s e=>ha (e▸s)
 refine⟨fun b o e=>hs _ _ (ne (.inl ⟨o,e⟩)) (x.kin b o e),x.g.extBut hs (ne (.inr (.inl rfl))),x.b.extBut hs (ne (.inr (.inr (.inl rfl)))),x.nolimit.extBut hs (ne (.inr (.inr (.inr (.inl rfl))))),?_,x.builtins,?_,?_⟩
 ·obtain⟨mc,a,b⟩:=x.nodigits
  exact⟨mc,a.extBut hs (ne (.inr (.inr (.inr (.inl rfl))))),b⟩
 ·obtain⟨bm,ob,a,b,c,d⟩:=x.bmain
  exact⟨bm,ob,a,b,hs _ _ (ne (.inr (.inr (.inr (.inr (.inl a)))))) c,d⟩
 ·intro t ht
  exact(x.tabs t ht).sY hs (ne (.inr (.inr (.inr (.inr (.inr ⟨t,ht, .inl rfl⟩)))))) (ne (.inr (.inr (.inr (.inr (.inr ⟨t,ht, .inr rfl⟩)))))) hoa hcl
theorem jF {s:Shared} {G:ae} (b:Base X s G) {it:Addr} {h':Heap} {tk:Nat} {o:Obj} (hs:Heap.ExtBut it s.heap h') (hg:G it=none) (hsp:¬aw X it) (ho:s.heap.get? it=some o) (hnc:o.cls≠ .type "code"):av X [it] s G {s with heap:=h',toks:=tk} G:=by
 refine⟨fun c o' hc e=> .inl (hs c o' (by simpa using hc) e),b.gnd.extBut hs hsp ho (fun _ h=>absurd h hnc),Sub.refl _,fun c o' e=>hs c o' (fun q=>by rw[q,hg] at e;cases e) (b.within c o' e),fun _ _ _ e _=>e,rfl,b.gens,fun _ _ e=>e⟩
set_option tactic.hygienic true in
theorem cj {A:Around} {tgt:PySem.Expr} {it:Addr} {v:Value} {s:Shared} {o:Obj} {T:String} {Q:Unit→Shared→Prop} {E:Value→Shared→Prop} (ho:s.heap.get? it=some o) (hc:o.cls= .type T)
  (hT:["enumerate","zip","dict_itemiterator","dict_reverseitemiterator","odict_iterator","itertools.zip_longest","itertools.pairwise"].contains T=false) (h:Q () s):wpAny (model X.prog X.w) A (letOwnedTupleGo tgt (.ref it) v) Q E s:=by
 cases tgt<;>first
  | exact yJ h
  |
   cases v<;>first
    | exact yJ h
    |
     refine yI (wpAny_load ho ?_)
     rw[hc]
     cases o.data<;>first
      | exact yJ h
      |
       dsimp only
       rw[hT]
       exact yJ h
theorem getElem_drop {l:List PV} {i:Nat} {p:PV} {r:List PV} (e:l.drop i=p::r):l[i]?=some p∧l.drop (i+1)=r:=by
 have h1:(l.drop i)[0]?=some p:=by rw[e];rfl
 rw[List.getElem?_drop] at h1
 refine⟨by simpa using h1,?_⟩
 have:l.drop (i+1)=(l.drop i).drop 1:=by rw[List.drop_drop]
 rw[this,e];rfl
theorem bX {l:List PV} {i:Nat} (e:l.drop i=[]):l.length≤i:=by
 have:=congrArg List.length e
 simp at this;omega
theorem bA.list {tgt:PySem.Expr} {it a:Addr} {l:List PV} (hne:a≠it):bA X n tgt it [it] (fun G h rest=>∃i vs o m,h.IsListIter it a i∧G a=some o∧o.cls= .type "list"∧o.data= .seq (List.toArray vs) m∧aE G l vs∧rest=l.drop i∧Sub G h.get?):=by
 refine⟨?_,?_,?_,?_⟩
 ·(intro G G' h h' rest zz;obtain⟨i,vs,o,m,h1,h2,h3,h4,h5,h6,h7⟩:=zz;intro hs hk hw)
  exact⟨i,vs,o,m,h1.at fun o e=>hk it (by simp) o e,hs _ _ h2,h3,h4,aE.mono hs _ _ h5,h6,hw⟩
 ·(intro G h rest zz;obtain⟨i,vs,o,m,⟨oi,ho,_,hd⟩,_⟩:=zz;intro b hb)
  simp at hb;subst hb
  exact⟨oi,_,ho,hd⟩
 ·(intro A s G E rest Q rm b zz;obtain⟨i,vs,o,m,hit,h2,h3,h4,h5,rfl,_⟩:=zz;intro hg k1 k2)
  obtain⟨hg1,hsp⟩:=hg it (by simp)
  obtain⟨oi,hoi,hci,hdi⟩:=id hit
  have hl:s.heap.IsList a (List.toArray vs):=⟨o,b.within _ _ h2,h3,m,h4⟩
  have hnc:oi.cls≠ .type "code":=by rw[hci];decide
  cases e:l.drop i with
  | nil=>
   refine wpAny_pyNext_list_end rm.2.2 hit hl (by simpa [h5.length] using bX e) fun h' hx=>?_
   exact k1 e _ G (jF b (tk:=s.toks) hx hg1 hsp hoi hnc)
  | cons p r=>
   obtain⟨e1,e2⟩:=getElem_drop e
   obtain⟨v,hv,d⟩:=h5.get e1
   refine wpAny_pyNext_list_item hit hl (x:=v) (by simpa using hv) fun h' hit' hx=>?_
   have st:=lP b (tk:=s.toks) hx hg1 hsp hoi hnc
   obtain⟨o2,ho2,hc2,_⟩:=id hit'
   refine cj (T:="list_iterator") ho2 hc2 (by decide) ?_
   exact k2 p r e v _ G st d ⟨i+1,vs,o,m,hit',h2,h3,h4,h5,e2.symm,st.within⟩
 ·(intro A s G rest Q E zz;obtain⟨i,vs,o,m,h1,_⟩:=zz;intro q);exact wpAny_pyIter_listiter h1 q
theorem fW.list {tgt:PySem.Expr} {l:List PV}:fW X n (.lst l) tgt l:=by
 intro A s G v Q E rm b d k
 obtain⟨a,o,vs,m,rfl,g,c,dd,r⟩:=d
 refine wpAny_pyIter_list ⟨o,b.within _ _ g,c,m,dd⟩ ?_
 have hne:a≠s.heap.objs.size:=fun q=>by have:=b.within _ _ g;rw[q,aq] at this;cases this
 refine k _ [s.heap.objs.size] _ _ G (b.fresh _) (fun c hc=>?_) (bA.list hne) ⟨0,vs,o,m,⟨_,Heap.get?_push_size _ rfl,rfl,rfl⟩,g,c,dd,r,rfl,(b.fresh _).within⟩
 simp at hc;subst hc
 exact⟨aq _,ao b.within (aq _)⟩
theorem bA.tup {tgt:PySem.Expr} {it a:Addr} {l:List PV} (hne:a≠it):bA X n tgt it [it] (fun G h rest=>∃i vs o m,h.IsTupleIter it a i∧G a=some o∧o.cls= .type "tuple"∧o.data= .seq (List.toArray vs) m∧aE G l vs∧rest=l.drop i∧Sub G h.get?):=by
 refine⟨?_,?_,?_,?_⟩
 ·(intro G G' h h' rest zz;obtain⟨i,vs,o,m,⟨oi,hoi,hri⟩,h2,h3,h4,h5,h6,h7⟩:=zz;intro hs hk hw)
  exact⟨i,vs,o,m,⟨oi,hk it (by simp) oi hoi,hri⟩,hs _ _ h2,h3,h4,aE.mono hs _ _ h5,h6,hw⟩
 ·(intro G h rest zz;obtain⟨i,vs,o,m,⟨oi,ho,_,hd⟩,_⟩:=zz;intro b hb)
  simp at hb;subst hb
  exact⟨oi,_,ho,hd⟩
 ·(intro A s G E rest Q rm b zz;obtain⟨i,vs,o,m,hit,h2,h3,h4,h5,rfl,_⟩:=zz;intro hg k1 k2)
  obtain⟨hg1,hsp⟩:=hg it (by simp)
  obtain⟨oi,hoi,hci,hdi⟩:=id hit
  have hl:s.heap.IsTuple a (List.toArray vs):=⟨o,b.within _ _ h2,h3,m,h4⟩
  have hnc:oi.cls≠ .type "code":=by rw[hci];decide
  cases e:l.drop i with
  | nil=>
   refine wpAny_pyNext_tuple_end rm.2.2 hit hl (by simpa [h5.length] using bX e) fun h' hx=>?_
   exact k1 e _ G (jF b (tk:=s.toks) hx hg1 hsp hoi hnc)
  | cons p r=>
   obtain⟨e1,e2⟩:=getElem_drop e
   obtain⟨v,hv,d⟩:=h5.get e1
   refine wpAny_pyNext_tuple_item hit hl (x:=v) (by simpa using hv) fun h' hit' hx=>?_
   have st:=lP b (tk:=s.toks) hx hg1 hsp hoi hnc
   obtain⟨o2,ho2,hc2,_⟩:=id hit'
   refine cj (T:="tuple_iterator") ho2 hc2 (by decide) ?_
   exact k2 p r e v _ G st d ⟨i+1,vs,o,m,hit',h2,h3,h4,h5,e2.symm,st.within⟩
 ·(intro A s G rest Q E zz;obtain⟨i,vs,o,m,h1,_⟩:=zz;intro q);exact wpAny_pyIter_tupleiter h1 q
theorem fW.tup {tgt:PySem.Expr} {l:List PV}:fW X n (.tup l) tgt l:=by
 intro A s G v Q E rm b d k
 obtain⟨a,o,vs,m,rfl,g,c,dd,r⟩:=d
 refine wpAny_pyIter_tuple ⟨o,b.within _ _ g,c,m,dd⟩ ?_
 have hne:a≠s.heap.objs.size:=fun q=>by have:=b.within _ _ g;rw[q,aq] at this;cases this
 refine k _ [s.heap.objs.size] _ _ G (b.fresh _) (fun c hc=>?_) (bA.tup hne) ⟨0,vs,o,m,⟨_,Heap.get?_push_size _ rfl,rfl,rfl⟩,g,c,dd,r,rfl,(b.fresh _).within⟩
 simp at hc;subst hc
 exact⟨aq _,ao b.within (aq _)⟩
noncomputable def signsOf (x:Str):List PV:=x.cps.toList.map fun c=> .str ⟨#[c]⟩
theorem bA.str {tgt:PySem.Expr} {it:Addr} {x:Str} {t:Tok}:bA X n tgt it [it] (fun G h rest=>∃i,h.IsStrIter it "str_ascii_iterator" x t i∧rest=(signsOf x).drop i):=by
 refine⟨?_,?_,?_,?_⟩
 ·(intro G G' h h' rest zz;obtain⟨i,⟨oi,hoi,hri⟩,h6⟩:=zz;intro hs hk hw)
  exact⟨i,⟨oi,hk it (by simp) oi hoi,hri⟩,h6⟩
 ·(intro G h rest zz;obtain⟨i,⟨oi,ho,_,hd⟩,_⟩:=zz;intro b hb)
  simp at hb;subst hb
  exact⟨oi,_,ho,hd⟩
 ·(intro A s G E rest Q rm b zz;obtain⟨i,hit,rfl⟩:=zz;intro hg k1 k2)
  obtain⟨hg1,hsp⟩:=hg it (by simp)
  obtain⟨oi,hoi,hci,hdi⟩:=id hit
  have hnc:oi.cls≠ .type "code":=by rw[hci];decide
  cases e:(signsOf x).drop i with
  | nil=>
   refine wpAny_pyNext_ascii_end rm.2.2 hit (by have:=bX e;simp[signsOf] at this;simpa using this) fun h' hx=>?_
   exact k1 e _ G (jF b (tk:=s.toks) hx hg1 hsp hoi hnc)
  | cons p r=>
   obtain⟨e1,e2⟩:=getElem_drop e
   simp only[signsOf,List.getElem?_map,Option.map_eq_some_iff,Array.getElem?_toList] at e1
   obtain⟨c,hc,rfl⟩:=e1
   refine wpAny_pyNext_ascii_item hit hc fun h' hit' hx=>?_
   have st:=lP b (tk:=s.toks+1) hx hg1 hsp hoi hnc
   obtain⟨o2,ho2,hc2,_⟩:=id hit'
   refine cj (T:="str_ascii_iterator") ho2 hc2 (by decide) ?_
   exact k2 _ r e _ _ G st ⟨_,rfl⟩ ⟨i+1,hit',e2.symm⟩
 ·(intro A s G rest Q E zz;obtain⟨i,h1,_⟩:=zz;intro q);exact wpAny_pyIter_striter_ascii h1 q
theorem fW.str {tgt:PySem.Expr} {x:Str} (ha:x.cps.all (· <128)=true):fW X n (.str x) tgt (signsOf x):=by
 intro A s G v Q E rm b d k
 obtain⟨t,rfl⟩:=d
 refine wpAny_pyIter_ascii ha ?_
 refine k _ [s.heap.objs.size] _ _ G (b.fresh _) (fun c hc=>?_) bA.str ⟨0,⟨_,Heap.get?_push_size _ rfl,rfl,rfl⟩,rfl⟩
 simp at hc;subst hc
 exact⟨aq _,ao b.within (aq _)⟩
end
section
variable {X:Cx} {n:Nat} {sc:Scope} {ρ:az} {ω:aA}
noncomputable def bp (a c:Int) (k:Nat):List PV:=(List.range k).map fun(i:Nat)=>PV.int (a+(i:Int)*c)
theorem ng {a c:Int} {k i:Nat} {p:PV} (h:(bp a c k)[i]?=some p):i<k∧p= .int (a+(i:Int)*c):=by
 unfold bp at h
 rw[List.getElem?_map] at h
 by_cases hi:i<k
 ·rw[List.getElem?_range hi] at h
  simp at h
  exact⟨hi,h.symm⟩
 ·rw[List.getElem?_eq_none (by simpa using hi)] at h;cases h
theorem bA.range {tgt:PySem.Expr} {it:Addr} {a c:Int} {k:Nat}:bA X n tgt it [it] (fun G h rest=>∃i:Nat,IsRangeIter h it (a+(i:Int)*c) ((k:Int) - (i:Int)) c∧i≤k∧rest=(bp a c k).drop i):=by
 refine⟨?_,?_,?_,?_⟩
 ·(intro G G' h h' rest zz;obtain⟨i,h1,h2,h6⟩:=zz;intro hs hk hw)
  exact⟨i,hk it (by simp) _ h1,h2,h6⟩
 ·(intro G h rest zz;obtain⟨i,h1,_⟩:=zz;intro b hb)
  simp at hb;subst hb
  exact⟨_,_,h1,rfl⟩
 ·(intro A s G E rest Q rm b zz;obtain⟨i,hit,hik,rfl⟩:=zz;intro hg k1 k2)
  obtain⟨hg1,hsp⟩:=hg it (by simp)
  cases e:(bp a c k).drop i with
  | nil=>
   have hk:k≤i:=by have:=bX e;simpa [bp] using this
   refine wpAny_pyNext_range_end rm.2.2 hit (by lia) fun h' hx=>?_
   exact k1 e _ G (jF b (tk:=s.toks) hx hg1 hsp hit (by show Value.type _≠Value.type _;decide))
  | cons p r=>
   obtain⟨e1,e2⟩:=getElem_drop e
   obtain⟨hlt,rfl⟩:=ng e1
   refine wpAny_pyNext_range_item hit (by lia) fun h' hit' hx=>?_
   have st:=lP b (tk:=s.toks+1) hx hg1 hsp hit (by show Value.type _≠Value.type _;decide)
   refine cj (T:="range_iterator") hit' rfl (by decide) ?_
   refine k2 _ r e _ _ G st ⟨_,rfl⟩ ⟨i+1,?_,hlt,e2.symm⟩
   have q1:a+(i:Int)*c+c=a+((i+1:Nat):Int)*c:=by rw[Int.natCast_add,Int.add_mul];simp;lia
   have q2:(k:Int) - (i:Int) - 1=(k:Int) - ((i+1:Nat):Int):=by lia
   rw[←q1,←q2];exact hit'
 ·(intro A s G rest Q E zz;obtain⟨i,h1,_⟩:=zz;intro q);exact wpAny_pyIter_rangeiter h1 q
theorem dK {x:Str} {pf pos:Pos} {es:List PySem.Expr} {T:String} {ps:List PV} (hf:aa X n sc ρ (.Name x pf) (.opq (.type T))) (ha:aj X n sc ρ es ps) {A:Around} {env:Env} {s:Shared} {G:ae} {Q E:Value→Shared→Prop} (rm:aV A n) (e:bU X env sc ρ s G)
  (k:∀vs s' G',Step X s G s' G'→aE G' ps vs→wpAny (model X.prog X.w) A (call (.type T) vs) Q E s'):wpAny (model X.prog X.w) A (eval (.Call (.Name x pf) es [] pos) env) Q E s:=by
 refine wpAny_Call_Name_kw (hf A env s G _ E rm e fun v s1 G1 t1 d1=>?_)
 cases d1
 refine PySem.callWith_type (bN ha pos env) ?_
 exact aY ha rm (e.step t1) fun vs s2 G2 t2 d2=>k vs s2 G2 (t1.trans t2) d2
theorem ou {tgt:PySem.Expr} {A:Around} {s s0:Shared} {G:ae} {r:Addr} {a b c:Int} {t u v:Tok} {k:Nat} {Q:Value→Shared→Prop} {E:Value→Shared→Prop} (bs:Base X s G) (st:Step X s0 G s G) (hr:IsRange s.heap r a b c t u v) (hsm:Builtin.Range.small a b c=true) (hk:Builtin.Range.rangeSize a b c=(k:Int))
  (q:∀it fp K s' G',Step X s0 G s' G'→(∀b∈fp,s0.heap.get? b=none∧G' b=none)→bA X n tgt it fp K→K G' s'.heap (bp a c k)→Q (.ref it) s'):wpAny (model X.prog X.w) A (pyIter (.ref r)) Q E s:=by
 refine wpAny_pyIter_range hr hsm ?_
 refine q _ [s.heap.objs.size] _ _ G (st.trans (bs.fresh _)) (fun c hc=>?_) (bA.range (a:=a) (c:=c) (k:=k)) ⟨0,?_,Nat.zero_le _,rfl⟩
 ·simp at hc;subst hc
  exact⟨aB st (aq _),ao bs.within (aq _)⟩
 ·have e1:a+((0:Nat):Int)*c=a:=by simp
  have e2:(k:Int) - ((0:Nat):Int)=Builtin.Range.rangeSize a b c:=by rw[hk];simp
  rw[e1,e2]
  exact Heap.get?_push_size _ rfl
theorem dj.ip {tgt:PySem.Expr} {x:Str} {pf pos:Pos} {e:PySem.Expr} {b:Int} {k:Nat} (hf:aa X n sc ρ (.Name x pf) (.opq (.type "range"))) (he:aj X n sc ρ [e] [.int b]) (hk:b=(k:Int)) (hb:k<4611686018427387904):dj X n sc ρ (.Call (.Name x pf) [e] [] pos) tgt (bp 0 1 k):=by
 intro A env s G Q E rm ev q
 refine dK hf he rm ev fun vs s1 G1 t1 d1=>?_
 obtain⟨v,_,rfl,⟨t,rfl⟩,rfl⟩:=d1
 refine call_range_1 ?_
 have st:=t1.base.ext (h':=s1.heap.push {cls:= .type "range",data:= .fields #[.int 0 s1.toks, .int b t, .int 1 (s1.toks+1)]}) (tk:=s1.toks+1+1) (a8 _)
 refine ou (k:=k) st.base st (IsRange.new ..) (small_one (by decide) (by decide) (by lia) (by lia)) ?_ fun it fp K s' G' t' f T kk=>q it fp K s' G' (t1.trans t') (fun b hb=>⟨aB t1 (f b hb).1,(f b hb).2⟩) T kk
 rw[rangeSize_one];split<;>lia
theorem dj.uM {tgt:PySem.Expr} {x:Str} {pf pos:Pos} {e e':PySem.Expr} {a b:Int} {k:Nat} (hf:aa X n sc ρ (.Name x pf) (.opq (.type "range"))) (he:aj X n sc ρ [e,e'] [.int a, .int b]) (hk:b - a=(k:Int)) (ha:a.natAbs<4611686018427387904) (hb:b.natAbs<4611686018427387904):dj X n sc ρ (.Call (.Name x pf) [e,e'] [] pos) tgt (bp a 1 k):=by
 intro A env s G Q E rm ev q
 refine dK hf he rm ev fun vs s1 G1 t1 d1=>?_
 obtain⟨v,_,rfl,⟨t,rfl⟩,v',_,rfl,⟨t',rfl⟩,rfl⟩:=d1
 refine call_range_2 ?_
 have st:=t1.base.ext (h':=s1.heap.push {cls:= .type "range",data:= .fields #[.int a t, .int b t', .int 1 s1.toks]}) (tk:=s1.toks+1) (a8 _)
 refine ou (k:=k) st.base st (IsRange.new ..) (small_one (by omega) (by omega) (by omega) (by omega)) ?_ fun it fp K s' G' t' f T kk=>q it fp K s' G' (t1.trans t') (fun b hb=>⟨aB t1 (f b hb).1,(f b hb).2⟩) T kk
 rw[rangeSize_one];split<;>omega
theorem bH.nv {x y:Str} {pf pos pg pos':Pos} {e e':PySem.Expr} {a b:Int} {k:Nat} (hl:aa X n sc ρ (.Name x pf) (.opq (.type "list"))) (hf:aa X n sc ρ (.Name y pg) (.opq (.type "range"))) (he:aj X n sc ρ [e,e'] [.int a, .int b]) (hk:b - a=(k:Int)) (hkz:k≤1000) (ha:a.natAbs<4611686018427387904) (hb:b.natAbs<4611686018427387904):
  bH X n sc ρ (.Call (.Name x pf) [.Call (.Name y pg) [e,e'] [] pos'] [] pos) (bp a 1 k):=by
 intro A env s G Q E rm ev q
 refine wpAny_Call_Name_kw (hl A env s G _ E rm ev fun v s1 G1 t1 d1=>?_)
 cases d1
 refine PySem.callWith_type rfl (evalArgs_plain (spliced_cons ?_))
 refine dK hf he rm (ev.step t1) fun vs s2 G2 t2 d2=>?_
 obtain⟨v,_,rfl,⟨t,rfl⟩,v',_,rfl,⟨t',rfl⟩,rfl⟩:=d2
 refine call_range_2 (spliced_nil ?_)
 have st:=t2.base.ext (h':=s2.heap.push {cls:= .type "range",data:= .fields #[.int a t, .int b t', .int 1 s2.toks]}) (tk:=s2.toks+1) (a8 _)
 refine call_list_range (n:=k) rm.2.2 (IsRange.new ..) (small_one (by omega) (by omega) (by omega) (by omega)) (by rw[rangeSize_one];split<;>omega) (by omega) fun h' tk acc c' hkeep hl' hi=>?_
 have st2:=st.base.ext (tk:=tk) hkeep
 have all:=((t1.trans t2).trans st).trans st2
 have hz:s.heap.get? (s2.heap.push {cls:= .type "range",data:= .fields #[.int a t, .int b t', .int 1 s2.toks]}).objs.size=none:=aB ((t1.trans t2).trans st) (aq _)
 refine q _ acc.toList _ G2 all hz (ao st.within (aq _)) ⟨c',hl'⟩ ?_
 obtain⟨hz2,hp⟩:=hi
 clear hl' hkeep st2 all q
 have key:∀(l:List Value) (i0:Nat),(∀j v,l[j]?=some v→∃t,v=Value.int (a+((i0+j:Nat):Int)*1) t)→aE G2 ((List.range' i0 l.length).map fun(i:Nat)=>PV.int (a+(i:Int)*1)) l:=by
  intro l
  induction l with
  | nil=>intro i0 _;exact rfl
  | cons v r ih=>
   intro i0 h
   refine⟨v,r,rfl,?_,?_⟩
   ·obtain⟨t,e⟩:=h 0 v rfl
    exact⟨t,by simpa using e⟩
   ·have:=ih (i0+1) (fun j u hj=>by
     obtain⟨t,e⟩:=h (j+1) u hj
     exact⟨t,by rw[e];congr 3;lia⟩)
    exact this
 have:=key acc.toList 0 (fun j v hj=>by
  obtain⟨t,e⟩:=hp j v (by simpa using hj)
  exact⟨t,by simpa using e⟩)
 unfold bp
 rw[List.range_eq_range']
 have hlen:acc.toList.length=k:=by simpa using hz2
 rw[hlen] at this
 exact this
noncomputable def dA (l:List PV):List PV:=l.zipIdx.map fun q=> .tup [.int (q.2:Int),q.1]
theorem kK {l:List PV} {i:Nat} {p:PV} (h:(dA l)[i]?=some p):∃q,l[i]?=some q∧p= .tup [.int (i:Int),q]:=by
 unfold dA at h
 rw[List.getElem?_map,List.getElem?_zipIdx] at h
 cases e:l[i]? with
 | none=>rw[e] at h;cases h
 | some q=>rw[e] at h;simp at h;exact⟨q,rfl,h.symm⟩
theorem ic (l:List PV):(dA l).length=l.length:=by simp[dA]
theorem mq {s:Shared} {G:ae} (b:Base X s G) {e it:Addr} {h' h'':Heap} {tk:Nat} {o:Obj} (hg:G e=none∧¬aw X e) (hg2:G it=none∧¬aw X it)
  (ht:h'.get? s.heap.objs.size=some o) (hk:∀b o,b≠e→b≠it→s.heap.get? b=some o→h'.get? b=some o) (hs:Heap.SameBut e h' h'') (hne:s.heap.objs.size≠e) (gn:b5 X h'') (hsz:∀c∈[e,it],c≠s.heap.objs.size):
  av X [e,it] s G {s with heap:=h'',toks:=tk} (fun b=>if b=s.heap.objs.size then some o else G b):=by
 refine⟨fun c o' hc x=>?_,gn,fun c o' x=>?_,fun c o' x=>?_,fun c o' o'' x y=>?_,rfl,b.gens.of rfl (fun t ht x=>by
  show(if t.2.1=s.heap.objs.size then some o else G t.2.1)=none
  obtain⟨o1,h1⟩:=b.gnd.tab ht
  rw[if_neg (fun z=>by rw[z,aq] at h1;cases h1)];exact x),fun c hc x=>by
  show(if c=s.heap.objs.size then some o else G c)=none
  rw[if_neg (hsz c hc)];exact x⟩
 ·simp at hc
  exact .inl ((hs.2 c hc.1).trans (hk c o' hc.1 hc.2 x))
 ·show(if c=s.heap.objs.size then some o else G c)=some o'
  rw[if_neg (fun q=>by have:=b.within c o' x;rw[q,aq] at this;cases this)];exact x
 ·have x':(if c=s.heap.objs.size then some o else G c)=some o':=x
  split at x'
  ·rename_i q
   rw[q,←x'];exact(hs.2 _ hne).trans ht
  ·have n1:c≠e:=fun q=>by rw[q,hg.1] at x';cases x'
   have n2:c≠it:=fun q=>by rw[q,hg2.1] at x';cases x'
   exact(hs.2 c n1).trans (hk c o' n1 n2 (b.within c o' x'))
 ·have x':(if c=s.heap.objs.size then some o else G c)=some o':=x
  split at x'
  ·rename_i q;rw[q,aq] at y;cases y
  ·exact x'
theorem b5.qi {h h':Heap} {a b:Addr} (x:b5 X h) (hk:∀c o,c≠a→c≠b→h.get? c=some o→h'.get? c=some o) (ha:¬aw X a) (hb:¬aw X b) {oa ob:Obj} (hoa:h.get? a=some oa) (hob:h.get? b=some ob) (ca:oa.cls≠ .type "code") (cb:ob.cls≠ .type "code"):b5 X h':=by
 have ne:∀{c},aw X c→c≠a∧c≠b:=fun s=>⟨fun e=>ha (e▸s),fun e=>hb (e▸s)⟩
 have kk:∀{c o},aw X c→h.get? c=some o→h'.get? c=some o:=fun s e=>hk _ _ (ne s).1 (ne s).2 e
 have nsk:∀{c m},aw X c→h.Ns c m→h'.Ns c m:=fun s ⟨o,es,ep,ho,r⟩=>⟨o,es,ep,kk s ho,r⟩
 refine⟨fun c o e=>kk (.inl ⟨o,e⟩) (x.kin c o e),nsk (.inr (.inl rfl)) x.g,nsk (.inr (.inr (.inl rfl))) x.b,?_,?_,x.builtins,?_,?_⟩
 ·obtain⟨mc,q,r⟩:=x.nolimit;exact⟨mc,nsk (.inr (.inr (.inr (.inl rfl)))) q,r⟩
 ·obtain⟨mc,q,r⟩:=x.nodigits;exact⟨mc,nsk (.inr (.inr (.inr (.inl rfl)))) q,r⟩
 ·obtain⟨bm,om,p1,p2,p3,p4⟩:=x.bmain;exact⟨bm,om,p1,p2,kk (.inr (.inr (.inr (.inr (.inl p1))))) p3,p4⟩
 ·intro t ht
  obtain⟨ne1,ps,A,B,D⟩:=x.tabs t ht
  have s1:aw X t.1:= .inr (.inr (.inr (.inr (.inr ⟨t,ht, .inl rfl⟩))))
  have s2:aw X t.2.1:= .inr (.inr (.inr (.inr (.inr ⟨t,ht, .inr rfl⟩))))
  refine⟨ne1,ps,?_,?_,fun pos c' e=>?_⟩
  ·obtain⟨o,vs,file,tf,flags,tg,inF,text,tt,op,ho,hd,h11,h2,h7,h9,h10,hop,r⟩:=A
   exact⟨o,vs,file,tf,flags,tg,inF,text,tt,op,kk s1 ho,hd,h11,h2,h7,h9,h10,kk s2 hop,r⟩
  ·obtain⟨⟨o,vs,ho,r⟩,hP⟩:=B
   exact⟨⟨o,vs,kk s1 ho,r⟩,kk s2 hP⟩
  ·obtain⟨y,o,e1,e2,e3,e4⟩:=D pos c' e
   subst e1
   have na:y≠a:=fun q=>by subst q;rw[hoa] at e2;cases e2;exact ca e3
   have nb:y≠b:=fun q=>by subst q;rw[hob] at e2;cases e2;exact cb e3
   obtain⟨_,o',vs,t',q1,q2,q3,q4⟩:=e4
   cases q1
   exact⟨y,o,rfl,hk _ _ na nb e2,e3,_,o',vs,t',rfl,hk _ _ na nb q2,q3,q4⟩
theorem bA.jU {elts:List PySem.Expr} {k0:Nat} {pt:Pos} {e it a:Addr} {l:List PV} (hei:e≠it) (hae:a≠e) (hai:a≠it):
  bA X n (.Tuple elts k0 pt) e [e,it] (fun G h rest=>∃(i:Nat) (old:Value) (vs:List Value) (o:Obj) (m:Nat),IsEnum h e it i old∧h.IsListIter it a i∧G a=some o∧o.cls= .type "list"∧o.data= .seq (List.toArray vs) m∧aE G l vs∧rest=(dA l).drop i∧Sub G h.get?):=by
 refine⟨?_,?_,?_,?_⟩
 ·(intro G G' h h' rest zz;obtain⟨i,old,vs,o,m,h0,h1,h2,h3,h4,h5,h6,h7⟩:=zz;intro hs hk hw)
  exact⟨i,old,vs,o,m,hk e (by simp) _ h0,h1.at fun o e=>hk it (by simp) o e,hs _ _ h2,h3,h4,aE.mono hs _ _ h5,h6,hw⟩
 ·(intro G h rest zz;obtain⟨i,old,vs,o,m,h0,⟨oi,ho,_,hd⟩,_⟩:=zz;intro b hb)
  simp at hb
  rcases hb with rfl | rfl
  ·exact⟨_,_,h0,rfl⟩
  ·exact⟨oi,_,ho,hd⟩
 ·(intro A s G E rest Q rm b zz;obtain⟨i,old,vs,o,m,he,hit,h2,h3,h4,h5,rfl,_⟩:=zz;intro hg k1 k2)
  have g1:=hg e (by simp)
  have g2:=hg it (by simp)
  obtain⟨oi,hoi,hci,hdi⟩:=id hit
  have hnc:oi.cls≠ .type "code":=by rw[hci];decide
  have hl:s.heap.IsList a (List.toArray vs):=⟨o,b.within _ _ h2,h3,m,h4⟩
  cases ed:(dA l).drop i with
  | nil=>
   have hle:=bX ed
   rw[ic] at hle
   refine wpAny_pyNext_enum_end rm.2.2 he hit hl (by simpa [h5.length] using hle) fun h' hx=>?_
   have:=jF b (tk:=s.toks) hx g2.1 g2.2 hoi hnc
   exact k1 ed _ G ⟨fun c o' hc y=>this.keep c o' (by simp at hc ⊢;exact hc.2) y,this.gnd,this.sub,this.within,this.low,this.os,this.gens,fun c hc e=>e⟩
  | cons p r=>
   obtain⟨e1,e2⟩:=getElem_drop ed
   obtain⟨q,hq,rfl⟩:=kK e1
   obtain⟨v,hv,d⟩:=h5.get hq
   refine wpAny_pyNext_enum_item he hit hl (x:=v) (by simpa using hv) hei fun h' he' hit' ht hz hk=>?_
   refine wpAny_letOwnedTupleGo_enum he' fun h'' he'' hs''=>?_
   have hne:s.heap.objs.size≠e:=fun z=>by unfold IsEnum at he;rw[←z,aq] at he;cases he
   have gn:b5 X h'':=b.gnd.qi (fun c o n1 n2 y=>(hs''.2 c n1).trans (hk c o n1 n2 y)) g1.2 g2.2 he hoi (by show Value.type _≠Value.type _;decide) hnc
   have st:=mq (tk:=s.toks+1) b g1 g2 ht hk hs'' hne gn (by intro c hc q;simp at hc;rcases hc with rfl | rfl;exact hne q.symm;rw[q,aq] at hoi;cases hoi)
   refine k2 _ r ed _ _ _ st ?_ ⟨i+1,v,vs,o,m,by simpa using he'',?_,st.sub _ _ h2,h3,h4,aE.mono st.sub _ _ h5,e2.symm,st.within⟩
   ·exact⟨_,_,[.int i s.toks,v],0,rfl,if_pos rfl,rfl,rfl,aE.cons ⟨_,rfl⟩ (aE.cons (Rd.mono st.sub _ _ d) aE.nil)⟩
   ·obtain⟨o2,ho2,r2⟩:=hit'
    exact⟨o2,(hs''.2 it (Ne.symm hei)).trans ho2,r2⟩
 ·(intro A s G rest Q E zz;obtain⟨i,old,vs,o,m,h1,_⟩:=zz;intro q);exact wpAny_pyIter_enum h1 q
theorem bA.lx {elts:List PySem.Expr} {k0:Nat} {pt:Pos} {e it:Addr} {x:Str} {t:Tok} (hei:e≠it):
  bA X n (.Tuple elts k0 pt) e [e,it] (fun G h rest=>∃(i:Nat) (old:Value),IsEnum h e it i old∧h.IsStrIter it "str_ascii_iterator" x t i∧i≤x.cps.size∧rest=(dA (signsOf x)).drop i):=by
 refine⟨?_,?_,?_,?_⟩
 ·(intro G G' h h' rest zz;obtain⟨i,old,h0,⟨oi,hoi,hri⟩,h5,h6⟩:=zz;intro hs hk hw)
  exact⟨i,old,hk e (by simp) _ h0,⟨oi,hk it (by simp) oi hoi,hri⟩,h5,h6⟩
 ·(intro G h rest zz;obtain⟨i,old,h0,⟨oi,ho,_,hd⟩,_⟩:=zz;intro b hb)
  simp at hb
  rcases hb with rfl | rfl
  ·exact⟨_,_,h0,rfl⟩
  ·exact⟨oi,_,ho,hd⟩
 ·(intro A s G E rest Q rm b zz;obtain⟨i,old,he,hit,hle,rfl⟩:=zz;intro hg k1 k2)
  have g1:=hg e (by simp)
  have g2:=hg it (by simp)
  obtain⟨oi,hoi,hci,hdi⟩:=id hit
  have hnc:oi.cls≠ .type "code":=by rw[hci];decide
  have DD:Draws X.prog X.w A.in1 it [it] x.cps.size _ _:=Draws.strAscii (show A.in1.handled=none from rm.2.2) it x t
  cases ed:(dA (signsOf x)).drop i with
  | nil=>
   have hge:=bX ed
   rw[ic] at hge
   have hge':x.cps.size≤i:=by simpa [signsOf] using hge
   have hi:i=x.cps.size:=Nat.le_antisymm hle hge'
   subst hi
   refine wpAny_pyNext_enum_endD DD he hit fun h' hx=>?_
   have:=jF b (tk:=s.toks) hx g2.1 g2.2 hoi hnc
   exact k1 ed _ G ⟨fun c o' hc y=>this.keep c o' (by simp at hc ⊢;exact hc.2) y,this.gnd,this.sub,this.within,this.low,this.os,this.gens,fun c hc e=>e⟩
  | cons p r=>
   obtain⟨e1,e2⟩:=getElem_drop ed
   obtain⟨q,hq,rfl⟩:=kK e1
   simp only[signsOf,List.getElem?_map,Option.map_eq_some_iff,Array.getElem?_toList] at hq
   obtain⟨c,hc,rfl⟩:=hq
   have hlt:i<x.cps.size:=by
    by_cases z:i<x.cps.size
    ·exact z
    ·rw[Array.getElem?_eq_none (Nat.not_lt.mp z)] at hc;cases hc
   refine wpAny_pyNext_enum_itemD DD he hit hlt hei (by simpa using hei) fun v h' tk hP he' hit' ht hz hk=>?_
   obtain⟨c',u,hc',rfl⟩:=hP
   rw[hc] at hc';cases hc'
   refine wpAny_letOwnedTupleGo_enum he' fun h'' he'' hs''=>?_
   have hne:s.heap.objs.size≠e:=fun z=>by unfold IsEnum at he;rw[←z,aq] at he;cases he
   have gn:b5 X h'':=b.gnd.qi (fun c o n1 n2 y=>(hs''.2 c n1).trans (hk c o n1 n2 y)) g1.2 g2.2 he hoi (by show Value.type _≠Value.type _;decide) hnc
   have st:=mq (tk:=tk+1) b g1 g2 ht hk hs'' hne gn (by intro c hc q;simp at hc;rcases hc with rfl | rfl;exact hne q.symm;rw[q,aq] at hoi;cases hoi)
   refine k2 _ r ed _ _ _ st ?_ ⟨i+1,_,by simpa using he'',?_,hlt,e2.symm⟩
   ·exact⟨_,_,[.int i tk, .str ⟨#[c]⟩ u],0,rfl,if_pos rfl,rfl,rfl,aE.cons ⟨_,rfl⟩ (aE.cons ⟨_,rfl⟩ aE.nil)⟩
   ·obtain⟨o2,ho2,r2⟩:=hit'
    exact⟨o2,(hs''.2 it (Ne.symm hei)).trans ho2,r2⟩
 ·(intro A s G rest Q E zz;obtain⟨i,old,h1,_⟩:=zz;intro q);exact wpAny_pyIter_enum h1 q
theorem dj.jU {elts:List PySem.Expr} {k0:Nat} {pt:Pos} {x:Str} {pf pos:Pos} {e:PySem.Expr} {l:List PV} (hf:aa X n sc ρ (.Name x pf) (.opq (.type "enumerate"))) (he:aj X n sc ρ [e] [.lst l]):dj X n sc ρ (.Call (.Name x pf) [e] [] pos) (.Tuple elts k0 pt) (dA l):=by
 intro A env s G Q E rm ev q
 refine dK hf he rm ev fun vs s1 G1 t1 d1=>?_
 obtain⟨v,_,rfl,⟨a,o,vs,m,rfl,g,c,dd,r⟩,rfl⟩:=d1
 refine call_enumerate_list ⟨o,t1.within _ _ g,c,m,dd⟩ fun h' he' hit' hz hk=>?_
 refine wpAny_pyIter_enum he' ?_
 have st:=t1.base.ext (tk:=s1.toks) hk
 have hlt:a<s1.heap.objs.size:=Heap.lt_size (t1.within _ _ g)
 have f1:s1.heap.get? (s1.heap.objs.size+1)=none:=eP (Nat.le_succ _)
 refine q _ [s1.heap.objs.size+1,s1.heap.objs.size] _ _ G1 (t1.trans st) (fun b hb=>?_) (bA.jU (a:=a) (Nat.succ_ne_self _) (Nat.ne_of_lt (Nat.lt_succ_of_lt hlt)) (Nat.ne_of_lt hlt)) ⟨0,_,vs,o,m,he',hit',g,c,dd,r,rfl,st.within⟩
 simp at hb
 rcases hb with rfl | rfl
 ·exact⟨aB t1 f1,ao t1.within f1⟩
 ·exact⟨aB t1 (aq _),ao t1.within (aq _)⟩
theorem dj.lx {elts:List PySem.Expr} {k0:Nat} {pt:Pos} {x:Str} {pf pos:Pos} {e:PySem.Expr} {y:Str} (hf:aa X n sc ρ (.Name x pf) (.opq (.type "enumerate"))) (he:aj X n sc ρ [e] [.str y]) (ha:y.cps.all (· <128)=true):dj X n sc ρ (.Call (.Name x pf) [e] [] pos) (.Tuple elts k0 pt) (dA (signsOf y)):=by
 intro A env s G Q E rm ev q
 refine dK hf he rm ev fun vs s1 G1 t1 d1=>?_
 obtain⟨v,_,rfl,⟨t,rfl⟩,rfl⟩:=d1
 refine call_enumerate_str fun h' he' hit' hz hk=>?_
 refine wpAny_pyIter_enum he' ?_
 have st:=t1.base.ext (tk:=s1.toks) hk
 have f1:s1.heap.get? (s1.heap.objs.size+1)=none:=eP (Nat.le_succ _)
 have hty:strIterType y="str_ascii_iterator":=by unfold strIterType;rw[ha];rfl
 rw[hty] at hit'
 refine q _ [s1.heap.objs.size+1,s1.heap.objs.size] _ _ G1 (t1.trans st) (fun b hb=>?_) (bA.lx (x:=y) (t:=t) (Nat.succ_ne_self _)) ⟨0,_,he',hit',Nat.zero_le _,rfl⟩
 simp at hb
 rcases hb with rfl | rfl
 ·exact⟨aB t1 f1,ao t1.within f1⟩
 ·exact⟨aB t1 (aq _),ao t1.within (aq _)⟩
end
noncomputable def emitC (elt:PySem.Expr) (gens:List Comprehension) (scope:Scope) (pos:Pos) (d:Nat) (acc:Value) (env:Env) (k:Sem PySem.Fin):Sem PySem.Fin:=match gens[d]? with
 | some g'=>eval g'.iter env>>=fun x=>standAt g'.iter.pos>>=fun _=>foldedSetIterable g'.iter env x>>=fun x=>
  holding [x] (pyIter x)>>=fun it=>runOwn (.compStart (.ListComp elt gens scope pos) d it acc env) env>>=fun _=>k
 | none=>(eval elt env>>=fun x=>call (.builtin "list.append") [acc,x]>>=fun _=>pure ())>>=fun _=>k
theorem jb {elt tgt iter:PySem.Expr} {ifs:List PySem.Expr} {gens:List Comprehension} {scope:Scope} {pos:Pos} {d:Nat} {it acc:Value} {env:Env} (hg:gens[d]?=some ⟨tgt,iter,ifs,0⟩)
  (hg':∀g',gens[d+1]?=some g'→g'.is_async=0):
   compTurn (.ListComp elt gens scope pos) d it acc env=(standAt iter.pos>>=fun _=>pyNext it>>=fun r=>match r with
    | none=>pure (.done .next)
    | some v=>
     letOwnedTupleGo tgt it v>>=fun _=>assign tgt env v>>=fun _=>
     (forIn ifs true fun c r=>if r=true then do let ok ←isTrue c env (eval c env);pure (ForInStep.yield ok) else pure (ForInStep.yield r))>>=fun ok=>
     if ok=true then emitC elt gens scope pos (d+1) acc env (again (.compLoop (.ListComp elt gens scope pos) d it acc env))
     else again (.compLoop (.ListComp elt gens scope pos) d it acc env)):=by
 unfold compTurn emitC
 simp only[hg]
 cases h:gens[d+1]? with
 | none=>rfl
 | some g'=>
   obtain⟨t,i,f,a⟩:=g'
   have:=hg' _ h
   dsimp only at this
   subst this
   rfl
theorem b4 {prog:Program} {w:World} {A:Around} {R:Result→Shared→Prop} {s:Shared} {elt tgt iter:PySem.Expr} {ifs:List PySem.Expr} {gens:List Comprehension} {scope:Scope} {pos:Pos} {d:Nat} {it acc:Value} {env:Env} (hg:gens[d]?=some ⟨tgt,iter,ifs,0⟩)
  (h0:codeAny (model prog w) A (.compLoop (.ListComp elt gens scope pos) d it acc env) R s)
  (h:wpAny (model prog w) A (pyIter it) (fun it' s'=>codeAny (model prog w) A (.compLoop (.ListComp elt gens scope pos) d it' acc env) R s')
   (notedBy (model prog w) A env fun x s'=>R (.error x) s') s):
  codeAny (model prog w) A (.compStart (.ListComp elt gens scope pos) d it acc env) R s:=by
 refine codeAny_of_tree ?_
 show wpAny _ A ((compStart (.ListComp elt gens scope pos) d it acc env).onRaise (fun x=>do noteFrame x env;standAt theWindowsPlace)) _ _ s
 refine wpAny_notedAt ?_
 unfold compStart
 have hc:clausesOf (.ListComp elt gens scope pos)=gens:=rfl
 rw[hc]
 simp only[hg]
 show wpAny _ _ (ask>>=_) _ _ s
 refine yI (wpAny_askSetting (wpAny_ite ?_))
 split
 ·exact yI (yJ (yJ (And.intro rfl h0)))
 ·refine yI (wpAny_rule ?_)
  show wpAny _ _ (standAt iter.pos>>=_) _ _ s
  exact yI (wpAny_standAt (yI (wpAny_mono h (fun it' s' h'=>yJ (And.intro rfl h')) fun _ _ x=>x)))
section
variable {X:Cx} {n:Nat} {sc:Scope} {ρ:az} {ω:aA}
noncomputable def aQ (X:Cx) (n:Nat) (sc:Scope) (inner:az→List PV→Prop) (tgt:PySem.Expr) (ifs:List PySem.Expr) (ρ:az):List PV→List PV→Prop
 | [],out=>out=[]
 | p::l,out=>∃o1 o2,out=o1++o2∧fM X n false sc tgt p ρ [] (fun ρ1 _=>aG ρ ρ1∧((ifs=[]∧inner ρ1 o1)∨(∃c b,ifs=[c]∧bb X n sc ρ1 c b∧(b=true→inner ρ1 o1)∧(b=false→o1=[]))))∧aQ X n sc inner tgt ifs ρ l o2
noncomputable def dI (X:Cx) (n:Nat) (sc:Scope) (elt:PySem.Expr):List Comprehension→az→List PV→Prop
 | [],ρ,out=>∃p,aa X n sc ρ elt p∧out=[p]
 | g::gs,ρ,out=>∃l,g.is_async=0∧dj X n sc ρ g.iter g.target l∧(∀env x,foldedSetIterable g.iter env x=pure x)∧aQ X n sc (dI X n sc elt gs) g.target g.ifs ρ l out
structure bc (X:Cx) (env:Env) (sc:Scope) (acc:Addr) (ρ:az) (done:List PV) (s:Shared) (G:ae):Prop where
 er:bU X env sc ρ s G
 ns:∃m,s.heap.Ns env.locals m
 nsG:G env.locals=none
 nsX:¬aw X env.locals
 list:LstAt G s.heap acc done
 accG:G acc=none
 accX:¬aw X acc
theorem bc.base {env:Env} {acc:Addr} {done:List PV} {s:Shared} {G:ae} (c:bc X env sc acc ρ done s G):Base X s G:=c.er.base
theorem bc.step {env:Env} {acc:Addr} {done:List PV} {s s':Shared} {G G':ae} (c:bc X env sc acc ρ done s G) (t:Step X s G s' G'):bc X env sc acc ρ done s' G':=by
 obtain⟨m,hn⟩:=c.ns
 obtain⟨o,ho,_⟩:=cU hn
 obtain⟨oa,hoa,qa⟩:=LstAt.solid c.list
 exact⟨c.er.step t,⟨m,t.keep.ns hn⟩,t.cg c.nsG ho,c.nsX,c.list.keep t.sub (fun ob e=>bf.get' t.keep e (by rw[hoa] at e;cases e;exact qa.1)),t.cg c.accG hoa,c.accX⟩
theorem bc.km {env:Env} {acc:Addr} {done:List PV} {s s':Shared} {G G':ae} {fp:List Addr} (c:bc X env sc acc ρ done s G) (t:av X fp s G s' G') (hf:cn s.heap fp):bc X env sc acc ρ done s' G':=by
 obtain⟨m,hn⟩:=c.ns
 obtain⟨o,ho,_⟩:=cU hn
 obtain⟨oa,hoa,qa⟩:=LstAt.solid c.list
 exact⟨t.pZ (cn.off hf ⟨m,hn⟩) c.er,⟨m,t.ns (cn.ns hf hn) hn⟩,t.gr c.nsG ho,c.nsX,c.list.keep t.sub (fun ob e=>t.get (cn.solid hf hoa qa) e (by rw[hoa] at e;cases e;exact qa.1)),t.gr c.accG hoa,c.accX⟩
theorem bc.ne {env:Env} {acc:Addr} {done:List PV} {s:Shared} {G:ae} (c:bc X env sc acc ρ done s G):acc≠env.locals:=by
 obtain⟨m,hn⟩:=c.ns
 obtain⟨vs,hl,_⟩:=c.list
 exact nu hl.isList hn
theorem bc.less {env:Env} {acc:Addr} {done:List PV} {s:Shared} {G:ae} {ρ':az} (c:bc X env sc acc ρ done s G) (h:aG ρ' ρ):bc X env sc acc ρ' done s G:=
 ⟨⟨c.er.gnd,c.er.within,c.er.gens,c.er.scope,c.er.kind,c.er.globals,c.er.builtins,c.er.cod,fun x p e=>c.er.vars x p (h x p e)⟩,c.ns,c.nsG,c.nsX,c.list,c.accG,c.accX⟩
theorem bc.assign {env:Env} {acc:Addr} {done:List PV} {s:Shared} {G:ae} {tgt:PySem.Expr} {p:PV} {v:Value} {k:az→aA→Prop} {A:Around} {Q:Unit→Shared→Prop} {E:Value→Shared→Prop} (c:bc X env sc acc ρ done s G)
  (h:fM X n false sc tgt p ρ [] k) (rm:aV A n) (d:Rd G p v)
  (q:∀ρ' ω' s' G',k ρ' ω'→av X [acc,env.locals] s G s' G'→bc X env sc acc ρ' done s' G'→Q () s'):wpAny (model X.prog X.w) A (assign tgt env v) Q E s:=by
 obtain⟨m,hn⟩:=c.ns
 let D:Bd:=⟨fun b=>if b=env.locals then none else s.heap.get? b,G,s.os,false⟩
 have dS:∀{b},b≠env.locals→D.S b=s.heap.get? b:=fun h=>if_neg h
 have r:bC X env sc ρ [] D s G:=by
  refine⟨c.er,⟨fun b o e=>?_,c.er.gnd,Sub.refl _,c.er.within,fun _ _ _ e _=>e,rfl,c.er.gens⟩,fun b q=>?_,⟨if_pos rfl,c.nsG,m,hn⟩,fun w=>(by cases w),fun w=>(by cases w),fun w=>(by cases w),dp.nil,fun _ _ e=>(nomatch e)⟩
  ·have e':(if b=env.locals then none else s.heap.get? b)=some o:=e
   split at e'
   ·cases e'
   ·exact .inl e'
  ·obtain⟨o,e⟩:=c.er.gnd.special q
   exact⟨o,by rw[dS (fun z=>c.nsX (z▸q))];exact e⟩
 refine h A env s G D v Q E rm rfl r d fun ρ' ω' s' G' hk r'=>?_
 obtain⟨oa,hoa,qa⟩:=LstAt.solid c.list
 have t:av X [env.locals] s G s' G':=by
  refine⟨fun b o hb e=>r'.fin.keep b o (by rw[dS (by simpa using hb)];exact e),r'.fin.gnd,r'.fin.sub,r'.fin.within,fun b o o' e h=>?_,r'.fin.os,r'.fin.gens,fun b hb e=>by simp at hb;subst hb;exact r'.loc.2.1⟩
  by_cases hb:b=env.locals
  ·subst hb;rw[r'.loc.2.1] at e;cases e
  ·exact r'.fin.low b o o' e (by rw[dS hb];exact h)
 have hna:acc∉[env.locals]:=by simpa using c.ne
 refine q ρ' ω' s' G' hk (t.mono (fun b hb=>by simp at hb ⊢;exact .inr hb) fun b hb hb'=>?_) ⟨r'.er,r'.loc.2.2,r'.loc.2.1,c.nsX,c.list.keep t.sub (fun ob e=>t.get hna e (by rw[hoa] at e;cases e;exact qa.1)),t.gr c.accG hoa,c.accX⟩
 simp at hb hb'
 rcases hb with rfl | rfl
 ·exact⟨oa,hoa⟩
 ·exact absurd rfl hb'
theorem fJ {prog:Program} {w:World} {A:Around} {E:Value→Shared→Prop} {s:Shared} {l:Addr} {its:Array Value} {x:Value} {Q:Value→Shared→Prop}
  (hl:s.heap.PlainList l its) (hQ:∀h',h'.PlainList l (its.push x)→Heap.SameBut l s.heap h'→Q .none {s with heap:=h'})
  (hsz:its.size≤sizeLine):wpAny (model prog w) A (call (.builtin "list.append") [.ref l,x]) Q E s:=by
 obtain⟨n,ho⟩:=id hl
 refine wpAny_call_entry slot_list_append hl.isList.typeIs entry_list_append ?_ (args_list_append _ _)
 show wpAny _ _ (updateSeq l (·.push x)>>=fun _=>ret .none) _ _ s
 refine yI ?_
 refine wpAny_updateSeq ho rfl (yJ ⟨.none,rfl,hQ _ ⟨n+1,?_⟩ (Heap.SameBut.update ..)⟩)
 rw[←Obj.mapSeq_push_plain]
 exact Heap.get?_update_self _ ho rfl
theorem bc.append {env:Env} {acc:Addr} {done:List PV} {s:Shared} {G:ae} {v:Value} {p:PV} {A:Around} {Q E:Value→Shared→Prop} (c:bc X env sc acc ρ done s G) (d:Rd G p v) (hz:done.length≤10000)
  (q:∀s',av X [acc,env.locals] s G s' G→bc X env sc acc ρ (done++[p]) s' G→Q .none s'):wpAny (model X.prog X.w) A (call (.builtin "list.append") [.ref acc,v]) Q E s:=by
 obtain⟨vs,hl,dd⟩:=c.list
 obtain⟨m,hn⟩:=c.ns
 refine fJ hl (fun h' hl' hs=>?_) (by rw[List.size_toArray,dd.length];exact yN hz (by unfold sizeLine;decide))
 obtain⟨oa,hoa,hca,ka,hda⟩:=hl.isList
 have ne:=c.ne
 have g':=c.er.gnd.sameBut hs c.accX hoa (fun _ h=>by rw[hca] at h;exact absurd h (by decide))
 have t:av X [acc] s G {s with heap:=h'} G:=⟨fun b o hb e=> .inl ((hs.2 b (by simpa using hb)).trans e),g',Sub.refl _,fun b o e=>(hs.2 b (fun z=>by rw[z,c.accG] at e;cases e)).trans (c.er.within b o e),fun _ _ _ e _=>e,rfl,c.er.gens,fun _ _ e=>e⟩
 obtain⟨o,ho,_⟩:=cU hn
 have of:Off env s.heap [acc]:=⟨by simpa using ne.symm,fun c' v' hc'=>by simpa using fun z=>ia hl.isList (z▸hc') rfl⟩
 refine q _ (t.mono (fun b hb=>by simp at hb ⊢;exact .inl hb) fun b hb hb'=>?_) ⟨t.pZ of c.er,⟨m,t.ns of.loc hn⟩,c.nsG,c.nsX,⟨vs++[v],by simpa using hl',aE.append dd (aE.cons d aE.nil)⟩,c.accG,c.accX⟩
 simp at hb hb'
 rcases hb with rfl | rfl
 ·exact absurd rfl hb'
 ·exact⟨o,ho⟩
noncomputable abbrev qN (X:Cx) (n:Nat) (sc:Scope) (A:Around) (elt:PySem.Expr) (gens:List Comprehension) (scope:Scope) (pos:Pos) (env:Env) (acc:Addr) (rest:List Comprehension) (d:Nat):Prop:=
 ∀(ρ:az) (done out:List PV) (s:Shared) (G:ae) (k:Sem PySem.Fin) (Q:PySem.Fin→Shared→Prop) (E:Value→Shared→Prop),dI X n sc elt rest ρ out→(done++out).length≤10000→bc X env sc acc ρ done s G→
  (∀s' G',av X [acc,env.locals] s G s' G'→bc X env sc acc ρ (done++out) s' G'→wpAny (model X.prog X.w) A k Q E s')→wpAny (model X.prog X.w) A (emitC elt gens scope pos d (.ref acc) env k) Q E s
theorem tK {M:Model} {A:Around} {s:Shared} {c:Code} {R:Result→Shared→Prop} (hq:c.quiet=true) (I:Nat→Shared→Prop) (turn:∀n s,I n s→∀Q E,(∀f s',R (.ok f) s'→Q (.done f) s')→(∀m s',m<n→I m s'→Q (.again c) s')→(∀e s',R (.error e) s'→E e s')→wpAny M (A.under c) (M.den c) Q E s) (n:Nat) (h:I n s):codeAny M A c R s:=
 codeAny_loop hq I (fun n s h=>turn n s h _ _ (fun _ _ x=>x) (fun m _ lt i=>⟨rfl,m,lt,i⟩) fun _ _ x=>x) n h
inductive yH (X:Cx) (n:Nat) (sc:Scope) (elt:PySem.Expr) (rest:List Comprehension) (tgt:PySem.Expr) (ifs:List PySem.Expr) (ρ:az) (env:Env) (acc:Addr) (fp:List Addr) (K:ae→Heap→List PV→Prop) (s₀:Shared) (G₀:ae) (all:List PV) (m:Nat) (s:Shared):Prop
 | mk (l done out:List PV) (G:ae) (e:l.length=m) (st:av X (acc::env.locals::fp) s₀ G₀ s G) (h:done++out=all) (cs:bc X env sc acc ρ done s G) (hK:K G s.heap l) (hG:∀b∈fp,G b=none) (ov:aQ X n sc (dI X n sc elt rest) tgt ifs ρ l out)
theorem kL {elt:PySem.Expr} {gens:List Comprehension} {scope:Scope} {pos:Pos} {env:Env} {acc:Addr} {A:Around} (rm:aV A n) {rest:List Comprehension} {d:Nat} (EM:qN X n sc A elt gens scope pos env acc rest (d+1))
  {tgt iter:PySem.Expr} {ifs:List PySem.Expr} (hg:gens[d]?=some ⟨tgt,iter,ifs,0⟩) (hg':∀g',gens[d+1]?=some g'→g'.is_async=0)
  {it:Addr} {fp:List Addr} {K:ae→Heap→List PV→Prop} (T:bA X n tgt it fp K) {Rr:Result→Shared→Prop} {all:List PV} {s₀:Shared} {G₀:ae} (hz:all.length≤10000) (hfp:∀b∈fp,¬aw X b)
  (k:∀s' G',av X (acc::env.locals::fp) s₀ G₀ s' G'→bc X env sc acc ρ all s' G'→Rr (.ok .next) s')
  {l:List PV} {done out:List PV} {s:Shared} {G:ae} (st:av X (acc::env.locals::fp) s₀ G₀ s G) (e:done++out=all) (cs:bc X env sc acc ρ done s G) (hK:K G s.heap l) (hG:∀b∈fp,G b=none) (ov:aQ X n sc (dI X n sc elt rest) tgt ifs ρ l out):
  codeAny (model X.prog X.w) A (.compLoop (.ListComp elt gens scope pos) d (.ref it) (.ref acc) env) Rr s:=by
 refine tK rfl (yH X n sc elt rest tgt ifs ρ env acc fp K s₀ G₀ all) ?_ l.length ⟨l,done,out,G,rfl,st,e,cs,hK,hG,ov⟩
 (intro m s zz;obtain⟨l,done,out,G,rfl,st,e,cs,hK,hG,ov⟩:=zz;rintro Q' E' q1 q2 -)
 show wpAny _ A ((compTurn (.ListComp elt gens scope pos) d (.ref it) (.ref acc) env).onRaise (fun x=>do noteFrame x env;theTreesLotGoes x)) _ _ s
 refine wpAny_noted ?_
 rw[jb hg hg']
 generalize notedBy (model X.prog X.w) A env E'=E2
 have lv:cn s.heap fp:=T.live _ _ _ hK
 have lift:∀{s' G'},av X fp s G s' G'→av X (acc::env.locals::fp) s G s' G':=by
  intro s' G' t
  obtain⟨m,hn⟩:=cs.ns
  obtain⟨o,ho,_⟩:=cU hn
  obtain⟨oa,hoa,_⟩:=LstAt.solid cs.list
  refine t.mono (fun b hb=>by simp[hb]) fun b hb hb'=>?_
  simp at hb
  rcases hb with rfl | rfl | hb
  ·exact⟨oa,hoa⟩
  ·exact⟨o,ho⟩
  ·exact absurd hb hb'
 refine yI (wpAny_standAt (yI (wpAny_mono (T.turn A s G _ l (fun r s1=>match r with
  | none=>Rr (.ok .next) s1
  | some v=>wpAny (model X.prog X.w) A (assign tgt env v>>=fun _=>
    (forIn ifs true fun c r=>if r=true then do let ok ←isTrue c env (eval c env);pure (ForInStep.yield ok) else pure (ForInStep.yield r))>>=fun ok=>
    if ok=true then emitC elt gens scope pos (d+1) (.ref acc) env (again (.compLoop (.ListComp elt gens scope pos) d (.ref it) (.ref acc) env))
    else again (.compLoop (.ListComp elt gens scope pos) d (.ref it) (.ref acc) env))
    Q' E2 s1)
  rm cs.base hK (fun b hb=>⟨hG b hb,hfp b hb⟩) ?_ ?_) (fun r s1 h=>?_) fun _ _ e=>e)))
 ·rintro rfl s' G' t
  have:out=[]:=ov
  subst this
  rw[List.append_nil] at e
  subst e
  exact k s' G' (st.trans (lift t)) (cs.km t lv)
 ·rintro p l' rfl v s1 G1 t1 d1 hK1
  obtain⟨o1,o2,rfl,ha,ov'⟩:=ov
  have cs1:=cs.km t1 lv
  have lv1:cn s1.heap fp:=T.live _ _ _ hK1
  refine yI (cs1.assign ha rm d1 fun ρ1 ω1 s2 G2 hk t2 cs2=>?_)
  obtain⟨hle,hts⟩:=hk
  have fin:∀s' G',av X [acc,env.locals] s1 G1 s' G'→bc X env sc acc ρ1 (done++o1) s' G'→wpAny (model X.prog X.w) A (again (.compLoop (.ListComp elt gens scope pos) d (.ref it) (.ref acc) env))
    Q' E2 s':=by
   intro s' G' t cs'
   have out1:∀b∈fp,b∉[acc,env.locals]:=by
    intro b hb hb'
    obtain⟨m,hn⟩:=cs1.ns
    obtain⟨vs,hl,_⟩:=cs1.list
    simp at hb'
    rcases hb' with rfl | rfl
    ·exact cn.list lv1 hl.isList hb
    ·exact cn.ns lv1 hn hb
   have lift2:av X (acc::env.locals::fp) s1 G1 s' G':=t.mono (fun b hb=>by simp at hb ⊢;rcases hb with rfl | rfl<;>simp) fun b hb hb'=>by
    simp at hb hb'
    rcases hb with rfl | rfl | hb
    ·exact absurd rfl hb'.1
    ·exact absurd rfl hb'.2
    ·obtain⟨o,_,ho,_⟩:=lv1 b hb;exact⟨o,ho⟩
   refine yJ (q2 l'.length _ (Nat.lt_succ_self _) ⟨l',done++o1,o2,G',rfl,(st.trans (lift t1)).trans lift2,by rw[←e,List.append_assoc],cs'.less hle,T.stable _ _ _ _ _ hK1 t.sub (fun b hb o ho=>?_) t.within,fun b hb=>?_,ov'⟩)
   ·rcases t.keep b o (out1 b hb) ho with y | ⟨tt,ht,q,_⟩
    ·exact y
    ·exact absurd (.inr (.inr (.inr (.inr (.inr ⟨tt,ht, .inr q⟩))))) (hfp b hb)
   ·obtain⟨o,_,ho,_⟩:=lv b hb
    obtain⟨o',_,ho',_⟩:=lv1 b hb
    exact t.gr (t1.gr (hG b hb) ho) ho'
  have hz1:(done++o1).length≤10000:=by rw[←e] at hz;simp at hz ⊢;lia
  rcases hts with⟨rfl,hi⟩ | ⟨c,b,rfl,hc,hT,hF⟩
  ·refine yI (wpAny_tests_nil ?_)
   rw[if_pos rfl]
   exact EM ρ1 done o1 s2 G2 _ _ _ hi hz1 cs2 fun s' G' t cs'=>fin s' G' (t2.trans t) cs'
  ·refine yI (wpAny_tests_one (hc A env s2 G2 _ _ rm cs2.er fun s3 G3 t3=>?_))
   have cs3:=cs2.step t3
   have t23:av X [acc,env.locals] s1 G1 s3 G3:=t2.trans (.dh t3 _ fun b hb=>by
    obtain⟨m,hn⟩:=cs2.ns
    obtain⟨o,ho,_⟩:=cU hn
    obtain⟨oa,hoa,_⟩:=LstAt.solid cs2.list
    simp at hb
    rcases hb with rfl | rfl
    ·exact⟨oa,hoa⟩
    ·exact⟨o,ho⟩)
   cases b with
   | true=>
    rw[if_pos rfl]
    exact EM ρ1 done o1 s3 G3 _ _ _ (hT rfl) hz1 cs3 fun s' G' t cs'=>fin s' G' (t23.trans t) cs'
   | false=>
    rw[if_neg (by decide)]
    have:=hF rfl
    subst this
    exact fin s3 G3 t23 (by rw[List.append_nil];exact cs3)
 ·cases r with
  | none=>exact yJ (q1 _ _ h)
  | some v=>exact yI (wpAny_mono h (fun _ _ q=>q) fun _ _ q=>q)
theorem vn {elt:PySem.Expr} {gens:List Comprehension} {scope:Scope} {pos:Pos} {env:Env} {acc:Addr} {A:Around} (rm:aV A n) (has:∀g∈gens,g.is_async=0):
  ∀(rest:List Comprehension) (d:Nat),gens.drop d=rest→qN X n sc A elt gens scope pos env acc rest d:=by
 intro rest
 induction rest with
 | nil=>
  intro d hd ρ done out s G k Q E hi hz cs q
  obtain⟨p,he,rfl⟩:=hi
  have hg:gens[d]?=none:=by rw[List.getElem?_eq_none];simpa using hd
  unfold emitC
  rw[hg]
  refine yI (yI (he A env s G _ E rm cs.er fun v s1 G1 t1 d1=>yI ((cs.step t1).append d1 (by simp at hz;omega) fun s2 t2 cs2=>yJ (q s2 G1 ?_ cs2))))
  refine av.trans (.dh t1 _ fun b hb=>?_) t2
  obtain⟨m,hn⟩:=cs.ns
  obtain⟨o,ho,_⟩:=cU hn
  obtain⟨oa,hoa,_⟩:=LstAt.solid cs.list
  simp at hb
  rcases hb with rfl | rfl
  ·exact⟨oa,hoa⟩
  ·exact⟨o,ho⟩
 | cons g gs ih=>
  obtain⟨tgt,iter,ifs,a⟩:=g
  intro d hd ρ done out s G k Q E hi hz cs q
  have hg:gens[d]?=some ⟨tgt,iter,ifs,a⟩:=by
   have:(gens.drop d)[0]?=some ⟨tgt,iter,ifs,a⟩:=by rw[hd];rfl
   rw[List.getElem?_drop] at this;simpa using this
  obtain⟨l,ha,hit,hfs,ov⟩:=hi
  dsimp only at ha hit hfs ov
  subst ha
  have hd':gens.drop (d+1)=gs:=by
   have:gens.drop (d+1)=(gens.drop d).drop 1:=by rw[List.drop_drop]
   rw[this,hd];rfl
  have hg':∀g',gens[d+1]?=some g'→g'.is_async=0:=fun g' e=>has g' (List.mem_of_getElem? e)
  unfold emitC
  rw[hg]
  refine yI (wpAny_mono (hit A env s G (fun itv s1=>codeAny (model X.prog X.w) A (.compStart (.ListComp elt gens scope pos) d itv (.ref acc) env) (fun r s'=>match r with | .ok f=>wpAny (model X.prog X.w) A k Q E s' | .error e=>cameBackBy (model X.prog X.w) A env E e s') s1) E rm cs.er ?_) (fun x s1 h=>?_) fun _ _ e=>e)
  ·intro it fp K s1 G1 t1 f T hK
   have cs1:=cs.step t1
   have lv1:cn s1.heap fp:=T.live _ _ _ hK
   have hfpX:∀b∈fp,¬aw X b:=fun b hb q=>by obtain⟨o,e⟩:=cs.er.gnd.special q;rw[(f b hb).1] at e;cases e
   have go:codeAny (model X.prog X.w) A (.compLoop (.ListComp elt gens scope pos) d (.ref it) (.ref acc) env) (fun r s'=>match r with | .ok f=>wpAny (model X.prog X.w) A k Q E s' | .error e=>cameBackBy (model X.prog X.w) A env E e s') s1:=by
    refine kL (ρ:=ρ) (all:=done++out) (s₀:=s1) (G₀:=G1) rm (ih (d+1) hd') hg hg' T hz hfpX (fun s' G' t cs'=>?_) (l:=l) (done:=done) (out:=out) (G:=G1) ?_ rfl cs1 hK (fun b hb=>(f b hb).2) ov
    ·have there:∀b∈[acc,env.locals],∃o,s.heap.get? b=some o:=by
      intro b hb
      obtain⟨m,hn⟩:=cs.ns
      obtain⟨o,ho,_⟩:=cU hn
      obtain⟨oa,hoa,_⟩:=LstAt.solid cs.list
      simp at hb
      rcases hb with rfl | rfl
      ·exact⟨oa,hoa⟩
      ·exact⟨o,ho⟩
     have t01:av X (acc::env.locals::fp) s G s1 G1:=by
      have a:=av.dh t1 [acc,env.locals] there
      exact⟨fun b o hb e=>a.keep b o (fun q=>hb (by simp at q ⊢;rcases q with rfl | rfl<;>simp)) e,a.gnd,a.sub,a.within,a.low,a.os,a.gens,fun b hb e=>by
       simp at hb
       rcases hb with rfl | rfl | hb
       ·exact a.off _ (by simp) e
       ·exact a.off _ (by simp) e
       ·exact(f b hb).2⟩
     refine q s' G' ((t01.trans t).drop (fun b hb=>?_) fun b hb=>?_) cs'
     ·simp at hb
      rcases hb with rfl | rfl | hb
      ·simp
      ·simp
      ·exact .inr (f b hb).1
     ·simp at hb ⊢;rcases hb with rfl | rfl<;>simp
    ·exact .dh (cs1.base.refl) _ fun b hb=>by
      obtain⟨m,hn⟩:=cs1.ns
      obtain⟨o,ho,_⟩:=cU hn
      obtain⟨oa,hoa,_⟩:=LstAt.solid cs1.list
      simp at hb
      rcases hb with rfl | rfl | hb
      ·exact⟨oa,hoa⟩
      ·exact⟨o,ho⟩
      ·obtain⟨o,_,ho,_⟩:=lv1 b hb;exact⟨o,ho⟩
   exact b4 hg go (T.self A s1 G1 l _ _ hK go)
  ·refine yI (wpAny_standAt ?_)
   refine yI (wpAny_of_eq (hfs env x) ?_)
   refine yI (wpAny_holding (wpAny_mono h (fun itv s2 h2=>?_) fun _ _ e=>e))
   exact yI (wpAny_runOwn (codeAny_mono h2 fun r s' hr=>hr))
end
theorem gM (env:Env):∀(names:List (Str×NameKind)) (cs:List (Str×Addr)),(∀q∈names,q.2= .free→∃c,env.cells.lookup q.1=some c)→(∀x c,cs.lookup x=some c→env.cells.lookup x=some c)→
  ∃cl,(forIn names cs (fun(q:Str×NameKind) (r:List (Str×Addr))=>(if (q.2==NameKind.free)=true then (cellOf env q.1>>=fun c=>pure (ForInStep.yield ((q.1,c)::r))) else pure (ForInStep.yield r):Sem (ForInStep (List (Str×Addr))))))=(pure cl:Sem (List (Str×Addr)))∧
   (∀x c,cl.lookup x=some c→env.cells.lookup x=some c)∧(∀x,(cs.lookup x).isSome=true→(cl.lookup x).isSome=true)∧(∀q∈names,q.2= .free→(cl.lookup q.1).isSome=true)
 | [],cs,_,h2=>⟨cs,rfl,h2,fun _ e=>e,fun _ h=>(nomatch h)⟩
 | (n,k)::r,cs,h1,h2=>by
  by_cases hk:k= .free
  ·subst hk
   obtain⟨c,hc⟩:=h1 (n, .free) List.mem_cons_self rfl
   obtain⟨cl,e,a,b,d⟩:=gM env r ((n,c)::cs) (fun q hq=>h1 q (yL _ hq)) (fun x c' e=>by
    rw[List.lookup_cons] at e
    cases hb:x==n with
    | true=>rw[hb] at e;cases e;rw[beq_iff_eq.mp hb];exact hc
    | false=>rw[hb] at e;exact h2 x c' e)
   have up:∀x,(cs.lookup x).isSome=true→(((n,c)::cs).lookup x).isSome=true:=fun x q=>by
    rw[List.lookup_cons]
    cases x==n with
    | true=>rfl
    | false=>exact q
   refine⟨cl,?_,a,fun x q=>b x (up x q),fun q hq hf=>?_⟩
   ·rw[←e]
    unfold cellOf
    rw[List.forIn_cons]
    simp only[hc]
    rfl
   ·rcases List.mem_cons.mp hq with rfl | hq
    ·exact b _ (by rw[List.lookup_cons,beq_self_eq_true];rfl)
    ·exact d q hq hf
  ·obtain⟨cl,e,a,b,d⟩:=gM env r cs (fun q hq=>h1 q (yL _ hq)) h2
   have hk':(k==NameKind.free)=false:=by simpa using hk
   refine⟨cl,?_,a,b,fun q hq hf=>?_⟩
   ·rw[←e,List.forIn_cons]
    simp only[hk']
    rfl
   ·rcases List.mem_cons.mp hq with rfl | hq
    ·exact absurd hf hk
    ·exact d q hq hf
theorem ey {scope:Scope} {env:Env} (h:∀q∈scope.names,q.2= .free→∃c,env.cells.lookup q.1=some c):
  ∃cl,closureFor scope env=pure cl∧∀q∈scope.names,q.2= .free→cl.lookup q.1=env.cells.lookup q.1:=by
 obtain⟨cl,e,a,_,d⟩:=gM env scope.names [] h (fun _ _ e=>(nomatch e))
 refine⟨cl,?_,fun q hq hf=>?_⟩
 ·unfold closureFor
  show(forIn scope.names ([]:List (Str×Addr)) (fun(q:Str×NameKind) (r:List (Str×Addr))=>(if (q.2==NameKind.free)=true then (cellOf env q.1>>=fun c=>pure (ForInStep.yield ((q.1,c)::r))) else pure (ForInStep.yield r):Sem (ForInStep (List (Str×Addr))))))>>=pure=_
  rw[e];rfl
 ·obtain⟨c,hc⟩:=Option.isSome_iff_exists.mp (d q hq hf)
  rw[hc,a _ _ hc]
noncomputable def aX (scope sc:Scope):Scope:=
 {scope with names:=scope.names.map fun(n,k)=>if (k== .free&&sc.kind== .function&&sc.names.lookup n==some .cell) then (n, .cell) else (n,k)}
noncomputable def dz (scope:Scope) (ρ:az):az:=(scope.names.filter fun q=>q.2== .free).map fun q=>(q.1,(ρ.lookup q.1).join)
theorem fh {f:Str→NameKind→NameKind}:∀{names:List (Str×NameKind)} {x:Str},(names.map fun q=>(q.1,f q.1 q.2)).lookup x=(names.lookup x).map (f x)
 | [],_=>rfl
 | (n,k)::r,x=>by
  simp only[List.map_cons,List.lookup_cons]
  cases hb:x==n with
  | true=>simp[beq_iff_eq.mp hb]
  | false=>exact fh
theorem jk (scope sc:Scope) (x:Str):(aX scope sc).names.lookup x=(scope.names.lookup x).map fun k=>if (k== .free&&sc.kind== .function&&sc.names.lookup x==some .cell)=true then .cell else k:=by
 show(scope.names.map _).lookup x=_
 have:(scope.names.map fun(q:Str×NameKind)=>match q with | (n,k)=>if (k== .free&&sc.kind== .function&&sc.names.lookup n==some .cell)=true then (n,NameKind.cell) else (n,k))=scope.names.map fun q=>(q.1,(fun x k=>if (k== .free&&sc.kind== .function&&sc.names.lookup x==some .cell)=true then NameKind.cell else k) q.1 q.2):=by
  refine List.map_congr_left fun q _=>?_
  obtain⟨n,k⟩:=q
  show(if _ then _ else _)=(n,if _ then _ else _)
  split<;>rfl
 rw[this]
 exact fh (f:=fun x k=>if (k== .free&&sc.kind== .function&&sc.names.lookup x==some .cell)=true then NameKind.cell else k)
theorem e9 {scope:Scope} {ρ:az} {x:Str} {p:PV} (h:(dz scope ρ).lookup x=some (some p)):(x,NameKind.free)∈scope.names∧ρ.lookup x=some (some p):=by
 unfold dz at h
 revert h
 generalize scope.names=l
 induction l with
 | nil=>intro h;cases h
 | cons q r ih=>
  obtain⟨n,k⟩:=q
  intro h
  cases hk:(k==NameKind.free) with
  | false=>
   rw[List.filter_cons_of_neg (by simp[hk])] at h
   exact⟨yL _ (ih h).1,(ih h).2⟩
  | true=>
   rw[List.filter_cons_of_pos (by simpa using hk),List.map_cons,List.lookup_cons] at h
   cases hb:x==n with
   | true=>
    rw[hb] at h
    have:=beq_iff_eq.mp hb
    subst this
    have hk':k= .free:=by simpa using hk
    subst hk'
    refine⟨List.mem_cons_self,?_⟩
    simp only[Option.some.injEq] at h
    cases e:ρ.lookup x with
    | none=>rw[e] at h;cases h
    | some z=>rw[e] at h;rw[←h];rfl
   | false=>
    rw[hb] at h
    exact⟨yL _ (ih h).1,(ih h).2⟩
section
variable {X:Cx} {n:Nat} {sc:Scope} {ρ:az} {ω:aA}
structure aH (X:Cx) (sc scope:Scope) (ρ:az):Prop where
 aW:X.codeOf (aX scope sc)=none
 kind:scope.kind= .function
 nocell:∀q∈scope.names,q.2≠ .cell
 same:∀q∈scope.names,q.2= .local∨q.2= .free→scope.names.lookup q.1=some q.2
 free:∀q∈scope.names,q.2= .free→((ρ.lookup q.1).join).isSome=true∧(sc.names.lookup q.1=some .cell∨sc.names.lookup q.1=some .free)
theorem mu {elt:PySem.Expr} {g:Comprehension} {gs:List Comprehension} {scope:Scope} {pos:Pos} {l out:List PV} (hi:dj X n sc ρ g.iter g.target l) (hz:out.length≤10000) (hc:aH X sc scope ρ) (has:∀g'∈g::gs,g'.is_async=0)
  (ov:aQ X n (aX scope sc) (dI X n (aX scope sc) elt gs) g.target g.ifs (dz scope ρ) l out)
  {A:Around} {env:Env} {s:Shared} {G:ae} (rm:aV A n) (ev:bU X env sc ρ s G) {E:Value→Shared→Prop} {RR:Value→Addr→Result→Shared→Prop}
  {cl:List (Str×Addr)} (hcl:∀q∈scope.names,q.2= .free→cl.lookup q.1=env.cells.lookup q.1)
  (k:∀acc C s' G',Step X s G s' G'→s.heap.get? acc=none→s.heap.get? C=none→acc≠C→G' acc=none→G' C=none→LstAt G' s'.heap acc out→(∃m,s'.heap.Ns C m)→RR (.ref acc) C (.ok .next) s'):
  wpAny (model X.prog X.w) A (eval g.iter env) (fun x s₁=>wpAny (model X.prog X.w) A (pyIter x) (fun it s₂=>wpAny (model X.prog X.w) A (newList []) (fun acc s₃=>
   wpAny (model X.prog X.w) A (newFunctionEnv scope env.globals cl [] env.qual none .none (some env)) (fun cenv s₄=>
    codeAny (model X.prog X.w) A (.compStart (.ListComp elt (g::gs) scope pos) 0 it acc {cenv with scope:=relabel scope env}) (RR acc cenv.locals) s₄) E s₃) E s₂) E s₁) E s:=by
 refine hi A env s G _ E rm ev fun it fp K s2 G2 t2 f T hK=>?_
 refine wpAny_newObj_type (wpAny_newFunctionEnv hc.nocell (by intro y hy;simp at hy) (fun h₁ hns₁ hsb₁=>?_) hc.kind)
 dsimp only at hns₁ hsb₁ ⊢
 generalize hH2:s2.heap.push {cls:= .type "list",dict:=none,data:= .seq ([]:List Value).toArray}=H2 at hns₁ hsb₁ ⊢
 have hC:H2.objs.size=s2.heap.objs.size+1:=by rw[←hH2,Heap.size_push]
 have old:∀b o,s2.heap.get? b=some o→h₁.get? b=some o:=fun b o e=>hsb₁.extBut b o (by rw[hC];exact Nat.ne_of_lt (Nat.lt_succ_of_lt (Heap.lt_size e))) (Heap.get?_push_of_some _ (hH2▸Heap.get?_push_of_some _ e))
 have st:=t2.base.ext (h':=h₁) (tk:=s2.toks+([]:List (Str×Value)).length) old
 have hrel:relabel scope env=aX scope sc:=by unfold relabel aX Env.kindOf;rw[ev.scope]
 have fA:s2.heap.get? s2.heap.objs.size=none:=aq _
 have fC:s2.heap.get? H2.objs.size=none:=eP (by rw[hC];exact Nat.le_succ _)
 have hAC:s2.heap.objs.size≠H2.objs.size:=by rw[hC];exact Nat.ne_of_lt (Nat.lt_succ_self _)
 have hcn:∀{q},q∈scope.names→q.2= .free→∃p,ρ.lookup q.1=some (some p):=by
  intro q hq hf
  have:=(hc.free q hq hf).1
  obtain⟨p,hp⟩:=Option.isSome_iff_exists.mp this
  cases e:ρ.lookup q.1 with
  | none=>rw[e] at hp;cases hp
  | some z=>rw[e] at hp;exact⟨p,by rw[←hp];rfl⟩
 have cs:bc X (compEnvC scope cl H2.objs.size env) (aX scope sc) s2.heap.objs.size (dz scope ρ) [] {s2 with heap:=h₁,toks:=s2.toks+([]:List (Str×Value)).length} G2:=by
  refine⟨⟨st.gnd,st.within,st.gens,hrel,hc.kind,ev.globals,ev.builtins,(fun v q e=>by rw[hc.aW] at e;cases e),fun x p e=>?_⟩,⟨_,hns₁⟩,ao t2.within fC,fun q=>(by obtain⟨o,e⟩:=t2.gnd.special q;rw[show(compEnvC scope cl H2.objs.size env).locals=H2.objs.size from rfl,fC] at e;cases e),⟨[],?_,aE.nil⟩,ao t2.within fA,fun q=>(by obtain⟨o,e⟩:=t2.gnd.special q;rw[fA] at e;cases e)⟩
  ·obtain⟨hm,hl⟩:=e9 e
   obtain⟨v,a,b⟩:=ev.vars x p hl
   refine⟨v,?_,Rd.mono (t2.trans st).sub _ _ b⟩
   have hlk:scope.names.lookup x=some .free:=hc.same (x, .free) hm (.inr rfl)
   have hkind':(compEnvC scope cl H2.objs.size env).kindOf x=some (if sc.names.lookup x=some .cell then .cell else .free):=by
    unfold Env.kindOf
    rw[show(compEnvC scope cl H2.objs.size env).scope=aX scope sc from hrel,jk,hlk]
    have:sc.kind= .function:=ev.kind
    rw[this]
    by_cases q:sc.names.lookup x=some .cell
    ·rw[q];rfl
    ·rw[if_neg q]
     simp only[Option.map_some,Option.some.injEq]
     rw[if_neg]
     simpa using q
   have keep:cz X s.heap h₁:=(t2.trans st).keep
   rcases a.cases with⟨hk,_⟩ | ⟨c,h1,h2,h3⟩
   ·rw[bh ev.scope] at hk
    rcases(hc.free (x, .free) hm rfl).2 with q | q<;>(dsimp only at q;rw[hk] at q;cases q)
   ·have hcl':(compEnvC scope cl H2.objs.size env).cells.lookup x=some c:=(hcl (x, .free) hm rfl).trans h1
    rcases h3 with h3 | ⟨h3,hz⟩
    ·rw[bh ev.scope] at h3
     rw[if_pos h3] at hkind'
     exact .cell hkind' hcl' (keep.cell h2)
    ·rw[bh ev.scope] at h3
     rw[if_neg (by rw[h3];decide)] at hkind'
     exact .free hkind' hz hcl' (keep.cell h2)
  ·exact⟨0,hsb₁.extBut _ _ hAC (Heap.get?_push_of_some _ (hH2▸Heap.get?_push_size _ rfl))⟩
 have hKs:K G2 h₁ l:=T.stable _ _ _ _ _ hK (Sub.refl _) (fun b _ o e=>old b o e) st.within
 have hfpX:∀b∈fp,¬aw X b:=fun b hb q=>by obtain⟨o,e⟩:=ev.gnd.special q;rw[(f b hb).1] at e;cases e
 obtain⟨tgt,iter,ifs,a⟩:=g
 have ha:a=0:=has _ List.mem_cons_self
 subst ha
 have go:codeAny (model X.prog X.w) A (.compLoop (.ListComp elt (⟨tgt,iter,ifs,0⟩::gs) scope pos) 0 (.ref it) (.ref s2.heap.objs.size) (compEnvC scope cl H2.objs.size env)) (RR (.ref s2.heap.objs.size) H2.objs.size) {s2 with heap:=h₁,toks:=s2.toks+([]:List (Str×Value)).length}:=by
  refine kL (ρ:=dz scope ρ) (all:=out) (s₀:={s2 with heap:=h₁,toks:=s2.toks+([]:List (Str×Value)).length}) (G₀:=G2) rm (vn rm has gs 1 rfl) rfl (fun g' e=>has g' (List.mem_of_getElem? e)) T hz hfpX (fun s' G' t cs'=>?_) (l:=l) (done:=[]) (out:=out) (G:=G2) (.dh st.base.refl _ fun b hb=>?_) rfl cs hKs (fun b hb=>(f b hb).2) ov
  ·have t':av X [] {s2 with heap:=h₁,toks:=s2.toks+([]:List (Str×Value)).length} G2 s' G'→True:=fun _=>trivial
   have tt:Step X s G s' G':=by
    have t0:=t2.trans st
    refine⟨fun b o e=>?_,t.gnd,t0.sub.trans t.sub,t.within,fun b o o' e h=>?_,t.os.trans t0.os,t.gens⟩
    ·have nb:b∉s2.heap.objs.size::(compEnvC scope cl H2.objs.size env).locals::fp:=fun hb=>by
      simp only[List.mem_cons] at hb
      obtain⟨o2,h2⟩:=bf.there t2.keep e
      rcases hb with rfl | rfl | hb
      ·rw[fA] at h2;cases h2
      ·rw[show(compEnvC scope cl H2.objs.size env).locals=H2.objs.size from rfl,fC] at h2;cases h2
      ·rw[(f b hb).1] at e;cases e
     rcases t0.keep b o e with x | ⟨t4,ht,q,vs,more,r,g⟩
     ·exact t.keep b o nb x
     ·rcases t.keep b _ nb g with x | ⟨t',ht',q',vs',more',r',g'⟩
      ·exact .inr ⟨t4,ht,q,vs,more,r,x⟩
      ·have:vs++more=vs':=by
        have:=congrArg Obj.data r'
        simpa [lJ] using this
       exact .inr ⟨t4,ht,q,vs,more++more',r,by rw[g',←this,Array.append_assoc]⟩
    ·obtain⟨o2,h2⟩:=bf.there t0.keep h
     exact t0.low b o o' (t.low b o o2 e h2) h
   exact k _ _ s' G' tt (aB t2 fA) (aB t2 fC) hAC cs'.accG cs'.nsG cs'.list cs'.ns
  ·simp only[List.mem_cons] at hb
   rcases hb with rfl | rfl | hb
   ·obtain⟨o,ho,_⟩:=LstAt.solid cs.list;exact⟨o,ho⟩
   ·obtain⟨_,hn⟩:=cs.ns;obtain⟨o,ho,_⟩:=cU hn;exact⟨o,ho⟩
   ·obtain⟨o,_,ho,_⟩:=T.live _ _ _ hKs b hb;exact⟨o,ho⟩
 exact b4 rfl go (T.self A _ G2 l _ _ hKs go)
theorem aH.closure {scope:Scope} (hc:aH X sc scope ρ) {env:Env} {s:Shared} {G:ae} (ev:bU X env sc ρ s G):∃cl,closureFor scope env=pure cl∧∀q∈scope.names,q.2= .free→cl.lookup q.1=env.cells.lookup q.1:=by
 refine ey fun q hq hf=>?_
 obtain⟨h1,h2⟩:=hc.free q hq hf
 obtain⟨p,hp⟩:=Option.isSome_iff_exists.mp h1
 have hl:ρ.lookup q.1=some (some p):=by
  cases e:ρ.lookup q.1 with
  | none=>rw[e] at hp;cases hp
  | some z=>rw[e] at hp;rw[←hp];rfl
 obtain⟨v,a,_⟩:=ev.vars q.1 p hl
 rcases a.cases with⟨hk,_⟩ | ⟨c,h,_⟩
 ·rw[bh ev.scope] at hk
  rcases h2 with h2 | h2<;>rw[hk] at h2<;>cases h2
 ·exact⟨c,h⟩
theorem bH.comp {elt:PySem.Expr} {g:Comprehension} {gs:List Comprehension} {scope:Scope} {pos:Pos} {l out:List PV} (hi:dj X n sc ρ g.iter g.target l)
  (ov:aQ X n (aX scope sc) (dI X n (aX scope sc) elt gs) g.target g.ifs (dz scope ρ) l out) (hz:out.length≤10000) (hc:aH X sc scope ρ) (has:∀g'∈g::gs,g'.is_async=0)
  (hs:∀env x,foldedSetIterable g.iter env x=pure x:=by intro _ _;rfl):
  bH X n sc ρ (.ListComp elt (g::gs) scope pos) out:=by
 intro A env s G Q E rm ev q
 obtain⟨cl,h1,h2⟩:=hc.closure ev
 rw[eval_ListComp]
 have ha:firstAsync (g::gs)=false:=by
  obtain⟨t,i,f,a⟩:=g
  have:=has _ List.mem_cons_self
  dsimp only at this;subst this;rfl
 have hf:firstIter (g::gs) env=eval g.iter env:=by obtain⟨t,i,f,a⟩:=g;rfl
 rw[ha,hf]
 refine wpAny_comprehension_free (use:=none) (g:=g) (gs:=gs) rfl (hs env) h1 hc.kind (fun x hx hl=>(hc.same x hx (.inl hl)).trans (by rw[hl])) ?_
 refine mu hi hz hc has ov rm ev (RR:=fun acc C=>compPost (model X.prog X.w) A E none Q acc C) h2 fun acc C s' G' t hA hC hne gA gC hl hn=>?_
 obtain⟨m,hn⟩:=hn
 refine⟨m,hn,fun h' hs'=>?_⟩
 obtain⟨vs,hl,dd⟩:=hl
 obtain⟨oC,hoC,qC⟩:=Ns.solid hn
 have g':=t.gnd.sameBut hs' (fun z=>by obtain⟨o,e⟩:=ev.gnd.special z;rw[hC] at e;cases e) hoC (fun vs _ h=>qC.1 vs h)
 have neC:∀{b o},s.heap.get? b=some o→b≠C:=fun e z=>by rw[z,hC] at e;cases e
 have t':Step X s G {s' with heap:=h'} G':=by
  refine⟨fun b o e=>?_,g',t.sub,fun b o e=>(hs'.2 b (fun z=>by rw[z,gC] at e;cases e)).trans (t.within b o e),t.low,t.os,t.gens⟩
  rcases t.keep b o e with x | ⟨tt,ht,z,vs,more,r,y⟩
  ·exact .inl ((hs'.2 b (neC e)).trans x)
  ·exact .inr ⟨tt,ht,z,vs,more,r,(hs'.2 b (neC e)).trans y⟩
 exact q acc vs _ G' t' hA gA (hl.at fun o e=>(hs'.2 _ hne).trans e) dd
theorem aF.tB {P:a6} {R:PV→aA→Prop} {x:Str} {px:Pos} {elt:PySem.Expr} {g:Comprehension} {gs:List Comprehension} {scope:Scope} {pos pos':Pos} {l out:List PV} (hi:dj X n sc ρ g.iter g.target l)
  (ov:aQ X n (aX scope sc) (dI X n (aX scope sc) elt gs) g.target g.ifs (dz scope ρ) l out) (hz:out.length≤10000) (hc:aH X sc scope ρ) (has:∀g'∈g::gs,g'.is_async=0)
  (hx:sc.names.lookup x=some .local) (k:∀a,P .next ((x,none)::ρ) ((x,some (.lst a out))::ω))
  (hsw:∀env,env.scope=sc→swapsWith (.ListComp elt (g::gs) scope pos) (some (.Name x px)) pos'.line env=pure true)
  (hs:∀env x,foldedSetIterable g.iter env x=pure x:=by intro _ _;rfl):
  aF X n sc ρ ω (.Assign [.Name x px] (.ListComp elt (g::gs) scope pos) pos') P R:=by
 intro A env s G D Q E rm wr r k1 k2
 obtain⟨cl,h1,h2⟩:=hc.closure r.er
 show wpAny _ A (exec (.Assign [.Name x px] (.ListComp elt (g::gs) scope pos) pos') env) Q E s
 rw[exec_Assign_Name_used _ _ _ _ (hsw env r.er.scope)]
 refine yI (wpAny_standAt (yI ?_))
 have ha:firstAsync (g::gs)=false:=by
  obtain⟨t,i,f,a⟩:=g
  have:=has _ List.mem_cons_self
  dsimp only at this;subst this;rfl
 have hf:firstIter (g::gs) env=eval g.iter env:=by obtain⟨t,i,f,a⟩:=g;rfl
 show wpAny _ A (do let _ ←comprehension (.ListComp elt (g::gs) scope pos) scope env _ (newList []) (firstAsync (g::gs)) (firstIter (g::gs) env) (some (PySem.assign (.Name x px) env))) _ _ s
 rw[ha,hf]
 refine yI (wpAny_mono (wpAny_comprehension_free (use:=some (PySem.assign (.Name x px) env)) (g:=g) (gs:=gs) (Q:=fun _ s'=>Q .next s') rfl (hs env) h1 hc.kind (fun x hx hl=>(hc.same x hx (.inl hl)).trans (by rw[hl])) ?_) (fun _ s' hq=>yJ (yJ hq)) fun _ _ e=>e)
 refine mu hi hz hc has ov rm r.er (RR:=fun acc C=>compPost (model X.prog X.w) A E (some (PySem.assign (.Name x px) env)) (fun _ s'=>Q .next s') acc C) h2 fun acc C s' G' t hA hC hne gA gC hl hn=>?_
 obtain⟨m,hn⟩:=hn
 have r':=r.step t
 show wpAny _ A (PySem.assign (.Name x px) env (.ref acc)) _ _ _
 refine wpAny_assign_Name (r'.storeAt (.inl hx) fun h₂ tk S=>?_)
 have lone:=dZ r t (o:= .lst acc out) (fun b hb=>by simp[Own.fp] at hb;subst hb;exact hA) (fun b hb=>by simp[Own.fp] at hb;subst hb;exact gA) hl
 have r2:=S.owned r' lone
 have hLC:env.locals≠C:=fun z=>by
  obtain⟨_,_,m,hm⟩:=r.loc
  obtain⟨o,ho,_⟩:=cU hm
  rw[z,hC] at ho;cases ho
 obtain⟨oC,hoC,qC⟩:=Ns.solid hn
 have hoC2:h₂.get? C=some oC:=S.solid C oC hoC qC (Ne.symm hLC)
 obtain⟨o',es,ep,e1,e2⟩:=id hn
 rw[hoC] at e1;cases e1
 refine⟨m,⟨oC,es,ep,hoC2,e2⟩,fun h₃ hs₃=>?_⟩
 refine k1 .next _ _ _ G' (k acc) ?_
 have offC:∀{b o},s.heap.get? b=some o→b≠C:=fun e z=>by rw[z,hC] at e;cases e
 have hDC:D.S C=none:=by
  cases q:D.S C with
  | none=>rfl
  | some o=>obtain⟨o',h'⟩:=bf.there r.fin.keep q;rw[hC] at h';cases h'
 have nsC:¬aw X C:=fun z=>by obtain⟨o,e⟩:=r.er.gnd.special z;rw[hC] at e;cases e
 have f3:=r2.fin.change (h':=h₃) (tk:=tk) hs₃ hDC gC hoC2 (fun vs _ h=>qC.1 vs h) nsC
 have cellNe:∀{c v},h₂.IsCell c v→c≠C:=fun {c v} hc z=>by
  subst z
  obtain⟨o,ho,hd⟩:=hc
  rw[hoC2] at ho;cases ho
  exact qC.2.1 _ hd
 have varK:∀{y v},a0 env h₂ y v→a0 env h₃ y v:=fun {y v} a=>by
  rcases a.cases with⟨hk,m',hn1,hv⟩ | ⟨c,q1,q2,q3⟩
  ·exact .local hk (hn1.sameBut hs₃ hLC) hv
  ·rcases q3 with q3 | ⟨q3,hz⟩
   ·exact .cell q3 q1 (q2.sameBut hs₃ (cellNe q2))
   ·exact .free q3 hz q1 (q2.sameBut hs₃ (cellNe q2))
 have fpNe:∀y o,((x,some (Own.lst acc out))::ω).lookup y=some (some o)→C∉o.fp:=fun y o e hb=>by
  by_cases hy:y=x
  ·subst hy
   rw[aM] at e;cases e
   simp[Own.fp] at hb;exact hne hb.symm
  ·rw[aN hy] at e
   obtain⟨ob,e',_⟩:=(r.held.at_ y o e).solid C hb
   rw[hC] at e';cases e'
 refine⟨⟨f3.gnd,f3.within,f3.gens,r2.er.scope,r2.er.kind,r2.er.globals,r2.er.builtins,r2.er.cod,fun y p e=>?_⟩,f3,r2.spec,⟨r2.loc.1,r2.loc.2.1,?_⟩,fun w y c q1 q2=>?_,r2.celIs,r2.apart,⟨fun y o e=>?_,r2.held.off,r2.held.apart⟩,fun y o e=>⟨varK (r2.own y o e).1,(r2.own y o e).2⟩⟩
 ·obtain⟨v,a,b⟩:=r2.er.vars y p e
  exact⟨v,varK a,b⟩
 ·obtain⟨m',hm⟩:=r2.loc.2.2
  exact⟨m',hm.sameBut hs₃ hLC⟩
 ·obtain⟨a,b,v,d⟩:=r2.cel w y c q1 q2
  exact⟨a,b,v,d.sameBut hs₃ (cellNe d)⟩
 ·exact(r2.held.at_ y o e).keep (Sub.refl _) fun b hb ob e'=>(hs₃.2 b (fun z=>fpNe y o e (z▸hb))).trans e'
end
noncomputable abbrev tx (l:List Nat):Str:=⟨⟨l⟩⟩
noncomputable abbrev PV.txt (l:List Nat):PV:= .str (tx l)
theorem dn (a b:List Nat):tx a++tx b=tx (a++b):=by
 show(⟨(⟨a⟩:Array Nat)++⟨b⟩⟩:Str)=_
 congr 1
 apply Array.ext'
 simp
theorem a9 (a:List Nat):(tx a).length=a.length:=rfl
noncomputable def bo {α:Type} (l:List α) (i:Int):Option α:=(seqIndex? i l.length).bind (l[·]?)
noncomputable def bk (n:Nat) (v:Option Int) (d:Nat):Nat:=match v with | none=>d | some i=>(max 0 (min (if i<0 then i+n else i) n)).toNat
noncomputable def fV {α:Type} (l:List α) (lo hi:Option Int):List α:=(l.drop (bk l.length lo 0)).take (bk l.length hi l.length - bk l.length lo 0)
theorem dQ (n:Nat) (v:Option Int) (d:Nat):(match v with | none=>(d:Int) | some i=>max 0 (min (if i<0 then i+n else i) (n:Int)))=(bk n v d:Int):=by
 cases v with
 | none=>rfl
 | some i=>simp only[bk];omega
theorem gq (l:List Value) (lo hi:Option Int):slicePick l.toArray lo hi none=(fV l lo hi).toArray:=by
 have hb:sliceBounds lo hi none l.toArray.size=((bk l.length lo 0:Int),(bk l.length hi l.length:Int),1):=by
  unfold sliceBounds
  simp only[Option.getD_none,show(1:Int)>0 by decide,if_true,List.size_toArray]
  refine Prod.ext ?_ (Prod.ext ?_ rfl)
  ·exact dQ l.length lo 0
  ·exact dQ l.length hi l.length
 unfold slicePick
 rw[hb]
 dsimp only
 rw[sliceRange_one]
 have:=pick_run l.toArray (bk l.length lo 0) (bk l.length hi l.length - bk l.length lo 0)
 rw[this];rfl
theorem qp (n:Nat) (lo hi:Option Int):Builtin.Str.strSliceIndices lo hi 1 n=(List.range (bk n hi n - bk n lo 0)).map (bk n lo 0+ ·):=by
 rw[←sliceRange_one]
 unfold Builtin.Str.strSliceIndices
 simp only[show(1:Int)>0 by decide,if_true]
 congr 1
 ·exact dQ n lo 0
 ·exact dQ n hi n
theorem lA (l:List Nat) (lo hi:Option Int):((Builtin.Str.strSliceIndices lo hi 1 (tx l).length).filterMap ((tx l).cps[·]?))=fV l lo hi:=by
 rw[qp,a9]
 have:=pick_run (tx l).cps (bk l.length lo 0) (bk l.length hi l.length - bk l.length lo 0)
 rw[this];rfl
theorem kg {α:Type} (l:List α) (lo hi:Option Int):(fV l lo hi).length≤l.length:=by
 unfold fV;simp;omega
theorem aE.fV {G:ae} {l:List PV} {vs:List Value} (lo hi:Option Int) (h:aE G l vs):aE G (fV l lo hi) (fV vs lo hi):=by
 unfold Mine.Internal.fV
 rw[h.length]
 exact aE.take _ (aE.drop _ h)
section
variable {X:Cx} {n:Nat} {sc:Scope} {ρ:az} {ω:aA}
noncomputable def aL (X:Cx) (n:Nat) (p q r:PV):Prop:=∀G s o i,Base X s G→Rd G p o→Rd G q i→∃T id,typeLookup (.type T) "__getitem__" =pure (some (.builtin id))∧s.TypeIs o T∧lH X n G s (PySem.getItem o i) r
theorem aa.sub {value slice:PySem.Expr} {pos:Pos} {p q r:PV} (hv:aa X n sc ρ value p) (hs:aa X n sc ρ slice q) (h:aL X n p q r)
  (hsl:∀o i,subscripted slice false o i=operate [o,i] (PySem.getItem o i):=by intro _ _;rfl):aa X n sc ρ (.Subscript value slice pos) r:=by
 intro A env s G Q E rm e k
 refine Subscript_ (hv A env s G _ E rm e fun o s1 G1 t1 d1=>hs A env s1 G1 _ E rm (e.step t1) fun i s2 G2 t2 d2=>?_)
 obtain⟨T,id,h1,h2,h3⟩:=h G2 s2 o i t2.base (Rd.mono t2.sub _ _ d1) d2
 exact tail_any h2 h1 (h3 A _ E rm fun v s3 G3 t3 d3=>k v s3 G3 ((t1.trans t2).trans t3) d3) (hsl o i)
theorem gG {α:Type} {l:List α} {i:Int} {p:α} (h:bo l i=some p):∃j,seqIndex? i l.length=some j∧l[j]?=some p:=by
 unfold bo at h
 cases e:seqIndex? i l.length with
 | none=>rw[e] at h;cases h
 | some j=>rw[e] at h;exact⟨j,rfl,h⟩
theorem cG {i:Int} {n j:Nat} (h:seqIndex? i n=some j):(0≤i∧i.toNat=j∧j<n)∨(i<0∧ -(n:Int)≤i∧(i+n).toNat=j∧j<n):=by
 unfold seqIndex? at h
 by_cases hi:i<0
 ·simp only[hi,if_true] at h
  split at h
  ·rename_i hc
   simp only[Bool.and_eq_true,decide_eq_true_eq] at hc
   cases h
   exact .inr ⟨hi,by lia,rfl,by omega⟩
  ·cases h
 ·simp only[hi,if_false] at h
  split at h
  ·rename_i hc
   simp only[Bool.and_eq_true,decide_eq_true_eq] at hc
   cases h
   exact .inl ⟨by omega,rfl,by omega⟩
  ·cases h
theorem aL.list {l:List PV} {i:Int} {r:PV} (h:bo l i=some r) (hz:l.length<1000000:=by decide):aL X n (.lst l) (.int i) r:=by
 (intro G s _ _ bs zz;obtain⟨a,o,vs,m,rfl,g,c,d,rr⟩:=zz;intro zz;obtain⟨t,rfl⟩:=zz)
 have hl:s.heap.IsList a vs.toArray:=⟨o,bs.within _ _ g,c,m,d⟩
 obtain⟨j,hj,hp⟩:=gG h
 obtain⟨v,hv,dv⟩:=rr.get hp
 refine⟨"list",_,slot_list_getitem.lookup,hl.typeIs, .same bs dv fun A Q E _ q=>?_⟩
 have hlen:=rr.length
 rcases cG hj with⟨h0,hjj,hlt⟩ | ⟨h0,h1,hjj,hlt⟩
 ·exact wpAny_getItem_list hl h0 (by omega) (by rw[hjj];simpa using hv) q
 ·exact wpAny_getItem_list_neg hl h0 (by rw[List.size_toArray,hlen];exact h1) (by lia) (by rw[List.size_toArray,hlen,hjj];simpa using hv) q
theorem aL.tup {l:List PV} {i:Int} {r:PV} (h:bo l i=some r) (hz:l.length<1000000:=by decide):aL X n (.tup l) (.int i) r:=by
 (intro G s _ _ bs zz;obtain⟨a,o,vs,m,rfl,g,c,d,rr⟩:=zz;intro zz;obtain⟨t,rfl⟩:=zz)
 have hl:IsTup s.heap a vs.toArray:=⟨o,bs.within _ _ g,c,m,d⟩
 obtain⟨j,hj,hp⟩:=gG h
 obtain⟨v,hv,dv⟩:=rr.get hp
 have hlen:=rr.length
 refine⟨"tuple",_,slot_tuple_getitem.lookup,hl.typeIs, .same bs dv fun A Q E _ q=>getItem_tuple hl ?_ ?_ (by simpa [hlen] using hj) (by simpa using hv) q⟩
 ·rcases cG hj with⟨h0,hjj,hlt⟩ | ⟨h0,h1,hjj,hlt⟩<;>lia
 ·rcases cG hj with⟨h0,hjj,hlt⟩ | ⟨h0,h1,hjj,hlt⟩<;>omega
theorem aL.str {l:List Nat} {i:Int} {c:Nat} (h:bo l i=some c) (hz:l.length<1000000:=by decide):aL X n (.txt l) (.int i) (.txt [c]):=by
 (intro G s _ _ bs zz;obtain⟨t,rfl⟩:=zz;intro zz;obtain⟨u,rfl⟩:=zz)
 obtain⟨j,hj,hp⟩:=gG h
 refine⟨"str",_,PySem.F.slot_str_getitem.lookup,typeIs_str _ _ _, .toks bs ⟨_,rfl⟩ fun A Q E _ q=>PySem.P.getItem_str ?_ ?_ q⟩
 ·rcases cG hj with⟨h0,hjj,hlt⟩ | ⟨h0,h1,hjj,hlt⟩<;>simp<;>omega
 ·rw[a9,hj];simpa using hp
noncomputable def aP (X:Cx) (n:Nat) (sc:Scope) (ρ:az):Option PySem.Expr→Option Int→Prop
 | none,k=>k=none
 | some e,k=>∃i,k=some i∧aa X n sc ρ e (.int i)
theorem aP.none:aP X n sc ρ none none:=rfl
theorem aP.some {e:PySem.Expr} {i:Int} (h:aa X n sc ρ e (.int i)):aP X n sc ρ (some e) (some i):=⟨i,rfl,h⟩
theorem aP.go {e:Option PySem.Expr} {k:Option Int} (h:aP X n sc ρ e k) {A:Around} {env:Env} {s:Shared} {G:ae} {Q E:Value→Shared→Prop} (rm:aV A n) (ev:bU X env sc ρ s G)
  (q:∀t s' G',Step X s G s' G'→Q (partValue (k.map fun i=>(i,t))) s'):wpAny (model X.prog X.w) A (evalPart e env) Q E s:=by
 cases e with
 | none=>cases h;exact yJ (q 0 s G ev.base.refl)
 | some e=>
  obtain⟨i,rfl,h⟩:=h
  exact h A env s G Q E rm ev fun v s1 G1 t1 d1=>by obtain⟨t,rfl⟩:=d1;exact q t s1 G1 t1
theorem aa.slice {value:PySem.Expr} {lower upper:Option PySem.Expr} {ps pos:Pos} {p r:PV} {lo hi:Option Int} (hv:aa X n sc ρ value p) (h1:aP X n sc ρ lower lo) (h2:aP X n sc ρ upper hi)
  (h:∀G s o a l u,Base X s G→Rd G p o→s.heap.IsSlice a (lo.map fun i=>(i,l)) (hi.map fun i=>(i,u)) none→∃T id,typeLookup (.type T) "__getitem__" =pure (some (.builtin id))∧s.TypeIs o T∧lH X n G s (PySem.getItem o (.ref a)) r):
  aa X n sc ρ (.Subscript value (.Slice lower upper none ps) pos) r:=by
 intro A env s G Q E rm e k
 refine Subscript_ (hv A env s G _ E rm e fun o s1 G1 t1 d1=>wpAny_Slice (h1.go rm (e.step t1) fun l s2 G2 t2=>h2.go rm ((e.step t1).step t2) fun u s3 G3 t3=>?_))
 rw[evalPart_none]
 refine yJ ?_
 have t4:=t3.base.fresh {cls:= .type "slice",data:= .fields #[partValue (lo.map fun i=>(i,l)),partValue (hi.map fun i=>(i,u)), .none]}
 have all:=((t1.trans t2).trans t3).trans t4
 obtain⟨T,id,q1,q2,q3⟩:=h G3 _ o s3.heap.objs.size l u t4.base (Rd.mono (t2.trans t3).sub _ _ d1) ⟨_,Heap.get?_push_size _ rfl,rfl,rfl⟩
 exact tail_any q2 q1 (q3 A _ E rm fun v s5 G5 t5 d5=>k v s5 G5 (all.trans t5) d5) rfl
theorem jG (v:Option Int) (t:Tok):IsPart (partValue (v.map fun i=>(i,t))) v:=by cases v with | none=>exact .none | some i=>exact .int i t
theorem bH.bG {value:PySem.Expr} {lower upper:Option PySem.Expr} {ps pos:Pos} {l:List PV} {lo hi:Option Int} (hv:aa X n sc ρ value (.lst l)) (h1:aP X n sc ρ lower lo) (h2:aP X n sc ρ upper hi) (hz:l.length≤100000):
  bH X n sc ρ (.Subscript value (.Slice lower upper none ps) pos) (fV l lo hi):=by
 intro A env s G Q E rm e k
 refine Subscript_ (hv A env s G _ E rm e fun o s1 G1 t1 d1=>wpAny_Slice (h1.go rm (e.step t1) fun tl s2 G2 t2=>h2.go rm ((e.step t1).step t2) fun tu s3 G3 t3=>?_))
 rw[evalPart_none]
 refine yJ ?_
 have t4:=t3.base.fresh {cls:= .type "slice",data:= .fields #[partValue (lo.map fun i=>(i,tl)),partValue (hi.map fun i=>(i,tu)), .none]}
 have all:=((t1.trans t2).trans t3).trans t4
 obtain⟨a,o,vs,m,rfl,g,c,d,rr⟩:=Rd.mono (t2.trans t3).sub _ _ d1
 have hl:(s3.heap.push {cls:= .type "slice",data:= .fields #[partValue (lo.map fun i=>(i,tl)),partValue (hi.map fun i=>(i,tu)), .none]}).IsList a vs.toArray:=⟨o,t4.base.within _ _ g,c,m,d⟩
 refine tail_any hl.typeIs slot_list_getitem.lookup (wpAny_getItem_list_slice hl (Heap.IsSliceOf.new ..) (jG lo tl) (jG hi tu) .none (by simp) ?_ (by rw[List.size_toArray,rr.length];exact yN hz (by unfold sizeLine;decide))) rfl
 rw[gq]
 have t5:=t4.base.fresh {cls:= .type "list",data:= .seq (fV vs lo hi).toArray}
 refine k _ (fV vs lo hi) _ G3 (all.trans t5) (aB all (aq _)) (ao t4.base.within (aq _)) ⟨0,Heap.get?_push_size _ rfl⟩ (aE.fV lo hi rr)
theorem aa.cD {value:PySem.Expr} {lower upper:Option PySem.Expr} {ps pos:Pos} {l:List Nat} {lo hi:Option Int} (hv:aa X n sc ρ value (.txt l)) (h1:aP X n sc ρ lower lo) (h2:aP X n sc ρ upper hi) (hz:l.length≤100000):
  aa X n sc ρ (.Subscript value (.Slice lower upper none ps) pos) (.txt (fV l lo hi)):=by
 refine aa.slice hv h1 h2 fun G s o a tl tu bs d hs=>?_
 obtain⟨t,rfl⟩:=d
 refine⟨"str",_,PySem.F.slot_str_getitem.lookup,typeIs_str _ _ _,fun A Q E rm q=>wpAny_getItem_str_slice hs rfl ?_⟩
 have hp:slicePicked (tx l) (lo.map fun i=>(i,tl)) (hi.map fun i=>(i,tu)) none=Builtin.Str.strSliceIndices lo hi 1 (tx l).length:=by
  unfold slicePicked
  congr 1
  ·cases lo<;>rfl
  ·cases hi<;>rfl
 unfold sliceMade
 rw[hp]
 have hm:=lA l lo hi
 have hidx:(Builtin.Str.strSliceIndices lo hi 1 (tx l).length).length=bk l.length hi l.length - bk l.length lo 0:=by
  rw[qp,a9];simp
 split
 ·rename_i hc
  simp only[Option.map_none,Option.getD_none,beq_self_eq_true,Bool.true_and,beq_iff_eq] at hc
  rw[hidx,a9] at hc
  have:fV l lo hi=l:=by
   unfold fV
   have h2:bk l.length hi l.length≤l.length:=by
    cases hi with
    | none=>exact Nat.le_refl _
    | some i=>simp only[bk];omega
   rcases Nat.eq_zero_or_pos l.length with hz0 | hz0
   ·rw[List.eq_nil_of_length_eq_zero hz0];simp
   ·have h0:bk l.length lo 0=0:=by omega
    rw[h0]
    have h3:bk l.length hi l.length=l.length:=by omega
    rw[h3];simp
  rw[this] at q
  exact q _ s G bs.refl ⟨t,rfl⟩
 ·rw[hm]
  refine⟨?_,q _ _ G (bs.toks _) ⟨_,rfl⟩⟩
  show(fV l lo hi).toArray.size≤sizeLine
  rw[List.size_toArray]
  exact yN (kg _ _ _) (yN hz (by unfold sizeLine;decide))
theorem aa.bG {value:PySem.Expr} {lower upper:Option PySem.Expr} {ps pos:Pos} {l:List PV} {lo hi:Option Int} (hv:aa X n sc ρ value (.lst l)) (h1:aP X n sc ρ lower lo) (h2:aP X n sc ρ upper hi) (hz:l.length≤100000):
 aa X n sc ρ (.Subscript value (.Slice lower upper none ps) pos) (.lst (fV l lo hi)):=(bH.bG hv h1 h2 hz).frozen
end
mutual
noncomputable def PV.data:PV→PyData
 | .none=> .none
 | .bool b=> .bool b
 | .int i=> .int i
 | .str s=> .str s
 | .tup l=> .tuple (PV.cX l)
 | .lst l=> .list (PV.cX l)
 | .ins _ _ _ _ _=> .none
 | .opq _=> .none
noncomputable def PV.cX:List PV→List PyData
 | []=>[]
 | p::l=>p.data::PV.cX l
end
mutual
noncomputable def PV.ok:PV→Bool
 | .str s=>s.cps.toList.all (· <128)
 | .tup l=>PV.rE l
 | .lst l=>PV.rE l
 | .ins _ _ _ _ _=>false
 | .opq _=>false
 | _=>true
noncomputable def PV.rE:List PV→Bool
 | []=>true
 | p::l=>p.ok&&PV.rE l
end
mutual
theorem Rd.reads {G:ae} {h:Heap} (w:Sub G h.get?):∀(p:PV) (v:Value),p.ok=true→Rd G p v→∃as,Reads h v p.data as
 | .none,_,_,e=>by cases e;exact⟨_, .none⟩
 | .bool b,_,_,e=>by cases e;exact⟨_, .bool b⟩
 | .int i,_,_,⟨t,e⟩=>by cases e;exact⟨_, .int i t⟩
 | .str s,_,_,⟨t,e⟩=>by cases e;exact⟨_, .str s t⟩
 | .tup l,_,f,⟨a,o,vs,n,e,g,c,d,r⟩=>by
  subst e
  obtain⟨as,R⟩:=aE.reads w l vs f r
  exact⟨as, .tuple (w _ _ g) c d (by simpa using R)⟩
 | .lst l,_,f,⟨a,o,vs,n,e,g,c,d,r⟩=>by
  subst e
  obtain⟨as,R⟩:=aE.reads w l vs f r
  exact⟨_, .list (w _ _ g) c d (by simpa using R)⟩
 | .ins _ _ _ _ _,_,f,_=>(Bool.false_ne_true f).elim
 | .opq _,_,f,_=>(Bool.false_ne_true f).elim
theorem aE.reads {G:ae} {h:Heap} (w:Sub G h.get?):∀(l:List PV) (vs:List Value),PV.rE l=true→aE G l vs→∃as,ReadsAll h vs (PV.cX l) as
 | [],_,_,e=>by cases e;exact⟨_, .nil⟩
 | p::l,_,f,⟨v,r,e,x,y⟩=>by
  subst e
  obtain⟨f1,f2⟩:=Bool.and_eq_true_iff.mp (show(p.ok&&PV.rE l)=true from f)
  obtain⟨as,R⟩:=Rd.reads w p v f1 x
  obtain⟨bs,S⟩:=aE.reads w l r f2 y
  exact⟨_, .cons R S⟩
end
mutual
theorem PV.kU:∀p:PV,p.ok=true→p.data.canLay0=true
 | .none,_=>rfl
 | .bool _,_=>rfl
 | .int _,_=>rfl
 | .str s,f=>by
  replace f:s.cps.toList.all (· <128)=true:=f
  show s.cps.all _=true
  rw[←Array.all_toList]
  rw[List.all_eq_true] at f ⊢
  intro c hc
  have:=f c hc
  simp only[decide_eq_true_eq] at this ⊢
  omega
 | .tup l,f=>PV.g0 l f
 | .lst l,f=>PV.g0 l f
 | .ins _ _ _ _ _,f=>(Bool.false_ne_true f).elim
 | .opq _,f=>(Bool.false_ne_true f).elim
theorem PV.g0:∀l:List PV,PV.rE l=true→PyData.canLayAll0 (PV.cX l)=true
 | [],_=>rfl
 | p::l,f=>by
  obtain⟨f1,f2⟩:=Bool.and_eq_true_iff.mp (show(p.ok&&PV.rE l)=true from f)
  show(p.data.canLay0&&PyData.canLayAll0 (PV.cX l))=true
  rw[PV.kU p f1,PV.g0 l f2];rfl
end
noncomputable def PV.eqv (p q:PV):Bool:=PyData.eqv p.data q.data
noncomputable def PV.good (p:PV):Bool:=p.ok&&decide (p.data.depth≤64)
theorem PV.cy {p:PV} (h:p.good=true):SeqAt.shaped p.data=true:=by
 unfold PV.good at h
 obtain⟨a,b⟩:=Bool.and_eq_true_iff.mp h
 unfold SeqAt.shaped
 rw[PV.kU p a,b];rfl
theorem PV.ck {p:PV} (h:p.good=true):p.ok=true:=(Bool.and_eq_true_iff.mp h).1
section
variable {X:Cx} {n:Nat} {sc:Scope} {ρ:az} {ω:aA}
theorem aV.units {A:Around} (r:aV A (n+5)):A.units+64<cLine:=by have:=r.2.1;omega
theorem ay.eq {p q:PV} (hp:p.good=true) (hq:q.good=true):ay X (n+5) .Eq p q (.bool (p.eqv q)):=by
 intro G s a b bs d1 d2
 obtain⟨as,R⟩:=Rd.reads bs.within p a (PV.ck hp) d1
 obtain⟨cs,S⟩:=Rd.reads bs.within q b (PV.ck hq) d2
 exact .same bs rfl fun A Q E rm k=>eq_dataH R S (PV.cy hp) (PV.cy hq) rm.units k
theorem ay.ne {p q:PV} (hp:p.good=true) (hq:q.good=true):ay X (n+5) .NotEq p q (.bool (!p.eqv q)):=by
 intro G s a b bs d1 d2
 obtain⟨as,R⟩:=Rd.reads bs.within p a (PV.ck hp) d1
 obtain⟨cs,S⟩:=Rd.reads bs.within q b (PV.ck hq) d2
 exact .same bs rfl fun A Q E rm k=>ne_dataH R S (PV.cy hp) (PV.cy hq) rm.units k
theorem ay.yC {l:List PV} {q:PV} (hp:(PV.lst l).good=true) (hq:q.good=true):ay X (n+5) .In q (.lst l) (.bool (l.any fun p=>p.eqv q)):=by
 intro G s a b bs d1 d2
 obtain⟨as,R⟩:=Rd.reads bs.within q a (PV.ck hq) d1
 obtain⟨cs,S⟩:=Rd.reads bs.within (.lst l) b (PV.ck hp) d2
 have hl:=PV.ck hp
 replace hl:PV.rE l=true:=hl
 have key:∀l:List PV,(PV.cX l).any (fun y=>PyData.eqv y q.data)=l.any fun p=>p.eqv q:=fun l=>by
  induction l with
  | nil=>rfl
  | cons p l ih=>show(PyData.eqv p.data q.data||(PV.cX l).any _)=_;rw[ih];rfl
 refine .same bs rfl fun A Q E rm k=>SeqAt.in_list_reads S R (PV.g0 l hl) (PV.kU q (PV.ck hq)) ?_ (by rw[key];exact k)
 have:=SeqAt.depth_of_shaped (PV.cy hq)
 have h2:=rm.units
 have h3:min (PyData.depthAll (PV.cX l)) q.data.depth≤q.data.depth:=Nat.min_le_right _ _
 have h4:=rm.2.1
 lia
theorem ay.uY {l:List PV} {q:PV} (hp:(PV.lst l).good=true) (hq:q.good=true):ay X (n+5) .NotIn q (.lst l) (.bool (!l.any fun p=>p.eqv q)):=by
 intro G s a b bs d1 d2
 obtain⟨as,R⟩:=Rd.reads bs.within q a (PV.ck hq) d1
 obtain⟨cs,S⟩:=Rd.reads bs.within (.lst l) b (PV.ck hp) d2
 have hl:=PV.ck hp
 replace hl:PV.rE l=true:=hl
 have key:∀l:List PV,(PV.cX l).any (fun y=>PyData.eqv y q.data)=l.any fun p=>p.eqv q:=fun l=>by
  induction l with
  | nil=>rfl
  | cons p l ih=>show(PyData.eqv p.data q.data||(PV.cX l).any _)=_;rw[ih];rfl
 refine .same bs rfl fun A Q E rm k=>SeqAt.notIn_list_reads S R (PV.g0 l hl) (PV.kU q (PV.ck hq)) ?_ (by rw[key];exact k)
 have:=SeqAt.depth_of_shaped (PV.cy hq)
 have h2:=rm.units
 have h3:min (PyData.depthAll (PV.cX l)) q.data.depth≤q.data.depth:=Nat.min_le_right _ _
 have h4:=rm.2.1
 lia
theorem ay.yB {l m:List Nat}:ay X n .In (.txt m) (.txt l) (.bool (Txt.contains (tx l) (tx m))):=by
 (intro G s _ _ bs zz;obtain⟨t,rfl⟩:=zz;intro zz;obtain⟨u,rfl⟩:=zz)
 exact .same bs rfl fun A Q E rm k=>SB.contains k
theorem ay.uX {l m:List Nat}:ay X n .NotIn (.txt m) (.txt l) (.bool (!Txt.contains (tx l) (tx m))):=by
 (intro G s _ _ bs zz;obtain⟨t,rfl⟩:=zz;intro zz;obtain⟨u,rfl⟩:=zz)
 exact .same bs rfl fun A Q E rm k=>SB.notContains k
theorem ay.xC {l m:List Nat}:ay X n .Eq (.txt l) (.txt m) (.bool (l==m)):=by
 (intro G s _ _ bs zz;obtain⟨t,rfl⟩:=zz;intro zz;obtain⟨u,rfl⟩:=zz)
 exact .same bs rfl fun A Q E rm k=>PySem.P.eq_str k
theorem ay.yz {l m:List Nat}:ay X n .NotEq (.txt l) (.txt m) (.bool (l != m)):=by
 (intro G s _ _ bs zz;obtain⟨t,rfl⟩:=zz;intro zz;obtain⟨u,rfl⟩:=zz)
 exact .same bs rfl fun A Q E rm k=>PySem.P.ne_str k
theorem ay.isTrue {b:Bool}:ay X n .Is (.bool b) (.bool true) (.bool b):=by
 rintro G s _ _ bs rfl rfl
 refine .same bs rfl fun A Q E rm k=>wpAny_is_plain rfl ?_
 cases b<;>exact k
theorem ay.isNone {p:PV} {b:Bool} (h:∀G v,Rd G p v→PySem.plainIs v .none=true∧(v==Value.none)=b):ay X n .Is p .none (.bool b):=by
 rintro G s v _ bs d rfl
 exact .same bs rfl fun A Q E rm k=>wpAny_is_plain (h G v d).1 (by rw[(h G v d).2];exact k)
theorem ay.dm:ay X n .Is .none .none (.bool true):=ay.isNone fun G v d=>by cases d;exact⟨rfl,rfl⟩
theorem ay.sO {a:Addr}:ay X n .Is (.opq (.ref a)) .none (.bool false):=ay.isNone fun G v d=>by cases d;exact⟨rfl,rfl⟩
theorem ay.sP {l:List PV}:ay X n .Is (.lst l) .none (.bool false):=ay.isNone fun G v d=>by obtain⟨a,o,vs,m,rfl,_⟩:=d;exact⟨rfl,rfl⟩
theorem aK.eN {a b:List Nat} (hz:a.length+b.length≤100000):aK X n .Add (.txt a) (.txt b) (.txt (a++b)):=by
 (intro G s _ _ bs zz;obtain⟨t,rfl⟩:=zz;intro zz;obtain⟨u,rfl⟩:=zz)
 intro A Q E rm k
 refine SB.add (fun t' tk=>?_) (by rw[a9,a9];exact yN hz (by unfold sizeLine;decide))
 exact k _ _ G (bs.toks _) ⟨t',by rw[dn]⟩
theorem addLists {G:ae} {s:Shared} {a b:Value} {l m:List PV} (bs:Base X s G) (d1:Rd G (.lst l) a) (d2:Rd G (.lst m) b) (hz:l.length+m.length≤100000) {A:Around} {Q E:Value→Shared→Prop}
  (k:∀c vs s',Step X s G s' G→s.heap.get? c=none→G c=none→s'.heap.PlainList c (List.toArray vs)→aE G (l++m) vs→Q (.ref c) s'):wpAny (model X.prog X.w) A (binaryOp .Add a b) Q E s:=by
 obtain⟨a,⟨cls,dd,data,sl⟩,vs,n1,rfl,g,hc,hd,r⟩:=d1
 obtain⟨b,⟨cls2,dd2,data2,sl2⟩,ws,n2,rfl,g2,hc2,hd2,r2⟩:=d2
 simp only at hc hd hc2 hd2
 subst hc hd hc2 hd2
 have e:vs.toArray++ws.toArray=(vs++ws).toArray:=by simp
 refine concat_meets ⟨_,bs.within _ _ g,rfl⟩ ⟨_,bs.within _ _ g2,rfl⟩ noFill_list_add seq_list_add PySem.F.slot_list_add PySem.F.entry_list_add (PySem.F.args_list_add_2 _ _) (list_addW a b vs.toArray ws.toArray n1 n2 dd dd2 sl sl2 (by simp[r.length,r2.length];exact yN hz (by unfold sizeLine;decide))) ⟨bs.within _ _ g,bs.within _ _ g2,?_⟩
 rw[e]
 exact k _ (vs++ws) _ (bs.fresh _) (aq _) (ao bs.within (aq _)) ⟨0,Heap.get?_push_size _ rfl⟩ (aE.append r r2)
theorem bH.lN {e1 e2:PySem.Expr} {pos:Pos} {l m:List PV} (h1:aa X n sc ρ e1 (.lst l)) (h2:aa X n sc ρ e2 (.lst m)) (hz:l.length+m.length≤100000):bH X n sc ρ (.BinOp e1 .Add e2 pos) (l++m):=by
 intro A env s G Q E rm e k
 refine wpAny_BinOp (h1 A env s G _ E rm e fun v s1 G1 t1 d1=>h2 A env s1 G1 _ E rm (e.step t1) fun u s2 G2 t2 d2=>?_)
 refine addLists t2.base (Rd.mono t2.sub _ _ d1) d2 hz fun c vs s' t hc hG hl r=>?_
 exact k c vs s' G2 ((t1.trans t2).trans t) (aB (t1.trans t2) hc) hG hl r
theorem aa.lN {e1 e2:PySem.Expr} {pos:Pos} {l m:List PV} (h1:aa X n sc ρ e1 (.lst l)) (h2:aa X n sc ρ e2 (.lst m)) (hz:l.length+m.length≤100000):aa X n sc ρ (.BinOp e1 .Add e2 pos) (.lst (l++m)):=(bH.lN h1 h2 hz).frozen
theorem aa.kO {i:Int} {k:Nat} {pos pos':Pos}:aa X n sc ρ (.UnaryOp .USub (.Constant (.int i) k pos) pos') (.int (-i)):=fun A env s G Q E _ e h=>
 UnaryOp_ (wpAny_Constant_int (neg_int (h _ _ _ ((Step.toks _ e.gnd e.within e.gens).trans (Step.toks _ e.gnd e.within e.gens)) ⟨_,rfl⟩)))
theorem aJ.str {l:List Nat} (hz:l.length<1000000):aJ X n (.txt l) (!l.isEmpty):=by
 (intro G s _ A Q E _ bs zz;obtain⟨t,rfl⟩:=zz;intro k)
 refine PySem.P.truthy_str (by rw[a9];lia) ?_
 have:(((tx l).length:Int) != 0)=!l.isEmpty:=by rw[a9];cases l<;>simp;lia
 rw[this]
 exact k _ G (bs.toks _)
inductive gD (X:Cx) (n:Nat) (sc:Scope) (ρ:az):PV→List CmpOp→List PySem.Expr→PV→Prop
 | last {p q t:PV} {op:CmpOp} {r:PySem.Expr}:aa X n sc ρ r q→ay X n op p q t→gD X n sc ρ p [op] [r] t
 | link {p q c t:PV} {op op':CmpOp} {ops:List CmpOp} {r r':PySem.Expr} {rs:List PySem.Expr}:aa X n sc ρ r q→ay X n op p q c→aJ X n c true→gD X n sc ρ q (op'::ops) (r'::rs) t→gD X n sc ρ p (op::op'::ops) (r::r'::rs) t
 | stop {p q c:PV} {op op':CmpOp} {ops:List CmpOp} {r r':PySem.Expr} {rs:List PySem.Expr}:aa X n sc ρ r q→ay X n op p q c→aJ X n c false→gD X n sc ρ p (op::op'::ops) (r::r'::rs) c
theorem gD.go {p t:PV} {ops:List CmpOp} {rs:List PySem.Expr} (h:gD X n sc ρ p ops rs t):∀{A:Around} {env:Env} {s:Shared} {G:ae} {pos:Pos} {a:Value} {Q E:Value→Shared→Prop},aV A n→bU X env sc ρ s G→Rd G p a→
  (∀v s' G',Step X s G s' G'→Rd G' t v→Q v s')→wpAny (model X.prog X.w) A (compareChain pos a ops (evalEach rs env)) Q E s:=by
 induction h with
 | last hr hc=>
  intro A env s G pos a Q E rm e d k
  exact chain_last (hr A env s G _ E rm e fun v s1 G1 t1 d1=>hc G1 s1 a v t1.base (Rd.mono t1.sub _ _ d) d1 A _ E rm fun z s2 G2 t2 d2=>k z s2 G2 (t1.trans t2) d2)
 | link hr hc ht _ ih=>
  intro A env s G pos a Q E rm e d k
  refine chain_link (hr A env s G _ E rm e fun v s1 G1 t1 d1=>hc G1 s1 a v t1.base (Rd.mono t1.sub _ _ d) d1 A _ E rm fun z s2 G2 t2 d2=>ht G2 s2 z A _ E rm t2.base d2 fun s3 G3 t3=>?_)
  rw[if_pos rfl]
  exact ih rm (((e.step t1).step t2).step t3) (Rd.mono (t2.trans t3).sub _ _ d1) fun v' s' G' t' d'=>k v' s' G' (((t1.trans t2).trans t3).trans t') d'
 | stop hr hc ht=>
  intro A env s G pos a Q E rm e d k
  refine chain_link (hr A env s G _ E rm e fun v s1 G1 t1 d1=>hc G1 s1 a v t1.base (Rd.mono t1.sub _ _ d) d1 A _ E rm fun z s2 G2 t2 d2=>ht G2 s2 z A _ E rm t2.base d2 fun s3 G3 t3=>?_)
  rw[if_neg (by decide)]
  exact k z s3 G3 ((t1.trans t2).trans t3) (Rd.mono t3.sub _ _ d2)
theorem aa.chain {l:PySem.Expr} {op₁ op₂:CmpOp} {ops:List CmpOp} {r₁ r₂:PySem.Expr} {rs:List PySem.Expr} {pos:Pos} {p t:PV} (hl:aa X n sc ρ l p) (h:gD X n sc ρ p (op₁::op₂::ops) (r₁::r₂::rs) t)
  (hm:lastMarks (op₁::op₂::ops) (r₁::r₂::rs)=false:=by with_unfolding_all rfl):aa X n sc ρ (.Compare l (op₁::op₂::ops) (r₁::r₂::rs) pos) t:=
 fun A env s G Q E rm e k=>Compare_chain (hl A env s G _ E rm e fun v s1 G1 t1 d1=>h.go rm (e.step t1) d1 fun z s2 G2 t2 d2=>k z s2 G2 (t1.trans t2) d2) hm
inductive gz (X:Cx) (n:Nat) (sc:Scope) (ρ:az):PV→List CmpOp→List PySem.Expr→Bool→Prop
 | last {p q t:PV} {b:Bool} {op:CmpOp} {r:PySem.Expr}:aa X n sc ρ r q→ay X n op p q t→aJ X n t b→gz X n sc ρ p [op] [r] b
 | link {p q c:PV} {b:Bool} {op op':CmpOp} {ops:List CmpOp} {r r':PySem.Expr} {rs:List PySem.Expr}:aa X n sc ρ r q→ay X n op p q c→aJ X n c true→gz X n sc ρ q (op'::ops) (r'::rs) b→gz X n sc ρ p (op::op'::ops) (r::r'::rs) b
 | stop {p q c:PV} {op op':CmpOp} {ops:List CmpOp} {r r':PySem.Expr} {rs:List PySem.Expr}:aa X n sc ρ r q→ay X n op p q c→aJ X n c false→gz X n sc ρ p (op::op'::ops) (r::r'::rs) false
theorem gz.go {p:PV} {ops:List CmpOp} {rs:List PySem.Expr} {b:Bool} (h:gz X n sc ρ p ops rs b):∀{A:Around} {env:Env} {s:Shared} {G:ae} {pos:Pos} {a:Value} {Q:Bool→Shared→Prop} {E:Value→Shared→Prop},aV A n→bU X env sc ρ s G→Rd G p a→
  (∀s' G',Step X s G s' G'→Q b s')→wpAny (model X.prog X.w) A (testChain pos a ops (evalEach rs env)) Q E s:=by
 induction h with
 | last hr hc hb=>
  intro A env s G pos a Q E rm e d k
  exact test_last (hr A env s G _ E rm e fun v s1 G1 t1 d1=>hc G1 s1 a v t1.base (Rd.mono t1.sub _ _ d) d1 A _ E rm fun z s2 G2 t2 d2=>hb G2 s2 z A _ E rm t2.base d2 fun s3 G3 t3=>k s3 G3 ((t1.trans t2).trans t3))
 | link hr hc ht _ ih=>
  intro A env s G pos a Q E rm e d k
  refine test_link (hr A env s G _ E rm e fun v s1 G1 t1 d1=>hc G1 s1 a v t1.base (Rd.mono t1.sub _ _ d) d1 A _ E rm fun z s2 G2 t2 d2=>ht G2 s2 z A _ E rm t2.base d2 fun s3 G3 t3=>?_)
  rw[if_pos rfl]
  exact ih rm (((e.step t1).step t2).step t3) (Rd.mono (t2.trans t3).sub _ _ d1) fun s' G' t'=>k s' G' (((t1.trans t2).trans t3).trans t')
 | stop hr hc ht=>
  intro A env s G pos a Q E rm e d k
  refine test_link (hr A env s G _ E rm e fun v s1 G1 t1 d1=>hc G1 s1 a v t1.base (Rd.mono t1.sub _ _ d) d1 A _ E rm fun z s2 G2 t2 d2=>ht G2 s2 z A _ E rm t2.base d2 fun s3 G3 t3=>?_)
  rw[if_neg (by decide)]
  exact k s3 G3 ((t1.trans t2).trans t3)
theorem bb.chain {l:PySem.Expr} {op₁ op₂:CmpOp} {ops:List CmpOp} {r₁ r₂:PySem.Expr} {rs:List PySem.Expr} {pos:Pos} {p:PV} {b:Bool} (hl:aa X n sc ρ l p) (h:gz X n sc ρ p (op₁::op₂::ops) (r₁::r₂::rs) b)
  (hm:lastMarks (op₁::op₂::ops) (r₁::r₂::rs)=false:=by with_unfolding_all rfl):bb X n sc ρ (.Compare l (op₁::op₂::ops) (r₁::r₂::rs) pos) b:=
 fun A env s G Q E rm e k=>isTrue_chain (hl A env s G _ E rm e fun v s1 G1 t1 d1=>h.go rm (e.step t1) d1 fun s2 G2 t2=>k s2 G2 (t1.trans t2)) hm
theorem bb.qK {l r₁ r₂:PySem.Expr} {op₁ op₂:CmpOp} {pos:Pos} {p q t:PV} {b c:Bool} (hl:aa X n sc ρ l p) (h1:aa X n sc ρ r₁ q) (h2:aa X n sc ρ r₂ t) (c1:ay X n op₁ p q (.bool b)) (c2:ay X n op₂ q t (.bool c))
  (hm:lastMarks [op₁,op₂] [r₁,r₂]=false:=by with_unfolding_all rfl):bb X n sc ρ (.Compare l [op₁,op₂] [r₁,r₂] pos) (b&&c):=by
 cases b with
 | true=>exact bb.chain hl (.link h1 c1 .bool (.last h2 c2 (by simpa using aJ.bool))) hm
 | false=>exact bb.chain hl (.stop h1 c1 .bool) hm
theorem mB {G:ae} {s:Shared} {vs:List Value} {l:List PV} (bs:Base X s G) (d:aE G [.lst l] vs) (hz:l.length<1000000):lH X n G s (call (.builtin "len") vs) (.int l.length):=by
 obtain⟨_,_,rfl,⟨a,o,us,m,rfl,g,c,dd,r⟩,rfl⟩:=d
 intro A Q E rm k
 refine call_len_list ⟨o,bs.within _ _ g,c,m,dd⟩ (by rw[List.size_toArray,r.length];lia) ?_
 rw[List.size_toArray,r.length];exact k _ _ G (bs.toks _) ⟨_,rfl⟩
theorem nk {G:ae} {s:Shared} {vs:List Value} {l:List Nat} (bs:Base X s G) (d:aE G [.txt l] vs) (hz:l.length<1000000):lH X n G s (call (.builtin "len") vs) (.int l.length):=by
 obtain⟨_,_,rfl,⟨t,rfl⟩,rfl⟩:=d
 exact .toks bs ⟨_,rfl⟩ fun A Q E rm k=>PySem.P.len_str (by rw[a9];lia) k
theorem aa.gu {x:Str} {pf pos:Pos} {e:PySem.Expr} {l:List PV} (hf:aa X n sc ρ (.Name x pf) (.opq (.builtin "len"))) (he:aa X n sc ρ e (.lst l)) (hz:l.length<1000000) (hs:∀env,starEach [e] env=(false,eval e env)::starEach [] env:=by intro _;rfl):
 aa X n sc ρ (.Call (.Name x pf) [e] [] pos) (.int l.length):=aa.kr hf (.cons he .nil hs) fun G s vs bs d=>mB bs d hz
theorem aa.oO {x:Str} {pf pos:Pos} {e:PySem.Expr} {l:List Nat} (hf:aa X n sc ρ (.Name x pf) (.opq (.builtin "len"))) (he:aa X n sc ρ e (.txt l)) (hz:l.length<1000000) (hs:∀env,starEach [e] env=(false,eval e env)::starEach [] env:=by intro _;rfl):
 aa X n sc ρ (.Call (.Name x pf) [e] [] pos) (.int l.length):=aa.kr hf (.cons he .nil hs) fun G s vs bs d=>nk bs d hz
theorem aa.wm {o:PySem.Expr} {name:Str} {apos pos:Pos} {p r:PV} (ho:aa X n sc ρ o p) (h:∀G s v (A:Around) (Q E:Value→Shared→Prop),aV A n→Base X s G→Rd G p v→(∀v' s' G',Step X s G s' G'→Rd G' r v'→Q v' s')→MethodOnS X.prog X.w A E name v pos [] Q s)
  (hb:∀env,attributeBase o name env (eval o env)=eval o env:=by intro _;rfl) (hl:(apos.endLine==pos.line)=true:=by rfl):aa X n sc ρ (.Call (.Attribute o name apos) [] [] pos) r:=
 fun A env s G Q E rm e k=>Call_method0 (hb env) hl (ho A env s G _ E rm e fun v s1 G1 t1 d1=>h G1 s1 v A Q E rm t1.base d1 fun v' s' G' t d=>k v' s' G' (t1.trans t) d)
theorem aa.isspace {o:PySem.Expr} {name:Str} {apos pos:Pos} {l:List Nat} (ho:aa X n sc ρ o (.txt l)) (hname:name="isspace":=by rfl) (hb:∀env,attributeBase o name env (eval o env)=eval o env:=by intro _;rfl) (hl:(apos.endLine==pos.line)=true:=by rfl):
  aa X n sc ρ (.Call (.Attribute o name apos) [] [] pos) (.bool (Txt.isspace (tx l))):=by
 subst hname
 exact aa.wm ho (fun G s v A Q E rm bs d k=>by obtain⟨t,rfl⟩:=d;exact SB.isspace (k _ s G bs.refl rfl)) hb hl
theorem aa.qh {o:PySem.Expr} {es:List PySem.Expr} {name:Str} {apos pos:Pos} {p r:PV} {ps:List PV} {T id:String} (ho:aa X n sc ρ o p) (he:aj X n sc ρ es ps) (pa:PlainAttrs T) (sl:Slot T name id) (ty:typeOf (.builtin id)=pure (.type "method_descriptor"))
  (hT:∀G s v,Base X s G→Rd G p v→s.TypeIs v T∧∀a,v= .ref a→∃ob,s.heap.get? a=some ob∧ob.dict=none)
  (h:∀G s v vs,Base X s G→Rd G p v→aE G ps vs→lH X n G s (call (.builtin id) (v::vs)) r)
  (hb:∀env,attributeBase o name env (eval o env)=eval o env:=by intro _;rfl)
  (hfew:∀env,((backTo pos (starEach es env)).all (fun x=>!x.1)&&(backToKw pos (keywordEach [] env)).all (fun x=>x.1.isSome)
   &&decide (es.length+([]:List Keyword).length+(if ([]:List Keyword).isEmpty then 0 else 1)<30))=true:=by intro _;rfl)
  (hl:(apos.endLine==pos.line)=true:=by rfl):aa X n sc ρ (.Call (.Attribute o name apos) es [] pos) r:=by
 intro A env s G Q E rm e k
 refine wpAny_Call_method_lateS (hb env) (hfew env) hl (ho A env s G _ E rm e fun v s1 G1 t1 d1=>⟨T,id,pa,sl,ty,(hT G1 s1 v t1.base d1).1,(hT G1 s1 v t1.base d1).2,?_⟩)
 refine Calls.callWith_builtin (bN he pos env) ?_
 exact aY he rm (e.step t1) fun vs s2 G2 t2 d2=>h G2 s2 v vs t2.base (Rd.mono t2.sub _ _ d1) d2 A Q E rm fun v' s' G' t d=>k v' s' G' ((t1.trans t2).trans t) d
theorem dN {G:ae} {s:Shared} {v:Value} {x:Str} (d:Rd G (.str x) v):s.TypeIs v "str"∧∀a,v= .ref a→∃ob,s.heap.get? a=some ob∧ob.dict=none:=by
 obtain⟨t,rfl⟩:=d
 exact⟨typeIs_str _ _ _,fun a e=>nomatch e⟩
noncomputable def aI (l:List (List Nat)):List PV:=l.map fun x=> .txt x
theorem k8 {G:ae}:∀{l:List (List Nat)} {vs:List Value},aE G (aI l) vs→StrsAre vs (l.map tx)
 | [],_,h=>by cases h;exact .nil
 | x::l,_,⟨v,r,e,⟨t,ev⟩,d⟩=>by subst e ev;exact .cons _ t (k8 d)
theorem m5 (l:List (List Nat)):Txt.join (tx []) (l.map tx)=tx l.flatten:=by
 unfold Txt.join
 rw[StrLaws.glued_eq_join]
 induction l with
 | nil=>rfl
 | cons x l ih=>
  cases l with
  | nil=>simp[PySem.Str.join]
  | cons y l=>
   show tx x++tx []++PySem.Str.join (tx []) ((y::l).map tx)=_
   rw[ih,dn,dn];simp
theorem ie (l:List Nat) (c:Nat):Txt.contains (tx l) (tx [c])=decide (c∈l):=StrLaws.found_one (tx l) c
theorem sm {l:List Nat} {c:Nat} (h:c∈l):Builtin.Str.occurrences (tx l) (tx [c]) 0 (tx l).length 1=[l.idxOf c]:=by
 have at1:∀i,StrLaws.At (tx l) (tx [c]) (tx l).length i↔l[i]?=some c:=fun i=>StrLaws.subAt_one (tx l) c i
 have hle:=StrLaws.occ_length_le (tx l) (tx [c]) 0 (tx l).length 1
 rcases StrLaws.occ_head (tx l) (tx [c]) 1 (Nat.le_refl 1) with⟨h0,hn⟩ | ⟨i,r,e,ha,hn⟩
 ·obtain⟨i,hi,e⟩:=List.getElem_of_mem h
  exact absurd ((at1 i).mpr (by rw[←e];simp)) (hn i)
 ·rw[e] at hle ⊢
  have hr:r=[]:=by cases r with | nil=>rfl | cons _ _=>simp at hle
  subst hr
  have hi:=(at1 i).mp ha
  have hlt:i<l.length:=by
   by_cases q:i<l.length
   ·exact q
   ·rw[List.getElem?_eq_none (Nat.not_lt.mp q)] at hi;cases hi
  have:l.idxOf c=i:=by
   rcases Nat.lt_trichotomy (l.idxOf c) i with q | q | q
   ·exact absurd ((at1 (l.idxOf c)).mpr (by rw[yM (List.idxOf_lt_length_of_mem h)];simp)) (hn _ q)
   ·exact q
   ·have h1:l[i]=c:=by rw[yM hlt] at hi;exact Option.some.inj hi
    have:=List.not_of_lt_findIdx (xs:=l) (p:=(· ==c)) (i:=i) q
    simp[h1] at this
  rw[this]
theorem aa.index {o e1:PySem.Expr} {name:Str} {apos pos:Pos} {l:List Nat} {c:Nat} (ho:aa X n sc ρ o (.txt l)) (he:aa X n sc ρ e1 (.txt [c])) (hc:c∈l) (hname:name="index":=by rfl)
  (hb:∀env,attributeBase o name env (eval o env)=eval o env:=by intro _;rfl) (hs:∀env,starEach [e1] env=(false,eval e1 env)::starEach [] env:=by intro _;rfl)
  (hfew:∀env,((backTo pos (starEach [e1] env)).all (fun x=>!x.1)&&(backToKw pos (keywordEach [] env)).all (fun x=>x.1.isSome)
   &&decide ([e1].length+([]:List Keyword).length+(if ([]:List Keyword).isEmpty then 0 else 1)<30))=true:=by intro _;rfl)
  (hl:(apos.endLine==pos.line)=true:=by rfl):
  aa X n sc ρ (.Call (.Attribute o name apos) [e1] [] pos) (.int (l.idxOf c)):=by
 subst hname
 exact aa.qh ho (.cons he .nil hs) PySem.F.plainAttrs_str PySem.F.slot_str_index PySem.F.type_str_index (fun G s v bs d=>dN d) (fun G s v vs bs d0 d=>by
  obtain⟨t,rfl⟩:=d0
  obtain⟨_,_,rfl,⟨u,rfl⟩,rfl⟩:=d
  exact .toks bs ⟨_,rfl⟩ fun A Q E rm k=>SC.index (sm hc) k) hb hfew hl
theorem nZ {G:ae} {s:Shared} {v:Value} {vs:List Value} {l:List (List Nat)} (bs:Base X s G) (d0:Rd G (.txt []) v) (d:aE G [.lst (aI l)] vs) (hz:(l.map List.length).sum≤100000):lH X n G s (call (.builtin "str.join") (v::vs)) (.txt l.flatten):=by
 obtain⟨t,rfl⟩:=d0
 obtain⟨_,_,rfl,⟨a,o,us,m,rfl,g,c,dd,r⟩,rfl⟩:=d
 intro A Q E rm k
 refine join_list (ys:=l.map tx) ⟨o,bs.within _ _ g,c,m,dd⟩ (by simpa using k8 r) ?_ fun t' tk=>?_
 ·rw[List.map_map,show(fun x=>PySem.Str.length x) ∘ tx=List.length from rfl,a9]
  simp;omega
 ·have:Txt.join (tx []) (l.map tx)=tx l.flatten:=m5 l
  rw[this]
  exact k _ _ G (bs.toks _) ⟨_,rfl⟩
theorem aa.join {o e1:PySem.Expr} {name:Str} {apos pos:Pos} {l:List (List Nat)} (ho:aa X n sc ρ o (.txt [])) (he:aa X n sc ρ e1 (.lst (aI l))) (hz:(l.map List.length).sum≤100000) (hname:name="join":=by rfl)
  (hb:∀env,attributeBase o name env (eval o env)=eval o env:=by intro _;rfl) (hs:∀env,starEach [e1] env=(false,eval e1 env)::starEach [] env:=by intro _;rfl)
  (hfew:∀env,((backTo pos (starEach [e1] env)).all (fun x=>!x.1)&&(backToKw pos (keywordEach [] env)).all (fun x=>x.1.isSome)
   &&decide ([e1].length+([]:List Keyword).length+(if ([]:List Keyword).isEmpty then 0 else 1)<30))=true:=by intro _;rfl)
  (hl:(apos.endLine==pos.line)=true:=by rfl):
  aa X n sc ρ (.Call (.Attribute o name apos) [e1] [] pos) (.txt l.flatten):=by
 subst hname
 exact aa.qh ho (.cons he .nil hs) PySem.F.plainAttrs_str PySem.F.slot_str_join PySem.F.type_str_join (fun G s v bs d=>dN d) (fun G s v vs bs d0 d=>nZ bs d0 d hz) hb hfew hl
end
section
variable {X:Cx} {n:Nat} {sc:Scope} {ρ:az} {ω:aA} {P:a6} {R:PV→aA→Prop}
theorem aG.trans {a b c:az} (h:aG a b) (g:aG b c):aG a c:=fun x p e=>g x p (h x p e)
theorem aG.nil:aG [] ρ:=fun _ _ e=>(nomatch e)
theorem aG.cons {x:Str} {p:PV} {r:az} (h:ρ.lookup x=some (some p)) (g:aG r ρ):aG ((x,some p)::r) ρ:=fun y q e=>by
 by_cases hy:y=x
 ·subst hy;rw[aM] at e;cases e;exact h
 ·rw[aN hy] at e;exact g y q e
theorem aC.refl (ω:aA):aC ω ω:=fun _ _ e=>e
theorem aC.nil:aC [] ω:=fun _ _ e=>(nomatch e)
theorem aC.cons {x:Str} {p:Own} {r:aA} (h:ω.lookup x=some (some p)) (g:aC r ω):aC ((x,some p)::r) ω:=fun y q e=>by
 by_cases hy:y=x
 ·subst hy;rw[aM] at e;cases e;exact h
 ·rw[aN hy] at e;exact g y q e
theorem cI.gX {tree:Env→Sem Flow} {P':a6} (h:cI X n sc ρ ω tree P R) (hp:∀fl ρ' ω',P fl ρ' ω'→P' fl ρ' ω'):cI X n sc ρ ω tree P' R:=h.mono hp fun _ _ e=>e
theorem fM.less {wr:Bool} {tgt:PySem.Expr} {p:PV} {ρ':az} {ω':aA} {k:az→aA→Prop} (h:fM X n wr sc tgt p ρ' ω' k) (a:aG ρ' ρ) (b:aC ω' ω):fM X n wr sc tgt p ρ ω k:=
 fun A env s G D v Q E rm wr r d q=>h A env s G D v Q E rm wr (r.less a b) d q
theorem aU.less {tgt:PySem.Expr} {body orelse:List Stmt} {l:List PV} {ρ':az} {ω':aA} (h:aU X n sc tgt body orelse P R l ρ' ω') (a:aG ρ' ρ) (b:aC ω' ω):aU X n sc tgt body orelse P R l ρ ω:=by
 cases l with
 | nil=>exact cI.less (ρ':=ρ') (ω':=ω') h a b
 | cons p l=>exact fM.less (ρ':=ρ') (ω':=ω') h a b
theorem bC.off {env:Env} {D:Bd} {s:Shared} {G:ae} (r:bC X env sc ρ ω D s G) {x:Str} {o:Own} (hx:ω.lookup x=some (some o)):Off env s.heap o.fp:=
 ⟨(r.own x o hx).2,fun c v hc hb=>by
  obtain⟨ob,e,q⟩:=(r.held.at_ x o hx).solid c hb
  obtain⟨o',e',d⟩:=hc
  rw[e] at e';cases e'
  exact q.2.1 _ d⟩
theorem bC.alter {env:Env} {D:Bd} {s s':Shared} {G G':ae} (r:bC X env sc ρ ω D s G) {x:Str} {o o':Own} (hx:ω.lookup x=some (some o)) (t:av X o.fp s G s' G') (h':o'.At G' s'.heap) (ha:o'.addr=o.addr) (hf:o'.fp=o.fp):
  bC X env sc ρ ((x,some o')::ω) D s' G':=by
 have l:=r.off hx
 have offS:∀b∈o.fp,D.S b=none:=fun b hb=>(r.held.off x o hx b hb).1
 have noS:∀{b ob},D.S b=some ob→b∉o.fp:=fun e hb=>by rw[offS _ hb] at e;cases e
 have cs:∀{y o1},((x,some o')::ω).lookup y=some (some o1)→(y=x∧o1=o')∨(y≠x∧ω.lookup y=some (some o1)):=by
  intro y o1 e
  by_cases hy:y=x
  ·subst hy;rw[aM] at e;cases e;exact .inl ⟨rfl,rfl⟩
  ·rw[aN hy] at e;exact .inr ⟨hy,e⟩
 have ap:∀{y o1},y≠x→ω.lookup y=some (some o1)→∀b∈o1.fp,b∉o.fp:=fun hy e=>r.held.apart _ _ _ _ e hx hy
 refine⟨t.pZ l r.er,⟨?_,t.gnd,r.fin.sub.trans t.sub,t.within,fun b ob ob' e h=>?_,t.os.trans r.fin.os,t.gens⟩,r.spec,?_,fun w y c h1 h2=>?_,r.celIs,r.apart,⟨fun y o1 e=>?_,fun y o1 e b hb=>?_,fun y z o1 o2 e e' hne=>?_⟩,fun y o1 e=>?_⟩
 ·intro b ob e
  have hb:=noS e
  rcases r.fin.keep b ob e with y | ⟨tt,ht,q,vs,more,z,g⟩
  ·exact t.keep b ob hb y
  ·rcases t.keep b _ hb g with y | ⟨tt',ht',q',vs',more',z',g'⟩
   ·exact .inr ⟨tt,ht,q,vs,more,z,y⟩
   ·have:vs++more=vs':=by
     have:=congrArg Obj.data z'
     simpa [lJ] using this
    exact .inr ⟨tt,ht,q,vs,more++more',z,by rw[g',←this,Array.append_assoc]⟩
 ·obtain⟨o1,h1⟩:=bf.there r.fin.keep h
  exact r.fin.low b ob ob' (t.low b ob o1 e h1) h
 ·obtain⟨a,b,m,hn⟩:=r.loc
  obtain⟨ob,ho,_⟩:=cU hn
  exact⟨a,t.gr b ho,m,t.ns l.loc hn⟩
 ·obtain⟨a,b,v,hc⟩:=r.cel w y c h1 h2
  obtain⟨ob,ho,hd⟩:=id hc
  exact⟨a,t.gr b ho,v,t.cell (l.cell c v hc) hc⟩
 ·rcases cs e with⟨rfl,rfl⟩ | ⟨hy,e⟩
  ·exact h'
  ·exact t.at_ (r.held.at_ y o1 e) (ap hy e)
 ·rcases cs e with⟨rfl,rfl⟩ | ⟨hy,e⟩
  ·rw[hf] at hb
   exact⟨offS b hb,t.off b hb (r.held.off _ o hx b hb).2⟩
  ·exact⟨(r.held.off y o1 e b hb).1,t.lK (r.held.at_ y o1 e) (fun b hb=>(r.held.off y o1 e b hb).2) b hb⟩
 ·rcases cs e with⟨h1,h2⟩ | ⟨hy,e1⟩
  ·rcases cs e' with⟨h3,h4⟩ | ⟨hz,e2⟩
   ·exact absurd (h1.trans h3.symm) hne
   ·rw[h2,hf];exact fun b hb hb'=>ap hz e2 b hb' hb
  ·rcases cs e' with⟨h3,h4⟩ | ⟨hz,e2⟩
   ·rw[h4,hf];exact ap hy e1
   ·exact r.held.apart y z o1 o2 e1 e2 hne
 ·rcases cs e with⟨rfl,rfl⟩ | ⟨hy,e⟩
  ·rw[ha,hf];exact⟨t.var l (r.own _ o hx).1,(r.own _ o hx).2⟩
  ·exact⟨t.var l (r.own y o1 e).1,(r.own y o1 e).2⟩
theorem fD {s:Shared} {G:ae} (b:Base X s G) {a:Addr} {h':Heap} {tk:Nat} {its:Array Value} (hl:s.heap.PlainList a its) (hs:Heap.SameBut a s.heap h') (hG:G a=none) (hX:¬aw X a):av X [a] s G {s with heap:=h',toks:=tk} G:=by
 obtain⟨k,ho⟩:=hl
 exact⟨fun c o hc e=> .inl ((hs.2 c (by simpa using hc)).trans e),b.gnd.sameBut hs hX ho (fun _ h=>absurd h (by show Value.type _≠Value.type _;decide)),Sub.refl _,fun c o e=>(hs.2 c (fun z=>by rw[z,hG] at e;cases e)).trans (b.within c o e),fun _ _ _ e _=>e,rfl,b.gens,fun _ _ e=>e⟩
theorem bC.eI {env:Env} {D:Bd} {s:Shared} {G:ae} (r:bC X env sc ρ ω D s G) {x:Str} {o:Own} (hx:ω.lookup x=some (some o)):∀b∈o.fp,G b=none∧¬aw X b:=
 fun b hb=>⟨(r.held.off x o hx b hb).2,dP r (r.held.off x o hx b hb).1⟩
theorem aF.fQ {tgts:List PySem.Expr} {k0:Nat} {pt pos:Pos} {e:PySem.Expr} {p:PV} (h:aa X n sc ρ e p) (ha:fM X n true sc (.Tuple tgts k0 pt) p ρ ω (fun ρ' ω'=>P .next ρ' ω'))
  (hw:∀env,env.scope=sc→swappedStores [.Tuple tgts k0 pt] e env=pure none) (hs:∀env,swapsWithSole [.Tuple tgts k0 pt] e pos.line env=pure false:=by intro _;rfl):aF X n sc ρ ω (.Assign [.Tuple tgts k0 pt] e pos) P R:=
 fun A env s G D Q E rm wr r k1 k2=>PyProof.Rows.Assign_Tuple (h A env s G _ E rm r.er fun v s1 G1 t1 d1=>ha A env s1 G1 D v _ E rm wr (r.step t1) d1 fun ρ' ω' s' G' hp r'=>k1 .next ρ' ω' s' G' hp r') (hs env) (hw env r.er.scope)
theorem aF.rz {x y:Str} {px py:Pos} {k0 k1':Nat} {pt pv pos:Pos} {e f:PySem.Expr} {p q:PV} (h:aa X n sc (cm ω ρ) (.Tuple [e,f] k1' pv) (.tup [p,q])) (hf:(PV.tup [p,q]).flat=true) (hx:sc.names.lookup x=some .local) (hy:sc.names.lookup y=some .local)
  (k:P .next ((x,some p)::(y,some q)::ρ) ((x,none)::(y,none)::ω))
  (hw:∀env,env.scope=sc→swappedStores [.Tuple [.Name x px, .Name y py] k0 pt] (.Tuple [e,f] k1' pv) env=pure (some [x,y])) (hs:∀env,swapsWithSole [.Tuple [.Name x px, .Name y py] k0 pt] (.Tuple [e,f] k1' pv) pos.line env=pure false:=by intro _;rfl):
  aF X n sc ρ ω (.Assign [.Tuple [.Name x px, .Name y py] k0 pt] (.Tuple [e,f] k1' pv) pos) P R:=by
 intro A env s G D Q E rm wr r k1 k2
 refine Assign_Tuple_swapped (names:=[x,y]) (h A env s _ _ E rm r.plus.1 fun v s1 G1 t1 d1=>?_) (hs env) (hw env r.er.scope)
 obtain⟨G2,t2,fl,_⟩:=r.back t1
 have d2:=fl _ _ hf d1
 have r2:=r.step t2
 obtain⟨a,vs,rfl,ht,⟨v1,_,rfl,dv1,v2,_,rfl,dv2,rfl⟩,_⟩:=Rd.tuple t2.within d2
 have hn:[x,y].length=(List.toArray [v1,v2]).size:=rfl
 rw[hn]
 refine unpackItems_tuple rm.2.2 ht fun h' hx'=>?_
 have r3:=r2.step (r2.er.base.ext (tk:=s1.toks) (bY hx'))
 show wpAny _ A (assignInOrder [fun v=>bindName env y v,fun v=>bindName env x v] [v2,v1]) _ _ _
 refine wpAny_assignInOrder_more ?_
 refine bindName_ ?_
 refine r3.storeAt (.inl hy) fun h2 tk S2=>?_
 have r4:=S2.pure r3 dv2
 refine wpAny_assignInOrder_more ?_
 refine bindName_ ?_
 refine r4.storeAt (.inl hx) fun h3 tk3 S3=>?_
 refine wpAny_assignInOrder_none ?_
 exact k1 .next _ _ _ G2 k (S3.pure r4 dv1)
theorem aF.pR {x y:Str} {px py:Pos} {k0 k1':Nat} {pt pv pos:Pos} {e f:PySem.Expr} {p q:PV} (h:aa X n sc ρ (.Tuple [e,f] k1' pv) (.tup [p,q])) (hx:sc.names.lookup x=some .local) (hy:sc.names.lookup y=some .local)
  (k:P .next ((x,some p)::(y,some q)::ρ) ((x,none)::(y,none)::ω))
  (hw:∀env,env.scope=sc→swappedStores [.Tuple [.Name x px, .Name y py] k0 pt] (.Tuple [e,f] k1' pv) env=pure (some [x,y])) (hs:∀env,swapsWithSole [.Tuple [.Name x px, .Name y py] k0 pt] (.Tuple [e,f] k1' pv) pos.line env=pure false:=by intro _;rfl):
  aF X n sc ρ ω (.Assign [.Tuple [.Name x px, .Name y py] k0 pt] (.Tuple [e,f] k1' pv) pos) P R:=by
 intro A env s G D Q E rm wr r k1 k2
 refine Assign_Tuple_swapped (names:=[x,y]) (h A env s _ _ E rm r.er fun v s1 G1 t1 d1=>?_) (hs env) (hw env r.er.scope)
 have r2:=r.step t1
 obtain⟨a,vs,rfl,ht,⟨v1,_,rfl,dv1,v2,_,rfl,dv2,rfl⟩,_⟩:=Rd.tuple t1.within d1
 have hn:[x,y].length=(List.toArray [v1,v2]).size:=rfl
 rw[hn]
 refine unpackItems_tuple rm.2.2 ht fun h' hx'=>?_
 have r3:=r2.step (r2.er.base.ext (tk:=s1.toks) (bY hx'))
 show wpAny _ A (assignInOrder [fun v=>bindName env y v,fun v=>bindName env x v] [v2,v1]) _ _ _
 refine wpAny_assignInOrder_more ?_
 refine bindName_ ?_
 refine r3.storeAt (.inl hy) fun h2 tk S2=>?_
 have r4:=S2.pure r3 dv2
 refine wpAny_assignInOrder_more ?_
 refine bindName_ ?_
 refine r4.storeAt (.inl hx) fun h3 tk3 S3=>?_
 refine wpAny_assignInOrder_none ?_
 exact k1 .next _ _ _ G1 k (S3.pure r4 dv1)
theorem PlainList.gY {h h':Heap} {a:Addr} {its:Array Value} (k:cz X h h') (x:h.PlainList a its):h'.PlainList a its:=let ⟨c,e⟩:=x;⟨c,bf.get' k e (by nofun)⟩
theorem aF.pT {x y:Str} {px py:Pos} {k0 k1':Nat} {pt pv pos:Pos} {e f:PySem.Expr} {l m:List PV} (he:bH X n sc ρ e l) (hf:bH X n sc ρ f m) (hx:sc.names.lookup x=some .local) (hy:sc.names.lookup y=some .local)
  (k:∀a b,P .next ((x,none)::(y,none)::ρ) ((x,some (.lst a l))::(y,some (.lst b m))::ω))
  (hw:∀env,env.scope=sc→swappedStores [.Tuple [.Name x px, .Name y py] k0 pt] (.Tuple [e,f] k1' pv) env=pure (some [x,y])) (hs:∀env,swapsWithSole [.Tuple [.Name x px, .Name y py] k0 pt] (.Tuple [e,f] k1' pv) pos.line env=pure false:=by intro _;rfl)
  (hst:∀env,starEach [e,f] env=[(false,eval e env),(false,eval f env)]:=by intro _;rfl):
  aF X n sc ρ ω (.Assign [.Tuple [.Name x px, .Name y py] k0 pt] (.Tuple [e,f] k1' pv) pos) P R:=by
 intro A env s G D Q E rm wr r k1 k2
 refine Assign_Tuple_swapped (names:=[x,y]) (wpAny_Tuple_spliced ?_) (hs env) (hw env r.er.scope)
 rw[hst env]
 refine spliced_cons (x:=eval _ env) (he A env s G _ E rm r.er fun a vs s1 G1 t1 hn hg hl hr=>spliced_cons (x:=eval _ env) (hf A env s1 G1 _ E rm (r.er.step t1) fun b ws s2 G2 t2 hn2 hg2 hl2 hr2=>spliced_nil ⟨by show 2≤sizeLine;unfold sizeLine;decide,?_⟩))
 have t3:=t2.base.fresh {cls:= .type "tuple",data:= .seq (List.toArray [Value.ref a,Value.ref b])}
 have all:=(t1.trans t2).trans t3
 have r3:=r.step all
 have ha2:G2 a=none:=by obtain⟨c,e⟩:=hl;exact t2.cg hg e
 have hla:=PlainList.gY (t2.trans t3).keep hl
 have hlb:=PlainList.gY t3.keep hl2
 have hab:a≠b:=fun q=>by subst q;obtain⟨c,e⟩:=hl;rw[hn2] at e;cases e
 have ht:(s2.heap.push {cls:= .type "tuple",data:= .seq (List.toArray [Value.ref a,Value.ref b])}).IsTuple s2.heap.objs.size (List.toArray [Value.ref a,Value.ref b]):=⟨_,Heap.get?_push_size _ rfl,rfl,0,rfl⟩
 have hnl:[x,y].length=(List.toArray [Value.ref a,Value.ref b]).size:=rfl
 rw[hnl]
 refine unpackItems_tuple rm.2.2 ht fun h' hx'=>?_
 have t4:=r3.er.base.ext (tk:=s2.toks) (bY hx')
 have r4:=r3.step t4
 have n1:s.heap.get? a=none:=hn
 have n2:s.heap.get? b=none:=aB t1 hn2
 have L2:lO env ω D {s2 with heap:=h'} G2 (.lst b m):=dZ r (o:= .lst b m) (all.trans t4) (fun c hc=>by simp[Own.fp] at hc;subst hc;exact n2) (fun c hc=>by simp[Own.fp] at hc;subst hc;exact hg2) ⟨ws,PlainList.gY t4.keep hlb,hr2⟩
 have L1:lO env ω D {s2 with heap:=h'} G2 (.lst a l):=dZ r (o:= .lst a l) (all.trans t4) (fun c hc=>by simp[Own.fp] at hc;subst hc;exact n1) (fun c hc=>by simp[Own.fp] at hc;subst hc;exact ha2) ⟨vs,PlainList.gY t4.keep hla,aE.mono t2.sub _ _ hr⟩
 show wpAny _ A (assignInOrder [fun v=>bindName env y v,fun v=>bindName env x v] [.ref b, .ref a]) _ _ _
 refine wpAny_assignInOrder_more ?_
 refine bindName_ ?_
 refine r4.storeAt (.inl hy) fun h2 tk S2=>?_
 have r5:=S2.owned r4 (o:= .lst b m) L2
 refine wpAny_assignInOrder_more ?_
 refine bindName_ ?_
 have L1':lO env ((y,some (.lst b m))::ω) D {s2 with heap:=h2,toks:=tk} G2 (.lst a l):=by
  refine⟨S2.at_ L1.at_ L1.loc,L1.off,L1.loc,fun z o' e c hc=>?_⟩
  by_cases hz:z=y
  ·subst hz;rw[aM] at e;cases e
   simp[Own.fp] at hc ⊢;subst hc;exact hab
  ·rw[aN hz] at e;exact L1.apart z o' e c hc
 refine r5.storeAt (.inl hx) fun h3 tk3 S3=>?_
 refine wpAny_assignInOrder_none ?_
 exact k1 .next _ _ _ G2 (k a b) (S3.owned r5 (o:= .lst a l) L1')
theorem aF.pS {x y:Str} {px py:Pos} {k0 k1':Nat} {pt pv pos:Pos} {e f:PySem.Expr} {l:List PV} {q:PV} (he:bH X n sc ρ e l) (hf:aa X n sc ρ f q) (hx:sc.names.lookup x=some .local) (hy:sc.names.lookup y=some .local)
  (k:∀a,P .next ((x,none)::(y,some q)::ρ) ((x,some (.lst a l))::(y,none)::ω))
  (hw:∀env,env.scope=sc→swappedStores [.Tuple [.Name x px, .Name y py] k0 pt] (.Tuple [e,f] k1' pv) env=pure (some [x,y])) (hs:∀env,swapsWithSole [.Tuple [.Name x px, .Name y py] k0 pt] (.Tuple [e,f] k1' pv) pos.line env=pure false:=by intro _;rfl)
  (hst:∀env,starEach [e,f] env=[(false,eval e env),(false,eval f env)]:=by intro _;rfl):
  aF X n sc ρ ω (.Assign [.Tuple [.Name x px, .Name y py] k0 pt] (.Tuple [e,f] k1' pv) pos) P R:=by
 intro A env s G D Q E rm wr r k1 k2
 refine Assign_Tuple_swapped (names:=[x,y]) (wpAny_Tuple_spliced ?_) (hs env) (hw env r.er.scope)
 rw[hst env]
 refine spliced_cons (x:=eval _ env) (he A env s G _ E rm r.er fun a vs s1 G1 t1 hn hg hl hr=>spliced_cons (x:=eval _ env) (hf A env s1 G1 _ E rm (r.er.step t1) fun u s2 G2 t2 d2=>spliced_nil ⟨by show 2≤sizeLine;unfold sizeLine;decide,?_⟩))
 have t3:=t2.base.fresh {cls:= .type "tuple",data:= .seq (List.toArray [Value.ref a,u])}
 have all:=(t1.trans t2).trans t3
 have r3:=r.step all
 have ha2:G2 a=none:=by obtain⟨c,e⟩:=hl;exact t2.cg hg e
 have hla:=PlainList.gY (t2.trans t3).keep hl
 have ht:(s2.heap.push {cls:= .type "tuple",data:= .seq (List.toArray [Value.ref a,u])}).IsTuple s2.heap.objs.size (List.toArray [Value.ref a,u]):=⟨_,Heap.get?_push_size _ rfl,rfl,0,rfl⟩
 have hnl:[x,y].length=(List.toArray [Value.ref a,u]).size:=rfl
 rw[hnl]
 refine unpackItems_tuple rm.2.2 ht fun h' hx'=>?_
 have t4:=r3.er.base.ext (tk:=s2.toks) (bY hx')
 have r4:=r3.step t4
 have L1:lO env ω D {s2 with heap:=h'} G2 (.lst a l):=dZ r (o:= .lst a l) (all.trans t4) (fun c hc=>by simp[Own.fp] at hc;subst hc;exact hn) (fun c hc=>by simp[Own.fp] at hc;subst hc;exact ha2) ⟨vs,PlainList.gY t4.keep hla,aE.mono t2.sub _ _ hr⟩
 show wpAny _ A (assignInOrder [fun v=>bindName env y v,fun v=>bindName env x v] [u, .ref a]) _ _ _
 refine wpAny_assignInOrder_more ?_
 refine bindName_ ?_
 refine r4.storeAt (.inl hy) fun h2 tk S2=>?_
 have r5:=S2.pure r4 d2
 refine wpAny_assignInOrder_more ?_
 refine bindName_ ?_
 have L1':lO env ((y,none)::ω) D {s2 with heap:=h2,toks:=tk} G2 (.lst a l):=by
  refine⟨S2.at_ L1.at_ L1.loc,L1.off,L1.loc,fun z o' e c hc=>?_⟩
  by_cases hz:z=y
  ·subst hz;rw[aM] at e;cases e
  ·rw[aN hz] at e;exact L1.apart z o' e c hc
 refine r5.storeAt (.inl hx) fun h3 tk3 S3=>?_
 refine wpAny_assignInOrder_none ?_
 exact k1 .next _ _ _ G2 (k a) (S3.owned r5 (o:= .lst a l) L1')
noncomputable def gR (X:Cx) (n:Nat) (op:Operator) (p q r:PV):Prop:=∀G s a b,Base X s G→Rd G p a→Rd G q b→lH X n G s (inplaceOp op a b) r
theorem gR.uo {a b:Int}:gR X n .Add (.int a) (.int b) (.int (a+b)):=by
 (intro G s _ _ bs zz;obtain⟨t,rfl⟩:=zz;intro zz;obtain⟨u,rfl⟩:=zz)
 exact .toks bs ⟨_,rfl⟩ fun A Q E _ q=>PySem.P.iadd_int q
theorem gR.xQ {a b:Int} (h:IntMulOk a b):gR X n .Mult (.int a) (.int b) (.int (a*b)):=by
 (intro G s _ _ bs zz;obtain⟨t,rfl⟩:=zz;intro zz;obtain⟨u,rfl⟩:=zz)
 exact .toks bs ⟨_,rfl⟩ fun A Q E _ q=>PySem.P.imul_int q h
theorem gR.eN {a b:List Nat} (hz:a.length+b.length≤100000):gR X n .Add (.txt a) (.txt b) (.txt (a++b)):=by
 (intro G s _ _ bs zz;obtain⟨t,rfl⟩:=zz;intro zz;obtain⟨u,rfl⟩:=zz)
 intro A Q E rm k
 refine SB.iadd (fun t' tk=>?_) (by rw[a9,a9];exact yN hz (by unfold sizeLine;decide))
 exact k _ _ G (bs.toks _) ⟨t',by rw[dn]⟩
theorem qB {env:Env} {s:Shared} {G:ae} {x:Str} {p:PV} (e:bU X env sc ρ s G) (h:ρ.lookup x=some (some p)) {A:Around} {Q E:Value→Shared→Prop} (k:∀v,Rd G p v→Q v s):wpAny (model X.prog X.w) A (loadName env x) Q E s:=by
 obtain⟨v,a,b⟩:=e.vars x p h
 have hk:env.scope.kind= .function:=by rw[e.scope];exact e.kind
 have fin:=k v b
 unfold a0 at a
 split at a
 ·rename_i hl
  obtain⟨m,hn,hv⟩:=a
  exact wpAny_loadName_local hk hl hn hv fin
 ·rename_i hl
  obtain⟨c,hc,hv⟩:=a
  exact wpAny_loadName_cell hk hl hc hv fin
 ·rename_i hl
  obtain⟨c,hc,hv,hz⟩:=a
  exact wpAny_loadName_free hk hl hc hv fin hz
 ·exact a.elim
theorem aF.aug {x:Str} {px pos:Pos} {op:Operator} {e:PySem.Expr} {p q r:PV} (hl:(cm ω ρ).lookup x=some (some p)) (h:aa X n sc (cm ω ρ) e q) (ho:gR X n op p q r) (hf:r.flat=true) (hx:b8 sc x) (k:P .next ((x,some r)::ρ) ((x,none)::ω)):
  aF X n sc ρ ω (.AugAssign (.Name x px) op e pos) P R:=by
 intro A env s G D Q E rm wr rr k1 k2
 refine wpAny_AugAssign_Name (qB rr.plus.1 hl fun v dv=>h A env s _ _ E rm rr.plus.1 fun u s1 G1 t1 d1=>ho G1 s1 v u t1.base (Rd.mono t1.sub _ _ dv) d1 A _ E rm fun z s2 G2 t2 d2=>?_)
 obtain⟨G3,t3,fl,_⟩:=rr.back (t1.trans t2)
 exact(rr.step t3).storeAt (b8.at hx wr) fun h' tk S=>k1 .next _ _ _ G3 k (S.pure (rr.step t3) (fl _ _ hf d2))
theorem aF.while {α:Type} (S:α→az) (W:α→aA) (m:α→Nat) {test:PySem.Expr} {body orelse:List Stmt} {pos:Pos} (a:α)
  (step:∀a,∃b,bb X n sc (cm (W a) (S a)) test b∧(b=true→af X n sc (S a) (W a) body (fun fl ρ' ω'=>match fl with | .next | .cont=>∃a',m a'<m a∧aG (S a') ρ'∧aC (W a') ω' | .brk=>P .next ρ' ω') R)∧(b=false→af X n sc (S a) (W a) orelse P R)):
  aF X n sc (S a) (W a) (.While test body orelse pos) P R:=by
 intro A env s G D Q E rm wr r k1 k2
 refine wpAny_While (codeAny_whileLoop (fun k s=>∃a G,m a=k∧bC X env sc (S a) (W a) D s G) ?_ (m a) ⟨a,G,rfl,r⟩)
 (intro k s zz;obtain⟨a,G,rfl,r⟩:=zz)
 obtain⟨b,ht,h1,h2⟩:=step a
 refine ht A env s _ _ _ rm r.plus.1 fun s1 G1 t1=>?_
 obtain⟨G2,t2,_⟩:=r.back t1
 have r2:=r.step t2
 cases b with
 | true=>
  rw[if_pos rfl]
  refine h1 rfl A env s1 G2 D _ _ rm wr r2 (fun fl ρ' ω' s' G' hp r'=>?_) fun p ω' v s' G' x f hl d=>k2 p ω' v s' G' x f hl d
  cases fl with
  | next=>obtain⟨a',hm,hl,ho⟩:=hp;exact⟨m a',hm,a',G',rfl,r'.less hl ho⟩
  | cont=>obtain⟨a',hm,hl,ho⟩:=hp;exact⟨m a',hm,a',G',rfl,r'.less hl ho⟩
  | brk=>exact k1 .next ρ' ω' s' G' hp r'
 | false=>
  rw[if_neg (by decide)]
  exact h2 rfl A env s1 G2 D _ _ rm wr r2 (fun fl ρ' ω' s' G' hp r'=>k1 fl ρ' ω' s' G' hp r') fun p ω' v s' G' x f hl d=>k2 p ω' v s' G' x f hl d
theorem fB {env:Env} {D:Bd} {s:Shared} {G:ae} (r:bC X env sc ρ ω D s G):interactive env=false:=by
 unfold interactive
 rw[r.er.scope,r.er.kind];rfl
theorem l4 {env:Env} {D:Bd} {s s1:Shared} {G G1:ae} (r:bC X env sc ρ ω D s G) {x:Str} {a:Addr} {l:List PV} (hx:ω.lookup x=some (some (.lst a l))) {vs:List Value} {ps:List PV} (t:Step X s (cR s.heap ω G) s1 G1) (d:aE G1 ps vs) (hf:PV.bO ps=true):
  ∃G2,bC X env sc ρ ω D s1 G2∧aE G2 ps vs∧a0 env s1.heap x (.ref a):=by
 obtain⟨G2,t2,fl,_⟩:=r.back t
 have r2:=r.step t2
 refine⟨G2,r2,?_,(r2.own x _ hx).1⟩
 have key:∀(ps:List PV) (vs:List Value),PV.bO ps=true→aE G1 ps vs→aE G2 ps vs:=by
  intro ps
  induction ps with
  | nil=>intro vs _ h;exact h
  | cons p ps ih=>
   (intro vs hf zz;obtain⟨v,r,e,a,b⟩:=zz)
   unfold PV.bO at hf
   obtain⟨f1,f2⟩:=Bool.and_eq_true_iff.mp hf
   exact⟨v,r,e,fl p v f1 a,ih r f2 b⟩
 exact key ps vs hf d
theorem ownName {env:Env} {D:Bd} {s:Shared} {G:ae} (r:bC X env sc ρ ω D s G) {x:Str} {px:Pos} {o:Own} (hx:ω.lookup x=some (some o)) {A:Around} {Q E:Value→Shared→Prop} (hd:(x==("__debug__":Str))=false) (k:Q (.ref o.addr) s):wpAny (model X.prog X.w) A (eval (.Name x px) env) Q E s:=by
 have a:=(r.own x o hx).1
 have hk:=wF r
 refine wpAny_Name ?_ hd
 unfold a0 at a
 split at a
 ·rename_i hl
  obtain⟨m,hn,hv⟩:=a
  exact wpAny_loadName_local hk hl hn hv k
 ·rename_i hl
  obtain⟨c,hc,hv⟩:=a
  exact wpAny_loadName_cell hk hl hc hv k
 ·rename_i hl
  obtain⟨c,hc,hv,hz⟩:=a
  exact wpAny_loadName_free hk hl hc hv k hz
 ·exact a.elim
theorem aF.append {x:Str} {px apos pos pos':Pos} {name:Str} {a:Addr} {l:List PV} {e:PySem.Expr} {p:PV} (hx:ω.lookup x=some (some (.lst a l))) (h:aa X n sc (cm ω ρ) e p) (hf:p.flat=true) (hz:l.length≤100000)
  (k:P .next ρ ((x,some (.lst a (l++[p])))::ω)) (hname:name="append":=by rfl) (hd:(x==("__debug__":Str))=false:=by decide)
  (hb:∀env,attributeBase (.Name x px) name env (eval (.Name x px) env)=eval (.Name x px) env:=by intro _;rfl)
  (hst:∀env,starEach [e] env=(false,eval e env)::starEach [] env:=by intro _;rfl)
  (hfew:∀env,((backTo pos (starEach [e] env)).all (fun x=>!x.1)&&(backToKw pos (keywordEach [] env)).all (fun x=>x.1.isSome)
   &&decide ([e].length+([]:List Keyword).length+(if ([]:List Keyword).isEmpty then 0 else 1)<30))=true:=by intro _;rfl)
  (hl:(apos.endLine==pos.line)=true:=by rfl) (hs:∀env,swapsWith (.Call (.Attribute (.Name x px) name apos) [e] [] pos) none pos'.line env=pure false:=by intro _;rfl):
  aF X n sc ρ ω (.Expr (.Call (.Attribute (.Name x px) name apos) [e] [] pos) pos') P R:=by
 subst hname
 intro A env s G D Q E rm wr r k1 k2
 have he:aj X n sc (cm ω ρ) [e] [p]:= .cons h .nil hst
 refine wpAny_Expr_any (wpAny_Call_method_lateS (hb env) (hfew env) hl (ownName r hx hd ?_)) (fB r) (hs env)
 obtain⟨vs,pl,dd⟩:=r.held.at_ x _ hx
 refine⟨"list",_,PySem.F.plainAttrs_list,slot_list_append,type_list_append,pl.isList.typeIs,fun b e=>?_,?_⟩
 ·cases e
  obtain⟨c,e⟩:=pl
  exact⟨_,e,rfl⟩
 refine Calls.callWith_builtin (bN he pos env) ?_
 refine aY he rm r.plus.1 fun us s2 G2 t2 d2=>?_
 obtain⟨G3,r3,d3,_⟩:=l4 r hx t2 d2 (by unfold PV.bO;rw[hf];rfl)
 obtain⟨u,_,rfl,du,rfl⟩:=d3
 obtain⟨vs3,pl3,dd3⟩:=r3.held.at_ x _ hx
 refine fJ pl3 (fun h' pl' hs'=>?_) (by rw[List.size_toArray,dd3.length];exact yN hz (by unfold sizeLine;decide))
 have nx:=r3.eI hx a (by simp[Own.fp])
 have st:=fD (tk:=s2.toks) r3.er.base pl3 hs' nx.1 nx.2
 have pl2:h'.PlainList a (List.toArray (vs3++[u])):=by
  have q:h'.PlainList a ((List.toArray vs3).push u):=pl'
  simpa using q
 exact k1 .next _ _ _ G3 k (r3.alter hx (o':= .lst a (l++[p])) st ⟨vs3++[u],pl2,aE.append dd3 (aE.cons du aE.nil)⟩ rfl rfl)
theorem hZ (f:Array Value→Array Value) (its:Array Value) (n:Nat):∃m,Obj.mapSeq f {cls:= .type "list",data:= .seq its n}={cls:= .type "list",data:= .seq (f its) m}:=⟨_,rfl⟩
theorem mE {prog:Program} {w:World} {A:Around} {E:Value→Shared→Prop} {s:Shared} {l:Addr} {its:List Value} {x:Value} {k:Nat} {t:Tok} {Q:Value→Shared→Prop}
  (hl:s.heap.PlainList l its.toArray) (hk:k≤its.length) (hz:its.length≤100000) (hQ:∀h',h'.PlainList l (its.take k++x::its.drop k).toArray→Heap.SameBut l s.heap h'→Q .none {s with heap:=h'}):
  wpAny (model prog w) A (call (.builtin "list.insert") [.ref l, .int (k:Int) t,x]) Q E s:=by
 obtain⟨n,ho⟩:=id hl
 obtain⟨j,hj⟩:∃j:Int,j=(k:Int):=⟨_,rfl⟩
 rw[←hj]
 have hfit:¬(!Builtin.List.listFitsIndex j)=true:=by
  unfold Builtin.List.listFitsIndex;simp;lia
 have hsz:its.toArray.size≤sizeLine:=by rw[List.size_toArray];exact yN hz (by unfold sizeLine;decide)
 have g:=AutoListH.list_insert_list_int_val_1 l its.toArray n j t x hfit hsz
 refine call_meets PySem.F.slot_list_insert hl.isList.typeIs PySem.F.entry_list_insert (PySem.F.args_list_insert_3 _ _ _) g ⟨ho,?_⟩
 refine hQ _ ?_ (Heap.SameBut.update ..)
 obtain⟨m,e⟩:=hZ (fun xs=>have k:=if j<0 then (j+((xs.size:Nat):Int)).toNat else min j.toNat xs.size;(xs.extract 0 k).push x++xs.extract k) its.toArray n
 refine⟨m,?_⟩
 have key:((its.toArray.extract 0 k).push x++its.toArray.extract k)=(its.take k++x::its.drop k).toArray:=by
  apply Array.ext'
  simp
  exact List.take_of_length_le (by simp)
 have e2:(fun xs:Array Value=>have k:=if j<0 then (j+((xs.size:Nat):Int)).toNat else min j.toNat xs.size;(xs.extract 0 k).push x++xs.extract k) its.toArray=(its.take k++x::its.drop k).toArray:=by
  have hneg:¬(j<0):=by lia
  have hmin:min j.toNat its.toArray.size=k:=by simp;omega
  simp only[hneg,if_false,hmin]
  exact key
 have e3:=e.trans (congrArg (fun z=>({cls:= .type "list",data:= .seq z m}:Obj)) e2)
 rw[←e3]
 exact Heap.get?_update_self _ ho rfl
theorem qU {prog:Program} {w:World} {A:Around} {E:Value→Shared→Prop} {s:Shared} {l:Addr} {items:Array Value} {k:Int} {t:Tok} {v:Value} {Q:Unit→Shared→Prop} (hl:s.heap.PlainList l items)
  (h0:0≤k) (hfit:k<2 ^ 63) (hn:k<items.size)
  (hQ:∀h',h'.PlainList l (items.setIfInBounds k.toNat v)→Heap.SameBut l s.heap h'→Q () {s with heap:=h'}):
  wpAny (model prog w) A (setItem (.ref l) (.int k t) v) Q E s:=by
 obtain⟨ne,ho⟩:=id hl
 unfold setItem
 try with_reducible refine wpAny_holding ?_
 first | refine yI (yJ ?_) | skip
 refine yI (wpAny_sequenceKey hl.isList.typeIs (by decide) ?_)
 refine yI (wpAny_callSpecial?_slot (name:=Str.ofString "__setitem__") hl.isList.typeIs slot_list_setitem
  (wpAny_call_entry slot_list_setitem hl.isList.typeIs entry_list_setitem ?_ (args_list_setitem _ _ _)))
 show wpAny _ _ (Builtin.List.listSubscript? (.int k t)>>=_) _ _ s
 refine yI (wpAny_listSubscript_int (fitsIndex_of h0 hfit) ?_)
 clear hfit
 obtain⟨j,rfl⟩:=Int.eq_ofNat_of_zero_le h0
 have hj:j<items.size:=by lia
 have hx':items[j]?=some items[j]:=Array.getElem?_eq_getElem hj
 show wpAny _ _ ((seqItemAt l j>>=fun r=>pure (r.map (j,·)))>>=_) _ _ s
 refine yI (yI (wpAny_seqItemAt ho rfl (yJ ?_)))
 rw[hx']
 show wpAny _ _ (setSeqItemAt l j v>>=_) _ _ s
 obtain⟨m,e⟩:=hZ (·.setIfInBounds j v) items ne
 have hfin:(s.heap.update l (Obj.mapSeq (·.setIfInBounds j v))).PlainList l (items.setIfInBounds j v):=⟨m,by rw[←e];exact Heap.get?_update_self _ ho rfl⟩
 refine yI (wpAny_setSeqItemAt ho rfl ?_)
 first
  | exact yI (yJ (yJ ⟨.none,rfl,yJ (hQ _ hfin (Heap.SameBut.update ..))⟩))
  | exact yJ ⟨.none,rfl,yJ (hQ _ hfin (Heap.SameBut.update ..))⟩
theorem aE.set {G:ae}:∀{l:List PV} {vs:List Value} {i:Nat} {p:PV} {v:Value},aE G l vs→Rd G p v→aE G (l.set i p) (vs.set i v)
 | [],_,_,_,_,h,_=>by cases h;exact rfl
 | _::_,_,0,_,_,⟨v,r,e,x,y⟩,d=>by subst e;exact⟨_,_,rfl,d,y⟩
 | _::l,_,i+1,_,_,⟨v,r,e,x,y⟩,d=>by subst e;exact⟨v,_,rfl,x,aE.set y d⟩
theorem aF.qL {x:Str} {px tpos pos:Pos} {op:Operator} {i e:PySem.Expr} {a:Addr} {l:List PV} {j:Int} {p q r:PV} (hx:ω.lookup x=some (some (.lst a l))) (hi:aa X n sc ρ i (.int j)) (h:aa X n sc ρ e q)
  (h0:0≤j) (hj:l[j.toNat]?=some p) (ho:gR X n op p q r) (hz:l.length≤100000) (k:P .next ρ ((x,some (.lst a (l.set j.toNat r)))::ω)) (hd:(x==("__debug__":Str))=false:=by decide)
  (ha:∀ov iv new,augStore i ov iv new=(do holding [new,ov,iv] (setItem ov iv new);release [new,ov,iv] [];pure .next):=by intro _ _ _;rfl):aF X n sc ρ ω (.AugAssign (.Subscript (.Name x px) i tpos) op e pos) P R:=by
 intro A env s G D Q E rm wr rr k1 k2
 refine wpAny_AugAssign_SubscriptAny (ownName rr hx hd (hi A env s G _ E rm rr.er fun iv s1 G1 t1 d1=>?_)) ha
 obtain⟨t,rfl⟩:=d1
 have r1:=rr.step t1
 obtain⟨vs,pl,dd⟩:=r1.held.at_ x _ hx
 obtain⟨v,hv,dv⟩:=dd.get hj
 have hlen:=dd.length
 have hjl:j.toNat<l.length:=by
  by_cases z:j.toNat<l.length
  ·exact z
  ·rw[List.getElem?_eq_none (Nat.not_lt.mp z)] at hj;cases hj
 refine wpAny_getItem_list pl.isList h0 (by omega) (by simpa using hv) ?_
 refine h A env s1 G1 _ E rm r1.er fun u s2 G2 t2 d2=>ho G2 s2 v u t2.base (Rd.mono t2.sub _ _ dv) d2 A _ E rm fun z s3 G3 t3 d3=>?_
 have r3:=(r1.step t2).step t3
 obtain⟨vs3,pl3,dd3⟩:=r3.held.at_ x _ hx
 have hlen3:=dd3.length
 refine qU pl3 h0 (by omega) (by rw[List.size_toArray];omega) fun h' pl' hs'=>?_
 have nx:=r3.eI hx a (by simp[Own.fp])
 have st:=fD (tk:=s3.toks) r3.er.base pl3 hs' nx.1 nx.2
 have pl2:h'.PlainList a (List.toArray (vs3.set j.toNat z)):=by
  have q:h'.PlainList a ((List.toArray vs3).setIfInBounds j.toNat z):=pl'
  simpa using q
 exact k1 .next _ _ _ G3 k (r3.alter hx (o':= .lst a (l.set j.toNat r)) st ⟨_,pl2,aE.set dd3 d3⟩ rfl rfl)
theorem aF.insert {x:Str} {px apos pos pos':Pos} {name:Str} {a:Addr} {l:List PV} {i e:PySem.Expr} {j:Nat} {p:PV} (hx:ω.lookup x=some (some (.lst a l))) (hi:aa X n sc (cm ω ρ) i (.int j)) (h:aa X n sc (cm ω ρ) e p) (hf:p.flat=true) (hj:j≤l.length) (hz:l.length≤100000)
  (k:P .next ρ ((x,some (.lst a (l.take j++p::l.drop j)))::ω)) (hname:name="insert":=by rfl) (hd:(x==("__debug__":Str))=false:=by decide)
  (hb:∀env,attributeBase (.Name x px) name env (eval (.Name x px) env)=eval (.Name x px) env:=by intro _;rfl)
  (hst:∀env,starEach [i,e] env=(false,eval i env)::starEach [e] env:=by intro _;rfl) (hst2:∀env,starEach [e] env=(false,eval e env)::starEach [] env:=by intro _;rfl)
  (hfew:∀env,((backTo pos (starEach [i,e] env)).all (fun x=>!x.1)&&(backToKw pos (keywordEach [] env)).all (fun x=>x.1.isSome)
   &&decide ([i,e].length+([]:List Keyword).length+(if ([]:List Keyword).isEmpty then 0 else 1)<30))=true:=by intro _;rfl)
  (hl:(apos.endLine==pos.line)=true:=by rfl) (hs:∀env,swapsWith (.Call (.Attribute (.Name x px) name apos) [i,e] [] pos) none pos'.line env=pure false:=by intro _;rfl):
  aF X n sc ρ ω (.Expr (.Call (.Attribute (.Name x px) name apos) [i,e] [] pos) pos') P R:=by
 subst hname
 intro A env s G D Q E rm wr r k1 k2
 have he:aj X n sc (cm ω ρ) [i,e] [.int j,p]:= .cons hi (.cons h .nil hst2) hst
 refine wpAny_Expr_any (wpAny_Call_method_lateS (hb env) (hfew env) hl (ownName r hx hd ?_)) (fB r) (hs env)
 obtain⟨vs,pl,dd⟩:=r.held.at_ x _ hx
 refine⟨"list",_,PySem.F.plainAttrs_list,PySem.F.slot_list_insert,PySem.F.type_list_insert,pl.isList.typeIs,fun b e=>?_,?_⟩
 ·cases e
  obtain⟨c,e⟩:=pl
  exact⟨_,e,rfl⟩
 refine Calls.callWith_builtin (bN he pos env) ?_
 refine aY he rm r.plus.1 fun us s2 G2 t2 d2=>?_
 obtain⟨G3,r3,d3,_⟩:=l4 r hx t2 d2 (by unfold PV.bO PV.bO;rw[hf];rfl)
 obtain⟨_,_,rfl,⟨t,rfl⟩,u,_,rfl,du,rfl⟩:=d3
 obtain⟨vs3,pl3,dd3⟩:=r3.held.at_ x _ hx
 refine mE pl3 (by rw[dd3.length];exact hj) (by rw[dd3.length];exact hz) (fun h' pl' hs'=>?_)
 have nx:=r3.eI hx a (by simp[Own.fp])
 have st:=fD (tk:=s2.toks) r3.er.base pl3 hs' nx.1 nx.2
 exact k1 .next _ _ _ G3 k (r3.alter hx (o':= .lst a (l.take j++p::l.drop j)) st ⟨_,pl',aE.append (aE.take j dd3) (aE.cons du (aE.drop j dd3))⟩ rfl rfl)
theorem aF.tQ {f x:Str} {pf px pos pos':Pos} {es:List PySem.Expr} {ad:Addr} {oc:Value} {od:Option Addr} {osl:Array (Option Value)} {fd:FuncData} {o o':Own} {ps:List PV} {p:PV} (hx:ω.lookup x=some (some o)) (hf:aa X n sc ρ (.Name f pf) (.opq (.ref ad))) (hk:X.K.lookup ad=some ⟨oc,od, .func fd,osl⟩)
  (ha:aj X n sc (cm ω ρ) es ps) (hfl:PV.bO ps=true) (h:gN X n ad o ps p o') (hadd:o'.addr=o.addr) (hfp:o'.fp=o.fp) (k:P .next ρ ((x,some o')::ω)) (hd:(x==("__debug__":Str))=false:=by decide)
  (hst:∀env,starEach (.Name x px::es) env=(false,eval (.Name x px) env)::starEach es env:=by intro _;rfl)
  (hs:∀env,swapsWith (.Call (.Name f pf) (.Name x px::es) [] pos) none pos'.line env=pure false:=by intro _;rfl):
  aF X n sc ρ ω (.Expr (.Call (.Name f pf) (.Name x px::es) [] pos) pos') P R:=by
 intro A env s G D Q E rm wr r k1 k2
 refine wpAny_Expr_any (wpAny_Call_Name_kw (hf A env s G _ E rm r.er fun v s1 G1 t1 d1=>?_)) (fB r) (hs env)
 cases d1
 have r1:=r.step t1
 refine callWith_function (o:=⟨oc,od, .func fd,osl⟩) (fd:=fd) ?_
 rw[hst env]
 refine evalArgs_plain (spliced_cons (x:=eval _ env) (ownName r1 hx hd ?_))
 refine ha.go A env s1 _ pos _ E rm r1.plus.1 fun us s2 G2 t2 d2=>?_
 obtain⟨G3,t3,fl,_⟩:=r1.back t2
 have r3:=r1.step t3
 have d3:aE G3 ps us:=by
  have key:∀(ps:List PV) (vs:List Value),PV.bO ps=true→aE G2 ps vs→aE G3 ps vs:=by
   intro ps
   induction ps with
   | nil=>intro vs _ h;exact h
   | cons p ps ih=>
    (intro vs hf zz;obtain⟨v,r,e,a,b⟩:=zz)
    unfold PV.bO at hf
    obtain⟨f1,f2⟩:=Bool.and_eq_true_iff.mp hf
    exact⟨v,r,e,fl p v f1 a,ih r f2 b⟩
  exact key ps us hfl d2
 refine⟨⟨t3.gnd.kin _ _ hk,rfl⟩,wpAny_call ?_⟩
 exact h A s2 G3 us (fun r s'=>match r with | .ok (.ret v)=>Q .next s' | .ok _=>False | .error e=>E e s') rm r3.er.base (r3.held.at_ x o hx) (r3.eI hx) d3 fun v s4 G4 t4 h4 _ d4=>k1 .next _ _ _ G4 k (r3.alter hx t4 h4 hadd hfp)
end
theorem b5.xB {X:Cx} {h:Heap} (g:b5 X h) {x:Str} {v:Value} (e:nsIn X.K mainGlobals x=some (some v)):X.mg x=some v:=mg_of g.kin g.g e
theorem b5.xo {X:Cx} {h:Heap} (g:b5 X h) {x:Str} (e:nsIn X.K mainGlobals x=some none):X.mg x=none:=mg_none_of g.kin g.g e
section
variable {X:Cx} {n:Nat} {sc:Scope} {ρ:az} {ω:aA}
theorem aa.glob {x:Str} {pos:Pos} {v:Value} {p:PV} (hk:sc.names.lookup x=some .globalImplicit) (hv:nsIn X.K mainGlobals x=some (some v)) (hp:∀G,Rd G p v)
 (hd:(x==("__debug__":Str))=false:=by decide):aa X n sc ρ (.Name x pos) p:=fun A env s G Q E rm e k=>aa.global hk (e.gnd.xB hv) hp hd A env s G Q E rm e k
theorem aa.blt {x:Str} {pos:Pos} {v:Value} (hk:sc.names.lookup x=some .globalImplicit) (hv:nsIn X.K mainGlobals x=some none) (hb:bootBuiltins x=some v)
 (hn:x≠"__name__":=by decide) (hd:(x==("__debug__":Str))=false:=by decide):aa X n sc ρ (.Name x pos) (.opq v):=fun A env s G Q E rm e k=>aa.builtin hk (e.gnd.xo hv) hb hn hd A env s G Q E rm e k
theorem aa.qk {x:Str} {pos:Pos} {i:Int} {t:Tok} (hk:sc.names.lookup x=some .globalImplicit) (hv:nsIn X.K mainGlobals x=some (some (.int i t)))
 (hd:(x==("__debug__":Str))=false:=by decide):aa X n sc ρ (.Name x pos) (.int i):=aa.glob hk hv (fun _=>⟨_,rfl⟩) hd
theorem aa.bj {x:Str} {pos:Pos} {v:Value} (hk:sc.names.lookup x=some .globalImplicit) (hv:nsIn X.K mainGlobals x=some (some v))
 (hd:(x==("__debug__":Str))=false:=by decide):aa X n sc ρ (.Name x pos) (.opq v):=aa.glob hk hv (fun _=>rfl) hd
theorem Binds.of {fd:FuncData} {args:Args} {binds:List (Str×Value)} (e:∀S,peek X.K S (bindArgs fd args)=some binds):∀s:Shared,b5 X s.heap→BindsTo s fd args binds:=fun s g=>kp_binds g.kin e
end
theorem xk {sc:Scope}:∀y∈([]:List Str),b8 sc y:=fun _ h=>(nomatch h)
theorem vz {sc:Scope} {x:Str} {r:List Str} (h:b8 sc x) (g:∀y∈r,b8 sc y):∀y∈x::r,b8 sc y:=fun y hy=>by
 rcases List.mem_cons.mp hy with rfl | hy
 ·exact h
 ·exact g y hy
noncomputable def ai (l:List Int):List PV:=l.map PV.int
theorem fT {l:List Int} {i:Nat}:(ai l)[i]?=l[i]?.map PV.int:=by simp[ai]
theorem ax (l:List Int):(ai l).length=l.length:=by simp[ai]
theorem ba {α:Type} {l:List α} {i:Nat} (h:i<l.length):bo l (i:Int)=l[i]?:=by
 unfold bo seqIndex?
 have:¬((i:Int)<0):=by lia
 simp only[this,if_false]
 rw[if_pos (by simp;omega)]
 simp
theorem cO {l:List Int} {q:Int→Bool} (hs:l.Pairwise (·≤·)) (hq:∀a b,a≤b→q b=true→q a=true) {i:Nat} {a:Int} (h:l[i]?=some a):q a=true↔i<l.countP q:=by
 induction l generalizing i with
 | nil=>simp at h
 | cons b r ih=>
  rw[List.pairwise_cons] at hs
  obtain⟨h1,h2⟩:=hs
  cases i with
  | zero=>
   simp at h
   subst h
   constructor
   ·intro e;rw[List.countP_cons_of_pos e];omega
   ·intro e
    by_cases z:q b=true
    ·exact z
    ·have:∀c∈r,¬q c=true:=fun c hc e=>z (hq b c (h1 c hc) e)
     rw[List.countP_cons_of_neg z,List.countP_eq_zero.mpr this] at e
     exact absurd e (by omega)
  | succ i=>
   rw[List.getElem?_cons_succ] at h
   have:=ih h2 h
   by_cases z:q b=true
   ·rw[List.countP_cons_of_pos z,this];lia
   ·have hall:∀c∈r,¬q c=true:=fun c hc e=>z (hq b c (h1 c hc) e)
    rw[List.countP_cons_of_neg z,List.countP_eq_zero.mpr hall] at *
    constructor
    ·intro e;exact absurd e (hall a (List.mem_of_getElem? h))
    ·intro e;omega
noncomputable def mI {α:Type} (lt:Nat→Nat→Bool):KasT α→α
 | .ret a=>a
 | .ask i j k=>mI lt (k (lt i j))
noncomputable def askIn {α:Type} (n:Nat):KasT α→Bool
 | .ret _=>true
 | .ask i j k=>decide (i<n)&&decide (j<n)&&askIn n (k true)&&askIn n (k false)
theorem lp {α:Type} {n:Nat} {lt:Nat→Nat→Bool} {cmp:Nat→Nat→(Bool→Shared→Prop)→Shared→Prop} {s:Shared} (hc:∀i j,i<n→j<n→∀C:Bool→Shared→Prop,C (lt i j) s→cmp i j C s) {Q:α→Shared→Prop}:
  ∀(t:KasT α),askIn n t=true→Q (mI lt t) s→t.kasWp cmp Q s
 | .ret a,_,q=>q
 | .ask i j k,h,q=>by
  obtain⟨h,h4⟩:=Bool.and_eq_true_iff.mp (show(decide (i<n)&&decide (j<n)&&askIn n (k true)&&askIn n (k false))=true from h)
  obtain⟨h,h3⟩:=Bool.and_eq_true_iff.mp h
  obtain⟨h1,h2⟩:=Bool.and_eq_true_iff.mp h
  refine hc i j (of_decide_eq_true h1) (of_decide_eq_true h2) _ ?_
  have q:Q (mI lt (k (lt i j))) s:=q
  cases e:lt i j with
  | true=>rw[e] at q;exact lp hc (k true) h3 q
  | false=>rw[e] at q;exact lp hc (k false) h4 q
noncomputable def perm {α:Type} (d:α) (lt:Nat→Nat→Bool) (l:List α):List α:=if l.length<2 then l else (mI lt (kas_sort l.length)).toList.map fun i=>l.getD i d
theorem aE.getD {G:ae}:∀{l:List PV} {vs:List Value} (i:Nat),aE G l vs→Rd G (l.getD i .none) (vs.getD i .none)
 | [],_,i,h=>by cases h;exact rfl
 | p::l,_,0,⟨v,r,e,x,y⟩=>by subst e;simpa using x
 | p::l,_,i+1,⟨v,r,e,x,y⟩=>by subst e;simpa using aE.getD i y
theorem aE.map {G:ae} {f:Nat→PV} {g:Nat→Value} (h:∀i,Rd G (f i) (g i)):∀(is:List Nat),aE G (is.map f) (is.map g)
 | []=>aE.nil
 | i::is=>aE.cons (h i) (aE.map h is)
theorem aE.perm {G:ae} {l:List PV} {vs:List Value} (lt:Nat→Nat→Bool) (h:aE G l vs):aE G (perm .none lt l) (perm .none lt vs):=by
 unfold Mine.Internal.perm
 rw[h.length]
 split
 ·exact h
 ·exact aE.map (fun i=>aE.getD i h) _
section
variable {prog:Program} {w:World} {A:Around} {E:Value→Shared→Prop} {s:Shared}
theorem nU {ks vs:List Value} {lt:Nat→Nat→Bool} {κ:SortKind} {Q:SortSt→Shared→Prop} (hl:ks.length=vs.length) (h2:2≤vs.length) (h64:vs.length<64) (hin:askIn vs.length (kas_sort vs.length)=true)
  (hlt:∀i j,i<vs.length→j<vs.length→∀C:Bool→Shared→Prop,C (lt i j) s→wpAny (model prog w) A (keyLt' κ (ks.getD i .none) (ks.getD j .none)) C (fun _ _=>False) s)
  (k:∀st',(arrOf st').map (·.2)=(perm .none lt vs).toArray→failedOf st'=none→(perm .none lt vs).length=vs.length→Q st' s):wpAny (model prog w) A ((sortRuns').run (SortSt.mk' κ (ks.toArray.zip vs.toArray) #[] 7 none)) (fun r s'=>Q r.2 s') E s:=by
 refine kat_run (G:=fun p s'=>s'=s∧p=mI lt (kas_sort vs.length)) hl h2 h64 (fun p st' s' hp har hf hg=>?_) (lp hlt _ hin ⟨rfl,rfl⟩)
 obtain⟨rfl,rfl⟩:=hg
 refine k st' ?_ hf ?_
 ·rw[kat_snds hl har]
  unfold perm
  rw[if_neg (by omega)]
 ·unfold perm
  rw[if_neg (by omega),List.length_map,Array.length_toList,hp]
end
section
variable {X:Cx} {n:Nat} {sc:Scope} {ρ:az} {ω:aA}
noncomputable def bW (X:Cx) (ps:List PV) (lt:Nat→Nat→Bool):Prop:=
 ∀(A:Around) (G:ae) (s:Shared) (vs:List Value),Sub G s.heap.get?→aE G ps vs→2≤ps.length→
  ∃κ,(∀(Q:SortKind→Shared→Prop) (E:Value→Shared→Prop),Q κ s→wpAny (model X.prog X.w) A (keyKind' vs.toArray) Q E s)∧
   ∀i j,i<ps.length→j<ps.length→∀C:Bool→Shared→Prop,C (lt i j) s→wpAny (model X.prog X.w) A (keyLt' κ (vs.getD i .none) (vs.getD j .none)) C (fun _ _=>False) s
theorem jP {h:Heap} {a:Addr} {xs:Array Value} {n:Nat} (ho:h.get? a=some (seqObj "list" xs n)) (f:Array Value→Array Value):Heap.SameBut a h (h.update a (Obj.mapSeq f))∧∃c,(h.update a (Obj.mapSeq f)).get? a=some (seqObj "list" (f xs) c):=
 ⟨Heap.SameBut.update ..,_,get?_update_seq ho f⟩
theorem kA {A:Around} {s:Shared} {G:ae} {a:Addr} {ps:List PV} {vs:List Value} {lt:Nat→Nat→Bool} {P:PySem.Fin→Shared→Prop} {E:Value→Shared→Prop} (ok:bW X ps lt) (b:Base X s G) (hl:s.heap.PlainList a vs.toArray) (d:aE G ps vs) (hG:G a=none) (hX:¬aw X a)
  (h64:ps.length<64) (hin:askIn ps.length (kas_sort ps.length)=true)
  (k:∀h',h'.PlainList a (perm .none lt vs).toArray→(∀c o,c≠a→s.heap.get? c=some o→h'.get? c=some o)→P (.done (.ret .none)) {s with heap:=h'}):
  wpAny (model X.prog X.w) A (Builtin.«list.sort» ⟨[.ref a],[]⟩) P E s:=by
 have hlen:=d.length
 obtain⟨m,ho⟩:=hl
 have ho:s.heap.get? a=some (seqObj "list" vs.toArray m):=ho
 have ha:a<s.heap.objs.size:=Heap.lt_size ho
 obtain⟨s1,e1,ho1⟩:=jP ho (fun _=>(#[]:Array Value))
 rw[list_sort_plain]
 refine yI (listItems_at ho rfl ?_)
 refine yI (listUpdate_at ho rfl ?_ (by rw[List.size_toArray,sizeLine_eq];omega) (Nat.zero_le _))
 refine yI (seqEpoch_at ho1 rfl ?_)
 refine yI (wpAny_newTuple ?_ (by show vs.length≤_;rw[sizeLine_eq];omega))
 refine yI (wpAny_newList ?_ (Nat.zero_le _))
 refine wpAny_holding ?_
 show wpAny (model X.prog X.w) A _ P E {s with heap:=((s.heap.update a (Obj.mapSeq fun _=>(#[]:Array Value))).push (seqObj "tuple" vs.toArray 0)).push (seqObj "list" #[] 0)}
 have na:∀{c o},G c=some o→c≠a:=fun e z=>by rw[z,hG] at e;cases e
 have keep:∀c o,c≠a→s.heap.get? c=some o→(((s.heap.update a (Obj.mapSeq fun _=>(#[]:Array Value))).push (seqObj "tuple" vs.toArray 0)).push (seqObj "list" #[] 0)).get? c=some o:=
  fun c o hc e=>Heap.get?_push_of_some _ (Heap.get?_push_of_some _ ((s1.2 c hc).trans e))
 have hoa:(((s.heap.update a (Obj.mapSeq fun _=>(#[]:Array Value))).push (seqObj "tuple" vs.toArray 0)).push (seqObj "list" #[] 0)).get? a=some (seqObj "list" #[] e1):=Heap.get?_push_of_some _ (Heap.get?_push_of_some _ ho1)
 generalize (((s.heap.update a (Obj.mapSeq fun _=>(#[]:Array Value))).push (seqObj "tuple" vs.toArray 0)).push (seqObj "list" #[] 0))=H at keep hoa ⊢
 have wi:Sub G H.get?:=fun c o e=>keep c o (na e) (b.within c o e)
 have fin:∀(st:SortSt) (out:List Value),(arrOf st).map (·.2)=out.toArray→failedOf st=none→out.length≤64→out=perm .none lt vs→wpAny (model X.prog X.w) A (do
   let sorted:=(arrOf st).map (·.2)
   let touched:=(←seqEpoch a) != e1
   Builtin.List.listUpdate (.ref a) fun _=>sorted
   if let some e:=failedOf st then rule "list.sort.comparison-raised";throw e
   if touched then rule "list.sort.modified";raiseError "ValueError" "list modified during sort"
   ret .none) P E {s with heap:=H}:=by
  intro st out hout hf hz hp
  rw[hout,hf]
  obtain⟨s2,c2,ho2⟩:=jP hoa (fun _=>out.toArray)
  refine yI (seqEpoch_at hoa rfl ?_)
  refine yI (listUpdate_at hoa rfl ?_ (Nat.zero_le _) (by rw[List.size_toArray,sizeLine_eq];omega))
  dsimp only
  rw[if_neg (show ¬((e1 != e1)=true) by rw[bne_self_eq_false];exact Bool.false_ne_true)]
  exact yJ (k _ ⟨c2,by rw[←hp];exact ho2⟩ fun c o hc e=>(s2.2 c hc).trans (keep c o hc e))
 dsimp only
 by_cases hn:ps.length<2
 ·have hn2:vs.toArray.size<2:=by rw[List.size_toArray];omega
  rw[if_pos hn2,if_pos hn2]
  refine yI (yJ ?_)
  refine yI (yJ ?_)
  refine fin _ vs ?_ rfl (by omega) ?_
  ·show((vs.toArray.zip vs.toArray).map (·.2))=vs.toArray
   apply Array.ext (by simp)
   intro i h1 h2;simp
  ·unfold perm;rw[if_pos (by omega)]
 ·have hn2:¬vs.toArray.size<2:=by rw[List.size_toArray];lia
  rw[if_neg hn2,if_neg hn2]
  obtain⟨κ,hk,hlt⟩:=ok A G {s with heap:=H} vs wi d (by omega)
  refine yI (hk _ _ ?_)
  refine yI (wpAny_mono (nU (Q:=fun st s'=>s'={s with heap:=H}∧(arrOf st).map (·.2)=(perm .none lt vs).toArray∧failedOf st=none∧(perm .none lt vs).length=vs.length) rfl (by omega) (by omega) (by rw[hlen];exact hin) (fun i j hi hj C hC=>hlt i j (by lia) (by lia) C hC) fun st' h1 h2 h3=>⟨rfl,h1,h2,h3⟩) ?_ fun _ _ e=>e)
  (intro zz;obtain⟨⟨⟩,st⟩:=zz;intro s' zz;obtain⟨rfl,h1,h2,h3⟩:=zz)
  refine fin st _ h1 h2 ?_ rfl
  lia
theorem o8 {G:ae} {s:Shared} {v:Value} {ps:List PV} {lt:Nat→Nat→Bool} (ok:bW X ps lt) (b:Base X s G) (d0:Rd G (.lst ps) v) (h64:ps.length<64) (hin:askIn ps.length (kas_sort ps.length)=true) {A:Around} {Q E:Value→Shared→Prop}
  (k:∀c us s',Step X s G s' G→s.heap.get? c=none→G c=none→s'.heap.PlainList c (List.toArray us)→aE G (perm .none lt ps) us→Q (.ref c) s'):wpAny (model X.prog X.w) A (call (.builtin "sorted") [v]) Q E s:=by
 obtain⟨l,o,vs,m,rfl,g,hc,hd,r⟩:=d0
 have hl:s.heap.IsList l vs.toArray:=⟨o,b.within _ _ g,hc,m,hd⟩
 have hlen:=r.length
 refine Calls.call_function_entry kind_sorted plain_sorted entry_sorted (args_sorted1 _) ?_
 unfold Builtin.«sorted»
 refine yI (m:=checkCount "sorted" 1 1 _) (yJ ?_)
 refine yI (collect_list hl ?_ (by rw[sizeLine_eq];omega))
 refine yI (wpAny_newList ?_ (by rw[sizeLine_eq];omega))
 have hsz:((s.heap.push (seqObj "list" #[] 0)).update s.heap.objs.size (Obj.mapSeq (· ++vs.toArray))).objs.size=s.heap.objs.size+1:=by
  rw[Heap.size_update,size_push']
 have hoL:(((s.heap.push (seqObj "list" #[] 0)).update s.heap.objs.size (Obj.mapSeq (· ++vs.toArray))).push (seqObj "list" vs.toArray 0)).get? (s.heap.objs.size+1)=some (seqObj "list" vs.toArray 0):=by
  rw[←hsz];exact Heap.get?_push_size _ rfl
 have keep:∀b o,s.heap.get? b=some o→(((s.heap.push (seqObj "list" #[] 0)).update s.heap.objs.size (Obj.mapSeq (· ++vs.toArray))).push (seqObj "list" vs.toArray 0)).get? b=some o:=fun b o q=>by
  have hlt:b<s.heap.objs.size:=Heap.lt_size q
  rw[Heap.get?_push_ne _ _ _ (by rw[hsz];exact Nat.ne_of_lt (Nat.lt_succ_of_lt hlt)),Heap.get?_update_ne _ _ _ _ (Nat.ne_of_lt hlt),Heap.get?_push_ne _ _ _ (Nat.ne_of_lt hlt)]
  exact q
 show wpAny _ _ _ _ _ {s with heap:=((s.heap.push (seqObj "list" #[] 0)).update s.heap.objs.size (Obj.mapSeq (· ++vs.toArray))).push (seqObj "list" vs.toArray 0)}
 rw[hsz]
 generalize (((s.heap.push (seqObj "list" #[] 0)).update s.heap.objs.size (Obj.mapSeq (· ++vs.toArray))).push (seqObj "list" vs.toArray 0))=H at hoL keep ⊢
 have st:=b.ext (h':=H) (tk:=s.toks) keep
 have hn:s.heap.get? (s.heap.objs.size+1)=none:=eP (Nat.le_succ _)
 have hX:¬aw X (s.heap.objs.size+1):=fun q=>by obtain⟨o,e⟩:=b.gnd.special q;rw[hn] at e;cases e
 refine yI (wpAny_holding (wpAny_call_entry slot_list_sort ⟨_,hoL,rfl⟩ entry_list_sort ?body (args_list_sort _)))
 case body=>
  refine kA (s:={s with heap:=H}) ok st.base ⟨0,hoL⟩ r (ao b.within hn) hX h64 hin fun h' pl hk=>?_
  refine⟨_,rfl,yJ ⟨_,rfl,k _ (perm .none lt vs) {s with heap:=h'} ?_ hn (ao b.within hn) pl (aE.perm lt r)⟩⟩
  refine b.ext (tk:=s.toks) fun c o e=>hk c o (fun q=>by rw[q,hn] at e;cases e) (keep c o e)
theorem bH.sorted {x:Str} {pf pos:Pos} {e:PySem.Expr} {ps:List PV} {lt:Nat→Nat→Bool} (hf:aa X n sc ρ (.Name x pf) (.opq (.builtin "sorted"))) (he:aa X n sc ρ e (.lst ps)) (ok:bW X ps lt) (h64:ps.length<64) (hin:askIn ps.length (kas_sort ps.length)=true)
  (hs:∀env,starEach [e] env=(false,eval e env)::starEach [] env:=by intro _;rfl):bH X n sc ρ (.Call (.Name x pf) [e] [] pos) (perm .none lt ps):=by
 intro A env s G Q E rm ev k
 have ha:aj X n sc ρ [e] [.lst ps]:= .cons he .nil hs
 refine wpAny_Call_Name_kw (hf A env s G _ E rm ev fun v s1 G1 t1 d1=>?_)
 cases d1
 refine callWith_builtin (bN ha pos env) ?_
 refine aY ha rm (ev.step t1) fun vs s2 G2 t2 d2=>?_
 obtain⟨v,_,rfl,dv,rfl⟩:=d2
 refine o8 ok t2.base dv h64 hin fun c us s' t hc hG hl r=>k c us s' G2 ((t1.trans t2).trans t) (aB (t1.trans t2) hc) hG hl r
theorem aF.sort {P:a6} {R:PV→aA→Prop} {x:Str} {px apos pos pos':Pos} {name:Str} {a:Addr} {ps:List PV} {lt:Nat→Nat→Bool} (hx:ω.lookup x=some (some (.lst a ps))) (ok:bW X ps lt) (h64:ps.length<64) (hin:askIn ps.length (kas_sort ps.length)=true)
  (k:P .next ρ ((x,some (.lst a (perm .none lt ps)))::ω)) (hname:name="sort":=by rfl) (hd:(x==("__debug__":Str))=false:=by decide)
  (hb:∀env,attributeBase (.Name x px) name env (eval (.Name x px) env)=eval (.Name x px) env:=by intro _;rfl)
  (hl:(apos.endLine==pos.line)=true:=by rfl) (hs:∀env,swapsWith (.Call (.Attribute (.Name x px) name apos) [] [] pos) none pos'.line env=pure false:=by intro _;rfl):
  aF X n sc ρ ω (.Expr (.Call (.Attribute (.Name x px) name apos) [] [] pos) pos') P R:=by
 subst hname
 intro A env s G D Q E rm wr r k1 k2
 refine wpAny_Expr_any (Call_method0 (hb env) hl (ownName r hx hd ?_)) (fB r) (hs env)
 obtain⟨vs,pl,dd⟩:=r.held.at_ x _ hx
 refine⟨"list",_,PySem.F.plainAttrs_list,PySem.F.slot_list_sort,PySem.F.type_list_sort,pl.isList.typeIs,fun b e=>?_,?_⟩
 ·cases e
  obtain⟨c,e⟩:=pl
  exact⟨_,e,rfl⟩
 refine Calls.callWith_builtin rfl ?_
 show wpAny _ A (evalArgs (.builtin _) true [] []) _ _ _
 unfold evalArgs
 show wpAny _ A (spliced []>>=_) _ _ s
 refine yI (spliced_nil ?_)
 refine yI (yJ (wpAny_holding ?_))
 refine yI (yJ (yI (yJ (yJ ?_))))
 have nx:=r.eI hx a (by simp[Own.fp])
 obtain⟨m,ho⟩:=id pl
 refine wpAny_call_entry slot_list_sort pl.isList.typeIs entry_list_sort (kA ok r.er.base pl dd nx.1 nx.2 h64 hin fun h' pl' hk=>⟨_,rfl,?_⟩) (args_list_sort _)
 have hk:∀(c:Addr) (o:Obj),c≠a→s.heap.get? c=some o→h'.get? c=some o:=hk
 have pl':h'.PlainList a (perm Value.none lt vs).toArray:=pl'
 have st:av X [a] s G {s with heap:=h'} G:=by
  have gn:b5 X h':=by
   refine r.er.gnd.qi (a:=a) (b:=a) (fun c o h1 _ e=>hk c o h1 e) nx.2 nx.2 ho ho (by show Value.type _≠Value.type _;decide) (by show Value.type _≠Value.type _;decide)
  exact⟨fun c o hc e=> .inl (hk c o (by simpa using hc) e),gn,Sub.refl _,fun c o e=>hk c o (fun z=>by rw[z,nx.1] at e;cases e) (r.er.within c o e),fun _ _ _ e _=>e,rfl,r.er.gens,fun _ _ e=>e⟩
 exact k1 .next _ _ _ G k (r.alter hx (o':= .lst a (perm .none lt ps)) st ⟨_,pl',aE.perm lt dd⟩ rfl rfl)
theorem jR {G:ae}:∀{l:List Int} {vs:List Value},aE G (ai l) vs→∀i,i<l.length→∃t,vs.getD i .none= .int (l.getD i 0) t
 | [],_,_,i,h=>by simp at h
 | x::l,_,⟨v,r,e,⟨t,ev⟩,y⟩,0,_=>by subst e ev;exact⟨t,rfl⟩
 | x::l,_,⟨v,r,e,_,y⟩,i+1,h=>by subst e;simpa using jR (l:=l) y i (by simpa using h)
theorem pA {G:ae} {l:List Int} {vs:List Value} (h:aE G (ai l) vs):∀v∈vs,∃i t,v= .int i t:=by
 induction l generalizing vs with
 | nil=>cases h;intro v hv;cases hv
 | cons x l ih=>
  obtain⟨v,r,rfl,⟨t,rfl⟩,y⟩:=h
  intro u hu
  rcases List.mem_cons.mp hu with rfl | hu
  ·exact⟨_,_,rfl⟩
  ·exact ih y u hu
theorem bW.ints {l:List Int}:bW X (ai l) (fun i j=>decide (l.getD i 0<l.getD j 0)):=by
 intro A G s vs w d h2
 have hlen:=d.length
 refine⟨oneType',fun Q E q=>kas_kind (T:= .type "int") (by omega) (fun v hv=>?_) rfl rfl q,fun i j hi hj C hC=>?_⟩
 ·obtain⟨i,t,rfl⟩:=pA d v hv
  exact Looks.of_pure rfl
 ·rw[ax] at hi hj
  obtain⟨t,e1⟩:=jR d i hi
  obtain⟨u,e2⟩:=jR d j hj
  rw[e1,e2]
  exact kat_lt_int hC
noncomputable def lexLt (a b:List Int):Bool:=match a,b with
 | x::a,y::b=>if x==y then lexLt a b else decide (x<y)
 | _,_=>false
theorem qD {A:Around} {s:Shared} {G:ae} {C:Bool→Shared→Prop}:∀(xs ys:List Int) (vs us:List Value) (i:Nat),aE G (ai xs) vs→aE G (ai ys) us→C (lexLt xs ys) s→KatLex X.prog X.w A true false C (vs.zip us) i s
 | [],ys,_,us,i,h1,h2,hC=>by cases h1;exact kat_nil (show C false s from hC)
 | x::xs,[],_,us,i,h1,h2,hC=>by
  cases h2
  rw[List.zip_nil_right]
  exact kat_nil (show C false s from hC)
 | x::xs,y::ys,_,_,i,⟨v,r,e,⟨t,ev⟩,d1⟩,⟨v',r',e',⟨t',ev'⟩,d2⟩,hC=>by
  subst e ev e' ev'
  rw[List.zip_cons_cons]
  have hC:C (if x==y then lexLt xs ys else decide (x<y)) s:=hC
  refine kat_cons (wpAny_eqBool_int (kat_go (fun hb=>kat_yes ?_) fun hb=>kat_no ?_))
  ·rw[hb] at hC
   exact qD xs ys r r' (i+1) d1 d2 hC
  ·rw[hb] at hC
   dsimp only[iF] at hC
   by_cases hi:i=0
   ·subst hi
    exact oneLt_int hC
   ·have:(true&&i==0)=false:=by simp[hi]
    rw[this]
    exact kat_one _ _ (PySem.P.lt_int hC)
theorem ky {G:ae} {h:Heap} (w:Sub G h.get?):∀{l:List (List Int)} {vs:List Value},(∀x∈l,x≠[])→aE G (l.map fun x=> .tup (ai x)) vs→∃fs:List Value,KatTups h vs fs∧fs.length=l.length∧∀v∈fs,∃i t,v= .int i t
 | [],_,_,d=>by cases d;exact⟨[],KatTups.nil,rfl,fun _ h=>(nomatch h)⟩
 | x::l,_,hx,⟨v,r,e,⟨a,o,us,m,ev,g,c,dd,rr⟩,y⟩=>by
  subst e ev
  obtain⟨fs,h1,h2,h3⟩:=ky w (fun z hz=>hx z (yL _ hz)) y
  cases x with
  | nil=>exact absurd rfl (hx [] List.mem_cons_self)
  | cons z x=>
   obtain⟨f,q,e,⟨t,ef⟩,_⟩:=rr
   subst e ef
   refine⟨_,KatTups.cons (w _ _ g) c dd (f:= .int z t) (by simp) h1,by simp[h2],fun v hv=>?_⟩
   rcases List.mem_cons.mp hv with rfl | hv
   ·exact⟨_,_,rfl⟩
   ·exact h3 v hv
theorem k7 {G:ae}:∀{l:List (List Int)} {vs:List Value},aE G (l.map fun x=> .tup (ai x)) vs→∀i,i<l.length→Rd G (.tup (ai (l.getD i []))) (vs.getD i .none)
 | [],_,_,i,h=>by simp at h
 | x::l,_,⟨v,r,e,d,y⟩,0,_=>by subst e;exact d
 | x::l,_,⟨v,r,e,_,y⟩,i+1,h=>by subst e;simpa using k7 (l:=l) y i (by simpa using h)
theorem bW.rK {l:List (List Int)} {m:Nat} (hm:∀x∈l,x.length=m+1):bW X (l.map fun x=> .tup (ai x)) (fun i j=>lexLt (l.getD i []) (l.getD j [])):=by
 intro A G s vs w d h2
 obtain⟨fs,k1,k2,k3⟩:=ky w (fun x hx e=>by have:=hm x hx;rw[e] at this;cases this) d
 rw[List.length_map] at h2
 refine⟨tuples' true,fun Q E q=>kat_kind (T:= .type "int") k1 (by lia) (fun v hv=>?_) rfl q,fun i j hi hj C hC=>?_⟩
 ·obtain⟨i,t,rfl⟩:=k3 v hv
  exact Looks.of_pure rfl
 ·rw[List.length_map] at hi hj
  have hlen:∀i,i<l.length→(l.getD i []).length=m+1:=fun i hi=>hm _ (by
   have:l.getD i []=l[i]:=by simp[hi]
   rw[this];exact List.getElem_mem hi)
  obtain⟨a1,o1,us1,m1,e1,g1,_,dd1,r1⟩:=k7 d i hi
  obtain⟨a2,o2,us2,m2,e2,g2,_,dd2,r2⟩:=k7 d j hj
  rw[e1,e2]
  refine kat_lt (w _ _ g1) dd1 (w _ _ g2) dd2 ?_
  have q1:=r1.length
  have q2:=r2.length
  rw[ax,hlen i hi] at q1
  rw[ax,hlen j hj] at q2
  have:decide (us1.toArray.size<us2.toArray.size)=false:=by simp;lia
  rw[this]
  exact qD _ _ us1 us2 0 r1 r2 hC
end
theorem aV.in1 {A:Around} {n:Nat} (r:aV A (n+1)):aV A.in1 n:=⟨by have:=r.1;show A.depth+n<_;omega,by have:=r.2.1;show A.units+1+16*n<_;omega,r.2.2⟩
theorem aV.xr {A:Around} {n:Nat} (r:aV A (n+1)):aV A.in1.in1 n:=⟨by have:=r.1;show A.depth+n<_;omega,by have:=r.2.1;show A.units+1+1+16*n<_;omega,r.2.2⟩
section
variable {X:Cx} {n:Nat} {sc:Scope} {ρ:az} {ω:aA}
structure Loose (X:Cx) (s:Shared) (G:ae) (a:Addr) (vs:List Value):Prop where
 at_:∃e,s.heap.get? a=some (seqObj "list" vs.toArray e)
 notG:G a=none
 eI:¬aw X a
theorem Loose.step {s s':Shared} {G G':ae} {a:Addr} {vs:List Value} (l:Loose X s G a vs) (t:Step X s G s' G'):Loose X s' G' a vs:=by
 obtain⟨e,h⟩:=l.at_
 exact⟨⟨e,bf.get' t.keep h (by nofun)⟩,t.cg l.notG h,l.eI⟩
theorem Loose.km {s s':Shared} {G G':ae} {a:Addr} {vs:List Value} {fp:List Addr} (l:Loose X s G a vs) (t:av X fp s G s' G') (h:a∉fp):Loose X s' G' a vs:=by
 obtain⟨e,ho⟩:=l.at_
 exact⟨⟨e,t.get h ho (by nofun)⟩,t.gr l.notG ho,l.eI⟩
theorem Loose.set {s:Shared} {G:ae} {a:Addr} {vs:List Value} (l:Loose X s G a vs) (b:Base X s G) (f:Array Value→Array Value) {us:List Value} (hf:f vs.toArray=us.toArray):
  av X [a] s G {s with heap:=s.heap.update a (Obj.mapSeq f)} G∧Loose X {s with heap:=s.heap.update a (Obj.mapSeq f)} G a us:=by
 obtain⟨e,ho⟩:=l.at_
 obtain⟨s1,c,h1⟩:=jP ho f
 exact⟨fD (tk:=s.toks) b ⟨e,ho⟩ s1 l.notG l.eI,⟨c,by rw[←hf];exact h1⟩,l.notG,l.eI⟩
theorem me {A:Around} {E:Value→Shared→Prop} {f:Addr} {kS:Addr} {kf:PV→PV} (rm:aV A n) {body:Value→PUnit→Sem (ForInStep PUnit)}
  (hb:∀x (s:Shared) (C:Shared→Prop),wpAny (model X.prog X.w) A (call (.ref f) [x]) (fun k s1=>∃(ks:List Value) (e:Nat),ks.length<64∧s1.heap.get? kS=some (seqObj "list" ks.toArray e)∧C {s1 with heap:=s1.heap.update kS (Obj.mapSeq (·.push k))}) (fun _ _=>False) s→
   wpAny (model X.prog X.w) A (body x ⟨⟩) (fun r s'=>r= .yield ⟨⟩∧C s') E s):
  ∀(ps:List PV) (vs:List Value) (kps:List PV) (ks:List Value) (s:Shared) (G:ae) (Q:PUnit→Shared→Prop),(∀p∈ps,cA X n f [p] [] (kf p))→Base X s G→aE G ps vs→aE G kps ks→Loose X s G kS ks→ks.length+ps.length<64→
  (∀s' G' ks',av X [kS] s G s' G'→aE G' (kps++ps.map kf) ks'→Loose X s' G' kS ks'→Q ⟨⟩ s')→wpAny (model X.prog X.w) A (forIn vs PUnit.unit body) Q E s
 | [],vs,kps,ks,s,G,Q,_,b,d,dk,lo,_,q=>by
  cases d
  rw[List.forIn_nil]
  obtain⟨e,ho⟩:=lo.at_
  exact yJ (q s G ks (.dh b.refl _ fun c hc=>by simp at hc;subst hc;exact⟨_,ho⟩) (by simpa using dk) lo)
 | p::ps,_,kps,ks,s,G,Q,hf,b,⟨v,vs,e,dv,d⟩,dk,lo,hz,q=>by
  subst e
  rw[List.forIn_cons]
  refine yI (wpAny_mono (hb v s (fun s'=>wpAny (model X.prog X.w) A (forIn vs PUnit.unit body) Q E s') (call_of (hf p List.mem_cons_self) rm b (aE.cons dv aE.nil) fun k s1 G1 t1 dk1=>?_)) (fun r s' h=>?_) fun _ _ x=>x)
  ·have lo1:=lo.step t1
   obtain⟨e,ho⟩:=lo1.at_
   refine⟨ks,e,by simp at hz;omega,ho,?_⟩
   obtain⟨t2,lo2⟩:=lo1.set t1.base (·.push k) (us:=ks++[k]) (by simp)
   refine me rm hb ps vs (kps++[kf p]) (ks++[k]) _ G1 Q (fun p' hp=>hf p' (yL _ hp)) t2.base (aE.mono t1.sub _ _ d) (aE.append (aE.mono t1.sub _ _ dk) (aE.cons dk1 aE.nil)) lo2 (by simp at hz ⊢;omega) fun s' G' ks' t3 d3 lo3=>?_
   obtain⟨e0,ho0⟩:=lo.at_
   refine q s' G' ks' (((av.dh t1 [kS] fun c hc=>by simp at hc;subst hc;exact⟨_,ho0⟩).trans t2).trans t3) (by simpa using d3) lo3
  ·obtain⟨rfl,h⟩:=h
   exact h
theorem oX {A:Around} {s:Shared} {G:ae} {a f:Addr} {ps:List PV} {vs:List Value} {kf:PV→PV} {lt:Nat→Nat→Bool} {P:PySem.Fin→Shared→Prop} {E:Value→Shared→Prop} (rm:aV A n) (hf:∀p∈ps,cA X n f [p] [] (kf p)) (ok:bW X (ps.map kf) lt) (b:Base X s G)
  (hl:s.heap.PlainList a vs.toArray) (d:aE G ps vs) (hG:G a=none) (hX:¬aw X a) (h64:ps.length<64) (hin:askIn ps.length (kas_sort ps.length)=true)
  (k:∀s' G',av X [a] s G s' G'→Loose X s' G' a (perm .none lt vs)→P (.done (.ret .none)) s'):
  wpAny (model X.prog X.w) A (ksk_tree a (.ref f) false) P E s:=by
 have hlen:=d.length
 obtain⟨m,ho⟩:=hl
 have lo0:Loose X s G a vs:=⟨⟨m,ho⟩,hG,hX⟩
 have ho:s.heap.get? a=some (seqObj "list" vs.toArray m):=ho
 have ha:a<s.heap.objs.size:=Heap.lt_size ho
 obtain⟨t1,lo1⟩:=lo0.set b (fun _=>(#[]:Array Value)) (us:=[]) rfl
 obtain⟨e1,ho1⟩:=lo1.at_
 have hz1:(s.heap.update a (Obj.mapSeq fun _=>(#[]:Array Value))).objs.size=s.heap.objs.size:=Heap.size_update ..
 have hkS:((s.heap.update a (Obj.mapSeq fun _=>(#[]:Array Value))).push (seqObj "tuple" vs.toArray 0)).objs.size=s.heap.objs.size+1:=by rw[size_push',Heap.size_update]
 unfold ksk_tree
 refine yI (listItems_at ho rfl ?_)
 refine yI (listUpdate_at ho rfl ?_ (by rw[List.size_toArray,sizeLine_eq];omega) (Nat.zero_le _))
 refine yI (seqEpoch_at ho1 rfl ?_)
 refine yI (wpAny_newTuple ?_ (by show vs.length≤_;rw[sizeLine_eq];omega))
 refine yI (wpAny_newList ?_ (Nat.zero_le _))
 refine wpAny_holding ?_
 have t2:=t1.base.fresh (seqObj "tuple" vs.toArray 0)
 have t3:=t2.base.fresh (seqObj "list" #[] 0)
 have lo3:=(lo1.step t2).step t3
 have b3:=t3.base
 have hkn:s.heap.get? ((s.heap.update a (Obj.mapSeq fun _=>(#[]:Array Value))).push (seqObj "tuple" vs.toArray 0)).objs.size=none:=eP (by rw[hkS];exact Nat.le_succ _)
 have hkA:a≠((s.heap.update a (Obj.mapSeq fun _=>(#[]:Array Value))).push (seqObj "tuple" vs.toArray 0)).objs.size:=by rw[hkS];exact Nat.ne_of_lt (Nat.lt_succ_of_lt ha)
 have loK:Loose X {s with heap:=((s.heap.update a (Obj.mapSeq fun _=>(#[]:Array Value))).push (seqObj "tuple" vs.toArray 0)).push (seqObj "list" #[] 0)} G ((s.heap.update a (Obj.mapSeq fun _=>(#[]:Array Value))).push (seqObj "tuple" vs.toArray 0)).objs.size []:=
  ⟨⟨0,Heap.get?_push_size _ rfl⟩,ao b.within hkn,fun q=>by obtain⟨o,e⟩:=b.gnd.special q;rw[hkn] at e;cases e⟩
 have t03:av X [a] s G {s with heap:=((s.heap.update a (Obj.mapSeq fun _=>(#[]:Array Value))).push (seqObj "tuple" vs.toArray 0)).push (seqObj "list" #[] 0)} G:=
  t1.trans (.dh (t2.trans t3) _ fun c hc=>by simp at hc;subst hc;exact⟨_,ho1⟩)
 generalize ((s.heap.update a (Obj.mapSeq fun _=>(#[]:Array Value))).push (seqObj "tuple" vs.toArray 0)).objs.size=kS at loK hkA hkn ⊢
 generalize hH:((s.heap.update a (Obj.mapSeq fun _=>(#[]:Array Value))).push (seqObj "tuple" vs.toArray 0)).push (seqObj "list" #[] 0)=H at loK lo3 b3 t03 ⊢
 show wpAny (model X.prog X.w) A (ksk_rest a (.ref f) false vs.toArray e1 (.ref kS)) P E {s with heap:=H}
 have lo3':Loose X {s with heap:=H} G a []:=lo3
 have he1:H.get? a=some (seqObj "list" #[] e1):=by rw[←hH];exact Heap.get?_push_of_some _ (Heap.get?_push_of_some _ ho1)
 unfold ksk_rest
 refine yI (wpAny_rule ?_)
 first
  | rw[List.forIn_toArray]
  | (rw[←Array.forIn_toList];simp only[List.toList_toArray])
  | rw[←Array.forIn_toList]
 refine yI (me (kS:=kS) (kf:=kf) rm (fun x s' C hx=>?_) ps vs [] [] {s with heap:=H} G _ hf b3 d aE.nil loK (by simpa using h64) fun s4 G4 ks t4 dk lo4=>?_)
 ·refine yI (wpAny_attempt (wpAny_mono hx (fun k s'' hk=>?_) fun _ _ hF=>hF.elim))
  obtain⟨ks,e,hz,hko,hC⟩:=hk
  try dsimp only
  refine yI (listUpdate_at hko rfl ?_ (by rw[List.size_toArray,sizeLine_eq];omega) (yN (Nat.le_of_eq (Array.size_push ..)) (by rw[List.size_toArray,sizeLine_eq];lia)))
  exact yJ ⟨rfl,hC⟩
 ·have hkl:ks.length=vs.length:=by have:=dk.length;simp at this;omega
  obtain⟨e4,hk4⟩:=lo4.at_
  have hnk:a∉[kS]:=by simpa using hkA
  have la4:=lo3'.km t4 hnk
  have ha4:s4.heap.get? a=some (seqObj "list" #[] e1):=t4.get hnk he1 (by nofun)
  refine yI (listItems_at hk4 rfl ?_)
  have dv4:aE G4 ps vs:=aE.mono t4.sub _ _ d
  unfold ksk_end
  dsimp only[iF]
  have fin:∀(st:SortSt) (out:List Value),(arrOf st).map (·.2)=out.toArray→failedOf st=none→out.length≤64→out=perm .none lt vs→wpAny (model X.prog X.w) A (ksk_tail a false e1 (.ref kS) st) P E s4:=by
   intro st out hout hf' hz hp
   unfold ksk_tail
   try dsimp only
   rw[hout]
   obtain⟨t5,lo5⟩:=lo4.set t4.base (fun _=>(#[]:Array Value)) (us:=[]) rfl
   have la5:=la4.km t5 hnk
   have ha5:(s4.heap.update kS (Obj.mapSeq fun _=>(#[]:Array Value))).get? a=some (seqObj "list" #[] e1):=t5.get hnk ha4 (by nofun)
   obtain⟨t6,lo6⟩:=la5.set t5.base (fun _=>out.toArray) (us:=out) rfl
   refine yI (listUpdate_at hk4 rfl ?_ (by rw[List.size_toArray,sizeLine_eq];lia) (Nat.zero_le _))
   refine yI (wpAny_letGo ?_)
   refine yI (seqEpoch_at ha5 rfl ?_)
   dsimp only[iF]
   refine yI (listUpdate_at ha5 rfl ?_ (Nat.zero_le _) (by rw[List.size_toArray,sizeLine_eq];omega))
   rw[hf']
   simp only[bne_self_eq_false,Bool.false_eq_true,if_false]
   refine yJ (k _ G4 ?_ (by rw[←hp];exact lo6))
   have w1:∀{u u':Shared} {U U':ae},av X [kS] u U u' U'→(∃o,u.heap.get? a=some o)→av X [a,kS] u U u' U':=fun t h=>t.mono (fun c hc=>by simp at hc ⊢;exact .inr hc) fun c hc hc'=>by
    simp at hc hc'
    rcases hc with rfl | rfl
    ·exact h
    ·exact absurd rfl hc'
   have w2:∀{u u':Shared} {U U':ae},av X [a] u U u' U'→(∃o,u.heap.get? kS=some o)→av X [a,kS] u U u' U':=fun t h=>t.mono (fun c hc=>by simp at hc ⊢;exact .inl hc) fun c hc hc'=>by
    simp at hc hc'
    rcases hc with rfl | rfl
    ·exact absurd rfl hc'
    ·exact h
   obtain⟨e5,hk5⟩:=lo5.at_
   have t46:=((w1 t4 ⟨_,he1⟩).trans (w1 t5 ⟨_,ha4⟩)).trans (w2 t6 ⟨_,hk5⟩)
   refine⟨fun c o hc e=>?_,t46.gnd,t03.sub.trans t46.sub,t46.within,fun c o o' e h=>?_,t46.os.trans t03.os,t46.gens,fun c hc e=>?_⟩
   ·have hcn:c∉[a,kS]:=by
     simp at hc ⊢
     exact⟨hc,fun z=>by rw[z,hkn] at e;cases e⟩
    rcases t03.keep c o hc e with x | ⟨t,ht,q,vs,more,r,g⟩
    ·exact t46.keep c o hcn x
    ·rcases t46.keep c _ hcn g with x | ⟨t',ht',q',vs',more',r',g'⟩
     ·exact .inr ⟨t,ht,q,vs,more,r,x⟩
     ·have:vs++more=vs':=by
       have:=congrArg Obj.data r'
       simpa [lJ] using this
      exact .inr ⟨t,ht,q,vs,more++more',r,by rw[g',←this,Array.append_assoc]⟩
   ·by_cases hc:c=a
    ·subst hc;rw[t46.off c (by simp) (t03.off c (by simp) hG)] at e;cases e
    ·obtain⟨o1,h1⟩:=t03.there (by simpa using hc) h
     exact t03.low c o o' (t46.low c o o1 e h1) h
   ·simp at hc;subst hc
    exact t46.off c (by simp) (t03.off c (by simp) e)
  by_cases hn:ps.length<2
  ·have hn2:vs.toArray.size<2:=by rw[List.size_toArray];omega
   rw[if_pos hn2,if_pos hn2]
   refine yI (yJ ?_)
   refine yI (yJ ?_)
   refine fin _ vs ?_ rfl (by omega) ?_
   ·show((ks.toArray.zip vs.toArray).map (·.2))=vs.toArray
    apply Array.ext (by simp;lia)
    intro i h1 h2;simp
   ·unfold perm;rw[if_pos (by omega)]
  ·have hn2:¬vs.toArray.size<2:=by rw[List.size_toArray];lia
   rw[if_neg hn2,if_neg hn2]
   obtain⟨κ,hk,hlt⟩:=ok A G4 s4 ks t4.within (by simpa using dk) (by simp;omega)
   refine yI (hk _ _ ?_)
   refine yI (wpAny_mono (nU (Q:=fun st s'=>s'=s4∧(arrOf st).map (·.2)=(perm .none lt vs).toArray∧failedOf st=none∧(perm .none lt vs).length=vs.length) hkl (by omega) (by omega) (by rw[hlen];exact hin) (fun i j hi hj C hC=>hlt i j (by simp;lia) (by simp;lia) C hC) fun st' h1 h2 h3=>⟨rfl,h1,h2,h3⟩) ?_ fun _ _ e=>e)
   (intro zz;obtain⟨⟨⟩,st⟩:=zz;intro s' zz;obtain⟨rfl,h1,h2,h3⟩:=zz)
   exact fin st _ h1 h2 (by lia) rfl
end
noncomputable def Cx.ext (X:Cx) (l:Frag):Cx:={X with K:=X.K++l}
theorem jY {α:Type} {a b:List (Nat×α)} {x:Nat} {o:α} (h:a.lookup x=some o):(a++b).lookup x=some o:=by
 induction a with
 | nil=>cases h
 | cons q r ih=>
  obtain⟨y,z⟩:=q
  rw[List.cons_append,List.lookup_cons] at *
  cases hb:x==y with
  | true=>rw[hb] at h;exact h
  | false=>rw[hb] at h;exact ih h
theorem ki {α:Type} {a b:List (Nat×α)} {x:Nat} {o:α} (h:(a++b).lookup x=some o):a.lookup x=some o∨(a.lookup x=none∧b.lookup x=some o):=by
 induction a with
 | nil=>exact .inr ⟨rfl,h⟩
 | cons q r ih=>
  obtain⟨y,z⟩:=q
  rw[List.cons_append,List.lookup_cons] at h
  rw[List.lookup_cons]
  cases hb:x==y with
  | true=>rw[hb] at h;exact .inl h
  | false=>rw[hb] at h;exact ih h
theorem jl {α:Type} {a b:List (Nat×α)} {x:Nat} (h:a.lookup x=none):(a++b).lookup x=b.lookup x:=by
 induction a with
 | nil=>rfl
 | cons q r ih=>
  obtain⟨y,z⟩:=q
  rw[List.lookup_cons] at h
  rw[List.cons_append,List.lookup_cons]
  cases hb:x==y with
  | true=>rw[hb] at h;cases h
  | false=>rw[hb] at h;exact ih h
theorem b5.ext {X:Cx} {l:Frag} {h:Heap} (g:b5 X h) (hl:∀a o,l.lookup a=some o→h.get? a=some o):b5 (X.ext l) h:=
 ⟨fun a o e=>by rcases ki e with e | ⟨_,e⟩;exact g.kin a o e;exact hl a o e,g.g,g.b,g.nolimit,g.nodigits,g.builtins,g.bmain,g.tabs⟩
theorem b5.shrink {X:Cx} {l:Frag} {h:Heap} (g:b5 (X.ext l) h):b5 X h:=
 ⟨fun a o e=>g.kin a o (jY e),g.g,g.b,g.nolimit,g.nodigits,g.builtins,g.bmain,g.tabs⟩
theorem Step.shrink {X:Cx} {l:Frag} {s s':Shared} {G G':ae} (t:Step (X.ext l) s G s' G'):Step X s G s' G':=⟨t.keep,t.gnd.shrink,t.sub,t.within,t.low,t.os,t.gens⟩
theorem Base.ext' {X:Cx} {l:Frag} {s:Shared} {G:ae} (b:Base X s G) (hl:∀a o,l.lookup a=some o→s.heap.get? a=some o):Base (X.ext l) s G:=⟨b.gnd.ext hl,b.within,b.gens⟩
theorem iO {pos:Pos} {p:Pos} {c d:Value} (l:List Value) (h:TriplesOk l) (e:codeAmong pos (l++[rawInt p.line,rawInt p.col,c])=some d):codeAmong pos l=some d∨d=c:=by
 fun_induction TriplesOk l with
 | case1=>
  simp only[List.nil_append,rawInt,codeAmong] at e
  split at e
  ·cases e;exact .inr rfl
  ·cases e
 | case2 a t b u x rest ih=>
  simp only[List.cons_append,codeAmong] at e ⊢
  split at e
  ·rename_i hc
   rw[if_pos hc];exact .inl e
  ·rename_i hc
   rw[if_neg hc];exact ih h e
 | case3=>exact h.elim
theorem b5.table {X:Cx} {h h':Heap} {c P c':Addr} {q:Str} {ps:Array Value} {pos:Pos} (g:b5 X h) (hx:Heap.ExtBut P h h') (ht:(c,P,q)∈X.tabs) (huniq:∀t∈X.tabs,t.2.1=P→t=(c,P,q)) (hK:X.K.lookup P=none)
  (hP:h.TableAt c P ps) (hcode:h'.IsCode c P (ps++ #[rawInt pos.line,rawInt pos.col, .ref c'])) (hT:h'.TableAt c P (ps++ #[rawInt pos.line,rawInt pos.col, .ref c'])) (htr:TriplesOk ps.toList)
  (hD:∀pos d,codeAmong pos ps.toList=some d→∃x o,d= .ref x∧h.get? x=some o∧o.cls= .type "code"∧h.CodeRec d q) (hrec:h'.CodeRec (.ref c') q) (hcl:∃o,h'.get? c'=some o∧o.cls= .type "code"):b5 X h':=by
 have hPo:=hP.2
 have nsP:∀{a m},h.Ns a m→a≠P:=fun {a m} x e=>by
  subst e
  obtain⟨o,es,ep,ho,hd,_⟩:=x
  rw[hPo] at ho;cases ho;cases hd
 refine⟨fun b o e=>hx b o (fun z=>by rw[z,hK] at e;cases e) (g.kin b o e),g.g.extBut hx (nsP g.g),g.b.extBut hx (nsP g.b),?_,?_,g.builtins,?_,fun t ht'=>?_⟩
 ·obtain⟨mc,a,b⟩:=g.nolimit;exact⟨mc,a.extBut hx (nsP a),b⟩
 ·obtain⟨mc,a,b⟩:=g.nodigits;exact⟨mc,a.extBut hx (nsP a),b⟩
 ·obtain⟨bm,ob,a,b,c1,d1⟩:=g.bmain
  exact⟨bm,ob,a,b,hx _ _ (fun z=>by rw[z,hPo] at c1;cases c1;cases d1.1) c1,d1⟩
 ·by_cases e:t.2.1=P
  ·have:=huniq t ht' e
   subst this
   obtain⟨ne,_⟩:=g.tabs _ ht'
   refine⟨ne,_,hcode,hT,fun p d e=>?_⟩
   have:(ps++ #[rawInt pos.line,rawInt pos.col, .ref c']).toList=ps.toList++[rawInt pos.line,rawInt pos.col, .ref c']:=by simp
   rw[this] at e
   rcases iO _ htr e with e | e
   ·obtain⟨x,o,e1,e2,e3,e4⟩:=hD p d e
    subst e1
    have hx2:x≠P:=fun z=>by rw[z,hPo] at e2;cases e2;exact absurd e3 (by show ¬(Value.none=Value.type _);nofun)
    obtain⟨_,o',vs,t',q1,q2,q3,q4⟩:=e4
    cases q1
    exact⟨x,o,rfl,hx _ _ hx2 e2,e3,_,o',vs,t',rfl,hx _ _ hx2 q2,q3,q4⟩
   ·subst e
    obtain⟨o,ho,hc⟩:=hcl
    exact⟨c',o,rfl,ho,hc,hrec⟩
  ·obtain⟨ne,ps',A,B,D⟩:=g.tabs t ht'
   have hc:t.1≠P:=fun z=>by
    obtain⟨⟨o,vs,ho,hcc,_⟩,_⟩:=B
    rw[z,hPo] at ho;cases ho;cases hcc
   refine⟨ne,ps',A.extBut hx hc e,B.extBut hx hc e,fun p d e'=>?_⟩
   obtain⟨x,o,e1,e2,e3,e4⟩:=D p d e'
   subst e1
   have hx2:x≠P:=fun z=>by rw[z,hPo] at e2;cases e2;exact absurd e3 (by show ¬(Value.none=Value.type _);nofun)
   obtain⟨_,o',vs,t',q1,q2,q3,q4⟩:=e4
   cases q1
   exact⟨x,o,rfl,hx _ _ hx2 e2,e3,_,o',vs,t',rfl,hx _ _ hx2 q2,q3,q4⟩
structure ye (h:Heap) (f:Addr) (params:Arguments) (body:PySem.Expr) (scope:Scope) (q:Str) (cl:List (Str×Addr)):Prop where
 at_:∃pm cv ctv,h.get? f=some {cls:= .type "function",data:= .func (kla_fn "<lambda>" q params body scope cl pm cv ctv)}∧h.CodeRec cv q
section
variable {X:Cx} {n:Nat} {sc:Scope} {ρ:az} {ω:aA}
theorem wO {params:Arguments} {body:PySem.Expr} {scope:Scope} {pos:Pos} {c P:Addr} {q:Str} (hcode:X.codeOf sc=some (.ref c,q)) (htab:(c,P,q++"<lambda>")∈X.tabs) (huniq:∀t∈X.tabs,t.2.1=P→t=(c,P,q++"<lambda>")) (hK:X.K.lookup P=none)
  (hdef:∀env,defaultsOf params env=([],[])) (hfree:∀x∈scope.names,x.2= .free→((ρ.lookup x.1).join).isSome=true∧(sc.names.lookup x.1=some .cell∨sc.names.lookup x.1=some .free))
  {A:Around} {env:Env} {s:Shared} {G:ae} {Q E:Value→Shared→Prop} (rm:aV A n) (ev:bU X env sc ρ s G)
  (k:∀f cl s',Step X s G s' G→s.heap.get? f=none→G f=none→ye s'.heap f params body scope (q++"<lambda>") cl→(∀x∈scope.names,x.2= .free→cl.lookup x.1=env.cells.lookup x.1)→Q (.ref f) s'):
  wpAny (model X.prog X.w) A (eval (.Lambda params body scope pos) env) Q E s:=by
 obtain⟨hc,hq⟩:=ev.cod _ _ hcode
 obtain⟨cl,hcl,hcl2⟩:∃cl,closureFor scope env=pure cl∧∀q∈scope.names,q.2= .free→cl.lookup q.1=env.cells.lookup q.1:=by
  refine ey fun q hq hf=>?_
  obtain⟨h1,h2⟩:=hfree q hq hf
  obtain⟨p,hp⟩:=Option.isSome_iff_exists.mp h1
  have hl:ρ.lookup q.1=some (some p):=by
   cases e:ρ.lookup q.1 with
   | none=>rw[e] at hp;cases hp
   | some z=>rw[e] at hp;rw[←hp];rfl
  obtain⟨v,a,_⟩:=ev.vars q.1 p hl
  rcases a.cases with⟨hk,_⟩ | ⟨c,h,_⟩
  ·rw[bh ev.scope] at hk
   rcases h2 with h2 | h2<;>rw[hk] at h2<;>cases h2
  ·exact⟨c,h⟩
 have g:=ev.gnd
 obtain⟨ne,ps,IC,TA,DD⟩:=g.tabs _ htab
 dsimp only at ne IC TA DD
 have htr:TriplesOk ps.toList:=by
  obtain⟨_,_,_,_,_,_,_,_,_,op,_,_,_,_,_,_,_,hop,hpd,htr,_⟩:=id IC
  have:=TA.2
  rw[hop] at this
  cases this
  cases hpd
  exact htr
 obtain⟨bm,ob,hbm,hne0,hbo,hcls,hdict,hdata⟩:=g.bmain
 have hPo:=TA.2
 have hneP:bm≠P:=fun z=>by rw[z,hPo] at hbo;cases hbo;cases hcls
 have hgP:mainGlobals≠P:=fun z=>by
  obtain⟨o,es,ep,ho,hd,_⟩:=g.g
  rw[z,hPo] at ho;cases ho;cases hd
 refine kla_eval (hdef env) ?_
 rw[hq,makeFunction_eq]
 simp only[List.zip_nil_right,List.filterMap_nil,List.isEmpty_nil,if_true,pure_bind]
 unfold makeTail
 rw[hcl,ev.globals]
 refine yI (yJ ?_)
 have fin:∀(h':Heap) (tk:Tok) (pm cv ctv:Value),(∀b o,s.heap.get? b=some o→h'.get? b=some o∨rR X h' b o)→b5 X h'→h'.CodeRec cv (q++"<lambda>")→
   Q (.ref h'.objs.size) {s with heap:=h'.push {cls:= .type "function",data:= .func (kla_fn "<lambda>" (q++"<lambda>") params body scope cl pm cv ctv)},toks:=tk}:=by
  intro h' tk pm cv ctv grows gn hrec
  have hfn:h'.get? h'.objs.size=none:=aq _
  have hfs:s.heap.get? h'.objs.size=none:=by
   cases z:s.heap.get? h'.objs.size with
   | none=>rfl
   | some o=>
    rcases grows _ _ z with y | ⟨_,_,_,_,_,_,y⟩<;>rw[hfn] at y<;>cases y
  have wi:Sub G h'.get?:=fun b o e=>by
   rcases grows b o (ev.within b o e) with y | ⟨t,ht,z,vs,more,r,y⟩
   ·exact y
   ·rw[z,ev.gens.2 t ht] at e;cases e
  have st1:Step X s G {s with heap:=h',toks:=tk} G:=⟨grows,gn,Sub.refl _,wi,fun _ _ _ e _=>e,rfl,ev.gens⟩
  have st2:=st1.base.fresh {cls:= .type "function",data:= .func (kla_fn "<lambda>" (q++"<lambda>") params body scope cl pm cv ctv)}
  exact k _ cl _ (st1.trans st2) hfs (ao ev.within hfs) ⟨pm,cv,ctv,Heap.get?_push_size _ rfl,hrec.keeps (a8 _)⟩ hcl2
 have hits:∀(h1:Heap) {cv:Value},(∀b o,s.heap.get? b=some o→h1.get? b=some o)→codeAmong pos ps.toList=some cv→h1.CodeRec cv (q++"<lambda>"):=fun h1 cv hk e=>by
  obtain⟨x,o,e1,e2,e3,e4⟩:=DD pos cv e
  exact e4.keeps hk
 cases cl with
 | nil=>
  dsimp only[List.isEmpty_nil,iT]
  refine yI (yJ ?_)
  cases ef:codeAmong pos ps.toList with
  | none=>
   refine yI (wpAny_functionCodeX hc IC TA ef fun c' h' tk' hx hge hlt hIC hrec hTA hnew=>?_)
   obtain⟨P',_,_,⟨⟨o',vs',ho',hcc',_⟩,_⟩⟩:=hnew
   have g2:b5 X h':=g.table hx htab huniq hK TA hIC hTA htr DD hrec ⟨o',ho',hcc'⟩
   refine yI (wpAny_builtinsFor g2.g hbm hne0 (hx _ _ hneP hbo) hcls hdict hdata ?_)
   refine yI (wpAny_nsGet g2.g ?_)
   refine yI (yJ (wpAny_newObj_type (fin h' _ _ _ _ (fun b o e=>?_) g2 hrec) (by size_fits)))
   by_cases z:b=P
   ·subst z
    rw[hPo] at e;cases e
    exact .inr ⟨_,htab,rfl,ps,_,rfl,hTA.2⟩
   ·exact .inl (hx b o z e)
  | some cv=>
   refine yI (wpAny_functionCode_hit hc IC ef ?_)
   refine yI (wpAny_builtinsFor g.g hbm hne0 hbo hcls hdict hdata ?_)
   refine yI (wpAny_nsGet g.g ?_)
   exact yI (yJ (wpAny_newObj_type (fin s.heap _ _ _ _ (fun b o e=> .inl e) g (hits _ (fun _ _ e=>e) ef)) (by size_fits)))
 | cons z r=>
  dsimp only[List.isEmpty_cons,iF]
  refine yI (wpAny_newTextTuple ?_)
  cases ef:codeAmong pos ps.toList with
  | none=>
   refine yI (wpAny_functionCodeX hc (IC.push _) (TA.push _) ef fun c' h' tk' hx hge hlt hIC hrec hTA hnew=>?_)
   obtain⟨P',_,_,⟨⟨o',vs',ho',hcc',_⟩,_⟩⟩:=hnew
   have hx':Heap.ExtBut P s.heap h':=fun b o hb e=>hx b o hb (Heap.get?_push_of_some _ e)
   have g2:b5 X h':=g.table hx' htab huniq hK TA hIC hTA htr DD hrec ⟨o',ho',hcc'⟩
   refine yI (wpAny_builtinsFor g2.g hbm hne0 (hx' _ _ hneP hbo) hcls hdict hdata ?_)
   refine yI (wpAny_nsGet g2.g ?_)
   refine yI (yJ (wpAny_newObj_type (fin h' _ _ _ _ (fun b o e=>?_) g2 hrec) (by size_fits)))
   by_cases z:b=P
   ·subst z
    rw[hPo] at e;cases e
    exact .inr ⟨_,htab,rfl,ps,_,rfl,hTA.2⟩
   ·exact .inl (hx' b o z e)
  | some cv=>
   refine yI (wpAny_functionCode_hit hc (IC.push _) ef ?_)
   have gpA:∀o,b5 X (s.heap.push o):=fun o=>g.keeps (a8 o)
   refine yI (wpAny_builtinsFor (gpA _).g hbm hne0 (Heap.get?_push_of_some _ hbo) hcls hdict hdata ?_)
   refine yI (wpAny_nsGet (gpA _).g ?_)
   exact yI (yJ (wpAny_newObj_type (fin _ _ _ _ _ (fun b o e=> .inl (a8 _ b o e)) (gpA _) (hits _ (a8 _) ef)) (by size_fits)))
end
noncomputable def PV.con:PV→Bool
 | .none | .bool _ | .int _ | .str _ | .opq _=>true
 | _=>false
theorem Rd.con {G G':ae}:∀{p:PV} {v:Value},p.con=true→Rd G p v→Rd G' p v
 | .none,_,_,x=>x
 | .bool _,_,_,x=>x
 | .int _,_,_,x=>x
 | .str _,_,_,x=>x
 | .opq _,_,_,x=>x
 | .tup _,_,h,_=>by cases h
 | .lst _,_,h,_=>by cases h
 | .ins _ _ _ _ _,_,h,_=>by cases h
section
variable {X:Cx} {n:Nat} {sc:Scope} {ρ:az} {ω:aA}
theorem cA.lam {f:Addr} {params:Arguments} {body:PySem.Expr} {scope:Scope} {q:Str} {cl:List (Str×Addr)} {pm cv ctv:Value} {x:Str} {p r:PV} {τ:az}
  (hk:X.K.lookup f=some {cls:= .type "function",data:= .func (kla_fn "<lambda>" q params body scope cl pm cv ctv)}) (hrec:∀h,b5 X h→h.CodeRec cv q)
  (hbind:∀fd:FuncData,fd.params=params→fd.defaults= .none→fd.kwdefaults= .none→∀v:Value,bindArgs fd ⟨[v],[]⟩=pure [(x,v)]) (hx:scope.names.lookup x=some .local) (hcell:∀y∈scope.names,y.2≠ .cell) (hkind:scope.kind= .function) (hco:scope.isCoroutine=false) (hgen:scope.isGenerator=false)
  (hcod:X.codeOf scope=none) (hτ:∀y u,τ.lookup y=some (some u)→y≠x∧scope.names.lookup y=some .free∧(y==("__classdict__":Str))=false∧∃c o v,cl.lookup y=some c∧X.K.lookup c=some o∧o.data= .cell (some v)∧∀G,Rd G u v)
  (hb:aa X n scope ((x,some p)::τ) body r):cA X (n+1) f [p] [] r:=by
 intro A s G vs kvs R rm bs hv hkv k
 obtain⟨v,_,rfl,dv,rfl⟩:=hv
 have hkv':kvs=[]:=hkv
 subst hkv'
 have hdep:A.depth<recursionLimit:=by have:=rm.1;omega
 show codeAny _ A (.call (.ref f) ⟨[v],[]⟩) R s
 refine kla_callFunE hdep (bs.gnd.kin _ _ hk) rfl hco hgen rfl (hrec _ bs.gnd) ?_
 rw[hbind _ rfl rfl rfl]
 refine yJ (wpAny_newFunctionEnv hcell (by intro y hy;simp at hy;subst hy;exact hx) (fun h₁ hns hsb=>?_) hkind)
 have old:∀b o,s.heap.get? b=some o→h₁.get? b=some o:=fun b o e=>hsb.extBut b o (Nat.ne_of_lt (Heap.lt_size e)) (Heap.get?_push_of_some _ e)
 have st:=bs.ext (h':=h₁) (tk:=s.toks+([(x,v)]:List (Str×Value)).length) old
 refine⟨bs.gnd.nolimit.keeps old,kla_codeExpr ?_⟩
 refine hb (A.deeper _) _ _ G _ _ rm.deeper ⟨st.gnd,st.within,st.gens,rfl,hkind,rfl,rfl,fun _ _ e=>?_,fun y u e=>?_⟩ fun v' s' G' t d=>k v' s' G' (st.trans t) d
 ·rw[hcod] at e;cases e
 ·by_cases hy:y=x
  ·subst hy
   rw[aM] at e;cases e
   exact⟨v, .local hx hns (by simp),dv⟩
  ·rw[aN hy] at e
   obtain⟨_,h1,h2,c,o,u',h3,h4,h5,h6⟩:=hτ y u e
   exact⟨u', .free h1 h2 h3 ⟨o,st.gnd.kin _ _ h4,h5⟩,h6 _⟩
theorem kh {α:Type} {l:List (Nat×α)} {h:Nat→Option α} (hl:∀e∈l,h e.1=some e.2) {a:Nat} {o:α} (e:l.lookup a=some o):h a=some o:=by
 induction l with
 | nil=>cases e
 | cons q r ih=>
  obtain⟨y,w⟩:=q
  rw[List.lookup_cons] at e
  cases hb:a==y with
  | true=>
   rw[hb] at e
   have h1:=hl (y,w) List.mem_cons_self
   rw[beq_iff_eq.mp hb]
   rw[←Option.some.inj e];exact h1
  | false=>rw[hb] at e;exact ih (fun e he=>hl e (yL _ he)) e
theorem j' {α:Type} {l:List (Nat×α)} {h:Nat→Option α} (hl:∀e∈l,h e.1=some e.2) {a:Nat} {o:α} (hm:(a,o)∈l):l.lookup a=some o:=by
 induction l with
 | nil=>cases hm
 | cons q r ih=>
  obtain⟨y,z⟩:=q
  rw[List.lookup_cons]
  cases hb:a==y with
  | true=>
   have e1:=beq_iff_eq.mp hb
   have h1:=hl (y,z) List.mem_cons_self
   have h2:=hl (a,o) hm
   dsimp only at h1 h2
   rw[e1,h1] at h2
   cases h2;rfl
  | false=>
   rcases List.mem_cons.mp hm with e | hm
   ·cases e;simp at hb
   ·exact ih (fun e he=>hl e (yL _ he)) hm
theorem wC {params:Arguments} {body:PySem.Expr} {scope:Scope} {pos:Pos} {c P:Addr} {q x:Str} (hcode:X.codeOf sc=some (.ref c,q)) (htab:(c,P,q++"<lambda>")∈X.tabs) (huniq:∀t∈X.tabs,t.2.1=P→t=(c,P,q++"<lambda>")) (hK:X.K.lookup P=none)
  (hdef:∀env,defaultsOf params env=([],[])) (hfree:∀x∈scope.names,x.2= .free→((ρ.lookup x.1).join).isSome=true∧(sc.names.lookup x.1=some .cell∨sc.names.lookup x.1=some .free))
  (hbind:∀fd:FuncData,fd.params=params→fd.defaults= .none→fd.kwdefaults= .none→∀v:Value,bindArgs fd ⟨[v],[]⟩=pure [(x,v)]) (hx:scope.names.lookup x=some .local) (hcell:∀y∈scope.names,y.2≠ .cell) (hsame:∀y∈scope.names,y.2= .free→scope.names.lookup y.1=some .free∧(y.1==("__classdict__":Str))=false) (hkind:scope.kind= .function) (hco:scope.isCoroutine=false) (hgen:scope.isGenerator=false)
  (hcod:X.codeOf scope=none) (hcon:∀y u,(dz scope ρ).lookup y=some (some u)→u.con=true)
  {A:Around} {env:Env} {s:Shared} {G:ae} {Q E:Value→Shared→Prop} (rm:aV A n) (ev:bU X env sc ρ s G)
  (k:∀f l s',Step X s G s' G→(∀a o,l.lookup a=some o→s'.heap.get? a=some o)→(∀n' p r,aa (X.ext l) n' scope ((x,some p)::dz scope ρ) body r→cA (X.ext l) (n'+1) f [p] [] r)→
   (∃fd:FuncData,(X.ext l).K.lookup f=some ⟨.type "function",none, .func fd, #[]⟩)→Q (.ref f) s'):
  wpAny (model X.prog X.w) A (eval (.Lambda params body scope pos) env) Q E s:=by
 refine wO hcode htab huniq hK hdef hfree rm ev fun f cl s' t hn hG hL hcl=>?_
 obtain⟨pm,cv,ctv,hf,hrec⟩:=hL
 obtain⟨cc,oc,vs,tq,rfl,hoc,hdc,hvc⟩:=id hrec
 have hcells:∀y u,(dz scope ρ).lookup y=some (some u)→∃a o v,cl.lookup y=some a∧s'.heap.get? a=some o∧o.data= .cell (some v)∧∀G,Rd G u v:=by
  intro y u e
  obtain⟨hm,hl⟩:=e9 e
  obtain⟨v,a,b⟩:=ev.vars y u hl
  rcases a.cases with⟨hk,_⟩ | ⟨a,h1,h2,_⟩
  ·rw[bh ev.scope] at hk
   rcases(hfree _ hm rfl).2 with h2 | h2<;>(dsimp only at h2;rw[hk] at h2;cases h2)
  ·obtain⟨o,ho,hd⟩:=t.keep.cell h2
   exact⟨a,o,v,(hcl _ hm rfl).trans h1,ho,hd,fun G'=>Rd.con (hcon y u e) b⟩
 let objs:List (Nat×Obj):=(f,{cls:= .type "function",data:= .func (kla_fn "<lambda>" (q++"<lambda>") params body scope cl pm (.ref cc) ctv)})::(cc,oc)::(cl.filterMap fun e=>(s'.heap.get? e.2).map fun o=>(e.2,o))
 have hobjs:∀e∈objs,s'.heap.get? e.1=some e.2:=by
  intro e he
  rcases List.mem_cons.mp he with rfl | he
  ·exact hf
  ·rcases List.mem_cons.mp he with rfl | he
   ·exact hoc
   ·obtain⟨z,hz,e2⟩:=List.mem_filterMap.mp he
    cases w:s'.heap.get? z.2 with
    | none=>rw[w] at e2;cases e2
    | some o=>rw[w] at e2;cases e2;exact w
 have inK:∀a o,(a,o)∈objs→(X.ext objs).K.lookup a=some o:=by
  intro a o hm
  have h1:=j' (h:=s'.heap.get?) hobjs hm
  show(X.K++objs).lookup a=some o
  cases e:X.K.lookup a with
  | some o'=>
   have h2:=t.gnd.kin a o' e
   have h3:=hobjs (a,o) hm
   dsimp only at h3
   rw[h2] at h3;cases h3
   exact jY e
  | none=>rw[jl e];exact h1
 refine k f objs s' t (fun a o e=>kh hobjs e) (fun n' p r hb=>?_) ⟨_,inK _ _ List.mem_cons_self⟩
 refine cA.lam (τ:=dz scope ρ) (inK _ _ List.mem_cons_self) (fun h g=>?_) hbind hx hcell hkind hco hgen hcod (fun y u e=>?_) hb
 ·exact⟨cc,oc,vs,tq,rfl,g.kin _ _ (inK cc oc (by simp[objs])),hdc,hvc⟩
 ·obtain⟨a,o,v,h1,h2,h3,h4⟩:=hcells y u e
  obtain⟨hm,_⟩:=e9 e
  obtain⟨e1,e2⟩:=hsame _ hm rfl
  refine⟨fun z=>(by subst z;dsimp only at e1;rw[hx] at e1;cases e1),e1,e2,a,o,v,h1,inK a o ?_,h3,h4⟩
  refine yL _ (yL _ (List.mem_filterMap.mpr ⟨(y,a),mem_of_lookup h1,?_⟩))
  show(s'.heap.get? a).map _=_
  rw[h2];rfl
structure rQ (X:Cx) (sc:Scope) (ρ:az) (params:Arguments) (scope:Scope) (x:Str) (c P:Addr) (q:Str):Prop where
 code:X.codeOf sc=some (.ref c,q)
 tab:(c,P,q++"<lambda>")∈X.tabs
 uniq:∀t∈X.tabs,t.2.1=P→t=(c,P,q++"<lambda>")
 nK:X.K.lookup P=none
 dflt:∀env,defaultsOf params env=([],[])
 free:∀x∈scope.names,x.2= .free→((ρ.lookup x.1).join).isSome=true∧(sc.names.lookup x.1=some .cell∨sc.names.lookup x.1=some .free)
 bind:∀fd:FuncData,fd.params=params→fd.defaults= .none→fd.kwdefaults= .none→∀v:Value,bindArgs fd ⟨[v],[]⟩=pure [(x,v)]
 par:scope.names.lookup x=some .local
 nocell:∀y∈scope.names,y.2≠ .cell
 same:∀y∈scope.names,y.2= .free→scope.names.lookup y.1=some .free∧(y.1==("__classdict__":Str))=false
 kind:scope.kind= .function
 co:scope.isCoroutine=false
 gen:scope.isGenerator=false
 aW:X.codeOf scope=none
 con:∀y u,(dz scope ρ).lookup y=some (some u)→u.con=true
theorem rQ.go {params:Arguments} {body:PySem.Expr} {scope:Scope} {pos:Pos} {c P:Addr} {q x:Str} (H:rQ X sc ρ params scope x c P q) {A:Around} {env:Env} {s:Shared} {G:ae} {Q E:Value→Shared→Prop} (rm:aV A n) (ev:bU X env sc ρ s G)
  (k:∀f l s',Step X s G s' G→(∀a o,l.lookup a=some o→s'.heap.get? a=some o)→(∀n' p r,aa (X.ext l) n' scope ((x,some p)::dz scope ρ) body r→cA (X.ext l) (n'+1) f [p] [] r)→
   (∃fd:FuncData,(X.ext l).K.lookup f=some ⟨.type "function",none, .func fd, #[]⟩)→Q (.ref f) s'):wpAny (model X.prog X.w) A (eval (.Lambda params body scope pos) env) Q E s:=
 wC H.code H.tab H.uniq H.nK H.dflt H.free H.bind H.par H.nocell H.same H.kind H.co H.gen H.aW H.con rm ev k
theorem aa.tp {g kn:Str} {pg pk pos pl:Pos} {e:PySem.Expr} {es:List PySem.Expr} {ad:Addr} {oc:Value} {od:Option Addr} {osl:Array (Option Value)} {fd:FuncData} {ps:List PV} {r:PV} {params:Arguments} {body:PySem.Expr} {scope:Scope} {c P:Addr} {q x:Str}
  (hf:aa X n sc ρ (.Name g pg) (.opq (.ref ad))) (hk:X.K.lookup ad=some ⟨oc,od, .func fd,osl⟩) (ha:aj X n sc ρ (e::es) ps) (H:rQ X sc ρ params scope x c P q)
  (h:∀f l,(∀n' p r,aa (X.ext l) n' scope ((x,some p)::dz scope ρ) body r→cA (X.ext l) (n'+1) f [p] [] r)→(∃fd:FuncData,(X.ext l).K.lookup f=some ⟨.type "function",none, .func fd, #[]⟩)→cA (X.ext l) n ad ps [(kn, .opq (.ref f))] r)
  (he:∀env,starEach (e::es) env=(false,eval e env)::starEach es env:=by intro _;rfl) (hall:∀env,(backToKw pos (keywordEach [⟨some kn, .Lambda params body scope pl,pk⟩] env)).all (·.1.isSome)=true:=by intro _;rfl)
  (hnames:∀env,(backToKw pos (keywordEach [⟨some kn, .Lambda params body scope pl,pk⟩] env)).filterMap (·.1)=[kn]:=by intro _;rfl):
  aa X n sc ρ (.Call (.Name g pg) (e::es) [⟨some kn, .Lambda params body scope pl,pk⟩] pos) r:=by
 intro A env s G Q E rm ev k
 refine wpAny_Call_Name_kw (hf A env s G _ E rm ev fun v s1 G1 t1 d1=>?_)
 cases d1
 refine callWith_function_kw (o:=⟨oc,od, .func fd,osl⟩) (fd:=fd) ?_
 refine evalArgs_kw2 (hall env) (ha.go A env s1 G1 pos _ E rm (ev.step t1) fun vs s2 G2 t2 d2=>kwAll_cons (H.go rm ((ev.step t1).step t2) fun f l s3 t3 hl lam hfl=>kwAll_nil ?_)) (he env)
 refine⟨⟨t3.gnd.kin _ _ hk,rfl⟩,wpAny_call ?_⟩
 rw[hnames env]
 exact h f l lam hfl A s3 G2 vs [.ref f] (fun r s'=>match r with | .ok (.ret v)=>Q v s' | .ok _=>False | .error e=>E e s') rm (t3.base.ext' hl) (aE.mono t3.sub _ _ d2) (aE.cons rfl aE.nil) fun v s' G' t d=>k v s' G' (((t1.trans t2).trans t3).trans t.shrink) d
theorem bH.iE {g kn:Str} {pg pk pos pl:Pos} {e:PySem.Expr} {ps:List PV} {kf:PV→PV} {lt:Nat→Nat→Bool} {params:Arguments} {body:PySem.Expr} {scope:Scope} {c P:Addr} {q x:Str}
  (hf:aa X (n+2) sc ρ (.Name g pg) (.opq (.builtin "sorted"))) (he:aa X (n+2) sc ρ e (.lst ps)) (H:rQ X sc ρ params scope x c P q) (hb:∀l,∀p∈ps,aa (X.ext l) n scope ((x,some p)::dz scope ρ) body (kf p))
  (ok:∀l,bW (X.ext l) (ps.map kf) lt) (h64:ps.length<64) (hin:askIn ps.length (kas_sort ps.length)=true) (hkn:kn="key":=by rfl)
  (hse:∀env,starEach [e] env=(false,eval e env)::starEach [] env:=by intro _;rfl) (hbt:∀env,backTo pos (starEach [e] env)=(false,eval e env)::backTo pos (starEach [] env):=by intro _;rfl)
  (hpl:∀env,(backTo pos (starEach [e] env)).any (·.1)=false:=by intro _;rfl) (hall:∀env,(backToKw pos (keywordEach [⟨some kn, .Lambda params body scope pl,pk⟩] env)).all (·.1.isSome)=true:=by intro _;rfl)
  (hany:∀env,(backToKw pos (keywordEach [⟨some kn, .Lambda params body scope pl,pk⟩] env)).any (·.1.isNone)=false:=by intro _;rfl)
  (hnames:∀env,(backToKw pos (keywordEach [⟨some kn, .Lambda params body scope pl,pk⟩] env)).filterMap (·.1)=[kn]:=by intro _;rfl):
  bH X (n+2) sc ρ (.Call (.Name g pg) [e] [⟨some kn, .Lambda params body scope pl,pk⟩] pos) (perm .none lt ps):=by
 subst hkn
 intro A env s G Q E rm ev k
 have ha:aj X (n+2) sc ρ [e] [.lst ps]:= .cons he .nil hse
 refine wpAny_Call_Name_kw (hf A env s G _ E rm ev fun v s1 G1 t1 d1=>?_)
 cases d1
 refine callWith_kw (ha.go A env s1 G1 pos _ E rm (ev.step t1) fun vs s2 G2 t2 d2=>kws_cons (H.go rm ((ev.step t1).step t2) fun f lf s3 t3 hl lam hfl=>kws_nil ?_)) (hbt env) (hpl env) (hall env) (hany env)
 rw[hnames env]
 obtain⟨v,_,rfl,⟨a,o,us,m,rfl,ga,hc,hd,r⟩,rfl⟩:=d2
 have r:=aE.mono t3.sub _ _ r
 have all:=(t1.trans t2).trans t3
 have b3:=t3.base.ext' hl
 have hla:s3.heap.IsList a us.toArray:=⟨o,t3.within _ _ ga,hc,m,hd⟩
 have hlen:=r.length
 show wpAny _ A (call (.builtin "sorted") [.ref a] [(Str.ofString "key", .ref f)]) Q E s3
 refine call_function_entry_kw kind_sorted plain_sorted entry_sorted (ksk_s1 _ _) ?_
 unfold Builtin.«sorted»
 refine yI (m:=checkCount "sorted" 1 1 _) (yJ ?_)
 refine yI (collect_list hla ?_ (by rw[sizeLine_eq];omega))
 refine yI (wpAny_newList ?_ (by rw[sizeLine_eq];omega))
 have hsz:((s3.heap.push (seqObj "list" #[] 0)).update s3.heap.objs.size (Obj.mapSeq (· ++us.toArray))).objs.size=s3.heap.objs.size+1:=by
  rw[Heap.size_update,size_push']
 have hoL:(((s3.heap.push (seqObj "list" #[] 0)).update s3.heap.objs.size (Obj.mapSeq (· ++us.toArray))).push (seqObj "list" us.toArray 0)).get? (s3.heap.objs.size+1)=some (seqObj "list" us.toArray 0):=by
  rw[←hsz];exact Heap.get?_push_size _ rfl
 have keep:∀b o,s3.heap.get? b=some o→(((s3.heap.push (seqObj "list" #[] 0)).update s3.heap.objs.size (Obj.mapSeq (· ++us.toArray))).push (seqObj "list" us.toArray 0)).get? b=some o:=fun b o q=>by
  have hlt:b<s3.heap.objs.size:=Heap.lt_size q
  rw[Heap.get?_push_ne _ _ _ (by rw[hsz];exact Nat.ne_of_lt (Nat.lt_succ_of_lt hlt)),Heap.get?_update_ne _ _ _ _ (Nat.ne_of_lt hlt),Heap.get?_push_ne _ _ _ (Nat.ne_of_lt hlt)]
  exact q
 show wpAny _ _ _ _ _ {s3 with heap:=((s3.heap.push (seqObj "list" #[] 0)).update s3.heap.objs.size (Obj.mapSeq (· ++us.toArray))).push (seqObj "list" us.toArray 0)}
 rw[hsz]
 generalize (((s3.heap.push (seqObj "list" #[] 0)).update s3.heap.objs.size (Obj.mapSeq (· ++us.toArray))).push (seqObj "list" us.toArray 0))=H4 at hoL keep ⊢
 have st:=b3.ext (h':=H4) (tk:=s3.toks) keep
 have hn:s3.heap.get? (s3.heap.objs.size+1)=none:=eP (Nat.le_succ _)
 have hX:¬aw (X.ext lf) (s3.heap.objs.size+1):=fun q=>by obtain⟨o,e⟩:=b3.gnd.special q;rw[hn] at e;cases e
 refine yI (wpAny_holding (wpAny_call_entry_kw slot_list_sort ⟨_,hoL,rfl⟩ entry_list_sort ?body (ksk_l1 _ _)))
 case body=>
  show wpAny (model X.prog X.w) A.in1.in1 (Builtin.«list.sort» ⟨[.ref (s3.heap.objs.size+1)],[(Str.ofString "key", .ref f)]⟩) _ _ _
  rw[ksk_t1]
  refine oX (X:=X.ext lf) (n:=n+1) (s:={s3 with heap:=H4}) rm.xr (fun p hp=>lam n p (kf p) (hb lf p hp)) (ok lf) st.base ⟨0,hoL⟩ r (ao b3.within hn) hX h64 hin fun s' G' t4 lo=>?_
  have t5:av (X.ext lf) [s3.heap.objs.size+1] s3 G2 s' G':=(⟨fun c o hc e=>st.keep c o e,st.gnd,st.sub,st.within,st.low,st.os,st.gens,fun c hc e=>e⟩:av (X.ext lf) [s3.heap.objs.size+1] s3 G2 _ G2).trans t4
  have t6:Step (X.ext lf) s3 G2 s' G':=(t5.drop (fp':=[]) (fun c hc=>by simp at hc;subst hc;exact .inr hn) (fun _ h=>(nomatch h))).toStep
  obtain⟨e',hpl'⟩:=lo.at_
  refine⟨_,rfl,yJ ⟨_,rfl,?_⟩⟩
  exact k _ (perm .none lt us) s' G' (all.trans t6.shrink) (aB all hn) lo.notG ⟨e',hpl'⟩ (aE.perm lt (aE.mono t6.sub _ _ r))
end
section
variable {X:Cx} {n:Nat} {sc:Scope} {ρ:az} {ω:aA} {α:Type} {inner:az→List PV→Prop}
theorem aG.fresh {x:Str} {p:Option PV} (h:ρ.lookup x=none):aG ρ ((x,p)::ρ):=fun y q e=>by
 rw[aN]
 ·exact e
 ·intro z;subst z;rw[h] at e;cases e
theorem aG.vh {x y:Str} {p q:Option PV} (h:ρ.lookup x=none) (h2:ρ.lookup y=none):aG ρ ((y,q)::(x,p)::ρ):=fun z r e=>by
 rw[aN,aN]
 ·exact e
 ·intro w;subst w;rw[h] at e;cases e
 ·intro w;subst w;rw[h2] at e;cases e
theorem aG.vg {x y z:Str} {p q r:Option PV} (h:ρ.lookup x=none) (h2:ρ.lookup y=none) (h3:ρ.lookup z=none):aG ρ ((z,r)::(y,q)::(x,p)::ρ):=fun v w e=>by
 rw[aN,aN,aN]
 ·exact e
 ·intro q;subst q;rw[h] at e;cases e
 ·intro q;subst q;rw[h2] at e;cases e
 ·intro q;subst q;rw[h3] at e;cases e
theorem aQ.each {tgt:PySem.Expr} {ifs:List PySem.Expr} {f:α→PV} {g:α→List PV}:∀{l:List α},(∀a∈l,fM X n false sc tgt (f a) ρ [] (fun ρ1 _=>aG ρ ρ1∧((ifs=[]∧inner ρ1 (g a))∨(∃c b,ifs=[c]∧bb X n sc ρ1 c b∧(b=true→inner ρ1 (g a))∧(b=false→g a=[])))))→
  aQ X n sc inner tgt ifs ρ (l.map f) (l.flatMap g)
 | [],_=>rfl
 | a::l,h=>⟨g a,l.flatMap g,by simp,h a List.mem_cons_self,aQ.each fun b hb=>h b (yL _ hb)⟩
theorem aQ.name {x:Str} {px:Pos} {l:List α} {f:α→PV} {g:α→List PV} (hx:cw false sc x) (hn:ρ.lookup x=none) (h:∀a∈l,inner ((x,some (f a))::ρ) (g a)):aQ X n sc inner (.Name x px) [] ρ (l.map f) (l.flatMap g):=
 aQ.each fun a ha=>fM.name hx ⟨aG.fresh hn, .inl ⟨rfl,h a ha⟩⟩
theorem aQ.u0 {x:Str} {px:Pos} {c:PySem.Expr} {l:List α} {f:α→PV} {g:α→List PV} {b:α→Bool} (hx:cw false sc x) (hn:ρ.lookup x=none) (hc:∀a∈l,bb X n sc ((x,some (f a))::ρ) c (b a)) (h:∀a∈l,b a=true→inner ((x,some (f a))::ρ) (g a)):
  aQ X n sc inner (.Name x px) [c] ρ (l.map f) (l.flatMap fun a=>if b a then g a else []):=
 aQ.each fun a ha=>fM.name hx ⟨aG.fresh hn, .inr ⟨c,b a,rfl,hc a ha,fun e=>(by rw[e];exact h a ha e),fun e=>(by rw[e];rfl)⟩⟩
theorem aQ.vD {x y:Str} {px py pt:Pos} {k0:Nat} {l:List α} {f1 f2:α→PV} {g:α→List PV} (hx:cw false sc x) (hy:cw false sc y) (hn:ρ.lookup x=none) (hn2:ρ.lookup y=none) (h:∀a∈l,inner ((y,some (f2 a))::(x,some (f1 a))::ρ) (g a)):
  aQ X n sc inner (.Tuple [.Name x px, .Name y py] k0 pt) [] ρ (l.map fun a=> .tup [f1 a,f2 a]) (l.flatMap g):=
 aQ.each fun a ha=>fM.tuple (bB.cons hx (bB.cons hy (bB.nil ⟨aG.vh hn hn2, .inl ⟨rfl,h a ha⟩⟩)))
theorem aQ.xM {x y z:Str} {px py pz pt:Pos} {k0:Nat} {l:List α} {f1 f2 f3:α→PV} {g:α→List PV} (hx:cw false sc x) (hy:cw false sc y) (hz:cw false sc z) (hn:ρ.lookup x=none) (hn2:ρ.lookup y=none) (hn3:ρ.lookup z=none) (h:∀a∈l,inner ((z,some (f3 a))::(y,some (f2 a))::(x,some (f1 a))::ρ) (g a)):
  aQ X n sc inner (.Tuple [.Name x px, .Name y py, .Name z pz] k0 pt) [] ρ (l.map fun a=> .tup [f1 a,f2 a,f3 a]) (l.flatMap g):=
 aQ.each fun a ha=>fM.tuple (bB.cons hx (bB.cons hy (bB.cons hz (bB.nil ⟨aG.vg hn hn2 hn3, .inl ⟨rfl,h a ha⟩⟩))))
theorem eg {β:Type} (r:α→β):∀(l:List α),(l.flatMap fun a=>[r a])=l.map r
 | []=>rfl
 | a::l=>by simp[eg r l]
theorem j4 {β:Type} (b:α→Bool) (r:α→β):∀(l:List α),(l.flatMap fun a=>if b a then [r a] else [])=(l.filter b).map r
 | []=>rfl
 | a::l=>by
  rw[List.flatMap_cons,j4 b r l]
  cases h:b a<;>simp[h]
theorem aQ.gj {elt:PySem.Expr} {x:Str} {px:Pos} {l:List α} {f r:α→PV} (hx:cw false sc x) (hn:ρ.lookup x=none) (h:∀a∈l,aa X n sc ((x,some (f a))::ρ) elt (r a)):aQ X n sc (dI X n sc elt []) (.Name x px) [] ρ (l.map f) (l.map r):=by
 rw[←eg r l];exact aQ.name hx hn fun a ha=>⟨_,h a ha,rfl⟩
theorem aQ.cM {elt c:PySem.Expr} {x:Str} {px:Pos} {l:List α} {f r:α→PV} {b:α→Bool} (hx:cw false sc x) (hn:ρ.lookup x=none) (hc:∀a∈l,bb X n sc ((x,some (f a))::ρ) c (b a)) (h:∀a∈l,b a=true→aa X n sc ((x,some (f a))::ρ) elt (r a)):
  aQ X n sc (dI X n sc elt []) (.Name x px) [c] ρ (l.map f) ((l.filter b).map r):=by
 rw[←j4 b r l];exact aQ.u0 hx hn hc fun a ha e=>⟨_,h a ha e,rfl⟩
theorem aQ.wc {elt:PySem.Expr} {x y:Str} {px py pt:Pos} {k0:Nat} {l:List α} {f1 f2 r:α→PV} (hx:cw false sc x) (hy:cw false sc y) (hn:ρ.lookup x=none) (hn2:ρ.lookup y=none) (h:∀a∈l,aa X n sc ((y,some (f2 a))::(x,some (f1 a))::ρ) elt (r a)):
  aQ X n sc (dI X n sc elt []) (.Tuple [.Name x px, .Name y py] k0 pt) [] ρ (l.map fun a=> .tup [f1 a,f2 a]) (l.map r):=by
 rw[←eg r l];exact aQ.vD hx hy hn hn2 fun a ha=>⟨_,h a ha,rfl⟩
theorem aQ.wb {elt:PySem.Expr} {x y z:Str} {px py pz pt:Pos} {k0:Nat} {l:List α} {f1 f2 f3 r:α→PV} (hx:cw false sc x) (hy:cw false sc y) (hz:cw false sc z) (hn:ρ.lookup x=none) (hn2:ρ.lookup y=none) (hn3:ρ.lookup z=none) (h:∀a∈l,aa X n sc ((z,some (f3 a))::(y,some (f2 a))::(x,some (f1 a))::ρ) elt (r a)):
  aQ X n sc (dI X n sc elt []) (.Tuple [.Name x px, .Name y py, .Name z pz] k0 pt) [] ρ (l.map fun a=> .tup [f1 a,f2 a,f3 a]) (l.map r):=by
 rw[←eg r l];exact aQ.xM hx hy hz hn hn2 hn3 fun a ha=>⟨_,h a ha,rfl⟩
theorem fI {β:Type} {n:Nat} {lt lt':Nat→Nat→Bool} (h:∀i j,i<n→j<n→lt i j=lt' i j):∀{t:KasT β},askIn n t=true→mI lt t=mI lt' t
 | .ret x,_=>rfl
 | .ask i j k,e=>by
  have e:=Bool.and_eq_true_iff.mp (show(decide (i<n)&&decide (j<n)&&askIn n (k true)&&askIn n (k false))=true from e)
  have e1:=Bool.and_eq_true_iff.mp e.1
  have e2:=Bool.and_eq_true_iff.mp e1.1
  show mI lt (k (lt i j))=mI lt' (k (lt' i j))
  rw[h i j (of_decide_eq_true e2.1) (of_decide_eq_true e2.2)]
  cases lt' i j
  ·exact fI h e.2
  ·exact fI h e1.2
noncomputable def ko (n:Nat):KasT (Array Nat)→Bool
 | .ret a=>a.toList.all (· <n)
 | .ask i j k=>ko n (k true)&&ko n (k false)
theorem iI {n:Nat} {lt:Nat→Nat→Bool}:∀{t:KasT (Array Nat)},ko n t=true→∀i∈(mI lt t).toList,i<n
 | .ret a,h=>fun i hi=>by
  have:=List.all_eq_true.mp (show a.toList.all (· <n)=true from h) i hi
  simpa using this
 | .ask i j k,h=>by
  have h:=Bool.and_eq_true_iff.mp (show(ko n (k true)&&ko n (k false))=true from h)
  show ∀z∈(mI lt (k (lt i j))).toList,z<n
  cases lt i j
  ·exact iI h.2
  ·exact iI h.1
theorem nT:∀n<6,(ko n (kas_sort n)&&askIn n (kas_sort n))=true:=by decide +kernel
theorem cZ {n:Nat} (h:n<6):askIn n (kas_sort n)=true:=(Bool.and_eq_true_iff.mp (nT n h)).2
theorem fy {β γ:Type} {f:β→γ} {d:β} {d':γ} {lt lt':Nat→Nat→Bool} {l:List β} (hn:l.length<6) (h:∀i j,i<l.length→j<l.length→lt i j=lt' i j):perm d' lt (l.map f)=(perm d lt' l).map f:=by
 unfold perm
 rw[List.length_map]
 split
 ·rfl
 ·rw[fI h (cZ hn),List.map_map]
  refine List.map_congr_left fun i hi=>?_
  have hlt:=iI (Bool.and_eq_true_iff.mp (nT _ hn)).1 i hi
  simp[yK,hlt]
end
section
variable {X:Cx} {n:Nat} {sc:Scope} {ρ:az} {ω:aA} {α β:Type} {P:a6} {R:PV→aA→Prop}
end
noncomputable def jh (x:Nat):List Nat→List Nat
 | []=>[x]
 | y::r=>if x≤y then x::y::r else y::jh x r
noncomputable def bP:List Nat→List Nat
 | []=>[]
 | x::r=>jh x (bP r)
noncomputable def xp (l:List Nat) (i j:Nat):Bool:=decide (l.getD i 0<l.getD j 0)
noncomputable def mN (fs:List (Nat×Nat)):Nat→Nat→Nat→Bool
 | 0,p,q=>p==q
 | k+1,p,q=>p==q||fs.any fun f=>f.2==p&&mN fs k f.1 q
noncomputable def g5 (n:Nat) (fs:List (Nat×Nat)):List Nat→Bool
 | p::q::r=>mN fs n p q&&g5 n fs (q::r)
 | _=>true
noncomputable def fO (n:Nat):KasT (Array Nat)→List (Nat×Nat)→List (Nat×Nat)→Bool
 | .ret a,fs,st=>(a.toList.isPerm (List.range n)&&g5 n fs a.toList)||st.any fun q=>mN fs n q.2 q.1
 | .ask i j k,fs,st=>decide (i<n)&&decide (j<n)&&fO n (k true) ((j,i)::fs) ((i,j)::st)&&fO n (k false) ((i,j)::fs) st
theorem nc:∀n<6,fO n (kas_sort n) [] []=true:=by decide +kernel
noncomputable def k6 (lt:Nat→Nat→Bool):List Nat→Prop
 | p::q::r=>lt q p=false∧k6 lt (q::r)
 | _=>True
section
variable {lt:Nat→Nat→Bool} {n:Nat} (as:∀i j,lt i j=true→lt j i=false) (tr:∀i j k,i<n→j<n→k<n→lt j i=false→lt k j=false→lt k i=false)
include as in
theorem qu (i:Nat):lt i i=false:=by
 cases e:lt i i with
 | false=>rfl
 | true=>rw[as i i e] at e;cases e
include as tr in
theorem ll {fs:List (Nat×Nat)} (hf:∀q∈fs,lt q.1 q.2=false∧q.1<n∧q.2<n):∀{k p q:Nat},p<n→q<n→mN fs k p q=true→lt q p=false
 | 0,p,q,hp,hq,h=>by
  have:p=q:=beq_iff_eq.mp h
  rw[this];exact qu as q
 | k+1,p,q,hp,hq,h=>by
  rcases Bool.or_eq_true_iff.mp (show(p==q||fs.any fun f=>f.2==p&&mN fs k f.1 q)=true from h) with h | h
  ·rw[beq_iff_eq.mp h];exact qu as q
  ·obtain⟨f,hm,h4⟩:=List.any_eq_true.mp h
   obtain⟨e,h5⟩:=Bool.and_eq_true_iff.mp h4
   obtain⟨h1,h2,h3⟩:=hf f hm
   rw[beq_iff_eq.mp e] at h1
   exact tr _ _ _ hp h2 hq h1 (ll hf h2 hq h5)
include as tr in
theorem j6 {fs:List (Nat×Nat)} (hf:∀q∈fs,lt q.1 q.2=false∧q.1<n∧q.2<n):∀{l:List Nat},(∀i∈l,i<n)→g5 n fs l=true→k6 lt l
 | [],_,_=>trivial
 | [_],_,_=>trivial
 | p::q::r,hl,h=>by
  have h:=Bool.and_eq_true_iff.mp (show(mN fs n p q&&g5 n fs (q::r))=true from h)
  exact⟨ll as tr hf (hl p (by simp)) (hl q (by simp)) h.1,j6 hf (fun i hi=>hl i (yL _ hi)) h.2⟩
include as tr in
theorem gF:∀{t:KasT (Array Nat)} {fs st:List (Nat×Nat)},fO n t fs st=true→(∀q∈fs,lt q.1 q.2=false∧q.1<n∧q.2<n)→(∀q∈st,lt q.1 q.2=true∧q.1<n∧q.2<n)→(mI lt t).toList.Perm (List.range n)∧k6 lt (mI lt t).toList
 | .ret a,fs,st,h,hf,hs=>by
  rcases Bool.or_eq_true_iff.mp (show((a.toList.isPerm (List.range n)&&g5 n fs a.toList)||st.any fun q=>mN fs n q.2 q.1)=true from h) with h | h
  ·obtain⟨h1,h2⟩:=Bool.and_eq_true_iff.mp h
   have hp:=List.isPerm_iff.mp h1
   exact⟨hp,j6 as tr hf (fun i hi=>List.mem_range.mp (hp.mem_iff.mp hi)) h2⟩
  ·obtain⟨q,hq,h⟩:=List.any_eq_true.mp h
   obtain⟨e,h1,h2⟩:=hs q hq
   rw[ll as tr hf h2 h1 h] at e;cases e
 | .ask i j k,fs,st,h,hf,hs=>by
  obtain⟨h,h2⟩:=Bool.and_eq_true_iff.mp (show(decide (i<n)&&decide (j<n)&&fO n (k true) ((j,i)::fs) ((i,j)::st)&&fO n (k false) ((i,j)::fs) st)=true from h)
  obtain⟨h,h1⟩:=Bool.and_eq_true_iff.mp h
  obtain⟨hi,hj⟩:=Bool.and_eq_true_iff.mp h
  have hi:=of_decide_eq_true hi
  have hj:=of_decide_eq_true hj
  simp only[mI]
  cases e:lt i j with
  | true=>
   refine gF h1 (fun q hq=>?_) fun q hq=>?_
   ·rcases List.mem_cons.mp hq with rfl | hq
    ·exact⟨as _ _ e,hj,hi⟩
    ·exact hf q hq
   ·rcases List.mem_cons.mp hq with rfl | hq
    ·exact⟨e,hi,hj⟩
    ·exact hs q hq
  | false=>
   refine gF h2 (fun q hq=>?_) hs
   rcases List.mem_cons.mp hq with rfl | hq
   ·exact⟨e,hi,hj⟩
   ·exact hf q hq
end
theorem j5 {α:Type} {R:α→α→Prop} {f:Nat→α} {lt:Nat→Nat→Bool} {S:α→Prop} (tr:∀a b c,S a→S b→S c→R a b→R b c→R a c):∀{l:List Nat},(∀i∈l,S (f i))→(∀i j,i∈l→j∈l→lt j i=false→R (f i) (f j))→k6 lt l→(l.map f).Pairwise R
 | [],_,_,_=> .nil
 | [x],_,_,_=>by simp
 | p::q::r,hS,hR,h=>by
  have ih:((q::r).map f).Pairwise R:=j5 tr (fun i hi=>hS i (yL _ hi)) (fun i j hi hj=>hR i j (yL _ hi) (yL _ hj)) h.2
  have hpq:R (f p) (f q):=hR p q (by simp) (by simp) h.1
  rw[List.map_cons] at ih ⊢
  rw[List.map_cons]
  refine List.pairwise_cons.mpr ⟨fun y hy=>?_,ih⟩
  rcases List.mem_cons.mp hy with rfl | hy
  ·exact hpq
  ·obtain⟨i,hi,rfl⟩:=List.mem_map.mp hy
   exact tr _ _ _ (hS p (by simp)) (hS q (by simp)) (hS i (by simp[hi])) hpq ((List.pairwise_cons.mp ih).1 _ (List.mem_map_of_mem hi))
theorem iY {α:Type} {d:α} {l:List α} {r:α→α→Bool} (hl:l.length<6) (as:∀a b,r a b=true→r b a=false) (tr:∀a b c,a∈l→b∈l→c∈l→r b a=false→r c b=false→r c a=false):
  (perm d (fun i j=>r (l.getD i d) (l.getD j d)) l).Perm l∧(perm d (fun i j=>r (l.getD i d) (l.getD j d)) l).Pairwise (fun a b=>r b a=false):=by
 unfold perm
 split
 ·rename_i h
  match l,h with
  | [],_=>exact⟨.refl _, .nil⟩
  | [x],_=>exact⟨.refl _,by simp⟩
 ·rename_i h
  have gin:∀i,i<l.length→l.getD i d∈l:=fun i this=>by
   rw[yK,yM this];exact List.getElem_mem this
  obtain⟨h1,h2⟩:=gF (lt:=fun i j=>r (l.getD i d) (l.getD j d)) (n:=l.length) (fun i j e=>as _ _ e) (fun i j k hi hj hk=>tr _ _ _ (gin i hi) (gin j hj) (gin k hk)) (nc l.length hl) (fun _ h=>nomatch h) (fun _ h=>nomatch h)
  have hin:∀i∈(mI (fun i j=>r (l.getD i d) (l.getD j d)) (kas_sort l.length)).toList,l.getD i d∈l:=fun i hi=>by
   have:=List.mem_range.mp (h1.mem_iff.mp hi)
   rw[yK,yM this];exact List.getElem_mem this
  refine⟨?_,j5 (S:=fun a=>a∈l) (fun a b c=>tr a b c) hin (fun i j _ _ e=>e) h2⟩
  refine(h1.map _).trans (.of_eq ?_)
  refine List.ext_getElem (by simp) fun i h1 h2=>?_
  simp[yK,yM h2]
theorem eu {α:Type} {R:α→α→Prop}:∀{a b:List α},(∀x y,x∈a→y∈a→R x y→R y x→x=y)→a.Perm b→a.Pairwise R→b.Pairwise R→a=b
 | [],b,_,h,_,_=>h.nil_eq
 | x::a,[],_,h,_,_=>absurd h.symm.nil_eq (by simp)
 | x::a,y::b,an,h,h1,h2=>by
  obtain⟨p1,q1⟩:=List.pairwise_cons.mp h1
  obtain⟨p2,q2⟩:=List.pairwise_cons.mp h2
  have hy:y∈x::a:=h.mem_iff.mpr List.mem_cons_self
  have hx:x∈y::b:=h.mem_iff.mp List.mem_cons_self
  have e:x=y:=by
   rcases List.mem_cons.mp hy with e | hy'
   ·exact e.symm
   ·rcases List.mem_cons.mp hx with e | hx'
    ·exact e
    ·exact an x y List.mem_cons_self hy (p1 y hy') (p2 x hx')
  subst e
  rw[eu (fun u v hu hv=>an u v (yL _ hu) (yL _ hv)) (List.Perm.cons_inv h) q1 q2]
theorem iK {α:Type} {r:α→α→Bool} {x:α}:∀{l:List α},(mO r x l).Perm (x::l)
 | []=> .refl _
 | y::t=>by
  unfold mO
  split
  ·exact(iK.cons y).trans (.swap x y t)
  ·exact .refl _
theorem aS {α:Type} {r:α→α→Bool}:∀{l:List α},(dc r l).Perm l
 | []=> .refl _
 | x::t=>iK.trans (aS.cons x)
theorem i9 {α:Type} {r:α→α→Bool} {x:α} (as:∀a b,r a b=true→r b a=false):∀{l:List α},(∀a b c,a∈x::l→b∈x::l→c∈x::l→r b a=false→r c b=false→r c a=false)→l.Pairwise (fun a b=>r b a=false)→(mO r x l).Pairwise (fun a b=>r b a=false)
 | [],_,_=>by simp[mO]
 | y::t,tr,h=>by
  obtain⟨h1,h2⟩:=List.pairwise_cons.mp h
  have sub:∀a,a∈x::t→a∈x::y::t:=fun a ha=>by
   rcases List.mem_cons.mp ha with e | ha
   ·simp[e]
   ·simp[ha]
  unfold mO
  split
  ·rename_i e
   refine List.pairwise_cons.mpr ⟨fun z hz=>?_,i9 as (fun a b c ha hb hc=>tr a b c (sub a ha) (sub b hb) (sub c hc)) h2⟩
   rcases List.mem_cons.mp (iK.mem_iff.mp hz) with rfl | hz
   ·exact as _ _ e
   ·exact h1 z hz
  ·rename_i e
   have e:r y x=false:=by simpa using e
   refine List.pairwise_cons.mpr ⟨fun z hz=>?_,h⟩
   rcases List.mem_cons.mp hz with rfl | hz'
   ·exact e
   ·exact tr x y z (by simp) (by simp) (by simp[hz']) e (h1 z hz')
theorem iX {α:Type} {r:α→α→Bool} (as:∀a b,r a b=true→r b a=false):∀{l:List α},(∀a b c,a∈l→b∈l→c∈l→r b a=false→r c b=false→r c a=false)→(dc r l).Pairwise (fun a b=>r b a=false)
 | [],_=> .nil
 | x::t,tr=>by
  have mm:∀a,a∈x::dc r t→a∈x::t:=fun a ha=>by
   rcases List.mem_cons.mp ha with e | ha
   ·simp[e]
   ·simp[aS.mem_iff.mp ha]
  exact i9 as (fun a b c ha hb hc=>tr a b c (mm a ha) (mm b hb) (mm c hc)) (iX as fun a b c ha hb hc=>tr a b c (yL _ ha) (yL _ hb) (yL _ hc))
theorem kD {α:Type} {d:α} {l:List α} {r:α→α→Bool} (hl:l.length<6) (as:∀a b,r a b=true→r b a=false) (tr:∀a b c,a∈l→b∈l→c∈l→r b a=false→r c b=false→r c a=false)
  (an:∀a b,a∈l→b∈l→r a b=false→r b a=false→a=b):perm d (fun i j=>r (l.getD i d) (l.getD j d)) l=dc r l:=by
 obtain⟨h1,h2⟩:=iY (d:=d) hl as tr
 exact eu (fun x y hx hy e1 e2=>an x y (h1.mem_iff.mp hx) (h1.mem_iff.mp hy) e2 e1) (h1.trans aS.symm) h2 (iX as tr)
theorem jT {x y:Nat}:∀{l:List Nat},y∈jh x l↔y=x∨y∈l
 | []=>by simp[jh]
 | z::r=>by
  unfold jh
  split
  ·simp
  ·rw[List.mem_cons,jT (l:=r),List.mem_cons]
   constructor
   ·rintro (h | h | h)<;>simp[h]
   ·rintro (h | h | h)<;>simp[h]
theorem ja {x:Nat}:∀{l:List Nat},l.Pairwise (·≤·)→(jh x l).Pairwise (·≤·)
 | [],_=>by simp[jh]
 | z::r,h=>by
  unfold jh
  rw[List.pairwise_cons] at h
  split
  ·rename_i q
   refine List.pairwise_cons.mpr ⟨fun y hy=>?_,List.pairwise_cons.mpr h⟩
   rcases List.mem_cons.mp hy with rfl | hy
   ·exact q
   ·exact yN q (h.1 y hy)
  ·rename_i q
   refine List.pairwise_cons.mpr ⟨fun y hy=>?_,ja h.2⟩
   rcases jT.mp hy with rfl | hy
   ·omega
   ·exact h.1 y hy
theorem dO:∀l:List Nat,(bP l).Pairwise (·≤·)
 | []=> .nil
 | x::r=>ja (dO r)
theorem k9 {y:Nat}:∀{l:List Nat},y∈bP l↔y∈l
 | []=>by simp[bP]
 | x::r=>by rw[bP,jT,k9,List.mem_cons]
theorem mh {x:Nat}:∀{l:List Nat},(jh x l).length=l.length+1
 | []=>rfl
 | z::r=>by unfold jh;split<;>simp[mh]
theorem eR:∀{l:List Nat},(bP l).length=l.length
 | []=>rfl
 | x::r=>by rw[bP,mh,eR,List.length_cons]
theorem kH (x:Nat):∀l:List Nat,(jh x l).Perm (x::l)
 | []=> .refl _
 | y::r=>by
  unfold jh
  split
  ·exact .refl _
  ·exact((kH x r).cons y).trans (.swap x y r)
theorem cf:∀l:List Nat,(bP l).Perm l
 | []=> .refl _
 | x::r=>(kH x (bP r)).trans ((cf r).cons x)
theorem l5 {l:List Nat} (h:∀r∈l,1≤r∧r≤5) (hl:l.length≤5):perm 0 (xp l) l=bP l:=by
 have e:xp l=fun i j=>(fun a b:Nat=>decide (a<b)) (l.getD i 0) (l.getD j 0):=rfl
 obtain⟨h1,h2⟩:=iY (d:=0) (r:=fun a b:Nat=>decide (a<b)) (l:=l) (by omega) (fun a b e=>by simp at e ⊢;omega) (fun a b c _ _ _ e1 e2=>by simp at e1 e2 ⊢;omega)
 rw[e]
 refine eu (fun x y _ _ e1 e2=>Nat.le_antisymm e1 e2) (h1.trans (cf l).symm) (h2.imp fun e=>?_) (dO l)
 have:=of_decide_eq_false e
 omega
noncomputable def PV.gd:Nat→PV→Bool
 | _, .none=>true
 | _, .int _=>true
 | _, .str s=>s.cps.toList.all (· <128)
 | n+1, .tup l=>l.all (PV.gd n)
 | n+1, .lst l=>l.all (PV.gd n)
 | _,_=>false
theorem PV.wK:∀{n:Nat} {p:PV},p.gd n=true→p.ok=true∧p.data.depth≤n:=by
 have all:∀(n:Nat),(∀p:PV,p.gd n=true→p.ok=true∧p.data.depth≤n)→∀l:List PV,l.all (PV.gd n)=true→PV.rE l=true∧PyData.depthAll (PV.cX l)≤n:=by
  intro n ih l
  induction l with
  | nil=>exact fun _=>⟨rfl,Nat.zero_le _⟩
  | cons d ds hi=>
   intro h
   obtain⟨h1,h2⟩:=Bool.and_eq_true_iff.mp (show(d.gd n&&ds.all (PV.gd n))=true from h)
   obtain⟨o1,a1⟩:=ih d h1
   obtain⟨o2,a2⟩:=hi h2
   exact⟨Bool.and_eq_true_iff.mpr ⟨o1,o2⟩,Nat.max_le.mpr ⟨a1,a2⟩⟩
 intro n
 induction n with
 | zero=>
  intro p h
  cases p with
  | none=>exact⟨rfl,Nat.zero_le _⟩
  | int i=>exact⟨rfl,Nat.zero_le _⟩
  | str s=>exact⟨h,Nat.zero_le _⟩
  | _=>exact(Bool.false_ne_true h).elim
 | succ n ih=>
  intro p h
  cases p with
  | none=>exact⟨rfl,Nat.zero_le _⟩
  | int i=>exact⟨rfl,Nat.zero_le _⟩
  | str s=>exact⟨h,Nat.zero_le _⟩
  | tup l=>obtain⟨a,b⟩:=all n (fun p h=>ih h) l h;exact⟨a,Nat.succ_le_succ b⟩
  | lst l=>obtain⟨a,b⟩:=all n (fun p h=>ih h) l h;exact⟨a,Nat.succ_le_succ b⟩
  | _=>exact(Bool.false_ne_true h).elim
theorem PV.d7 {n:Nat} {p:PV} (h:p.gd n=true) (hn:n≤64):p.good=true:=by
 obtain⟨a,b⟩:=PV.wK h
 unfold PV.good
 rw[a,Bool.true_and]
 exact decide_eq_true (yN b hn)
theorem PV.iy {C:Nat→PV→Prop} (h0:∀n,C n .none) (h1:∀n i,C n (.int i)) (h2:∀n s,C n (.str s)) (h3:∀n l,l.all (PV.gd n)=true→C (n+1) (.tup l)) (h4:∀n l,l.all (PV.gd n)=true→C (n+1) (.lst l)):∀n p,p.gd n=true→C n p:=by
 intro n p h
 cases p with
 | none=>exact h0 n
 | int i=>exact h1 n i
 | str s=>exact h2 n s
 | _=>
  cases n with
  | zero=>exact(Bool.false_ne_true h).elim
  | succ n=>first | exact h3 n _ h | exact h4 n _ h | exact(Bool.false_ne_true h).elim
set_option tactic.hygienic true in
theorem PV.jt {n:Nat} {p q:PV} {k:Nat} (hp:p.gd n=true) (hq:q.gd k=true):p.eqv q=true↔p=q:=by
 let P (n:Nat):Prop:=∀p:PV,p.gd n=true→∀k q,q.gd k=true→(p.eqv q=true↔p=q)
 have no:∀{p q:PV},p.eqv q=false→p≠q→(p.eqv q=true↔p=q):=fun e n=>⟨fun h=>(Bool.false_ne_true (e.symm.trans h)).elim,fun h=>(n h).elim⟩
 have nl:∀{b:Bool} {x y:List PV},b=false→x≠y→(b=true↔x=y):=fun e n=>⟨fun h=>(Bool.false_ne_true (e.symm.trans h)).elim,fun h=>(n h).elim⟩
 have go:∀{α:Type} (f:α→PV) {a b:α},(f a=f b→a=b)→((f a).eqv (f b)=true↔a=b)→((f a).eqv (f b)=true↔f a=f b):=fun f _ _ i h=>h.trans ⟨congrArg f,i⟩
 have all:∀n,P n→∀k (l m:List PV),l.all (PV.gd n)=true→m.all (PV.gd k)=true→(PyData.eqvAll (PV.cX l) (PV.cX m)=true↔l=m):=by
  intro n ih k l
  induction l with
  | nil=>exact fun m _ _=>m.casesOn ⟨fun _=>rfl,fun _=>rfl⟩ fun _ _=>nl rfl (List.cons_ne_nil _ _).symm
  | cons d ds hi=>
   intro m h1 h2
   cases m with
   | nil=>exact nl rfl (List.cons_ne_nil _ _)
   | cons e es=>
    have h1:=Bool.and_eq_true_iff.mp (show(d.gd n&&ds.all (PV.gd n))=true from h1)
    have h2:=Bool.and_eq_true_iff.mp (show(e.gd k&&es.all (PV.gd k))=true from h2)
    show(d.eqv e&&PyData.eqvAll (PV.cX ds) (PV.cX es))=true↔_
    rw[Bool.and_eq_true,ih d h1.1 k e h2.1,hi es h1.2 h2.2,List.cons.injEq]
 refine Nat.strongRecOn (motive:=P) n (fun n ih p hp=>PV.iy (C:=fun n p=>(∀i,i<n→P i)→∀k q,q.gd k=true→(p.eqv q=true↔p=q)) ?_ ?_ ?_ ?_ ?_ n p hp ih) p hp k q hq
 ·exact fun _ _=>PV.iy (fun _=>⟨fun _=>rfl,fun _=>rfl⟩) (fun _ _=>no rfl (fun h=>PV.noConfusion h)) (fun _ _=>no rfl (fun h=>PV.noConfusion h)) (fun _ _ _=>no rfl (fun h=>PV.noConfusion h)) (fun _ _ _=>no rfl (fun h=>PV.noConfusion h))
 ·exact fun _ i _=>PV.iy (fun _=>no rfl (fun h=>PV.noConfusion h)) (fun _ _=>go PV.int PV.int.inj beq_iff_eq) (fun _ _=>no rfl (fun h=>PV.noConfusion h)) (fun _ _ _=>no rfl (fun h=>PV.noConfusion h)) (fun _ _ _=>no rfl (fun h=>PV.noConfusion h))
 ·exact fun _ s _=>PV.iy (fun _=>no rfl (fun h=>PV.noConfusion h)) (fun _ _=>no rfl (fun h=>PV.noConfusion h)) (fun _ _=>go PV.str PV.str.inj beq_iff_eq) (fun _ _ _=>no rfl (fun h=>PV.noConfusion h)) (fun _ _ _=>no rfl (fun h=>PV.noConfusion h))
 ·exact fun n l h ih=>PV.iy (fun _=>no rfl (fun h=>PV.noConfusion h)) (fun _ _=>no rfl (fun h=>PV.noConfusion h)) (fun _ _=>no rfl (fun h=>PV.noConfusion h)) (fun _ _ g=>go PV.tup PV.tup.inj (all n (ih n (Nat.lt_succ_self n)) _ _ _ h g)) (fun _ _ _=>no rfl (fun h=>PV.noConfusion h))
 ·exact fun n l h ih=>PV.iy (fun _=>no rfl (fun h=>PV.noConfusion h)) (fun _ _=>no rfl (fun h=>PV.noConfusion h)) (fun _ _=>no rfl (fun h=>PV.noConfusion h)) (fun _ _ _=>no rfl (fun h=>PV.noConfusion h)) (fun _ _ g=>go PV.lst PV.lst.inj (all n (ih n (Nat.lt_succ_self n)) _ _ _ h g))
section
variable {X:Cx} {n:Nat}
theorem ay.vB {p q:PV} {b:Bool} {d:Nat} (hp:p.gd d=true) (hq:q.gd d=true) (h:b=true↔p=q) (hd:d≤64:=by decide):ay X (n+5) .Eq p q (.bool b):=by
 have:=ay.eq (X:=X) (n:=n) (PV.d7 hp hd) (PV.d7 hq hd)
 rwa [show p.eqv q=b from Bool.eq_iff_iff.mpr ((PV.jt hp hq).trans h.symm)] at this
theorem ay.tW {p q:PV} {b:Bool} {d:Nat} (hp:p.gd d=true) (hq:q.gd d=true) (h:b=true↔p=q) (hd:d≤64:=by decide):ay X (n+5) .NotEq p q (.bool (!b)):=by
 have:=ay.ne (X:=X) (n:=n) (PV.d7 hp hd) (PV.d7 hq hd)
 rwa [show p.eqv q=b from Bool.eq_iff_iff.mpr ((PV.jt hp hq).trans h.symm)] at this
theorem oM {l:List PV} {q:PV} {b:Bool} {d:Nat} (hp:(PV.lst l).gd (d+1)=true) (hq:q.gd d=true) (h:b=true↔q∈l):(l.any fun p=>p.eqv q)=b:=by
 rw[Bool.eq_iff_iff,h,List.any_eq_true]
 have hp:=List.all_eq_true.mp (show l.all (PV.gd d)=true from hp)
 constructor
 ·(intro zz;obtain⟨p,hm,e⟩:=zz)
  rw[←(PV.jt (hp p hm) hq).mp e];exact hm
 ·exact fun hm=>⟨q,hm,(PV.jt (hp q hm) hq).mpr rfl⟩
theorem ay.inD {l:List PV} {q:PV} {b:Bool} {d:Nat} (hp:(PV.lst l).gd (d+1)=true) (hq:q.gd d=true) (h:b=true↔q∈l) (hd:d+1≤64:=by decide):ay X (n+5) .In q (.lst l) (.bool b):=by
 have:=ay.yC (X:=X) (n:=n) (PV.d7 hp hd) (PV.d7 hq (yN (Nat.le_succ d) hd))
 rwa [oM hp hq h] at this
theorem ay.mV {l:List PV} {q:PV} {b:Bool} {d:Nat} (hp:(PV.lst l).gd (d+1)=true) (hq:q.gd d=true) (h:b=true↔q∈l) (hd:d+1≤64:=by decide):ay X (n+5) .NotIn q (.lst l) (.bool (!b)):=by
 have:=ay.uY (X:=X) (n:=n) (PV.d7 hp hd) (PV.d7 hq (yN (Nat.le_succ d) hd))
 rwa [oM hp hq h] at this
theorem PV.eo {d:Nat} {l:List Nat} (h:∀c∈l,c<128):(PV.txt l).gd d=true:=by
 have:(PV.txt l).gd d=l.all (· <128):=by cases d<;>rfl
 rw[this];exact List.all_eq_true.mpr fun c hc=>decide_eq_true (h c hc)
theorem PV.ix {d:Nat} {i:Int}:(PV.int i).gd d=true:=by cases d<;>rfl
theorem PV.gy {d:Nat} {l:List PV} (h:∀p∈l,p.gd d=true):(PV.lst l).gd (d+1)=true:=List.all_eq_true.mpr h
theorem PV.gx {d:Nat} {l:List PV} (h:∀p∈l,p.gd d=true):(PV.tup l).gd (d+1)=true:=List.all_eq_true.mpr h
end
theorem bM.inst {h:Heap} {a c d:Addr} {o od:Obj} {sq:Bool} {vs:List Value} (ho:h.get? a=some o) (i:bM o c d sq vs) (hd:h.get? d=some od):InstAt h a o c (some od):=by
 obtain⟨hc,hdd,hs⟩:=i
 refine⟨ho,hc,?_,by rw[hdd];exact hd⟩
 unfold notCls
 cases sq with
 | true=>dsimp only[iT] at hs;obtain⟨k,hs⟩:=hs;rw[hs]
 | false=>dsimp only[iF] at hs;rw[hs.1]
theorem mK.look {o:Obj} {m:Str→Option Value} (x:mK o m) (name:Str):lookIn name o=some (m name):=by
 obtain⟨es,ep,hd,hk,hf⟩:=x
 unfold lookIn
 rw[hd]
 dsimp only
 rw[←hf]
 unfold nsFind findBy
 rw[←Array.find?_toList]
 cases e:es.toList.find? (·.key.isStr name) with
 | some en=>rfl
 | none=>
  dsimp only
  rw[if_neg]
  ·rfl
  ·intro q
   obtain⟨en,hm,hr⟩:=List.any_eq_true.mp q
   obtain⟨n,t,hkey⟩:=hk en (by simpa using hm)
   unfold DictEntry.refKey at hr
   rw[hkey] at hr;cases hr
structure dD (K:Frag) (c:Addr):Prop where
 cd:∃cd,clsIn K c=some cd∧cd.hasDict=true
 ga:∃id,findIn K (.ref c) "__getattribute__" =some (some (.builtin id))∧(Manifest.canonical id != "object.__getattribute__")=false
 gh:findIn K (.ref c) "__getattr__" =some none
structure jj (X:Cx) (c:Addr):Prop where
 c0:dD X.K c
 get:∀{A:Around} {s:Shared} {a:Addr} {o od:Obj} {name:Str} {v:Value} {expr:Bool} {Q E:Value→Shared→Prop},X.K.In s.heap→InstAt s.heap a o c (some od)→findIn X.K (.ref c) name=some none→lookIn name od=some (some v)→handedIn v=true→
  Q v {s with toks:=s.toks+1}→wpAny (model X.prog X.w) A (getAttr (.ref a) name expr) Q E s
theorem findObj_own {K:Frag} {c:Addr} {od:Obj} {name:Str} {v:Value} (k:dD K c) (hf:findIn K (.ref c) name=some none) (hl:lookIn name od=some (some v)):findObj K c (some od) name=some (.value v):=by
 obtain⟨cd,hc,hd⟩:=k.cd
 unfold findObj
 rw[hc,Option.bind_some,hf]
 show Option.bind (W.ownOf cd (some od) name) _=_
 unfold W.ownOf
 rw[hd]
 show Option.bind (lookIn name od) _=_
 rw[hl];rfl
theorem jV {K:Frag} {C:Addr} {cd:ClassData} (h:clsIn K C=some cd):∃c d sl,K.lookup C=some ⟨c,d, .cls cd,sl⟩:=by
 unfold clsIn at h
 cases e:K.lookup C with
 | none=>rw[e] at h;cases h
 | some o=>
  rw[e] at h
  obtain⟨c,d,x,sl⟩:=o
  cases x<;>first | (cases h;exact⟨_,_,_,rfl⟩) | cases h
theorem jj.plain {X:Cx} {c:Addr} (k:dD X.K c) (hga:findIn X.K (.ref c) "__getattribute__" =some (some (.builtin "object.__getattribute__"))):jj X c:=
 ⟨k,fun X0 I hf hl hh q=>get_value X0 I hga (findObj_own k hf hl) hh q⟩
theorem ma (self:Value):bindSpecial (.builtin "list.__getattribute__") self=pure (.builtin "list.__getattribute__",[self]):=
 (Slot.of (T:="list") (name:="__getattribute__") (owner:="list") (n:="__getattribute__") (by rw[typeLookup_type,builtinLookup_eq_fast];ext) (by decide +kernel) (by decide +kernel) (by decide +kernel)
  (.inl (by decide +kernel)) (by rw[isSubtype_type];ext)).bind self
theorem kG:entryFor table "list.__getattribute__" =some Builtin.«object.__getattribute__»:=PySem.F.entry_list_ga
theorem kF:plainId "list.__getattribute__" =true:=by decide +kernel
theorem l9:builtinKind "list.__getattribute__" =some .slot:=by decide +kernel
theorem kE:splitId "list.__getattribute__" =some ("list","__getattribute__"):=by decide +kernel
theorem md (a b:Value):argsOk "list.__getattribute__" ⟨[a,b],[]⟩:=by unfold argsOk;ext
theorem jj.list {X:Cx} {c:Addr} (k:dD X.K c) (hga:findIn X.K (.ref c) "__getattribute__" =some (some (.builtin "list.__getattribute__"))) (hm:mroIn X.K c (.type "list")=some true):jj X c:=by
 refine⟨k,fun {A s a o od name v expr Q E} X0 I hf hl hh q=>?_⟩
 obtain⟨hh',g,d,t,os⟩:=s
 have L0:=I.type (M:=model X.prog X.w)
 have L1:=looks_findIn (M:=model X.prog X.w) X0 hga
 have L2:=looks_findIn (M:=model X.prog X.w) X0 k.gh
 have L3:Looks (model X.prog X.w) hh' (Builtin.ObjectAttr.find (.ref a) (.ref c) name) (.value v):=looks_find (M:=model X.prog X.w) X0 I (findObj_own k hf hl)
 have L4:Looks (model X.prog X.w) hh' (isInstance (.ref a) (.type "list")) true:=L0.andThen (looks_mroIn X0 hm)
 unfold getAttr getAttrBy
 refine yI (wpAny_mkText (wpAny_holding (yI (L0.at (yI (L1.at ?_))))))
 dsimp only
 rw[show(onTheHeap (.ref c)&&Value.builtin "list.__getattribute__"==Value.builtin "object.__getattribute__")=false from by rw[show(Value.builtin "list.__getattribute__"==Value.builtin "object.__getattribute__")=false from by decide +kernel,Bool.and_false],if_neg (by decide)]
 unfold getAttrByItsOwn
 refine yI (show wpAny _ _ (hookBefore (.ref c)) _ _ _ from ?_)
 unfold hookBefore
 rw[if_pos (show onTheHeap (.ref c)=true from rfl)]
 refine L2.at ?_
 refine yI (wpAny_attempt (wpAny_holding ?_))
 unfold callGetattribute
 rw[show(expr&&onTheHeap (Value.builtin "list.__getattribute__"))=false from Bool.and_false _,if_neg (by decide)]
 unfold boundAndCalled
 rw[ma]
 refine yI (yJ ?_)
 show wpAny _ _ (call (.builtin "list.__getattribute__") [.ref a, .str name t]) _ _ _
 refine wpAny_call ?_
 refine codeAny_call_builtin kF kG ?_
 refine @check_slot (model X.prog X.w) _ _ _ "list.__getattribute__" "list" "__getattribute__" (.ref a) [.str name t] [] _ l9 kE L4 (md _ _) ?_
 refine yI (yJ (yI (yJ (yI (L0.at (yI (L3.at ?_)))))))
 refine yJ ?_
 show wpAny _ _ (handedOut v) _ _ _
 rw[handedOut_of hh];exact yJ q
theorem Rd.handed {G:ae} {p:PV} {v:Value} (h:Rd G p v) (hp:∀u,p≠ .opq u):handedIn v=true:=by
 cases p with
 | none=>cases h;rfl
 | bool b=>cases h;rfl
 | int i=>obtain⟨t,rfl⟩:=h;rfl
 | str s=>obtain⟨t,rfl⟩:=h;rfl
 | tup l=>obtain⟨a,_,_,_,rfl,_⟩:=h;rfl
 | lst l=>obtain⟨a,_,_,_,rfl,_⟩:=h;rfl
 | ins c n vs its sq=>obtain⟨a,_,_,_,_,_,_,rfl,_⟩:=h;rfl
 | opq u=>exact absurd rfl (hp u)
section
variable {X:Cx} {n:Nat} {sc:Scope} {ρ:az} {ω:aA}
theorem Rd.ins {G:ae} {h:Heap} {c:Addr} {names:List Str} {vals items:List PV} {sq:Bool} {v:Value} (w:Sub G h.get?) (d:Rd G (.ins c names vals items sq) v):
  ∃a o dd od m us vs,v= .ref a∧InstAt h a o c (some od)∧bM o c dd sq vs∧mK od m∧Tells m names us∧aE G vals us∧aE G items vs∧G a=some o:=by
 obtain⟨a,o,dd,od,m,us,vs,rfl,g,i,g2,nn,mm,r1,r2⟩:=d
 exact⟨a,o,dd,od,m,us,vs,rfl,i.inst (w _ _ g) (w _ _ g2),i,nn,mm,r1,r2,g⟩
theorem qn {names:List Str} {vals:List PV} {us:List Value} {G:ae} {i:Nat} {name:Str} {p:PV} (d:aE G vals us) (h1:names[i]?=some name) (h2:vals[i]?=some p):∃u,(name,u)∈names.zip us∧Rd G p u:=by
 obtain⟨u,hu,du⟩:=d.get h2
 refine⟨u,?_,du⟩
 have:(names.zip us)[i]?=some (name,u):=by rw[List.getElem?_zip_eq_some];exact⟨h1,hu⟩
 exact List.mem_of_getElem? this
theorem aa.attr {o:PySem.Expr} {name:Str} {pos:Pos} {c:Addr} {names:List Str} {vals items:List PV} {sq:Bool} {p:PV} (i:Nat) (ho:aa X n sc ρ o (.ins c names vals items sq)) (k:jj X c)
  (hf:findIn X.K (.ref c) name=some none) (h1:names[i]?=some name) (h2:vals[i]?=some p) (hp:∀u,p≠ .opq u:=by intro _;nofun)
  (he:∀env,eval (.Attribute o name pos) env=(do
   let o' ←eval o env
   standAt pos.atName
   let r ←holding [o'] (getAttr o' name true)
   letTemporaryGo o o' r
   pure r):=by intro _;with_unfolding_all rfl):aa X n sc ρ (.Attribute o name pos) p:=by
 intro A env s G Q E rm e q
 refine Attribute_any_ (ho A env s G _ E rm e fun v s1 G1 t1 d1=>?_) (he env)
 obtain⟨a,oo,dd,od,m,us,vs,rfl,I,_,hn,mm,r1,_,_⟩:=Rd.ins t1.within d1
 obtain⟨u,hu,du⟩:=qn r1 h1 h2
 refine k.get t1.gnd.kin I hf (by rw[hn.look,mm.1 _ _ hu]) (du.handed hp) ?_
 exact q u _ G1 (t1.trans (Step.toks _ t1.gnd t1.within t1.gens)) du
theorem jZ {A:Around} {s:Shared} {a c:Addr} {o od:Obj} {m:Str→Option Value} {name:Str} {f tf:Value} {pl:Sem Bool} {Q:Value×List Value→Shared→Prop} {E:Value→Shared→Prop} (X0:X.K.In s.heap) (k:dD X.K c) (I:InstAt s.heap a o c (some od)) (hn:mK od m) (hm:m name=none)
  (hf:findIn X.K (.ref c) name=some (some f)) (ht:typeIn X.K f=some tf) (hk:(tf != .type "function"&&tf != .type "method_descriptor"&&tf != .type "wrapper_descriptor")=false) (q:Q (f,[.ref a]) s):wpAny (model X.prog X.w) A (getMethod (.ref a) name pl) Q E s:=by
 obtain⟨id,hga,hcan⟩:=k.ga
 unfold getMethod specialOf
 refine yI (yI (I.type.here ((looks_findIn X0 hga).here ?_)))
 dsimp only
 rw[hcan,if_neg (by decide)]
 refine yI (yI (I.type.here ((looks_findIn X0 k.gh).here ?_)))
 refine yI (yI (I.type.here ((looks_findIn X0 hf).here (yI ((looks_typeIn X0 ht).here ?_)))))
 rw[hk,if_neg (by decide)]
 refine yI (wpAny_loadPart I.at_ ?_)
 have hd:=I.dict
 cases e:o.dict with
 | none=>rw[e] at hd;exact hd.elim
 | some dx=>
  rw[e] at hd
  refine yI (yI (wpAny_loadPart hd ?_))
  rw[nsLook_of (hn.look name),hm]
  exact yJ (yI (wpAny_rule (yJ q)))
theorem eZ {A:Around} {s:Shared} {a c f:Addr} {o od:Obj} {m:Str→Option Value} {name:Str} {pl:Sem Bool} {Q:Value×List Value→Shared→Prop} {E:Value→Shared→Prop} (X0:X.K.In s.heap) (k:dD X.K c) (I:InstAt s.heap a o c (some od)) (hn:mK od m) (hm:m name=none)
  (hf:findIn X.K (.ref c) name=some (some (.ref f))) (ht:typeIn X.K (.ref f)=some (.type "function")) (q:Q (.ref f,[.ref a]) s):wpAny (model X.prog X.w) A (getMethod (.ref a) name pl) Q E s:=
 jZ X0 k I hn hm hf ht (by decide +kernel) q
theorem aa.fk {o:PySem.Expr} {es:List PySem.Expr} {name:Str} {apos pos:Pos} {c f:Addr} {names:List Str} {vals items:List PV} {sq:Bool} {ps:List PV} {r:PV} {oc:Value} {fod:Option Addr} {osl:Array (Option Value)} {fd:FuncData} {pl:Env→Sem Bool}
  (ho:aa X n sc ρ o (.ins c names vals items sq)) (ha:aj X n sc ρ es ps) (k:dD X.K c) (hf:findIn X.K (.ref c) name=some (some (.ref f))) (hk:X.K.lookup f=some ⟨oc,fod, .func fd,osl⟩) (ht:typeIn X.K (.ref f)=some (.type "function")) (h:cA X n f (.ins c names vals items sq::ps) [] r)
  (hname:name∈eB:=by decide)
  (he:∀env,eval (.Call (.Attribute o name apos) es [] pos) env=(do
   let ov ←eval o env
   standAt apos.atName
   let (f,first) ←holding [ov] (getMethod ov name (pl env))
   callWith pos f first (backTo pos (starEach es env)) (backToKw pos (keywordEach [] env))):=by intro _;rfl):aa X n sc ρ (.Call (.Attribute o name apos) es [] pos) r:=by
 intro A env s G Q E rm e q
 refine methodCall_KW (pl:=pl env) (ho A env s G _ E rm e fun v s1 G1 t1 d1=>?_) (he env)
 obtain⟨a,oo,dd,od,m,us,vs,rfl,I,_,hn,mm,r1,_,_⟩:=Rd.ins t1.within d1
 refine eZ t1.gnd.kin k I hn (mm.2 _ hname) hf ht ?_
 refine callWith_function (o:=⟨oc,fod, .func fd,osl⟩) (fd:=fd) ?_
 refine aY ha rm (e.step t1) fun vs2 s2 G2 t2 d2=>⟨⟨t2.gnd.kin _ _ hk,rfl⟩,?_⟩
 exact call_of h rm t2.base (aE.cons (Rd.mono t2.sub _ _ d1) d2) fun v s3 G3 t3 d3=>q v s3 G3 ((t1.trans t2).trans t3) d3
end
section
variable {X:Cx} {n:Nat} {sc:Scope} {ρ:az} {ω ω' ω'':aA}
structure aT (o o1 o1' o':Own):Prop where
 at_:∀G h,o.At G h→o1.At G h
 sub:∀b∈o1.fp,b∈o.fp
 fp1:o1'.fp=o1.fp
 fp:o'.fp=o.fp
 addr:o'.addr=o.addr
 back:∀X s G s' G',av X o1.fp s G s' G'→o.At G s.heap→o1'.At G' s'.heap→o'.At G' s'.heap
theorem aT.self {o o':Own} (hf:o'.fp=o.fp) (ha:o'.addr=o.addr):aT o o o' o':=⟨fun _ _ h=>h,fun _ h=>h,hf,hf,ha,fun _ _ _ _ _ _ _ h=>h⟩
theorem qr {f df ln a d:Addr} (h:[f,df,ln,a,d].Nodup):f∉[a,d]∧df∉[a,d]∧ln∉[a,d]∧f∉[ln]∧df∉[ln]∧a∉[ln]∧d∉[ln]:=by
 simp only[List.nodup_cons,List.mem_cons,List.not_mem_nil,or_false,not_or] at h ⊢
 obtain⟨⟨h1,h2,h3,h4⟩,⟨h5,h6,h7⟩,⟨h8,h9⟩,h10,_⟩:=h
 exact⟨⟨h3,h4⟩,⟨h6,h7⟩,⟨h8,h9⟩,h2,h5,fun e=>h8 e.symm,fun e=>h9 e.symm⟩
theorem aT.acc {f df ln a d:Addr} {ml:Int} {sp:Str} {lines:List PV} {k k':Int} {l l':List PV}:aT (.fmt f df ln a d ml sp lines k l) (.acc a d k l) (.acc a d k' l') (.fmt f df ln a d ml sp lines k' l'):=by
 refine⟨fun G h x=>?_,?_,rfl,rfl,rfl,fun X s G s' G' t x x1=>?_⟩
 ·obtain⟨o,m,t,u,ho,hi,hn,q1,q2,q3,q4,hl,ha,ne⟩:=x;exact ha
 ·intro b hb;simp only[Own.fp,List.mem_cons,List.not_mem_nil,or_false] at hb ⊢;rcases hb with rfl | rfl<;>simp
 ·obtain⟨o,m,tt,u,ho,hi,hn,q1,q2,q3,q4,hl,ha,ne⟩:=x
  obtain⟨n1,n2,n3,_⟩:=qr ne
  exact⟨o,m,tt,u,t.get n1 ho hi.solid.1,hi,t.ns n2 hn,q1,q2,q3,q4,t.at_ (o:= .lst ln lines) hl (by simpa [Own.fp] using n3),x1,ne⟩
theorem aT.lines {f df ln a d:Addr} {ml:Int} {sp:Str} {lines lines':List PV} {k:Int} {l:List PV}:aT (.fmt f df ln a d ml sp lines k l) (.lst ln lines) (.lst ln lines') (.fmt f df ln a d ml sp lines' k l):=by
 refine⟨fun G h x=>?_,?_,rfl,rfl,rfl,fun X s G s' G' t x x1=>?_⟩
 ·obtain⟨o,m,t,u,ho,hi,hn,q1,q2,q3,q4,hl,ha,ne⟩:=x;exact hl
 ·intro b hb;simp only[Own.fp,List.mem_cons,List.not_mem_nil,or_false] at hb ⊢;rcases hb with rfl;simp
 ·obtain⟨o,m,tt,u,ho,hi,hn,q1,q2,q3,q4,hl,ha,ne⟩:=x
  obtain⟨_,_,_,n4,n5,n6,n7⟩:=qr ne
  exact⟨o,m,tt,u,t.get n4 ho hi.solid.1,hi,t.ns n5 hn,q1,q2,q3,q4,x1,t.at_ (o:= .acc a d k l) ha (by intro b hb;simp only[Own.fp,List.mem_cons,List.not_mem_nil,or_false] at hb;rcases hb with rfl | rfl<;>assumption),ne⟩
theorem bC.kZ {env:Env} {D:Bd} {s s':Shared} {G G':ae} (r:bC X env sc ρ ω D s G) {x:Str} {o o1 o1' o':Own} (hx:ω.lookup x=some (some o)) (p:aT o o1 o1' o') (t:av X o1.fp s G s' G') (h':o1'.At G' s'.heap):
  bC X env sc ρ ((x,some o')::ω) D s' G':=by
 refine r.alter hx (t.mono p.sub fun b hb _=>?_) (p.back _ _ _ _ _ t (r.held.at_ x o hx) h') p.addr p.fp
 obtain⟨ob,e,_⟩:=(r.held.at_ x o hx).solid b hb
 exact⟨ob,e⟩
noncomputable def bE (X:Cx) (n:Nat) (sc:Scope) (ρ:az) (ω:aA) (e:PySem.Expr) (p:PV) (ω':aA):Prop:=
 ∀(A:Around) (env:Env) (s:Shared) (G:ae) (D:Bd) (Q E:Value→Shared→Prop),aV A n→D.wr=true→bC X env sc ρ ω D s G→
  (∀v s' G',bC X env sc ρ ω' D s' G'→Sub G G'→Rd G' p v→Q v s')→wpAny (model X.prog X.w) A (eval e env) Q E s
theorem bE.of {e:PySem.Expr} {p:PV} (h:aa X n sc (cm ω ρ) e p) (hf:p.flat=true):bE X n sc ρ ω e p ω:=by
 intro A env s G D Q E rm wr r k
 refine h A env s _ Q E rm r.plus.1 fun v s' G' t d=>?_
 obtain⟨G1,t1,fl,_⟩:=r.back t
 exact k v s' G1 (r.step t1) t1.sub (fl p v hf d)
theorem bE.small {e:PySem.Expr} {p:PV} (h:aa X n sc ρ e p):bE X n sc ρ ω e p ω:=
 fun A env s G D Q E rm wr r k=>h A env s G Q E rm r.er fun v s' G' t d=>k v s' G' (r.step t) t.sub d
theorem mn {ps:List PV} (h:PV.bO ps=true) {G G':ae} (fl:∀p v,p.flat=true→Rd G p v→Rd G' p v):∀{vs:List Value},aE G ps vs→aE G' ps vs:=by
 induction ps with
 | nil=>intro vs h;exact h
 | cons p ps ih=>
  (intro vs zz;obtain⟨v,r,e,a,b⟩:=zz)
  unfold PV.bO at h
  obtain⟨f1,f2⟩:=Bool.and_eq_true_iff.mp h
  exact⟨v,r,e,fl p v f1 a,ih f2 b⟩
theorem bE.yn {e:PySem.Expr} {l:List PV} (h:bH X n sc (cm ω ρ) e l) (hf:PV.bO l=true):bE X n sc ρ ω e (.lst l) ω:=by
 intro A env s G D Q E rm wr r k
 refine h A env s _ Q E rm r.plus.1 fun a vs s' G' t hn hg hl hr=>?_
 obtain⟨G1,t1,fl,_⟩:=r.back t
 obtain⟨o,ho,hc,m,hd⟩:=hl.isList
 obtain⟨G2,t2,up,hG⟩:=t1.freeze r.er.gnd hn ho
 exact k _ s' G2 (r.step t2) t2.sub ⟨a,o,vs,m,rfl,hG,hc,hd,aE.mono up _ _ (mn hf fl hr)⟩
inductive eA (X:Cx) (n:Nat) (sc:Scope) (ρ:az):aA→List PySem.Expr→List PV→aA→Prop
 | nil {ω:aA}:eA X n sc ρ ω [] [] ω
 | cons {ω ω' ω'':aA} {e:PySem.Expr} {es:List PySem.Expr} {p:PV} {ps:List PV}:bE X n sc ρ ω e p ω'→eA X n sc ρ ω' es ps ω''→(∀env,starEach (e::es) env=(false,eval e env)::starEach es env)→eA X n sc ρ ω (e::es) (p::ps) ω''
theorem eA.ag {e:PySem.Expr} {es:List PySem.Expr} {p:PV} {ps:List PV} (a:bE X n sc ρ ω e p ω') (b:eA X n sc ρ ω' es ps ω'') (h:∀env,starEach (e::es) env=(false,eval e env)::starEach es env:=by intro _;rfl):eA X n sc ρ ω (e::es) (p::ps) ω'':= .cons a b h
theorem eA.go {es:List PySem.Expr} {ps:List PV} (h:eA X n sc ρ ω es ps ω'):∀(A:Around) (env:Env) (s:Shared) (G:ae) (D:Bd) (pos:Pos) (Q:List Value→Shared→Prop) (E:Value→Shared→Prop),aV A n→D.wr=true→bC X env sc ρ ω D s G→
  (∀vs s' G',bC X env sc ρ ω' D s' G'→Sub G G'→aE G' ps vs→Q vs s')→wpAny (model X.prog X.w) A (spliced (backTo pos (starEach es env))) Q E s:=by
 induction h with
 | nil=>intro A env s G D pos Q E _ wr r k;exact spliced_nil (k [] s G r (Sub.refl _) aE.nil)
 | cons a b hs ih=>
  intro A env s G D pos Q E rm wr r k
  rw[hs env]
  refine spliced_cons (x:=eval _ env) ?_
  exact a A env s G D _ E rm wr r fun v s1 G1 r1 u1 d1=>ih A env s1 G1 D pos _ E rm wr r1 fun vs s2 G2 r2 u2 d2=>k _ s2 G2 r2 (u1.trans u2) (aE.cons (Rd.mono u2 _ _ d1) d2)
theorem eA.length {es:List PySem.Expr} {ps:List PV} (h:eA X n sc ρ ω es ps ω'):ps.length=es.length:=by
 induction h with
 | nil=>rfl
 | cons _ _ _ ih=>simp[ih]
theorem bE.tuple {es:List PySem.Expr} {k:Nat} {pos:Pos} {ps:List PV} (h:eA X n sc ρ ω es ps ω') (hz:es.length≤1000:=by decide):bE X n sc ρ ω (.Tuple es k pos) (.tup ps) ω':=by
 intro A env s G D Q E rm wr r K
 refine wpAny_Tuple_spliced (h.go A env s G D pos _ E rm wr r fun vs s1 G1 r1 u1 d1=>⟨?_,?_⟩)
 ·have:=d1.length;rw[this,h.length];exact yN hz (by unfold sizeLine;decide)
 ·have st:=r1.er.base.push {cls:= .type "tuple",data:= .seq (List.toArray vs)}
  exact K _ _ _ (r1.step st) (u1.trans st.sub) ⟨_,_,vs,0,rfl,iL (aq _) (Heap.get?_push_size _ rfl),rfl,rfl,aE.mono st.sub _ _ d1⟩
theorem bE.bin {op:Operator} {l r:PySem.Expr} {pos:Pos} {p q t:PV} (hl:bE X n sc ρ ω l p ω') (hr:bE X n sc ρ ω' r q ω'') (ho:aK X n op p q t):bE X n sc ρ ω (.BinOp l op r pos) t ω'':=
 fun A env s G D Q E rm wr r0 k=>wpAny_BinOp (hl A env s G D _ E rm wr r0 fun v s1 G1 r1 u1 d1=>hr A env s1 G1 D _ E rm wr r1 fun u s2 G2 r2 u2 d2=>
  ho G2 s2 v u r2.er.base (Rd.mono u2 _ _ d1) d2 A _ E rm fun z s3 G3 t3 d3=>k z s3 G3 (r2.step t3) ((u1.trans u2).trans t3.sub) d3)
theorem bE.sub {value slice:PySem.Expr} {pos:Pos} {p q r:PV} (hv:bE X n sc ρ ω value p ω') (hs:bE X n sc ρ ω' slice q ω'') (h:aL X n p q r)
  (hsl:∀o i,subscripted slice false o i=operate [o,i] (PySem.getItem o i):=by intro _ _;rfl):bE X n sc ρ ω (.Subscript value slice pos) r ω'':=by
 intro A env s G D Q E rm wr r0 k
 refine Subscript_ (hv A env s G D _ E rm wr r0 fun o s1 G1 r1 u1 d1=>hs A env s1 G1 D _ E rm wr r1 fun i s2 G2 r2 u2 d2=>?_)
 obtain⟨T,id,h1,h2,h3⟩:=h G2 s2 o i r2.er.base (Rd.mono u2 _ _ d1) d2
 exact tail_any h2 h1 (h3 A _ E rm fun v s3 G3 t3 d3=>k v s3 G3 (r2.step t3) ((u1.trans u2).trans t3.sub) d3) (hsl o i)
noncomputable def xv (X:Cx) (n:Nat) (sc:Scope) (ρ:az) (ω:aA) (e:PySem.Expr) (b:Bool) (ω':aA):Prop:=
 ∀(A:Around) (env:Env) (s:Shared) (G:ae) (D:Bd) (Q:Bool→Shared→Prop) (E:Value→Shared→Prop),aV A n→D.wr=true→bC X env sc ρ ω D s G→
  (∀s' G',bC X env sc ρ ω' D s' G'→Sub G G'→Q b s')→wpAny (model X.prog X.w) A (isTrue e env (eval e env)) Q E s
theorem xv.cmp {op:CmpOp} {l r:PySem.Expr} {pos:Pos} {p q t:PV} {b:Bool} (hl:bE X n sc ρ ω l p ω') (hr:bE X n sc ρ ω' r q ω'') (ho:ay X n op p q t) (hb:aJ X n t b)
  (hm:behindInMarks op r=false:=by with_unfolding_all rfl):xv X n sc ρ ω (.Compare l [op] [r] pos) b ω'':=
 fun A env s G D Q E rm wr r0 k=>wpAny_isTrue_Compare1 (hl A env s G D _ E rm wr r0 fun v s1 G1 r1 u1 d1=>hr A env s1 G1 D _ E rm wr r1 fun u s2 G2 r2 u2 d2=>
  ho G2 s2 v u r2.er.base (Rd.mono u2 _ _ d1) d2 A _ E rm fun z s3 G3 t3 d3=>hb G3 s3 z A _ E rm t3.base d3 fun s4 G4 t4=>k s4 G4 (r2.step (t3.trans t4)) (((u1.trans u2).trans t3.sub).trans t4.sub)) hm
theorem bE.tE {test body orelse:PySem.Expr} {pos:Pos} {p:PV} {b:Bool} (h:xv X n sc ρ ω test b ω') (ht:b=true→bE X n sc ρ ω' body p ω'') (hf:b=false→bE X n sc ρ ω' orelse p ω''):bE X n sc ρ ω (.IfExp test body orelse pos) p ω'':=by
 intro A env s G D Q E rm wr r k
 refine wpAny_IfExp (h A env s G D _ E rm wr r fun s1 G1 r1 u1=>?_)
 cases b with
 | true=>dsimp only[iT];exact ht rfl A env s1 G1 D _ E rm wr r1 fun v s2 G2 r2 u2 d=>k v s2 G2 r2 (u1.trans u2) d
 | false=>dsimp only[iF];exact hf rfl A env s1 G1 D _ E rm wr r1 fun v s2 G2 r2 u2 d=>k v s2 G2 r2 (u1.trans u2) d
variable {P:a6} {R:PV→aA→Prop}
theorem aF.eC {e:PySem.Expr} {pos:Pos} {p:PV} (h:bE X n sc ρ ω e p ω') (k:P .next ρ ω') (hs:∀env,swapsWith e none pos.line env=pure false:=by intro _;rfl):aF X n sc ρ ω (.Expr e pos) P R:=
 fun A env s G D Q E rm wr r k1 k2=>wpAny_Expr_any (h A env s G D _ E rm wr r fun v s1 G1 r1 _ d1=>k1 .next ρ ω' s1 G1 k r1) (fB r) (hs env)
theorem aF.ju {x:Str} {e:PySem.Expr} {pos pos':Pos} {p:PV} (h:bE X n sc ρ ω e p ω') (hx:b8 sc x) (k:P .next ((x,some p)::ρ) ((x,none)::ω'))
  (hs:∀env,swapsWith e (some (.Name x pos')) pos.line env=pure false:=by intro _;rfl):aF X n sc ρ ω (.Assign [.Name x pos'] e pos) P R:=
 fun A env s G D Q E rm wr r k1 k2=>wpAny_Assign_Name (h A env s G D _ E rm wr r fun v s1 G1 r1 _ d1=>r1.storeAt (b8.at hx wr) fun h' tk S=>k1 .next _ _ _ G1 k (S.pure r1 d1)) (hs env)
theorem aF.ry {tgts:List PySem.Expr} {k0:Nat} {pt pos:Pos} {e:PySem.Expr} {p:PV} (h:bE X n sc ρ ω e p ω') (ha:fM X n true sc (.Tuple tgts k0 pt) p ρ ω' (fun ρ' ω'=>P .next ρ' ω'))
  (hw:∀env,env.scope=sc→swappedStores [.Tuple tgts k0 pt] e env=pure none) (hs:∀env,swapsWithSole [.Tuple tgts k0 pt] e pos.line env=pure false:=by intro _;rfl):aF X n sc ρ ω (.Assign [.Tuple tgts k0 pt] e pos) P R:=
 fun A env s G D Q E rm wr r k1 k2=>PyProof.Rows.Assign_Tuple (h A env s G D _ E rm wr r fun v s1 G1 r1 _ d1=>ha A env s1 G1 D v _ E rm wr r1 d1 fun ρ' ω' s' G' hp r'=>k1 .next ρ' ω' s' G' hp r') (hs env) (hw env r.er.scope)
theorem aF.uf {e:PySem.Expr} {pos:Pos} {p:PV} (h:bE X n sc ρ ω e p ω') (hr:R p ω'):aF X n sc ρ ω (.Return (some e) pos) P R:=
 fun A env s G D Q E rm wr r k1 k2=>wpAny_Return_some (h A env s G D _ E rm wr r fun v s' G' r' _ d=>k2 p ω' v s' G' hr r'.fin r'.held d)
theorem aF.yb {x:Str} {px pos:Pos} {op:Operator} {e:PySem.Expr} {p q r:PV} (hl:ρ.lookup x=some (some p)) (h:bE X n sc ρ ω e q ω') (ho:gR X n op p q r) (hx:b8 sc x) (k:P .next ((x,some r)::ρ) ((x,none)::ω')):
  aF X n sc ρ ω (.AugAssign (.Name x px) op e pos) P R:=by
 intro A env s G D Q E rm wr rr k1 k2
 refine wpAny_AugAssign_Name (qB rr.er hl fun v dv=>h A env s G D _ E rm wr rr fun u s1 G1 r1 u1 d1=>ho G1 s1 v u r1.er.base (Rd.mono u1 _ _ dv) d1 A _ E rm fun z s2 G2 t2 d2=>?_)
 have r2:=r1.step t2
 exact r2.storeAt (b8.at hx wr) fun h' tk S=>k1 .next _ _ _ G2 k (S.pure r2 d2)
end
end
section
open PySem PySem.Calls PyProof.Rows PySem.W Builtin
inductive SeqAt (h:Heap) (a:Addr) (items:Array Value):Prop
 | mk (o n) (e:h.get? a=some o) (d:o.data= .seq items n)
theorem SeqAt.at {h h':Heap} {a:Addr} {items:Array Value} (x:SeqAt h a items) (k:∀o,h.get? a=some o→h'.get? a=some o):SeqAt h' a items:=let ⟨o,n,e,d⟩:=x;⟨o,n,k o e,d⟩
section
variable {prog:Program} {w:World} {A:Around} {E:Value→Shared→Prop} {s:Shared}
theorem eb {it l:Addr} {i:Nat} {items:Array Value} {x:Value} {Q:Option Value→Shared→Prop} (hit:s.heap.IsListIter it l i)
  (hl:SeqAt s.heap l items) (hx:items[i]?=some x)
  (hQ:∀h',h'.IsListIter it l (i+1)→Heap.SameBut it s.heap h'→Q (some x) {s with heap:=h'}):
  wpAny (model prog w) A (pyNext (.ref it)) Q E s:=by
 obtain⟨o,ho,hc,hd⟩:=id hit
 obtain⟨ol,nl,hol,hdl⟩:=hl
 unfold pyNext
 refine yI (wpAny_attempt (wpAny_callSpecial?_slot (name:=Str.ofString "__next__") hit.typeIs slot_listiter_next (wpAny_call_entry slot_listiter_next hit.typeIs entry_listiter_next ?_ (args_listiter_next _))))
 show wpAny _ _ (field (.ref it) 0>>=_) _ _ s
 refine yI (wpAny_field ho hd (x:= .ref l) rfl ?_)
 show wpAny _ _ (if (Value.ref l==Value.none)=true then _ else _) _ _ s
 rw[if_neg (show ¬((Value.ref l==Value.none)=true) from Bool.false_ne_true)]
 show wpAny _ _ (field (.ref it) 1>>=_) _ _ s
 refine yI (wpAny_field ho hd (x:= .int i 0) rfl ?_)
 show wpAny _ _ (seqItems? (.ref l)>>=_) _ _ s
 refine yI (wpAny_seqItems hol hdl ?_)
 rw[Int.toNat_natCast]
 dsimp only
 rw[hx]
 refine yI (wpAny_setField ho hd (by simp) (yJ ⟨x,rfl,yJ (hQ _ ?_ (Heap.SameBut.update ..))⟩))
 exact⟨_,Heap.get?_update_self _ ho (Obj.isFreed_of_fields (Obj.data_mapFields hd _)),(Obj.cls_mapFields ..).trans hc,by
  rw[Obj.data_mapFields hd];simp[rawInt]⟩
theorem gH {it l:Addr} {i:Nat} {items:Array Value} {Q:Option Value→Shared→Prop} (hh:A.handled=none)
  (hit:s.heap.IsListIter it l i) (hl:SeqAt s.heap l items) (hx:items[i]?=none)
  (hQ:∀h',Heap.ExtBut it s.heap h'→Q none {s with heap:=h'}):wpAny (model prog w) A (pyNext (.ref it)) Q E s:=by
 obtain⟨o,ho,hc,hd⟩:=id hit
 obtain⟨ol,nl,hol,hdl⟩:=hl
 unfold pyNext
 refine yI (wpAny_attempt (wpAny_callSpecial?_slot (name:=Str.ofString "__next__") hit.typeIs slot_listiter_next (wpAny_call_entry slot_listiter_next hit.typeIs entry_listiter_next ?_ (args_listiter_next _))))
 show wpAny _ _ (field (.ref it) 0>>=_) _ _ s
 refine yI (wpAny_field ho hd (x:= .ref l) rfl ?_)
 show wpAny _ _ (if (Value.ref l==Value.none)=true then _ else _) _ _ s
 rw[if_neg (show ¬((Value.ref l==Value.none)=true) from Bool.false_ne_true)]
 show wpAny _ _ (field (.ref it) 1>>=_) _ _ s
 refine yI (wpAny_field ho hd (x:= .int i 0) rfl ?_)
 show wpAny _ _ (seqItems? (.ref l)>>=_) _ _ s
 refine yI (wpAny_seqItems hol hdl ?_)
 rw[Int.toNat_natCast]
 dsimp only
 rw[hx]
 refine yI (wpAny_rule (yI (wpAny_setField ho hd (by simp) ?_)))
 show wpAny _ _ (newExc (.type "StopIteration") []>>=_) _ _ _
 refine yI ?_
 unfold newExc newTuple
 refine yI (wpAny_newObj_type ?_ (by size_fits))
 refine yI (m:=firstArgMember _ _) (wpAny_of_eq (a:=Value.none) (by first | rfl | (simp only[firstArgMember];rfl)) ?_)
 refine wpAny_newObj_type ?_ (by size_fits)
 unfold raiseNew
 refine yI (wpAny_handled ?_)
 rw[show A.in1.handled=none from hh]
 refine yI (yJ (wpAny_throw ?_))
 refine yI (wpAny_isInstance (T:="StopIteration") (b:=true) ⟨_,Heap.get?_push_size _ rfl,rfl⟩ isSubtype_stop ?_)
 exact yJ (hQ _ (((Heap.SameBut.update ..).extBut.push _).push _))
theorem g7 {K:Frag} {id owner nm:String} {b:Builtin} {a c:Addr} {o:Obj} {od:Option Obj} {rest:List Value} {Q:Value→Shared→Prop} (X0:K.In s.heap) (I:InstAt s.heap a o c od) (hm:mroIn K c (.type owner)=some true)
  (hk:builtinKind id=some .slot∨builtinKind id=some .method) (hs:splitId id=some (owner,nm)) (hp:plainId id=true) (hb:entryFor table id=some b) (ha:argsOk id ⟨.ref a::rest,[]⟩)
  (hc:wpAny (model prog w) A.in1 (b ⟨.ref a::rest,[]⟩) (fun fin s'=>∃v,fin= .done (.ret v)∧Q v s') E s):wpAny (model prog w) A (call (.builtin id) (.ref a::rest)) Q E s:=by
 have L:Looks (model prog w) s.heap (isInstance (.ref a) (.type owner)) true:=I.type.andThen (looks_mroIn X0 hm)
 have fin:wpAny (model prog w) A.in1 (b ⟨.ref a::rest,[]⟩) (fun fin s'=>match fin with | .done f=>(match (Except.ok f:Result) with | .ok (.ret v)=>Q v s' | .ok _=>False | .error e=>E e s') | .again c'=>c'.quiet=true∧codeAny (model prog w) A c' (fun r s'=>match r with | .ok (.ret v)=>Q v s' | .ok _=>False | .error e=>E e s') s') (fun e s'=>E e s') s:=
  wpAny_mono hc (fun fin s' h'=>by obtain⟨v,rfl,hv⟩:=h';exact hv) fun _ _ h'=>h'
 refine wpAny_call (codeAny_call_builtin hp hb ?_)
 rcases hk with hk | hk
 ·exact check_slot hk hs L ha fin
 ·exact kfo_check hk hs L ha fin
theorem iD {M:Model} {K:Frag} {a c:Addr} {o:Obj} {od:Option Obj} {name:Str} {id:String} {args:List Value} {Q:Option Value→Shared→Prop} (X0:K.In s.heap) (I:InstAt s.heap a o c od) (hs:findIn K (.ref c) name=some (some (.builtin id)))
 (hb:∀self,bindSpecial (.builtin id) self=pure (.builtin id,[self])) (h:wpAny M A (call (.builtin id) (.ref a::args)) (fun v=>Q (some v)) E s):wpAny M A (callSpecial? (.ref a) name args) Q E s:=kfo_special X0 I hs hb h
theorem jW {K:Frag} {a c:Addr} {o:Obj} {od:Option Obj} {Q:Value→Shared→Prop} (X0:K.In s.heap) (I:InstAt s.heap a o c od) (hm:mroIn K c (.type "list")=some true) (hs:findIn K (.ref c) "__iter__" =some (some (.builtin "list.__iter__")))
  (hQ:Q (.ref s.heap.objs.size) {s with heap:=s.heap.push {cls:= .type "list_iterator",data:= .fields #[.ref a, .int 0 0]}}):wpAny (model prog w) A (pyIter (.ref a)) Q E s:=by
 have body:wpAny (model prog w) A (call (.builtin "list.__iter__") [.ref a]) (fun it s'=>it= .ref s.heap.objs.size∧s'={s with heap:=s.heap.push {cls:= .type "list_iterator",data:= .fields #[.ref a, .int 0 0]}}) E s:=by
  refine g7 X0 I hm (owner:="list") (nm:="__iter__") (.inl (by decide +kernel)) (by decide +kernel) slot_list_iter.plain entry_list_iter (args_list_iter _) ?_
  show wpAny _ _ (do ret (←newFields "list_iterator" [.ref a,rawInt 0])) _ _ s
  exact yI (wpAny_newObj_type (yJ ⟨_,rfl,rfl,rfl⟩))
 unfold pyIter
 refine yI (yI (I.type.here ((looks_findIn X0 hs).here ?_)))
 show wpAny _ _ (callSpecialIfBoundUnlessNone? (.ref a) "__iter__" _>>=_) Q E s
 refine yI ?_
 unfold callSpecialIfBoundUnlessNone? bindSpecialIfBound?
 refine wpAny_holding (yI (yI (yI (I.type.here ((looks_findIn X0 hs).here ?_)))))
 dsimp only
 refine yI (wpAny_askSetting (wpAny_ite ?_))
 have fin:∀{refuse:Sem Value},wpAny (model prog w) A (if (Value.builtin "list.__iter__"==Value.none)=true then (refuse>>=fun v=>pure (some v)) else (call (.builtin "list.__iter__") [.ref a]>>=fun v=>pure (some v)))
   (fun r s'=>r=some (.ref s.heap.objs.size)∧s'={s with heap:=s.heap.push {cls:= .type "list_iterator",data:= .fields #[.ref a, .int 0 0]}}) E s:=by
  intro refuse
  rw[if_neg (show ¬((Value.builtin "list.__iter__"==Value.none)=true) by rw[builtin_beq_none];exact Bool.false_ne_true)]
  exact yI (wpAny_mono body (fun v s' h'=>yJ ⟨by rw[h'.1],h'.2⟩) fun _ _ h'=>h')
 have last:∀{r:Option Value} {s':Shared},(r=some (.ref s.heap.objs.size)∧s'={s with heap:=s.heap.push {cls:= .type "list_iterator",data:= .fields #[.ref a, .int 0 0]}})→wpAny (model prog w) A (match r with
   | some it=>(do match ←specialOf it "__next__" with
    | none=>do rule "iter.non-iterator";raiseError "TypeError" s!"iter() returned non-iterator of type '{← typeNameOf it}'"
    | some _=>pure it)
   | none=>(do match ←bindSpecialIfBound? (.ref a) "__getitem__" with
    | none=>do rule "iter.not-iterable";raiseError "TypeError" s!"'{← typeNameOf (.ref a)}' object is not iterable"
    | some _=>do rule "iter.getitem-fallback";newFields "iterator" [.ref a,←mkInt 0])) Q E s':=by
  (intro r s' zz;obtain⟨rfl,rfl⟩:=zz)
  exact yI (wpAny_specialOf (T:="list_iterator") ⟨_,Heap.get?_push_size _ rfl,rfl⟩ slot_listiter_next.lookup (yJ hQ))
 split
 ·refine yI ?_
  rw[slot_list_iter.bind]
  refine yJ (yJ ?_)
  exact wpAny_mono fin (fun r s' h=>last h) fun _ _ h=>h
 ·refine wpAny_tryCatch (yI ?_)
  rw[slot_list_iter.bind]
  refine yJ (yJ ?_)
  exact wpAny_mono fin (fun r s' h=>last h) fun _ _ h=>h
end
section
variable {X:Cx} {n:Nat} {sc:Scope} {ρ:az} {ω:aA}
structure SubL (X:Cx) (c:Addr):Prop where
 mro:mroIn X.K c (.type "list")=some true
 seq:noSeq X.K c=true
 iter:findIn X.K (.ref c) "__iter__" =some (some (.builtin "list.__iter__"))
 get:findIn X.K (.ref c) "__getitem__" =some (some (.builtin "list.__getitem__"))
 set:findIn X.K (.ref c) "__setitem__" =some (some (.builtin "list.__setitem__"))
 bool:findIn X.K (.ref c) "__bool__" =some none
theorem bM.bo {h:Heap} {a c d:Addr} {o:Obj} {vs:List Value} (ho:h.get? a=some o) (i:bM o c d true vs):SeqAt h a vs.toArray:=by
 obtain⟨_,_,hs⟩:=i
 dsimp only[iT] at hs
 obtain⟨k,hs⟩:=hs
 exact⟨o,k,ho,hs⟩
theorem bA.sub {tgt:PySem.Expr} {it a:Addr} {l:List PV} (hne:a≠it):bA X n tgt it [it] (fun G h rest=>∃i vs o m,h.IsListIter it a i∧G a=some o∧o.data= .seq (List.toArray vs) m∧aE G l vs∧rest=l.drop i∧Sub G h.get?):=by
 refine⟨?_,?_,?_,?_⟩
 ·(intro G G' h h' rest zz;obtain⟨i,vs,o,m,h1,h2,h4,h5,h6,h7⟩:=zz;intro hs hk hw)
  exact⟨i,vs,o,m,h1.at fun o e=>hk it (by simp) o e,hs _ _ h2,h4,aE.mono hs _ _ h5,h6,hw⟩
 ·(intro G h rest zz;obtain⟨i,vs,o,m,⟨oi,ho,_,hd⟩,_⟩:=zz;intro b hb)
  simp at hb;subst hb
  exact⟨oi,_,ho,hd⟩
 ·(intro A s G E rest Q rm b zz;obtain⟨i,vs,o,m,hit,h2,h4,h5,rfl,_⟩:=zz;intro hg k1 k2)
  obtain⟨hg1,hsp⟩:=hg it (by simp)
  obtain⟨oi,hoi,hci,hdi⟩:=id hit
  have hl:SeqAt s.heap a (List.toArray vs):=⟨o,m,b.within _ _ h2,h4⟩
  have hnc:oi.cls≠ .type "code":=by rw[hci];decide
  cases e:l.drop i with
  | nil=>
   refine gH rm.2.2 hit hl (by simpa [h5.length] using bX e) fun h' hx=>?_
   exact k1 e _ G (jF b (tk:=s.toks) hx hg1 hsp hoi hnc)
  | cons p r=>
   obtain⟨e1,e2⟩:=getElem_drop e
   obtain⟨v,hv,d⟩:=h5.get e1
   refine eb hit hl (x:=v) (by simpa using hv) fun h' hit' hx=>?_
   have st:=lP b (tk:=s.toks) hx hg1 hsp hoi hnc
   obtain⟨o2,ho2,hc2,_⟩:=id hit'
   refine cj (T:="list_iterator") ho2 hc2 (by decide) ?_
   exact k2 p r e v _ G st d ⟨i+1,vs,o,m,hit',h2,h4,h5,e2.symm,st.within⟩
 ·(intro A s G rest Q E zz;obtain⟨i,vs,o,m,h1,_⟩:=zz;intro q);exact wpAny_pyIter_listiter h1 q
theorem fW.sub {tgt:PySem.Expr} {c:Addr} {names:List Str} {vals l:List PV} (S:SubL X c):fW X n (.ins c names vals l true) tgt l:=by
 intro A s G v Q E rm b d k
 obtain⟨a,o,dd,od,m,us,vs,rfl,I,i,hn,mm,r1,r2,g⟩:=Rd.ins b.within d
 refine jW b.gnd.kin I S.mro S.iter ?_
 have hne:a≠s.heap.objs.size:=fun q=>by have:=b.within _ _ g;rw[q,aq] at this;cases this
 obtain⟨o',kk,ho',hd'⟩:=bM.bo I.at_ i
 have:=I.at_
 rw[ho'] at this;cases this
 refine k _ [s.heap.objs.size] _ _ G (b.fresh _) (fun c hc=>?_) (bA.sub hne) ⟨0,vs,o,kk,⟨_,Heap.get?_push_size _ rfl,rfl,rfl⟩,g,hd',r2,rfl,(b.fresh _).within⟩
 simp at hc;subst hc
 exact⟨aq _,ao b.within (aq _)⟩
theorem mT {A:Around} {s:Shared} {a c:Addr} {o:Obj} {od:Option Obj} {k:Value} {name:Str} {Q E:Value→Shared→Prop} (X0:X.K.In s.heap) (I:InstAt s.heap a o c od) (hq:noSeq X.K c=true) (h:Q k s):wpAny (model X.prog X.w) A (sequenceKey (.ref a) k name) Q E s:=by
 unfold sequenceKey
 refine yI (I.type.here ?_)
 refine yI ((anyM_none X0 hq).here ?_)
 rw[if_pos (show(!false)=true from rfl)]
 exact yJ h
theorem mG {A:Around} {s:Shared} {a c:Addr} {o:Obj} {od:Option Obj} {items:Array Value} {k:Int} {t:Tok} {x:Value} {Q E:Value→Shared→Prop} (S:SubL X c) (X0:X.K.In s.heap) (I:InstAt s.heap a o c od) (hd:SeqAt s.heap a items)
  (h0:0≤k) (hfit:k<2 ^ 63) (hx:items[k.toNat]?=some x) (h:Q x s):wpAny (model X.prog X.w) A (PySem.getItem (.ref a) (.int k t)) Q E s:=by
 obtain⟨o',kk,ho,hd⟩:=hd
 unfold PySem.getItem
 refine wpAny_holding (yI (mT X0 I S.seq ?_))
 refine yI (iD X0 I S.get slot_list_getitem.bind (g7 X0 I S.mro (owner:="list") (nm:="__getitem__") (.inr (by decide +kernel)) (by decide +kernel) slot_list_getitem.plain entry_list_getitem (args_list_getitem _ _) ?_))
 show wpAny _ _ (Builtin.List.listSubscript? (.int k t)>>=_) _ _ s
 refine yI (wpAny_listSubscript_int (fitsIndex_of h0 hfit) ?_)
 clear hfit
 obtain⟨j,rfl⟩:=Int.eq_ofNat_of_zero_le h0
 have hx':items[j]?=some x:=hx
 show wpAny _ _ ((seqItemAt a j>>=fun r=>pure (r.map (j,·)))>>=_) _ _ s
 refine yI (yI (wpAny_seqItemAt ho hd (yJ ?_)))
 rw[hx']
 first
  | exact yI (yJ (yJ ⟨x,rfl,yJ h⟩))
  | exact yJ ⟨x,rfl,yJ h⟩
theorem tail_sub {A:Around} {s:Shared} {value slice:PySem.Expr} {i:Value} {ops:List Value} {a c:Addr} {o:Obj} {od:Option Obj} {id:String} {Q E:Value→Shared→Prop} (X0:X.K.In s.heap) (I:InstAt s.heap a o c od)
  (hl:findIn X.K (.ref c) "__getitem__" =some (some (.builtin id))) (hg:wpAny (model X.prog X.w) A (PySem.getItem (.ref a) i) Q E s)
  (hs:subscripted slice false (.ref a) i=operate ops (PySem.getItem (.ref a) i)):wpAny (model X.prog X.w) A (subscriptTail value slice (.ref a) i) Q E s:=by
 unfold subscriptTail getitemInPython
 refine yI (yI (yI (I.type.here ((looks_findIn X0 hl).here ?_))))
 dsimp only
 refine yJ ?_
 rw[hs]
 exact yI (wpAny_operating (wpAny_mono hg (fun r s₃ h₃=>yI (wpAny_letTemporaryGo (yJ h₃))) fun _ _ x=>x))
theorem aa.uc {value slice:PySem.Expr} {pos:Pos} {c:Addr} {names:List Str} {vals l:List PV} {i:Nat} {r:PV} (S:SubL X c) (hv:aa X n sc ρ value (.ins c names vals l true)) (hs:aa X n sc ρ slice (.int i)) (h:l[i]?=some r) (hz:l.length<1000000)
  (hsl:∀o i,subscripted slice false o i=operate [o,i] (PySem.getItem o i):=by intro _ _;rfl):aa X n sc ρ (.Subscript value slice pos) r:=by
 intro A env s G Q E rm e k
 refine Subscript_ (hv A env s G _ E rm e fun o s1 G1 t1 d1=>hs A env s1 G1 _ E rm (e.step t1) fun iv s2 G2 t2 d2=>?_)
 obtain⟨t,rfl⟩:=d2
 obtain⟨a,o,dd,od,m,us,vs,rfl,I,ii,hn,mm,r1,r2,g⟩:=Rd.ins t2.within (Rd.mono t2.sub _ _ d1)
 obtain⟨v,hv',dv⟩:=r2.get h
 have hi:i<l.length:=by
  by_cases z:i<l.length
  ·exact z
  ·rw[List.getElem?_eq_none (Nat.not_lt.mp z)] at h;cases h
 refine tail_sub t2.gnd.kin I S.get (mG S t2.gnd.kin I (bM.bo I.at_ ii) (by omega) (by lia) (x:=v) (by simpa using hv') ?_) (hsl _ _)
 exact k v s2 G2 (t1.trans t2) dv
theorem qA {A:Around} {s:Shared} {G:ae} {a c f:Addr} {o:Obj} {od:Option Obj} {p:PV} {r:Nat} {Q E:Value→Shared→Prop} (rm:aV A n) (b:Base X s G) (I:InstAt s.heap a o c od) (d:Rd G p (.ref a)) (hs:findIn X.K (.ref c) "__len__" =some (some (.ref f))) (ht:typeIn X.K (.ref f)=some (.type "function"))
  (h:cA X n f [p] [] (.int r)) (hz:r<2 ^ 63) (q:∀t s' G',Step X s G s' G'→Q (.int r t) s'):wpAny (model X.prog X.w) A (Builtin.«len» ⟨[.ref a],[]⟩) (fun fin s'=>∃v,fin= .done (.ret v)∧Q v s') E s:=by
 unfold Builtin.«len»
 refine yI (m:=oneArg "len" _) (yJ ?_)
 refine yI (m:=callSpecial? (.ref a) (Str.ofString "__len__")) (special_fn b.gnd.kin I hs ht ?_)
 refine call_of h rm b (aE.cons d aE.nil) fun v s' G' t d'=>?_
 obtain⟨u,rfl⟩:=d'
 refine yI (wpAny_holding (yJ ?_))
 refine yI (wpAny_letGo ?_)
 show wpAny _ _ (if (r:Int)<0 then _ else _) _ _ _
 rw[if_neg (by lia)]
 show wpAny _ _ (if (r:Int)≥2 ^ 63 then _ else _) _ _ _
 rw[if_neg (by lia)]
 exact yI (wpAny_mkInt (yJ ⟨_,rfl,q _ _ G' (t.trans (t.base.toks _))⟩))
theorem aa.rN {x:Str} {pf pos:Pos} {e:PySem.Expr} {c f:Addr} {names:List Str} {vals l:List PV} {sq:Bool} {r:Nat} (hf:aa X (n+1) sc ρ (.Name x pf) (.opq (.builtin "len"))) (he:aa X (n+1) sc ρ e (.ins c names vals l sq)) (hs:findIn X.K (.ref c) "__len__" =some (some (.ref f))) (ht:typeIn X.K (.ref f)=some (.type "function"))
  (h:cA X n f [.ins c names vals l sq] [] (.int r)) (hz:r<2 ^ 63) (hst:∀env,starEach [e] env=(false,eval e env)::starEach [] env:=by intro _;rfl):aa X (n+1) sc ρ (.Call (.Name x pf) [e] [] pos) (.int r):=by
 refine aa.kr hf (.cons he .nil hst) fun G s vs b d A Q E rm q=>?_
 obtain⟨v,_,rfl,d,rfl⟩:=d
 obtain⟨a,o,dd,od,m,us,vs,rfl,I,ii,hn,mm,r1,r2,g⟩:=Rd.ins b.within d
 refine Calls.call_function_entry kind_len plain_len entry_len (args_len1 _) ?_
 exact qA rm.in1 b I d hs ht h hz fun t s' G' st=>q _ _ G' st ⟨t,rfl⟩
theorem aJ.len {c f:Addr} {names:List Str} {vals l:List PV} {r:Nat} (S:SubL X c) (hs:findIn X.K (.ref c) "__len__" =some (some (.ref f))) (ht:typeIn X.K (.ref f)=some (.type "function"))
  (h:cA X n f [.ins c names vals l true] [] (.int r)) (hz:r<2 ^ 63):aJ X (n+1) (.ins c names vals l true) (decide (r≠0)):=by
 intro G s v A Q E rm b d q
 obtain⟨a,o,dd,od,m,us,vs,rfl,I,ii,hn,mm,r1,r2,g⟩:=Rd.ins b.within d
 unfold truthy
 refine yI (m:=callSpecial? (.ref a) (Str.ofString "__bool__")) (yI (yI (I.type.here ((looks_findIn b.gnd.kin S.bool).here (yJ ?_)))))
 refine yI (yI (I.type.here ((looks_findIn b.gnd.kin hs).here ?_)))
 rw[show(some (Value.ref f)).isNone=false from rfl,if_neg (by decide)]
 refine yI (wpAny_runValue (codeAny_builtin entry_len ?_))
 rw[Around.under_plainId plain_len _]
 refine wpAny_mono (qA (Q:=fun v s'=>∃t,v= .int r t∧Q (decide (r≠0)) s') rm.in1 b I d hs ht h hz fun t s' G' st=>⟨t,rfl,q _ G' st⟩) (fun fin s' hh=>?_) fun _ _ e=>e
 obtain⟨v,rfl,t,rfl,hq⟩:=hh
 refine yJ ?_
 have:((r:Int) != 0)=decide (r≠0):=by rw[Bool.eq_iff_iff];simp
 rw[this];exact hq
theorem aa.ud {x:Str} {pf pos:Pos} {e:PySem.Expr} {c f:Addr} {names:List Str} {vals l:List PV} {sq:Bool} {r:List Nat} (hf:aa X (n+1) sc ρ (.Name x pf) (.opq (.type "str"))) (he:aa X (n+1) sc ρ e (.ins c names vals l sq)) (hs:findIn X.K (.ref c) "__str__" =some (some (.ref f))) (ht:isFn X.K (.ref f)=true)
  (h:cA X n f [.ins c names vals l sq] [] (.txt r)) (hst:∀env,starEach [e] env=(false,eval e env)::starEach [] env:=by intro _;rfl):aa X (n+1) sc ρ (.Call (.Name x pf) [e] [] pos) (.txt r):=by
 intro A env s G Q E rm ev q
 refine dK hf (.cons he .nil hst) rm ev fun vs s1 G1 t1 d1=>?_
 obtain⟨v,_,rfl,d,rfl⟩:=d1
 obtain⟨a,o,dd,od,m,us,vs,rfl,I,ii,hn,mm,r1,r2,g⟩:=Rd.ins t1.within d
 refine kso_call (by have:=rm.2.1;show A.units+1+1<_;omega) t1.gnd.kin I hs ht ?_
 refine call_of h rm.xr t1.base (aE.cons d aE.nil) fun v s' G' t d'=>?_
 obtain⟨u,rfl⟩:=d'
 exact q _ _ G' (t1.trans t) ⟨_,rfl⟩
theorem iN {A:Around} {s:Shared} {a sl c:Addr} {o:Obj} {od:Option Obj} {items:Array Value} {vl vu vs:Value} {lo hi st:Option Int} {Q E:Value→Shared→Prop} (S:SubL X c) (X0:X.K.In s.heap) (I:InstAt s.heap a o c od) (hd:SeqAt s.heap a items)
  (hs:s.heap.IsSliceOf sl vl vu vs) (pl:IsPart vl lo) (pu:IsPart vu hi) (ps:IsPart vs st) (h0:st≠some 0)
  (h:Q (.ref s.heap.objs.size) {s with heap:=s.heap.push {cls:= .type "list",data:= .seq (slicePick items lo hi st)}})
  (hsz:items.size≤sizeLine):wpAny (model X.prog X.w) A (PySem.getItem (.ref a) (.ref sl)) Q E s:=by
 obtain⟨o',kk,ho,hd⟩:=hd
 obtain⟨os,hos,hcs,hds⟩:=id hs
 have hTs:s.TypeIs (.ref sl) "slice":=⟨os,hos,hcs⟩
 unfold PySem.getItem
 refine wpAny_holding (yI (mT X0 I S.seq ?_))
 refine yI (iD X0 I S.get slot_list_getitem.bind (g7 X0 I S.mro (owner:="list") (nm:="__getitem__") (.inr (by decide +kernel)) (by decide +kernel) slot_list_getitem.plain entry_list_getitem (args_list_getitem _ _) ?_))
 show wpAny _ _ (Builtin.List.listSubscript? (.ref sl)>>=_) _ _ s
 refine yI ?_
 unfold Builtin.List.listSubscript?
 refine yI (wpAny_specialOf hTs slice_no_index ?_)
 dsimp only[Option.isNone_none,iT]
 refine yJ ?_
 show wpAny _ _ (typeOf (.ref sl)>>=_) _ _ s
 refine yI (wpAny_typeOf hTs ?_)
 rw[if_neg (by decide)]
 rw[listSliceParts_eq]
 have hstep:¬((rawPart st==rawInt 0)=true):=by
  cases st with
  | none=>exact Bool.false_ne_true
  | some c=>
   intro hh
   have:c=0:=by simpa [rawPart,rawInt] using hh
   exact h0 (by rw[this])
 refine yI (yI (wpAny_field hos hds (x:=vs) rfl (yI (wpAny_listPart ps ?_))))
 rw[if_neg hstep]
 refine yI (wpAny_field hos hds (x:=vl) rfl (yI (wpAny_listPart pl ?_)))
 refine yI (wpAny_field hos hds (x:=vu) rfl (yI (wpAny_listPart pu (yJ ?_))))
 refine yI (m:=Builtin.List.listItems (.ref a)) ?_
 unfold Builtin.List.listItems
 refine yI (wpAny_seqItems ho hd (yJ ?_))
 refine yI (wpAny_of_eq (sliceIndices_raw lo hi st items.size h0) ?_)
 exact yI (wpAny_newObj_type (yJ ⟨_,rfl,yJ h⟩) (yN (slicePick_size_le items lo hi st) hsz))
theorem bH.qS {value:PySem.Expr} {lower upper:Option PySem.Expr} {ps pos:Pos} {c:Addr} {names:List Str} {vals l:List PV} {lo hi:Option Int} (S:SubL X c) (hv:aa X n sc ρ value (.ins c names vals l true)) (h1:aP X n sc ρ lower lo) (h2:aP X n sc ρ upper hi) (hz:l.length≤100000):
  bH X n sc ρ (.Subscript value (.Slice lower upper none ps) pos) (fV l lo hi):=by
 intro A env s G Q E rm e k
 refine Subscript_ (hv A env s G _ E rm e fun o s1 G1 t1 d1=>wpAny_Slice (h1.go rm (e.step t1) fun tl s2 G2 t2=>h2.go rm ((e.step t1).step t2) fun tu s3 G3 t3=>?_))
 rw[evalPart_none]
 refine yJ ?_
 have t4:=t3.base.fresh {cls:= .type "slice",data:= .fields #[partValue (lo.map fun i=>(i,tl)),partValue (hi.map fun i=>(i,tu)), .none]}
 have all:=((t1.trans t2).trans t3).trans t4
 obtain⟨a,o,dd,od,m,us,vs,rfl,I,ii,hn,mm,r1,rr,g⟩:=Rd.ins t4.within (Rd.mono (t2.trans t3).sub _ _ d1)
 refine tail_sub t4.gnd.kin I S.get (iN S t4.gnd.kin I (bM.bo I.at_ ii) (Heap.IsSliceOf.new ..) (jG lo tl) (jG hi tu) .none (by simp) ?_ (by rw[List.size_toArray,rr.length];exact yN hz (by unfold sizeLine;decide))) rfl
 rw[gq]
 have t5:=t4.base.fresh {cls:= .type "list",data:= .seq (fV vs lo hi).toArray}
 exact k _ (fV vs lo hi) _ G3 (all.trans t5) (aB all (aq _)) (ao t4.base.within (aq _)) ⟨0,Heap.get?_push_size _ rfl⟩ (aE.fV lo hi rr)
end
end
section
open PySem PySem.Calls PyProof.Rows PySem.W Builtin Builtin.ObjectAttr
section
variable {M:Model} {A:Around} {E:Value→Shared→Prop} {s:Shared}
theorem uW {a:Addr} {m:Str→Option Value} {k:Nat} {name:Str} {v:Value} {Q:Unit→Shared→Prop} (hn:lI s.heap a m k)
  (hQ:∀h',lI h' a (fun x=>if x=name then some v else m x) (if (m name).isSome then k else k+1)→Heap.SameBut a s.heap h'→Q () {s with heap:=h',toks:=s.toks+1}):wpAny M A (nsSet a name v) Q E s:=by
 obtain⟨o,es,ep,ho,hd,hk,hm,hz⟩:=hn
 have hany:es.any (·.refKey)=false:=by
  rw[Array.any_eq_false'];intro e he;obtain⟨n,t,h⟩:=hk e he;simp[DictEntry.refKey,h]
 unfold nsSet strHash
 refine yI (yI (wpAny_askSetting (yJ (yI (wpAny_mkText (yI (wpAny_loadPart ho ?_)))))))
 rw[hd]
 dsimp only
 have c:(!es.any (·.key.isStr name)&&es.any (·.refKey))=false:=by rw[hany,Bool.and_false]
 rw[aRefKeyMayBeTheName_at,c]
 refine wpAny_updatePart ho ?_
 refine hQ _ ?_ (Heap.SameBut.update ..)
 obtain⟨cc,d,dt,sl⟩:=o
 subst hd
 have hsome:(m name).isSome=(es.findIdx? (·.key.isStr name)).isSome:=by
  rw[←hm name];simp only[nsFind,findBy,Option.isSome_map]
  rw[Bool.eq_iff_iff,Array.find?_isSome,Array.findIdx?_isSome,Array.any_eq_true]
  constructor
  ·(intro zz;obtain⟨x,hx,hp⟩:=zz);obtain⟨i,hi,rfl⟩:=Array.mem_iff_getElem.mp hx;exact⟨i,hi,hp⟩
  ·(intro zz;obtain⟨i,hi,hp⟩:=zz);exact⟨_,Array.getElem_mem hi,hp⟩
 cases hi:es.findIdx? (·.key.isStr name) with
 | some i=>
  have e0:(if (m name).isSome then k else k+1)=k:=by rw[hsome,hi];rfl
  rw[e0]
  refine⟨_,_,ep,Heap.get?_update_self _ ho (by simp only[Obj.putName_eq,Obj.putNameByArray,hi];rfl),by simp only[Obj.putName_eq,Obj.putNameByArray,hi];rfl,hk.modify _ _,fun x=>?_,by rw[Array.size_modify];exact hz⟩
  show _=if x=name then some v else m x
  rw[←hm];exact findBy_modify (fun n v=>v.isStr n) Value.isStr_inj es name x v i hi
 | none=>
  have e0:(if (m name).isSome then k else k+1)=k+1:=by rw[hsome,hi];rfl
  rw[e0]
  refine⟨_,_,ep+1,Heap.get?_update_self _ ho (by simp only[Obj.putName_eq,Obj.putNameByArray,hi];rfl),by simp only[Obj.putName_eq,Obj.putNameByArray,hi];rfl,hk.push _ _ _ _,fun x=>?_,by rw[Array.size_push];omega⟩
  show _=if x=name then some v else m x
  rw[←hm]
  exact findBy_push (fun n v=>v.isStr n) es name x _ _ v (fun y=>by
   show(name==y)=decide (y=name)
   by_cases h:y=name
   ·subst h;simp
   ·have:¬name=y:=fun e=>h e.symm
    simp[h,this]) hi
end
structure p9 (K:Frag) (c:Addr):Prop where
 sa:findIn K (.ref c) "__setattr__" =some (some (.builtin "object.__setattr__"))
 cd:∃cd,clsIn K c=some cd∧cd.hasDict=true∧(∀self,refuseLoop self "__setattr__" cd.mro=pure ())∧cd.mro.isEmpty=false∧cd.mro.contains (.type "object")=true
section
variable {X:Cx} {n:Nat} {sc:Scope} {ρ:az} {ω:aA}
theorem jO {A:Around} {s:Shared} {a c d:Addr} {o od:Obj} {m:Str→Option Value} {k:Nat} {name:Str} {v:Value} {Q:Unit→Shared→Prop} {E:Value→Shared→Prop} (C:p9 X.K c) (X0:X.K.In s.heap) (I:InstAt s.heap a o c (some od)) (hd:o.dict=some d) (hn:lI s.heap d m k) (hk:k≤1000)
  (ht:takerIn X.K c name=some none) (q:∀h' tk,lI h' d (fun x=>if x=name then some v else m x) (if (m name).isSome then k else k+1)→Heap.SameBut d s.heap h'→Q () {s with heap:=h',toks:=tk}):wpAny (model X.prog X.w) A (setAttr (.ref a) name v) Q E s:=by
 obtain⟨cd,hc,hdict,href,hne,hobj⟩:=C.cd
 have SF:=PySem.F.store_object
 refine set_plain X0 I C.sa ?_
 have sub:Looks (model X.prog X.w) s.heap (isInstance (.ref a) (.type "object")) true:=I.type.andThen (looks_mroIn X0 (by unfold mroIn;rw[hc,Option.bind_some,if_neg (by rw[hne];decide),hobj]))
 refine codeAny_call_builtin SF.slot.plain SF.entry (@check_slot (model X.prog X.w) _ _ {s with toks:=s.toks+1} "object.__setattr__" "object" "__setattr__" (.ref a) [.str name s.toks,v] [] _ SF.kind SF.split sub (SF.args (.ref a) (.str name s.toks) v) ?_)
 obtain⟨attr,ha,hr⟩:=Option.bind_eq_some_iff.mp ht
 have hm:Looks (model X.prog X.w) s.heap (mroOf (.ref c)) cd.mro:=(looks_clsIn X0 hc).andThen .now
 have L3:Looks (model X.prog X.w) s.heap (storeTaker? attr) none:=by
  cases attr with
  | none=>exact .now
  | some a=>
   obtain⟨b,hb,e⟩:=Option.map_eq_some_iff.mp hr
   refine(looks_takesIn X0 hb).andThen ?_
   cases b with
   | true=>cases e
   | false=>exact .now
 rw[osa_eq,refuse_eq]
 have L0:Looks (model X.prog X.w) s.heap (typeOf (.ref a)) (.ref c):=I.type
 refine yI (yI (L0 _ _ _ _ (fun _ _ e=>e) (yI (hm _ _ _ _ (fun _ _ e=>e) ?_))))
 rw[href]
 refine yJ (yI (L0 _ _ _ _ (fun _ _ e=>e) (yI (looks_findIn X0 ha _ _ _ _ (fun _ _ e=>e) (yI (L3 _ _ _ _ (fun _ _ e=>e) ?_))))))
 obtain⟨hx,hcl,hno, -⟩:=I
 obtain⟨oc,odi,oda,osl⟩:=o
 dsimp only at hcl hd
 subst hcl hd
 refine yI (yJ (yI (yI (wpAny_loadPart hx (yI (looks_clsIn X0 hc _ _ _ _ (fun _ _ e=>e) ?_))))))
 rw[hdict]
 refine yJ (a:=some d) (yI (yJ (yI ?_)))
 refine uW (s:={s with toks:=s.toks+1}) hn fun h' hn' hs'=>?_
 obtain⟨o',es',ep',ho',hd',_,_,hz'⟩:=id hn'
 refine yI (wpAny_lookBehind ho' (by rw[hd'];exact pastItsLine_dict (by rw[sizeLine_eq];split at hz'<;>omega)) ?_)
 exact yJ (q h' _ hn' hs')
theorem mx (self:Value):refuseLoop self "__setattr__" [.type "list", .type "object"]=pure ():=by ext
end
section
variable {prog:Program} {w:World} {A:Around} {E:Value→Shared→Prop} {s:Shared}
theorem kR {a:Addr} {o:Obj} {items:Array Value} {k:Nat} {f:Array Value→Array Value} {M:Model} {Q:Unit→Shared→Prop} (ho:s.heap.get? a=some o) (hd:o.data= .seq items k) (hz:items.size≤100000) (hz':(f items).size≤100000)
  (q:∀h' o' k',h'.get? a=some o'→o'.cls=o.cls→o'.dict=o.dict→o'.data= .seq (f items) k'→Heap.SameBut a s.heap h'→Q () {s with heap:=h'}):wpAny M A (updateSeq a f) Q E s:=by
 refine wpAny_updateSeq ho hd ?_ (yN hz (by unfold sizeLine;decide)) (yN hz' (by unfold sizeLine;decide))
 obtain⟨c,dd,dt,sl⟩:=o
 dsimp only at hd
 subst hd
 exact q _ _ _ (Heap.get?_update_self _ ho rfl) rfl rfl rfl (Heap.SameBut.update ..)
theorem ee {a:Addr} {o:Obj} {items:Array Value} {k:Nat} {M:Model} {Q:Array Value→Shared→Prop} (ho:s.heap.get? a=some o) (hd:o.data= .seq items k) (q:Q items s):wpAny M A (Builtin.List.listItems (.ref a)) Q E s:=by
 unfold Builtin.List.listItems
 exact yI (wpAny_seqItems ho hd (yJ q))
theorem bM.turn {c d:Addr} {o o':Obj} {vs vs':List Value} {k':Nat} (i:bM o c d true vs) (h1:o'.cls=o.cls) (h2:o'.dict=o.dict) (h3:o'.data= .seq vs'.toArray k'):bM o' c d true vs':=
 ⟨h1.trans i.1,h2.trans i.2.1,by dsimp only[iT];exact⟨k',h3⟩⟩
theorem pV {K:Frag} {a c d:Addr} {o:Obj} {od:Option Obj} {vs:List Value} {x:Value} {Q:Value→Shared→Prop} (X0:K.In s.heap) (I:InstAt s.heap a o c od) (i:bM o c d true vs) (hm:mroIn K c (.type "list")=some true) (hz:vs.length≤10000)
  (q:∀h' o',h'.get? a=some o'→bM o' c d true (vs++[x])→Heap.SameBut a s.heap h'→Q .none {s with heap:=h'}):wpAny (model prog w) A (call (.builtin "list.append") [.ref a,x]) Q E s:=by
 obtain⟨o1,k,ho,hd⟩:=bM.bo I.at_ i
 have:=I.at_;rw[ho] at this;cases this
 refine g7 X0 I hm (owner:="list") (nm:="append") (.inr (by decide +kernel)) (by decide +kernel) slot_list_append.plain entry_list_append (args_list_append _ _) ?_
 show wpAny _ _ (updateSeq a (·.push x)>>=fun _=>ret .none) _ _ s
 refine yI (kR ho hd (by rw[List.size_toArray];omega) (by rw[Array.size_push,List.size_toArray];lia) fun h' o' k' e1 e2 e3 e4 e5=>yJ ⟨.none,rfl,q h' o' e1 (i.turn e2 e3 (k':=k') (by rw[e4];simp)) e5⟩)
theorem uO {a c d:Addr} {o:Obj} {od:Option Obj} {vs:List Value} {x:Value} {Q:Value→Shared→Prop} (I:InstAt s.heap a o c od) (i:bM o c d true (vs++[x])) (hz:vs.length≤10000)
  (q:∀h' o',h'.get? a=some o'→bM o' c d true vs→Heap.SameBut a s.heap h'→Q x {s with heap:=h'}):wpAny (model prog w) A (Builtin.«list.pop» ⟨[.ref a],[]⟩) (fun fin s'=>∃v,fin= .done (.ret v)∧Q v s') E s:=by
 obtain⟨o1,k,ho,hd⟩:=bM.bo I.at_ i
 have:=I.at_;rw[ho] at this;cases this
 have hidx:seqIndex? (-1) (vs++[x]).toArray.size=some vs.length:=by
  unfold seqIndex?
  simp only[List.size_toArray,List.length_append,List.length_singleton]
  have h0:((-1:Int)<0):=by decide
  simp only[if_pos h0]
  rw[if_pos (by simp;lia)]
  congr 1;omega
 have hget:(vs++[x]).toArray[vs.length]?=some x:=by simp
 have herase:(vs++[x]).toArray.eraseIdxIfInBounds vs.length=vs.toArray:=by
  apply Array.ext'
  simp[Array.eraseIdxIfInBounds,List.eraseIdx_append_of_length_le]
 unfold Builtin.«list.pop»
 refine yI (wpAny_of_eq (a:=(Value.ref a,([]:List Value))) rfl ?_)
 dsimp only
 refine yI (yJ ?_)
 rw[if_neg (show ¬((!List.listFitsIndex (-1))=true) by decide)]
 refine yI (ee ho hd ?_)
 rw[if_neg (show ¬((vs++[x]).toArray.isEmpty=true) by simp)]
 rw[hidx]
 simp only[Option.bind_some,hget,Option.map_some]
 show wpAny _ _ (updateSeq a (fun xs=>xs.eraseIdxIfInBounds vs.length)>>=fun _=>ret x) _ _ _
 refine yI (kR ho hd (by simp;omega) (by rw[herase];simp;omega) fun h' o' k' e1 e2 e3 e4 e5=>yJ ⟨x,rfl,q h' o' e1 (i.turn e2 e3 (k':=k') (by rw[e4,herase])) e5⟩)
theorem fx {X:Cx} {a b sl c d:Addr} {o:Obj} {od:Option Obj} {vs us:List Value} {vl:Value} {lo:Option Int} {Q:Unit→Shared→Prop} (S:SubL X c) (X0:X.K.In s.heap) (I:InstAt s.heap a o c od) (i:bM o c d true vs)
  (hs:s.heap.IsSliceOf sl vl .none .none) (pl:IsPart vl lo) (hb:s.heap.IsList b us.toArray) (hab:a≠b) (hz:vs.length≤10000) (hz2:us.length≤10000)
  (q:∀h' o',h'.get? a=some o'→bM o' c d true (vs.take (bk vs.length lo 0)++us)→Heap.SameBut a s.heap h'→Q () {s with heap:=h'}):wpAny (model X.prog X.w) A (setItem (.ref a) (.ref sl) (.ref b)) Q E s:=by
 obtain⟨o1,k,ho,hd⟩:=bM.bo I.at_ i
 have:=I.at_;rw[ho] at this;cases this
 obtain⟨os,hos,hcs,hds⟩:=id hs
 have hTs:s.TypeIs (.ref sl) "slice":=⟨os,hos,hcs⟩
 unfold setItem
 refine wpAny_holding (yI (mT X0 I S.seq ?_))
 refine yI (iD X0 I S.set slot_list_setitem.bind (g7 X0 I S.mro (owner:="list") (nm:="__setitem__") (.inl (by decide +kernel)) (by decide +kernel) slot_list_setitem.plain entry_list_setitem (args_list_setitem _ _ _) ?_))
 show wpAny _ _ (Builtin.List.listSubscript? (.ref sl)>>=_) _ _ s
 refine yI ?_
 unfold Builtin.List.listSubscript?
 refine yI (wpAny_specialOf hTs slice_no_index ?_)
 dsimp only[Option.isNone_none,iT]
 refine yJ ?_
 show wpAny _ _ (typeOf (.ref sl)>>=_) _ _ s
 refine yI (wpAny_typeOf hTs ?_)
 rw[if_neg (by decide)]
 rw[listSliceParts_eq]
 refine yI (yI (wpAny_field hos hds (x:= .none) rfl (yI (wpAny_listPart .none ?_))))
 rw[if_neg (show ¬((rawPart none==rawInt 0)=true) from Bool.false_ne_true)]
 refine yI (wpAny_field hos hds (x:=vl) rfl (yI (wpAny_listPart pl ?_)))
 refine yI (wpAny_field hos hds (x:= .none) rfl (yI (wpAny_listPart .none (yJ ?_))))
 rw[if_neg (show ¬(List.listSameRef (.ref a) (.ref b)=true) by simp[List.listSameRef,hab])]
 refine yI (m:=List.listAllItems (.ref b) _) ?_
 obtain⟨ob,hob,hcb,kb,hdb⟩:=id hb
 unfold List.listAllItems
 refine yI (wpAny_typeOf hb.typeIs ?_)
 rw[if_pos (show(Value.type "list"==Value.type "list"||Value.type "list"==Value.type "tuple")=true by decide)]
 refine ee hob hdb ?_
 refine yI (ee ho hd ?_)
 refine yI (wpAny_of_eq (sliceIndices_raw lo none none vs.toArray.size (by simp)) ?_)
 obtain⟨j,hj⟩:∃j,j=bk vs.length lo 0:=⟨_,rfl⟩
 have hjl:j≤vs.length:=by
  rw[hj]
  cases lo with
  | none=>exact Nat.zero_le _
  | some i=>simp only[bk];omega
 have hsb:sliceBounds lo none none vs.toArray.size=((j:Int),(vs.length:Int),1):=by
  unfold sliceBounds
  have e1:(1:Int)>0:=by decide
  simp only[Option.getD_none,if_pos e1,List.size_toArray]
  have:=dQ vs.length lo 0
  rw[←hj] at this
  rw[←this]
  cases lo<;>rfl
 rw[hsb]
 dsimp only
 rw[if_pos (show((1:Int)==1)=true by decide)]
 refine yI (wpAny_rule ?_)
 rw[if_neg (show ¬(List.listTooLong (vs.toArray.size+us.toArray.size)=true) by unfold List.listTooLong sizeLine;simp;omega)]
 have hmax:(Max.max (j:Int) (vs.length:Int)).toNat=vs.length:=by omega
 have hjn:(j:Int).toNat=j:=by lia
 rw[hmax,hjn]
 have hval:vs.toArray.extract 0 j++us.toArray++vs.toArray.extract vs.length=(vs.take j++us).toArray:=by
  apply Array.ext';simp
 show wpAny _ _ (updateSeq a (fun xs=>xs.extract 0 j++us.toArray++xs.extract vs.length)>>=_) _ _ _
 refine yI (kR ho hd (by simp;omega) (by rw[hval];simp;omega) fun h' o' k' e1 e2 e3 e4 e5=>?_)
 refine yI (wpAny_letGo (yJ ⟨.none,rfl,yJ (q h' o' e1 (i.turn e2 e3 (k':=k') (by rw[e4,hval,←hj])) e5)⟩))
end
structure iV (name:Str) (id T:String) (bt:String):Prop where
 own:fastBuiltinOwn "list" name=some (.builtin id)
 ty:typeOf (.builtin id)=pure (.type T)
 get:typeLookup (.type T) "__get__" =pure (some (.builtin (T++".__get__")))
 cls:(name==("__class__":Str))=false
 bind:∀{prog:Program} {w:World} {A:Around} {E:Value→Shared→Prop} {s:Shared} {x C:Addr} {Q:Value→Shared→Prop},Looks (model prog w) s.heap (isInstance (.ref x) (.type "list")) true→Looks (model prog w) s.heap (isType (.ref C)) true→
  Q (.ref s.heap.objs.size) {s with heap:=s.heap.push {cls:= .type bt,data:= .fields #[.builtin id, .ref x]}}→wpAny (model prog w) A (call (.builtin (T++".__get__")) [.builtin id, .ref x, .ref C]) Q E s
theorem kv:entryFor table "wrapper_descriptor.__get__" =some Builtin.«wrapper_descriptor.__get__»:=entryFor_of_tree (by ext)
theorem pj:entryFor table "method_descriptor.__get__" =some Builtin.«method_descriptor.__get__»:=entryFor_of_tree (by ext)
theorem lU (a b c:Value):argsOk "wrapper_descriptor.__get__" ⟨[a,b,c],[]⟩:=by unfold argsOk;ext
theorem ri (a b c:Value):argsOk "method_descriptor.__get__" ⟨[a,b,c],[]⟩:=by unfold argsOk;ext
theorem qO (h:Heap) (M:Model):Looks M h (isInstance (.builtin "list.__len__") (.type "wrapper_descriptor")) true:=Looks.of_pure (by ext)
theorem oT (h:Heap) (M:Model):Looks M h (isInstance (.builtin "list.__init__") (.type "wrapper_descriptor")) true:=Looks.of_pure (by ext)
theorem rh (h:Heap) (M:Model):Looks M h (isInstance (.builtin "list.pop") (.type "method_descriptor")) true:=Looks.of_pure (by ext)
theorem pP:iV "__len__" "list.__len__" "wrapper_descriptor" "method-wrapper" where
 own:=by ext
 ty:=by ext
 get:=by rw[typeLookup_type,builtinLookup_eq_fast];ext
 cls:=by decide +kernel
 bind:=fun {prog w A E s x C Q} L1 L2 q=>by
  refine wpAny_call (codeAny_call_builtin (id:="wrapper_descriptor.__get__") (by decide +kernel) kv ?_)
  refine @check_slot (model prog w) _ _ _ "wrapper_descriptor.__get__" "wrapper_descriptor" "__get__" (.builtin "list.__len__") [.ref x, .ref C] [] _ (by decide +kernel) (by decide +kernel) (qO _ _) (lU _ _ _) ?_
  unfold Builtin.«wrapper_descriptor.__get__»
  refine yI (wpAny_of_eq (a:=(Value.builtin "list.__len__",some (Value.ref x),some (Value.ref C))) (by ext) ?_)
  dsimp only
  refine yI ?_
  refine yI (wpAny_of_eq (a:=(("__len__":Str),Value.type "list")) (by ext) ?_)
  dsimp only
  refine yI (L1.here ?_)
  rw[if_neg (show ¬((!true)=true) from Bool.false_ne_true)]
  refine yJ ?_
  exact yI (wpAny_newObj_type (yJ q) (by size_fits))
theorem nD:iV "__init__" "list.__init__" "wrapper_descriptor" "method-wrapper" where
 own:=by ext
 ty:=by ext
 get:=by rw[typeLookup_type,builtinLookup_eq_fast];ext
 cls:=by decide +kernel
 bind:=fun {prog w A E s x C Q} L1 L2 q=>by
  refine wpAny_call (codeAny_call_builtin (id:="wrapper_descriptor.__get__") (by decide +kernel) kv ?_)
  refine @check_slot (model prog w) _ _ _ "wrapper_descriptor.__get__" "wrapper_descriptor" "__get__" (.builtin "list.__init__") [.ref x, .ref C] [] _ (by decide +kernel) (by decide +kernel) (oT _ _) (lU _ _ _) ?_
  unfold Builtin.«wrapper_descriptor.__get__»
  refine yI (wpAny_of_eq (a:=(Value.builtin "list.__init__",some (Value.ref x),some (Value.ref C))) (by ext) ?_)
  dsimp only
  refine yI ?_
  refine yI (wpAny_of_eq (a:=(("__init__":Str),Value.type "list")) (by ext) ?_)
  dsimp only
  refine yI (L1.here ?_)
  rw[if_neg (show ¬((!true)=true) from Bool.false_ne_true)]
  refine yJ ?_
  exact yI (wpAny_newObj_type (yJ q) (by size_fits))
theorem pO:iV "pop" "list.pop" "method_descriptor" "builtin_function_or_method" where
 own:=by ext
 ty:=by ext
 get:=by rw[typeLookup_type,builtinLookup_eq_fast];ext
 cls:=by decide +kernel
 bind:=fun {prog w A E s x C Q} L1 L2 q=>by
  refine wpAny_call (codeAny_call_builtin (id:="method_descriptor.__get__") (by decide +kernel) pj ?_)
  refine @check_slot (model prog w) _ _ _ "method_descriptor.__get__" "method_descriptor" "__get__" (.builtin "list.pop") [.ref x, .ref C] [] _ (by decide +kernel) (by decide +kernel) (rh _ _) (ri _ _ _) ?_
  unfold Builtin.«method_descriptor.__get__»
  refine yI (wpAny_of_eq (a:=(Value.builtin "list.pop",some (Value.ref x),some (Value.ref C))) (by ext) ?_)
  dsimp only
  rw[if_neg (show ¬(Manifest.toldItsClass.contains "list.pop" =true) by decide +kernel)]
  refine yI ?_
  refine yI (wpAny_of_eq (a:=(("pop":Str),Value.type "list")) (by ext) ?_)
  dsimp only
  refine yI (L1.here ?_)
  rw[if_neg (show ¬((!true)=true) from Bool.false_ne_true)]
  refine yJ ?_
  exact yI (wpAny_newObj_type (yJ q) (by size_fits))
section
variable {prog:Program} {w:World} {A:Around} {E:Value→Shared→Prop} {h:Heap} {g:Array GenState} {d:Drawn} {t:Nat} {os:OsState}
theorem rV {so D x C:Addr} {l₀:List Value} {name:Str} {tk:Tok} {id T bt:String} {Q:PySem.Fin→Shared→Prop} (B:iV name id T bt)
  (hso:h.get? so=some (ks_superObj D x C)) (hno:Looks (model prog w) h (opaqueClassAbove (.ref C)) none)
  (hC:Looks (model prog w) h (mroOf (.ref C)) l₀) (hl:(l₀.dropWhile (· != .ref D)).drop 1=[.type "list", .type "object"]) (hxC:x≠C)
  (L1:Looks (model prog w) h (isInstance (.ref x) (.type "list")) true) (L2:Looks (model prog w) h (isType (.ref C)) true)
  (hq:Q (.done (.ret (.ref h.objs.size))) ⟨h.push {cls:= .type bt,data:= .fields #[.builtin id, .ref x]},g,d,t,os⟩):
  wpAny (model prog w) A (Builtin.«super.__getattribute__» ⟨[.ref so, .str name tk],[]⟩) Q E ⟨h,g,d,t,os⟩:=by
 have hne:(Value.ref x==Value.ref C)=false:=by simp[hxC]
 have hdt:(ks_superObj D x C).data= .fields #[.ref D, .ref x, .ref C]:=rfl
 have f0:(#[.ref D, .ref x, .ref C]:Array Value)[0]?=some (.ref D):=rfl
 have f1:(#[.ref D, .ref x, .ref C]:Array Value)[1]?=some (.ref x):=rfl
 have f2:(#[.ref D, .ref x, .ref C]:Array Value)[2]?=some (.ref C):=rfl
 have hown:classOwn (.type "list") name=pure (some (.builtin id)):=by show pure (builtinOwn "list" name)=_;rw[builtinOwn_eq_fast,B.own]
 have hcls:=B.cls
 unfold Builtin.«super.__getattribute__»
 repeat (first
  | (with_reducible refine wpAny_field hso hdt f0 ?_) | (with_reducible refine wpAny_field hso hdt f1 ?_) | (with_reducible refine wpAny_field hso hdt f2 ?_)
  | (with_reducible refine ks_wpAny_notOpaque hno ?_)
  | (with_reducible refine Looks.at hC ?_;rw[hl])
  | rw[if_neg (show ¬((Value.ref C==Value.none||name==("__class__":Str))=true) from fun q=>Bool.false_ne_true (hcls.symm.trans q))]
  | wp_step
  | dsimp only)
 refine wpAny_of_eq (show typeOf (.builtin id)=pure (.type T) from B.ty) ?_
 refine yI (wpAny_of_eq B.get ?_)
 rw[if_neg (show ¬((Value.ref x==Value.ref C)=true) from fun q=>Bool.false_ne_true (hne.symm.trans q))]
 refine yI (wpAny_holding (B.bind (s:=⟨h,g,d,t,os⟩) L1 L2 ?_))
 repeat wp_step
 exact hq
theorem oV {so D x C:Addr} {l₀:List Value} {name:Str} {id T bt:String} {pl:Sem Bool} {Q:Value×List Value→Shared→Prop} (B:iV name id T bt)
  (hso:h.get? so=some (ks_superObj D x C)) (hno:Looks (model prog w) h (opaqueClassAbove (.ref C)) none)
  (hC:Looks (model prog w) h (mroOf (.ref C)) l₀) (hl:(l₀.dropWhile (· != .ref D)).drop 1=[.type "list", .type "object"]) (hxC:x≠C)
  (L1:Looks (model prog w) h (isInstance (.ref x) (.type "list")) true) (L2:Looks (model prog w) h (isType (.ref C)) true)
  (hq:Q (.ref h.objs.size,[]) ⟨h.push {cls:= .type bt,data:= .fields #[.builtin id, .ref x]},g,d,t+1,os⟩):
  wpAny (model prog w) A (getMethod (.ref so) name pl) Q E ⟨h,g,d,t,os⟩:=by
 have hlk:=F.ks_slot_super_ga.lookup
 have hcan:=F.ks_canon_super_ga
 have hT:∀t',(⟨h,g,d,t',os⟩:Shared).TypeIs (.ref so) "super":=fun _=>⟨_,hso,rfl⟩
 unfold getMethod
 refine yI (wpAny_specialOf (hT _) hlk ?_)
 show wpAny _ _ (if (Manifest.canonical "super.__getattribute__" != "object.__getattribute__")=true then _ else _) _ _ _
 rw[if_pos hcan]
 unfold getAttr getAttrBy
 refine yI (yI (wpAny_mkText (wpAny_holding (yI (wpAny_typeOf (hT _) (yI (wpAny_of_eq hlk ?_)))))))
 show wpAny _ _ (getAttrByItsOwn (.ref so) (.str name t) (.type "super") (.builtin "super.__getattribute__") true false) _ _ _
 unfold getAttrByItsOwn hookBefore callGetattribute boundAndCalled
 refine yI (wpAny_of_eq (show(if onTheHeap (.type "super") then typeLookup (.type "super") "__getattr__" else pure none)=pure none from rfl) ?_)
 refine yI (wpAny_attempt (wpAny_holding ?_))
 show wpAny _ _ (bindSpecial (.builtin "super.__getattribute__") (.ref so)>>=_) _ _ _
 refine yI (wpAny_of_eq (F.ks_slot_super_ga.bind _) ?_)
 refine wpAny_mono (Q:=fun v s'=>v= .ref h.objs.size∧s'=⟨h.push {cls:= .type bt,data:= .fields #[.builtin id, .ref x]},g,d,t+1,os⟩) (E:=fun _ _=>False)
  (wpAny_call_entry F.ks_slot_super_ga (hT _) F.ks_entry_super_ga (rV B hso hno hC hl hxC L1 L2 ⟨_,rfl,rfl,rfl⟩) (F.ks_gaArgs_super _ _)) (fun v s' hv=>?_) fun _ _ z=>z.elim
 obtain⟨rfl,rfl⟩:=hv
 exact yJ (yJ hq)
end
section
variable {prog:Program} {w:World} {A:Around} {E:Value→Shared→Prop} {s:Shared}
theorem pM {q x:Addr} {id bt:String} {pos:Pos} {Q:Value→Shared→Prop} {b:Builtin} (hbt:bt="method-wrapper"∨bt="builtin_function_or_method") (hq:s.heap.get? q=some {cls:= .type bt,dict:=none,data:= .fields #[.builtin id, .ref x],slots:= #[]})
  (hc:∀{A:Around} {Q:Unit→Shared→Prop} {E:Value→Shared→Prop},Q () s→wpAny (model prog w) A (checkBoundCall id ⟨[.ref x],[]⟩) Q E s) (hb:entryFor table id=some b) (hp:plainId id=true)
  (h:wpAny (model prog w) A.in1 (b ⟨[.ref x],[]⟩) (fun fin s'=>∃v,fin= .done (.ret v)∧Q v s') E s):wpAny (model prog w) A (callWith pos (.ref q) [] (backTo pos (starEach [] env)) []) Q E s:=by
 refine callWith_of (P:=fun h=>h.get? q=some {cls:= .type bt,dict:=none,data:= .fields #[.builtin id, .ref x],slots:= #[]}) rfl (fun h hh=>⟨.machine, .inr (.inl rfl),?_⟩) (evalArgs_nil3 ⟨hq,?_⟩)
 ·refine(Looks.ld (part:=none) hh).andThen ?_
  rcases hbt with rfl | rfl<;>exact Looks.of_pure (by rfl)
 ·refine wpAny_call (codeAny_of_tree ?_)
  show wpAny _ A.in1 (callAny (.ref q) _) _ _ _
  unfold callAny
  refine yI (wpAny_load hq ?_)
  have c1:(Value.type bt==Value.type "method"||Value.type bt==Value.type "builtin_function_or_method"||Value.type bt==Value.type "method-wrapper")=true:=by rcases hbt with rfl | rfl<;>decide
  have c2:(Value.type bt != Value.type "method")=true:=by rcases hbt with rfl | rfl<;>decide
  dsimp only
  rw[if_pos c1]
  show wpAny _ _ (if (Value.type bt != Value.type "method")=true then _ else _) _ _ _
  rw[if_pos c2]
  refine yI (hc ?_)
  refine yJ ⟨plainId_quiet hp _,codeAny_builtin hb ?_⟩
  rw[Around.under_plainId hp _]
  exact wpAny_mono h (fun fin s' hh=>by obtain⟨v,rfl,hv⟩:=hh;exact hv) fun _ _ e=>e
end
theorem tn (x:Addr):checkBoundCall "list.__len__" ⟨[.ref x],[]⟩=pure ():=by ext
theorem rv (x:Addr):checkBoundCall "list.__init__" ⟨[.ref x],[]⟩=pure ():=by ext
theorem se:∃sig,Manifest.signature? "list.pop" =some sig∧∀(x:Addr),Bind.checkArgs "list.pop" {sig with full:=s!"{"_Accumulator"}.{Bind.lastOf "list.pop"}"} ⟨[.ref x],[]⟩=pure ():=by
 rw[signature?_of (id:="list.pop") (n:=['p','o','p']) (o:=['t','s','i','l']) (by ext) F.owner_list]
 exact⟨_,rfl,fun x=>by ext⟩
section
variable {X:Cx} {A:Around} {E:Value→Shared→Prop} {s:Shared}
theorem mC {x:Addr} {o:Obj} {c:Addr} {od:Option Obj} {M:Model} {h:Heap} (I:InstAt h x o c od):Looks M h (isType (.ref x)) false:=by
 unfold isType
 refine(Looks.ld (part:=none) I.at_).andThen ?_
 have:=I.no
 unfold notCls at this
 cases e:o.data<;>rw[e] at this<;>first | exact Looks.now | cases this
theorem tm {x c:Addr} {o:Obj} {od:Option Obj} {cd:ClassData} {Q:Unit→Shared→Prop} (X0:X.K.In s.heap) (I:InstAt s.heap x o c od) (hc:clsIn X.K c=some cd) (hqn:cd.qualname.toString="_Accumulator") (hm:mroIn X.K c (.type "module")=some false) (ht:typeIn X.K (.ref c)=some (.type "type")) (q:Q () s):
  wpAny (model X.prog X.w) A (checkBoundCall "list.pop" ⟨[.ref x],[]⟩) Q E s:=by
 obtain⟨sig,hs,hargs⟩:=se
 have L:Looks (model X.prog X.w) s.heap (isInstance (.ref x) (.type "module")) false:=I.type.andThen (looks_mroIn X0 hm)
 unfold checkBoundCall
 rw[hs,show builtinKind "list.pop" =some .method by decide +kernel]
 dsimp only
 rw[if_neg (by decide)]
 refine yI (L.here ?_)
 rw[show(Manifest.varargsMethods.contains "list.pop"||false)=false by decide +kernel,if_neg (by decide)]
 refine yI ((mC I).here ?_)
 rw[if_neg (by decide)]
 refine yI (I.type.here ?_)
 dsimp only
 refine yI ((looks_clsIn X0 hc).here ?_)
 refine yI ((looks_typeIn X0 ht).here ?_)
 rw[if_pos (by decide)]
 rw[hqn]
 exact wpAny_of_eq (hargs x) q
end
section
variable {prog:Program} {w:World} {A:Around} {E:Value→Shared→Prop} {s:Shared}
theorem sJ {a c d:Addr} {o:Obj} {vs:List Value} {Q:Value→Shared→Prop} (ho:s.heap.get? a=some o) (i:bM o c d true vs) (q:∀t tk,Q (.int vs.length t) {s with toks:=tk}):
  wpAny (model prog w) A (Builtin.«list.__len__» ⟨[.ref a],[]⟩) (fun fin s'=>∃v,fin= .done (.ret v)∧Q v s') E s:=by
 obtain⟨o1,k,ho1,hd⟩:=bM.bo ho i
 unfold Builtin.«list.__len__»
 refine yI (wpAny_of_eq (a:=(Value.ref a,([]:List Value))) (by ext) ?_)
 dsimp only
 unfold seqSize
 refine yI (yI (wpAny_loadPart ho1 ?_))
 rw[hd]
 refine yJ ?_
 have:vs.toArray.size=vs.length:=by simp
 rw[this]
 exact yI (wpAny_mkInt (yJ ⟨_,rfl,q _ _⟩))
theorem sQ {a c d:Addr} {o:Obj} {vs:List Value} {Q:Value→Shared→Prop} (ho:s.heap.get? a=some o) (i:bM o c d true vs) (hz:vs.length≤10000)
  (q:∀h' o',h'.get? a=some o'→bM o' c d true []→Heap.SameBut a s.heap h'→Q .none {s with heap:=h'}):wpAny (model prog w) A (Builtin.«list.__init__» ⟨[.ref a],[]⟩) (fun fin s'=>∃v,fin= .done (.ret v)∧Q v s') E s:=by
 obtain⟨o1,k,ho1,hd⟩:=bM.bo ho i
 rw[ho1] at ho;cases ho
 unfold Builtin.«list.__init__»
 dsimp only[List.isEmpty_nil,Bool.not_true,iF,List.length_nil]
 rw[if_neg (show ¬(0>1) by decide)]
 refine yI (ee ho1 hd ?_)
 show wpAny _ _ (updateSeq a (fun _=> #[])>>=_) _ _ _
 refine yI (kR ho1 hd (by simp;omega) (by simp) fun h' o' k' e1 e2 e3 e4 e5=>?_)
 exact yI (wpAny_letGo (yJ ⟨.none,rfl,q h' o' e1 (i.turn e2 e3 (k':=k') (vs':=[]) e4) e5⟩))
end
end
section
open PySem PySem.Calls PyProof.Rows PySem.W Builtin
structure k4 (X:Cx) (f cc:Addr) (fd:FuncData) (ar:Arg) (D:Addr):Prop where
 fn:∃oc od osl,X.K.lookup f=some ⟨oc,od, .func fd,osl⟩
 head:(fd.params.posonlyargs++fd.params.args).head?=some ar
 code:∃cda ccl cdd ccs vs file tf,fd.code= .ref cda∧X.K.lookup cda=some ⟨ccl,cdd, .fields vs,ccs⟩∧vs[2]?=some (.str file tf)∧((X.prog.main.file:Str)==file)=true
 clo:fd.closure=[(("__class__":Str),cc)]
 cell:∃cl cld csl,X.K.lookup cc=some ⟨cl,cld, .cell (some (.ref D)),csl⟩
 cls:∃cd,clsIn X.K D=some cd∧(cd.mro.dropWhile (· != .ref D)).drop 1=[.type "list", .type "object"]
 sub:mroIn X.K D (.ref D)=some true
 subL:mroIn X.K D (.type "list")=some true
 glob:nsIn X.K mainGlobals "super" =some none
 opq:nsIn X.K cStatics "thirdparty.any" =some none
 ks:fd.scope.names.lookup ("super":Str)=some .globalImplicit
 kc:fd.scope.names.lookup ("__class__":Str)=some .free
 ka:fd.scope.names.lookup ar.arg=some .local
 kind:fd.scope.kind= .function
 top:(X.prog.main.scope.names.lookup ("super":Str)).isSome=false
set_option tactic.hygienic true in
theorem mD {K:Frag} {M:Model} {h:Heap} {C:Addr} {cd:ClassData} (X0:K.In h) (hc:clsIn K C=some cd):Looks M h (isType (.ref C)) true:=by
 obtain⟨c,d,sl,ho⟩:=jV hc
 unfold isType
 exact(Looks.ld (part:=none) (X0 _ _ ho)).andThen Looks.now
section
variable {X:Cx} {n:Nat} {sc:Scope} {ρ:az} {ω:aA}
set_option tactic.hygienic true in
theorem iC {A:Around} {env:Env} {s:Shared} {f cc D:Addr} {fd:FuncData} {ar:Arg} {x:Addr} {ox:Obj} {od:Option Obj} {name:Str} {p0 p1 apos pos:Pos} {body:List Stmt} {id T bt:String} {b:Builtin} {pl:Sem Bool} {Q E:Value→Shared→Prop} (S:k4 X f cc fd ar D) (B:iV name id T bt) (g:b5 X s.heap)
  (e1:env.scope=fd.scope) (e2:env.func=some f) (e3:env.code=fd.code) (e4:env.cells=fd.closure) (e5:env.globals=mainGlobals) (e6:env.builtins=builtinsNs)
  (hself:∃m,s.heap.Ns env.locals m∧m ar.arg=some (.ref x)) (I:InstAt s.heap x ox D od) (hbt:bt="method-wrapper"∨bt="builtin_function_or_method") (hb:entryFor table id=some b) (hp:plainId id=true)
  (hc:∀{A:Around} {Q:Unit→Shared→Prop} {E:Value→Shared→Prop} {s':Shared},X.K.In s'.heap→InstAt s'.heap x ox D od→Q () s'→wpAny (model X.prog X.w) A (checkBoundCall id ⟨[.ref x],[]⟩) Q E s')
  (h:∀h' tk,(∀b o,s.heap.get? b=some o→h'.get? b=some o)→wpAny (model X.prog X.w) A.in1 (b ⟨[.ref x],[]⟩) (fun fin s'=>∃v,fin= .done (.ret v)∧Q v s') E {s with heap:=h',toks:=tk})
  (he:eval (.Call (.Attribute (.Call (.Name "super" p0) [] [] p1) name apos) [] [] pos) env=(do
   let ov ←attributeBase (.Call (.Name "super" p0) [] [] p1) name env (eval (.Call (.Name "super" p0) [] [] p1) env)
   standAt apos.atName
   let (f,first) ←holding [ov] (getMethod ov name pl)
   callWith pos f first (backTo pos (starEach [] env)) [])):
  _root_.PySem.wpAt (model X.prog X.w) A (.func body env) (eval (.Call (.Attribute (.Call (.Name "super" p0) [] [] p1) name apos) [] [] pos) env) Q E s:=by
 obtain⟨oc,fod,osl,hf⟩:=S.fn
 obtain⟨cda,ccl,cdd,ccs,vs,file,tf,hcd,hcode,hvs,hfile⟩:=S.code
 obtain⟨cl,cld,csl,hcell⟩:=S.cell
 obtain⟨cd,hD,hl⟩:=S.cls
 have X0:=g.kin
 have kf:env.scope.kind= .function:=by rw[e1];exact S.kind
 have hks:env.kindOf "super" =some .globalImplicit:=by unfold Env.kindOf;rw[e1];exact S.ks
 have hkc:env.kindOf "__class__" =some .free:=by unfold Env.kindOf;rw[e1];exact S.kc
 have hka:env.kindOf ar.arg=some .local:=by unfold Env.kindOf;rw[e1];exact S.ka
 have hxD:x≠D:=by
  rintro rfl
  have hno:=I.no
  obtain⟨c,d,sl,ho⟩:=jV hD
  have:=X0 _ _ ho
  rw[I.at_] at this;cases this
  exact Bool.noConfusion hno
 obtain⟨m,hn,hm⟩:=hself
 obtain⟨oD,hD1,hD2⟩:∃oD,s.heap.get? D=some oD∧oD.data= .cls cd:=by
  obtain⟨c,d,sl,ho⟩:=jV hD
  exact⟨_,X0 _ _ ho,rfl⟩
 obtain⟨hh,gg,dd,t,os⟩:=s
 refine ks_wpAt_MethodCall (pl:=pl) ?_ he
 refine ks_wpAt_super_base hks hkc B.cls e2 (X0 _ _ hf) rfl S.head (e3.trans hcd) (X0 _ _ hcode) rfl hvs hfile S.top ?_
 refine ks_loadName_global kf hks (loadGlobal_builtin (env:=env) (by rw[e5];exact g.g) (g.xo S.glob) (by rw[e6];exact g.b) ((g.builtins _ (by decide +kernel)).trans (by kernel_rfl:bootBuiltins "super" =some (.type "super"))) ⟨rfl,?_⟩)
 refine wpAny_loadName_free kf hkc (c:=cc) (by rw[e4,S.clo];rfl) ⟨_,X0 _ _ hcell,rfl⟩ ?_
 refine wpAny_loadName_local kf hka hn hm ?_
 refine ks_wpAny_isType_cls hD1 hD2 ⟨rfl,?_⟩
 refine ks_wpAny_call_super hD1 hD2 I.at_ I.cls (fun c e=>?_) (looks_mroIn X0 S.sub) (fun h' ho k=>?_)
 ·have:=I.no
  unfold notCls at this
  rw[e] at this
  exact Bool.noConfusion this
 ·have X1:=X0.keeps k
  have C1:Looks (model X.prog X.w) h' (mroOf (.ref D)) cd.mro:=(looks_clsIn X1 hD).andThen .now
  have I1:InstAt h' x ox D od:=⟨k _ _ I.at_,I.cls,I.no,by have:=I.dict;cases e:ox.dict<;>cases od<;>rw[e] at this<;>first | exact this | exact k _ _ this⟩
  refine oV B ho (looks_opaque X1 S.opq) C1 hl hxD (I1.type.andThen (looks_mroIn X1 S.subL)) (mD X1 hD) ?_
  have k2:∀b o,hh.get? b=some o→(h'.push {cls:= .type bt,data:= .fields #[.builtin id, .ref x]}).get? b=some o:=fun b o e=>Heap.get?_push_of_some _ (k b o e)
  have I2:InstAt (h'.push {cls:= .type bt,data:= .fields #[.builtin id, .ref x]}) x ox D od:=⟨k2 _ _ I.at_,I.cls,I.no,by have:=I.dict;cases e:ox.dict<;>cases od<;>rw[e] at this<;>first | exact this | exact k2 _ _ this⟩
  refine pM hbt (Heap.get?_push_size _ rfl) (fun {A Q E} q=>hc (X0.keeps k2) I2 q) hb hp ?_
  exact h _ (t+1) k2
end
section
variable {X:Cx} {n:Nat}
theorem eX {x:Str} {v:Value}:∀{b:List (Str×Value)},(b.map (·.1)).Nodup→(x,v)∈b→b.reverse.lookup x=some v:=by
 intro b hn hm
 have hm':(x,v)∈b.reverse:=List.mem_reverse.mpr hm
 have hn':(b.reverse.map (·.1)).Nodup:=by rw[List.map_reverse];exact(List.reverse_perm _).nodup_iff.mpr hn
 generalize b.reverse=l at hm' hn'
 induction l with
 | nil=>cases hm'
 | cons q r ih=>
  obtain⟨y,u⟩:=q
  rw[List.map_cons,List.nodup_cons] at hn'
  rcases List.mem_cons.mp hm' with e | hm2
  ·cases e;exact List.lookup_cons_self ..
  ·rw[List.lookup_cons]
   have:(x==y)=false:=by
    simp only[beq_eq_false_iff_ne]
    rintro rfl
    exact hn'.1 (List.mem_map_of_mem (f:=(·.1)) hm2)
   rw[this];exact ih hm2 hn'.2
theorem iA {f:Addr} {oc:Value} {od:Option Addr} {osl:Array (Option Value)} {fd:FuncData} {body:List Stmt} {names:List Str} {ω:aA} {ρ:az} {us:List Value} {cc:Addr}
  (hk:X.K.lookup f=some ⟨oc,od, .func fd,osl⟩) (hb:fd.body= .stmts body) (hclo:fd.closure=[(("__class__":Str),cc)]) (hgl:fd.globals=mainGlobals) (hbi:fd.builtins=builtinsNs)
  (hcode:codeIn X.K fd.code fd.qualname=true) {args:Args} (hbind:∀s:Shared,b5 X s.heap→BindsTo s fd args (names.zip us))
  (hst:∀x∈names,fd.scope.names.lookup x=some .local) (hnd:names.Nodup) (hlen:us.length=names.length) (hcell:∀x∈fd.scope.names,x.2≠ .cell)
  (hco:fd.scope.isCoroutine=false) (hgen:fd.scope.isGenerator=false) (hkf:fd.scope.kind= .function) (hcd:∀v q,X.codeOf fd.scope=some (v,q)→fd.code=v∧fd.qualname++".<locals>." =q)
  {A:Around} {s:Shared} {G:ae} {Q:Result→Shared→Prop} (rm:aV A (n+1)) (bs:Base X s G)
  (hρ:∀x p,ρ.lookup x=some (some p)→∃v,(x,v)∈names.zip us∧Rd G p v)
  (fp:List Addr) (hfp:∀b∈fp,G b=none∧¬aw X b)
  (hω:∀x o,ω.lookup x=some (some o)→(x,Value.ref o.addr)∈names.zip us∧o.At G s.heap∧∀b∈o.fp,b∈fp)
  (hap:∀x y o o',ω.lookup x=some (some o)→ω.lookup y=some (some o')→x≠y→∀b∈o.fp,b∉o'.fp)
  (B:∀(env:Env) h₁ tk D (E:Value→Shared→Prop),env=callEnv fd s.heap.objs.size f→D=(⟨fun b=>if b∈fp then none else s.heap.get? b,G,s.os,true⟩:Bd)→aV (A.deeper env) n→bC X env fd.scope ρ ω D {s with heap:=h₁,toks:=tk} G→
   (∀x v,(x,v)∈names.zip us→∃m,h₁.Ns env.locals m∧m x=some v)→
   _root_.PySem.wpAt (model X.prog X.w) (A.deeper env) (.func body env) (execs body env) (fun fl s'=>Q (.ok (.ret (match fl with | .ret v=>v | _=> .none))) s') E {s with heap:=h₁,toks:=tk}):
  codeAny (model X.prog X.w) A (.call (.ref f) args) Q s:=by
 have hdep:A.depth<recursionLimit:=by have:=rm.1;omega
 have hnames:((names.zip us).map (·.1)).Nodup:=by rw[List.map_fst_zip (by omega)];exact hnd
 refine ks_codeAny_call_defAt (fd:=fd) (body:=body) (binds:=names.zip us) hdep (bs.gnd.kin _ _ hk) rfl bs.gnd.nolimit (codeRec_of bs.gnd.kin hcode) hb (hbind s bs.gnd) hcell (fun y hy=>hst y.1 (List.of_mem_zip hy).1) (fun h₁ hns hkeep=>?_) hco hgen hkf
 have st:Step X s G {s with heap:=h₁,toks:=s.toks+(names.zip us).length} G:=⟨cz.iq hkeep,bs.gnd.keeps hkeep,Sub.refl _,fun b o e=>hkeep b o (bs.within b o e),fun _ _ _ e _=>e,rfl,bs.gens⟩
 have nsAt:∀x v,(x,v)∈names.zip us→∃m,h₁.Ns (callEnv fd s.heap.objs.size f).locals m∧m x=some v:=fun x v hm=>⟨_,hns,eX hnames hm⟩
 have varAt:∀x v,(x,v)∈names.zip us→a0 (callEnv fd s.heap.objs.size f) h₁ x v:=fun x v hm=>
  .local (hst x (List.of_mem_zip hm).1) hns (eX hnames hm)
 have noS:∀{b},s.heap.get? b=none→(if b∈fp then none else s.heap.get? b)=none:=fun e=>by split<;>first | rfl | exact e
 have nocell:∀x,(callEnv fd s.heap.objs.size f).kindOf x≠some .cell:=fun x e=>hcell _ (mem_of_lookup e) rfl
 have r:bC X (callEnv fd s.heap.objs.size f) fd.scope ρ ω (⟨fun b=>if b∈fp then none else s.heap.get? b,G,s.os,true⟩:Bd) {s with heap:=h₁,toks:=s.toks+(names.zip us).length} G:=by
  refine⟨⟨st.gnd,st.within,st.gens,rfl,hkf,hgl,hbi,hcd,?_⟩,⟨fun b o e=>?_,st.gnd,Sub.refl _,st.within,fun b o o' e h=>?_,rfl,st.gens⟩,fun b q=>?_,⟨noS (aq _),ao bs.within (aq _),_,hns⟩,fun _ x c h1 h2=>absurd h2 (nocell x),fun _ x h=>absurd h (nocell x),fun _=>?_,⟨fun x o e=>(hω x o e).2.1.keep (Sub.refl _) fun b _ ob e=>hkeep b ob e,fun x o e b hb=>⟨if_pos ((hω x o e).2.2 b hb),(hfp b ((hω x o e).2.2 b hb)).1⟩,hap⟩,fun x o e=>⟨varAt _ _ (hω x o e).1,fun hb=>?_⟩⟩
  ·intro x q e
   obtain⟨v,hm,d⟩:=hρ x q e
   exact⟨v,varAt x v hm,d⟩
  ·have e':(if b∈fp then none else s.heap.get? b)=some o:=e
   split at e'
   ·cases e'
   ·exact .inl (hkeep b o e')
  ·exact e
  ·obtain⟨o,e⟩:=bs.gnd.special q
   exact⟨o,by show(if b∈fp then none else s.heap.get? b)=some o;rw[if_neg (fun h=>(hfp b h).2 q)];exact e⟩
  ·show fd.closure.Pairwise _
   rw[hclo];exact List.pairwise_singleton _ _
  ·obtain⟨ob,e',_⟩:=(hω x o e).2.1.solid _ hb
   rw[show(callEnv fd s.heap.objs.size f).locals=s.heap.objs.size from rfl,aq] at e';cases e'
 exact B _ _ _ _ _ rfl rfl rm.deeper r nsAt
end
section
variable {X:Cx} {n:Nat} {sc:Scope} {ρ:az} {ω:aA} {P:a6} {R:PV→aA→Prop}
theorem aE.snoc {G:ae}:∀{l:List PV} {p:PV} {vs:List Value},aE G (l++[p]) vs→∃us v,vs=us++[v]∧aE G l us∧Rd G p v
 | [],p,vs,⟨v,r,e,a,b⟩=>by cases b;exact⟨[],v,e,rfl,a⟩
 | q::l,p,vs,⟨v,r,e,a,b⟩=>by
  obtain⟨us,u,e2,x,y⟩:=aE.snoc (l:=l) b
  exact⟨v::us,u,by rw[e,e2];rfl,⟨v,us,rfl,a,x⟩,y⟩
theorem lz {s:Shared} {G:ae} {a d:Addr} {k:Int} {l l':List PV} {h':Heap} {tk:Nat} {o':Obj} {vs':List Value} (b:Base X s G) (ha:AccAt G s.heap a d k l) (hG:G a=none) (hX:¬aw X a) (hs:Heap.SameBut a s.heap h') (ho':h'.get? a=some o')
  (hi':bM o' bq d true vs') (hr:aE G l' vs'):av X [a,d] s G {s with heap:=h',toks:=tk} G∧AccAt G h' a d k l':=by
 obtain⟨o,m,vs,t,ho,hi,⟨od,es,ep,hod,hz,z2,z3,z4⟩,q,dd,ne⟩:=ha
 have hnc:d8 o:=fun _ e=>by rw[hi.1] at e;cases e
 refine⟨⟨fun c ob hc e=> .inl ((hs.2 c (fun z=>hc (by simp[z]))).trans e),b.gnd.sameBut hs hX ho hnc,Sub.refl _,fun c ob e=>(hs.2 c (fun z=>by rw[z,hG] at e;cases e)).trans (b.within c ob e),fun _ _ _ e _=>e,rfl,b.gens,fun _ _ e=>e⟩,?_⟩
 exact⟨o',m,vs',t,ho',hi',⟨od,es,ep,(hs.2 d (Ne.symm ne)).trans hod,hz,z2,z3,z4⟩,q,hr,ne⟩
theorem rC {s:Shared} {G:ae} {a d:Addr} {k k':Int} {l:List PV} {h':Heap} {tk:Nat} {m':Str→Option Value} {t':Tok} (b:Base X s G) (ha:AccAt G s.heap a d k l) (hG:G d=none) (hX:¬aw X d) (hs:Heap.SameBut d s.heap h') (hm:lI h' d m' 100) (h1:m' eh=some (.int k' t'))
  (h2:∀x∈eB,m' x=none):av X [a,d] s G {s with heap:=h',toks:=tk} G∧AccAt G h' a d k' l:=by
 obtain⟨o,m,vs,t,ho,hi,⟨od,es,ep,hod,hd,hz⟩,q,dd,ne⟩:=ha
 have hnc:d8 od:=fun vs _=>by rw[hd];nofun
 refine⟨⟨fun c ob hc e=> .inl ((hs.2 c (fun z=>hc (by simp[z]))).trans e),b.gnd.sameBut hs hX hod hnc,Sub.refl _,fun c ob e=>(hs.2 c (fun z=>by rw[z,hG] at e;cases e)).trans (b.within c ob e),fun _ _ _ e _=>e,rfl,b.gens,fun _ _ e=>e⟩,?_⟩
 exact⟨o,m',vs,t',(hs.2 a ne).trans ho,hi,hm,⟨h1,h2⟩,dd,ne⟩
structure qm (env:Env) (f:Addr) (fd:FuncData):Prop where
 scope:env.scope=fd.scope
 func:env.func=some f
 code:env.code=fd.code
 cells:env.cells=fd.closure
 globals:env.globals=mainGlobals
 builtins:env.builtins=builtinsNs
noncomputable def rI (X:Cx) (n:Nat) (f:Addr) (fd:FuncData) (body:List Stmt) (ρ:az) (ω:aA) (st:List Stmt) (P:a6) (R:PV→aA→Prop):Prop:=
 ∀(A:Around) (env:Env) (s:Shared) (G:ae) (D:Bd) (Q:Flow→Shared→Prop) (E:Value→Shared→Prop),aV A n→D.wr=true→qm env f fd→bC X env fd.scope ρ ω D s G→
  (∀fl ρ' ω' s' G',P fl ρ' ω'→bC X env fd.scope ρ' ω' D s' G'→Q fl.uh s')→(∀p ω' v s' G',R p ω'→Fin X D s' G'→dp ω' D s' G'→Rd G' p v→Q (.ret v) s')→
  _root_.PySem.wpAt (model X.prog X.w) A (.func body env) (execs st env) Q E s
theorem rI.cons {f:Addr} {fd:FuncData} {body:List Stmt} {st:Stmt} {rest:List Stmt} (h:aF X n fd.scope ρ ω st (fun fl ρ' ω'=>match fl with | .next=>rI X n f fd body ρ' ω' rest P R | g=>P g ρ' ω') R):rI X n f fd body ρ ω (st::rest) P R:=by
 intro A env s G D Q E rm wr he r k1 k2
 refine ks_wpAt_execs_cons (wpAt_of_wpAny (h A env s G D _ E rm wr r (fun fl ρ' ω' s' G' p r'=>?_) fun p ω' v s' G' x f hl d=>k2 p ω' v s' G' x f hl d))
 cases fl with
 | next=>exact p A env s' G' D Q E rm wr he r' k1 k2
 | brk=>exact k1 .brk ρ' ω' s' G' p r'
 | cont=>exact k1 .cont ρ' ω' s' G' p r'
theorem gN.iA {f:Addr} {oc:Value} {od:Option Addr} {osl:Array (Option Value)} {fd:FuncData} {body:List Stmt} {ps dps:List PV} {dvs:List Value} {p:PV} {o o':Own} {cc:Addr} (self:Str) (names:List Str)
  (hk:X.K.lookup f=some ⟨oc,od, .func fd,osl⟩) (hb:fd.body= .stmts body) (hclo:fd.closure=[(("__class__":Str),cc)]) (hgl:fd.globals=mainGlobals) (hbi:fd.builtins=builtinsNs)
  (hcode:codeIn X.K fd.code fd.qualname=true) (hbind:∀s:Shared,b5 X s.heap→∀(v:Value) (vs:List Value),vs.length=ps.length→BindsTo s fd ⟨v::vs,[]⟩ ((self::names).zip (v::(vs++dvs))))
  (hd:∀G,aE G dps dvs) (hlen:ps.length+dps.length=names.length) (hst:∀x∈self::names,fd.scope.names.lookup x=some .local) (hnd:(self::names).Nodup) (hcell:∀x∈fd.scope.names,x.2≠ .cell)
  (hco:fd.scope.isCoroutine=false) (hgen:fd.scope.isGenerator=false) (hkf:fd.scope.kind= .function) (hcd:∀v q,X.codeOf fd.scope=some (v,q)→fd.code=v∧fd.qualname++".<locals>." =q) (hfp:o'.fp=o.fp)
  (B:rI X n f fd body ((self,none)::params names (ps++dps)) [(self,some o)] body (vT p self o') (vG p self o')):gN X (n+1) f o ps p o':=by
 intro A s G vs R rm bs ho hof hv k
 have hl:vs.length=ps.length:=hv.length
 have all:aE G (ps++dps) (vs++dvs):=aE.append hv (hd G)
 have one:∀{x q},([(self,some o)]:aA).lookup x=some (some q)→x=self∧q=o:=by
  intro x q e
  rw[List.lookup_cons] at e
  cases hb:x==self with
  | true=>rw[hb] at e;cases e;exact⟨beq_iff_eq.mp hb,rfl⟩
  | false=>rw[hb] at e;cases e
 have toSt:∀{ω' s' G' D},D=(⟨fun b=>if b∈o.fp then none else s.heap.get? b,G,s.os,true⟩:Bd)→Fin X D s' G'→dp ω' D s' G'→ω'.lookup self=some (some o')→av X o.fp s G s' G'∧o'.At G' s'.heap∧∀b∈o.fp,G' b=none:=by
  rintro ω' s' G' D rfl f' hl e
  have off:∀b∈o.fp,G' b=none:=fun b hb=>(hl.off self o' e b (hfp▸hb)).2
  refine⟨⟨fun b ob hb e=>f'.keep b ob (by show(if b∈o.fp then none else s.heap.get? b)=some ob;rw[if_neg hb];exact e),f'.gnd,f'.sub,f'.within,fun b ob ob' e h=>?_,f'.os,f'.gens,fun b hb _=>off b hb⟩,hl.at_ self o' e,off⟩
  by_cases hb:b∈o.fp
  ·rw[off b hb] at e;cases e
  ·exact f'.low b ob ob' e (by show(if b∈o.fp then none else s.heap.get? b)=some ob';rw[if_neg hb];exact h)
 refine Mine.Internal.iA (us:= .ref o.addr::(vs++dvs)) (names:=self::names) (ω:=[(self,some o)]) (ρ:=(self,none)::params names (ps++dps)) hk hb hclo hgl hbi hcode (fun s g=>hbind s g _ vs hl) hst hnd ?_ hcell hco hgen hkf hcd rm bs (fun x p e=>?_) o.fp hof (fun x q e=>?_) (fun x y q q' e e' ne=>absurd ((one e).1.trans (one e').1.symm) ne) fun env h₁ tk D E he hD rm' r nsAt=>?_
 ·rw[List.length_cons,all.length,List.length_cons];simp;omega
 ·by_cases hx:x=self
  ·subst hx;rw[aM] at e;cases e
  ·rw[aN hx] at e
   obtain⟨v,hm,d⟩:=eY all e
   exact⟨v,by rw[List.zip_cons_cons];exact yL _ hm,d⟩
 ·obtain⟨rfl,rfl⟩:=one e
  exact⟨by rw[List.zip_cons_cons];exact List.mem_cons_self,ho,fun b hb=>hb⟩
 ·refine B _ env _ G D _ _ rm' (by rw[hD]) (by rw[he];exact⟨rfl,rfl,rfl,rfl,hgl,hbi⟩) r (fun fl ρ' ω' s' G' hp r'=>?_) fun q ω' v s' G' hq f' hl d=>?_
  ·obtain⟨rfl,rfl,e⟩:=hp
   obtain⟨a,b,c⟩:=toSt hD r'.fin r'.held e
   exact k .none s' G' a b c rfl
  ·obtain⟨rfl,e⟩:=hq
   obtain⟨a,b,c⟩:=toSt hD f' hl e
   exact k v s' G' a b c d
theorem qQ {f cc:Addr} {fd:FuncData} {ar:Arg} {body:List Stmt} {a d:Addr} {k k':Int} {l l':List PV} {p:PV} {name:Str} {id T bt:String} {b:Builtin} {p0 p1 apos pos:Pos} {pl:Sem Bool} (S:k4 X f cc fd ar bq) (BM:iV name id T bt) (hbt:bt="method-wrapper"∨bt="builtin_function_or_method") (hb:entryFor table id=some b) (hp:plainId id=true)
  (hc:∀{A:Around} {Q:Unit→Shared→Prop} {E:Value→Shared→Prop} {s':Shared} {ox:Obj} {od:Option Obj},X.K.In s'.heap→InstAt s'.heap a ox bq od→Q () s'→wpAny (model X.prog X.w) A (checkBoundCall id ⟨[.ref a],[]⟩) Q E s')
  (hx:ω.lookup ar.arg=some (some (.acc a d k l)))
  (h:∀(A:Around) (s:Shared) (G:ae) (Q E:Value→Shared→Prop),Base X s G→AccAt G s.heap a d k l→G a=none→¬aw X a→(∀v s' G',av X [a,d] s G s' G'→AccAt G' s'.heap a d k' l'→Rd G' p v→Q v s')→wpAny (model X.prog X.w) A (b ⟨[.ref a],[]⟩) (fun fin s'=>∃v,fin= .done (.ret v)∧Q v s') E s)
  {A:Around} {env:Env} {s:Shared} {G:ae} {D:Bd} {Q E:Value→Shared→Prop} (he:qm env f fd) (r:bC X env fd.scope ρ ω D s G)
  (hev:eval (.Call (.Attribute (.Call (.Name "super" p0) [] [] p1) name apos) [] [] pos) env=(do
   let ov ←attributeBase (.Call (.Name "super" p0) [] [] p1) name env (eval (.Call (.Name "super" p0) [] [] p1) env)
   standAt apos.atName
   let (f,first) ←holding [ov] (getMethod ov name pl)
   callWith pos f first (backTo pos (starEach [] env)) []))
  (q:∀v s' G',bC X env fd.scope ρ ((ar.arg,some (.acc a d k' l'))::ω) D s' G'→Rd G' p v→Q v s'):
  _root_.PySem.wpAt (model X.prog X.w) A (.func body env) (eval (.Call (.Attribute (.Call (.Name "super" p0) [] [] p1) name apos) [] [] pos) env) Q E s:=by
 have hka:env.kindOf ar.arg=some .local:=by unfold Env.kindOf;rw[he.scope];exact S.ka
 have hself:∃m,s.heap.Ns env.locals m∧m ar.arg=some (.ref a):=by
  rcases(r.own _ _ hx).1.cases with⟨_,h⟩ | ⟨c,_,_,h | ⟨h,_⟩⟩
  ·exact h
  ·rw[hka] at h;cases h
  ·rw[hka] at h;cases h
 obtain⟨o,m,vs,t,ho,hi,⟨od,es,ep,hod,hz⟩,qq,dd,ne⟩:=r.held.at_ _ _ hx
 refine iC S BM r.er.gnd he.scope he.func he.code he.cells he.globals he.builtins hself (hi.inst ho hod) hbt hb hp (fun {A Q E s'} x y z=>hc x y z) (fun h' tk kk=>?_) hev
 have st:Step X s G {s with heap:=h',toks:=tk} G:=r.er.base.ext kk
 have r1:=r.step st
 obtain⟨nG,nX⟩:=r1.eI hx a (by simp[Own.fp])
 exact h _ _ G _ _ r1.er.base (r1.held.at_ _ _ hx) nG nX fun v s' G' t h2 d2=>q v s' G' (r1.alter hx (o':= .acc a d k' l') t h2 rfl rfl) d2
theorem rI.qV {f cc:Addr} {fd:FuncData} {ar:Arg} {body:List Stmt} {a d:Addr} {k k':Int} {l l':List PV} {p:PV} {name:Str} {id T bt:String} {b:Builtin} {p0 p1 apos pos pos':Pos} {pl:Env→Sem Bool} (S:k4 X f cc fd ar bq) (BM:iV name id T bt) (hbt:bt="method-wrapper"∨bt="builtin_function_or_method") (hb:entryFor table id=some b) (hp:plainId id=true)
  (hc:∀{A:Around} {Q:Unit→Shared→Prop} {E:Value→Shared→Prop} {s':Shared} {ox:Obj} {od:Option Obj},X.K.In s'.heap→InstAt s'.heap a ox bq od→Q () s'→wpAny (model X.prog X.w) A (checkBoundCall id ⟨[.ref a],[]⟩) Q E s')
  (hx:ω.lookup ar.arg=some (some (.acc a d k l)))
  (h:∀(A:Around) (s:Shared) (G:ae) (Q E:Value→Shared→Prop),Base X s G→AccAt G s.heap a d k l→G a=none→¬aw X a→(∀v s' G',av X [a,d] s G s' G'→AccAt G' s'.heap a d k' l'→Rd G' p v→Q v s')→wpAny (model X.prog X.w) A (b ⟨[.ref a],[]⟩) (fun fin s'=>∃v,fin= .done (.ret v)∧Q v s') E s)
  (hr:R p ((ar.arg,some (.acc a d k' l'))::ω))
  (hev:∀env,qm env f fd→eval (.Call (.Attribute (.Call (.Name "super" p0) [] [] p1) name apos) [] [] pos) env=(do
   let ov ←attributeBase (.Call (.Name "super" p0) [] [] p1) name env (eval (.Call (.Name "super" p0) [] [] p1) env)
   standAt apos.atName
   let (f,first) ←holding [ov] (getMethod ov name (pl env))
   callWith pos f first (backTo pos (starEach [] env)) [])):
  rI X n f fd body ρ ω [.Return (some (.Call (.Attribute (.Call (.Name "super" p0) [] [] p1) name apos) [] [] pos)) pos'] P R:=by
 intro A env s G D Q E rm wr he r k1 k2
 refine ks_wpAt_execs_cons (ks_wpAt_Return_some ?_)
 exact qQ S BM hbt hb hp hc hx h he r (hev env he) fun v s' G' r' d=>k2 p _ v s' G' hr r'.fin r'.held d
end
section
variable {X:Cx} {n:Nat} {sc:Scope} {ρ:az} {ω ω':aA} {P:a6} {R:PV→aA→Prop}
noncomputable def Own.cls:Own→Addr
 | .lst _ _=>0
 | .acc _ _ _ _=>bq
 | .fmt _ _ _ _ _ _ _ _ _ _=>ct
theorem Own.At.inst {G:ae} {h:Heap} {o:Own} (x:o.At G h) (hc:o.cls≠0):∃ob od m,InstAt h o.addr ob o.cls (some od)∧mK od m∧∀x∈eB,m x=none:=by
 cases o with
 | lst a l=>exact absurd rfl hc
 | acc a d k l=>
  obtain⟨o,m,vs,t,ho,hi,hn,q,dd,ne⟩:=x
  obtain⟨od,hod,hno⟩:=mK.of hn.ns
  exact⟨o,od,m,hi.inst ho hod,hno,q.2⟩
 | fmt f df ln a d ml sp lines k l=>
  obtain⟨o,m,t,u,ho,hi,hn,q1,q2,q3,q4,hl,ha,ne⟩:=x
  obtain⟨od,hod,hno⟩:=mK.of hn
  exact⟨o,od,m,hi.inst ho hod,hno,q4.2⟩
noncomputable def bu (X:Cx) (n:Nat) (sc:Scope) (x:Str) (oe:PySem.Expr) (o o1:Own):Prop:=
 ∀(A:Around) (env:Env) (s:Shared) (G:ae) (D:Bd) (ρ:az) (ω:aA) (Q E:Value→Shared→Prop),aV A n→bC X env sc ρ ω D s G→ω.lookup x=some (some o)→(∀tk,Q (.ref o1.addr) {s with toks:=tk})→wpAny (model X.prog X.w) A (eval oe env) Q E s
theorem bC.toks {env:Env} {D:Bd} {s:Shared} {G:ae} (r:bC X env sc ρ ω D s G) (tk:Nat):bC X env sc ρ ω D {s with toks:=tk} G:=r.step (r.er.base.toks tk)
theorem bu.self {x:Str} {px:Pos} {o:Own} (hd:(x==("__debug__":Str))=false:=by decide):bu X n sc x (.Name x px) o o:=
 fun A env s G D ρ ω Q E rm r hx q=>ownName r hx hd (q s.toks)
theorem bu.tR {x name:Str} {px pos:Pos} {f df ln a d:Addr} {ml:Int} {sp:Str} {lines:List PV} {k:Int} {l:List PV} {o1:Own} (K:jj X ct) (hf:findIn X.K (.ref ct) name=some none)
  (hm:∀{G:ae} {h:Heap},tU G h f df ln a d ml sp lines k l→∃o m,h.get? f=some o∧bM o ct df false []∧h.Ns df m∧m name=some (.ref o1.addr))
  (hd:(x==("__debug__":Str))=false:=by decide)
  (he:∀env,eval (.Attribute (.Name x px) name pos) env=(do
   let o' ←eval (.Name x px) env
   standAt pos.atName
   let r ←holding [o'] (getAttr o' name true)
   letTemporaryGo (.Name x px) o' r
   pure r):=by intro _;with_unfolding_all rfl):bu X n sc x (.Attribute (.Name x px) name pos) (.fmt f df ln a d ml sp lines k l) o1:=by
 intro A env s G D ρ ω Q E rm r hx q
 refine Attribute_any_ (ownName r hx hd ?_) (he env)
 obtain⟨o,m,ho,hi,hn,hv⟩:=hm (r.held.at_ x _ hx)
 obtain⟨od,hod,hno⟩:=mK.of hn
 exact K.get r.er.gnd.kin (hi.inst ho hod) hf (by rw[hno.look,hv]) rfl (q _)
theorem bu.cur {x:Str} {px pos:Pos} {f df ln a d:Addr} {ml:Int} {sp:Str} {lines:List PV} {k:Int} {l:List PV} (K:jj X ct) (hf:findIn X.K (.ref ct) jC=some none) (hd:(x==("__debug__":Str))=false:=by decide)
  (he:∀env,eval (.Attribute (.Name x px) jC pos) env=(do
   let o' ←eval (.Name x px) env
   standAt pos.atName
   let r ←holding [o'] (getAttr o' jC true)
   letTemporaryGo (.Name x px) o' r
   pure r):=by intro _;with_unfolding_all rfl):bu X n sc x (.Attribute (.Name x px) jC pos) (.fmt f df ln a d ml sp lines k l) (.acc a d k l):=
 .tR K hf (fun h=>by obtain⟨o,m,t,u,ho,hi,hn,q1,q2,q3,q4,hl,ha,ne⟩:=h;exact⟨o,m,ho,hi,hn,q4.1⟩) hd he
theorem bu.lines {x:Str} {px pos:Pos} {f df ln a d:Addr} {ml:Int} {sp:Str} {lines:List PV} {k:Int} {l:List PV} (K:jj X ct) (hf:findIn X.K (.ref ct) eT=some none) (hd:(x==("__debug__":Str))=false:=by decide)
  (he:∀env,eval (.Attribute (.Name x px) eT pos) env=(do
   let o' ←eval (.Name x px) env
   standAt pos.atName
   let r ←holding [o'] (getAttr o' eT true)
   letTemporaryGo (.Name x px) o' r
   pure r):=by intro _;with_unfolding_all rfl):bu X n sc x (.Attribute (.Name x px) eT pos) (.fmt f df ln a d ml sp lines k l) (.lst ln lines):=
 .tR K hf (fun h=>by obtain⟨o,m,t,u,ho,hi,hn,q1,q2,q3,q4,hl,ha,ne⟩:=h;exact⟨o,m,ho,hi,hn,q3⟩) hd he
theorem mv {env:Env} {D:Bd} {s:Shared} {G:ae} {A:Around} {x:Str} {o o1 o1' o':Own} {f:Addr} {ps:List PV} {p:PV} {us:List Value} {Q E:Value→Shared→Prop} (rm:aV A n) (r3:bC X env sc ρ ω D s G) (hx:ω.lookup x=some (some o)) (pt:aT o o1 o1' o') (h:gN X n f o1 ps p o1') (d:aE G ps us)
  (q:∀v s' G',bC X env sc ρ ((x,some o')::ω) D s' G'→Sub G G'→Rd G' p v→Q v s'):wpAny (model X.prog X.w) A (call (.ref f) (.ref o1.addr::us)) Q E s:=by
 refine wpAny_call ?_
 exact h A s G us (fun r s'=>match r with | .ok (.ret v)=>Q v s' | .ok _=>False | .error e=>E e s') rm r3.er.base (pt.at_ _ _ (r3.held.at_ x o hx)) (fun b hb=>r3.eI hx b (pt.sub b hb)) d fun v s4 G4 t4 h4 _ d4=>q v s4 G4 (r3.kZ hx pt t4 h4) t4.sub d4
theorem bE.fk {x:Str} {oe:PySem.Expr} {es:List PySem.Expr} {name:Str} {apos pos:Pos} {o o1 o1' o':Own} {f:Addr} {ps:List PV} {p:PV} {oc:Value} {fod:Option Addr} {osl:Array (Option Value)} {fd:FuncData} {pl:Env→Sem Bool} (hx:ω.lookup x=some (some o)) (hp:bu X n sc x oe o o1) (pt:aT o o1 o1' o')
  (ha:aj X n sc (cm ω ρ) es ps) (hfl:PV.bO ps=true) (k:dD X.K o1.cls) (hc:o1.cls≠0) (hf:findIn X.K (.ref o1.cls) name=some (some (.ref f))) (hk:X.K.lookup f=some ⟨oc,fod, .func fd,osl⟩) (ht:typeIn X.K (.ref f)=some (.type "function")) (h:gN X n f o1 ps p o1')
  (hname:name∈eB:=by decide)
  (he:∀env,eval (.Call (.Attribute oe name apos) es [] pos) env=(do
   let ov ←eval oe env
   standAt apos.atName
   let (f,first) ←holding [ov] (getMethod ov name (pl env))
   callWith pos f first (backTo pos (starEach es env)) (backToKw pos (keywordEach [] env))):=by intro _;rfl):bE X n sc ρ ω (.Call (.Attribute oe name apos) es [] pos) p ((x,some o')::ω):=by
 intro A env s G D Q E rm wr r q
 refine methodCall_KW (pl:=pl env) (hp A env s G D ρ ω _ E rm r hx fun tk=>?_) (he env)
 have r1:=r.toks tk
 obtain⟨ob,od,m,I,hn,hm⟩:=(pt.at_ _ _ (r1.held.at_ x o hx)).inst hc
 refine eZ r1.er.gnd.kin k I hn (hm _ hname) hf ht ?_
 refine callWith_function (o:=⟨oc,fod, .func fd,osl⟩) (fd:=fd) ?_
 refine aY ha rm r1.plus.1 fun us s2 G2 t2 d2=>?_
 obtain⟨G3,t3,fl,_⟩:=r1.back t2
 refine⟨⟨t3.gnd.kin _ _ hk,rfl⟩,?_⟩
 exact mv rm (r1.step t3) hx pt h (mn hfl fl d2) fun v s' G' r' u' d'=>q v s' G' r' (t3.sub.trans u') d'
end
section
variable {X:Cx} {n:Nat} {sc:Scope} {ρ:az} {ω ω':aA} {P:a6} {R:PV→aA→Prop}
theorem bE.pW {x:Str} {oe e:PySem.Expr} {name:Str} {apos pos:Pos} {o o':Own} {a d:Addr} {k:Int} {l:List PV} {p:PV} {pl:Env→Sem Bool} (hx:ω.lookup x=some (some o)) (hp:bu X n sc x oe o (.acc a d k l)) (pt:aT o (.acc a d k l) (.acc a d k (l++[p])) o')
  (ha:aa X n sc (cm ω ρ) e p) (hfl:p.flat=true) (K:dD X.K bq) (hm:mroIn X.K bq (.type "list")=some true) (hf:findIn X.K (.ref bq) name=some (some (.builtin "list.append"))) (hz:l.length≤10000) (hname:name="append":=by rfl)
  (hst:∀env,starEach [e] env=(false,eval e env)::starEach [] env:=by intro _;rfl)
  (he:∀env,eval (.Call (.Attribute oe name apos) [e] [] pos) env=(do
   let ov ←eval oe env
   standAt apos.atName
   let (f,first) ←holding [ov] (getMethod ov name (pl env))
   callWith pos f first (backTo pos (starEach [e] env)) (backToKw pos (keywordEach [] env))):=by intro _;rfl):bE X n sc ρ ω (.Call (.Attribute oe name apos) [e] [] pos) .none ((x,some o')::ω):=by
 intro A env s G D Q E rm wr r q
 refine methodCall_KW (pl:=pl env) (hp A env s G D ρ ω _ E rm r hx fun tk=>?_) (he env)
 have r1:=r.toks tk
 have h1:=pt.at_ _ _ (r1.held.at_ x o hx)
 obtain⟨ob,od,m,I,hn,hm'⟩:=h1.inst (show bq≠0 by decide)
 have hmN:name∈eB:=by rw[hname];decide
 refine jZ (tf:= .type "method_descriptor") r1.er.gnd.kin K I hn (hm' _ hmN) hf (by ext) (by decide) ?_
 have hes:aj X n sc (cm ω ρ) [e] [p]:= .cons ha .nil hst
 refine Calls.callWith_builtin (bN hes pos env) ?_
 refine aY hes rm r1.plus.1 fun us s2 G2 t2 d2=>?_
 obtain⟨G3,t3,fl,_⟩:=r1.back t2
 have r3:=r1.step t3
 obtain⟨u,_,rfl,du,rfl⟩:=d2
 have du:=fl p u hfl du
 obtain⟨o,m,vs,t,ho,hi,⟨od,es,ep,hod,hz'⟩,qq,dd,ne⟩:=id (pt.at_ _ _ (r3.held.at_ x _ hx))
 refine pV r3.er.gnd.kin (hi.inst ho hod) hi hm (by rw[dd.length];exact hz) fun h' o' ho' hi' hs'=>?_
 have nX:=r3.eI hx a (pt.sub _ (by simp[Own.fp]))
 obtain⟨st,at'⟩:=lz (tk:=s2.toks) r3.er.base (pt.at_ _ _ (r3.held.at_ x _ hx)) nX.1 nX.2 hs' ho' hi' (aE.append dd (aE.cons du aE.nil))
 exact q _ _ G3 (r3.kZ hx pt st at') t3.sub rfl
theorem bE.kM {x:Str} {oe e:PySem.Expr} {name:Str} {apos pos:Pos} {o o':Own} {a:Addr} {l:List PV} {p:PV} {pl:Env→Sem Bool} (hx:ω.lookup x=some (some o)) (hp:bu X n sc x oe o (.lst a l)) (pt:aT o (.lst a l) (.lst a (l++[p])) o')
  (ha:aa X n sc (cm ω ρ) e p) (hfl:p.flat=true) (hz:l.length≤10000) (hname:name="append":=by rfl)
  (hst:∀env,starEach [e] env=(false,eval e env)::starEach [] env:=by intro _;rfl)
  (he:∀env,eval (.Call (.Attribute oe name apos) [e] [] pos) env=(do
   let ov ←eval oe env
   standAt apos.atName
   let (f,first) ←holding [ov] (getMethod ov name (pl env))
   callWith pos f first (backTo pos (starEach [e] env)) (backToKw pos (keywordEach [] env))):=by intro _;rfl):bE X n sc ρ ω (.Call (.Attribute oe name apos) [e] [] pos) .none ((x,some o')::ω):=by
 subst hname
 intro A env s G D Q E rm wr r q
 refine methodCall_KW (pl:=pl env) (hp A env s G D ρ ω _ E rm r hx fun tk=>?_) (he env)
 have r1:=r.toks tk
 obtain⟨vs,pl',dd⟩:=pt.at_ _ _ (r1.held.at_ x o hx)
 refine getMethod_builtin pl'.isList.typeIs PySem.F.plainAttrs_list slot_list_append type_list_append (fun b e=>?_) ?_
 ·cases e
  obtain⟨c,e⟩:=pl'
  exact⟨_,e,rfl⟩
 have hes:aj X n sc (cm ω ρ) [e] [p]:= .cons ha .nil hst
 refine Calls.callWith_builtin (bN hes pos env) ?_
 refine aY hes rm r1.plus.1 fun us s2 G2 t2 d2=>?_
 obtain⟨G3,t3,fl,_⟩:=r1.back t2
 have r3:=r1.step t3
 obtain⟨u,_,rfl,du,rfl⟩:=d2
 have du:=fl p u hfl du
 obtain⟨vs3,pl3,dd3⟩:=pt.at_ _ _ (r3.held.at_ x _ hx)
 refine fJ pl3 (fun h' pl' hs'=>?_) (by rw[List.size_toArray,dd3.length];exact yN hz (by unfold sizeLine;decide))
 have nx:=r3.eI hx a (pt.sub _ (by simp[Own.fp]))
 have st:=fD (tk:=s2.toks) r3.er.base pl3 hs' nx.1 nx.2
 have pl2:h'.PlainList a (List.toArray (vs3++[u])):=by
  have q:h'.PlainList a ((List.toArray vs3).push u):=pl'
  simpa using q
 exact q _ _ G3 (r3.kZ hx pt (o1':= .lst a (l++[p])) st ⟨vs3++[u],pl2,aE.append dd3 (aE.cons du aE.nil)⟩) t3.sub rfl
theorem aF.nV {x:Str} {e:PySem.Expr} {name:Str} {px apos pos:Pos} {a d:Addr} {k k':Int} {l:List PV} (hx:ω.lookup x=some (some (.acc a d k l))) (h:aa X n sc (cm ω ρ) e (.int k')) (C:p9 X.K bq) (ht:takerIn X.K bq eh=some none) (k0:P .next ρ ((x,some (.acc a d k' l))::ω)) (hname:name=eh:=by rfl) (hd:(x==("__debug__":Str))=false:=by decide)
  (hs:∀env,swapsWith e (some (.Attribute (.Name x px) name apos)) pos.line env=pure false:=by intro _;rfl):aF X n sc ρ ω (.Assign [.Attribute (.Name x px) name apos] e pos) P R:=by
 subst hname
 intro A env s G D Q E rm wr r k1 k2
 refine plainObj_wpAny_Assign_Attribute (h A env s _ _ E rm r.plus.1 fun v s1 G1 t1 d1=>?_) (hs env)
 obtain⟨G2,t2,fl,_⟩:=r.back t1
 have r2:=r.step t2
 obtain⟨t',rfl⟩:=d1
 refine ownName r2 hx hd ?_
 obtain⟨o,m,vs,t,ho,hi,hz,qq,dd,ne⟩:=id (r2.held.at_ x _ hx)
 obtain⟨od,hod,hno⟩:=mK.of hz.ns
 refine jO C r2.er.gnd.kin (hi.inst ho hod) hi.2.1 hz (by omega) ht fun h' tk hn' hs'=>?_
 have nX:=r2.eI hx d (by simp[Own.fp])
 have hzz:(if (m eh).isSome then 100 else 100+1)=100:=by rw[qq.1];rfl
 rw[hzz] at hn'
 obtain⟨st,at'⟩:=rC (tk:=tk) (k':=k') (t':=t') r2.er.base (r2.held.at_ x _ hx) nX.1 nX.2 hs' hn' (by simp) (fun y hy=>by
  have:y≠eh:=by rintro rfl;exact absurd hy (by decide)
  rw[if_neg this];exact qq.2 y hy)
 exact k1 .next _ _ _ G2 k0 (r2.alter hx (o':= .acc a d k' l) st at' rfl rfl)
theorem aF.fx {x:Str} {e:PySem.Expr} {lower:Option PySem.Expr} {px ps spos pos:Pos} {a d:Addr} {k:Int} {l m:List PV} {lo:Option Int} (S:SubL X bq) (hx:ω.lookup x=some (some (.acc a d k l))) (h:aa X n sc ρ e (.lst m)) (h1:aP X n sc ρ lower lo) (hz:l.length≤10000) (hz2:m.length≤10000)
  (k0:P .next ρ ((x,some (.acc a d k (l.take (bk l.length lo 0)++m)))::ω)) (hd:(x==("__debug__":Str))=false:=by decide)
  (hs:∀env,swapsWith e (some (.Subscript (.Name x px) (.Slice lower none none ps) spos)) pos.line env=pure false:=by intro _;rfl):aF X n sc ρ ω (.Assign [.Subscript (.Name x px) (.Slice lower none none ps) spos] e pos) P R:=by
 intro A env s G D Q E rm wr r k1 k2
 refine wpAny_Assign_Subscript (h A env s G _ E rm r.er fun v s1 G1 t1 d1=>?_) (hs env)
 have r1:=r.step t1
 refine ownName r1 hx hd ?_
 refine wpAny_Slice (h1.go rm r1.er fun tl s2 G2 t2=>?_)
 rw[evalPart_none]
 refine yJ (yJ ?_)
 have t4:=t2.base.fresh {cls:= .type "slice",data:= .fields #[partValue (lo.map fun i=>(i,tl)), .none, .none]}
 have r4:=(r1.step t2).step t4
 obtain⟨b,us,rfl,hl,dus,⟨ob,hob⟩⟩:=Rd.list t4.within (Rd.mono (t2.sub.trans t4.sub) _ _ d1)
 obtain⟨o,mm,vs,t,ho,hi,⟨od,es,ep,hod,hz'⟩,qq,dd,ne⟩:=id (r4.held.at_ x _ hx)
 have nX:=r4.eI hx a (by simp[Own.fp])
 have hab:a≠b:=fun z=>by rw[←z,nX.1] at hob;cases hob
 refine Mine.Internal.fx S r4.er.gnd.kin (hi.inst ho hod) hi (Heap.IsSliceOf.new ..) (jG lo tl) hl hab (by rw[dd.length];exact hz) (by rw[dus.length];exact hz2) fun h' o' ho' hi' hs'=>?_
 rw[dd.length] at hi'
 obtain⟨st,at'⟩:=lz (tk:=s2.toks) r4.er.base (r4.held.at_ x _ hx) nX.1 nX.2 hs' ho' hi' (aE.append (aE.take _ dd) dus)
 exact k1 .next _ _ _ G2 k0 (r4.alter hx (o':= .acc a d k (l.take (bk l.length lo 0)++m)) st at' rfl rfl)
end
section
variable {prog:Program} {w:World} {A:Around} {E:Value→Shared→Prop} {s:Shared}
theorem WalksS.shift {I:Addr} {fp wr:List Addr} {G:Array GenState→Array GenState→Prop} {n:Nat} {P:Nat→Value→Prop} {St:Nat→Shared→Prop} (W:WalksS prog w A I fp wr G n P St):
  WalksS prog w A I fp wr G (n+1) (fun i v=>match i with | 0=>False | j+1=>P j v) (fun i s=>match i with | 0=>False | j+1=>St j s) where
 sub:=W.sub
 grefl:=W.grefl
 gtrans:=W.gtrans
 frame:=fun i s h' tk st ht hk=>by cases i with | zero=>exact st.elim | succ i=>exact W.frame i s h' tk st ht hk
 item:=fun i s Q E hi st hQ=>by
  cases i with
  | zero=>exact st.elim
  | succ i=>exact W.item i s Q E (by omega) st fun v s' hP hst hm=>hQ v s' hP hst hm
 done:=fun s Q E st hQ=>W.done s Q E st hQ
 self:=fun i s Q E st hQ=>by cases i with | zero=>exact st.elim | succ i=>exact W.self i s Q E st hQ
theorem pU (a b:Value):argsOk "sum" ⟨[a,b],[]⟩:=by unfold argsOk;ext
theorem rx {I:Addr} {fp wr:List Addr} {G:Array GenState→Array GenState→Prop} {P:Nat→Value→Prop} {St:Nat→Shared→Prop} {l:List Int} {k:Int} {t:Tok} {Q:Value→Shared→Prop} (W:WalksS prog w A.in1 I fp wr G l.length P St) (hst:St 0 s) (hfp:∀b∈fp,b<s.heap.objs.size)
  (hval:∀i v,P i v→∃t,v= .int (l.getD i 0) t) (hfit:PyProof.Rows.SumFits (k::l)) (hQ:∀s' t',Moved wr G s s'→Q (.int (k+l.sum) t') s'):wpAny (model prog w) A (call (.builtin "sum") [.ref I, .int k t]) Q E s:=by
 refine call_function_tree F.kind_sum F.plain_sum F.entry_sum (pU _ _) ?_
 unfold Builtin.«sum»
 rw[if_neg]
 case hnc=>exact Nat.lt_irrefl 2
 refine yI (wpAny_of_eq (show Builtin.Builtins.bindParams "sum" ["start"] 0 ⟨[.int k t],[]⟩=pure [some (.int k t)] from rfl) ?_)
 refine yI (W.self 0 s _ _ hst ?_)
 have hk:InLong k:=(hfit 0 (by simp)).1
 dsimp only
 rw[if_pos]
 case hc=>
  show(decide (-(2 ^ 63)≤k)&&decide (k<2 ^ 63))=true
  rw[decide_eq_true hk.1,decide_eq_true hk.2];rfl
 refine yI (wpAny_rule ?_)
 refine yI (wpAny_mkInt ?_)
 refine yI (yJ ?_)
 rw[List.forIn_cons]
 refine yI (yI (yI (wpAny_isInstance (T:="int") (b:=false) (typeIs_int _ _ _) PySem.sub_int_str ?_)))
 dsimp only[iF]
 refine yJ ?_
 dsimp only
 rw[List.forIn_cons]
 refine yI (yI (wpAny_isInstance (T:="int") (b:=false) (typeIs_int _ _ _) PySem.sub_int_bytes ?_))
 dsimp only[iF]
 refine yJ ?_
 dsimp only
 rw[List.forIn_cons]
 refine yI (yI (wpAny_isInstance (T:="int") (b:=false) (typeIs_int _ _ _) PySem.sub_int_bytearray ?_))
 dsimp only[iF]
 refine yJ ?_
 dsimp only
 rw[List.forIn_nil]
 refine yJ (yI (wpAny_newObj_type ?_))
 have hSf:s.heap.objs.size∉fp:=fun hm=>Nat.lt_irrefl _ (hfp _ hm)
 have e1:preSum (fun i=>(k::l).getD i 0) 1=k:=by rw[preSum_getD];simp
 have e2:preSum (fun i=>(k::l).getD i 0) (l.length+1)=k+l.sum:=by rw[preSum_getD];simp
 refine yJ ⟨plainId_quiet F.plain_sum_loop _,codeAny_sum_loopS (Mine.Internal.WalksS.shift W) (fun i=>(k::l).getD i 0) ?_ ?_ s.heap.objs.size hSf l.length 1 _ s.toks 0 (by lia) (by omega)
  (W.frame 0 s _ _ hst (by first | exact Nat.le_refl _ | exact Nat.le_succ _ | omega) fun b _ o e=>Heap.get?_push_of_some _ e) ?_ fun s' t' hm=>?_⟩
 ·intro i v hv
  cases i with
  | zero=>exact hv.elim
  | succ i=>exact hval i v hv
 ·intro j hj
  rw[preSum_getD]
  exact hfit j (by simpa using hj)
 ·rw[e1];exact Heap.get?_push_size _ rfl
 ·rw[e2]
  exact hQ s' t' (hm.drop_new (by first | exact Nat.le_refl _ | exact Nat.le_succ _ | omega))
end
theorem mz (n:Nat):passing (fun _=>true) n 0=List.range n:=by
 unfold passing
 rw[List.drop_zero,List.filter_eq_self.mpr fun _ _=>rfl]
section
variable {prog:Program} {w:World}
noncomputable def fR (I a:Addr) (vs:List Value) (l:List (List Nat×List Nat)) (N:Nat) (j:Nat) (h:Heap):Prop:=
 h.IsListIter I a j∧SeqAt h a vs.toArray∧∀k,k<l.length→∃T ta tb,vs[k]?=some (.ref T)∧T<N∧T≠I∧h.IsTuple T #[.str (tx (l.getD k ([],[])).1) ta, .str (tx (l.getD k ([],[])).2) tb]
theorem fR.at {I a:Addr} {vs:List Value} {l:List (List Nat×List Nat)} {N j:Nat} {h h':Heap} (x:fR I a vs l N j h) (hI:I<N) (ha:a<N) (k:∀b∈List.range N,∀o,h.get? b=some o→h'.get? b=some o):fR I a vs l N j h':=
 ⟨x.1.at fun o e=>k _ (List.mem_range.mpr hI) o e,x.2.1.at fun o e=>k _ (List.mem_range.mpr ha) o e,fun i hi=>let ⟨T,ta,tb,e1,e2,e3,e4⟩:=x.2.2 i hi;⟨T,ta,tb,e1,e2,e3,e4.at fun o e=>k _ (List.mem_range.mpr e2) o e⟩⟩
theorem walkPairs {A:Around} (hh:A.handled=none) (I a:Addr) (vs:List Value) (l:List (List Nat×List Nat)) (N:Nat) (hI:I<N) (ha:a<N) (hne:a≠I) (hlen:vs.length=l.length):
  WalksU prog w A I (List.range N) [I] l.length (fun j v=>j<l.length∧∃ta tb,v= #[.str (tx (l.getD j ([],[])).1) ta, .str (tx (l.getD j ([],[])).2) tb]) (fR I a vs l N) (fun j T h=>T≠I∧fR I a vs l N (j+1) h) where
 sub:=fun b hb=>by simp at hb;subst hb;exact List.mem_range.mpr hI
 frame:=fun _ _ _ st hk=>st.at hI ha hk
 item:=fun i s Q E hi st hQ=>by
  obtain⟨T,ta,tb,e1,e2,e3,e4⟩:=st.2.2 i hi
  refine eb st.1 st.2.1 (x:= .ref T) (by simpa using e1) fun h' hit' hs'=>?_
  refine hQ T _ h' s.toks ⟨hi,ta,tb,rfl⟩ (e4.extBut hs'.extBut e3) ⟨e3,hit',st.2.1.at fun o e=>hs'.extBut _ o hne e,fun k hk=>?_⟩ fun b o hb e=>hs'.extBut b o (fun h=>hb (by simp[h])) e
  obtain⟨T',ta',tb',f1,f2,f3,f4⟩:=st.2.2 k hk
  exact⟨T',ta',tb',f1,f2,f3,f4.extBut hs'.extBut f3⟩
 go:=fun _ _ _ _ _ s Q _ hm hQ=>wpAny_letOwnedTupleGo_listiter hm.2.1 (hQ s.heap hm.2 fun _ _ _ e=>e)
 apart:=fun j T _ hm hmem=>by
  simp at hmem;exact hm.1 hmem
 done:=fun s Q E st hQ=>gH hh st.1 st.2.1 (by simp[hlen]) fun h' he'=>hQ h' s.toks fun b o hb e=>he' b o (fun h=>hb (by simp[h])) e
 self:=fun _ _ _ _ st hQ=>wpAny_pyIter_listiter st.1 hQ
end
section
variable {X:Cx} {n:Nat} {sc:Scope} {ρ:az} {ω:aA}
theorem Step.gen {s s₄ s'':Shared} {G G':ae} {I:Addr} {oi:Obj} (t:Step X s G s₄ G') (hI:s.heap.get? I=none) (hIo:s₄.heap.get? I=some oi) (hc:oi.cls= .type "list_iterator") (hsp:¬aw X I) (hG:G' I=none)
  (hk:∀b o,b≠I→s₄.heap.get? b=some o→s''.heap.get? b=some o) (os:s''.os=s₄.os) (hb:AllBare s''.gens):Step X s G s'' G':=by
 refine⟨fun b o e=>?_,t.gnd.extBut hk hsp hIo (fun _ h=>absurd (h.symm.trans hc) (by decide)),t.sub,fun b o e=>?_,t.low,os.trans t.os,hb,t.gens.2⟩
 ·rcases t.keep b o e with y | ⟨t',ht',z,vs,more,r,y⟩
  ·exact .inl (hk b o (fun z=>by rw[z,hI] at e;cases e) y)
  ·exact .inr ⟨t',ht',z,vs,more,r,hk _ _ (fun z'=>by rw[z',hIo] at y;cases y;cases hc) y⟩
 ·exact hk b o (fun z=>by rw[z,hG] at e;cases e) (t.within b o e)
theorem sT {A:Around} {env:Env} {s:Shared} {G:ae} {c P:Addr} {q:Str} {pos:Pos} {gsc:Scope} {Q E:Value→Shared→Prop} (ev:bU X env sc ρ s G) (hcode:X.codeOf sc=some (.ref c,q)) (htab:(c,P,q++"<genexpr>")∈X.tabs)
  (huniq:∀t∈X.tabs,t.2.1=P→t=(c,P,q++"<genexpr>")) (hK:X.K.lookup P=none) (k:∀cv s',Step X s G s' G→Q cv s'):
  wpAny (model X.prog X.w) A (genexprCode env pos (env.qual++"<genexpr>") gsc) Q E s:=by
 obtain⟨hc,hq⟩:=ev.cod _ _ hcode
 have g:=ev.gnd
 obtain⟨ne,ps,IC,TA,DD⟩:=g.tabs _ htab
 dsimp only at ne IC TA DD
 have htr:TriplesOk ps.toList:=by
  obtain⟨_,_,_,_,_,_,_,_,_,op,_,_,_,_,_,_,_,hop,hpd,htr,_⟩:=id IC
  have:=TA.2
  rw[hop] at this
  cases this
  cases hpd
  exact htr
 have hPo:=TA.2
 rw[hq]
 cases ef:codeAmong pos ps.toList with
 | none=>
  refine wpAny_genexprCodeX hc IC TA ef fun c' h' tk' hx hge hlt hIC hrec hTA hnew=>?_
  obtain⟨P',_,_,⟨⟨o',vs',ho',hcc',_⟩,_⟩⟩:=hnew
  have g2:b5 X h':=g.table hx htab huniq hK TA hIC hTA htr DD hrec ⟨o',ho',hcc'⟩
  have grows:∀b o,s.heap.get? b=some o→h'.get? b=some o∨rR X h' b o:=fun b o e=>by
   by_cases z:b=P
   ·subst z
    rw[hPo] at e;cases e
    exact .inr ⟨_,htab,rfl,ps,_,rfl,hTA.2⟩
   ·exact .inl (hx b o z e)
  refine k _ _ ⟨grows,g2,Sub.refl _,fun b o e=>?_,fun _ _ _ e _=>e,rfl,ev.gens⟩
  exact hx b o (fun z=>by have:=ev.gens.2 _ htab;rw[z] at e;rw[this] at e;cases e) (ev.within b o e)
 | some cv=>exact wpAny_genexprCode_hit hc IC ef (k _ _ (Step.refl ev.gnd ev.within ev.gens))
theorem oA {elt:PySem.Expr} {xa xb xs:Str} {pa pb pt pf pos:Pos} {kt:Nat} {gsc:Scope} {c P:Addr} {q:Str} {cls:Addr} {names:List Str} {vals:List PV} {l:List (List Nat×List Nat)} {F:Nat→Value→Prop}
  (ho:ρ.lookup xs=some (some (.ins cls names vals (l.map fun p=> .tup [.txt p.1, .txt p.2]) true))) (S:SubL X cls) (hcode:X.codeOf sc=some (.ref c,q)) (htab:(c,P,q++"<genexpr>")∈X.tabs)
  (huniq:∀t∈X.tabs,t.2.1=P→t=(c,P,q++"<genexpr>")) (hK:X.K.lookup P=none)
  (hco:gsc.isCoroutine=false) (hfree:∀y∈gsc.names,y.2≠ .free) (hcell:∀y∈gsc.names,y.2≠ .cell) (h0:gsc.names.lookup (".0":Str)=some NameKind.local)
  (hxa:gsc.names.lookup xa=some .local) (hxb:gsc.names.lookup xb=some .local) (hab:xa≠xb) (hkind:gsc.kind= .function)
  (helt:∀(A':Around) (E':Value→Shared→Prop) (i:Nat) (ta tb:Tok) (s₂:Shared) (m₂:Str→Option Value) (env':Env),A'.handled=none→i<l.length→env'.scope=gsc→env'.globals=mainGlobals→env'.builtins=builtinsNs→b5 X s₂.heap→
   s₂.heap.Ns env'.locals m₂→m₂ xa=some (.str (tx (l.getD i ([],[])).1) ta)→m₂ xb=some (.str (tx (l.getD i ([],[])).2) tb)→wpAny (model X.prog X.w) A' (eval elt env') (fun y s₃=>F i y∧Keeps s₂ s₃) E' s₂)
  {A:Around} {env:Env} {s:Shared} {G:ae} {Q E:Value→Shared→Prop} (rm:aV A (n+1)) (ev:bU X env sc ρ s G)
  (k:∀a s' G' fp wr Gr St,Step X s G s' G'→WalksS X.prog X.w A.in4 a fp wr Gr l.length (fun j y=>j<l.length∧F j y) St→St 0 s'→(∀b∈fp,b<s'.heap.objs.size)→a∈fp→(∀i s,St i s→s.TypeIs (.ref a) "generator")→
   (∀s'',Moved wr Gr s' s''→Step X s G s'' G')→Q (.ref a) s')
  (hdb:(xs==("__debug__":Str))=false:=by decide):
  wpAny (model X.prog X.w) A (eval (.GeneratorExp elt [⟨.Tuple [.Name xa pa, .Name xb pb] kt pt, .Name xs pf,[],0⟩] gsc pos) env) Q E s:=by
 obtain⟨cl,hcl,_⟩:=ey (scope:=gsc) (env:=env) fun y hy hf=>absurd hf (hfree y hy)
 refine wpAny_GeneratorExp_walksQT rm.2.2 hco hcl hcell h0 hxa hxb hab hkind (by have:=rm.1;omega) ?_ (fun _=>rfl)
 refine aa.var (n:=n+1) ho hdb A env s G _ E rm ev fun v s₁ G₁ t₁ d=>?_
 obtain⟨a,o,dd,od,m,us,vs,rfl,I,ii,hn,mm,r1,r2,g⟩:=Rd.ins t₁.within d
 have ev1:=ev.step t₁
 refine jW ev1.gnd.kin I S.mro S.iter ?_
 have hne:a≠s₁.heap.objs.size:=fun q=>by have:=t₁.within _ _ g;rw[q,aq] at this;cases this
 obtain⟨o',kk,ho',hd'⟩:=bM.bo I.at_ ii
 have:=I.at_
 rw[ho'] at this;cases this
 have b2:=ev1.base.fresh {cls:= .type "list_iterator",data:= .fields #[.ref a, .int 0 0]}
 have ev2:=ev1.step b2
 have hL:∀h,b5 X h→h.NoLimit:=fun h g=>g.nolimit
 refine⟨hL _ ev2.gnd,?_⟩
 refine sT (X:=X) (sc:=sc) (ρ:=ρ) ev2 hcode htab huniq hK fun code s₃ t₃=>?_
 have g3:=t₃.gnd
 obtain⟨bm,ob,hbm,hne0,hbo,hcls,hdict,hdata⟩:=g3.bmain
 rw[ev.globals]
 refine wpAny_builtinsFor g3.g hbm hne0 hbo hcls hdict hdata ?_
 have hI2:(s₁.heap.push {cls:= .type "list_iterator",data:= .fields #[.ref a, .int 0 0]}).get? s₁.heap.objs.size=some {cls:= .type "list_iterator",data:= .fields #[.ref a, .int 0 0]}:=Heap.get?_push_size _ rfl
 have hI3:s₃.heap.get? s₁.heap.objs.size=some {cls:= .type "list_iterator",data:= .fields #[.ref a, .int 0 0]}:=t₃.keep.get hI2 (by show ¬(Value.type "list_iterator" =Value.none);nofun)
 have hIn:s₁.heap.get? s₁.heap.objs.size=none:=aq _
 have hIG:G₁ s₁.heap.objs.size=none:=ao t₁.within hIn
 have hsp:¬aw X s₁.heap.objs.size:=fun z=>by obtain⟨o,e⟩:=ev1.gnd.special z;rw[hIn] at e;cases e
 have hwi:=t₃.within
 have hl:vs.length=l.length:=by rw[r2.length];simp
 have hpairs:∀k,k<l.length→∃T ta tb,vs[k]?=some (.ref T)∧T<s₃.heap.objs.size∧T≠s₁.heap.objs.size∧s₃.heap.IsTuple T #[.str (tx (l.getD k ([],[])).1) ta, .str (tx (l.getD k ([],[])).2) tb]:=by
  intro k hk
  have e:(l.map fun p=>PV.tup [.txt p.1, .txt p.2])[k]?=some (.tup [.txt (l.getD k ([],[])).1, .txt (l.getD k ([],[])).2]):=by
   rw[List.getElem?_map,yM hk]
   simp[yK,yM hk]
  obtain⟨v,hv,d⟩:=r2.get e
  obtain⟨T,o,us',m',rfl,gT,cT,dT,rT⟩:=d
  obtain⟨_,_,rfl,⟨ta,rfl⟩,⟨_,_,rfl,⟨tb,rfl⟩,rfl⟩⟩:=rT
  refine⟨T,ta,tb,hv,Heap.lt_size (hwi _ _ gT),(fun z=>by rw[z,hIG] at gT;cases gT),⟨o,hwi _ _ gT,cT,m',dT⟩⟩
 have hst:fR s₁.heap.objs.size a vs l s₃.heap.objs.size 0 s₃.heap:=⟨⟨_,hI3,rfl,rfl⟩,⟨o,kk,hwi _ _ g,hd'⟩,hpairs⟩
 have t13:=t₁.trans ((ev1.base.fresh _).trans t₃)
 refine⟨s₁.heap.objs.size,List.range s₃.heap.objs.size,[s₁.heap.objs.size],l.length,_,_,_,fun _=>true,F,rfl,fun A' hA=>walkPairs hA _ a vs l _ (Heap.lt_size hI3) (Heap.lt_size (hwi _ _ g)) hne hl,fun i vals ⟨_,ta,tb,e⟩=>⟨_,_,e⟩,hst,fun b hb=>List.mem_range.mp hb,hL _ g3,?_,?_,?_⟩
 ·intro hm
  simp at hm
  exact hsp (.inr (.inr (.inr (.inl hm.symm))))
 ·intro href hk3
  refine⟨fun A' E' i va vb s₂ m₂ _ _ _ _ _ _=>yJ ⟨rfl,s₂.heap,s₂.toks,rfl,fun _ _ e=>e⟩,fun A' E' i va vb s₂ m₂ hA hP _ hN h1 h2 hkk=>?_⟩
  obtain⟨hi,ta,tb,e⟩:=hP
  cases e
  have g2:b5 X s₂.heap:=g3.extBut (fun b o hb e=>hkk b (List.mem_range.mpr (Heap.lt_size e)) (by simpa using hb) o (hk3 _ _ e)) hsp hI3 (fun _ h=>absurd h (by show ¬(Value.type "list_iterator" =Value.type "code");decide))
  exact helt A' E' i ta tb s₂ m₂ _ hA hi rfl ev.globals rfl g2 hN h1 h2
 ·intro a' h₅ tk gs hgs ha hsz hk5 W hSt
  rw[mz] at W
  simp only[List.length_range] at W
  have os5:AllBare (s₃.gens.push gs):=t₃.gens.1.push hgs
  have keep5:∀b o,b≠s₁.heap.objs.size→s₃.heap.get? b=some o→h₅.get? b=some o:=fun b o _ e=>hk5 b o e
  have mono:∀j y,(∃i,(List.range l.length)[j]?=some i∧F i y)→j<l.length∧F j y:=by
   (intro j y zz;obtain⟨i,e,f⟩:=zz)
   obtain⟨h1,h2⟩:=List.getElem?_eq_some_iff.mp e
   simp at h1 h2
   exact⟨h1,h2▸f⟩
  have hIs:s.heap.get? s₁.heap.objs.size=none:=by
   cases z:s.heap.get? s₁.heap.objs.size with
   | none=>rfl
   | some o=>
    rcases t₁.keep _ _ z with y | ⟨_,_,_,_,_,_,y⟩<;>rw[hIn] at y<;>cases y
  have hC:s₃.heap.get? s₃.heap.objs.size=none:=aq _
  refine k a' _ G₁ _ _ _ _ (Step.gen t13 hIs hI3 rfl hsp hIG keep5 rfl os5) ⟨W.sub,W.grefl,W.gtrans,W.frame,fun i s Q E hi st hQ=>W.item i s Q E hi st fun v s' hP=>hQ v s' (mono _ _ hP),W.done,W.self⟩ hSt (fun b hb=>?_) (by simp) (fun i s hs=>hs.1.typeIs) fun s'' hm=>?_
  ·show b<h₅.objs.size
   rw[hsz]
   rcases List.mem_cons.mp hb with e | hb
   ·rw[e];exact Nat.lt_succ_self _
   rcases List.mem_cons.mp hb with e | hb
   ·rw[e];exact Nat.lt_succ_of_lt ha
   ·exact Nat.lt_succ_of_lt (Nat.lt_trans (List.mem_range.mp hb) ha)
  ·refine Step.gen t13 hIs hI3 rfl hsp hIG (fun b o hb e=>hm.heap b o (fun hw=>?_) (hk5 b o e)) hm.os (hm.gens.bare os5)
   simp at hw
   rcases hw with hw | hw
   ·subst hw;rw[hC] at e;cases e
   ·exact hb hw
end
section
variable {X:Cx} {gsc:Scope} {A:Around} {env:Env} {s:Shared} {Q E:Value→Shared→Prop}
theorem bz {x:Str} {pos:Pos} {m:Str→Option Value} {v:Value} (hk:gsc.kind= .function) (he:env.scope=gsc) (hl:gsc.names.lookup x=some .local) (hn:s.heap.Ns env.locals m) (hv:m x=some v) (k:Q v s)
  (hd:(x==("__debug__":Str))=false:=by decide):wpAny (model X.prog X.w) A (eval (.Name x pos) env) Q E s:=
 wpAny_Name (wpAny_loadName_local (by rw[he];exact hk) (by rw[bh he];exact hl) hn hv k) hd
theorem nY {x:Str} {pos:Pos} {v:Value} (hk:gsc.kind= .function) (he:env.scope=gsc) (hg:env.globals=mainGlobals) (hl:gsc.names.lookup x=some .globalImplicit) (g:b5 X s.heap) (hv:X.mg x=some v) (k:Q v s)
  (hd:(x==("__debug__":Str))=false:=by decide):wpAny (model X.prog X.w) A (eval (.Name x pos) env) Q E s:=
 Name_function_global (by rw[he];exact hk) (by rw[bh he];exact hl) (loadGlobal_global (by rw[hg];exact g.g) hv k) hd
theorem uL {x:Str} {pos:Pos} {v:Value} (hk:gsc.kind= .function) (he:env.scope=gsc) (hg:env.globals=mainGlobals) (hbn:env.builtins=builtinsNs) (hl:gsc.names.lookup x=some .globalImplicit) (g:b5 X s.heap) (hv:X.mg x=none) (hb:bootBuiltins x=some v) (k:Q v s)
  (hn:x≠"__name__":=by decide) (hd:(x==("__debug__":Str))=false:=by decide):wpAny (model X.prog X.w) A (eval (.Name x pos) env) Q E s:=
 Name_function_global (by rw[he];exact hk) (by rw[bh he];exact hl) (loadGlobal_builtin (by rw[hg];exact g.g) hv (by rw[hbn];exact g.b) ((g.builtins x hn).trans hb) k) hd
theorem mU {x nl:Str} {px pf pos:Pos} {m:Str→Option Value} {l:List Nat} {t:Tok} (hk:gsc.kind= .function) (he:env.scope=gsc) (hg:env.globals=mainGlobals) (hbn:env.builtins=builtinsNs) (hlen:gsc.names.lookup nl=some .globalImplicit) (hl:gsc.names.lookup x=some .local)
  (g:b5 X s.heap) (hmg:X.mg nl=none) (hb:bootBuiltins nl=some (.builtin "len")) (hn:s.heap.Ns env.locals m) (hv:m x=some (.str (tx l) t)) (hz:l.length<1000000) (k:Q (.int l.length (s.toks+1)) {s with toks:=s.toks+1+1})
  (hnl:nl≠"__name__":=by decide) (hd:(x==("__debug__":Str))=false:=by decide) (hd2:(nl==("__debug__":Str))=false:=by decide):wpAny (model X.prog X.w) A (eval (.Call (.Name nl pf) [.Name x px] [] pos) env) Q E s:=by
 refine wpAny_Call_Name_kw (uL hk he hg hbn hlen g hmg hb ?_ hnl hd2)
 refine callWith_builtin1 (env:=env) (rest:=[]) ?_
 refine spliced_cons (bz hk he hl hn hv (spliced_nil ?_) hd)
 exact PySem.P.len_str (by rw[a9];lia) k
theorem vo {xa xb nl:Str} {p1 p2 p3 p4 p5 p6 p7:Pos} {m:Str→Option Value} {a b:List Nat} {ta tb:Tok} (hk:gsc.kind= .function) (he:env.scope=gsc) (hg:env.globals=mainGlobals) (hbn:env.builtins=builtinsNs) (hlen:gsc.names.lookup nl=some .globalImplicit) (hla:gsc.names.lookup xa=some .local) (hlb:gsc.names.lookup xb=some .local)
  (g:b5 X s.heap) (hmg:X.mg nl=none) (hb:bootBuiltins nl=some (.builtin "len")) (hn:s.heap.Ns env.locals m) (h1:m xa=some (.str (tx a) ta)) (h2:m xb=some (.str (tx b) tb)) (hza:a.length<1000000) (hzb:b.length<1000000)
  (hnl:nl≠"__name__":=by decide) (hd:(xa==("__debug__":Str))=false:=by decide) (hd':(xb==("__debug__":Str))=false:=by decide) (hd2:(nl==("__debug__":Str))=false:=by decide):
  wpAny (model X.prog X.w) A (eval (.BinOp (.Call (.Name nl p1) [.Name xa p2] [] p3) .Add (.Call (.Name nl p4) [.Name xb p5] [] p6) p7) env) (fun y s₃=>(∃t,y= .int (a.length+b.length:Nat) t)∧Keeps s s₃) E s:=by
 refine wpAny_BinOp (mU hk he hg hbn hlen hla g hmg hb hn h1 hza ?_ hnl hd hd2)
 refine mU hk he hg hbn hlen hlb g hmg hb hn h2 hzb ?_ hnl hd' hd2
 exact PySem.P.add_int ⟨⟨_,by rw[Int.natCast_add]⟩,s.heap,_,rfl,fun _ _ e=>e⟩
theorem sZ {xa xb nl:Str} {p1 p2 p3 p4 p5 p6:Pos} {kt:Nat} {m:Str→Option Value} {a b:List Nat} {ta tb te:Tok} (hk:gsc.kind= .function) (he:env.scope=gsc) (hg:env.globals=mainGlobals) (hbn:env.builtins=builtinsNs) (hlen:gsc.names.lookup nl=some .globalImplicit) (hla:gsc.names.lookup xa=some .local) (hlb:gsc.names.lookup xb=some .local)
  (g:b5 X s.heap) (hmg:X.mg nl=some (.str (tx []) te)) (hn:s.heap.Ns env.locals m) (h1:m xa=some (.str (tx a) ta)) (h2:m xb=some (.str (tx b) tb)) (hza:a.length<1000000) (hzb:b.length<1000000)
  (hb:∀env,attributeBase (.Name nl p1) "join" env (eval (.Name nl p1) env)=eval (.Name nl p1) env:=by intro _;rfl)
  (hfew:∀env,((backTo p6 (starEach [.Tuple [.Name xa p2, .Name xb p3] kt p4] env)).all (fun x=>!x.1)&&(backToKw p6 (keywordEach [] env)).all (fun x=>x.1.isSome)
   &&decide ([PySem.Expr.Tuple [.Name xa p2, .Name xb p3] kt p4].length+([]:List Keyword).length+(if ([]:List Keyword).isEmpty then 0 else 1)<30))=true:=by intro _;rfl)
  (hl:(p5.endLine==p6.line)=true:=by rfl)
  (hd:(xa==("__debug__":Str))=false:=by decide) (hd':(xb==("__debug__":Str))=false:=by decide) (hd2:(nl==("__debug__":Str))=false:=by decide):
  wpAny (model X.prog X.w) A (eval (.Call (.Attribute (.Name nl p1) "join" p5) [.Tuple [.Name xa p2, .Name xb p3] kt p4] [] p6) env) (fun y s₃=>(∃t,y= .str (tx (a++b)) t)∧Keeps s s₃) E s:=by
 refine wpAny_Call_method_lateS (hb env) (hfew env) hl (nY hk he hg hlen g hmg ⟨"str","str.join",PySem.F.plainAttrs_str,PySem.F.slot_str_join,PySem.F.type_str_join,typeIs_str _ _ _,(fun a e=>by cases e),?_⟩ hd2)
 refine Calls.callWith_builtin rfl (Calls.evalArgs_plain (spliced_cons ?_))
 rw[if_neg Bool.false_ne_true]
 refine wpAny_Tuple (spliced_cons (bz hk he hla hn h1 (spliced_cons (bz hk he hlb hn h2 (spliced_nil ?_) hd')) hd))
 refine⟨by show 2≤sizeLine;unfold sizeLine;decide,spliced_nil ?_⟩
 refine join_tuple (ys:=[tx a,tx b]) ⟨_,Heap.get?_push_size _ rfl,rfl,0,rfl⟩ ?_ ?_ fun t' k=>?_
 ·exact .cons _ _ (.cons _ _ .nil)
 ·simp only[List.map_cons,List.map_nil,List.length_cons,List.length_nil,a9,List.sum_cons,List.sum_nil]
  lia
 ·have:Txt.join (tx []) [tx a,tx b]=tx (a++b):=(m5 [a,b]).trans (by simp)
  rw[this]
  exact⟨⟨_,rfl⟩,_,_,rfl,a8 _⟩
end
section
variable {X:Cx} {n:Nat} {sc:Scope} {ρ:az} {ω:aA}
theorem uK {A:Around} {env:Env} {s:Shared} {G:ae} {Q E:Value→Shared→Prop} {x:Str} {pos:Pos} {p:PV} (e:bU X env sc ρ s G) (h:ρ.lookup x=some (some p)) (k:∀v,Rd G p v→Q v s) (hd:(x==("__debug__":Str))=false:=by decide):
  wpAny (model X.prog X.w) A (eval (.Name x pos) env) Q E s:=by
 obtain⟨v,a,b⟩:=e.vars x p h
 have hk:env.scope.kind= .function:=by rw[e.scope];exact e.kind
 refine wpAny_Name ?_ hd
 have fin:=k v b
 unfold a0 at a
 split at a
 ·rename_i hl
  obtain⟨m,hn,hv⟩:=a
  exact wpAny_loadName_local hk hl hn hv fin
 ·rename_i hl
  obtain⟨c,hc,hv⟩:=a
  exact wpAny_loadName_cell hk hl hc hv fin
 ·rename_i hl
  obtain⟨c,hc,hv,hz⟩:=a
  exact wpAny_loadName_free hk hl hc hv fin hz
 ·exact a.elim
theorem rY {A:Around} {env:Env} {s:Shared} {G:ae} {Q E:Value→Shared→Prop} {x name:Str} {px pos:Pos} {c:Addr} {names:List Str} {vals items:List PV} {sq:Bool} {p:PV} (i:Nat) (e:bU X env sc ρ s G) (h:ρ.lookup x=some (some (.ins c names vals items sq))) (kc:jj X c)
  (hf:findIn X.K (.ref c) name=some none) (h1:names[i]?=some name) (h2:vals[i]?=some p) (k:∀v,Rd G p v→Q v {s with toks:=s.toks+1}) (hp:∀u,p≠ .opq u:=by intro _;nofun) (hd:(x==("__debug__":Str))=false:=by decide)
  (he:∀env,eval (.Attribute (.Name x px) name pos) env=(do
   let o' ←eval (.Name x px) env
   standAt pos.atName
   let r ←holding [o'] (getAttr o' name true)
   letTemporaryGo (.Name x px) o' r
   pure r):=by intro _;with_unfolding_all rfl):wpAny (model X.prog X.w) A (eval (.Attribute (.Name x px) name pos) env) Q E s:=by
 refine Attribute_any_ (uK e h (fun v d1=>?_) hd) (he env)
 obtain⟨a,oo,dd,od,m,us,vs,rfl,I,_,hn,mm,r1,_,_⟩:=Rd.ins e.within d1
 obtain⟨u,hu,du⟩:=qn r1 h1 h2
 exact kc.get e.gnd.kin I hf (by rw[hn.look,mm.1 _ _ hu]) (du.handed hp) (k u du)
theorem aa.uC {sn nl xa xb xs name:Str} {ps pg pa pb pt pf px pat p1 p2 p3 p4 p5 p6 p7 pos:Pos} {kt:Nat} {gsc:Scope} {c P:Addr} {q:Str} {cls:Addr} {names:List Str} {vals:List PV} {l:List (List Nat×List Nat)} {k:Int} (i:Nat)
  (hsum:aa X (n+1) sc ρ (.Name sn ps) (.opq (.builtin "sum")))
  (ho:ρ.lookup xs=some (some (.ins cls names vals (l.map fun p=> .tup [.txt p.1, .txt p.2]) true))) (S:SubL X cls) (hcode:X.codeOf sc=some (.ref c,q)) (htab:(c,P,q++"<genexpr>")∈X.tabs)
  (huniq:∀t∈X.tabs,t.2.1=P→t=(c,P,q++"<genexpr>")) (hK:X.K.lookup P=none)
  (hco:gsc.isCoroutine=false) (hfree:∀y∈gsc.names,y.2≠ .free) (hcell:∀y∈gsc.names,y.2≠ .cell) (h0:gsc.names.lookup (".0":Str)=some NameKind.local)
  (hxa:gsc.names.lookup xa=some .local) (hxb:gsc.names.lookup xb=some .local) (hab:xa≠xb) (hkind:gsc.kind= .function)
  (hlen:gsc.names.lookup nl=some .globalImplicit) (hmg:nsIn X.K mainGlobals nl=some none) (hb:bootBuiltins nl=some (.builtin "len"))
  (hsz:∀p∈l,p.1.length<1000000∧p.2.length<1000000) (hfit:PyProof.Rows.SumFits (k::l.map fun p=>((p.1.length+p.2.length:Nat):Int)))
  (kc:jj X cls) (hf:findIn X.K (.ref cls) name=some none) (h1:names[i]?=some name) (h2:vals[i]?=some (.int k))
  (hnl:nl≠"__name__":=by decide) (hda:(xa==("__debug__":Str))=false:=by decide) (hdb:(xb==("__debug__":Str))=false:=by decide) (hdn:(nl==("__debug__":Str))=false:=by decide) (hds:(xs==("__debug__":Str))=false:=by decide)
  (he:∀env,eval (.Attribute (.Name xs px) name pat) env=(do
   let o' ←eval (.Name xs px) env
   standAt pat.atName
   let r ←holding [o'] (getAttr o' name true)
   letTemporaryGo (.Name xs px) o' r
   pure r):=by intro _;with_unfolding_all rfl):
  aa X (n+1) sc ρ (.Call (.Name sn ps) [.GeneratorExp (.BinOp (.Call (.Name nl p1) [.Name xa p2] [] p3) .Add (.Call (.Name nl p4) [.Name xb p5] [] p6) p7) [⟨.Tuple [.Name xa pa, .Name xb pb] kt pt, .Name xs pf,[],0⟩] gsc pg, .Attribute (.Name xs px) name pat] [] pos)
   (.int (k+(l.map fun p=>((p.1.length+p.2.length:Nat):Int)).sum)):=by
 intro A env s G Q E rm ev q
 refine wpAny_Call_Name_kw (hsum A env s G _ E rm ev fun v s1 G1 t1 d1=>?_)
 cases d1
 have ev1:=ev.step t1
 refine Calls.callWith_builtin rfl (Calls.evalArgs_plain (spliced_cons ?_))
 rw[if_neg Bool.false_ne_true]
 refine oA (F:=fun i y=>∃t,y= .int ((l.getD i ([],[])).1.length+(l.getD i ([],[])).2.length:Nat) t) ho S hcode htab huniq hK hco hfree hcell h0 hxa hxb hab hkind (fun A' E' j ta tb s₂ m₂ env' hA hj e1 e2 e3 g hN m1 m2=>?_) rm ev1 (fun a s2 G2 fp wr Gr St t2 W hst hfp ha hT hmv=>?_) hds
 ·have hm:(l.getD j ([],[]))∈l:=by rw[yK,yM hj];simp
  exact vo hkind e1 e2 e3 hlen hxa hxb g (g.xo hmg) hb hN m1 m2 (hsz _ hm).1 (hsz _ hm).2 hnl hda hdb hdn
 refine spliced_cons ?_
 rw[if_neg Bool.false_ne_true]
 have ev2:=ev1.step t2
 refine rY i ev2 ho kc hf h1 h2 (fun u du=>?_) (hd:=hds) (he:=he)
 obtain⟨tk,rfl⟩:=du
 refine spliced_nil ?_
 have W1:=WalksS.in4_1 W
 have hst':St 0 {s2 with toks:=s2.toks+1}:=W.frame 0 s2 s2.heap (s2.toks+1) hst (Nat.le_succ _) fun _ _ _ e=>e
 have hn:l.length=(l.map fun p=>((p.1.length+p.2.length:Nat):Int)).length:=by simp
 rw[hn] at W1
 refine rx (l:=l.map fun p=>((p.1.length+p.2.length:Nat):Int)) W1 hst' hfp (fun j y hy=>?_) hfit fun s' t' hm=>?_
 ·obtain⟨hj,t,rfl⟩:=hy
  have hj':j<l.length:=by simpa using hj
  refine⟨t,?_⟩
  simp[yK,yM hj']
 ·exact q _ s' G2 (t1.trans (hmv s' ⟨hm.heap,hm.gens,hm.drawn,hm.os,yN (Nat.le_succ _) hm.toks⟩)) ⟨t',rfl⟩
theorem aa.joinGen {el xa xb xs nj nj1:Str} {pe pat pg pa pb pt pf p1 p2 p3 p4 p5 p6 pos:Pos} {kt kt2:Nat} {gsc:Scope} {c P:Addr} {q:Str} {cls:Addr} {names:List Str} {vals:List PV} {l:List (List Nat×List Nat)} {te:Tok}
  (hel:aa X (n+1) sc ρ (.Name el pe) (.txt []))
  (ho:ρ.lookup xs=some (some (.ins cls names vals (l.map fun p=> .tup [.txt p.1, .txt p.2]) true))) (S:SubL X cls) (hcode:X.codeOf sc=some (.ref c,q)) (htab:(c,P,q++"<genexpr>")∈X.tabs)
  (huniq:∀t∈X.tabs,t.2.1=P→t=(c,P,q++"<genexpr>")) (hK:X.K.lookup P=none)
  (hco:gsc.isCoroutine=false) (hfree:∀y∈gsc.names,y.2≠ .free) (hcell:∀y∈gsc.names,y.2≠ .cell) (h0:gsc.names.lookup (".0":Str)=some NameKind.local)
  (hxa:gsc.names.lookup xa=some .local) (hxb:gsc.names.lookup xb=some .local) (hab:xa≠xb) (hkind:gsc.kind= .function)
  (hlen:gsc.names.lookup el=some .globalImplicit) (hmg:nsIn X.K mainGlobals el=some (some (.str (tx []) te)))
  (hsz:∀p∈l,p.1.length<1000000∧p.2.length<1000000) (hz:(l.map fun p=>p.1.length+p.2.length).sum≤100000) (hzl:l.length≤100000)
  (hda:(xa==("__debug__":Str))=false:=by decide) (hdb:(xb==("__debug__":Str))=false:=by decide) (hdn:(el==("__debug__":Str))=false:=by decide) (hds:(xs==("__debug__":Str))=false:=by decide)
  (hb:∀env,attributeBase (.Name el pe) nj env (eval (.Name el pe) env)=eval (.Name el pe) env:=by intro _;rfl)
  (hb1:∀env,attributeBase (.Name el p1) nj1 env (eval (.Name el p1) env)=eval (.Name el p1) env:=by intro _;rfl)
  (hfew:∀env,((backTo pos (starEach [.GeneratorExp (.Call (.Attribute (.Name el p1) nj1 p5) [.Tuple [.Name xa p2, .Name xb p3] kt p4] [] p6) [⟨.Tuple [.Name xa pa, .Name xb pb] kt2 pt, .Name xs pf,[],0⟩] gsc pg] env)).all (fun x=>!x.1)&&(backToKw pos (keywordEach [] env)).all (fun x=>x.1.isSome)
   &&decide ([PySem.Expr.GeneratorExp (.Call (.Attribute (.Name el p1) nj1 p5) [.Tuple [.Name xa p2, .Name xb p3] kt p4] [] p6) [⟨.Tuple [.Name xa pa, .Name xb pb] kt2 pt, .Name xs pf,[],0⟩] gsc pg].length+([]:List Keyword).length+(if ([]:List Keyword).isEmpty then 0 else 1)<30))=true:=by intro _;rfl)
  (hfew1:∀env,((backTo p6 (starEach [.Tuple [.Name xa p2, .Name xb p3] kt p4] env)).all (fun x=>!x.1)&&(backToKw p6 (keywordEach [] env)).all (fun x=>x.1.isSome)
   &&decide ([PySem.Expr.Tuple [.Name xa p2, .Name xb p3] kt p4].length+([]:List Keyword).length+(if ([]:List Keyword).isEmpty then 0 else 1)<30))=true:=by intro _;rfl)
  (hj:nj="join":=by rfl) (hj1:nj1="join":=by rfl) (hl:(pat.endLine==pos.line)=true:=by rfl) (hl1:(p5.endLine==p6.line)=true:=by rfl):
  aa X (n+1) sc ρ (.Call (.Attribute (.Name el pe) nj pat) [.GeneratorExp (.Call (.Attribute (.Name el p1) nj1 p5) [.Tuple [.Name xa p2, .Name xb p3] kt p4] [] p6) [⟨.Tuple [.Name xa pa, .Name xb pb] kt2 pt, .Name xs pf,[],0⟩] gsc pg] [] pos)
   (.txt (l.map fun p=>p.1++p.2).flatten):=by
 subst hj hj1
 intro A env s G Q E rm ev q
 refine wpAny_Call_method_lateS (hb env) (hfew env) hl (hel A env s G _ E rm ev fun v s1 G1 t1 d1=>?_)
 obtain⟨tv,rfl⟩:=d1
 have ev1:=ev.step t1
 refine⟨"str","str.join",PySem.F.plainAttrs_str,PySem.F.slot_str_join,PySem.F.type_str_join,typeIs_str _ _ _,(fun a e=>by cases e),?_⟩
 refine Calls.callWith_builtin rfl (Calls.evalArgs_plain (spliced_cons ?_))
 rw[if_neg Bool.false_ne_true]
 refine oA (F:=fun i y=>∃t,y= .str (tx ((l.getD i ([],[])).1++(l.getD i ([],[])).2)) t) ho S hcode htab huniq hK hco hfree hcell h0 hxa hxb hab hkind (fun A' E' j ta tb s₂ m₂ env' hA hj e1 e2 e3 g hN m1 m2=>?_) rm ev1 (fun a s2 G2 fp wr Gr St t2 W hst hfp ha hT hmv=>?_) hds
 ·have hm:(l.getD j ([],[]))∈l:=by rw[yK,yM hj];simp
  exact sZ hkind e1 e2 e3 hlen hxa hxb g (g.xB hmg) hN m1 m2 (hsz _ hm).1 (hsz _ hm).2 hb1 hfew1 hl1 hda hdb hdn
 refine spliced_nil ?_
 have hjt:∀s' (lt:List (Str×Tok)),Moved wr Gr s2 s'→ItemsOf (fun j y=>j<l.length∧∃t,y= .str (tx ((l.getD j ([],[])).1++(l.getD j ([],[])).2)) t) (strValues lt).toArray l.length→lt.map (·.1)=(l.map fun p=>p.1++p.2).map tx:=by
  intro s' lt hm hacc
  have hsz:lt.length=l.length:=by simpa [strValues] using hacc.1
  apply List.ext_getElem?
  intro j
  by_cases hj:j<l.length
  ·have hj':j<lt.length:=hsz▸hj
   obtain⟨_,u,hv⟩:=hacc.2 j (.str lt[j].1 lt[j].2) (by simp[strValues,yM hj'])
   injection hv with h1 _
   simp[yM hj',yM hj,h1,yK]
  ·rw[List.getElem?_eq_none (by simpa [hsz] using Nat.le_of_not_lt hj),List.getElem?_eq_none (by simpa using Nat.le_of_not_lt hj)]
 refine SC.joinGen (WalksS.in4_2 W) hT hst hfp ha (fun j v hv=>let ⟨_,u,e⟩:=hv;⟨_,u,e⟩) (fun s' lt hm hacc=>?_) (yN hzl (by unfold sizeLine;decide))
 have e:=hjt s' lt hm hacc
 rw[e]
 refine⟨joinOk_of ?_,fun t' k=>?_⟩
 ·rw[List.map_map,List.map_map,List.length_map,a9]
  have:(l.map (((fun x=>PySem.Str.length x) ∘ tx) ∘ fun p=>p.1++p.2))=l.map fun p=>p.1.length+p.2.length:=List.map_congr_left fun p _=>by show(p.1++p.2).length=_;simp
  rw[this];simp only[List.length_nil,Nat.mul_zero,Nat.add_zero];omega
 ·have:Txt.join (tx []) ((l.map fun p=>p.1++p.2).map tx)=tx (l.map fun p=>p.1++p.2).flatten:=m5 _
  rw[this]
  have st:=hmv s' hm
  exact q _ _ G2 (t1.trans (st.trans (st.base.toks k))) ⟨_,rfl⟩
end
section
variable {X:Cx} {n:Nat} {sc:Scope} {ρ:az} {ω:aA}
theorem aa.not {x:PySem.Expr} {pos:Pos} {p:PV} {b:Bool} (hx:aa X n sc ρ x p) (hp:aJ X n p b):aa X n sc ρ (.UnaryOp .Not x pos) (.bool (!b)):=by
 intro A env s G Q E rm e k
 rw[arm_eval_UnaryOp]
 refine yI (hx A env s G _ E rm e fun v s1 G1 t1 d1=>yI (wpAny_standAt (wpAny_holding ?_)))
 unfold unaryOp
 refine wpAny_holding ?_
 exact yI (hp G1 s1 v A _ E rm t1.base d1 fun s2 G2 t2=>yJ (k _ s2 G2 (t1.trans t2) rfl))
end
section
variable {X:Cx} {n:Nat} {sc:Scope} {ρ:az} {ω:aA}
theorem pD {A:Around} {s:Shared} {a c f:Addr} {o od:Obj} {name:Str} {Q E:Value→Shared→Prop} (X0:X.K.In s.heap) (k:dD X.K c) (I:InstAt s.heap a o c (some od)) (hga:findIn X.K (.ref c) "__getattribute__" =some (some (.builtin "list.__getattribute__"))) (hm:mroIn X.K c (.type "list")=some true)
  (ha:findIn X.K (.ref c) name=some (some (.ref f))) (hf:typeIn X.K (.ref f)=some (.type "function")) (hgf:specialIn X.K (.ref f) "__get__" =some (some (.builtin "function.__get__"))) (ht:takesIn X.K (.ref f)=some false) (hcn:copiedNames.contains name=false) (hl:lookIn name od=some none)
  (q:Q (.ref s.heap.objs.size) {s with heap:=s.heap.push (methodObj (.ref f) (.ref a)),toks:=s.toks+1}):wpAny (model X.prog X.w) A (getAttr (.ref a) name true) Q E s:=by
 obtain⟨hh',g,d,t,os⟩:=s
 have hfo:findObj X.K c (some od) name=some (.bind (.builtin "function.__get__") (.ref f)):=findObj_fn (by obtain⟨cd,h1,h2⟩:=k.cd;unfold hasDictIn;rw[h1];simpa using h2) ha hgf ht hcn hl
 have L0:=I.type (M:=model X.prog X.w)
 have L1:=looks_findIn (M:=model X.prog X.w) X0 hga
 have L2:=looks_findIn (M:=model X.prog X.w) X0 k.gh
 have L3:Looks (model X.prog X.w) hh' (Builtin.ObjectAttr.find (.ref a) (.ref c) name) _:=looks_find (M:=model X.prog X.w) X0 I hfo
 have L4:Looks (model X.prog X.w) hh' (isInstance (.ref a) (.type "list")) true:=L0.andThen (looks_mroIn X0 hm)
 unfold getAttr getAttrBy
 refine yI (wpAny_mkText (wpAny_holding (yI (L0.at (yI (L1.at ?_))))))
 dsimp only
 rw[show(onTheHeap (.ref c)&&Value.builtin "list.__getattribute__"==Value.builtin "object.__getattribute__")=false from by rw[show(Value.builtin "list.__getattribute__"==Value.builtin "object.__getattribute__")=false from by decide +kernel,Bool.and_false],if_neg (by decide)]
 unfold getAttrByItsOwn
 refine yI (show wpAny _ _ (hookBefore (.ref c)) _ _ _ from ?_)
 unfold hookBefore
 rw[if_pos (show onTheHeap (.ref c)=true from rfl)]
 refine L2.at ?_
 refine yI (wpAny_attempt (wpAny_holding ?_))
 unfold callGetattribute
 rw[show(true&&onTheHeap (Value.builtin "list.__getattribute__"))=false from Bool.and_false _,if_neg (by decide)]
 unfold boundAndCalled
 rw[ma]
 refine yI (yJ ?_)
 show wpAny _ _ (call (.builtin "list.__getattribute__") [.ref a, .str name t]) _ _ _
 refine wpAny_call ?_
 refine codeAny_call_builtin kF kG ?_
 refine @check_slot (model X.prog X.w) _ _ _ "list.__getattribute__" "list" "__getattribute__" (.ref a) [.str name t] [] _ l9 kE L4 (md _ _) ?_
 refine yI (yJ (yI (yJ (yI (L0.at (yI (L3.at ?_)))))))
 show wpAny _ _ (ObjectAttr.bindTo (Value.builtin "function.__get__") (Value.ref f) (Value.ref a) (Value.ref c)) _ _ _
 unfold ObjectAttr.bindTo
 refine yI (wpAny_holding (wpAny_call (fn_get X0 hf ?_)))
 refine yJ ?_
 show wpAny _ _ (handedOut _) _ _ _
 exact handed_on rfl q
theorem bE.ph {x:Str} {oe e:PySem.Expr} {name:Str} {apos pos ps':Pos} {o o1' o':Own} {a d:Addr} {k:Int} {l:List PV} {f:Addr} {ps:List PV} {p:PV} {oc:Value} {fod:Option Addr} {osl:Array (Option Value)} {fd:FuncData} (hx:ω.lookup x=some (some o)) (hp:bu X n sc x oe o (.acc a d k l)) (pt:aT o (.acc a d k l) o1' o')
  (ha:aa X n sc (cm ω ρ) e (.tup ps)) (hfl:PV.bO ps=true) (kc:dD X.K bq) (hga:findIn X.K (.ref bq) "__getattribute__" =some (some (.builtin "list.__getattribute__"))) (hm:mroIn X.K bq (.type "list")=some true)
  (hf:findIn X.K (.ref bq) name=some (some (.ref f))) (hk:X.K.lookup f=some ⟨oc,fod, .func fd,osl⟩) (ht:typeIn X.K (.ref f)=some (.type "function")) (hgf:specialIn X.K (.ref f) "__get__" =some (some (.builtin "function.__get__"))) (htk:takesIn X.K (.ref f)=some false) (hcn:copiedNames.contains name=false)
  (h:gN X n f (.acc a d k l) ps p o1') (hz:ps.length≤1000)
  (hname:name∈eB:=by decide)
  (he:∀env,eval (.Call (.Attribute oe name apos) [.Starred e ps'] [] pos) env=(do
   let ov ←eval oe env
   standAt apos.atName
   let (f,first) ←holding [ov] (do pure (←getAttr ov name true,[]))
   callWith pos f first (backTo pos (starEach [.Starred e ps'] env)) (backToKw pos (keywordEach [] env))):=by intro _;rfl):bE X n sc ρ ω (.Call (.Attribute oe name apos) [.Starred e ps'] [] pos) p ((x,some o')::ω):=by
 intro A env s G D Q E rm wr r q
 rw[he]
 refine yI (hp A env s G D ρ ω _ E rm r hx fun tk=>?_)
 have r1:=r.toks tk
 obtain⟨ob,od,m,I,hn,hmm⟩:=(pt.at_ _ _ (r1.held.at_ x o hx)).inst (by show bq≠0;decide)
 refine yI (wpAny_standAt (yI (wpAny_holding (yI (pD r1.er.gnd.kin kc I hga hm hf ht hgf htk hcn (by rw[hn.look,hmm _ hname]) ?_)))))
 refine yJ ?_
 have r2:bC X env sc ρ ω D {s with heap:=s.heap.push (methodObj (.ref f) (.ref a)),toks:=tk+1} G:=(r1.step (r1.er.base.fresh (methodObj (.ref f) (.ref a)))).toks (tk+1)
 have hM:(s.heap.push (methodObj (.ref f) (.ref a))).get? s.heap.objs.size=some (methodObj (.ref f) (.ref a)):=Heap.get?_push_size _ rfl
 rw[show starEach [.Starred e ps'] env=[(true,eval e env)] from rfl]
 refine ks_call (P:=fun h=>h.get? s.heap.objs.size=some (methodObj (.ref f) (.ref a))∧X.K.In h) rfl (fun hh hp=>⟨.boundFrame, .inr (.inr rfl),(Looks.ld (part:=none) hp.1).andThen ((Looks.ld (part:=none) (hp.2 _ _ hk)).andThen .now)⟩) (ks_lone (ha A env _ _ _ E rm r2.plus.1 fun v s2 G2 t2 d2=>?_))
 obtain⟨G3,t3,fl,_⟩:=r2.back t2
 have r3:=r2.step t3
 have d3:=fl (.tup ps) v (show PV.bO ps=true from hfl) d2
 obtain⟨a3,vs,rfl,ht',dvs,⟨oo,hoo⟩⟩:=Rd.tuple t3.within d3
 obtain⟨ot,hot,hct,nt,hdt⟩:=id ht'
 have hT':s2.TypeIs (.ref a3) "tuple":=⟨ot,hot,hct⟩
 have hM2:=t3.keep.get hM (by show ¬(Value.type "method" =Value.none);nofun)
 unfold StarOf notIterableAtAll
 refine yI (wpAny_specialOf hT' PySem.F.slot_tuple_iter.lookup (yJ ⟨rfl,?_⟩))
 refine wpAny_collect_seq a3 (.inr rfl) hot hct hdt (fun h' hk'=>?_) (by rw[List.size_toArray,dvs.length];exact yN hz (by unfold sizeLine;decide))
 have r4:=r3.step (r3.er.base.ext (h':=h') (tk:=s2.toks) hk')
 refine⟨⟨hk' _ _ hM2,r4.er.gnd.kin⟩,?_⟩
 refine wpAny_call (ks_codeAny_call_bound (hk' _ _ hM2) ?_)
 exact h A _ G3 vs (fun r s'=>match r with | .ok (.ret v)=>Q v s' | .ok _=>False | .error e=>E e s') rm r4.er.base (pt.at_ _ _ (r4.held.at_ x o hx)) (fun b hb=>r4.eI hx b (pt.sub b hb)) dvs fun v s' G' t4 h4 _ d4=>q v s' G' (r4.kZ hx pt t4 h4) (t3.sub.trans t4.sub) d4
end
noncomputable def ft (sep:List Nat):List (List Nat)→List Nat
 | []=>[]
 | [x]=>x
 | x::y::l=>x++sep++ft sep (y::l)
theorem sN (sep:List Nat):∀l:List (List Nat),Txt.join (tx sep) (l.map tx)=tx (ft sep l):=by
 intro l
 unfold Txt.join
 rw[StrLaws.glued_eq_join]
 induction l with
 | nil=>rfl
 | cons x l ih=>
  cases l with
  | nil=>simp[PySem.Str.join,ft]
  | cons y l=>
   show tx x++tx sep++PySem.Str.join (tx sep) ((y::l).map tx)=_
   rw[ih,dn,dn];rfl
section
variable {X:Cx} {n:Nat} {sc:Scope} {ρ:az} {ω:aA}
theorem qY {G:ae} {s:Shared} {v:Value} {vs:List Value} {sep:List Nat} {l:List (List Nat)} (bs:Base X s G) (d0:Rd G (.txt sep) v) (d:aE G [.lst (aI l)] vs) (hz:(l.map List.length).sum≤100000) (hs:sep.length≤10) (hl:l.length≤1000):lH X n G s (call (.builtin "str.join") (v::vs)) (.txt (ft sep l)):=by
 obtain⟨t,rfl⟩:=d0
 obtain⟨_,_,rfl,⟨a,o,us,m,rfl,g,c,dd,r⟩,rfl⟩:=d
 intro A Q E rm k
 refine join_list (ys:=l.map tx) ⟨o,bs.within _ _ g,c,m,dd⟩ (by simpa using k8 r) ?_ fun t' tk=>?_
 ·rw[List.map_map,show(fun x=>PySem.Str.length x) ∘ tx=List.length from rfl,a9,List.length_map]
  have:l.length*sep.length≤1000*10:=Nat.mul_le_mul hl hs
  lia
 ·rw[sN]
  exact k _ _ G (bs.toks _) ⟨_,rfl⟩
theorem aa.joinSep {o e1:PySem.Expr} {name:Str} {apos pos:Pos} {sep:List Nat} {l:List (List Nat)} (ho:aa X n sc ρ o (.txt sep)) (he:aa X n sc ρ e1 (.lst (aI l))) (hz:(l.map List.length).sum≤100000) (hs':sep.length≤10) (hl':l.length≤1000) (hname:name="join":=by rfl)
  (hb:∀env,attributeBase o name env (eval o env)=eval o env:=by intro _;rfl) (hs:∀env,starEach [e1] env=(false,eval e1 env)::starEach [] env:=by intro _;rfl)
  (hfew:∀env,((backTo pos (starEach [e1] env)).all (fun x=>!x.1)&&(backToKw pos (keywordEach [] env)).all (fun x=>x.1.isSome)
   &&decide ([e1].length+([]:List Keyword).length+(if ([]:List Keyword).isEmpty then 0 else 1)<30))=true:=by intro _;rfl)
  (hl:(apos.endLine==pos.line)=true:=by rfl):
  aa X n sc ρ (.Call (.Attribute o name apos) [e1] [] pos) (.txt (ft sep l)):=by
 subst hname
 exact aa.qh ho (.cons he .nil hs) PySem.F.plainAttrs_str PySem.F.slot_str_join PySem.F.type_str_join (fun G s v bs d=>dN d) (fun G s v vs bs d0 d=>qY bs d0 d hz hs' hl') hb hfew hl
end
open Classical in
theorem bC.xg {X:Cx} {env:Env} {sc:Scope} {ρ:az} {ω:aA} {D:Bd} {s s':Shared} {G G':ae} (r:bC X env sc ρ ω D s G) (t:Step X s (cR s.heap ω G) s' G'):
  ∃G1,Step X s G s' G1∧(∀p v,p.flat=true→Rd G' p v→Rd G1 p v)∧∀b,G' b=none→G1 b=none:=by
 have ownLt:∀b,dW ω b→∃o,s.heap.get? b=some o∧ff o∧G b=none:=by
  (intro b zz;obtain⟨x,o,h1,hb⟩:=zz)
  obtain⟨ob,e,q⟩:=(r.held.at_ x o h1).solid b hb
  exact⟨ob,e,q,(r.held.off x o h1 b hb).2⟩
 refine⟨fun b=>if dW ω b then none else G' b,⟨t.keep,t.gnd,?_,?_,?_,t.os,t.gens.of rfl fun t ht e=>by
  show(if dW ω t.2.1 then none else G' t.2.1)=none
  split<;>first | rfl | exact e⟩,?_,?_⟩
 ·intro b o e
  have h1:¬dW ω b:=fun q=>by obtain⟨_,_,_,z⟩:=ownLt b q;rw[z] at e;cases e
  show(if dW ω b then none else G' b)=some o
  rw[if_neg h1]
  apply t.sub
  unfold Mine.Internal.cR
  rw[if_neg h1];exact e
 ·intro b o e
  have e':(if dW ω b then none else G' b)=some o:=e
  split at e'
  ·cases e'
  ·exact t.within b o e'
 ·intro b o o' e hl
  have e':(if dW ω b then none else G' b)=some o:=e
  split at e'
  ·cases e'
  ·rename_i h1
   have:=t.low b o o' e' hl
   unfold Mine.Internal.cR at this
   rw[if_neg h1] at this;exact this
 ·intro p v hf hr
  refine Rd.flat (fun b o e hc hd=>?_) p v hf hr
  have h1:¬dW ω b:=fun q=>by
   obtain⟨o1,ho,hs,_⟩:=ownLt b q
   have:=bf.get' t.keep ho hs.1
   rw[t.within b o e] at this
   cases this
   obtain⟨vs,n,hd⟩:=hd
   exact hs.2.2 hc vs n hd
  show(if dW ω b then none else G' b)=some o
  rw[if_neg h1];exact e
 ·intro b e
  show(if dW ω b then none else G' b)=none
  split
  ·rfl
  ·exact e
noncomputable def ua (X:Cx) (n:Nat) (sc:Scope) (ρ:az) (e:PySem.Expr) (tgt:PySem.Expr) (l:List PV):Prop:=
 ∀(A:Around) (env:Env) (s:Shared) (G:ae) (Q E:Value→Shared→Prop),aV A n→bU X env sc ρ s G→
  (∀it fp K s' G',Step X s G s' G'→(∀b∈fp,s.heap.get? b=none∧G' b=none)→bA X n tgt it fp K→(∀G h r G',K G h r→K G' h r)→K G' s'.heap l→Q (.ref it) s')→
  wpAny (model X.prog X.w) A (eval e env) (fun x s1=>wpAny (model X.prog X.w) A (pyIter x) Q E s1) E s
section
variable {X:Cx} {n:Nat} {sc:Scope} {ρ:az} {ω:aA} {P:a6} {R:PV→aA→Prop}
theorem ua.str {e tgt:PySem.Expr} {x:Str} (h:aa X n sc ρ e (.str x)) (ha:x.cps.all (· <128)=true):ua X n sc ρ e tgt (signsOf x):=by
 intro A env s G Q E rm ev k
 refine h A env s G _ E rm ev fun v s1 G1 t1 d=>?_
 obtain⟨t,rfl⟩:=d
 have b:=t1.base
 refine wpAny_pyIter_ascii ha ?_
 refine k _ [s1.heap.objs.size] _ _ G1 (t1.trans (b.fresh _)) (fun c hc=>?_) bA.str (fun _ _ _ _ h=>h) ⟨0,⟨_,Heap.get?_push_size _ rfl,rfl,rfl⟩,rfl⟩
 simp at hc;subst hc
 exact⟨aB t1 (aq _),ao b.within (aq _)⟩
theorem rangeSize_down (a:Nat):Builtin.Range.rangeSize a 0 (-1)=a:=by
 unfold Builtin.Range.rangeSize
 rw[if_neg (by decide)]
 split
 ·have:(- (-1:Int))=1:=rfl
  rw[this,Int.ediv_one];lia
 ·lia
theorem small_down {a:Nat} (h:a<2 ^ 61):Builtin.Range.small a 0 (-1)=true:=by
 unfold Builtin.Range.small
 rw[rangeSize_down]
 simp only[Builtin.Range.rangeFitsLong,Bool.and_eq_true,Bool.or_eq_true,decide_eq_true_eq,beq_iff_eq,show ¬((-1:Int)>0) by decide,if_false]
 lia
theorem ua.oY {tgt:PySem.Expr} {x:Str} {pf pos:Pos} {e e' e'':PySem.Expr} {a:Nat} (hf:aa X n sc ρ (.Name x pf) (.opq (.type "range"))) (he:aj X n sc ρ [e,e',e''] [.int a, .int 0, .int (-1)]) (ha:a<1000000):ua X n sc ρ (.Call (.Name x pf) [e,e',e''] [] pos) tgt (bp a (-1) a):=by
 intro A env s G Q E rm ev q
 refine dK hf he rm ev fun vs s1 G1 t1 d1=>?_
 obtain⟨v,_,rfl,⟨t,rfl⟩,v',_,rfl,⟨t',rfl⟩,v'',_,rfl,⟨t'',rfl⟩,rfl⟩:=d1
 refine call_range_3 (by decide) ?_ ?_
 ·have st:=t1.base.ext (h':=s1.heap.push {cls:= .type "range",data:= .fields #[.int a t, .int 0 t', .int (-1) t'']}) (tk:=s1.toks) (a8 _)
  refine wpAny_pyIter_range (IsRange.new ..) (small_down (by omega)) ?_
  refine q _ [(s1.heap.push {cls:= .type "range",data:= .fields #[.int a t, .int 0 t', .int (-1) t'']}).objs.size] _ _ G1 (t1.trans (st.trans (st.base.fresh _))) (fun c hc=>?_) (bA.range (a:=a) (c:= -1) (k:=a)) (fun _ _ _ _ h=>h) ⟨0,?_,Nat.zero_le _,rfl⟩
  ·simp only[List.mem_cons,List.not_mem_nil,or_false] at hc;subst hc
   exact⟨aB (t1.trans st) (aq _),ao st.base.within (aq _)⟩
  ·have e1:(a:Int)+((0:Nat):Int)*(-1)=a:=by simp
   have e2:(a:Int) - ((0:Nat):Int)=Builtin.Range.rangeSize a 0 (-1):=by rw[rangeSize_down];simp
   rw[e1,e2]
   exact Heap.get?_push_size _ rfl
 ·exact .inl (PyProof.noPylong_small (by decide))
theorem aF.vR {tgt iter:PySem.Expr} {body orelse:List Stmt} {pos:Pos} {l:List PV} (hi:ua X n sc (cm ω ρ) iter tgt l) (L:aU X n sc tgt body orelse P R l ρ ω)
  (hsx:∀env x,foldedSetIterable iter env x=pure x:=by intro _ _;rfl):aF X n sc ρ ω (.For tgt iter body orelse pos) P R:=by
 intro A env s G D Q E rm wr r k1 k2
 refine wpAny_For (hi A env s _ _ E rm r.plus.1 fun it fp K s1 G0 t0 f0 T hi hK0=>?_) (hsx env)
 obtain⟨G1,t1,_,fn⟩:=r.xg t0
 have f:∀b∈fp,s.heap.get? b=none∧G1 b=none:=fun b hb=>⟨(f0 b hb).1,fn b (f0 b hb).2⟩
 have hK:=hi _ _ _ G1 hK0
 have r1:=r.step t1
 have lv:=T.live _ _ _ hK
 have hf:∀b∈fp,D.S b=none:=fun b hb=>by
  cases q:D.S b with
  | none=>rfl
  | some o=>obtain⟨o',h'⟩:=bf.there r.fin.keep q;rw[(f b hb).1] at h';cases h'
 have hs:∀b∈fp,¬aw X b:=fun b hb=>dP r (hf b hb)
 have r2:bC X env sc ρ ω (D.upd fp s1.heap G1) s1 G1:=by
  exact r1.closer (cn.off lv r1.loc.2.2) (cn.own lv r1.held rfl) hs
 refine forLoop T (Rr:=fun r s'=>match r with | .ok f=>Q f s' | .error e=>cameBackBy (model X.prog X.w) A env E e s') rm wr hf hs r.spec (fun fl ρ' ω' s' G' p r'=>k1 fl ρ' ω' s' G' p r') (fun p ω' v s' G' x f hl d=>k2 p ω' v s' G' x f hl d) r2 (gS.upd hf r1.fin) (fun b hb=>?_) (fun b hb=>(f b hb).2) hK L
 obtain⟨o,_,ho,_⟩:=lv b hb
 exact⟨o,by show(if b∈fp then s1.heap.get? b else D.S b)=some o;rw[if_pos hb];exact ho⟩
end
noncomputable def aO (hit:Nat→Bool):Nat→Option Nat
 | 0=>none
 | i+1=>if hit (i+1) then some (i+1) else aO hit i
theorem my (j:Nat):bp ((j+1:Nat):Int) (-1) (j+1)= .int ((j+1:Nat):Int)::bp (j:Int) (-1) j:=by
 unfold bp
 rw[List.range_succ_eq_map,List.map_cons,List.map_map]
 have e:(List.range j).map ((fun i:Nat=>PV.int (((j+1:Nat):Int)+(i:Int)* -1)) ∘ Nat.succ)=(List.range j).map fun i:Nat=>PV.int ((j:Int)+(i:Int)* -1):=List.map_congr_left fun i _=>congrArg PV.int (by show((j+1:Nat):Int)+((i+1:Nat):Int)* -1=(j:Int)+(i:Int)* -1;lia)
 rw[e]
 simp
section
variable {X:Cx} {n:Nat} {sc:Scope} {ρ:az} {ω:aA} {P:a6} {R:PV→aA→Prop}
theorem aU.search {x:Str} {px:Pos} {body orelse:List Stmt} (hx:b8 sc x) (hit:Nat→Bool):∀(N:Nat),
  (∀i,1≤i→i≤N→af X n sc ((x,some (.int (i:Nat)))::ρ) ((x,none)::ω) body (fun fl ρ' ω'=>(if hit i=true then fl= .brk∧ρ'.lookup x=some (some (.int (i:Nat))) else (fl= .next∨fl= .cont))∧aG ρ ρ'∧aC ω ω') R)→
  (∀i ρ' ω',aO hit N=some i→ρ'.lookup x=some (some (.int (i:Nat)))→aG ρ ρ'→aC ω ω'→P .next ρ' ω')→
  (aO hit N=none→af X n sc ρ ω orelse P R)→aU X n sc (.Name x px) body orelse P R (bp N (-1) N) ρ ω
 | 0,_,_,hn=>hn rfl
 | N+1,hb,hs,hn=>by
  rw[my]
  refine fM.name (hx.imp id fun e=>⟨rfl,e⟩) ?_
  refine(hb (N+1) (by omega) (Nat.le_refl _)).mono (fun fl ρ' ω' z=>?_) (fun _ _ e=>e)
  obtain⟨z1,z2,z3⟩:=z
  by_cases hh:hit (N+1)=true
  ·rw[if_pos hh] at z1
   obtain⟨rfl,z1⟩:=z1
   exact hs (N+1) ρ' ω' (by rw[aO,if_pos hh]) z1 z2 z3
  ·rw[if_neg hh] at z1
   have e:aO hit (N+1)=aO hit N:=by rw[aO,if_neg hh]
   have:aU X n sc (.Name x px) body orelse P R (bp N (-1) N) ρ ω:=aU.search hx hit N (fun i h1 h2=>hb i h1 (by omega)) (fun i ρ' ω' h=>hs i ρ' ω' (e.trans h)) fun h=>hn (e.trans h)
   rcases z1 with rfl | rfl<;>exact this.less z2 z3
theorem aU.find {α β:Type} {f:α→PV} {x:Str} {px:Pos} {body orelse:List Stmt} (hx:b8 sc x) (found:α→Option β) (T:β→az→Prop):∀(l:List α),
  (∀a∈l,af X n sc ((x,some (f a))::ρ) ((x,none)::ω) body (fun fl ρ' ω'=>(match found a with | some b=>fl= .brk∧T b ρ' | none=>(fl= .next∨fl= .cont))∧aG ρ ρ'∧aC ω ω') R)→
  (∀b ρ' ω',l.findSome? found=some b→T b ρ'→aG ρ ρ'→aC ω ω'→P .next ρ' ω')→
  (l.findSome? found=none→af X n sc ρ ω orelse P R)→aU X n sc (.Name x px) body orelse P R (l.map f) ρ ω
 | [],_,_,hn=>hn rfl
 | a::l,hb,hs,hn=>by
  refine fM.name (hx.imp id fun e=>⟨rfl,e⟩) ?_
  refine(hb a List.mem_cons_self).mono (fun fl ρ' ω' z=>?_) (fun _ _ e=>e)
  obtain⟨z1,z2,z3⟩:=z
  cases hf:found a with
  | some b=>
   rw[hf] at z1
   obtain⟨rfl,z1⟩:=z1
   exact hs b ρ' ω' (by rw[List.findSome?_cons,hf]) z1 z2 z3
  | none=>
   rw[hf] at z1
   have e:(a::l).findSome? found=l.findSome? found:=by rw[List.findSome?_cons,hf]
   have:aU X n sc (.Name x px) body orelse P R (l.map f) ρ ω:=aU.find hx found T l (fun a ha=>hb a (yL _ ha)) (fun b ρ' ω' h=>hs b ρ' ω' (e.trans h)) fun h=>hn (e.trans h)
   rcases z1 with rfl | rfl<;>exact this.less z2 z3
end
section
variable {X:Cx} {n:Nat} {sc:Scope} {ρ:az} {ω:aA} {P:a6} {R:PV→aA→Prop}
theorem bE.methP {x:Str} {oe:PySem.Expr} {es:List PySem.Expr} {name:Str} {apos pos:Pos} {o o1 o1' o':Own} {f:Addr} {ps:List PV} {p:PV} {oc:Value} {fod:Option Addr} {osl:Array (Option Value)} {fd:FuncData} {pl:Env→Sem Bool} (hx:ω.lookup x=some (some o)) (hp:bu X n sc x oe o o1) (pt:aT o o1 o1' o')
  (ha:aj X n sc ρ es ps) (k:dD X.K o1.cls) (hc:o1.cls≠0) (hf:findIn X.K (.ref o1.cls) name=some (some (.ref f))) (hk:X.K.lookup f=some ⟨oc,fod, .func fd,osl⟩) (ht:typeIn X.K (.ref f)=some (.type "function")) (h:gN X n f o1 ps p o1')
  (hname:name∈eB:=by decide)
  (he:∀env,eval (.Call (.Attribute oe name apos) es [] pos) env=(do
   let ov ←eval oe env
   standAt apos.atName
   let (f,first) ←holding [ov] (getMethod ov name (pl env))
   callWith pos f first (backTo pos (starEach es env)) (backToKw pos (keywordEach [] env))):=by intro _;rfl):bE X n sc ρ ω (.Call (.Attribute oe name apos) es [] pos) p ((x,some o')::ω):=by
 intro A env s G D Q E rm wr r q
 refine methodCall_KW (pl:=pl env) (hp A env s G D ρ ω _ E rm r hx fun tk=>?_) (he env)
 have r1:=r.toks tk
 obtain⟨ob,od,m,I,hn,hm⟩:=(pt.at_ _ _ (r1.held.at_ x o hx)).inst hc
 refine eZ r1.er.gnd.kin k I hn (hm _ hname) hf ht ?_
 refine callWith_function (o:=⟨oc,fod, .func fd,osl⟩) (fd:=fd) ?_
 refine aY ha rm r1.er fun us s2 G2 t2 d2=>?_
 refine⟨⟨t2.gnd.kin _ _ hk,rfl⟩,?_⟩
 exact mv rm (r1.step t2) hx pt h d2 fun v s' G' r' u' d'=>q v s' G' r' (t2.sub.trans u') d'
end
noncomputable def qJ (o:Option Obj) (f:ClassData→Array (Option Value)→Bool):Bool:=match o with
 | some ⟨_,_, .cls cd,sl⟩=>f cd sl
 | _=>false
theorem pJ {o:Option Obj} {f:ClassData→Array (Option Value)→Bool} (h:qJ o f=true):∃c d cd sl,o=some ⟨c,d, .cls cd,sl⟩∧f cd sl=true:=by
 cases o with
 | none=>cases h
 | some o=>
  obtain⟨c,d,x,sl⟩:=o
  cases x<;>first | exact⟨_,_,_,_,rfl,h⟩ | cases h
noncomputable def rj (K:Frag) (C:Addr):Bool:=qJ (K.lookup C) fun cd sl=>!cd.abstract&&!cd.hasDel&&(sl.toList[4]?).join==some (.builtin "list.__new__")&&!cd.mro.isEmpty&&cd.mro.contains (.ref C)&&cd.mro.contains (.type "list")&&
 specialIn K (.ref C) "__call__"==some (some (.builtin "type.__call__"))&&instIn K (.ref C) (.type "type")==some true
structure jL (M:Model) (h:Heap) (C:Addr):Prop where
 obj:∃oc od cd sl,h.get? C=some ⟨oc,od, .cls cd,sl⟩∧cd.abstract=false∧cd.hasDel=false∧cd.mro.isEmpty=false
 made:Looks M h (Bind.madeBy (.ref C)) (some "list.__new__")
 base:Looks M h (Bind.staticBase (.ref C)) (.ref C)
 self:Looks M h (isSubtype (.ref C) (.ref C)) true
 top:Looks M h (isSubtype (.ref C) (.type "list")) true
 call:Looks M h (specialOf (.ref C) "__call__") (some (.builtin "type.__call__"))
 typ:Looks M h (isInstance (.ref C) (.type "type")) true
set_option tactic.hygienic true in
theorem pn {K:Frag} {M:Model} {h:Heap} (X:K.In h) {C:Addr} (e:rj K C=true):jL M h C:=by
 obtain⟨oc,od,cd,sl,ho,e⟩:=pJ e
 ·replace e:=e
  simp only[Bool.and_eq_true,Bool.not_eq_true',beq_iff_eq] at e
  obtain⟨⟨⟨⟨⟨⟨⟨e1,e2⟩,e3⟩,e4⟩,e5⟩,e6⟩,e7⟩,e8⟩:=e
  have hc:clsIn K C=some cd:=by unfold clsIn;rw[ho]
  have hm:Looks M h (mroOf (.ref C)) cd.mro:=(looks_clsIn X hc).andThen .now
  obtain⟨c,l,hl⟩:∃c l,cd.mro=c::l:=by cases q:cd.mro with | nil=>rw[q] at e4;cases e4 | cons c l=>exact⟨c,l,rfl⟩
  have made:Looks M h (Bind.madeBy (.ref C)) (some "list.__new__"):=by
   intro A Q E s k q
   unfold Bind.madeBy
   refine yI (hm A _ E s k ?_)
   rw[hl,List.forIn_cons]
   refine yI (yI (yI (yI (wpAny_loadPart (k _ _ (X _ _ ho)) (yJ ?_)))))
   dsimp only
   rw[←Array.getElem?_toList,e3]
   exact yJ (yJ (yJ q))
  refine⟨⟨oc,od,cd,sl,X _ _ ho,e1,e2,e4⟩,made,?_,looks_mroIn X ?_,looks_mroIn X ?_,looks_specialIn X e7,looks_instIn X e8⟩
  ·intro A Q E s k q
   unfold Bind.staticBase
   refine yI (hm A _ E s k ?_)
   rw[hl,List.forIn_cons]
   exact yI (yI (yI (made A _ E s k (yJ (yJ (yJ q))))))
  ·unfold mroIn;rw[hc,Option.bind_some,if_neg (by rw[e4];decide),e5]
  ·unfold mroIn;rw[hc,Option.bind_some,if_neg (by rw[e4];decide),e6]
noncomputable abbrev di (C dx:Addr):Obj:={cls:= .ref C,dict:=some dx,data:= .seq #[]}
section
variable {prog:Program} {w:World} {A:Around} {K:Frag} {C:Addr} {R:Result→Shared→Prop} {h:Heap} {g:Array GenState} {d:Drawn} {t:Nat} {os:OsState}
theorem sI:builtinKind "list.__new__" =some .builtinFn:=by decide +kernel
theorem ro:splitId "list.__new__" =some ("list","__new__"):=by decide +kernel
theorem vc:Manifest.signature? "list.__new__" =some ⟨.any,"list","list", .cls,[⟨"args", .varPos,false⟩,⟨"kwargs", .varKw,false⟩]⟩:=by ext
theorem tj {a:Value} {A:Around} {Q:Unit→Shared→Prop} {E:Value→Shared→Prop} (Y:jL (model prog w) h C) (hq:Q () ⟨h,g,d,t,os⟩):wpAny (model prog w) A (checkBuiltinCall "list.__new__" ⟨[.ref C,a],[]⟩) Q E ⟨h,g,d,t,os⟩:=by
 obtain⟨⟨oc,od,cd,sl,hC,e1,e2,e4⟩,made,base,self,top,call,typ⟩:=Y
 have hargs:Bind.checkArgs "list.__new__" ⟨.any,"list","list", .cls,[⟨"args", .varPos,false⟩,⟨"kwargs", .varKw,false⟩]⟩ ⟨[.ref C,a],[]⟩=pure ():=by ext
 unfold checkBuiltinCall
 rw[sI,ro,vc]
 dsimp only
 rw[hargs]
 repeat (first | exact hq | rw[if_neg (show ¬(("list.__new__" != "list.__new__")=true) by decide)] | lk)
theorem wk {a:Value} (Y:jL (model prog w) h C) (hq:R (.ok (.ret (.ref (h.objs.size+1)))) ⟨(h.push emptyDict).push (di C h.objs.size),g,d,t,os⟩):
  codeAny (model prog w) A (.call (.builtin "list.__new__") ⟨[.ref C,a],[]⟩) R ⟨h,g,d,t,os⟩:=by
 refine codeAny_of_tree ?_
 show wpAny _ A.in1 (checkBuiltinCall "list.__new__" ⟨[.ref C,a],[]⟩>>=fun _=>again (.builtin "list.__new__" ⟨[.ref C,a],[]⟩)) _ _ _
 refine yI (tj Y (yJ (a:=Fin.again _) ⟨plainId_quiet F.plain_list_new _,codeAny_builtin_stack F.entry_list_new rfl fun p st=>?_⟩))
 rw[Around.under_plainId F.plain_list_new _]
 refine wpAny_mono (Q:=fun fin s'=>fin= .done (.ret (.ref (h.objs.size+1)))∧s'=⟨(h.push emptyDict).push (di C h.objs.size),g,d,t,os⟩) (E:=fun _ _=>False) ?_ (fun fin s' z=>by obtain⟨rfl,rfl⟩:=z;exact hq) fun _ _ z=>z.elim
 obtain⟨⟨oc,od,cd,sl,hC,e1,e2,e4⟩,made,base,self,top,call,typ⟩:=Y
 dsimp only
 rw[owner_list_new]
 have fin:∀{Q:PySem.Fin→Shared→Prop} {E:Value→Shared→Prop},Q (.done (.ret (.ref (h.objs.size+1)))) ⟨(h.push emptyDict).push (di C h.objs.size),g,d,t,os⟩→wpAny (model prog w) A.in1 (newDict>>=fun x=>match x with | .ref d=>(newObj (.ref C) (.seq #[]) (some d)>>=fun x=>ret x) | _=>unsupported "internal:list.__new__") Q E ⟨h,g,d,t,os⟩:=by
  intro Q E hq
  refine yI ?_
  unfold newDict
  refine wpAny_newObj_type ?_ (by size_fits)
  dsimp only
  refine yI ?_
  unfold newObj
  unfold newObjAsIs classHasDel
  refine yI (wpAny_alloc (yI (yI (wpAny_load (Heap.get?_push_of_some _ (Heap.get?_push_of_some _ hC)) (yJ ?_)))))
  rw[e2]
  refine yJ (yJ ?_)
  rw[Heap.size_push]
  exact hq
 repeat (first | exact fin ⟨rfl,rfl⟩ | lk)
theorem nq {a:Value} {init:Value} (Y:jL (model prog w) h C) (hi:Looks (model prog w) h (typeLookup (.ref C) "__init__") (some init))
  (hb:∀self,Looks (model prog w) h (bindSpecial init self) (init,[self]))
  (hq:codeAny (model prog w) (A.under (.builtin "type.__call__" ⟨[.ref C,a],[]⟩)) (.call init ⟨[.ref (h.objs.size+1),a],[]⟩) (InitBack (h.objs.size+1) R) ⟨(h.push emptyDict).push (di C h.objs.size),g,d,t,os⟩):
  codeAny (model prog w) A (.call (.ref C) ⟨[a],[]⟩) R ⟨h,g,d,t,os⟩:=by
 have Y':=Y
 obtain⟨⟨oc,od,cd,sl,hC,e1,e2,e4⟩,made,base,self,top,call,typ⟩:=Y
 refine codeAny_of_tree ?_
 show wpAny _ _ (callAny (.ref C) _) _ _ _
 refine nd_load hC ?_
 show wpAny _ _ (callAny.viaDunder (.ref C) _) _ _ _
 unfold callAny.viaDunder
 refine yI (call.at ?_)
 dsimp only
 rw[tc_bind]
 refine yI (yJ (yI (yJ ?_)))
 refine yJ (a:=Fin.again (.call (.builtin "type.__call__") ⟨[.ref C,a],[]⟩)) (And.intro rfl ?_)
 refine codeAny_call_builtin_at (Code.quiet_builtin _ (by decide +kernel)) entry_typeCall (check_slot tc_kind tc_split typ (tc_args _ _ _) ?_)
 unfold Builtin.«type.__call__»
 have hm:Looks (model prog w) h (mroOf (.ref C)) cd.mro:=((Looks.ld (part:=none) hC).andThen .now).andThen .now
 repeat (first | simp only[e4,Bool.false_eq_true,if_false] | with_reducible refine wpAny_call ?_ | lk)
 refine wk Y' ?_
 have k:∀b o,h.get? b=some o→((h.push emptyDict).push (di C h.objs.size)).get? b=some o:=fun b o e=>Heap.get?_push_of_some _ (Heap.get?_push_of_some _ e)
 have hx:((h.push emptyDict).push (di C h.objs.size)).get? (h.objs.size+1)=some (di C h.objs.size):=by heap_get
 have t1:Looks (model prog w) ((h.push emptyDict).push (di C h.objs.size)) (typeOf (.ref (h.objs.size+1))) (.ref C):=(Looks.ld hx).andThen .now
 have s1:=self.keeps k
 have i1:=hi.keeps k
 have b1:=(hb (.ref (h.objs.size+1))).keeps k
 unfold isInstance callSpecial? specialOf
 repeat (first | with_reducible refine wpAny_call ?_ | lk)
 refine codeAny_mono hq fun r s' z=>?_
 rcases r with e | (v | _ | _ | _)<;>first | exact z | exact z.elim | skip
 obtain⟨rfl,z⟩:=z
 exact yJ (yJ z)
end
section
variable {X:Cx} {n:Nat}
theorem vm {f:Addr} {oc:Value} {od:Option Addr} {osl:Array (Option Value)} {fd:FuncData} {body:List Stmt} {names:List Str} {ω:aA} {ρ:az} {us:List Value}
  (hk:X.K.lookup f=some ⟨oc,od, .func fd,osl⟩) (hb:fd.body= .stmts body) (hclo:fd.closure=[]) (hgl:fd.globals=mainGlobals) (hbi:fd.builtins=builtinsNs)
  (hcode:codeIn X.K fd.code fd.qualname=true) {args:Args} (hbind:∀s:Shared,b5 X s.heap→BindsTo s fd args (names.zip us))
  (hst:∀x∈names,fd.scope.names.lookup x=some .local) (hnd:names.Nodup) (hlen:us.length=names.length) (hcell:∀x∈fd.scope.names,x.2≠ .cell)
  (hco:fd.scope.isCoroutine=false) (hgen:fd.scope.isGenerator=false) (hkf:fd.scope.kind= .function) (hcd:∀v q,X.codeOf fd.scope=some (v,q)→fd.code=v∧fd.qualname++".<locals>." =q)
  {A:Around} {s:Shared} {G:ae} {Q:Result→Shared→Prop} (rm:aV A (n+1)) (bs:Base X s G)
  (hρ:∀x p,ρ.lookup x=some (some p)→∃v,(x,v)∈names.zip us∧Rd G p v)
  (fp:List Addr) (hfp:∀b∈fp,G b=none∧¬aw X b)
  (hω:∀x o,ω.lookup x=some (some o)→(x,Value.ref o.addr)∈names.zip us∧o.At G s.heap∧∀b∈o.fp,b∈fp)
  (hap:∀x y o o',ω.lookup x=some (some o)→ω.lookup y=some (some o')→x≠y→∀b∈o.fp,b∉o'.fp)
  (B:∀(env:Env) h₁ tk D (E:Value→Shared→Prop),env=callEnv fd s.heap.objs.size f→D=(⟨fun b=>if b∈fp then none else s.heap.get? b,G,s.os,true⟩:Bd)→aV (A.deeper env) n→bC X env fd.scope ρ ω D {s with heap:=h₁,toks:=tk} G→
   (∀x v,(x,v)∈names.zip us→∃m,h₁.Ns env.locals m∧m x=some v)→
   _root_.PySem.wpAt (model X.prog X.w) (A.deeper env) (.func body env) (execs body env) (fun fl s'=>Q (.ok (.ret (match fl with | .ret v=>v | _=> .none))) s') E {s with heap:=h₁,toks:=tk}):
  codeAny (model X.prog X.w) A (.call (.ref f) args) Q s:=by
 have hdep:A.depth<recursionLimit:=by have:=rm.1;omega
 have hnames:((names.zip us).map (·.1)).Nodup:=by rw[List.map_fst_zip (by omega)];exact hnd
 refine ks_codeAny_call_defAt (fd:=fd) (body:=body) (binds:=names.zip us) hdep (bs.gnd.kin _ _ hk) rfl bs.gnd.nolimit (codeRec_of bs.gnd.kin hcode) hb (hbind s bs.gnd) hcell (fun y hy=>hst y.1 (List.of_mem_zip hy).1) (fun h₁ hns hkeep=>?_) hco hgen hkf
 have st:Step X s G {s with heap:=h₁,toks:=s.toks+(names.zip us).length} G:=⟨cz.iq hkeep,bs.gnd.keeps hkeep,Sub.refl _,fun b o e=>hkeep b o (bs.within b o e),fun _ _ _ e _=>e,rfl,bs.gens⟩
 have nsAt:∀x v,(x,v)∈names.zip us→∃m,h₁.Ns (callEnv fd s.heap.objs.size f).locals m∧m x=some v:=fun x v hm=>⟨_,hns,eX hnames hm⟩
 have varAt:∀x v,(x,v)∈names.zip us→a0 (callEnv fd s.heap.objs.size f) h₁ x v:=fun x v hm=>
  .local (hst x (List.of_mem_zip hm).1) hns (eX hnames hm)
 have noS:∀{b},s.heap.get? b=none→(if b∈fp then none else s.heap.get? b)=none:=fun e=>by split<;>first | rfl | exact e
 have nocell:∀x,(callEnv fd s.heap.objs.size f).kindOf x≠some .cell:=fun x e=>hcell _ (mem_of_lookup e) rfl
 have r:bC X (callEnv fd s.heap.objs.size f) fd.scope ρ ω (⟨fun b=>if b∈fp then none else s.heap.get? b,G,s.os,true⟩:Bd) {s with heap:=h₁,toks:=s.toks+(names.zip us).length} G:=by
  refine⟨⟨st.gnd,st.within,st.gens,rfl,hkf,hgl,hbi,hcd,?_⟩,⟨fun b o e=>?_,st.gnd,Sub.refl _,st.within,fun b o o' e h=>?_,rfl,st.gens⟩,fun b q=>?_,⟨noS (aq _),ao bs.within (aq _),_,hns⟩,fun _ x c h1 h2=>absurd h2 (nocell x),fun _ x h=>absurd h (nocell x),fun _=>?_,⟨fun x o e=>(hω x o e).2.1.keep (Sub.refl _) fun b _ ob e=>hkeep b ob e,fun x o e b hb=>⟨if_pos ((hω x o e).2.2 b hb),(hfp b ((hω x o e).2.2 b hb)).1⟩,hap⟩,fun x o e=>⟨varAt _ _ (hω x o e).1,fun hb=>?_⟩⟩
  ·intro x q e
   obtain⟨v,hm,d⟩:=hρ x q e
   exact⟨v,varAt x v hm,d⟩
  ·have e':(if b∈fp then none else s.heap.get? b)=some o:=e
   split at e'
   ·cases e'
   ·exact .inl (hkeep b o e')
  ·exact e
  ·obtain⟨o,e⟩:=bs.gnd.special q
   exact⟨o,by show(if b∈fp then none else s.heap.get? b)=some o;rw[if_neg (fun h=>(hfp b h).2 q)];exact e⟩
  ·show fd.closure.Pairwise _
   rw[hclo];exact List.Pairwise.nil
  ·obtain⟨ob,e',_⟩:=(hω x o e).2.1.solid _ hb
   rw[show(callEnv fd s.heap.objs.size f).locals=s.heap.objs.size from rfl,aq] at e';cases e'
 exact B _ _ _ _ _ rfl rfl rm.deeper r nsAt
theorem Step.alt {s s₄:Shared} {G G':ae} {I:Addr} {oi:Obj} {h':Heap} {tk:Nat} (t:Step X s G s₄ G') (hI:s.heap.get? I=none) (hIo:s₄.heap.get? I=some oi) (hc:d8 oi) (hsp:¬aw X I) (hG:G' I=none)
  (hk:Heap.SameBut I s₄.heap h'):Step X s G {s₄ with heap:=h',toks:=tk} G':=by
 refine⟨fun b o e=>?_,t.gnd.sameBut hk hsp hIo hc,t.sub,fun b o e=>?_,t.low,t.os,t.gens⟩
 ·have hb:b≠I:=fun z=>by rw[z,hI] at e;cases e
  rcases t.keep b o e with y | ⟨t',ht',z,vs,more,r,y⟩
  ·exact .inl (hk.extBut b o hb y)
  ·exact .inr ⟨t',ht',z,vs,more,r,hk.extBut _ _ hb y⟩
 ·exact hk.extBut b o (fun z=>by rw[z,hG] at e;cases e) (t.within b o e)
theorem jM {M:Model} {A:Around} {c:Code} {α:Type} {t:Sem α} {Q:α→Shared→Prop} {E:Value→Shared→Prop} {s:Shared} (h:wpAny M A t Q E s):_root_.PySem.wpAt M A c t Q E s:=fun Γ p _ hΓ=>h Γ p hΓ
end
section
variable {X:Cx} {n:Nat}
theorem lI.gY {h h':Heap} {d:Addr} {m:Str→Option Value} {k:Nat} (t:cz X h h') (x:lI h d m k):lI h' d m k:=by
 obtain⟨o,es,ep,a,b,c,d,z⟩:=x
 exact⟨o,es,ep,bf.get' t a (by rw[b];nofun),b,c,d,z⟩
theorem lI.le {h:Heap} {d:Addr} {m:Str→Option Value} {k k':Nat} (x:lI h d m k) (e:k≤k'):lI h d m k':=by
 obtain⟨o,es,ep,a,b,c,d,z⟩:=x
 exact⟨o,es,ep,a,b,c,d,yN z e⟩
structure et (X:Cx) (s0:Shared) (G:ae) (env:Env) (c x dx:Addr) (facts:List (Str×Value)) (m:Str→Option Value) (k:Nat) (s:Shared):Prop where
 st:Step X s0 G s G
 hx:s.heap.get? x=some (instObj c dx)
 hz:lI s.heap dx m k
 loc:∀q∈facts,∃ml,s.heap.Ns env.locals ml∧ml q.1=some q.2
 x0:s0.heap.get? x=none
 d0:s0.heap.get? dx=none
 ne:x≠dx
 lne:env.locals≠dx
variable {s0 s s':Shared} {G:ae} {env:Env} {c x dx:Addr} {facts:List (Str×Value)} {m:Str→Option Value} {k:Nat}
theorem et.step (I:et X s0 G env c x dx facts m k s) (t:Step X s G s' G):et X s0 G env c x dx facts m k s':=
 ⟨I.st.trans t,t.keep.get I.hx (by show ¬(Value.ref c=Value.none);nofun),I.hz.gY t.keep,fun q hq=>let ⟨ml,a,b⟩:=I.loc q hq;⟨ml,t.keep.ns a,b⟩,I.x0,I.d0,I.ne,I.lne⟩
theorem et.toks (I:et X s0 G env c x dx facts m k s) (t:Nat):et X s0 G env c x dx facts m k {s with toks:=t}:=I.step (I.st.base.toks t)
theorem et.set (I:et X s0 G env c x dx facts m k s) (b0:Base X s0 G) (C:p9 X.K c) {A:Around} {name:Str} {v:Value} {Q:Unit→Shared→Prop} {E:Value→Shared→Prop} (hk:k≤100) (ht:takerIn X.K c name=some none)
  (q:∀s',et X s0 G env c x dx facts (fun y=>if y=name then some v else m y) (k+1) s'→Heap.SameBut dx s.heap s'.heap→Q () s'):wpAny (model X.prog X.w) A (setAttr (.ref x) name v) Q E s:=by
 obtain⟨od,es,ep,hod,hdd,hkk,hff,hzz⟩:=id I.hz
 have i1:bM (instObj c dx) c dx false []:=⟨rfl,rfl,rfl,rfl⟩
 refine jO C I.st.gnd.kin (bM.inst I.hx i1 hod) rfl I.hz (by omega) ht fun h' tk hn' hs'=>?_
 have nsp:∀{y},s0.heap.get? y=none→¬aw X y:=fun e z=>by obtain⟨o,e'⟩:=b0.gnd.special z;rw[e] at e';cases e'
 have hGd:G dx=none:=ao b0.within I.d0
 refine q _ ⟨Step.alt I.st I.d0 hod (fun vs _=>by rw[hdd];nofun) (nsp I.d0) hGd hs',hs'.extBut _ _ I.ne I.hx,hn'.le (by split<;>omega),fun q hq=>?_,I.x0,I.d0,I.ne,I.lne⟩ hs'
 obtain⟨ml,a,b⟩:=I.loc q hq
 exact⟨ml,a.extBut hs'.extBut I.lne,b⟩
end
noncomputable def kP (X:Cx) (G:ae) (s:Shared) (o:Own) (s':Shared) (G':ae):Prop:=Step X s G s' G'∧o.At G' s'.heap∧∀b∈o.fp,s.heap.get? b=none∧G' b=none
section
variable {X:Cx} {n:Nat} {sc:Scope} {ρ:az} {ω:aA} {P:a6} {R:PV→aA→Prop}
noncomputable def vy (X:Cx) (n:Nat) (sc:Scope) (ρ:az) (e:PySem.Expr) (O:Own→Prop):Prop:=
 ∀(A:Around) (env:Env) (s:Shared) (G:ae) (Q E:Value→Shared→Prop),aV A n→bU X env sc ρ s G→(∀o s' G',O o→kP X G s o s' G'→Q (.ref o.addr) s')→wpAny (model X.prog X.w) A (eval e env) Q E s
noncomputable def uq (X:Cx) (n:Nat) (c:Addr) (ps:List PV) (O:Own→Prop):Prop:=
 ∀(A:Around) (s:Shared) (G:ae) (vs:List Value) (R:Result→Shared→Prop),aV A n→Base X s G→aE G ps vs→(∀o s' G',O o→kP X G s o s' G'→R (.ok (.ret (.ref o.addr))) s')→codeAny (model X.prog X.w) A (.call (.ref c) ⟨vs,[]⟩) R s
theorem kP.after {s s1 s2:Shared} {G G1 G2:ae} {o:Own} (t:Step X s G s1 G1) (N:kP X G1 s1 o s2 G2):kP X G s o s2 G2:=
 ⟨t.trans N.1,N.2.1,fun b hb=>⟨aB t (N.2.2 b hb).1,(N.2.2 b hb).2⟩⟩
theorem vy.cls {x:Str} {pf pos:Pos} {e:PySem.Expr} {es:List PySem.Expr} {p:PV} {ps:List PV} {c:Addr} {O:Own→Prop} (hf:aa X n sc ρ (.Name x pf) (.opq (.ref c))) (hk:keepIn X.K (.ref c)=true) (ha:aa X n sc ρ e p) (hr:aj X n sc ρ es ps) (h:uq X n c (p::ps) O)
  (hs:∀env,starEach (e::es) env=(false,eval e env)::starEach es env:=by intro _;rfl):vy X n sc ρ (.Call (.Name x pf) (e::es) [] pos) O:=by
 intro A env s G Q E rm ev q
 refine wpAny_Call_Name_kw (hf A env s G _ E rm ev fun v s1 G1 t1 d1=>?_)
 cases d1
 have ev1:=ev.step t1
 refine callWith_K (h₀:=s1.heap) ev1.gnd.kin hk ?_ (hs env) ?_
 ·refine(aj.cons ha hr hs).go A env s1 G1 pos _ E rm ev1 fun vs s2 G2 t2 d2=>⟨t2.gnd.kin,?_⟩
  refine wpAny_call (h A s2 G2 vs _ rm t2.base d2 fun o s3 G3 ho N=>?_)
  exact q o s3 G3 ho (kP.after (t1.trans t2) N)
 ·exact bN hr pos env
theorem aF.tA {x:Str} {e:PySem.Expr} {pos pos':Pos} {O:Own→Prop} (h:vy X n sc ρ e O) (hx:b8 sc x) (k:∀o,O o→P .next ((x,none)::ρ) ((x,some o)::ω))
  (hs:∀env,swapsWith e (some (.Name x pos')) pos.line env=pure false:=by intro _;rfl):aF X n sc ρ ω (.Assign [.Name x pos'] e pos) P R:=
 fun A env s G D Q E rm wr r k1 k2=>wpAny_Assign_Name (h A env s G _ E rm r.er fun o s1 G1 ho N=>(r.step N.1).storeAt (b8.at hx wr) fun h' tk S=>
  k1 .next _ _ _ G1 (k o ho) (S.owned (r.step N.1) (dZ r N.1 (fun b hb=>(N.2.2 b hb).1) (fun b hb=>(N.2.2 b hb).2) N.2.1))) (hs env)
end
section
variable {X:Cx} {n:Nat} {sc:Scope} {ρ:az} {P:a6} {R:PV→aA→Prop}
theorem aU.steps {α:Type} {f:α→PV} {tgt:PySem.Expr} {body orelse:List Stmt}:∀(l:List α) (S:Nat→aA),
  (∀i a,l[i]?=some a→fM X n true sc tgt (f a) ρ (S i) (fun ρ1 ω1=>af X n sc ρ1 ω1 body (fun fl ρ' ω'=>(fl= .next∨fl= .cont)∧aG ρ ρ'∧aC (S (i+1)) ω') R))→
  af X n sc ρ (S l.length) orelse P R→aU X n sc tgt body orelse P R (l.map f) ρ (S 0)
 | [],S,_,k=>k
 | a::l,S,h,k=>by
  have rest:aU X n sc tgt body orelse P R (l.map f) ρ (S 1):=aU.steps l (fun i=>S (i+1)) (fun i b e=>h (i+1) b (by simpa using e)) k
  intro A env s G D v Q E rm wr r d q
  refine h 0 a rfl A env s G D v Q E rm wr r d fun ρ1 ω1 s' G' hk r'=>q ρ1 ω1 s' G' (hk.mono (fun fl ρ' ω' z=>?_) fun _ _ e=>e) r'
  obtain⟨z1,z2,z3⟩:=z
  rcases z1 with rfl | rfl<;>exact rest.less z2 z3
end
end
section
open PySem PySem.Calls PyProof.Rows PySem.W
section
variable {X:Cx} {n:Nat} {sc:Scope} {ρ:az} {ω ω':aA} {P:a6} {R:PV→aA→Prop}
theorem aF.rB {x y z:Str} {px py pz:Pos} {k0 k1':Nat} {pt pv pos:Pos} {e f g:PySem.Expr} {p q:PV} {O:Own→Prop} (h:vy X n sc ρ e O) (h1:aa X n sc ρ f p) (h2:aa X n sc ρ g q) (hx:b8 sc x) (hy:b8 sc y) (hz:b8 sc z)
  (k:∀o,O o→P .next ((z,some q)::(y,some p)::(x,none)::ρ) ((z,none)::(y,none)::(x,some o)::ω))
  (hw:∀env,env.scope=sc→swappedStores [.Tuple [.Name x px, .Name y py, .Name z pz] k0 pt] (.Tuple [e,f,g] k1' pv) env=pure none) (hs:∀env,swapsWithSole [.Tuple [.Name x px, .Name y py, .Name z pz] k0 pt] (.Tuple [e,f,g] k1' pv) pos.line env=pure false:=by intro _;rfl)
  (hst:∀env,starEach [e,f,g] env=[(false,eval e env),(false,eval f env),(false,eval g env)]:=by intro _;rfl):
  aF X n sc ρ ω (.Assign [.Tuple [.Name x px, .Name y py, .Name z pz] k0 pt] (.Tuple [e,f,g] k1' pv) pos) P R:=by
 intro A env s G D Q E rm wr r k1 k2
 refine PyProof.Rows.Assign_Tuple (wpAny_Tuple_spliced ?_) (hs env) (hw env r.er.scope)
 rw[hst env]
 refine spliced_cons (x:=eval _ env) (h A env s G _ E rm r.er fun o s1 G1 ho N=>?_)
 have t1:=N.1
 refine spliced_cons (x:=eval _ env) (h1 A env s1 G1 _ E rm (r.er.step t1) fun u s2 G2 t2 d2=>spliced_cons (x:=eval _ env) (h2 A env s2 G2 _ E rm ((r.er.step t1).step t2) fun v s3 G3 t3 d3=>spliced_nil ⟨by show 3≤sizeLine;unfold sizeLine;decide,?_⟩))
 have t4:=t3.base.fresh {cls:= .type "tuple",data:= .seq (List.toArray [Value.ref o.addr,u,v])}
 have tt:=(t2.trans t3).trans t4
 have all:=t1.trans tt
 have r4:=r.step all
 have ht:(s3.heap.push {cls:= .type "tuple",data:= .seq (List.toArray [Value.ref o.addr,u,v])}).IsTuple s3.heap.objs.size (List.toArray [Value.ref o.addr,u,v]):=⟨_,Heap.get?_push_size _ rfl,rfl,0,rfl⟩
 refine wpAny_assign_Tuple rm.2.2 ht rfl rfl fun h' hx'=>?_
 have t5:=r4.er.base.ext (tk:=s3.toks) (bY hx')
 have r5:=r4.step t5
 have tt5:=tt.trans t5
 have L:lO env ω D {s3 with heap:=h'} G3 o:=by
  refine dZ r (all.trans t5) (fun b hb=>(N.2.2 b hb).1) (fun b hb=>?_) ?_
  ·obtain⟨ob,e1,_⟩:=N.2.1.solid b hb
   exact tt5.cg (N.2.2 b hb).2 e1
  ·refine N.2.1.keep tt5.sub fun b hb ob e1=>?_
   obtain⟨ob',e2,q1⟩:=N.2.1.solid b hb
   rw[e1] at e2;cases e2
   exact bf.get' tt5.keep e1 q1.1
 show wpAny _ A (assignInOrder [PySem.assign (.Name x px) env,PySem.assign (.Name y py) env,PySem.assign (.Name z pz) env] [.ref o.addr,u,v]) _ _ _
 refine wpAny_assignInOrder_more (t:=PySem.assign (.Name x px) env) ?_
 refine wpAny_assign_Name (r5.storeAt (b8.at hx wr) fun h2 tk S=>?_)
 have r6:=S.owned r5 L
 refine wpAny_assignInOrder_more (t:=PySem.assign (.Name y py) env) ?_
 refine wpAny_assign_Name (r6.storeAt (b8.at hy wr) fun h3 tk3 S3=>?_)
 have r7:=S3.pure r6 (Rd.mono t3.sub _ _ d2)
 refine wpAny_assignInOrder_more (t:=PySem.assign (.Name z pz) env) ?_
 refine wpAny_assign_Name (r7.storeAt (b8.at hz wr) fun h4 tk4 S4=>?_)
 refine wpAny_assignInOrder_none ?_
 exact k1 .next _ _ _ G3 (k o ho) (S4.pure r7 d3)
theorem aF.pQ {x y:Str} {px py:Pos} {k0 k1':Nat} {pt pv pos:Pos} {e f:PySem.Expr} {p q:PV} (h:bE X n sc ρ ω (.Tuple [e,f] k1' pv) (.tup [p,q]) ω') (hx:sc.names.lookup x=some .local) (hy:sc.names.lookup y=some .local)
  (k:P .next ((x,some p)::(y,some q)::ρ) ((x,none)::(y,none)::ω'))
  (hw:∀env,env.scope=sc→swappedStores [.Tuple [.Name x px, .Name y py] k0 pt] (.Tuple [e,f] k1' pv) env=pure (some [x,y])) (hs:∀env,swapsWithSole [.Tuple [.Name x px, .Name y py] k0 pt] (.Tuple [e,f] k1' pv) pos.line env=pure false:=by intro _;rfl):
  aF X n sc ρ ω (.Assign [.Tuple [.Name x px, .Name y py] k0 pt] (.Tuple [e,f] k1' pv) pos) P R:=by
 intro A env s G D Q E rm wr r k1 k2
 refine Assign_Tuple_swapped (names:=[x,y]) (h A env s G D _ E rm wr r fun v s1 G1 r2 _ d1=>?_) (hs env) (hw env r.er.scope)
 obtain⟨a,vs,rfl,ht,⟨v1,_,rfl,dv1,v2,_,rfl,dv2,rfl⟩,_⟩:=Rd.tuple r2.er.within d1
 have hn:[x,y].length=(List.toArray [v1,v2]).size:=rfl
 rw[hn]
 refine unpackItems_tuple rm.2.2 ht fun h' hx'=>?_
 have r3:=r2.step (r2.er.base.ext (tk:=s1.toks) (bY hx'))
 show wpAny _ A (assignInOrder [fun v=>bindName env y v,fun v=>bindName env x v] [v2,v1]) _ _ _
 refine wpAny_assignInOrder_more ?_
 refine bindName_ ?_
 refine r3.storeAt (.inl hy) fun h2 tk S2=>?_
 have r4:=S2.pure r3 dv2
 refine wpAny_assignInOrder_more ?_
 refine bindName_ ?_
 refine r4.storeAt (.inl hx) fun h3 tk3 S3=>?_
 refine wpAny_assignInOrder_none ?_
 exact k1 .next _ _ _ G1 k (S3.pure r4 dv1)
theorem bE.join {o e1:PySem.Expr} {name:Str} {apos pos:Pos} {l:List (List Nat)} (ho:aa X n sc ρ o (.txt [])) (he:bE X n sc ρ ω e1 (.lst (aI l)) ω') (hz:(l.map List.length).sum≤100000) (hname:name="join":=by rfl)
  (hb:∀env,attributeBase o name env (eval o env)=eval o env:=by intro _;rfl) (hs:∀env,starEach [e1] env=(false,eval e1 env)::starEach [] env:=by intro _;rfl)
  (hfew:∀env,((backTo pos (starEach [e1] env)).all (fun x=>!x.1)&&(backToKw pos (keywordEach [] env)).all (fun x=>x.1.isSome)
   &&decide ([e1].length+([]:List Keyword).length+(if ([]:List Keyword).isEmpty then 0 else 1)<30))=true:=by intro _;rfl)
  (hl:(apos.endLine==pos.line)=true:=by rfl):bE X n sc ρ ω (.Call (.Attribute o name apos) [e1] [] pos) (.txt l.flatten) ω':=by
 subst hname
 intro A env s G D Q E rm wr r k
 have he':eA X n sc ρ ω [e1] [.lst (aI l)] ω':= .cons he .nil hs
 refine wpAny_Call_method_lateS (hb env) (hfew env) hl (ho A env s G _ E rm r.er fun v s1 G1 t1 d1=>⟨"str","str.join",PySem.F.plainAttrs_str,PySem.F.slot_str_join,PySem.F.type_str_join,(dN d1).1,(dN d1).2,?_⟩)
 refine Calls.callWith_builtin ?_ ?_
 ·rw[hs env];rfl
 have key:=fun(Q':List Value→Shared→Prop)=>he'.go A env s1 G1 D pos Q' E rm wr (r.step t1)
 rw[hs env] at key ⊢
 refine evalArgs_plain (key _ fun vs s2 G2 r2 u2 d2=>?_)
 exact nZ r2.er.base (Rd.mono u2 _ _ d1) d2 hz A Q E rm fun v' s' G' t d=>k v' s' G' (r2.step t) ((t1.sub.trans u2).trans t.sub) d
end
noncomputable abbrev gk:=List Nat×List Nat
noncomputable abbrev ig (q:gk):PV:= .tup [.txt q.1, .txt q.2]
section
variable {X:Cx} {n:Nat} {sc:Scope} {ρ:az} {ω ω':aA}
noncomputable def qb (X:Cx) (n:Nat) (sc:Scope) (x:Str) (a d:Addr) (k:Int) (elt:PySem.Expr) (B:Nat):Prop:=
 ∀(L:List gk) (q:gk) (A:Around) (env:Env) (s:Shared) (G:ae) (Q E:Value→Shared→Prop),L.length≤B→q.2.length<1000000→aV A n→bU X env sc [] s G→a0 env s.heap x (.ref a)→(Own.acc a d k ((L++[q]).map ig)).At G s.heap→(∀b∈[a,d],G b=none∧¬aw X b)→
  (∀v s' G',av X [a,d] s G s' G'→(Own.acc a d k (L.map ig)).At G' s'.heap→Rd G' (.txt q.2) v→Q v s')→wpAny (model X.prog X.w) A (eval elt env) Q E s
structure dC (X:Cx) (env:Env) (sc:Scope) (acc:Addr) (x:Str) (a d:Addr) (k:Int) (done:List PV) (L:List gk) (s:Shared) (G:ae):Prop where
 cs:bc X env sc acc [] done s G
 cell:∃c,env.cells.lookup x=some c∧s.heap.IsCell c (some (.ref a))
 at_:(Own.acc a d k (L.map ig)).At G s.heap
 off:∀b∈[a,d],G b=none∧¬aw X b∧b≠acc∧b≠env.locals
variable {env:Env} {acc a d:Addr} {x:Str} {k:Int} {done:List PV} {L:List gk} {s s':Shared} {G G':ae}
theorem dC.iter (p:dC X env sc acc x a d k done L s G) {fp:List Addr} (t:av X fp s G s' G') (lv:cn s.heap fp):dC X env sc acc x a d k done L s' G':=by
 obtain⟨c,h1,h2⟩:=p.cell
 refine⟨p.cs.km t lv,⟨c,h1,t.cell (lv.cell h2) h2⟩,t.at_ p.at_ fun b hb=>?_,fun b hb=>⟨t.lK p.at_ (fun b hb=>(p.off b hb).1) b hb,(p.off b hb).2⟩⟩
 obtain⟨ob,e,q⟩:=p.at_.solid b hb
 exact lv.solid e q
theorem dC.inner (p:dC X env sc acc x a d k done L s G) {done':List PV} (t:av X [acc,env.locals] s G s' G') (cs:bc X env sc acc [] done' s' G'):dC X env sc acc x a d k done' L s' G':=by
 obtain⟨c,h1,h2⟩:=p.cell
 obtain⟨m,hn⟩:=p.cs.ns
 obtain⟨vs,hl,_⟩:=p.cs.list
 have hc:c∉[acc,env.locals]:=by
  simp only[List.mem_cons,List.not_mem_nil,or_false,not_or]
  exact⟨fun z=>ia hl.isList h2 z.symm,dR h2 hn⟩
 refine⟨cs,⟨c,h1,t.cell hc h2⟩,t.at_ p.at_ fun b hb=>?_,fun b hb=>⟨t.lK p.at_ (fun b hb=>(p.off b hb).1) b hb,(p.off b hb).2⟩⟩
 have:=(p.off b hb).2.2
 simp[this.1,this.2]
theorem dC.pop (p:dC X env sc acc x a d k done L s G) {L':List gk} (t:av X [a,d] s G s' G') (h:(Own.acc a d k (L'.map ig)).At G' s'.heap):dC X env sc acc x a d k done L' s' G':=by
 obtain⟨c,h1,h2⟩:=p.cell
 obtain⟨m,hn⟩:=p.cs.ns
 obtain⟨o,ho,_⟩:=cU hn
 obtain⟨oa,hoa,qa⟩:=LstAt.solid p.cs.list
 have of:Off env s.heap [a,d]:=⟨fun hb=>(p.off _ hb).2.2.2 rfl,fun c v hc hb=>by
  obtain⟨ob,e,q⟩:=p.at_.solid c hb
  obtain⟨o',e',dd⟩:=hc
  rw[e] at e';cases e'
  exact q.2.1 _ dd⟩
 have na:acc∉[a,d]:=fun hb=>(p.off _ hb).2.2.1 rfl
 refine⟨⟨t.pZ of p.cs.er,⟨m,t.ns of.loc hn⟩,t.gr p.cs.nsG ho,p.cs.nsX,p.cs.list.keep t.sub (fun ob e=>t.get na e (by rw[hoa] at e;cases e;exact qa.1)),t.gr p.cs.accG hoa,p.cs.accX⟩,⟨c,h1,t.cell (of.cell _ _ h2) h2⟩,h,fun b hb=>⟨?_,(p.off b hb).2⟩⟩
 exact t.off b hb (p.off b hb).1
inductive yG (X:Cx) (sc:Scope) (env:Env) (acc:Addr) (x:Str) (a d:Addr) (k:Int) (B:Nat) (fp:List Addr) (K:ae→Heap→List PV→Prop) (s₀:Shared) (G₀:ae) (all:List PV) (m:Nat) (s:Shared):Prop
 | mk (l done:List PV) (L:List gk) (G:ae) (e:l.length=m) (st:av X (acc::env.locals::a::d::fp) s₀ G₀ s G) (h:done++L.reverse.map (fun q=>PV.txt q.2)=all) (hl:l.length=L.length) (hB:L.length≤B+1) (hq:∀q∈L,q.2.length<1000000) (ps:dC X env sc acc x a d k done L s G) (hK:K G s.heap l) (hG:∀b∈fp,G b=none)
theorem qW {elt iter:PySem.Expr} {x y:Str} {py:Pos} {scope:Scope} {pos:Pos} {env:Env} {acc a d:Addr} {k:Int} {A:Around} {B:Nat} (rm:aV A n) (hy:sc.names.lookup y=some .local) (hE:qb X n sc x a d k elt B) (hkx:env.kindOf x=some .cell)
  {it:Addr} {fp:List Addr} {K:ae→Heap→List PV→Prop} (T:bA X n (.Name y py) it fp K) {Rr:Result→Shared→Prop} {all:List PV} {s₀:Shared} {G₀:ae} (hz:all.length≤10000) (hfp:∀b∈fp,¬aw X b)
  (kk:∀s' G',av X (acc::env.locals::a::d::fp) s₀ G₀ s' G'→dC X env sc acc x a d k all [] s' G'→Rr (.ok .next) s')
  {l:List PV} {done:List PV} {L:List gk} {s:Shared} {G:ae} (st:av X (acc::env.locals::a::d::fp) s₀ G₀ s G) (e:done++L.reverse.map (fun q=>PV.txt q.2)=all) (hl:l.length=L.length) (hB:L.length≤B+1) (hq:∀q∈L,q.2.length<1000000) (ps:dC X env sc acc x a d k done L s G) (hK:K G s.heap l) (hG:∀b∈fp,G b=none):
  codeAny (model X.prog X.w) A (.compLoop (.ListComp elt [⟨.Name y py,iter,[],0⟩] scope pos) 0 (.ref it) (.ref acc) env) Rr s:=by
 refine tK rfl (yG X sc env acc x a d k B fp K s₀ G₀ all) ?_ l.length ⟨l,done,L,G,rfl,st,e,hl,hB,hq,ps,hK,hG⟩
 (intro m s zz;obtain⟨l,done,L,G,rfl,st,e,hl,hB,hq,ps,hK,hG⟩:=zz;rintro Q' E' q1 q2 -)
 show wpAny _ A ((compTurn (.ListComp elt [⟨.Name y py,iter,[],0⟩] scope pos) 0 (.ref it) (.ref acc) env).onRaise (fun x=>do noteFrame x env;theTreesLotGoes x)) _ _ s
 refine wpAny_noted ?_
 rw[jb (tgt:= .Name y py) (iter:=iter) (ifs:=[]) rfl (fun g' e=>by simp at e)]
 generalize notedBy (model X.prog X.w) A env E'=E2
 have lv:cn s.heap fp:=T.live _ _ _ hK
 have there:∀{s G done L},dC X env sc acc x a d k done L s G→∀b∈[acc,env.locals,a,d],∃o,s.heap.get? b=some o:=by
  intro s G done L ps b hb
  obtain⟨m,hn⟩:=ps.cs.ns
  obtain⟨o,ho,_⟩:=cU hn
  obtain⟨oa,hoa,_⟩:=LstAt.solid ps.cs.list
  simp only[List.mem_cons,List.not_mem_nil,or_false] at hb
  rcases hb with rfl | rfl | rfl | rfl
  ·exact⟨oa,hoa⟩
  ·exact⟨o,ho⟩
  ·obtain⟨ob,e,_⟩:=ps.at_.solid b (by simp[Own.fp]);exact⟨ob,e⟩
  ·obtain⟨ob,e,_⟩:=ps.at_.solid b (by simp[Own.fp]);exact⟨ob,e⟩
 have lift:∀{s G s' G' done L fp'},dC X env sc acc x a d k done L s G→cn s.heap fp→(∀b∈fp',b∈acc::env.locals::a::d::fp)→av X fp' s G s' G'→av X (acc::env.locals::a::d::fp) s G s' G':=by
  intro s G s' G' done L fp' ps lv hin t
  refine t.mono hin fun b hb hb'=>?_
  by_cases hq:b∈fp
  ·obtain⟨o,_,ho,_⟩:=lv b hq;exact⟨o,ho⟩
  ·refine there ps b ?_
   simp only[List.mem_cons,List.not_mem_nil,or_false] at hb ⊢
   rcases hb with h | h | h | h | h
   ·exact .inl h
   ·exact .inr (.inl h)
   ·exact .inr (.inr (.inl h))
   ·exact .inr (.inr (.inr h))
   ·exact absurd h hq
 refine yI (wpAny_standAt (yI (wpAny_mono (T.turn A s G _ l (fun r s1=>match r with
  | none=>Rr (.ok .next) s1
  | some v=>wpAny (model X.prog X.w) A (assign (.Name y py) env v>>=fun _=>
    (forIn ([]:List PySem.Expr) true fun c r=>if r=true then do let ok ←isTrue c env (eval c env);pure (ForInStep.yield ok) else pure (ForInStep.yield r))>>=fun ok=>
    if ok=true then emitC elt [⟨.Name y py,iter,[],0⟩] scope pos 1 (.ref acc) env (again (.compLoop (.ListComp elt [⟨.Name y py,iter,[],0⟩] scope pos) 0 (.ref it) (.ref acc) env))
    else again (.compLoop (.ListComp elt [⟨.Name y py,iter,[],0⟩] scope pos) 0 (.ref it) (.ref acc) env))
    Q' E2 s1)
  rm ps.cs.base hK (fun b hb=>⟨hG b hb,hfp b hb⟩) ?_ ?_) (fun r s1 h=>?_) fun _ _ e=>e)))
 ·rintro rfl s' G' t
  have hL:L=[]:=List.length_eq_zero_iff.mp (by simpa using hl.symm)
  subst hL
  have e:done=all:=by simpa using e
  subst e
  exact kk s' G' (st.trans (lift ps lv (fun b hb=>by simp[hb]) t)) (ps.iter t lv)
 ·rintro p l' rfl v s1 G1 t1 d1 hK1
  have ps1:=ps.iter t1 lv
  have lv1:cn s1.heap fp:=T.live _ _ _ hK1
  have hne:L≠[]:=by rintro rfl;simp at hl
  obtain⟨L',q,hLq⟩:∃L' q,L=L'++[q]:=⟨L.dropLast,L.getLast hne,(List.dropLast_concat_getLast hne).symm⟩
  subst hLq
  simp only[List.length_append,List.length_cons,List.length_nil,Nat.zero_add] at hl hB
  refine yI (ps1.cs.assign (fM.name (k:=fun _ _=>True) (.inl hy) trivial) rm d1 fun ρ1 ω1 s2 G2 _ t2 cs2=>?_)
  have ps2:=ps1.inner t2 (cs2.less aG.nil)
  have lv2:∀b∈fp,b∉[acc,env.locals]:=fun b hb hb'=>by
   obtain⟨m,hn⟩:=ps1.cs.ns
   obtain⟨vs,hl,_⟩:=ps1.cs.list
   simp only[List.mem_cons,List.not_mem_nil,or_false] at hb'
   rcases hb' with rfl | rfl
   ·exact lv1.list hl.isList hb
   ·exact lv1.ns hn hb
  refine yI (wpAny_tests_nil ?_)
  rw[if_pos rfl]
  unfold emitC
  obtain⟨c,hc1,hc2⟩:=ps2.cell
  refine yI (yI (hE L' q A env s2 G2 _ _ (by lia) (hq q (by simp)) rm ps2.cs.er (a0.cell hkx hc1 hc2) ps2.at_ (fun b hb=>⟨(ps2.off b hb).1,(ps2.off b hb).2.1⟩) fun u s3 G3 t3 at3 d3=>?_))
  have ps3:=ps2.pop t3 at3
  have hz1:done.length≤10000:=by rw[←e] at hz;simp at hz ⊢;omega
  refine yI (ps3.cs.append d3 hz1 fun s4 t4 cs4=>yJ ?_)
  have ps4:=ps3.inner t4 cs4
  have all14:av X [acc,env.locals,a,d] s1 G1 s4 G3:=by
   have in1:∀b∈[acc,env.locals],b∈[acc,env.locals,a,d]:=fun b hb=>by simp at hb ⊢;rcases hb with h | h<;>simp[h]
   have xr:∀b∈[a,d],b∈[acc,env.locals,a,d]:=fun b hb=>by simp at hb ⊢;rcases hb with h | h<;>simp[h]
   exact((t2.mono in1 fun b hb _=>there ps1 b hb).trans (t3.mono xr fun b hb _=>there ps2 b hb)).trans (t4.mono in1 fun b hb _=>there ps3 b hb)
  have out1:∀b∈fp,b∉[acc,env.locals,a,d]:=fun b hb hb'=>by
   have h1:=lv2 b hb
   simp only[List.mem_cons,List.not_mem_nil,or_false,not_or] at h1 hb'
   rcases hb' with h | h | h | h
   ·exact h1.1 h
   ·exact h1.2 h
   ·obtain⟨ob,e,qq⟩:=ps1.at_.solid b (by simp[Own.fp,h]);exact lv1.solid e qq hb
   ·obtain⟨ob,e,qq⟩:=ps1.at_.solid b (by simp[Own.fp,h]);exact lv1.solid e qq hb
  refine yJ (q2 l'.length _ (Nat.lt_succ_self _) ⟨l',done++[.txt q.2],L',G3,rfl,(st.trans (lift ps lv (fun b hb=>by simp[hb]) t1)).trans (lift ps1 lv1 (fun b hb=>by simp at hb ⊢;rcases hb with h | h | h | h<;>simp[h]) all14),?_,by lia,by lia,fun q' hq'=>hq q' (by simp[hq']),ps4,T.stable _ _ _ _ _ hK1 all14.sub (fun b hb o ho=>?_) all14.within,fun b hb=>?_⟩)
  ·rw[←e];simp
  ·rcases all14.keep b o (out1 b hb) ho with y | ⟨tt,ht,q,_⟩
   ·exact y
   ·exact absurd (.inr (.inr (.inr (.inr (.inr ⟨tt,ht, .inr q⟩))))) (hfp b hb)
  ·obtain⟨o,_,ho,_⟩:=lv b hb
   obtain⟨o',_,ho',_⟩:=lv1 b hb
   exact all14.gr (t1.gr (hG b hb) ho) ho'
 ·cases r with
  | none=>exact yJ (q1 _ _ h)
  | some v=>exact yI (wpAny_mono h (fun _ _ q=>q) fun _ _ q=>q)
end
section
variable {X:Cx} {n:Nat} {sc:Scope} {ρ:az} {ω ω':aA}
theorem av.freeze {fp:List Addr} {s s':Shared} {G G':ae} (t:av X fp s G s' G') {a:Addr} {o:Obj} (g:b5 X s.heap) (hn:s.heap.get? a=none) (ho:s'.heap.get? a=some o) (ha:a∉fp):
  ∃G'',av X fp s G s' G''∧Sub G' G''∧G'' a=some o:=by
 have up:Sub G' (fun b=>if b=a then some o else G' b):=fun b o' e=>by
  show(if b=a then some o else G' b)=some o'
  by_cases q:b=a
  ·rw[if_pos q]
   subst q
   have:=t.within b o' e
   rw[ho] at this;exact this
  ·rw[if_neg q];exact e
 have g1:gU X (fun b=>if b=a then some o else G' b) s':=t.gens.of rfl fun t ht e=>by
  show(if t.2.1=a then some o else G' t.2.1)=none
  rw[if_neg]
  ·exact e
  ·intro z
   obtain⟨o1,h1⟩:=g.tab ht
   rw[z,hn] at h1;cases h1
 have g2:∀b∈fp,G b=none→(if b=a then some o else G' b)=none:=fun b hb e=>by
  have hne:b≠a:=fun z=>ha (z▸hb)
  rw[if_neg hne]
  exact t.off b hb e
 refine⟨fun b=>if b=a then some o else G' b,⟨t.keep,t.gnd,t.sub.trans up,fun b o' e=>?_,fun b o' o'' e h=>?_,t.os,g1,g2⟩,up,if_pos rfl⟩
 ·have e':(if b=a then some o else G' b)=some o':=e
  split at e'
  ·rename_i q;rw[q,←e'];exact ho
  ·exact t.within b o' e'
 ·have e':(if b=a then some o else G' b)=some o':=e
  split at e'
  ·rename_i q;rw[q,hn] at h;cases h
  ·exact t.low b o' o'' e' h
theorem bE.ti {elt iter:PySem.Expr} {x y:Str} {py pos:Pos} {scope:Scope} {a d:Addr} {k:Int} {L:List gk} {items:List PV} {B:Nat} (hx:ω.lookup x=some (some (.acc a d k (L.map ig)))) (hi:dj X n sc ρ iter (.Name y py) items) (hl:items.length=L.length) (hB:L.length≤B+1) (hz:L.length≤10000) (hq:∀q∈L,q.2.length<1000000)
  (hE:qb X n (aX scope sc) x a d k elt B) (hc:aH X sc scope (cm ω ρ)) (hy:(aX scope sc).names.lookup y=some .local) (hxs:(aX scope sc).names.lookup x=some .cell) (hm:(x,NameKind.free)∈scope.names)
  (hs:∀env x,foldedSetIterable iter env x=pure x:=by intro _ _;rfl):
  bE X n sc ρ ω (.ListComp elt [⟨.Name y py,iter,[],0⟩] scope pos) (.lst (L.reverse.map fun q=> .txt q.2)) ((x,some (.acc a d k []))::ω):=by
 intro A env s G D Q E rm wr r q
 obtain⟨cl,h1,h2⟩:=hc.closure r.plus.1
 rw[eval_ListComp]
 have hf:firstIter [⟨.Name y py,iter,[],0⟩] env=eval iter env:=rfl
 rw[show firstAsync [⟨.Name y py,iter,[],0⟩]=false from rfl,hf]
 refine wpAny_comprehension_free (use:=none) (g:=⟨.Name y py,iter,[],0⟩) (gs:=[]) rfl (hs env) h1 hc.kind (fun x hx hl=>(hc.same x hx (.inl hl)).trans (by rw[hl])) ?_
 refine hi A env s G _ E rm r.er fun it fp K s2 G2 t2 f T hK=>?_
 refine wpAny_newObj_type (wpAny_newFunctionEnv hc.nocell (by intro y hy;simp at hy) (fun h₁ hns₁ hsb₁=>?_) hc.kind)
 dsimp only at hns₁ hsb₁ ⊢
 generalize hH2:s2.heap.push {cls:= .type "list",dict:=none,data:= .seq ([]:List Value).toArray}=H2 at hns₁ hsb₁ ⊢
 have hC:H2.objs.size=s2.heap.objs.size+1:=by rw[←hH2,Heap.size_push]
 have old:∀b o,s2.heap.get? b=some o→h₁.get? b=some o:=fun b o e=>hsb₁.extBut b o (by rw[hC];exact Nat.ne_of_lt (Nat.lt_succ_of_lt (Heap.lt_size e))) (Heap.get?_push_of_some _ (hH2▸Heap.get?_push_of_some _ e))
 have st:=t2.base.ext (h':=h₁) (tk:=s2.toks+([]:List (Str×Value)).length) old
 have hrel:relabel scope env=aX scope sc:=by unfold relabel aX Env.kindOf;rw[r.er.scope]
 have fA:s2.heap.get? s2.heap.objs.size=none:=aq _
 have fC:s2.heap.get? H2.objs.size=none:=eP (by rw[hC];exact Nat.le_succ _)
 have hAC:s2.heap.objs.size≠H2.objs.size:=by rw[hC];exact Nat.ne_of_lt (Nat.lt_succ_self _)
 have t02:=t2.trans st
 have r2:=r.step t02
 have at2:=r2.held.at_ x _ hx
 have sol:∀b∈[a,d],∃ob,s.heap.get? b=some ob∧ff ob:=(r.held.at_ x _ hx).solid
 have sol2:∀b∈[a,d],∃ob,s2.heap.get? b=some ob:=fun b hb=>by obtain⟨ob,e,_⟩:=sol b hb;exact bf.there t2.keep e
 have hkx:(compEnvC scope cl H2.objs.size env).kindOf x=some .cell:=by
  unfold Env.kindOf
  rw[show(compEnvC scope cl H2.objs.size env).scope=aX scope sc from hrel];exact hxs
 have ps:dC X (compEnvC scope cl H2.objs.size env) (aX scope sc) s2.heap.objs.size x a d k [] L {s2 with heap:=h₁,toks:=s2.toks+([]:List (Str×Value)).length} G2:=by
  refine⟨⟨⟨st.gnd,st.within,st.gens,hrel,hc.kind,r.er.globals,r.er.builtins,(fun v q e=>by rw[hc.aW] at e;cases e),fun x p e=>nomatch e⟩,⟨_,hns₁⟩,ao t2.within fC,fun q=>(by obtain⟨o,e⟩:=t2.gnd.special q;rw[show(compEnvC scope cl H2.objs.size env).locals=H2.objs.size from rfl,fC] at e;cases e),⟨[],?_,aE.nil⟩,ao t2.within fA,fun q=>(by obtain⟨o,e⟩:=t2.gnd.special q;rw[fA] at e;cases e)⟩,?_,at2,fun b hb=>⟨(r2.eI hx b hb).1,(r2.eI hx b hb).2,fun z=>?_,fun z=>?_⟩⟩
  ·exact⟨0,hsb₁.extBut _ _ hAC (Heap.get?_push_of_some _ (hH2▸Heap.get?_push_size _ rfl))⟩
  ·have hv:=(r2.own x _ hx).1
   have hscx:sc.names.lookup x=some .cell∨sc.names.lookup x=some .free:=(hc.free (x, .free) hm rfl).2
   rcases hv.cases with⟨hk,_⟩ | ⟨c,q1,q2,q3⟩
   ·rw[bh r.er.scope] at hk
    rcases hscx with z | z<;>rw[hk] at z<;>cases z
   ·exact⟨c,(h2 (x, .free) hm rfl).trans q1,q2⟩
  ·obtain⟨ob,e⟩:=sol2 b hb;rw[z,fA] at e;cases e
  ·obtain⟨ob,e⟩:=sol2 b hb;rw[z,show(compEnvC scope cl H2.objs.size env).locals=H2.objs.size from rfl,fC] at e;cases e
 have hKs:K G2 h₁ items:=T.stable _ _ _ _ _ hK (Sub.refl _) (fun b _ o e=>old b o e) st.within
 have hfpX:∀b∈fp,¬aw X b:=fun b hb q=>by obtain⟨o,e⟩:=r.er.gnd.special q;rw[(f b hb).1] at e;cases e
 have go:codeAny (model X.prog X.w) A (.compLoop (.ListComp elt [⟨.Name y py,iter,[],0⟩] scope pos) 0 (.ref it) (.ref s2.heap.objs.size) (compEnvC scope cl H2.objs.size env)) (compPost (model X.prog X.w) A E none Q (.ref s2.heap.objs.size) H2.objs.size) {s2 with heap:=h₁,toks:=s2.toks+([]:List (Str×Value)).length}:=by
  refine qW (B:=B) (all:=L.reverse.map fun q=>PV.txt q.2) (s₀:={s2 with heap:=h₁,toks:=s2.toks+([]:List (Str×Value)).length}) (G₀:=G2) rm hy hE hkx T (by simpa using hz) hfpX (fun s' G' t ps'=>?_) (l:=items) (done:=[]) (L:=L) (G:=G2) (.dh st.base.refl _ fun b hb=>?_) rfl hl hB hq ps hKs (fun b hb=>(f b hb).2)
  ·have tt:av X [a,d] s G s' G':=by
    have A1:av X (s2.heap.objs.size::H2.objs.size::a::d::fp) s G {s2 with heap:=h₁,toks:=s2.toks+([]:List (Str×Value)).length} G2:=by
     have b1:=av.dh t02 [a,d] fun b hb=>by obtain⟨ob,e,_⟩:=sol b hb;exact⟨ob,e⟩
     refine⟨fun b o hb e=>b1.keep b o (fun q=>hb (by simp at q ⊢;rcases q with h | h<;>simp[h])) e,b1.gnd,b1.sub,b1.within,b1.low,b1.os,b1.gens,fun b hb e=>?_⟩
     simp only[List.mem_cons] at hb
     rcases hb with h | h | h | h | h
     ·subst h;exact ao t2.within fA
     ·subst h;exact ao t2.within fC
     ·exact b1.off b (by simp[h]) e
     ·exact b1.off b (by simp[h]) e
     ·exact(f b h).2
    refine(A1.trans t).drop (fun b hb=>?_) fun b hb=>by simp at hb ⊢;rcases hb with h | h<;>simp[h]
    simp only[List.mem_cons] at hb
    rcases hb with h | h | h | h | h
    ·subst h;exact .inr (aB t2 fA)
    ·subst h;exact .inr (aB t2 fC)
    ·exact .inl (by simp[h])
    ·exact .inl (by simp[h])
    ·exact .inr (f b h).1
   obtain⟨m,hn⟩:=ps'.cs.ns
   refine⟨m,hn,fun h' hs'=>?_⟩
   obtain⟨vs,hl,dd⟩:=ps'.cs.list
   obtain⟨oC,hoC,qC⟩:=Ns.solid hn
   have hC0:s.heap.get? H2.objs.size=none:=aB t2 fC
   have hA0:s.heap.get? s2.heap.objs.size=none:=aB t2 fA
   have g':=tt.gnd.sameBut hs' (fun z=>by obtain⟨o,e⟩:=r.er.gnd.special z;rw[hC0] at e;cases e) hoC (fun vs _ h=>qC.1 vs h)
   have neC:∀{b o},s.heap.get? b=some o→b≠H2.objs.size:=fun e z=>by rw[z,hC0] at e;cases e
   have t':av X [a,d] s G {s' with heap:=h'} G':=by
    refine⟨fun b o hb e=>?_,g',tt.sub,fun b o e=>(hs'.2 b (fun z=>by rw[z,show G' H2.objs.size=none from ps'.cs.nsG] at e;cases e)).trans (tt.within b o e),tt.low,tt.os,tt.gens,tt.off⟩
    rcases tt.keep b o hb e with x | ⟨tt,ht,z,vs,more,rr,y⟩
    ·exact .inl ((hs'.2 b (neC e)).trans x)
    ·exact .inr ⟨tt,ht,z,vs,more,rr,(hs'.2 b (neC e)).trans y⟩
   have hl':h'.PlainList s2.heap.objs.size (List.toArray vs):=hl.at fun o e=>(hs'.2 _ hAC).trans e
   obtain⟨o,ho,hcl,mm,hd⟩:=hl'.isList
   obtain⟨G'',t'',up,hG⟩:=t'.freeze r.er.gnd hA0 ho (fun hb=>by obtain⟨ob,e,_⟩:=sol _ hb;rw[hA0] at e;cases e)
   have at':(Own.acc a d k []).At G'' h':=ps'.at_.keep up fun b hb ob e=>(hs'.2 b (ps'.off b hb).2.2.2).trans e
   exact q _ _ G'' (r.alter hx t'' at' rfl rfl) t''.sub ⟨_,o,vs,mm,rfl,hG,hcl,hd,aE.mono up _ _ dd⟩
  ·simp only[List.mem_cons] at hb
   rcases hb with h | h | h | h | h
   ·obtain⟨o,ho,_⟩:=LstAt.solid ps.cs.list;exact⟨o,h▸ho⟩
   ·obtain⟨_,hn⟩:=ps.cs.ns;obtain⟨o,ho,_⟩:=cU hn;exact⟨o,h▸ho⟩
   ·obtain⟨ob,e⟩:=sol2 b (by simp[h]);exact⟨ob,old _ _ e⟩
   ·obtain⟨ob,e⟩:=sol2 b (by simp[h]);exact⟨ob,old _ _ e⟩
   ·obtain⟨o,_,ho,_⟩:=T.live _ _ _ hKs b h;exact⟨o,ho⟩
 exact b4 rfl go (T.self A _ G2 items _ _ hKs go)
theorem varName {A:Around} {env:Env} {s:Shared} {x:Str} {px:Pos} {v:Value} {Q E:Value→Shared→Prop} (hk:env.scope.kind= .function) (a:a0 env s.heap x v) (k:Q v s) (hd:(x==("__debug__":Str))=false:=by decide):wpAny (model X.prog X.w) A (eval (.Name x px) env) Q E s:=by
 refine wpAny_Name ?_ hd
 unfold a0 at a
 split at a
 ·rename_i hl
  obtain⟨m,hn,hv⟩:=a
  exact wpAny_loadName_local hk hl hn hv k
 ·rename_i hl
  obtain⟨c,hc,hv⟩:=a
  exact wpAny_loadName_cell hk hl hc hv k
 ·rename_i hl
  obtain⟨c,hc,hv,hz⟩:=a
  exact wpAny_loadName_free hk hl hc hv k hz
 ·exact a.elim
theorem qb.of {x name:Str} {px apos cp pos:Pos} {slice:PySem.Expr} {a d:Addr} {k:Int} {B:Nat} {f:Addr} {oc:Value} {fod:Option Addr} {osl:Array (Option Value)} {fd:FuncData} {pl:Env→Sem Bool} (kc:dD X.K bq) (hf:findIn X.K (.ref bq) name=some (some (.ref f))) (hk:X.K.lookup f=some ⟨oc,fod, .func fd,osl⟩) (ht:typeIn X.K (.ref f)=some (.type "function"))
  (h:∀(l:List PV) (p:PV),l.length≤B→gN X n f (.acc a d k (l++[p])) [] p (.acc a d k l)) (hsl:aa X n sc [] slice (.int 1))
  (hname:name∈eB:=by decide) (hd:(x==("__debug__":Str))=false:=by decide)
  (hss:∀o i,subscripted slice false o i=operate [o,i] (PySem.getItem o i):=by intro _ _;rfl)
  (he:∀env,eval (.Call (.Attribute (.Name x px) name apos) [] [] cp) env=(do
   let ov ←eval (.Name x px) env
   standAt apos.atName
   let (f,first) ←holding [ov] (getMethod ov name (pl env))
   callWith cp f first (backTo cp (starEach [] env)) (backToKw cp (keywordEach [] env))):=by intro _;rfl):qb X n sc x a d k (.Subscript (.Call (.Attribute (.Name x px) name apos) [] [] cp) slice pos) B:=by
 intro L q A env s G Q E hL hq rm ev hv hat hoff K
 have hkf:env.scope.kind= .function:=by rw[ev.scope];exact ev.kind
 refine Subscript_ (methodCall_KW (pl:=pl env) (varName hkf hv ?_ hd) (he env))
 obtain⟨ob,od,m,I,hn,hm⟩:=hat.inst (show(Own.acc a d k ((L++[q]).map ig)).cls≠0 by show bq≠0;decide)
 refine eZ ev.gnd.kin kc I hn (hm _ hname) hf ht ?_
 refine callWith_function (o:=⟨oc,fod, .func fd,osl⟩) (fd:=fd) ?_
 refine aY aj.nil rm ev fun us s2 G2 t2 d2=>?_
 cases d2
 refine⟨⟨t2.gnd.kin _ _ hk,rfl⟩,?_⟩
 have sol:∀b∈[a,d],∃ob,s.heap.get? b=some ob∧ff ob:=hat.solid
 have at2:(Own.acc a d k ((L.map ig)++[ig q])).At G2 s2.heap:=by
  have:(Own.acc a d k ((L++[q]).map ig)).At G2 s2.heap:=hat.keep t2.sub fun b hb ob e=>by
   obtain⟨ob',e',qq⟩:=sol b hb
   rw[e] at e';cases e'
   exact bf.get' t2.keep e qq.1
  simpa using this
 refine wpAny_call ?_
 refine h (L.map ig) (ig q) (by simpa using hL) A s2 G2 [] (fun r s'=>match r with | .ok (.ret v)=>_ | .ok _=>False | .error e=>E e s') rm t2.base at2 (fun b hb=>⟨?_,(hoff b hb).2⟩) aE.nil fun v s4 G4 t4 h4 _ d4=>?_
 ·obtain⟨ob,e,_⟩:=sol b hb
  exact t2.cg (hoff b hb).1 e
 have t04:av X [a,d] s G s4 G4:=(av.dh t2 [a,d] fun b hb=>by obtain⟨ob,e,_⟩:=sol b hb;exact⟨ob,e⟩).trans t4
 have ev4:bU X env sc [] s4 G4:=⟨t4.gnd,t4.within,t4.gens,ev.scope,ev.kind,ev.globals,ev.builtins,ev.cod,fun _ _ e=>nomatch e⟩
 refine hsl A env s4 G4 _ E rm ev4 fun i s5 G5 t5 d5=>?_
 have dt:=Rd.mono t5.sub _ _ d4
 obtain⟨T,id,h1,h2,h3⟩:=aL.tup (X:=X) (n:=n) (l:=[.txt q.1, .txt q.2]) (i:=1) (r:= .txt q.2) rfl (by simp) G5 s5 v i t5.base dt d5
 refine tail_any h2 h1 (h3 A _ E rm fun u s6 G6 t6 d6=>?_) (hss v i)
 have t56:=t5.trans t6
 refine K u s6 G6 (t04.trans (av.dh t56 [a,d] fun b hb=>?_)) ?_ d6
 ·obtain⟨ob,e,_⟩:=h4.solid b hb;exact⟨ob,e⟩
 ·exact h4.keep t56.sub fun b hb ob e=>by
   obtain⟨ob',e',qq⟩:=h4.solid b hb
   rw[e] at e';cases e'
   exact bf.get' t56.keep e qq.1
end
section
variable {X:Cx} {n:Nat} {sc:Scope} {ρ:az} {ω ω':aA}
theorem aK.pow {a:Int} {k:Nat} (hk:k≤1000:=by decide) (ha:a.natAbs<2 ^ 64:=by decide):aK X n .Pow (.int a) (.int k) (.int (a ^ k)):=by
 (intro G s _ _ bs zz;obtain⟨t,rfl⟩:=zz;intro zz;obtain⟨u,rfl⟩:=zz)
 exact .toks bs ⟨_,rfl⟩ fun A Q E _ q=>pow_int_small (by omega) (by lia) ha (by rw[Int.toNat_natCast];exact q)
theorem gK {G:ae}:∀{l:List Int} {vs:List Value},aE G (ai l) vs→∃xs:List (Int×Tok),vs=xs.map (fun p=>Value.int p.1 p.2)∧xs.map (·.1)=l
 | [],_,h=>by cases h;exact⟨[],rfl,rfl⟩
 | x::l,_,⟨v,r,e,⟨t,ev⟩,d⟩=>by
  subst e ev
  obtain⟨xs,h1,h2⟩:=gK d
  exact⟨(x,t)::xs,by rw[h1];rfl,by rw[←h2];rfl⟩
theorem uS {G:ae} {s:Shared} {vs:List Value} {l:List Int} {M:Int} (bs:Base X s G) (d:aE G [.lst (ai l)] vs) (hM:M∈l) (hle:∀a∈l,a≤M):lH X n G s (call (.builtin "max") vs) (.int M):=by
 obtain⟨v,_,rfl,d,rfl⟩:=d
 obtain⟨a,us,rfl,hl,du,_⟩:=Rd.list bs.within d
 obtain⟨xs,rfl,rfl⟩:=gK du
 intro A Q E rm q
 have hsz:0<xs.toArray.size:=by
  cases xs with
  | nil=>cases hM
  | cons x xs=>simp
 have hl':s.heap.IsList a (intItems xs.toArray):=by simpa [intItems] using hl
 refine max_intList (xs:=xs.toArray) rm.2.2 hl' hsz fun v h' tk hv hk=>?_
 obtain⟨t,rfl⟩:=intItems_at hv
 refine q _ _ G (bs.ext hk) ⟨t,congrArg (fun i=>Value.int i t) ?_⟩
 obtain⟨h1,h2⟩:=argBest_gt (numAt xs.toArray) (xs.toArray.size - 1)
 have key:∀j,j<xs.toArray.size→numAt xs.toArray j∈xs.map (·.1):=fun j hj=>by
  rw[numAt_eq];exact getD_mem (by simpa using hj)
 refine Int.le_antisymm (hle _ (key _ (by omega))) ?_
 obtain⟨j,hj,e⟩:=mem_getD hM
 have:=h2 j (by simp at hj ⊢;omega)
 have e':xs.toArray.toList.map (·.1)=xs.map (·.1):=by simp
 have ej:numAt xs.toArray j=M:=by rw[numAt_eq,e'];exact e
 rw[←ej];exact this
theorem uR {G:ae} {s:Shared} {vs:List Value} {l:List Int} {M:Int} (bs:Base X s G) (d:aE G [.lst (ai l)] vs) (hM:M∈l) (hle:∀a∈l,M≤a):lH X n G s (call (.builtin "min") vs) (.int M):=by
 obtain⟨v,_,rfl,d,rfl⟩:=d
 obtain⟨a,us,rfl,hl,du,_⟩:=Rd.list bs.within d
 obtain⟨xs,rfl,rfl⟩:=gK du
 intro A Q E rm q
 have hsz:0<xs.toArray.size:=by
  cases xs with
  | nil=>cases hM
  | cons x xs=>simp
 have hl':s.heap.IsList a (intItems xs.toArray):=by simpa [intItems] using hl
 refine min_intList (xs:=xs.toArray) rm.2.2 hl' hsz fun v h' tk hv hk=>?_
 obtain⟨t,rfl⟩:=intItems_at hv
 refine q _ _ G (bs.ext hk) ⟨t,congrArg (fun i=>Value.int i t) ?_⟩
 obtain⟨h1,h2⟩:=argBest_lt (numAt xs.toArray) (xs.toArray.size - 1)
 have key:∀j,j<xs.toArray.size→numAt xs.toArray j∈xs.map (·.1):=fun j hj=>by
  rw[numAt_eq];exact getD_mem (by simpa using hj)
 refine Int.le_antisymm ?_ (hle _ (key _ (by omega)))
 obtain⟨j,hj,e⟩:=mem_getD hM
 have:=h2 j (by simp at hj ⊢;omega)
 have e':xs.toArray.toList.map (·.1)=xs.map (·.1):=by simp
 have ej:numAt xs.toArray j=M:=by rw[numAt_eq,e'];exact e
 rw[←ej];exact this
theorem aa.max {x:Str} {pf pos:Pos} {e:PySem.Expr} {l:List Int} {M:Int} (hf:aa X n sc ρ (.Name x pf) (.opq (.builtin "max"))) (he:aa X n sc ρ e (.lst (ai l))) (hM:M∈l) (hle:∀a∈l,a≤M) (hs:∀env,starEach [e] env=(false,eval e env)::starEach [] env:=by intro _;rfl):
 aa X n sc ρ (.Call (.Name x pf) [e] [] pos) (.int M):=aa.kr hf (.cons he .nil hs) fun G s vs bs d=>uS bs d hM hle
theorem aa.min {x:Str} {pf pos:Pos} {e:PySem.Expr} {l:List Int} {M:Int} (hf:aa X n sc ρ (.Name x pf) (.opq (.builtin "min"))) (he:aa X n sc ρ e (.lst (ai l))) (hM:M∈l) (hle:∀a∈l,M≤a) (hs:∀env,starEach [e] env=(false,eval e env)::starEach [] env:=by intro _;rfl):
 aa X n sc ρ (.Call (.Name x pf) [e] [] pos) (.int M):=aa.kr hf (.cons he .nil hs) fun G s vs bs d=>uR bs d hM hle
noncomputable def ke (a b:Int×Int):Bool:=if a.1==b.1 then decide (a.2<b.2) else decide (a.1<b.1)
noncomputable def dB (b:Int×Int) (l:List (Int×Int)):Int×Int:=l.foldl (fun b x=>if ke x b then x else b) b
noncomputable abbrev cS (x:Int×Int):PV:= .tup [.int x.1, .int x.2]
theorem uQ {A:Around} {s:Shared} {G:ae} {x y:Int×Int} {v u:Value} {Q E:Value→Shared→Prop} (rm:A.units<cLine) (w:Sub G s.heap.get?) (dx:Rd G (cS x) v) (dy:Rd G (cS y) u) (q:Q (.bool (ke x y)) s):wpAny (model X.prog X.w) A (richCompare .Lt v u) Q E s:=by
 obtain⟨a,oa,vs,na,rfl,ga,ca,da,ra⟩:=dx
 obtain⟨b,ob,us,nb,rfl,gb,cb,db,rb⟩:=dy
 obtain⟨_,_,rfl,⟨t1,rfl⟩,_,_,rfl,⟨t2,rfl⟩,rfl⟩:=ra
 obtain⟨_,_,rfl,⟨u1,rfl⟩,_,_,rfl,⟨u2,rfl⟩,rfl⟩:=rb
 have hoa:=w _ _ ga
 have hob:=w _ _ gb
 have hTa:s.TypeIs (.ref a) "tuple":=⟨oa,hoa,ca⟩
 have hTb:s.TypeIs (.ref b) "tuple":=⟨ob,hob,cb⟩
 refine wpAny_richCompare_same_room (op:= .Lt) hTa hTb F.slot_tuple_lt (wpAny_call_entry F.slot_tuple_lt hTa F.entry_tuple_lt ?_ (F.args_tuple_lt_2 _ _)) rm
 show wpAny _ _ (isInstance (.ref b) (.type "tuple")>>=_) _ _ s
 refine yI (wpAny_isInstance hTb isSubtype_tuple_tuple ?_)
 dsimp only[Bool.not_true,iF]
 refine yI (wpAny_tupleItemsOf hoa da ?_)
 refine yI (wpAny_tupleItemsOf hob db ?_)
 simp only[List.zip_cons_cons,List.zip_nil_left,List.forIn_cons,List.forIn_nil]
 refine yI (yI (yI (wpAny_eqBool_int ?_)))
 unfold ke at q
 cases hb:(x.1==y.1) with
 | false=>
  rw[hb] at q
  dsimp only[iF] at q
  simp only[Bool.not_false,if_true]
  refine yI (wpAny_rule (yI (PySem.P.lt_int ?_)))
  exact yJ (yJ (yJ ⟨_,rfl,(fun e=>nomatch e),q⟩))
 | true=>
  rw[hb] at q
  dsimp only[iT] at q
  simp only[Bool.not_true,Bool.false_eq_true,if_false]
  refine yJ (yI (yI (wpAny_eqBool_int ?_)))
  cases hb2:(x.2==y.2) with
  | false=>
   simp only[Bool.not_false,if_true]
   refine yI (wpAny_rule (yI (PySem.P.lt_int ?_)))
   exact yJ (yJ (yJ ⟨_,rfl,(fun e=>nomatch e),q⟩))
  | true=>
   simp only[Bool.not_true,Bool.false_eq_true,if_false]
   have:decide (x.2<y.2)=false:=decide_eq_false (by have:=eq_of_beq hb2;lia)
   rw[this] at q
   exact yJ (yJ (yJ ⟨_,rfl,(fun e=>nomatch e),q⟩))
theorem qZ {A:Around} {R:Result→Shared→Prop} {l I S:Addr} {vs:List Value} {xs:List (Int×Int)} {G:ae} {h₀:Heap} (rm:aV A (n+1)) (hl:h₀.IsList l vs.toArray) (w₀:Sub G h₀.get?) (d:aE G (xs.map cS) vs) (hI:h₀.get? I=none) (hS:h₀.get? S=none) (hSI:S≠I):
  ∀(k j:Nat) (s:Shared) (vb:Value) (c:Nat) (b:Int×Int),xs.length - j=k→j≤xs.length→s.heap.IsListIter I l j→(∀a o,h₀.get? a=some o→s.heap.get? a=some o)→Rd G (cS b) vb→
   s.heap.get? S=some {cls:= .type "list",dict:=none,data:= .seq #[vb,vb] c,slots:= #[]}→
   (∀v h' tk,Rd G (cS (dB b (xs.drop j))) v→(∀a o,h₀.get? a=some o→h'.get? a=some o)→R (.ok (.ret v)) {s with heap:=h',toks:=tk})→
   codeAny (model X.prog X.w) A (.builtin "min.loop" ⟨[.ref I, .none, .ref S],[]⟩) R s:=by
 have hname:(toString "min"++toString ".loop":String)="min.loop":=by decide
 have hlen:=d.length
 rw[List.length_map] at hlen
 have neL:∀{a o},h₀.get? a=some o→a≠I∧a≠S:=fun e=>⟨fun z=>(by rw[z,hI] at e;cases e),fun z=>(by rw[z,hS] at e;cases e)⟩
 have hlI:l≠I∧l≠S:=by obtain⟨o,e,_⟩:=hl;exact neL e
 intro k
 induction k with
 | zero=>
  intro j s vb c b hk hj hit h0 dv hs hR
  have hjn:j=xs.length:=by omega
  refine codeAny_builtin F.entry_min_loop ?_
  rw[Around.under_plainId F.plain_min_loop _]
  show wpAny _ A.in1 (seqItems? (.ref S)>>=_) _ _ s
  refine yI (wpAny_seqItems hs rfl ?_)
  show wpAny _ A.in1 (tryCatch (pyNext (.ref I)) _>>=_) _ _ s
  have hls:SeqAt s.heap l vs.toArray:=by obtain⟨o,e,_,m,dd⟩:=hl;exact⟨o,m,h0 _ _ e,dd⟩
  refine yI (wpAny_tryCatch (gH rm.2.2 hit hls (by simp;lia) fun h' hx=>?_))
  have hs':=hx S _ hSI hs
  show wpAny _ A.in1 (updateSeq S (fun _=> #[])>>=_) _ _ _
  refine yI (wpAny_updateSeq hs' rfl (yI (wpAny_letGo (yJ ?_))))
  refine hR vb _ _ ?_ fun a o e=>(Heap.get?_update_other _ _ (Ne.symm (neL e).2)).trans (hx a o (neL e).1 (h0 a o e))
  rw[hjn,List.drop_length];exact dv
 | succ k ih=>
  intro j s vb c b hk hj hit h0 dv hs hR
  have hlt:j<xs.length:=by omega
  obtain⟨x,hx⟩:∃x,xs[j]?=some x:=⟨_,yM hlt⟩
  have hdrop:xs.drop j=x::xs.drop (j+1):=by
   obtain⟨_,e⟩:=List.getElem?_eq_some_iff.mp hx
   rw[←e];exact List.drop_eq_getElem_cons hlt
  obtain⟨v,hv,dx⟩:=d.get (show(xs.map cS)[j]?=some (cS x) by rw[List.getElem?_map,hx];rfl)
  refine codeAny_builtin F.entry_min_loop ?_
  rw[Around.under_plainId F.plain_min_loop _]
  show wpAny _ A.in1 (seqItems? (.ref S)>>=_) _ _ s
  refine yI (wpAny_seqItems hs rfl ?_)
  show wpAny _ A.in1 (tryCatch (pyNext (.ref I)) _>>=_) _ _ s
  have hls:SeqAt s.heap l vs.toArray:=by obtain⟨o,e,_,m,dd⟩:=hl;exact⟨o,m,h0 _ _ e,dd⟩
  refine yI (wpAny_tryCatch (eb hit hls (x:=v) (by simpa using hv) fun h' hit' hsb=>?_))
  have hs':h'.get? S=_:=hsb.extBut S _ hSI hs
  have h0':∀a o,h₀.get? a=some o→h'.get? a=some o:=fun a o e=>hsb.extBut a o (neL e).1 (h0 a o e)
  show wpAny _ A.in1 (tryCatch (holding [v,v] (richCompare .Lt v vb>>=_)) _>>=_) _ _ _
  refine yI (wpAny_tryCatch (wpAny_holding (yI (uQ (by have:=rm.2.1;show A.units+1<cLine;omega) (fun a o e=>h0' a o (w₀ a o e)) dx dv ?_))))
  refine yI (wpAny_holding (wpAny_truthy_bool ?_))
  refine yI (wpAny_letGo (yJ ?_))
  have hbest:dB b (xs.drop j)=dB (if ke x b then x else b) (xs.drop (j+1)):=by rw[hdrop];rfl
  rw[hbest] at hR
  cases hb:ke x b with
  | true=>
   rw[hb] at hR
   dsimp only[iT] at hR ⊢
   refine yI (wpAny_updateSeq hs' rfl (yI (wpAny_letGo ?_)))
   rw[hname]
   refine yJ ⟨plainId_quiet F.plain_min_loop _,ih (j+1) _ v _ x (by omega) hlt (hit'.at fun o e=>(Heap.get?_update_other _ _ hSI).trans e) (fun a o e=>(Heap.get?_update_other _ _ (Ne.symm (neL e).2)).trans (h0' a o e)) dx (Heap.get?_update_self _ hs' rfl) fun v' h'' tk' dv' hk'=>hR v' h'' tk' dv' hk'⟩
  | false=>
   rw[hb] at hR
   dsimp only[iF] at hR ⊢
   refine yI (wpAny_letGo ?_)
   rw[hname]
   exact yJ ⟨plainId_quiet F.plain_min_loop _,ih (j+1) _ vb c b (by omega) hlt hit' h0' dv hs' fun v' h'' tk' dv' hk'=>hR v' h'' tk' dv' hk'⟩
theorem sk {G:ae} {s:Shared} {vs:List Value} {x:Int×Int} {xs:List (Int×Int)} (bs:Base X s G) (d:aE G [.lst ((x::xs).map cS)] vs):lH X (n+1) G s (call (.builtin "min") vs) (cS (dB x xs)):=by
 obtain⟨v,_,rfl,d,rfl⟩:=d
 obtain⟨l,us,rfl,hl,du,_⟩:=Rd.list bs.within d
 intro A Q E rm q
 have hname:(toString "min"++toString ".loop":String)="min.loop":=by decide
 refine call_function_tree F.kind_min F.plain_min F.entry_min (F.args_min1 _) ?_
 show wpAny _ A.in1 (Builtin.Builtins.bindParams "min" ["key","default"] 0 ⟨[],[]⟩>>=_) _ _ s
 refine yI (wpAny_of_eq (show Builtin.Builtins.bindParams "min" ["key","default"] 0 ⟨[],[]⟩=pure [none,none] from rfl) ?_)
 refine yI (yJ (yI (wpAny_pyIter_list hl ?_)))
 refine yI (wpAny_newObj_type ?_)
 rw[hname]
 refine yJ ⟨plainId_quiet F.plain_min_loop _,?_⟩
 have hI:s.heap.get? s.heap.objs.size=none:=aq _
 have hsz:(s.heap.push {cls:= .type "list_iterator",data:= .fields #[.ref l, .int 0 0]}).objs.size=s.heap.objs.size+1:=Heap.size_push ..
 have hS:s.heap.get? (s.heap.push {cls:= .type "list_iterator",data:= .fields #[.ref l, .int 0 0]}).objs.size=none:=eP (by rw[hsz];exact Nat.le_succ _)
 have hSI:(s.heap.push {cls:= .type "list_iterator",data:= .fields #[.ref l, .int 0 0]}).objs.size≠s.heap.objs.size:=by rw[hsz];exact Nat.succ_ne_self _
 generalize hH:s.heap.push {cls:= .type "list_iterator",data:= .fields #[.ref l, .int 0 0]}=H at hS hSI ⊢
 have hIo:H.get? s.heap.objs.size=some {cls:= .type "list_iterator",data:= .fields #[.ref l, .int 0 0]}:=hH▸Heap.get?_push_size _ rfl
 have hit:(H.push {cls:= .type "list",dict:=none,data:= .seq ([]:List Value).toArray}).IsListIter s.heap.objs.size l 0:=⟨_,Heap.get?_push_of_some _ hIo,rfl,rfl⟩
 have old:∀b o,s.heap.get? b=some o→(H.push {cls:= .type "list",dict:=none,data:= .seq ([]:List Value).toArray}).get? b=some o:=fun b o e=>Heap.get?_push_of_some _ (hH▸Heap.get?_push_of_some _ e)
 have hs0:(H.push {cls:= .type "list",dict:=none,data:= .seq ([]:List Value).toArray}).get? H.objs.size=some {cls:= .type "list",dict:=none,data:= .seq ([]:List Value).toArray}:=Heap.get?_push_size _ rfl
 generalize H.push {cls:= .type "list",dict:=none,data:= .seq ([]:List Value).toArray}=H2 at hit old hs0 ⊢
 obtain⟨v,hv,dv⟩:=du.get (show((x::xs).map cS)[0]?=some (cS x) from rfl)
 refine codeAny_builtin F.entry_min_loop ?_
 rw[Around.under_plainId F.plain_min_loop _]
 show wpAny _ A.in1 (seqItems? (.ref H.objs.size)>>=_) _ _ _
 refine yI (wpAny_seqItems hs0 rfl ?_)
 show wpAny _ A.in1 (tryCatch (pyNext (.ref s.heap.objs.size)) _>>=_) _ _ _
 have hls:SeqAt H2 l us.toArray:=by obtain⟨o,e,_,m,dd⟩:=hl;exact⟨o,m,old _ _ e,dd⟩
 refine yI (wpAny_tryCatch (eb hit hls (x:=v) (by simpa using hv) fun h' hit' hsb=>?_))
 have hs':h'.get? H.objs.size=_:=hsb.extBut H.objs.size _ hSI hs0
 have ne:∀{a o},s.heap.get? a=some o→a≠s.heap.objs.size∧a≠H.objs.size:=fun e=>⟨fun z=>(by rw[z,hI] at e;cases e),fun z=>(by rw[z,hS] at e;cases e)⟩
 have old':∀a o,s.heap.get? a=some o→h'.get? a=some o:=fun a o e=>hsb.extBut a o (ne e).1 (old a o e)
 show wpAny _ A.in1 (updateSeq H.objs.size (fun _=> #[v,v])>>=_) _ _ _
 refine yI (wpAny_updateSeq hs' rfl ?_)
 rw[hname]
 refine yJ ⟨plainId_quiet F.plain_min_loop _,qZ (n:=n) rm hl bs.within du hI hS hSI _ 1 _ v _ x rfl (by simp) (hit'.at fun o e=>(Heap.get?_update_other _ _ hSI).trans e) (fun a o e=>(Heap.get?_update_other _ _ (Ne.symm (ne e).2)).trans (old' a o e)) dv (Heap.get?_update_self _ hs' rfl) fun u h'' tk du' hk=>?_⟩
 exact q u _ G (bs.ext hk) du'
theorem aa.xR {y:Str} {pf pos:Pos} {e:PySem.Expr} {x:Int×Int} {xs:List (Int×Int)} (hf:aa X (n+1) sc ρ (.Name y pf) (.opq (.builtin "min"))) (he:aa X (n+1) sc ρ e (.lst ((x::xs).map cS))) (hs:∀env,starEach [e] env=(false,eval e env)::starEach [] env:=by intro _;rfl):
 aa X (n+1) sc ρ (.Call (.Name y pf) [e] [] pos) (cS (dB x xs)):=aa.kr hf (.cons he .nil hs) fun G s vs bs d=>sk bs d
end
end
section
open PySem PySem.W PyProof.Rows PySem.Calls
variable {X:Cx} {sc:Scope} {ρ:az}
noncomputable def yu (sc scope:Scope) (ρ:az):Bool:=
 scope.names.all fun q=>decide (q.2≠ .cell)&&(!decide (q.2= .local∨q.2= .free)||decide (scope.names.lookup q.1=some q.2))&&(!decide (q.2= .free)||((ρ.lookup q.1).join.isSome&&decide (sc.names.lookup q.1=some .cell∨sc.names.lookup q.1=some .free)))
theorem aH.jw {scope:Scope} (h1:X.codeOf (aX scope sc)=none) (h2:scope.kind= .function) (h:yu sc scope ρ=true):aH X sc scope ρ:=by
 have h:∀q∈scope.names,(q.2≠ .cell∧((q.2= .local∨q.2= .free)→scope.names.lookup q.1=some q.2))∧(q.2= .free→(ρ.lookup q.1).join.isSome=true∧(sc.names.lookup q.1=some .cell∨sc.names.lookup q.1=some .free)):=fun q hq=>by
  have:=List.all_eq_true.mp h q hq
  rw[Bool.and_eq_true,Bool.and_eq_true,Bool.or_eq_true,Bool.or_eq_true,Bool.and_eq_true,Bool.not_eq_true',Bool.not_eq_true',decide_eq_true_eq,decide_eq_true_eq,decide_eq_true_eq,decide_eq_false_iff_not,decide_eq_false_iff_not] at this
  exact⟨⟨this.1.1,fun k=>this.1.2.elim (absurd k) id⟩,fun k=>this.2.elim (absurd k) id⟩
 exact⟨h1,h2,fun q hq=>(h q hq).1.1,fun q hq=>(h q hq).1.2,fun q hq=>(h q hq).2⟩
noncomputable def nI (ρ:az) (x:Str):Option PV:=match ρ.lookup x with | some (some p)=>some p | _=>none
set_option tactic.hygienic true in
theorem nh {x:Str} {p:PV} (h:nI ρ x=some p):ρ.lookup x=some (some p):=by
 unfold nI at h
 cases e:ρ.lookup x with
 | none=>rw[e] at h;cases h
 | some o=>rw[e] at h;cases o with
  | none=>cases h
  | some q=>exact h▸rfl
theorem kB {x:Str} {p:PV}:∀{l:az},(l.map fun q=>(q.1,nI ρ q.1)).lookup x=some (some p)→ρ.lookup x=some (some p)
 | [],h=>nomatch h
 | (y,u)::l,h=>by
  by_cases hy:x=y
  ·subst hy;rw[List.map_cons,aM] at h;exact nh (Option.some.inj h)
  ·rw[List.map_cons,aN hy] at h;exact kB h
theorem aG.self {ρ':az} (h:(ρ'.map fun q=>(q.1,nI ρ q.1))=ρ'):aG ρ' ρ:=fun x p e=>kB (h▸e)
noncomputable def nJ (ω:aA) (x:Str):Option Own:=match ω.lookup x with | some (some p)=>some p | _=>none
set_option tactic.hygienic true in
theorem ni {ω:aA} {x:Str} {p:Own} (h:nJ ω x=some p):ω.lookup x=some (some p):=by
 unfold nJ at h
 cases e:ω.lookup x with
 | none=>rw[e] at h;cases h
 | some o=>rw[e] at h;cases o with
  | none=>cases h
  | some q=>exact h▸rfl
theorem kC {ω:aA} {x:Str} {p:Own}:∀{l:aA},(l.map fun q=>(q.1,nJ ω q.1)).lookup x=some (some p)→ω.lookup x=some (some p)
 | [],h=>nomatch h
 | (y,u)::l,h=>by
  by_cases hy:x=y
  ·subst hy;rw[List.map_cons,aM] at h;exact ni (Option.some.inj h)
  ·rw[List.map_cons,aN hy] at h;exact kC h
theorem aC.self {ω ω':aA} (h:(ω'.map fun q=>(q.1,nJ ω q.1))=ω'):aC ω' ω:=fun x p e=>kC (h▸e)
theorem bI {l:List Str} (h:(l.all fun y=>decide (sc.names.lookup y=some .local∨sc.names.lookup y=some .cell))=true):∀y∈l,b8 sc y:=fun y hy=>show _∨_ from of_decide_eq_true (List.all_eq_true.mp h y hy)
theorem allB {α:Type} {P:α→Prop} [DecidablePred P] {l:List α} (h:(l.all fun x=>decide (P x))=true):∀q∈l,P q:=fun q hq=>of_decide_eq_true (List.all_eq_true.mp h q hq)
end
section
open PySem PySem.W PyProof.Rows PySem.Calls
noncomputable def sr:List Nat:=[140,147,235,274]
noncomputable def KK (P:Params):Frag:=(hdz.heap_259 P).filter fun p=>!(sr.contains p.1)
noncomputable def qI (sc:Scope):Option (Value×Str):=if sc.names.lookup (⟨#[115,99,114,105,112,116]⟩:Str)==some .local then some (.ref 276,"law.<locals>.") else if sc.names.lookup (⟨#[111,114,100,101,114]⟩:Str)==some .local&&sc.names.lookup (⟨#[103,97,112,115]⟩:Str)==some .local then some (.ref 239,"_law_gaps.<locals>.") else if sc.names.lookup (⟨#[115,101,108,102]⟩:Str)==some .local&&sc.names.lookup ("sum":Str)==some .globalImplicit then some (.ref 144,"_Accumulator.__len__.<locals>.") else if sc.names.lookup (⟨#[115,101,108,102]⟩:Str)==some .local&&sc.names.lookup ("EMPTYSTRING":Str)==some .globalImplicit then some (.ref 151,"_Accumulator.__str__.<locals>.") else none
noncomputable def CX (w:World) (mg mb:Str→Option Value) (ex:Frag):Cx:={prog:=PySem.Challenge.rw_ux0035_01.row.prog,w:=w,K:=KK w.params++ex,mg:=mg,mb:=mb,tabs:=[(144,140,"_Accumulator.__len__.<locals>.<genexpr>"),(151,147,"_Accumulator.__str__.<locals>.<genexpr>"),(239,235,"_law_gaps.<locals>.<lambda>"),(276,274,"law.<locals>.<lambda>")],codeOf:=qI}
theorem vx (w:World) (mg mb:Str→Option Value) (ex l:Frag):(CX w mg mb ex).ext l=CX w mg mb (ex++l):=by unfold CX Cx.ext;simp only[List.append_assoc]
theorem aW {w:World} {mg mb:Str→Option Value} {ex:Frag} {sc:Scope} {c:Value} {d:Str} (h:qI sc=none):∀v q,(CX w mg mb ex).codeOf sc=some (v,q)→c=v∧d=q:=fun v q e=>by rw[show(CX w mg mb ex).codeOf sc=none from h] at e;cases e
variable {w:World} {mg mb:Str→Option Value} {n:Nat} {ex:Frag}
theorem wI (i:Int):cA (CX w mg mb ex) (n+1) 233 [.int i] [] (.bool (i==0)):=by
 refine cA.enter (dps:=[]) (dvs:=[]) [⟨#[120]⟩] (hk:=by exact rfl) rfl rfl rfl rfl (by ext) (fun s g vs kvs h1 h2=>?b) (fun _=>rfl) rfl ?st (by decide) rfl rfl rfl (aW rfl) ?body
 case b=>exact vs1 h1 fun a=>vs0 h2 (Binds.of (fun S=>by with_unfolding_all rfl) s g)
 case st=>exact bI (by ext)
 case body=>
  refine af.cons (aF.ret (aa.cmp (aa.var rfl) (aa.qk rfl rfl) ay.tZ) rfl)
theorem qG (i:Int):cA (CX w mg mb ex) (n+1) 219 [.int i] [] (.bool (decide (i<256))):=by
 refine cA.enter (dps:=[]) (dvs:=[]) [⟨#[120]⟩] (hk:=by exact rfl) rfl rfl rfl rfl (by ext) (fun s g vs kvs h1 h2=>?b) (fun _=>rfl) rfl ?st (by decide) rfl rfl rfl (aW rfl) ?body
 case b=>exact vs1 h1 fun a=>vs0 h2 (Binds.of (fun S=>by with_unfolding_all rfl) s g)
 case st=>exact bI (by ext)
 case body=>
  refine af.cons (aF.ret (aa.cmp (aa.var rfl) (aa.qk rfl rfl) ay.ltI) rfl)
theorem pw (i:Int):cA (CX w mg mb ex) (n+1) 226 [.int i] [] (.bool (decide (i≥256))):=by
 refine cA.enter (dps:=[]) (dvs:=[]) [⟨#[120]⟩] (hk:=by exact rfl) rfl rfl rfl rfl (by ext) (fun s g vs kvs h1 h2=>?b) (fun _=>rfl) rfl ?st (by decide) rfl rfl rfl (aW rfl) ?body
 case b=>exact vs1 h1 fun a=>vs0 h2 (Binds.of (fun S=>by with_unfolding_all rfl) s g)
 case st=>exact bI (by ext)
 case body=>
  refine af.cons (aF.ret (aa.cmp (aa.var rfl) (aa.qk rfl rfl) ay.yF) rfl)
end
section
open PySem PySem.W PyProof.Rows PySem.Calls
variable {w:World} {mg mb:Str→Option Value} {n:Nat} {ex:Frag}
noncomputable abbrev nA:Str:=⟨#[97]⟩
noncomputable abbrev nX:Str:=⟨#[120]⟩
noncomputable abbrev tX:Str:=⟨#[108,111]⟩
noncomputable abbrev tY:Str:=⟨#[104,105]⟩
noncomputable abbrev mM:Str:=⟨#[107,101,121]⟩
noncomputable abbrev ji (l:List Int) (x:Int) (lo hi:Nat):az:=[(nA,some (.lst (ai l))),(nX,some (.int x)),(tX,some (.int lo)),(tY,some (.int hi))]
noncomputable abbrev rS (l:List Int) (r:Nat):Type:={p:Nat×Nat // p.1≤r∧r≤p.2∧p.2≤l.length}
theorem vX {l:List Int} {x:Int} (hs:l.Pairwise (·≤·)) (hz:l.length<1000):
  cA (CX w mg mb ex) (n+1) 200 [.lst (ai l), .int x] [] (.int (l.countP (·≤x))):=by
 refine cA.enter (dps:=[.int 0, .none, .none]) (dvs:=[.int 0 419, .none, .none]) [nA,nX,tX,tY,mM] (hk:=by exact rfl) rfl rfl rfl rfl (by ext) (fun s g vs kvs h1 h2=>?b) (fun _=>?d) rfl ?st (by decide) rfl rfl rfl (aW rfl) ?body
 case b=>exact vs2 h1 fun a b=>vs0 h2 (Binds.of (fun S=>by with_unfolding_all rfl) s g)
 case d=>exact aE.cons ⟨_,rfl⟩ (aE.cons rfl (aE.cons rfl aE.nil))
 case st=>exact bI (by ext)
 case body=>
  refine af.cons (aF.ite (bb.cmp (aa.var rfl) aa.cInt ay.ltI aJ.bool) (fun h=>absurd h (by decide)) fun _=>af.nil ?_)
  refine af.cons (aF.ite (bb.cmp (aa.var rfl) aa.fv ay.dm aJ.bool) (fun _=>af.cons (aF.assign (aa.gu (aa.blt rfl rfl rfl) (aa.var rfl) (by rw[ax];omega)) (.inl rfl) (af.nil ?_))) fun h=>absurd h (by decide))
  refine af.cons (aF.ite (bb.cmp (aa.var rfl) aa.fv ay.dm aJ.bool) (fun _=>?_) fun h=>absurd h (by decide))
  ·-- the search
   have hr:l.countP (·≤x)≤l.length:=List.countP_le_length
   simp only[ax]
   refine af.cons ?_
   refine cI.less (ρ':=ji l x 0 l.length) (ω':=[]) ?_ (by exact aG.self (by ext)) aC.nil
   refine cI.gX (aF.while (fun a:rS l (l.countP (·≤x))=>ji l x a.1.1 a.1.2) (fun _=>[]) (fun a=>a.1.2 - a.1.1) (P:=fun fl ρ' ω'=>fl= .next∧aG (ji l x (l.countP (·≤x)) (l.countP (·≤x))) ρ') ⟨(0,l.length),Nat.zero_le _,hr,Nat.le_refl _⟩ ?_) ?_
   ·(intro zz;obtain⟨⟨lo,hi⟩,h1,h2,h3⟩:=zz)
    dsimp only at h1 h2 h3 ⊢
    refine⟨_,bb.cmp (aa.var rfl) (aa.var rfl) ay.ltI aJ.bool,fun hb=>?_,fun hb=>?_⟩
    ·have hlt:lo<hi:=by simpa using hb
     refine af.cons (aF.assign (aa.bin (aa.bin (aa.var rfl) (aa.var rfl) aK.add) aa.cInt (aK.floordiv (by decide) (by decide))) (.inl rfl) ?_)
     have hm:((lo:Int)+(hi:Int)).fdiv 2=(((lo+hi) / 2:Nat):Int):=by
      rw[Int.fdiv_eq_ediv_of_nonneg _ (by decide)];lia
     rw[hm]
     have hml:(lo+hi) / 2<l.length:=by omega
     obtain⟨a,ha⟩:∃a,l[(lo+hi) / 2]?=some a:=⟨_,yM hml⟩
     have cs:=cO (q:=fun c=>decide (c≤x)) hs (fun a b h1 h2=>by simp at h2 ⊢;lia) ha
     refine af.cons (aF.ite (bb.cmp (aa.var rfl) (aa.sub (aa.var rfl) (aa.var rfl) (aL.list (r:= .int a) (by rw[ba (by rw[ax];exact hml),fT,ha];rfl) (by rw[ax];omega))) ay.ltI aJ.bool) (fun hb=>?_) fun hb=>?_)
     ·have hx:x<a:=by simpa using hb
      have:¬((lo+hi) / 2<l.countP (·≤x)):=fun q=>by have:=cs.mpr q;simp at this;omega
      refine af.cons (aF.assign (aa.var rfl) (.inl rfl) (af.nil (af.nil ⟨⟨(lo,(lo+hi) / 2),h1,by omega,by omega⟩,by dsimp only;omega,?_,aC.nil⟩)))
      exact aG.self (by ext)
     ·have hx:a≤x:=by simp at hb;omega
      have:(lo+hi) / 2<l.countP (·≤x):=cs.mp (by simpa using hx)
      refine af.cons (aF.assign (aa.bin (aa.var rfl) aa.cInt aK.add) (.inl rfl) (af.nil (af.nil ⟨⟨((lo+hi) / 2+1,hi),by omega,h2,h3⟩,by dsimp only;omega,?_,aC.nil⟩)))
      exact aG.self (by ext)
    ·have hge:hi≤lo:=by simp at hb;omega
     have:lo=l.countP (·≤x):=by omega
     subst this
     have:hi=l.countP (·≤x):=by omega
     subst this
     exact af.nil ⟨rfl,aG.refl _⟩
   ·(intro fl ρ' ω' zz;obtain⟨rfl,hl⟩:=zz)
    refine af.nil ?_
    refine cI.less (ρ':=ji l x (l.countP (·≤x)) (l.countP (·≤x))) (ω':=[]) ?_ hl aC.nil
    exact af.cons (aF.ret (aa.var rfl) rfl)
theorem xd {l:List Int} {x:Int} (hs:l.Pairwise (·≤·)) (hz:l.length<1000):
  cA (CX w mg mb ex) (n+1) 200 [.lst (ai l), .int x, .int 0, .none] [] (.int (l.countP (·≤x))):=by
 refine cA.enter (dps:=[.none]) (dvs:=[.none]) [nA,nX,tX,tY,mM] (hk:=by exact rfl) rfl rfl rfl rfl (by ext) (fun s g vs kvs h1 h2=>?b) (fun _=>?d) rfl ?st (by decide) rfl rfl rfl (aW rfl) ?body
 case b=>exact vs4 h1 fun a b c d=>vs0 h2 (Binds.of (fun S=>by with_unfolding_all rfl) s g)
 case d=>exact aE.cons rfl aE.nil
 case st=>exact bI (by ext)
 case body=>
  refine af.cons (aF.ite (bb.cmp (aa.var rfl) aa.cInt ay.ltI aJ.bool) (fun h=>absurd h (by decide)) fun _=>af.nil ?_)
  refine af.cons (aF.ite (bb.cmp (aa.var rfl) aa.fv ay.dm aJ.bool) (fun _=>af.cons (aF.assign (aa.gu (aa.blt rfl rfl rfl) (aa.var rfl) (by rw[ax];omega)) (.inl rfl) (af.nil ?_))) fun h=>absurd h (by decide))
  refine af.cons (aF.ite (bb.cmp (aa.var rfl) aa.fv ay.dm aJ.bool) (fun _=>?_) fun h=>absurd h (by decide))
  ·-- the search
   have hr:l.countP (·≤x)≤l.length:=List.countP_le_length
   simp only[ax]
   refine af.cons ?_
   refine cI.less (ρ':=ji l x 0 l.length) (ω':=[]) ?_ (by exact aG.self (by ext)) aC.nil
   refine cI.gX (aF.while (fun a:rS l (l.countP (·≤x))=>ji l x a.1.1 a.1.2) (fun _=>[]) (fun a=>a.1.2 - a.1.1) (P:=fun fl ρ' ω'=>fl= .next∧aG (ji l x (l.countP (·≤x)) (l.countP (·≤x))) ρ') ⟨(0,l.length),Nat.zero_le _,hr,Nat.le_refl _⟩ ?_) ?_
   ·(intro zz;obtain⟨⟨lo,hi⟩,h1,h2,h3⟩:=zz)
    dsimp only at h1 h2 h3 ⊢
    refine⟨_,bb.cmp (aa.var rfl) (aa.var rfl) ay.ltI aJ.bool,fun hb=>?_,fun hb=>?_⟩
    ·have hlt:lo<hi:=by simpa using hb
     refine af.cons (aF.assign (aa.bin (aa.bin (aa.var rfl) (aa.var rfl) aK.add) aa.cInt (aK.floordiv (by decide) (by decide))) (.inl rfl) ?_)
     have hm:((lo:Int)+(hi:Int)).fdiv 2=(((lo+hi) / 2:Nat):Int):=by
      rw[Int.fdiv_eq_ediv_of_nonneg _ (by decide)];lia
     rw[hm]
     have hml:(lo+hi) / 2<l.length:=by omega
     obtain⟨a,ha⟩:∃a,l[(lo+hi) / 2]?=some a:=⟨_,yM hml⟩
     have cs:=cO (q:=fun c=>decide (c≤x)) hs (fun a b h1 h2=>by simp at h2 ⊢;lia) ha
     refine af.cons (aF.ite (bb.cmp (aa.var rfl) (aa.sub (aa.var rfl) (aa.var rfl) (aL.list (r:= .int a) (by rw[ba (by rw[ax];exact hml),fT,ha];rfl) (by rw[ax];omega))) ay.ltI aJ.bool) (fun hb=>?_) fun hb=>?_)
     ·have hx:x<a:=by simpa using hb
      have:¬((lo+hi) / 2<l.countP (·≤x)):=fun q=>by have:=cs.mpr q;simp at this;omega
      refine af.cons (aF.assign (aa.var rfl) (.inl rfl) (af.nil (af.nil ⟨⟨(lo,(lo+hi) / 2),h1,by omega,by omega⟩,by dsimp only;omega,?_,aC.nil⟩)))
      exact aG.self (by ext)
     ·have hx:a≤x:=by simp at hb;omega
      have:(lo+hi) / 2<l.countP (·≤x):=cs.mp (by simpa using hx)
      refine af.cons (aF.assign (aa.bin (aa.var rfl) aa.cInt aK.add) (.inl rfl) (af.nil (af.nil ⟨⟨((lo+hi) / 2+1,hi),by omega,h2,h3⟩,by dsimp only;omega,?_,aC.nil⟩)))
      exact aG.self (by ext)
    ·have hge:hi≤lo:=by simp at hb;omega
     have:lo=l.countP (·≤x):=by omega
     subst this
     have:hi=l.countP (·≤x):=by omega
     subst this
     exact af.nil ⟨rfl,aG.refl _⟩
   ·(intro fl ρ' ω' zz;obtain⟨rfl,hl⟩:=zz)
    refine af.nil ?_
    refine cI.less (ρ':=ji l x (l.countP (·≤x)) (l.countP (·≤x))) (ω':=[]) ?_ hl aC.nil
    exact af.cons (aF.ret (aa.var rfl) rfl)
theorem vY {l:List Int} {x:Int} (hs:l.Pairwise (·≤·)) (hz:l.length<1000):
  cA (CX w mg mb ex) (n+1) 209 [.lst (ai l), .int x] [] (.int (l.countP (· <x))):=by
 refine cA.enter (dps:=[.int 0, .none, .none]) (dvs:=[.int 0 433, .none, .none]) [nA,nX,tX,tY,mM] (hk:=by exact rfl) rfl rfl rfl rfl (by ext) (fun s g vs kvs h1 h2=>?b) (fun _=>?d) rfl ?st (by decide) rfl rfl rfl (aW rfl) ?body
 case b=>exact vs2 h1 fun a b=>vs0 h2 (Binds.of (fun S=>by with_unfolding_all rfl) s g)
 case d=>exact aE.cons ⟨_,rfl⟩ (aE.cons rfl (aE.cons rfl aE.nil))
 case st=>exact bI (by ext)
 case body=>
  refine af.cons (aF.ite (bb.cmp (aa.var rfl) aa.cInt ay.ltI aJ.bool) (fun h=>absurd h (by decide)) fun _=>af.nil ?_)
  refine af.cons (aF.ite (bb.cmp (aa.var rfl) aa.fv ay.dm aJ.bool) (fun _=>af.cons (aF.assign (aa.gu (aa.blt rfl rfl rfl) (aa.var rfl) (by rw[ax];omega)) (.inl rfl) (af.nil ?_))) fun h=>absurd h (by decide))
  refine af.cons (aF.ite (bb.cmp (aa.var rfl) aa.fv ay.dm aJ.bool) (fun _=>?_) fun h=>absurd h (by decide))
  ·-- the search
   have hr:l.countP (· <x)≤l.length:=List.countP_le_length
   simp only[ax]
   refine af.cons ?_
   refine cI.less (ρ':=ji l x 0 l.length) (ω':=[]) ?_ (by exact aG.self (by ext)) aC.nil
   refine cI.gX (aF.while (fun a:rS l (l.countP (· <x))=>ji l x a.1.1 a.1.2) (fun _=>[]) (fun a=>a.1.2 - a.1.1) (P:=fun fl ρ' ω'=>fl= .next∧aG (ji l x (l.countP (· <x)) (l.countP (· <x))) ρ') ⟨(0,l.length),Nat.zero_le _,hr,Nat.le_refl _⟩ ?_) ?_
   ·(intro zz;obtain⟨⟨lo,hi⟩,h1,h2,h3⟩:=zz)
    dsimp only at h1 h2 h3 ⊢
    refine⟨_,bb.cmp (aa.var rfl) (aa.var rfl) ay.ltI aJ.bool,fun hb=>?_,fun hb=>?_⟩
    ·have hlt:lo<hi:=by simpa using hb
     refine af.cons (aF.assign (aa.bin (aa.bin (aa.var rfl) (aa.var rfl) aK.add) aa.cInt (aK.floordiv (by decide) (by decide))) (.inl rfl) ?_)
     have hm:((lo:Int)+(hi:Int)).fdiv 2=(((lo+hi) / 2:Nat):Int):=by
      rw[Int.fdiv_eq_ediv_of_nonneg _ (by decide)];lia
     rw[hm]
     have hml:(lo+hi) / 2<l.length:=by omega
     obtain⟨a,ha⟩:∃a,l[(lo+hi) / 2]?=some a:=⟨_,yM hml⟩
     have cs:=cO (q:=fun c=>decide (c<x)) hs (fun a b h1 h2=>by simp at h2 ⊢;lia) ha
     refine af.cons (aF.ite (bb.cmp (aa.sub (aa.var rfl) (aa.var rfl) (aL.list (r:= .int a) (by rw[ba (by rw[ax];exact hml),fT,ha];rfl) (by rw[ax];omega))) (aa.var rfl) ay.ltI aJ.bool) (fun hb=>?_) fun hb=>?_)
     ·have hx:a<x:=by simpa using hb
      have:(lo+hi) / 2<l.countP (· <x):=cs.mp (by simpa using hx)
      refine af.cons (aF.assign (aa.bin (aa.var rfl) aa.cInt aK.add) (.inl rfl) (af.nil (af.nil ⟨⟨((lo+hi) / 2+1,hi),by omega,h2,h3⟩,by dsimp only;omega,?_,aC.nil⟩)))
      exact aG.self (by ext)
     ·have hx:x≤a:=by simp at hb;omega
      have:¬((lo+hi) / 2<l.countP (· <x)):=fun q=>by have:=cs.mpr q;simp at this;omega
      refine af.cons (aF.assign (aa.var rfl) (.inl rfl) (af.nil (af.nil ⟨⟨(lo,(lo+hi) / 2),h1,by omega,by omega⟩,by dsimp only;omega,?_,aC.nil⟩)))
      exact aG.self (by ext)
    ·have hge:hi≤lo:=by simp at hb;omega
     have:lo=l.countP (· <x):=by omega
     subst this
     have:hi=l.countP (· <x):=by omega
     subst this
     exact af.nil ⟨rfl,aG.refl _⟩
   ·(intro fl ρ' ω' zz;obtain⟨rfl,hl⟩:=zz)
    refine af.nil ?_
    refine cI.less (ρ':=ji l x (l.countP (· <x)) (l.countP (· <x))) (ω':=[]) ?_ hl aC.nil
    exact af.cons (aF.ret (aa.var rfl) rfl)
noncomputable abbrev nP (l:List Int) (x:Int) (f:Addr) (lo hi:Nat):az:=[(nA,some (.lst (ai l))),(nX,some (.int x)),(tX,some (.int lo)),(tY,some (.int hi)),(mM,some (.opq (.ref f)))]
theorem xf {l:List Int} {x:Int} (kf:Int→Int) {f:Addr} {oc:Value} {od:Option Addr} {osl:Array (Option Value)} {fdk:FuncData} (hfk:(CX w mg mb ex).K.lookup f=some ⟨oc,od, .func fdk,osl⟩) (hkf:∀i∈l,cA (CX w mg mb ex) n f [.int i] [] (.int (kf i)))
  (hmono:∀a b,a≤b→kf b<x→kf a<x) (hs:l.Pairwise (·≤·)) (hz:l.length<1000):
  cA (CX w mg mb ex) (n+1) 209 [.lst (ai l), .int x] [(mM, .opq (.ref f))] (.int (l.countP fun c=>decide (kf c<x))):=by
 refine cA.enter (dps:=[.int 0, .none]) (dvs:=[.int 0 433, .none]) [nA,nX,tX,tY,mM] (hk:=by exact rfl) rfl rfl rfl rfl (by ext) (fun s g vs kvs h1 h2=>?b) (fun _=>?d) rfl ?st (by decide) rfl rfl rfl (aW rfl) ?body
 case b=>exact vs2 h1 fun a b=>vs1 h2 fun c=>Binds.of (fun S=>by with_unfolding_all rfl) s g
 case d=>exact aE.cons ⟨_,rfl⟩ (aE.cons rfl aE.nil)
 case st=>exact bI (by ext)
 case body=>
  refine af.cons (aF.ite (bb.cmp (aa.var rfl) aa.cInt ay.ltI aJ.bool) (fun h=>absurd h (by decide)) fun _=>af.nil ?_)
  refine af.cons (aF.ite (bb.cmp (aa.var rfl) aa.fv ay.dm aJ.bool) (fun _=>af.cons (aF.assign (aa.gu (aa.blt rfl rfl rfl) (aa.var rfl) (by rw[ax];omega)) (.inl rfl) (af.nil ?_))) fun h=>absurd h (by decide))
  refine af.cons (aF.ite (bb.cmp (aa.var rfl) aa.fv ay.sO aJ.bool) (fun h=>absurd h (by decide)) (fun _=>?_))
  ·-- the search
   have hr:l.countP (fun c=>decide (kf c<x))≤l.length:=List.countP_le_length
   simp only[ax]
   refine af.cons ?_
   refine cI.less (ρ':=nP l x f 0 l.length) (ω':=[]) ?_ (by exact aG.self (by ext)) aC.nil
   refine cI.gX (aF.while (fun a:rS l (l.countP (fun c=>decide (kf c<x)))=>nP l x f a.1.1 a.1.2) (fun _=>[]) (fun a=>a.1.2 - a.1.1) (P:=fun fl ρ' ω'=>fl= .next∧aG (nP l x f (l.countP (fun c=>decide (kf c<x))) (l.countP (fun c=>decide (kf c<x)))) ρ') ⟨(0,l.length),Nat.zero_le _,hr,Nat.le_refl _⟩ ?_) ?_
   ·(intro zz;obtain⟨⟨lo,hi⟩,h1,h2,h3⟩:=zz)
    dsimp only at h1 h2 h3 ⊢
    refine⟨_,bb.cmp (aa.var rfl) (aa.var rfl) ay.ltI aJ.bool,fun hb=>?_,fun hb=>?_⟩
    ·have hlt:lo<hi:=by simpa using hb
     refine af.cons (aF.assign (aa.bin (aa.bin (aa.var rfl) (aa.var rfl) aK.add) aa.cInt (aK.floordiv (by decide) (by decide))) (.inl rfl) ?_)
     have hm:((lo:Int)+(hi:Int)).fdiv 2=(((lo+hi) / 2:Nat):Int):=by
      rw[Int.fdiv_eq_ediv_of_nonneg _ (by decide)];lia
     rw[hm]
     have hml:(lo+hi) / 2<l.length:=by omega
     obtain⟨a,ha⟩:∃a,l[(lo+hi) / 2]?=some a:=⟨_,yM hml⟩
     have cs:=cO (q:=fun c=>decide (kf c<x)) hs (fun a b h1 h2=>by simp only[decide_eq_true_eq] at h2 ⊢;exact hmono a b h1 h2) ha
     have hmem:a∈l:=List.mem_of_getElem? ha
     refine af.cons (aF.ite (bb.cmp (aa.bK (aa.var rfl) hfk (aj.ag (aa.sub (aa.var rfl) (aa.var rfl) (aL.list (r:= .int a) (by rw[ba (by rw[ax];exact hml),fT,ha];rfl) (by rw[ax];omega))) .nil) (hkf a hmem)) (aa.var rfl) ay.ltI aJ.bool) (fun hb=>?_) fun hb=>?_)
     ·have hx:kf a<x:=by simpa using hb
      have:(lo+hi) / 2<l.countP (fun c=>decide (kf c<x)):=cs.mp (by simpa using hx)
      refine af.cons (aF.assign (aa.bin (aa.var rfl) aa.cInt aK.add) (.inl rfl) (af.nil (af.nil ⟨⟨((lo+hi) / 2+1,hi),by omega,h2,h3⟩,by dsimp only;omega,?_,aC.nil⟩)))
      exact aG.self (by ext)
     ·have hx:x≤kf a:=by simp at hb;omega
      have:¬((lo+hi) / 2<l.countP (fun c=>decide (kf c<x))):=fun q=>by have:=cs.mpr q;simp at this;omega
      refine af.cons (aF.assign (aa.var rfl) (.inl rfl) (af.nil (af.nil ⟨⟨(lo,(lo+hi) / 2),h1,by omega,by omega⟩,by dsimp only;omega,?_,aC.nil⟩)))
      exact aG.self (by ext)
    ·have hge:hi≤lo:=by simp at hb;omega
     have:lo=l.countP (fun c=>decide (kf c<x)):=by omega
     subst this
     have:hi=l.countP (fun c=>decide (kf c<x)):=by omega
     subst this
     exact af.nil ⟨rfl,aG.refl _⟩
   ·(intro fl ρ' ω' zz;obtain⟨rfl,hl⟩:=zz)
    refine af.nil ?_
    refine cI.less (ρ':=nP l x f (l.countP (fun c=>decide (kf c<x))) (l.countP (fun c=>decide (kf c<x)))) (ω':=[]) ?_ hl aC.nil
    exact af.cons (aF.ret (aa.var rfl) rfl)
noncomputable def insI (l:List Int) (x:Int):List Int:=l.take (l.countP (·≤x))++x::l.drop (l.countP (·≤x))
theorem pB (l:List Int) (x:Int):(ai l).take (l.countP (·≤x))++ .int x::(ai l).drop (l.countP (·≤x))=ai (insI l x):=by
 simp[ai,insI]
theorem qH {l:List Int} {x:Int} {a:Addr} (hs:l.Pairwise (·≤·)) (hz:l.length<1000):
  gN (CX w mg mb ex) (n+2) 191 (.lst a (ai l)) [.int x] .none (.lst a (ai (insI l x))):=by
 refine gN.enter (dps:=[.int 0, .none, .none]) (dvs:=[.int 0 406, .none, .none]) nA [nX,tX,tY,mM] (hk:=by exact rfl) rfl rfl rfl rfl (by ext) (fun s g v vs h1=>?b) (fun _=>?d) rfl ?st (by decide) rfl rfl rfl (aW rfl) rfl ?body
 case b=>exact vs1 h1 fun a=>Binds.of (fun S=>by with_unfolding_all rfl) s g
 case d=>exact aE.cons ⟨_,rfl⟩ (aE.cons rfl (aE.cons rfl aE.nil))
 case st=>exact bI (by ext)
 case body=>
  have hle:l.countP (·≤x)≤l.length:=List.countP_le_length
  refine af.cons (aF.ite (bb.cmp (aa.var rfl) aa.fv ay.dm aJ.bool) (fun _=>af.cons (aF.jv (aa.bK (aa.bj rfl rfl) (by exact rfl) (aj.ag (aa.var rfl) (aj.ag (aa.var rfl) (aj.ag (aa.var rfl) (aj.ag (aa.var rfl) .nil)))) (xd hs hz)) rfl (.inl rfl) (af.nil ?_))) fun h=>absurd h (by decide))
  refine af.cons (aF.insert (j:=l.countP (·≤x)) (p:= .int x) rfl (aa.var rfl) (aa.var rfl) rfl (by rw[ax];exact hle) (by rw[ax];omega) (af.nil ⟨rfl,rfl,?_⟩))
  rw[pB];rfl
noncomputable def gO:List Nat:=[40,41,91,93,58,44,59,43,45,42,47,124,38,60,62,61,46,37,123,125,126,94,64,33]
noncomputable def sg (i:Nat):Nat:=gO.getD i 0
noncomputable def b':List Int:=[7,8,9,10,11,12,13,14,15,16,17,18,19,20,21,22,23,24,25,26,31,32,49,54,256,0]
noncomputable def num (i:Nat):Int:=b'.getD i 0
inductive k5 (P:Params):List DictEntry→Prop
 | nil:k5 P []
 | cons {x:DictEntry} {r:List DictEntry} {k:Str} {t:Tok} {v:Value}:x=⟨PyData.keyHash P k, .str k t,v⟩→k5 P r→k5 P (x::r)
theorem pq {es:List DictEntry} (h:k5 w.params es):∀e∈es,∃k,(strKind PySem.Challenge.rw_ux0035_01.row.prog w).is k e.key=true∧e.hash=(strKind PySem.Challenge.rw_ux0035_01.row.prog w).hash k:=by
 induction h with
 | nil=>exact fun _ h=>(nomatch h)
 | cons e _ ih=>
  intro y hy
  rcases List.mem_cons.mp hy with rfl | hy
  ·subst e;exact⟨_,strKind_is _ w _ _,rfl⟩
  ·exact ih y hy
noncomputable def xh:Option Value→Option Int
 | some (.int i _)=>some i
 | _=>none
theorem intOf {o:Option Value} {i:Int} (h:xh o=some i):∃t,o=some (.int i t):=by
 cases o with
 | none=>cases h
 | some v=>cases v<;>first | (cases h;done) | (cases h;exact⟨_,rfl⟩)
theorem vk {s:Shared} (g:b5 (CX w mg mb ex) s.heap):∃es:Array DictEntry,s.heap.MapOf (strKind PySem.Challenge.rw_ux0035_01.row.prog w) 210 (findBy Value.isStrOf es)∧∀i<24,∃t,findBy Value.isStrOf es (tx [sg i])=some (.int (num i) t):=by
 have ho:=g.kin 210 (hdz.zo_194 w.params) (by exact rfl)
 refine⟨_,⟨_,_,_,ho,⟨rfl,rfl,rfl⟩,rfl,?_,fun k=>rfl⟩,?_⟩
 ·intro e he
  rw[←Array.mem_toList_iff] at he
  refine pq (w:=w) ?_ e he
  repeat (first | exact .nil | refine .cons rfl ?_)
 ·intro i hi
  match i,hi with
  | 0,_=>exact intOf (by ext)
  | 1,_=>exact intOf (by ext)
  | 2,_=>exact intOf (by ext)
  | 3,_=>exact intOf (by ext)
  | 4,_=>exact intOf (by ext)
  | 5,_=>exact intOf (by ext)
  | 6,_=>exact intOf (by ext)
  | 7,_=>exact intOf (by ext)
  | 8,_=>exact intOf (by ext)
  | 9,_=>exact intOf (by ext)
  | 10,_=>exact intOf (by ext)
  | 11,_=>exact intOf (by ext)
  | 12,_=>exact intOf (by ext)
  | 13,_=>exact intOf (by ext)
  | 14,_=>exact intOf (by ext)
  | 15,_=>exact intOf (by ext)
  | 16,_=>exact intOf (by ext)
  | 17,_=>exact intOf (by ext)
  | 18,_=>exact intOf (by ext)
  | 19,_=>exact intOf (by ext)
  | 20,_=>exact intOf (by ext)
  | 21,_=>exact intOf (by ext)
  | 22,_=>exact intOf (by ext)
  | 23,_=>exact intOf (by ext)
  | _+24,h=>exact absurd h (by lia)
theorem aL.tok {i:Nat} (hi:i<24):aL (CX w mg mb ex) n (.opq (.ref 210)) (.txt [sg i]) (.int (num i)):=by
 (rintro G s _ _ bs rfl zz;obtain⟨u,rfl⟩:=zz)
 obtain⟨es,hm,hl⟩:=vk bs.gnd
 obtain⟨t,ht⟩:=hl i hi
 refine⟨"dict",_,slot_dict_getitem.lookup,hm.typeIs,fun A Q E rm k=>?_⟩
 exact wpAny_getItem_of (strKind_is _ w _ _) hm ht (k _ _ G (bs.toks _) ⟨t,rfl⟩)
theorem hV {α:Type} {P:α→Prop}:∀q∈([]:List α),P q:=fun _ h=>(nomatch h)
theorem kN {α:Type} {P:α→Prop} {x:α} {r:List α} (h:P x) (g:∀q∈r,P q):∀q∈x::r,P q:=fun q hq=>by
 rcases List.mem_cons.mp hq with rfl | hq
 ·exact h
 ·exact g q hq
structure Rk (I:Nat→Nat) (m:Nat):Prop where
 lt:∀r,1≤r→r≤m→I r<24
 mono:∀r s,1≤r→r<s→s≤m→I r<I s
 gQ:m≤5
noncomputable def Rs (m:Nat) (l:List Nat):Prop:=∀r∈l,1≤r∧r≤m
noncomputable def ch (I:Nat→Nat) (r:Nat):Nat:=sg (I r)
noncomputable def nr (I:Nat→Nat) (r:Nat):Int:=num (I r)
theorem uF:∀i<24,∀j<24,sg i=sg j→i=j:=by decide +kernel
theorem uU:∀i<24,∀j<24,(decide (num i<num j))=decide (i<j):=by decide +kernel
theorem uG:∀i<24,gO.idxOf (sg i)=i:=by decide +kernel
theorem uE:∀i<24,sg i∈gO:=by decide +kernel
section
variable {I:Nat→Nat} {m:Nat}
theorem Rk.iff (K:Rk I m) {r s:Nat} (hr:1≤r∧r≤m) (hs:1≤s∧s≤m):I r<I s↔r<s:=by
 constructor
 ·intro h
  rcases Nat.lt_trichotomy r s with q | q | q
  ·exact q
  ·subst q;lia
  ·have:=K.mono s r hs.1 q hr.2;lia
 ·exact fun h=>K.mono r s hr.1 h hs.2
theorem Rk.inj (K:Rk I m) {r s:Nat} (hr:1≤r∧r≤m) (hs:1≤s∧s≤m) (h:I r=I s):r=s:=by
 rcases Nat.lt_trichotomy r s with q | q | q
 ·have:=(K.iff hr hs).mpr q;lia
 ·exact q
 ·have:=(K.iff hs hr).mpr q;lia
theorem Rk.jH (K:Rk I m) {r s:Nat} (hr:1≤r∧r≤m) (hs:1≤s∧s≤m) (h:ch I r=ch I s):r=s:=
 K.inj hr hs (uF _ (K.lt r hr.1 hr.2) _ (K.lt s hs.1 hs.2) h)
theorem Rk.iS (K:Rk I m) {r s:Nat} (hr:1≤r∧r≤m) (hs:1≤s∧s≤m):nr I r<nr I s↔r<s:=by
 have:=uU _ (K.lt r hr.1 hr.2) _ (K.lt s hs.1 hs.2)
 rw[←K.iff hr hs]
 simpa [nr] using this
theorem Rk.nL (K:Rk I m) {r s:Nat} (hr:1≤r∧r≤m) (hs:1≤s∧s≤m):nr I r≤nr I s↔r≤s:=by
 have:=K.iS hs hr;omega
end
theorem mX:∀{l:List Nat} {x:Nat},x∈l→x≤l.sum
 | y::r,x,h=>by
  rcases List.mem_cons.mp h with rfl | h
  ·simp
  ·have:=mX h;simp;lia
noncomputable abbrev Part:=List Nat×List Nat
noncomputable abbrev ak (l:List Part):List PV:=l.map fun q=> .tup [.txt q.1, .txt q.2]
noncomputable def aD (l:List Part):List Nat:=(l.map fun q=>q.1++q.2).flatten
theorem text {l:List Part} (hz:(aD l).length≤1000) (hl:l.length≤1000):cA (CX w mg mb ex) (n+1) 245 [.lst (ak l)] [] (.txt (aD l)):=by
 refine cA.enter (dps:=[]) (dvs:=[]) [⟨#[108,105,110,101]⟩] (hk:=by exact rfl) rfl rfl rfl rfl (by ext) (fun s g vs kvs h1 h2=>?b) (fun _=>rfl) rfl ?st (by decide) rfl rfl rfl (aW rfl) ?body
 case b=>exact vs1 h1 fun a=>vs0 h2 (Binds.of (fun S=>by with_unfolding_all rfl) s g)
 case st=>exact bI (by ext)
 case body=>
  refine af.cons (aF.ret (aa.join (l:=l.map fun q=>q.1++q.2) aa.cStr (bH.frozen (bH.comp (dj.of (aa.var rfl) fW.list) (out:=aI (l.map fun q=>q.1++q.2)) ?_ ?_ (by exact aH.jw rfl rfl (by ext)) ?_)) ?_) rfl)
  ·rw[show aI (l.map fun q=>q.1++q.2)=l.map fun q=>PV.txt (q.1++q.2) by simp[aI]]
   refine aQ.wc (.inl rfl) (.inl rfl) rfl rfl fun a ha=>?_
   refine aa.bin (aa.var rfl) (aa.var rfl) (aK.eN ?_)
   have h1:(a.1++a.2).length∈(l.map fun q=>q.1++q.2).map List.length:=List.mem_map_of_mem (List.mem_map_of_mem (f:=fun q:Part=>q.1++q.2) ha)
   have h2:=mX h1
   have h3:(aD l).length=((l.map fun q=>q.1++q.2).map List.length).sum:=by rw[aD,List.length_flatten]
   rw[List.length_append] at h2
   lia
  ·simp[aI];omega
  ·exact fun g' hg=>by
    rcases List.mem_cons.mp hg with rfl | hg
    ·rfl
    ·cases hg
  ·rw[←List.length_flatten];exact yN hz (by decide)
noncomputable abbrev zs (I:Nat→Nat) (l:List Nat):List Nat:=l.map (ch I)
theorem cF:∀i<24,sg i<128:=by decide +kernel
section
variable {I:Nat→Nat} {m:Nat}
theorem dJ (K:Rk I m) {l:List Nat} (h:Rs m l):(tx (zs I l)).cps.all (· <128)=true:=by
 rw[Array.all_eq_true']
 intro x hx
 have:x∈zs I l:=by simpa using hx
 obtain⟨r,hr,rfl⟩:=List.mem_map.mp this
 exact decide_eq_true (cF _ (K.lt r (h r hr).1 (h r hr).2))
theorem Rs.take {l:List Nat} (h:Rs m l) (k:Nat):Rs m (l.take k):=fun r hr=>h r (List.mem_of_mem_take hr)
theorem Rs.drop {l:List Nat} (h:Rs m l) (k:Nat):Rs m (l.drop k):=fun r hr=>h r (List.mem_of_mem_drop hr)
theorem br {α:Type} (l:List α) (k:Nat):fV l none (some (k:Int))=l.take k:=by
 unfold fV bk
 have h0:¬((k:Int)<0):=by lia
 simp only[if_neg h0,Nat.sub_zero,List.drop_zero]
 by_cases h:k≤l.length
 ·rw[show(max 0 (min (k:Int) l.length)).toNat=k by omega]
 ·rw[show(max 0 (min (k:Int) l.length)).toNat=l.length by omega,List.take_length,List.take_of_length_le (by omega)]
theorem cE {α:Type} (l:List α) (k:Nat):fV l (some (k:Int)) none=l.drop k:=by
 unfold fV bk
 have h0:¬((k:Int)<0):=by lia
 simp only[if_neg h0]
 by_cases h:k≤l.length
 ·rw[show(max 0 (min (k:Int) l.length)).toNat=k by omega]
  rw[List.take_of_length_le (by simp)]
 ·rw[show(max 0 (min (k:Int) l.length)).toNat=l.length by omega,List.drop_of_length_le (Nat.le_refl _),List.drop_of_length_le (by omega)];simp
theorem cu (l:List Nat):signsOf (tx (zs I l))=l.map fun r=>PV.txt [ch I r]:=by simp[signsOf]
theorem aa.cast {X:Cx} {sc:Scope} {ρ:az} {e:PySem.Expr} {p q:PV} (h:aa X n sc ρ e p) (e':p=q):aa X n sc ρ e q:=e'▸h
theorem Rk.idx (K:Rk I m) {r:Nat} (h:1≤r∧r≤m):PV.int (gO.idxOf (ch I r))= .int (I r):=by rw[ch,uG _ (K.lt r h.1 h.2)]
theorem Rk.mem (K:Rk I m) {r:Nat} (h:1≤r∧r≤m):ch I r∈gO:=uE _ (K.lt r h.1 h.2)
end
theorem fg {α:Type} {l:List α} {q:α×Nat} (h:q∈l.zipIdx):q.1∈l∧q.2<l.length:=by
 have:=List.mem_zipIdx h
 refine⟨List.fst_mem_of_mem_zipIdx h,?_⟩
 lia
theorem fH {α β:Type} {f:α→List β} {B:Nat}:∀{l:List α},(∀a∈l,(f a).length≤B)→(l.flatMap f).length≤l.length*B
 | [],_=>by simp
 | a::l,h=>by
  have h1:=h a List.mem_cons_self
  have h2:=fH (l:=l) (f:=f) (B:=B) fun b hb=>h b (yL _ hb)
  rw[List.flatMap_cons,List.length_append,List.length_cons,Nat.add_one_mul];omega
theorem fS (l:List Nat) (h:l.length≤5):(bg l).length≤25:=by
 have:=fH (B:=5) (l:=l.zipIdx) (f:=fun q=>((l.take q.2).filter fun a=>decide (a>q.1)).map fun a=>(a,q.1)) fun q _=>by
  rw[List.length_map]
  exact yN (List.length_filter_le _ _) (by rw[List.length_take];omega)
 rw[List.length_zipIdx] at this
 unfold bg;omega
section
variable {I:Nat→Nat} {m:Nat}
theorem qd (K:Rk I m) {l:List Nat} (h:Rs m l) (hl:l.length≤5):cA (CX w mg mb ex) (n+1) 272 [.txt (zs I l), .txt gO] [] (.lst ((bg l).map fun p=> .txt [ch I p.1,ch I p.2])):=by
 refine cA.enter (dps:=[]) (dvs:=[]) [⟨#[111,114,100,101,114]⟩,⟨#[115,105,103,110,115]⟩] (hk:=by exact rfl) rfl rfl rfl rfl (by ext) (fun s g vs kvs h1 h2=>?b) (fun _=>rfl) rfl ?st (by decide) rfl rfl rfl (aW rfl) ?body
 case b=>exact vs2 h1 fun a b=>vs0 h2 (Binds.of (fun S=>by with_unfolding_all rfl) s g)
 case st=>exact bI (by ext)
 case body=>
  refine af.cons (aF.ret (bH.frozen (bH.comp (l:=l.zipIdx.map fun q=> .tup [.int (q.2:Int), .txt [ch I q.1]]) ?it ?_ ?_ (by exact aH.jw rfl rfl (by ext)) (by exact allB (by ext)))) rfl)
  case it=>
   have:=dj.lx (X:=CX w mg mb ex) (n:=n) (sc:=?sc) (ρ:=?ρ) (elts:=?elts) (k0:=?k0) (pt:=?pt) (x:=?x) (pf:=?pf) (pos:=?pos) (e:=?e) (y:=tx (zs I l)) ?h1 ?h2 (dJ K h)
   ·rw[cu] at this
    have e:dA (l.map fun r=>PV.txt [ch I r])=l.zipIdx.map fun q=> .tup [.int (q.2:Int), .txt [ch I q.1]]:=by
     unfold dA;rw[List.zipIdx_map,List.map_map];rfl
    rw[e] at this
    exact this
   ·exact aa.blt rfl rfl rfl
   ·exact aj.ag (aa.var rfl) .nil
  ·have e:((bg l).map fun p=>PV.txt [ch I p.1,ch I p.2])=l.zipIdx.flatMap fun q=>((l.take q.2).filter fun a=>decide (a>q.1)).map fun a=>PV.txt [ch I a,ch I q.1]:=by
    unfold bg;rw[List.map_flatMap];simp only[List.map_map];rfl
   rw[e]
   refine aQ.vD (.inl rfl) (.inl rfl) rfl rfl fun q hq=>?_
   obtain⟨hq1,hq2⟩:=fg hq
   have hb:=h _ hq1
   refine⟨(l.take q.2).map fun r=>PV.txt [ch I r],rfl,?it2,fun _ _=>rfl,?ov2⟩
   case it2=>
    refine dj.of (p:= .txt (zs I (l.take q.2))) ((aa.cD (l:=zs I l) (lo:=none) (hi:=some (q.2:Int)) (aa.var rfl) aP.none (aP.some (aa.var rfl)) (by rw[List.length_map];omega)).cast (by rw[br,zs,zs,List.map_take])) ?_
    rw[←cu]
    exact fW.str (dJ K (h.take _))
   case ov2=>
    refine aQ.cM (.inl rfl) rfl (fun a ha=>?_) fun a ha _=>?_
    ·have hab:=h.take _ a ha
     refine bb.cmp ((aa.index (l:=gO) (c:=ch I a) (aa.var rfl) (aa.var rfl) (K.mem hab)).cast (K.idx hab)) ((aa.index (l:=gO) (c:=ch I q.1) (aa.var rfl) (aa.var rfl) (K.mem hb)).cast (K.idx hb)) ay.rF ?_
     rw[show decide (a>q.1)=decide ((I a:Int)>(I q.1:Int)) from decide_eq_decide.mpr (by have:=K.iff hb hab;omega)]
     exact aJ.bool
    ·exact(aa.bin (p:= .txt [ch I a]) (q:= .txt [ch I q.1]) (aa.var rfl) (aa.var rfl) (aK.eN (by simp)))
  ·rw[List.length_map];have:=fS l hl;omega
end
theorem oW (one:List Nat) (f:List (List Nat)) (k:Nat):f.length≤(dq one f k).length:=by
 unfold dq;split<;>simp
theorem fU (one:List Nat):∀(ks:List Nat) (f:List (List Nat)),f.length≤(ks.foldl (dq one) f).length
 | [],_=>Nat.le_refl _
 | k::ks,f=>yN (oW one f k) (fU one ks _)
theorem eU:∀{n i:Nat} {f r:List (List Nat)},bx n i f=some r→f.length≤r.length
 | n+1,i,f,r,h=>by
  unfold bx at h
  split at h
  ·exact yN (fU _ _ _) (eU h)
  ·cases h;exact Nat.le_refl _
section
variable {I:Nat→Nat} {m:Nat}
noncomputable def mJ (m z:Nat) (f:List (List Nat)):Prop:=∀l∈f,Rs m l∧l.length=z
theorem getD_mem {l:List Nat} {k:Nat} (h:k<l.length):l.getD k 0∈l:=by
 rw[yK,yM h];exact List.getElem_mem h
theorem jo {l:List Nat} {z k:Nat} (h:Rs m l∧l.length=z) (hk:k+1<z):Rs m (bQ l k)∧(bQ l k).length=z:=by
 obtain⟨h1,h2⟩:=h
 constructor
 ·intro r hr
  unfold bQ at hr
  simp only[List.mem_append,List.mem_singleton] at hr
  rcases hr with((hr | rfl) | rfl) | hr
  ·exact h1 r (List.mem_of_mem_take hr)
  ·exact h1 _ (getD_mem (by omega))
  ·exact h1 _ (getD_mem (by omega))
  ·exact h1 r (List.mem_of_mem_drop hr)
 ·unfold bQ;simp;omega
theorem lX {one:List Nat} {f:List (List Nat)} {z k:Nat} (h:mJ m z f) (ho:Rs m one∧one.length=z) (hk:k+1<z):mJ m z (dq one f k):=by
 unfold dq
 split
 ·intro l hl
  rcases List.mem_append.mp hl with hl | hl
  ·exact h l hl
  ·rw[List.mem_singleton.mp hl];exact jo ho hk
 ·exact h
theorem mP (K:Rk I m):∀{l l':List Nat},Rs m l→Rs m l'→zs I l=zs I l'→l=l'
 | [],[],_,_,_=>rfl
 | [],_::_,_,_,h=>by simp[zs] at h
 | _::_,[],_,_,h=>by simp[zs] at h
 | a::l,b::l',h1,h2,h=>by
  simp only[zs,List.map_cons,List.cons.injEq] at h
  rw[K.jH (h1 a List.mem_cons_self) (h2 b List.mem_cons_self) h.1,mP K (fun r hr=>h1 r (yL _ hr)) (fun r hr=>h2 r (yL _ hr)) h.2]
noncomputable abbrev iP (I:Nat→Nat) (f:List (List Nat)):List PV:=aI (f.map (zs I))
noncomputable abbrev qt:Str:=⟨#[111,114,100,101,114]⟩
noncomputable abbrev iu:Str:=⟨#[102,111,117,110,100]⟩
noncomputable abbrev nM:Str:=⟨#[115,101,101,110]⟩
noncomputable abbrev vK:Str:=⟨#[111,110,101]⟩
theorem fw (K:Rk I m) {l:List Nat} (h:Rs m l):∀c∈zs I l,c<128:=fun c hc=>by
 obtain⟨r,hr,rfl⟩:=List.mem_map.mp hc
 exact cF _ (K.lt r (h r hr).1 (h r hr).2)
theorem fP (f:List (List Nat)):(iP I f).length=f.length:=by simp[iP,aI]
theorem m6 (K:Rk I m) {f:List (List Nat)} {z:Nat} (h:mJ m z f):(PV.lst (iP I f)).gd 2=true:=PV.gy fun p hp=>by
 obtain⟨c,hc,rfl⟩:=List.mem_map.mp hp
 obtain⟨l,hl,rfl⟩:=List.mem_map.mp hc
 exact PV.eo (fw K (h l hl).1)
theorem oG (K:Rk I m) {f:List (List Nat)} {z:Nat} (h:mJ m z f) {l:List Nat} (hl:Rs m l):f.contains l=true↔PV.txt (zs I l)∈iP I f:=by
 rw[List.contains_iff_mem]
 constructor
 ·exact fun q=>List.mem_map_of_mem (List.mem_map_of_mem q)
 ·intro q
  obtain⟨c,hc,e⟩:=List.mem_map.mp q
  obtain⟨l',hl',rfl⟩:=List.mem_map.mp hc
  simp only[PV.str.injEq,Str.mk.injEq,Array.mk.injEq] at e
  rw[←mP K (h l' hl').1 hl e];exact hl'
theorem AllP.oS {X:Cx} {sc:Scope} {ρ:az} {x y:PySem.Expr} {b c:Bool} (h:bb X n sc ρ x b) (g:b=true→bb X n sc ρ y c):AllP X n sc ρ .And [x,y] (b&&c):=by
 cases b with
 | false=>exact AllP.um h
 | true=>
  have g:=g rfl
  cases c with
  | false=>exact AllP.uk h (AllP.um g)
  | true=>exact AllP.uk h (AllP.uk g AllP.vt)
theorem AllP.yl {X:Cx} {sc:Scope} {ρ:az} {x y:PySem.Expr} {b c:Bool} (h:bb X n sc ρ x b) (g:b=false→bb X n sc ρ y c):AllP X n sc ρ .Or [x,y] (b||c):=by
 cases b with
 | true=>exact AllP.yk h
 | false=>
  have g:=g rfl
  cases c with
  | false=>exact AllP.xA h (AllP.xA g AllP.wh)
  | true=>exact AllP.xA h (AllP.yk g)
theorem bb.cast {X:Cx} {sc:Scope} {ρ:az} {x:PySem.Expr} {b c:Bool} (h:bb X n sc ρ x b) (e:b=c):bb X n sc ρ x c:=e▸h
theorem aU.kq {X:Cx} {sc:Scope} {α β:Type} {P:a6} {R:PV→aA→Prop} {f:α→PV} {S:β→az} {W:β→aA} (step:β→α→β) (inv:List α→β→Prop) {x:Str} {px:Pos} {body orelse:List Stmt} (hx:b8 sc x):∀{l:List α} {b:β},inv l b→
  (∀b a r,inv (a::r) b→af X n sc ((x,some (f a))::S b) ((x,none)::W b) body (fun fl ρ' ω'=>(fl= .next∨fl= .cont)∧inv r (step b a)∧aG (S (step b a)) ρ'∧aC (W (step b a)) ω') R)→
  (inv [] (l.foldl step b)→af X n sc (S (l.foldl step b)) (W (l.foldl step b)) orelse P R)→aU X n sc (.Name x px) body orelse P R (l.map f) (S b) (W b)
 | [],b,hi,_,k=>k hi
 | a::l,b,hi,h,k=>by
  refine fM.name (hx.imp id fun e=>⟨rfl,e⟩) ?_
  refine(h b a l hi).mono (fun fl ρ' ω' z=>?_) (fun _ _ e=>e)
  obtain⟨z1,z2,z3,z4⟩:=z
  have:aU X n sc (.Name x px) body orelse P R (l.map f) (S (step b a)) (W (step b a)):=aU.kq step inv hx z2 h k
  rcases z1 with rfl | rfl<;>exact this.less z3 z4
theorem wJ (a b:Nat):((a:Int) != (b:Int))=(a != b):=by
 rw[Bool.eq_iff_iff];simp;lia
theorem aL.rk (K:Rk I m) {r:Nat} (h:1≤r∧r≤m):aL (CX w mg mb ex) n (.opq (.ref 210)) (.txt [ch I r]) (.int (nr I r)):=aL.tok (i:=I r) (K.lt r h.1 h.2)
theorem Rs.gQ (K:Rk I m) {l:List Nat} (h:Rs m l):∀r∈l,1≤r∧r≤5:=fun r hr=>⟨(h r hr).1,yN (h r hr).2 K.gQ⟩
theorem uD (K:Rk I m) {l:List Nat} (h:Rs m l) (hl:l.length≤5):perm .none (fun i j=>decide ((l.map (nr I)).getD i 0<(l.map (nr I)).getD j 0)) (ai (l.map (nr I)))=ai ((bP l).map (nr I)):=by
 have e:∀q:List Nat,ai (q.map (nr I))=q.map fun r=>PV.int (nr I r):=fun q=>by simp[ai]
 rw[e,e,←l5 (Rs.gQ K h) hl]
 refine fy (by omega) fun i j hi hj=>?_
 unfold xp
 refine decide_eq_decide.mpr ?_
 simp only[yK,List.getElem?_map,yM hi,yM hj,Option.map_some,Option.getD_some]
 exact K.iS (h _ (List.getElem_mem hi)) (h _ (List.getElem_mem hj))
theorem Rs.bP {l:List Nat} (h:Rs m l):Rs m (bP l):=fun r hr=>h r (k9.mp hr)
theorem qe (K:Rk I m) {l:List Nat} (h:Rs m l):((bP l).map (nr I)).Pairwise (·≤·):=
 List.pairwise_map.mpr ((dO l).imp_of_mem fun ha hb e=>(K.nL (h.bP _ ha) (h.bP _ hb)).mpr e)
theorem wQ (K:Rk I m) {l:List Nat} (h:Rs m l) {x:Nat} (hx:1≤x∧x≤m):((bP l).map (nr I)).countP (· <nr I x)=l.countP (· <x):=by
 rw[List.countP_map,(cf l).countP_eq]
 exact List.countP_congr fun r hr=>by simpa using K.iS (h r hr) hx
theorem wR (K:Rk I m) {l:List Nat} (h:Rs m l) {x:Nat} (hx:1≤x∧x≤m):((bP l).map (nr I)).countP (·≤nr I x)=l.countP (·≤x):=by
 rw[List.countP_map,(cf l).countP_eq]
 exact List.countP_congr fun r hr=>by simpa using K.nL (h r hr) hx
noncomputable abbrev yc (m z:Nat) (r:List (List Nat)):Type:={p:Nat×Nat×List (List Nat) // bx p.1 p.2.1 p.2.2=some r∧mJ m z p.2.2}
theorem uA (K:Rk I m) {l:List Nat} (h:Rs m l) (hl:l.length≤5) (hl1:1≤l.length) {N:Nat} {r:List (List Nat)} (hr:bx N 0 [l]=some r) (hrl:r.length≤200):cA (CX w mg mb ex) (n+6) 267 [.txt (zs I l)] [] (.lst (iP I r)):=by
 refine cA.enter (dps:=[]) (dvs:=[]) [qt] (hk:=by exact rfl) rfl rfl rfl rfl (by ext) (fun s g vs kvs h1 h2=>?b) (fun _=>rfl) rfl ?st (by decide) rfl rfl rfl (aW rfl) ?body
 case b=>exact vs1 h1 fun a=>vs0 h2 (Binds.of (fun S=>by with_unfolding_all rfl) s g)
 case st=>exact bI (by ext)
 case body=>
  refine af.cons (aF.pS (l:=iP I [l]) (q:= .int 0) (bH.list (aj.ag (aa.var rfl) .nil)) aa.cInt rfl rfl (fun a=>?_) (fun env he=>?sw))
  case sw=>
   obtain⟨⟩:=env
   dsimp only at he
   subst he
   with_unfolding_all rfl
  have h0:mJ m l.length [l]:=fun l' hl'=>by rw[List.mem_singleton.mp hl'];exact⟨h,rfl⟩
  refine af.cons ?_
  refine cI.less (ρ':=[(nM,some (.int (0:Nat)))]) (ω':=[(iu,some (.lst a (iP I [l])))]) ?_ (by exact aG.self (by ext)) (by exact aC.self (by ext))
  refine cI.gX (aF.while (fun p:yc m l.length r=>[(nM,some (.int p.1.2.1))]) (fun p=>[(iu,some (.lst a (iP I p.1.2.2)))]) (fun p=>p.1.1) (P:=fun fl ρ' ω'=>fl= .next∧aC [(iu,some (.lst a (iP I r)))] ω') ⟨(N,0,[l]),hr,h0⟩ ?_) ?_
  ·(intro zz;obtain⟨⟨k,i,f⟩,h1,h2⟩:=zz)
   dsimp only at h1 h2 ⊢
   refine⟨_,bb.cmp (aa.var rfl) (aa.gu (l:=iP I f) (aa.blt rfl rfl rfl) (aa.var rfl) (by rw[fP];have:=eU h1;omega)) ay.ltI aJ.bool,fun hb=>?_,fun hb=>?_⟩
   ·have hlt:i<f.length:=by simpa [fP] using hb
    obtain⟨one,hone⟩:∃one,f[i]?=some one:=⟨_,yM hlt⟩
    have hgd:f.getD i []=one:=by rw[yK,hone];rfl
    obtain⟨k,rfl⟩:∃k',k=k'+1:=by
     cases k with
     | zero=>simp[bx] at h1
     | succ k=>exact⟨k,rfl⟩
    rw[bx,if_pos hlt,hgd] at h1
    have ho:Rs m one∧one.length=l.length:=h2 one (List.mem_of_getElem? hone)
    refine af.cons (aF.rz (p:= .txt (zs I one)) (q:= .int (i+1:Nat)) ?tu rfl rfl rfl ?_ (fun env he=>?sw))
    case tu=>
     refine aa.tuple (aj.ag (aa.sub (aa.var rfl) (aa.var rfl) (aL.list ?_ ?_)) (aj.ag ((aa.bin (aa.var rfl) aa.cInt aK.add).cast (by simp)) .nil))
     ·rw[ba (by rw[fP];exact hlt)];simp[aI,hone]
     ·rw[fP];have:=eU h1;have:=fU one (List.range (one.length - 1)) f;lia
    case sw=>
     obtain⟨⟩:=env
     dsimp only at he
     subst he
     with_unfolding_all rfl
    refine af.cons (aF.forIn (l:=bp 0 1 (one.length - 1)) (dj.ip (b:=(one.length - 1:Nat)) (aa.blt rfl rfl rfl) (aj.ag ?rg .nil) rfl (by omega)) ?_)
    case rg=>
     refine(aa.bin (aa.oO (l:=zs I one) (aa.blt rfl rfl rfl) (aa.var rfl) (by rw[List.length_map];lia)) aa.cInt aK.sub).cast ?_
     rw[List.length_map]
     congr 1
     omega
    have e0:bp 0 1 (one.length - 1)=(List.range (one.length - 1)).map fun(k:Nat)=>PV.int k:=by
     unfold bp;refine List.map_congr_left fun a _=>?_;congr 1;lia
    rw[e0]
    refine aU.less (ρ':=[(vK,some (.txt (zs I one))),(nM,some (.int (i+1:Nat)))]) (ω':=[(iu,some (.lst a (iP I f)))]) ?_ (by exact aG.self (by ext)) (by exact aC.self (by ext))
    refine aU.kq (S:=fun _=>[(vK,some (.txt (zs I one))),(nM,some (.int (i+1:Nat)))]) (W:=fun f=>[(iu,some (.lst a (iP I f)))]) (dq one) (fun rest f'=>mJ m l.length f'∧f'.length+rest.length≤1000∧∀k∈rest,k+1<l.length) (.inl rfl) ⟨h2,?z,fun k hk=>by have:=List.mem_range.mp hk;omega⟩ (fun f' k rest hf=>?_) (fun hf=>?_)
    case z=>have:=eU h1;have:=fU one (List.range (one.length - 1)) f;rw[List.length_range];omega
    ·obtain⟨hf,hfz,hks⟩:=hf
     have hk':k+1<l.length:=hks k List.mem_cons_self
     have hks':∀k∈rest,k+1<l.length:=fun k hk=>hks k (yL _ hk)
     rw[List.length_cons] at hfz
     obtain⟨ho1,ho2⟩:=ho
     have hzl:(zs I one).length=one.length:=by simp
     have hrk:1≤one.getD k 0∧one.getD k 0≤m:=ho1 _ (getD_mem (by omega))
     have hrk1:1≤one.getD (k+1) 0∧one.getD (k+1) 0≤m:=ho1 _ (getD_mem (by omega))
     have atk:∀j,j<one.length→bo (zs I one) (j:Int)=some (ch I (one.getD j 0)):=fun j hj=>by
      rw[ba (by omega)];simp[yK,hj]
     have hta:Rs m (one.take k):=ho1.take k
     have htl:(one.take k).length≤5:=by rw[List.length_take];omega
     refine af.cons (aF.assign (p:= .lst (ai ((bP (one.take k)).map (nr I)))) ?ah (.inl rfl) ?_)
     case ah=>
      refine((bH.sorted (ps:=ai ((one.take k).map (nr I))) (aa.blt rfl rfl rfl) (bH.frozen (bH.comp (l:=(one.take k).map fun r=>PV.txt [ch I r]) ?it ?ov ?_ (by exact aH.jw rfl rfl (by ext)) (by exact allB (by ext)))) bW.ints ?_ ?_).frozen).cast (congrArg PV.lst (uD K hta htl))
      case it=>
       refine dj.of (p:= .txt (zs I (one.take k))) ((aa.cD (l:=zs I one) (lo:=none) (hi:=some (k:Int)) (aa.var rfl) aP.none (aP.some (aa.var rfl)) (by omega)).cast (by rw[br,zs,zs,List.map_take])) ?_
       rw[←cu]
       exact fW.str (dJ K hta)
      case ov=>
       rw[show ai ((one.take k).map (nr I))=(one.take k).map fun r=>PV.int (nr I r) by unfold ai;rw[List.map_map];rfl]
       exact aQ.gj (.inl rfl) rfl fun r hr=>aa.sub (aa.bj rfl rfl) (aa.var rfl) (aL.rk K (hta r hr))
      ·rw[ax,List.length_map];omega
      ·rw[ax,List.length_map];omega
      ·rw[ax,List.length_map];exact cZ (by omega)
     refine af.cons (aF.assign (p:= .txt (zs I (bQ one k))) ?ot (.inl rfl) ?_)
     case ot=>
      refine(aa.bin (aa.bin (aa.bin (aa.cD (l:=zs I one) (lo:=none) (hi:=some (k:Int)) (aa.var rfl) aP.none (aP.some (aa.var rfl)) (by omega)) (aa.sub (aa.var rfl) (aa.bin (aa.var rfl) aa.cInt aK.add) (aL.str (atk (k+1) (by omega)) (by omega))) (aK.eN ?_)) (aa.sub (aa.var rfl) (aa.var rfl) (aL.str (atk k (by omega)) (by omega))) (aK.eN ?_)) (aa.cD (l:=zs I one) (lo:=some ((k+2:Nat):Int)) (hi:=none) (aa.var rfl) (aP.some (aa.bin (aa.var rfl) aa.cInt aK.add)) aP.none (by omega)) (aK.eN ?_)).cast ?_
      ·rw[br,List.length_take];simp;omega
      ·rw[List.length_append,br,List.length_take];simp;omega
      ·rw[List.length_append,List.length_append,br,cE,List.length_take,List.length_drop];simp;omega
      ·rw[br,cE];unfold bQ zs;simp
     refine af.cons (aF.assign (p:= .tup [.int ((one.take k).countP (· <one.getD k 0):Nat), .int ((one.take k).countP (·≤one.getD (k+1) 0):Nat)]) ?pl (.inl rfl) ?_)
     case pl=>
      refine aa.tuple (aj.ag ?p1 (aj.ag ?p2 .nil))
      case p1=>
       refine(aa.bK (aa.bj rfl rfl) (by exact rfl) (aj.ag (aa.var rfl) (aj.ag (aa.sub (aa.bj rfl rfl) (aa.sub (aa.var rfl) (aa.var rfl) (aL.str (atk k (by omega)) (by omega))) (aL.rk K hrk)) .nil)) (vY (qe K hta) (by rw[List.length_map,eR];omega))).cast ?_
       exact congrArg PV.int (congrArg Nat.cast (wQ K hta hrk))
      case p2=>
       refine(aa.bK (aa.bj rfl rfl) (by exact rfl) (aj.ag (aa.var rfl) (aj.ag (aa.sub (aa.bj rfl rfl) (aa.sub (aa.var rfl) (aa.bin (aa.var rfl) aa.cInt aK.add) (aL.str (atk (k+1) (by omega)) (by omega))) (aL.rk K hrk1)) .nil)) (vX (qe K hta) (by rw[List.length_map,eR];omega))).cast ?_
       exact congrArg PV.int (congrArg Nat.cast (wR K hta hrk1))
     have hsw:=jo ⟨ho1,ho2⟩ hk'
     refine af.cons (aF.ite (b:=tJ one k&&!f'.contains (bQ one k)) (bb.rH (AllP.oS ((bb.cmp (aa.sub (aa.var rfl) aa.cInt (aL.tup rfl (by simp))) (aa.sub (aa.var rfl) aa.cInt (aL.tup rfl (by simp))) ay.yo aJ.bool).cast ?c1) fun _=>bb.cmp (aa.var rfl) (aa.var rfl) (ay.mV (d:=1) (b:=f'.contains (bQ one k)) (m6 K hf) (PV.eo (fw K hsw.1)) (oG K hf hsw.1)) aJ.bool)) (fun hb=>?_) fun hb=>?_)
     case c1=>
      exact wJ _ _
     ·have es:dq one f' k=f'++[bQ one k]:=by unfold dq;rw[if_pos hb]
      refine af.cons (aF.append (l:=iP I f') rfl (aa.var rfl) rfl (by rw[fP];omega) (af.nil (af.nil ⟨.inl rfl,⟨lX hf ⟨ho1,ho2⟩ hk',?_,hks'⟩,?_,?_⟩)))
      ·rw[es,List.length_append,List.length_singleton];omega
      ·exact aG.self (by ext)
      ·rw[es]
       have e2:iP I f'++[PV.txt (zs I (bQ one k))]=iP I (f'++[bQ one k]):=by simp[iP,aI]
       rw[←e2]
       exact aC.self (by ext)
     ·have es:dq one f' k=f':=by unfold dq;rw[if_neg (by rw[hb];exact Bool.false_ne_true)]
      refine af.nil (af.nil ⟨.inl rfl,⟨by rw[es];exact hf,by rw[es];lia,hks'⟩,?_,?_⟩)
      ·exact aG.self (by ext)
      ·rw[es];exact aC.self (by ext)
    ·refine af.nil (af.nil ⟨⟨(k,i+1,(List.range (one.length - 1)).foldl (dq one) f),h1,hf.1⟩,Nat.lt_succ_self _,?_,?_⟩)
     ·exact aG.self (by ext)
     ·exact aC.self (by ext)
   ·have hge:f.length≤i:=by simpa [fP] using hb
    have e:f=r:=by
     cases k with
     | zero=>simp[bx] at h1
     | succ k=>rw[bx,if_neg (by omega)] at h1;exact Option.some.inj h1
    subst e
    exact af.nil ⟨rfl,by exact aC.self (by ext)⟩
  ·(intro fl ρ' ω' zz;obtain⟨rfl,e⟩:=zz)
   refine cI.less (ρ':=[]) (ω':=[(iu,some (.lst a (iP I r)))]) ?_ aG.nil e
   exact af.cons (aF.ret (aa.var rfl) rfl)
end
noncomputable def jD (l:List Nat):List Nat×List (List Nat):=let s:=l.foldl bJ ([],[]);(s.1,perm [] (fun i j=>dU (s.2.getD i []) (s.2.getD j [])) s.2)
noncomputable def ne (I:Nat→Nat) (r:Nat):Int:=if r=0 then 0 else if r=6 then 256 else nr I r
theorem lC {y r:Nat} {t:List Nat} (h:y≤r):eM (y::t) r=y::eM t r:=by
 unfold eM
 rw[List.countP_cons_of_pos (by simpa using h)]
 simp
theorem pC {r:Nat} {l:List Nat} (h:∀y∈l,r<y):eM l r=r::l:=by
 unfold eM
 have:l.countP (·≤r)=0:=List.countP_eq_zero.mpr fun y hy=>by have:=h y hy;simp;omega
 rw[this];simp
theorem jS {r y:Nat} {l:List Nat}:y∈eM l r↔y=r∨y∈l:=by
 unfold eM
 rw[List.mem_append,List.mem_cons]
 constructor
 ·rintro (h | h | h)
  ·exact .inr (List.mem_of_mem_take h)
  ·exact .inl h
  ·exact .inr (List.mem_of_mem_drop h)
 ·rintro (h | h)
  ·exact .inr (.inl h)
  ·rw[←List.take_append_drop (l.countP (·≤r)) l] at h
   rcases List.mem_append.mp h with h | h
   ·exact .inl h
   ·exact .inr (.inr h)
theorem iZ {r:Nat}:∀{l:List Nat},l.Pairwise (·≤·)→(eM l r).Pairwise (·≤·)
 | [],_=>by simp[eM]
 | y::t,h=>by
  rw[List.pairwise_cons] at h
  by_cases q:y≤r
  ·rw[lC q]
   refine List.pairwise_cons.mpr ⟨fun z hz=>?_,iZ h.2⟩
   rcases jS.mp hz with rfl | hz
   ·exact q
   ·exact h.1 z hz
  ·rw[pC]
   ·refine List.pairwise_cons.mpr ⟨fun z hz=>?_,List.pairwise_cons.mpr h⟩
    rcases List.mem_cons.mp hz with rfl | hz
    ·omega
    ·have:=h.1 z hz;lia
   ·intro z hz
    rcases List.mem_cons.mp hz with rfl | hz
    ·omega
    ·have:=h.1 z hz;lia
theorem rq (l:List Nat) (r:Nat):(eM l r).length=l.length+1:=by
 unfold eM
 have:l.countP (·≤r)≤l.length:=List.countP_le_length
 simp;omega
theorem uV:∀i<24,0<num i∧num i<256:=by decide +kernel
section
variable {I:Nat→Nat} {m:Nat}
noncomputable def Gs (m:Nat) (t:List Nat):Prop:=∀r∈t,r=0∨r=6∨(1≤r∧r≤m)
theorem lQ (K:Rk I m) {r s:Nat} (hr:r=0∨r=6∨(1≤r∧r≤m)) (hs:s=0∨s=6∨(1≤s∧s≤m)):ne I r<ne I s↔r<s:=by
 have h5:=K.gQ
 have lo:∀r,(1≤r∧r≤m)→0<nr I r∧nr I r<256:=fun r h=>uV _ (K.lt r h.1 h.2)
 unfold ne
 rcases hr with rfl | rfl | hr<;>rcases hs with rfl | rfl | hs
 ·simp
 ·simp
 ·rw[if_pos rfl,if_neg (by omega),if_neg (by omega)];have:=lo s hs;omega
 ·simp
 ·simp
 ·rw[if_neg (by lia),if_pos rfl,if_neg (by omega),if_neg (by omega)];have:=lo s hs;omega
 ·rw[if_neg (by omega),if_neg (by omega),if_pos rfl];have:=lo r hr;omega
 ·rw[if_neg (by omega),if_neg (by omega),if_neg (by lia),if_pos rfl];have:=lo r hr;omega
 ·rw[if_neg (by omega),if_neg (by omega),if_neg (by omega),if_neg (by omega)];exact K.iS hr hs
theorem ne_eq (K:Rk I m) {r s:Nat} (hr:r=0∨r=6∨(1≤r∧r≤m)) (hs:s=0∨s=6∨(1≤s∧s≤m)):ne I r=ne I s↔r=s:=by
 have h1:=lQ K hr hs
 have h2:=lQ K hs hr
 constructor
 ·intro h;omega
 ·rintro rfl;rfl
theorem qy (K:Rk I m):∀{a b:List Nat},Gs m a→Gs m b→lexLt (a.map (ne I)) (b.map (ne I))=dU a b
 | [],_,_,_=>rfl
 | _::_,[],_,_=>rfl
 | x::a,y::b,ha,hb=>by
  have hx:=ha x List.mem_cons_self
  have hy:=hb y List.mem_cons_self
  show(if ne I x==ne I y then lexLt (a.map (ne I)) (b.map (ne I)) else decide (ne I x<ne I y))=if x==y then dU a b else decide (x<y)
  rw[qy K (fun r hr=>ha r (yL _ hr)) (fun r hr=>hb r (yL _ hr))]
  have e1:(ne I x==ne I y)=(x==y):=by rw[Bool.eq_iff_iff,beq_iff_eq,beq_iff_eq];exact ne_eq K hx hy
  have e2:decide (ne I x<ne I y)=decide (x<y):=decide_eq_decide.mpr (lQ K hx hy)
  rw[e1,e2]
noncomputable abbrev bV (I:Nat→Nat) (g:List (List Nat)):List PV:=g.map fun t=> .tup (ai (t.map (ne I)))
noncomputable abbrev de (I:Nat→Nat) (r:List Nat):List PV:=ai (r.map (nr I))
theorem oz (K:Rk I m) {l:List Nat} {r:Nat} (h:Rs m l) (hr:1≤r∧r≤m):insI (l.map (nr I)) (nr I r)=(eM l r).map (nr I):=by
 unfold insI eM
 have:(l.map (nr I)).countP (·≤nr I r)=l.countP (·≤r):=by
  rw[List.countP_map]
  exact List.countP_congr fun s hs=>by simpa using K.nL (h s hs) hr
 rw[this];simp
theorem iG (K:Rk I m) {l:List Nat} (h:Rs m l) (hs:l.Pairwise (·≤·)):(l.map (nr I)).Pairwise (·≤·):=
 List.pairwise_map.mpr (hs.imp_of_mem fun ha hb e=>(K.nL (h _ ha) (h _ hb)).mpr e)
end
noncomputable abbrev vf:Str:=⟨#[111,114,100,101,114]⟩
noncomputable abbrev vP:Str:=⟨#[114,111,119]⟩
noncomputable abbrev tN:Str:=⟨#[103,97,112,115]⟩
noncomputable abbrev kX:Str:=⟨#[120]⟩
theorem kY {l:az} (h:∀q∈l,∀u,q.2=some u→u.con=true):∀y u,l.lookup y=some (some u)→u.con=true:=fun y u e=>h _ (mem_of_lookup e) u rfl
section
variable {I:Nat→Nat} {m:Nat}
theorem aa.tE {X:Cx} {sc:Scope} {ρ:az} {test body orelse:PySem.Expr} {pos:Pos} {p:PV} {b:Bool} (h:bb X n sc ρ test b) (ht:b=true→aa X n sc ρ body p) (hf:b=false→aa X n sc ρ orelse p):aa X n sc ρ (.IfExp test body orelse pos) p:=by
 cases b with
 | true=>exact aa.yD h (ht rfl)
 | false=>exact aa.yE h (hf rfl)
theorem cA.cast {X:Cx} {f:Addr} {ps:List PV} {lG:List (Str×PV)} {p q:PV} (h:cA X n f ps lG p) (e:p=q):cA X n f ps lG q:=e▸h
theorem vQ (K:Rk I m) {l:List Nat} (h:Rs m l) (hl:l.length≤5):cA (CX w mg mb []) (n+6) 240 [.txt (zs I l)] [] (.tup [.lst (de I (jD l).1), .lst (bV I (jD l).2)]):=by
 refine cA.enter (dps:=[]) (dvs:=[]) [vf] (hk:=by exact rfl) rfl rfl rfl rfl (by ext) (fun s g vs kvs h1 h2=>?b) (fun _=>rfl) rfl ?st (by decide) rfl rfl rfl ?cod ?body
 case b=>exact vs1 h1 fun a=>vs0 h2 (Binds.of (fun S=>by with_unfolding_all rfl) s g)
 case st=>exact bI (by ext)
 case cod=>
  intro v q e
  cases (show some (Value.ref 239,("_law_gaps.<locals>.":Str))=some (v,q) from e)
  exact⟨rfl,by rfl⟩
 case body=>
  refine af.cons (aF.pT (l:=[]) (m:=[]) (bH.list .nil) (bH.list .nil) rfl rfl (fun a b=>?_) (fun env he=>?sw))
  case sw=>
   obtain⟨⟩:=env
   dsimp only at he
   subst he
   with_unfolding_all rfl
  refine af.cons (aF.forIn (l:=l.map fun r=>PV.txt [ch I r]) ?it ?_)
  case it=>
   refine dj.of (p:= .txt (zs I l)) (aa.var rfl) ?_
   rw[←cu]
   exact fW.str (dJ K h)
  refine aU.less (ρ':=[]) (ω':=[(vP,some (.lst a (de I []))),(tN,some (.lst b (bV I [])))]) ?_ (by exact aG.self (by ext)) (by exact aC.self (by ext))
  refine aU.kq (β:=List Nat×List (List Nat)) (b:=([],[])) (S:=fun _=>[]) (W:=fun s=>[(vP,some (.lst a (de I s.1))),(tN,some (.lst b (bV I s.2)))]) bJ
   (fun rest s=>Rs m rest∧Rs m s.1∧s.1.Pairwise (·≤·)∧s.1.length+rest.length≤5∧s.2.length+rest.length≤5∧∀t∈s.2,Gs m t∧t.length=3) (.inl rfl) ⟨h,(fun _ hr=>nomatch hr), .nil,by simpa using hl,by simpa using hl,(fun _ hr=>nomatch hr)⟩ (fun s r rest hf=>?_) (fun hf=>?_)
  ·obtain⟨hrest,hrow,hso,hz1,hz2,hg⟩:=hf
   have hr:1≤r∧r≤m:=hrest r List.mem_cons_self
   rw[List.length_cons] at hz1 hz2
   have hrl:(de I s.1).length=s.1.length:=by simp[de,ai]
   refine af.cons (aF.assign (p:= .int (nr I r)) (aa.sub (aa.bj rfl rfl) (aa.var rfl) (aL.rk K hr)) (.inr rfl) ?_)
   refine af.cons (aF.jv (p:= .int (s.1.countP (· <r):Nat)) ?pl rfl (.inl rfl) ?_)
   case pl=>
    refine aa.tp (r:= .int (s.1.countP (· <r):Nat)) (x:=⟨#[110]⟩) (ps:=[.lst (de I s.1), .int 1]) (c:=239) (P:=235) (q:="_law_gaps.<locals>.") (aa.bj rfl rfl) (by exact rfl) (aj.ag (aa.var rfl) (aj.ag aa.cInt .nil)) ?H fun f lf lam hfl=>?_
    case H=>
     refine⟨rfl,?_,?_,by ext,fun _=>rfl,by exact allB (by ext),?_,rfl,by exact allB (by ext),by exact allB (by ext),rfl,rfl,rfl,rfl,?_⟩
     ·exact .tail _ (.tail _ (.head _))
     ·intro t ht e
      simp only[CX,List.mem_cons,List.not_mem_nil,or_false] at ht
      rcases ht with rfl | rfl | rfl | rfl
      ·exact absurd e (by decide)
      ·exact absurd e (by decide)
      ·rfl
      ·exact absurd e (by decide)
     ·rintro ⟨⟩ h h2 h3 v
      dsimp only at h h2 h3
      subst h;subst h2;subst h3
      with_unfolding_all rfl
     ·exact kY (l:=[(kX,some (.int (nr I r)))]) (kN (fun u e=>by cases e;rfl) hV)
    ·obtain⟨fdk,hfk⟩:=hfl
     rw[vx] at lam hfk ⊢
     refine(xf (x:=1) (kf:=fun i=>if i≥nr I r then 1 else 0) hfk (fun i hi=>lam _ _ _ ?_) ?_ (iG K hrow hso) (by rw[List.length_map];omega)).cast ?_
     ·refine aa.tE (b:=decide (i≥nr I r)) ((bb.cmp (aa.bK (aa.bj rfl rfl) (by exact rfl) (aj.ag (aa.bin (aa.bin aa.cInt (aa.var rfl) aK.add) (aa.var rfl) aK.sub) .nil) (pw _)) aa.cBool ay.isTrue aJ.bool).cast ?_) (fun hb=>?_) fun hb=>?_
      ·exact decide_eq_decide.mpr (by lia)
      ·rw[if_pos (of_decide_eq_true hb)];exact aa.cInt
      ·rw[if_neg (of_decide_eq_false hb)];exact aa.cInt
     ·intro a b hab hb
      split at hb
      ·omega
      ·rw[if_neg (by lia)];decide
     ·refine congrArg PV.int (congrArg Nat.cast ?_)
      rw[List.countP_map]
      refine List.countP_congr fun c hc=>?_
      have:=K.iS (hrow c hc) hr
      simp only[Function.comp,decide_eq_true_eq]
      rw[←this]
      constructor
      ·intro q;split at q<;>omega
      ·intro q;rw[if_neg (by lia)];decide
   have hp:s.1.countP (· <r)≤s.1.length:=List.countP_le_length
   generalize hpe:s.1.countP (· <r)=p at hp ⊢
   have atp:∀j,j<s.1.length→bo (de I s.1) (j:Int)=some (.int (nr I (s.1.getD j 0))):=fun j hj=>by
    rw[ba (by omega)];simp[de,ai,yK,hj]
   have hmem:∀j,j<s.1.length→1≤s.1.getD j 0∧s.1.getD j 0≤m:=fun j hj=>hrow _ (getD_mem hj)
   have h5:=K.gQ
   have inv0:Rs m rest∧Rs m (bJ s r).1∧(bJ s r).1.Pairwise (·≤·)∧(bJ s r).1.length+rest.length≤5:=by
    refine⟨fun q hq=>hrest q (yL _ hq),fun q hq=>?_,iZ hso,?_⟩
    ·rcases jS.mp hq with rfl | hq
     ·exact hr
     ·exact hrow q hq
    ·show(eM s.1 r).length+_≤5
     rw[rq];omega
   refine af.cons (aF.ite (b:=p==s.1.length||decide (r<s.1.getD p 0)) (bb.rH (AllP.yl ((bb.cmp (aa.var rfl) (aa.gu (l:=de I s.1) (aa.blt rfl rfl rfl) (aa.var rfl) (by lia)) ay.tZ aJ.bool).cast ?c1) fun hb=>((bb.cmp (aa.bK (aa.bj rfl rfl) (by exact rfl) (aj.ag (aa.bin (aa.bin aa.cInt (aa.var rfl) aK.add) (aa.sub (aa.var rfl) (aa.var rfl) (aL.list (atp p ?c3) (by lia))) aK.sub) .nil) (qG _)) aa.cBool ay.isTrue aJ.bool).cast ?c2))) (fun hb=>?yes) fun hb=>?no)
   case c1=>rw[hrl];rw[Bool.eq_iff_iff];simp;omega
   case c3=>
    have:p≠s.1.length:=by simpa using hb
    omega
   case c2=>
    have:p≠s.1.length:=by simpa using hb
    have:=K.iS hr (hmem p (by omega))
    refine decide_eq_decide.mpr ?_
    omega
   case yes=>
    have es:(bJ s r).2=s.2++[jE s.1 r p]:=by unfold bJ;simp only[hpe];rw[if_pos hb]
    refine af.cons (aF.append (l:=bV I s.2) (p:= .tup (ai ((jE s.1 r p).map (ne I)))) rfl (aa.tuple (aj.ag ?g1 (aj.ag ?g2 (aj.ag ?g3 .nil)))) rfl (by rw[List.length_map];omega) (af.nil ?go))
    case g1=>
     refine aa.tE (b:=p==0) ((bb.cmp (aa.bK (aa.bj rfl rfl) (by exact rfl) (aj.ag (aa.var rfl) .nil) (wI _)) aa.cBool ay.isTrue aJ.bool).cast ?_) (fun hb=>?_) fun hb=>?_
     ·rw[Bool.eq_iff_iff];simp
     ·rw[hb];exact aa.cInt
     ·rw[hb]
      have hp0:p≠0:=by simpa using hb
      refine(aa.sub (aa.var rfl) ((aa.bin (aa.var rfl) aa.cInt aK.sub).cast (q:= .int ((p - 1:Nat):Int)) (congrArg PV.int (by omega))) (aL.list (atp (p - 1) (by omega)) (by lia))).cast (congrArg PV.int ?_)
      have:=hmem (p - 1) (by omega)
      show nr I (s.1.getD (p - 1) 0)=ne I (s.1.getD (p - 1) 0)
      unfold ne;rw[if_neg (by omega),if_neg (by omega)]
    case g2=>
     refine(aa.var (p:= .int (nr I r)) rfl).cast (congrArg PV.int ?_)
     unfold ne;rw[if_neg (by omega),if_neg (by omega)]
    case g3=>
     refine aa.tE (b:=decide (p<s.1.length)) ((bb.cmp (aa.var rfl) (aa.gu (l:=de I s.1) (aa.blt rfl rfl rfl) (aa.var rfl) (by lia)) ay.ltI aJ.bool).cast ?_) (fun hb=>?_) fun hb=>?_
     ·rw[hrl];exact decide_eq_decide.mpr (by omega)
     ·have hb:=of_decide_eq_true hb
      rw[if_pos hb]
      refine(aa.sub (aa.var rfl) (aa.var rfl) (aL.list (atp p hb) (by lia))).cast (congrArg PV.int ?_)
      have:=hmem p hb
      unfold ne;rw[if_neg (by omega),if_neg (by omega)]
     ·rw[if_neg (of_decide_eq_false hb)];exact aa.cInt
    case go=>
     refine af.cons (aF.tQ (o:= .lst a (de I s.1)) (o':= .lst a (de I (eM s.1 r))) (ps:=[.int (nr I r)]) (p:= .none) rfl (aa.bj rfl rfl) (by exact rfl) (aj.ag (aa.var rfl) .nil) rfl ?ins rfl rfl (af.nil ⟨.inl rfl,?inv,?l1,?l2⟩))
     case ins=>have:=oz K hrow hr;unfold de;rw[←this];exact qH (iG K hrow hso) (by rw[List.length_map];omega)
     case inv=>
      refine⟨inv0.1,inv0.2.1,inv0.2.2.1,inv0.2.2.2,by rw[es,List.length_append,List.length_singleton];omega,fun t ht=>?_⟩
      rw[es] at ht
      rcases List.mem_append.mp ht with ht | ht
      ·exact hg t ht
      ·rw[List.mem_singleton.mp ht]
       refine⟨fun q hq=>?_,rfl⟩
       simp only[jE,List.mem_cons,List.not_mem_nil,or_false] at hq
       rcases hq with rfl | rfl | rfl
       ·split
        ·exact .inl rfl
        ·rename_i hne
         have hne:p≠0:=by simpa using hne
         exact .inr (.inr (hmem _ (by omega)))
       ·exact .inr (.inr hr)
       ·split
        ·rename_i hlt;exact .inr (.inr (hmem _ hlt))
        ·exact .inr (.inl rfl)
     case l1=>exact aG.nil
     case l2=>
      rw[es]
      have e1:(bJ s r).1=eM s.1 r:=rfl
      have e2:bV I (s.2++[jE s.1 r p])=bV I s.2++[.tup (ai ((jE s.1 r p).map (ne I)))]:=by simp[bV]
      rw[e1,e2]
      exact aC.self (by ext)
   case no=>
    have es:(bJ s r).2=s.2:=by unfold bJ;simp only[hpe];rw[if_neg (by rw[hb];exact Bool.false_ne_true)]
    refine af.nil (af.cons (aF.tQ (o:= .lst a (de I s.1)) (o':= .lst a (de I (eM s.1 r))) (ps:=[.int (nr I r)]) (p:= .none) rfl (aa.bj rfl rfl) (by exact rfl) (aj.ag (aa.var rfl) .nil) rfl ?ins rfl rfl (af.nil ⟨.inl rfl,?inv,?l1,?l2⟩)))
    case ins=>have:=oz K hrow hr;unfold de;rw[←this];exact qH (iG K hrow hso) (by rw[List.length_map];omega)
    case inv=>exact⟨inv0.1,inv0.2.1,inv0.2.2.1,inv0.2.2.2,by rw[es];lia,by rw[es];exact hg⟩
    case l1=>exact aG.nil
    case l2=>
     rw[es]
     have e1:(bJ s r).1=eM s.1 r:=rfl
     rw[e1]
     exact aC.self (by ext)
  ·refine af.nil (af.cons (aF.ret (p:= .tup [.lst (de I (jD l).1), .lst (bV I (jD l).2)]) (aa.tuple (aj.ag (aa.var rfl) (aj.ag ?so .nil))) rfl))
   case so=>
    obtain⟨_,_,_,_,hz,hg⟩:=hf
    have hsl:bV I (l.foldl bJ ([],[])).2=((l.foldl bJ ([],[])).2.map fun t=>t.map (ne I)).map fun x=>PV.tup (ai x):=by simp[bV]
    have hz:(l.foldl bJ ([],[])).2.length≤5:=by simpa using hz
    refine((bH.sorted (ps:=bV I (l.foldl bJ ([],[])).2) (lt:=fun i j=>lexLt (((l.foldl bJ ([],[])).2.map fun t=>t.map (ne I)).getD i []) (((l.foldl bJ ([],[])).2.map fun t=>t.map (ne I)).getD j [])) (aa.blt rfl rfl rfl) (aa.var rfl) ?ok (by rw[List.length_map];omega) (by rw[List.length_map];exact cZ (by omega))).frozen).cast (congrArg PV.lst ?_)
    case ok=>
     rw[hsl]
     exact bW.rK (m:=2) fun x hx=>by
      obtain⟨t,ht,rfl⟩:=List.mem_map.mp hx
      rw[List.length_map,(hg t ht).2]
    ·refine fy (by omega) fun i j hi hj=>?_
     simp only[yK,List.getElem?_map,yM hi,yM hj,Option.map_some,Option.getD_some]
     exact qy K (hg _ (List.getElem_mem hi)).1 (hg _ (List.getElem_mem hj)).1
end
noncomputable def eG (b:List Nat):List Nat:=if b=[] then [32] else b
noncomputable def gP (l:List Part):List Part:=l.dropLast++[(eG (l.getLastD ([],[])).1,(l.getLastD ([],[])).2)]
noncomputable abbrev Told:=List Nat×List Part×Nat
noncomputable def fu (l:List Part) (cut:Nat):Told:=((if cut>0 then aD (l.take cut)++[10] else [])++aD (l.drop cut),l.drop cut,(aD (l.drop cut)).length)
noncomputable def fY (l:List Part) (cut head:Nat):Told:=if cut==0&&decide (head>0) then fu (gP l) (l.length - 1) else fu l cut
noncomputable abbrev dg (t:Told):PV:= .tup [.txt t.1, .tup [.lst (ak t.2.1), .int t.2.2]]
theorem fG {α:Type} (l:List α):fV l none (some (-1))=l.dropLast:=by
 unfold fV bk
 have h0:((-1:Int)<0):=by decide
 simp only[if_pos h0,Nat.sub_zero,List.drop_zero]
 rw[List.dropLast_eq_take,show(max 0 (min (-1+(l.length:Int)) l.length)).toNat=l.length - 1 by omega]
theorem eV {α:Type} {l:List α} {x:α} (h:l≠[]):bo l (-1)=some (l.getLastD x):=by
 unfold bo seqIndex?
 have hl:0<l.length:=List.length_pos_iff.mpr h
 have h0:((-1:Int)<0):=by decide
 simp only[if_pos h0]
 rw[if_pos (by simp;lia)]
 have:(-1+(l.length:Int)).toNat=l.length - 1:=by omega
 simp only[Option.bind_some,this]
 rw[←List.getLast?_eq_getElem?,List.getLast?_eq_some_getLast h,List.getLastD_eq_getLast?,List.getLast?_eq_some_getLast h];rfl
theorem b6 (a b:List Part):aD (a++b)=aD a++aD b:=by simp[aD]
theorem dM (l:List Part) (k:Nat):(aD (l.take k)).length+(aD (l.drop k)).length=(aD l).length:=by
 rw[←List.length_append,←b6,List.take_append_drop]
theorem rt {l:List Part} (h:l≠[]):(gP l).length=l.length:=by
 have:0<l.length:=List.length_pos_iff.mpr h
 simp[gP];omega
theorem oU {l:List Part} (h:l≠[]):(aD (gP l)).length≤(aD l).length+1:=by
 have e:l=l.dropLast++[l.getLast h]:=(List.dropLast_concat_getLast h).symm
 have e2:l.getLastD ([],[])=l.getLast h:=by rw[List.getLastD_eq_getLast?,List.getLast?_eq_some_getLast h];rfl
 have e3:(aD l).length=(aD l.dropLast).length+((l.getLast h).1++(l.getLast h).2).length:=by
  conv=>lhs;rw[e]
  rw[b6,List.length_append];simp[aD]
 unfold gP
 rw[b6,List.length_append,e2,e3]
 have:(eG (l.getLast h).1).length≤(l.getLast h).1.length+1:=by
  unfold eG;split<;>simp
 simp[aD];lia
noncomputable abbrev nN:Str:=⟨#[108,105,110,101]⟩
noncomputable abbrev ug:Str:=⟨#[99,117,116]⟩
noncomputable abbrev iU:Str:=⟨#[104,101,97,100]⟩
theorem bD (l:List Part):(ak l).length=l.length:=by simp
theorem fz {l:List Part} {q:Part} (h:q∈l):(q.1++q.2).length≤(aD l).length:=by
 have h1:(q.1++q.2).length∈(l.map fun q=>q.1++q.2).map List.length:=List.mem_map_of_mem (List.mem_map_of_mem (f:=fun q:Part=>q.1++q.2) h)
 have h2:=mX h1
 rw[aD,List.length_flatten];exact h2
theorem yq {l:List Part} {cut head:Nat} (hl:l≠[]) (hz:l.length≤100) (ht:(aD l).length≤500):cA (CX w mg mb ex) (n+3) 257 [.lst (ak l), .int cut, .int head] [] (dg (fY l cut head)):=by
 refine cA.enter (dps:=[]) (dvs:=[]) [nN,ug,iU] (hk:=by exact rfl) rfl rfl rfl rfl (by ext) (fun s g vs kvs h1 h2=>?b) (fun _=>rfl) rfl ?st (by decide) rfl rfl rfl (aW rfl) ?body
 case b=>exact vs3 h1 fun a b c=>vs0 h2 (Binds.of (fun S=>by with_unfolding_all rfl) s g)
 case st=>exact bI (by ext)
 case body=>
  have hl0:0<l.length:=List.length_pos_iff.mpr hl
  obtain⟨L,hL⟩:∃L,L=if cut==0&&decide (head>0) then gP l else l:=⟨_,rfl⟩
  obtain⟨c,hc⟩:∃c,c=if cut==0&&decide (head>0) then l.length - 1 else cut:=⟨_,rfl⟩
  have hdue:fY l cut head=fu L c:=by unfold fY;rw[hL,hc];split<;>rfl
  have hLl:L.length=l.length:=by rw[hL];split;exact rt hl;rfl
  have hLt:(aD L).length≤501:=by
   rw[hL];split
   ·have:=oU hl;lia
   ·omega
  rw[hdue]
  refine af.cons (cI.gX (P:=fun fl ρ' ω'=>fl= .next∧aG [(nN,some (.lst (ak L))),(ug,some (.int c))] ρ') (aF.ite (b:=cut==0&&decide (head>0)) (bb.rH (AllP.oS ((bb.cmp (aa.var rfl) aa.cInt ay.tZ aJ.bool).cast ?c1) fun _=>((bb.cmp (aa.var rfl) aa.cInt ay.rF aJ.bool).cast ?c2))) (fun hb=>?yes) fun hb=>?no) ?rest)
  case c1=>rw[Bool.eq_iff_iff];simp
  case c2=>exact decide_eq_decide.mpr (by omega)
  case no=>
   rw[if_neg (by rw[hb];exact Bool.false_ne_true)] at hL hc
   subst hL;subst hc
   exact af.nil ⟨rfl,by exact aG.self (by ext)⟩
  case yes=>
   rw[if_pos hb] at hL hc
   have hlast:bo (ak l) (-1)=some (.tup [.txt (l.getLastD ([],[])).1, .txt (l.getLastD ([],[])).2]):=by
    rw[eV (x:= .tup [.txt [], .txt []]) (by simpa using hl)]
    simp[List.getLastD_eq_getLast?,List.getLast?_map,List.getLast?_eq_some_getLast hl]
   have hll:(l.getLastD ([],[])).1.length+(l.getLastD ([],[])).2.length≤500:=by
    have hm:l.getLastD ([],[])∈l:=by
     rw[List.getLastD_eq_getLast?,List.getLast?_eq_some_getLast hl];exact List.getLast_mem hl
    have:=fz hm
    rw[List.length_append] at this;omega
   refine af.cons (aF.pR (p:= .int (l.length - 1:Nat)) (q:= .lst (ak (gP l))) (aa.tuple (aj.ag ?len (aj.ag ?fix .nil))) rfl rfl ?_ (fun env he=>?sw))
   case sw=>
    obtain⟨⟩:=env
    dsimp only at he
    subst he
    with_unfolding_all rfl
   case len=>
    refine(aa.bin (aa.gu (l:=ak l) (aa.blt rfl rfl rfl) (aa.var rfl) (by rw[bD];omega)) aa.cInt aK.sub).cast (congrArg PV.int ?_)
    rw[bD];omega
   case fix=>
    refine(aa.lN (aa.bG (l:=ak l) (lo:=none) (hi:=some (-1)) (aa.var rfl) aP.none (aP.some aa.kO) (by rw[bD];omega)) (aa.list (aj.ag (aa.tuple (aj.ag (p:= .txt (eG (l.getLastD ([],[])).1)) ?or (aj.ag (aa.sub (aa.sub (aa.var rfl) aa.kO (aL.list hlast (by rw[bD];omega))) aa.cInt (aL.tup rfl (by simp))) .nil))) .nil)) ?_).cast ?_
    case or=>
     by_cases he:(l.getLastD ([],[])).1=[]
     ·refine(aa.vJ (aa.sub (aa.sub (aa.var rfl) aa.kO (aL.list hlast (by rw[bD];omega))) aa.cInt (aL.tup rfl (by simp))) ?_ aa.cStr).cast ?_
      ·have:=aJ.str (X:=CX w mg mb ex) (n:=n+2) (l:=(l.getLastD ([],[])).1) (by omega)
       rw[he] at this ⊢;exact this
      ·rw[eG,if_pos he]
     ·refine(aa.xP (aa.sub (aa.sub (aa.var rfl) aa.kO (aL.list hlast (by rw[bD];omega))) aa.cInt (aL.tup rfl (by simp))) ?_).cast ?_
      ·have:=aJ.str (X:=CX w mg mb ex) (n:=n+2) (l:=(l.getLastD ([],[])).1) (by omega)
       rwa [show(l.getLastD ([],[])).1.isEmpty=false by simpa using he] at this
      ·rw[eG,if_neg he]
    ·rw[fG];simp;omega
    ·rw[fG];unfold gP;simp
   ·subst hL;subst hc
    exact af.nil ⟨rfl,by exact aG.self (by ext)⟩
  case rest=>
   (intro fl ρ' ω' zz;obtain⟨rfl,hle⟩:=zz)
   refine cI.less (ρ':=[(nN,some (.lst (ak L))),(ug,some (.int c))]) (ω':=[]) ?_ hle aC.nil
   have hta:=dM L c
   have dropE:fV (ak L) (some (c:Int)) none=ak (L.drop c):=by rw[cE];simp
   have takeE:fV (ak L) none (some (c:Int))=ak (L.take c):=by rw[br];simp
   refine af.cons (aF.assign (p:= .txt (aD (L.drop c))) (aa.bK (aa.bj rfl rfl) (by exact rfl) (aj.ag ((aa.bG (l:=ak L) (lo:=some (c:Int)) (hi:=none) (aa.var rfl) (aP.some (aa.var rfl)) aP.none (by rw[bD];omega)).cast (congrArg PV.lst dropE)) .nil) (text (by omega) (by simp;lia))) (.inl rfl) ?_)
   refine af.cons (aF.ret (p:=dg (fu L c)) (aa.tuple (aj.ag ?t1 (aj.ag (aa.tuple (aj.ag ((aa.bG (l:=ak L) (lo:=some (c:Int)) (hi:=none) (aa.var rfl) (aP.some (aa.var rfl)) aP.none (by rw[bD];omega)).cast (congrArg PV.lst dropE)) (aj.ag (aa.oO (l:=aD (L.drop c)) (aa.blt rfl rfl rfl) (aa.var rfl) (by omega)) .nil))) .nil))) rfl)
   refine aa.bin (p:= .txt (if c>0 then aD (L.take c)++[10] else [])) (aa.tE (b:=decide (c>0)) ((bb.cmp (aa.var rfl) aa.cInt ay.rF aJ.bool).cast ?_) (fun hb=>?_) fun hb=>?_) (aa.var rfl) (aK.eN ?_)
   ·exact decide_eq_decide.mpr (by omega)
   ·rw[if_pos (of_decide_eq_true hb)]
    exact aa.bin (aa.bK (aa.bj rfl rfl) (by exact rfl) (aj.ag ((aa.bG (l:=ak L) (lo:=none) (hi:=some (c:Int)) (aa.var rfl) aP.none (aP.some (aa.var rfl)) (by rw[bD];omega)).cast (congrArg PV.lst takeE)) .nil) (text (by omega) (by simp;omega))) aa.cStr (aK.eN (b:=[10]) (by simp;omega))
   ·rw[if_neg (of_decide_eq_false hb)];exact aa.cStr
   ·split
    ·simp;omega
    ·simp;omega
theorem cY:dD (CX w mg mb ex).K 178:=⟨⟨_,rfl,rfl⟩,⟨"list.__getattribute__",by ext,by decide +kernel⟩,by ext⟩
theorem lT:dD (CX w mg mb ex).K 94:=⟨⟨_,rfl,rfl⟩,⟨"object.__getattribute__",by ext,by decide +kernel⟩,by ext⟩
theorem fF:mroIn (CX w mg mb ex).K 178 (.type "list")=some true:=by ext
theorem p8:jj (CX w mg mb ex) 178:= .list cY (by ext) fF
theorem cP:jj (CX w mg mb ex) 94:= .plain lT (by ext)
theorem jA:SubL (CX w mg mb ex) 178:=⟨fF,by ext,by ext,by ext,by ext,by ext⟩
theorem m9:p9 (CX w mg mb ex).K 178:=⟨by ext,_,rfl,rfl,fun self=>(refuseLoop_ref self _ 178 [.type "list", .type "object"]).trans (mx self),rfl,by ext⟩
theorem iz:p9 (CX w mg mb ex).K 94:=⟨by ext,_,rfl,rfl,fun self=>(refuseLoop_ref self _ 94 [.type "object"]).trans (PySem.F.store_object.passes self),rfl,by ext⟩
theorem fE:findIn (CX w mg mb ex).K (.ref 178) eh=some none:=by ext
theorem g8:findIn (CX w mg mb ex).K (.ref 178) "__len__" =some (some (.ref 145)):=by ext
theorem ly:findIn (CX w mg mb ex).K (.ref 178) "__str__" =some (some (.ref 152)):=by ext
noncomputable abbrev bw:Str:=⟨#[115,101,108,102]⟩
theorem mR (f:Addr) (fd:FuncData) (ar:Arg) (h:∃oc od osl,(CX w mg mb ex).K.lookup f=some ⟨oc,od, .func fd,osl⟩) (h1:(fd.params.posonlyargs++fd.params.args).head?=some ar)
  (h2:∃cda ccl cdd ccs vs file tf,fd.code= .ref cda∧(CX w mg mb ex).K.lookup cda=some ⟨ccl,cdd, .fields vs,ccs⟩∧vs[2]?=some (.str file tf)∧(((CX w mg mb ex).prog.main.file:Str)==file)=true)
  (h3:fd.closure=[(("__class__":Str),102)]) (h4:fd.scope.names.lookup ("super":Str)=some .globalImplicit) (h5:fd.scope.names.lookup ("__class__":Str)=some .free) (h6:fd.scope.names.lookup ar.arg=some .local) (h7:fd.scope.kind= .function):k4 (CX w mg mb ex) f 102 fd ar 178:=
 ⟨h,h1,h2,h3,⟨_,_,_,rfl⟩,⟨_,rfl,by ext⟩,by ext,fF,by ext,by ext,h4,h5,h6,h7,by ext⟩
theorem o7 (k:Int) (l:List PV):cA (CX w mg mb ex) (n+1) 175 [bS k l] [] (.int l.length):=by
 (intro A s G vs kvs R rm bs zz;obtain⟨v,_,rfl,d,rfl⟩:=zz;intro hkv q)
 obtain⟨a,o,dd,od,m,us,its,rfl,I,ii,hn,mm,r1,r2,g⟩:=Rd.ins bs.within d
 cases hkv
 refine iA (names:=[bw]) (us:=[.ref a]) (ω:=[]) (ρ:=[]) (hk:=by exact rfl) rfl rfl rfl rfl (by ext) (Binds.of (fun S=>by with_unfolding_all rfl)) (by decide) (by decide) rfl (by decide) rfl rfl rfl (aW rfl) rm bs (fun _ _ e=>nomatch e) [] (by simp) (fun _ _ e=>nomatch e) (fun _ _ _ _ e=>nomatch e) fun env h₁ tk D E he hD rm' r nsAt=>?_
 obtain⟨m1,hn1,hm1⟩:=nsAt bw _ (.head _)
 have t0:Step (CX w mg mb ex) s G {s with heap:=h₁,toks:=tk} G:=by
  refine⟨fun b o e=>r.fin.keep b o (by rw[hD];simpa using e),r.fin.gnd,Sub.refl _,r.fin.within,fun _ _ _ e _=>e,rfl,r.fin.gens⟩
 obtain⟨a',o',dd',od',m',us',its',e0,I',ii',hn',mm',r1',r2',g'⟩:=Rd.ins t0.within d
 cases e0
 refine ks_wpAt_execs_cons (ks_wpAt_Return_some ?_)
 refine iC (f:=175) (fd:=_) (ar:=_) (mR 175 _ _ ⟨_,_,_,rfl⟩ rfl ⟨_,_,_,_,_,_,_,rfl,rfl,rfl,by ext⟩ rfl rfl rfl rfl rfl) pP r.er.gnd (by rw[he];rfl) (by rw[he];rfl) (by rw[he];rfl) (by rw[he];rfl) (by rw[he];rfl) (by rw[he];rfl) ⟨m1,hn1,hm1⟩ I' (.inl rfl) entry_list_len (by decide +kernel) (fun _ _ q=>wpAny_of_eq (tn _) q) (fun h' tk' k=>?_) (by rw[he];rfl)
 refine sJ (k _ _ I'.at_) ii' fun t tk2=>?_
 refine q _ _ G (t0.trans (t0.base.ext (h':=h') (tk:=tk2) k)) ⟨t,by rw[r2'.length]⟩
theorem gI {sc:Scope} {ρ:az} {o:PySem.Expr} {apos pos:Pos} {pl:Env→Sem Bool} {k:Int} {l:List PV} (ho:aa (CX w mg mb ex) (n+1) sc ρ o (bS k l))
  (he:∀env,eval (.Call (.Attribute o (⟨#[112,97,114,116,95,99,111,117,110,116]⟩:Str) apos) [] [] pos) env=(do
   let ov ←eval o env
   standAt apos.atName
   let (f,first) ←holding [ov] (getMethod ov (⟨#[112,97,114,116,95,99,111,117,110,116]⟩:Str) (pl env))
   callWith pos f first (backTo pos (starEach [] env)) (backToKw pos (keywordEach [] env))):=by intro _;rfl):aa (CX w mg mb ex) (n+1) sc ρ (.Call (.Attribute o (⟨#[112,97,114,116,95,99,111,117,110,116]⟩:Str) apos) [] [] pos) (.int l.length):=
 aa.fk (pl:=pl) ho .nil cY (by ext) (f:=175) rfl (by ext) (o7 k l) (by decide) he
theorem sf (a d:Addr) (k:Int):gN (CX w mg mb ex) (n+2) 138 (.acc a d k []) [] (.tup [.txt [], .txt []]) (.acc a d k []):=by
 refine gN.iA (dps:=[]) (dvs:=[]) bw [] (hk:=by exact rfl) rfl rfl rfl rfl (by ext) (fun s g v vs h1=>?b) (fun _=>rfl) rfl (by decide) (by decide) (by decide) rfl rfl rfl (aW rfl) rfl ?body
 case b=>exact vs0 h1 (Binds.of (fun S=>by with_unfolding_all rfl) s g)
 case body=>
  refine rI.cons (aF.ite (b:=true) ((bb.cmp (gI (k:=k) (l:=[]) (aa.var rfl)) aa.cInt ay.tZ aJ.bool)) (fun _=>?_) (fun h=>nomatch h))
  refine af.cons (aF.vH (p:= .tup [.txt [], .txt []]) (aa.tuple (aj.ag aa.cStr (aj.ag aa.cStr .nil))) rfl ⟨rfl,rfl⟩)
theorem g9 (a d:Addr) (k:Int) {l:List PV} {p:PV} (hz:l.length≤10000):gN (CX w mg mb ex) (n+2) 138 (.acc a d k (l++[p])) [] p (.acc a d k l):=by
 refine gN.iA (dps:=[]) (dvs:=[]) bw [] (hk:=by exact rfl) rfl rfl rfl rfl (by ext) (fun s g v vs h1=>?b) (fun _=>rfl) rfl (by decide) (by decide) (by decide) rfl rfl rfl (aW rfl) rfl ?body
 case b=>exact vs0 h1 (Binds.of (fun S=>by with_unfolding_all rfl) s g)
 case body=>
  refine rI.cons (aF.ite (b:=false) ((bb.cmp (gI (k:=k) (l:=l++[p]) (aa.var rfl)) aa.cInt ay.tZ aJ.bool).cast ?_) (fun h=>nomatch h) (fun _=>?_))
  ·simp;lia
  refine af.nil ?_
  refine rI.qV (mR 138 _ _ ⟨_,_,_,rfl⟩ rfl ⟨_,_,_,_,_,_,_,rfl,rfl,rfl,by ext⟩ rfl rfl rfl rfl rfl) pO (.inr rfl) F.entry_list_pop (by decide +kernel) (fun {A Q E s' ox od} X0 I q=>tm X0 I rfl (by ext) (by ext) (by ext) q) rfl (fun A s G Q E b ha hG hX q=>?_) ⟨rfl,rfl⟩ (fun env he=>rfl)
  obtain⟨o,m,vs,t,ho,hi,⟨od,es,ep,hod,hz'⟩,qq,dd,ne⟩:=id ha
  obtain⟨us,v,rfl,du,dv⟩:=aE.snoc dd
  refine uO (hi.inst ho hod) hi (by rw[du.length];exact hz) fun h' o' ho' hi' hs'=>?_
  obtain⟨st,at'⟩:=lz (tk:=s.toks) b ha hG hX hs' ho' hi' du
  exact q v _ G st at' dv
noncomputable abbrev rO:Str:=⟨#[102,119,115]⟩
noncomputable abbrev oq:Str:=⟨#[115,116,114,105,110,103]⟩
noncomputable abbrev kI:Str:=⟨#[105]⟩
noncomputable abbrev qE:Str:=⟨#[115,116,97,114,116,118,97,108]⟩
theorem push (a d:Addr) (k:Int) {l:List PV} {p q:PV} (hp:p.flat=true) (hq:q.flat=true) (hz:l.length≤10000):gN (CX w mg mb ex) (n+1) 122 (.acc a d k l) [p,q] .none (.acc a d k (l++[.tup [p,q]])):=by
 refine gN.enter (dps:=[]) (dvs:=[]) bw [rO,oq] (hk:=by exact rfl) rfl rfl rfl rfl (by ext) (fun s g v vs h1=>?b) (fun _=>rfl) rfl ?st (by decide) rfl rfl rfl (aW rfl) rfl ?body
 case b=>exact vs2 h1 fun x y=>Binds.of (fun S=>by with_unfolding_all rfl) s g
 case st=>exact bI (by ext)
 case body=>
  have hf:(PV.tup [p,q]).flat=true:=Bool.and_eq_true_iff.mpr ⟨hp,Bool.and_eq_true_iff.mpr ⟨hq,rfl⟩⟩
  refine af.cons (aF.eC (bE.pW (k:=k) (l:=l) rfl bu.self (aT.self rfl rfl) (aa.tuple (aj.ag (aa.var rfl) (aj.ag (aa.var rfl) .nil))) hf cY fF (by ext) hz) (af.nil ⟨rfl,rfl,rfl⟩))
theorem sh (a d:Addr) (k:Int) {l:List PV} {i:Nat} (hf:PV.bO l=true) (hz:l.length≤10000):gN (CX w mg mb ex) (n+1) 130 (.acc a d k l) [.int i] (.lst (l.drop i)) (.acc a d k (l.take i)):=by
 refine gN.enter (dps:=[]) (dvs:=[]) bw [kI] (hk:=by exact rfl) rfl rfl rfl rfl (by ext) (fun s g v vs h1=>?b) (fun _=>rfl) rfl ?st (by decide) rfl rfl rfl (aW rfl) rfl ?body
 case b=>exact vs1 h1 fun x=>Binds.of (fun S=>by with_unfolding_all rfl) s g
 case st=>exact bI (by ext)
 case body=>
  refine af.cons (aF.ju (p:= .lst (fV l (some (i:Int)) none)) (bE.yn (bH.qS jA (aa.var rfl) (aP.some (aa.var rfl)) aP.none (by omega)) ?fl) (.inl rfl) ?_)
  case fl=>
   rw[cE]
   have key:∀(m:List PV) (i:Nat),PV.bO m=true→PV.bO (m.drop i)=true:=by
    intro m
    induction m with
    | nil=>intro i h;simpa using h
    | cons x m ih=>
     intro i h
     cases i with
     | zero=>exact h
     | succ i=>unfold PV.bO at h;exact ih i (Bool.and_eq_true_iff.mp h).2
   exact key l i hf
  refine af.cons (aF.fx (lo:=some (i:Int)) (k:=k) (l:=l) (m:=[]) jA rfl (aa.list .nil) (aP.some (aa.var rfl)) hz (by simp) ?_)
  refine af.cons (aF.uf (p:= .lst (l.drop i)) (bE.small ((aa.var (p:= .lst (fV l (some (i:Int)) none)) rfl).cast (by rw[cE]))) ⟨rfl,?_⟩)
  rw[aM]
  simp only[Option.some.injEq,Own.acc.injEq,true_and,List.append_nil]
  unfold bk
  have:(max 0 (min (if (i:Int)<0 then (i:Int)+l.length else i) (l.length:Int))).toNat=min i l.length:=by
   rw[if_neg (by lia)];omega
  simp only[this]
  rw[←List.take_eq_take_min]
theorem uI (a d:Addr) (k:Int) {l m:List PV} (hz:l.length≤10000) (hz2:m.length≤10000):gN (CX w mg mb ex) (n+1) 160 (.acc a d k l) [.lst m] .none (.acc a d 0 m):=by
 refine gN.enter (dps:=[]) (dvs:=[]) bw [qE] (hk:=by exact rfl) rfl rfl rfl rfl (by ext) (fun s g v vs h1=>?b) (fun _=>rfl) rfl ?st (by decide) rfl rfl rfl (aW rfl) rfl ?body
 case b=>exact vs1 h1 fun x=>Binds.of (fun S=>by with_unfolding_all rfl) s g
 case st=>exact bI (by ext)
 case body=>
  refine af.cons (aF.ite (b:=false) (bb.cmp (aa.var (p:= .lst m) rfl) aa.fv ay.sP aJ.bool) (fun h=>nomatch h) (fun _=>af.nil ?_))
  refine af.cons (aF.fx (lo:=none) (k:=k) (l:=l) (m:=m) jA rfl (aa.var rfl) aP.none hz hz2 ?_)
  refine af.cons (aF.nV (k':=0) (k:=k) (l:=l.take (bk l.length none 0)++m) rfl aa.cInt m9 (by ext) (af.nil ⟨rfl,rfl,?_⟩))
  rw[aM];simp[bk]
theorem uJ (a d:Addr) (k:Int) {l:List PV} (hz:l.length≤10000):gN (CX w mg mb ex) (n+1) 160 (.acc a d k l) [] .none (.acc a d 0 []):=by
 refine gN.enter (dps:=[.none]) (dvs:=[.none]) bw [qE] (hk:=by exact rfl) rfl rfl rfl rfl (by ext) (fun s g v vs h1=>?b) (fun _=>⟨_,_,rfl,rfl,rfl⟩) rfl ?st (by decide) rfl rfl rfl (aW rfl) rfl ?body
 case b=>exact vs0 h1 (Binds.of (fun S=>by with_unfolding_all rfl) s g)
 case st=>exact bI (by ext)
 case body=>
  refine af.cons (aF.ite (b:=true) (bb.cmp (aa.var (p:= .none) rfl) aa.fv ay.dm aJ.bool) (fun _=>?_) (fun h=>nomatch h))
  refine af.cons (aF.assign (p:= .lst []) (aa.list .nil) (.inl rfl) (af.nil ?_))
  refine af.cons (aF.fx (lo:=none) (k:=k) (l:=l) (m:=[]) jA rfl (aa.var rfl) aP.none hz (by simp) ?_)
  refine af.cons (aF.nV (k':=0) (k:=k) (l:=l.take (bk l.length none 0)++[]) rfl aa.cInt m9 (by ext) (af.nil ⟨rfl,rfl,?_⟩))
  rw[aM];simp[bk]
noncomputable def bL (k:Nat) (l:List Part):Nat:=k+(aD l).length
theorem qz (l:List Part):(l.map fun p=>((p.1.length+p.2.length:Nat):Int)).sum=(aD l).length:=by
 induction l with
 | nil=>rfl
 | cons p l ih=>
  rw[List.map_cons,List.sum_cons,ih]
  simp[aD];lia
theorem sX (k:Nat) (l:List Part) (hz:bL k l<100000):PyProof.Rows.SumFits ((k:Int)::l.map fun p=>((p.1.length+p.2.length:Nat):Int)):=by
 have nn:∀(l:List Int),(∀x∈l,0≤x)→∀j,0≤(l.take j).sum∧(l.take j).sum≤l.sum∧0≤l.getD j 0∧l.getD j 0≤l.sum:=by
  intro l
  induction l with
  | nil=>intro _ j;simp
  | cons a l ih=>
   intro h j
   have ih:=ih fun x hx=>h x (yL _ hx)
   have ha:=h a (List.mem_cons_self ..)
   cases j with
   | zero=>have:=(ih 0).2.1;simp at this ⊢;omega
   | succ j=>have:=ih j;simp at this ⊢;omega
 have hs:((k:Int)::l.map fun p=>((p.1.length+p.2.length:Nat):Int)).sum=(bL k l:Nat):=by rw[List.sum_cons,qz,bL];lia
 have hp:∀x∈((k:Int)::l.map fun p=>((p.1.length+p.2.length:Nat):Int)),0≤x:=by
  intro x hx
  rcases List.mem_cons.mp hx with e | e
  ·lia
  ·obtain⟨p,_,rfl⟩:=List.mem_map.mp e;omega
 intro j hj
 have h1:=nn _ hp j
 have h2:=nn _ hp (j+1)
 rw[hs] at h1 h2
 unfold InLong
 lia
theorem jJ (k:Nat) (l:List Part) (hz:bL k l<100000):cA (CX w mg mb []) (n+2) 145 [bS k (ak l)] [] (.int (bL k l)):=by
 refine cA.enter (dps:=[]) (dvs:=[]) [bw] (hk:=by exact rfl) rfl rfl rfl rfl (by ext) (fun s g vs kvs h1 h2=>?b) (fun _=>rfl) rfl ?st (by decide) rfl rfl rfl ?cod ?body
 case b=>exact vs1 h1 fun a=>vs0 h2 (Binds.of (fun S=>by with_unfolding_all rfl) s g)
 case st=>exact bI (by ext)
 case cod=>
  intro v q e
  cases (show some (Value.ref 144,("_Accumulator.__len__.<locals>.":Str))=some (v,q) from e)
  exact⟨rfl,by rfl⟩
 case body=>
  have hpl:∀p∈l,p.1.length<1000000∧p.2.length<1000000:=fun p hp=>by
   have:=fz hp
   rw[List.length_append] at this
   unfold bL at hz
   omega
  refine af.cons (aF.ret ((aa.uC (l:=l) 0 (aa.blt rfl rfl rfl) rfl jA rfl (.head _) ?un ?hk rfl ?fr ?ce rfl rfl rfl (by decide) rfl rfl rfl rfl hpl (sX k l hz) p8 fE rfl rfl).cast ?_) rfl)
  case un=>
   intro t ht e
   simp only[CX,List.mem_cons,List.not_mem_nil,or_false] at ht
   rcases ht with rfl | rfl | rfl | rfl<;>first | rfl | exact absurd e (by decide)
  case hk=>ext
  case fr=>decide
  case ce=>decide
  rw[qz];unfold bL;simp
theorem m8 (k:Int) (l:List Part) (hz:(aD l).length≤100000) (hl:l.length≤10000):cA (CX w mg mb []) (n+2) 152 [bS k (ak l)] [] (.txt (aD l)):=by
 refine cA.enter (dps:=[]) (dvs:=[]) [bw] (hk:=by exact rfl) rfl rfl rfl rfl (by ext) (fun s g vs kvs h1 h2=>?b) (fun _=>rfl) rfl ?st (by decide) rfl rfl rfl ?cod ?body
 case b=>exact vs1 h1 fun a=>vs0 h2 (Binds.of (fun S=>by with_unfolding_all rfl) s g)
 case st=>exact bI (by ext)
 case cod=>
  intro v q e
  cases (show some (Value.ref 151,("_Accumulator.__str__.<locals>.":Str))=some (v,q) from e)
  exact⟨rfl,by rfl⟩
 case body=>
  have hpl:∀p∈l,p.1.length<1000000∧p.2.length<1000000:=fun p hp=>by
   have:=fz hp
   rw[List.length_append] at this
   omega
  refine af.cons (aF.ret (p:= .txt (l.map fun p=>p.1++p.2).flatten) ?e rfl)
  refine((aa.joinGen (l:=l) (aa.glob rfl rfl fun _=>⟨_,rfl⟩) rfl jA rfl (.tail _ (.head _)) ?un ?hk rfl ?fr ?ce rfl rfl rfl (by decide) rfl rfl rfl hpl ?_ (by omega)))
  case un=>
   intro t ht e
   simp only[CX,List.mem_cons,List.not_mem_nil,or_false] at ht
   rcases ht with rfl | rfl | rfl | rfl<;>first | rfl | exact absurd e (by decide)
  case hk=>ext
  case fr=>decide
  case ce=>decide
  have:(l.map fun p=>p.1.length+p.2.length).sum=(aD l).length:=by
   rw[aD,List.length_flatten,List.map_map]
   exact congrArg List.sum (List.map_congr_left fun p _=>by simp)
  exact yN (Nat.le_of_eq this) hz
theorem uT (k:Nat) (l:List Part) (hz:bL k l<100000) (hl:l.length≤10000) (h:k≠0∨((aD l).length≠0∧Txt.isspace (tx (aD l))=false)):cA (CX w mg mb []) (n+5) 167 [bS k (ak l)] [] (.bool false):=by
 refine cA.enter (dps:=[]) (dvs:=[]) [bw] (hk:=by exact rfl) rfl rfl rfl rfl (by ext) (fun s g vs kvs h1 h2=>?b) (fun _=>rfl) rfl ?st (by decide) rfl rfl rfl (aW rfl) ?body
 case b=>exact vs1 h1 fun a=>vs0 h2 (Binds.of (fun S=>by with_unfolding_all rfl) s g)
 case st=>exact bI (by ext)
 case body=>
  have hz2:(aD l).length<100000:=by unfold bL at hz;omega
  refine af.cons (aF.ret (p:= .bool false) ?e rfl)
  by_cases hk:k=0
  ·have h:=h.resolve_left (fun q=>q hk)
   refine aa.tS (p:= .bool true) ((aa.cmp (aa.attr (p:= .int k) 0 (aa.var rfl) p8 fE rfl rfl) aa.cInt ay.tZ).cast ?_) aJ.bool ?_
   ·subst hk;rfl
   refine aa.vJ (p:= .bool false) ((aa.not (aa.var (p:=bS k (ak l)) rfl) (aJ.len (n:=n+3) jA g8 (by ext) (jJ (n:=n+1) k l hz) (by omega))).cast ?_) aJ.bool ?_
   ·rw[decide_eq_true (by unfold bL;lia)];rfl
   refine(aa.isspace (aa.ud (aa.blt rfl rfl rfl) (aa.var (p:=bS k (ak l)) rfl) ly (by ext) (m8 (n:=n+1) k l (by omega) hl))).cast ?_
   rw[h.2]
  ·refine aa.tT (p:= .bool false) ((aa.cmp (aa.attr (p:= .int k) 0 (aa.var rfl) p8 fE rfl rfl) aa.cInt ay.tZ).cast ?_) aJ.bool
   congr 1
   simpa using hk
theorem bl:findIn (CX w mg mb ex).K (.ref ct) jC=some none:=by ext
theorem iM:findIn (CX w mg mb ex).K (.ref ct) eT=some none:=by ext
theorem sU:findIn (CX w mg mb ex).K (.ref ct) qg=some none:=by ext
theorem pF:findIn (CX w mg mb ex).K (.ref ct) lg=some none:=by ext
noncomputable abbrev cK (q:Part):PV:= .tup [.txt q.1, .txt q.2]
theorem c9 (l:List Part) (q:Part):ak (l++[q])=ak l++[cK q]:=by simp
theorem dG {a d:Addr} {k:Int} {l:List PV}:(Own.acc a d k l).cls≠0:=by show bq≠0;decide
theorem kW {f df ln a d:Addr} {ml:Int} {sp:Str} {lines:List PV} {k:Int} {l:List PV}:(Own.fmt f df ln a d ml sp lines k l).cls≠0:=by show ct≠0;decide
theorem oE {q:Part} (hc:∀c∈q.1++q.2,c<128) {d:Nat}:(cK q).gd (d+1)=true:=PV.gx fun p hp=>by
 simp only[List.mem_cons,List.not_mem_nil,or_false] at hp
 rcases hp with rfl | rfl
 ·exact PV.eo fun c h=>hc c (List.mem_append_left _ h)
 ·exact PV.eo fun c h=>hc c (List.mem_append_right _ h)
theorem uB {a b:List Nat} (h:tx a=tx b):a=b:=by
 have:=congrArg (fun s:Str=>s.cps.toList) h
 simpa [tx] using this
theorem vv:findIn (CX w mg mb ex).K (.ref bq) "__getattribute__" =some (some (.builtin "list.__getattribute__")):=by ext
theorem l7 (f df ln a d:Addr) {ml:Int} {sp:Str} {lines:List PV} {k:Nat} {l:List Part} {q:Part} (hq:q.2≠[]) (hc:∀c∈q.1++q.2,c<128) (hz:bL k (l++[q])<10000) (hl:l.length<1000) (hln:lines.length≤1000)
  (how:k≠0∨((aD (l++[q])).length≠0∧Txt.isspace (tx (aD (l++[q])))=false)):
  gN (CX w mg mb []) (n+10) 56 (.fmt f df ln a d ml sp lines k (ak (l++[q]))) [] .none (.fmt f df ln a d ml sp (lines++[.txt (aD (l++[q]))]) 0 []):=by
 rw[c9]
 refine gN.enter (dps:=[]) (dvs:=[]) bw [] (hk:=by exact rfl) rfl rfl rfl rfl (by ext) (fun s g v vs h1=>?b) (fun _=>rfl) rfl ?st (by decide) rfl rfl rfl (aW rfl) rfl ?body
 case b=>exact vs0 h1 (Binds.of (fun S=>by with_unfolding_all rfl) s g)
 case st=>exact bI (by ext)
 case body=>
  have hll:(ak l).length≤10000:=by simp;omega
  have hpos:0<bL k (l++[q]):=by
   unfold bL
   rcases how with h | h<;>lia
  refine af.cons (aF.ju (p:=cK q) (bE.fk rfl (bu.cur cP bl) aT.acc .nil rfl cY dG (by ext) rfl (by ext) (g9 (n:=n+7) a d k (l:=ak l) hll)) (.inl rfl) ?_)
  refine af.cons (aF.ite (b:=true) ((bb.cmp (aa.var (p:=cK q) rfl) (aa.tuple (aj.ag aa.cStr (aj.ag aa.cStr .nil))) (ay.tW (b:=false) (d:=3) ?g1 ?g2 ?ne) aJ.bool)) (fun _=>?t) (fun h=>nomatch h))
  case g1=>exact oE hc
  case g2=>decide
  case ne=>
   refine⟨fun h=>(nomatch h),fun e=>?_⟩
   simp only[PV.tup.injEq,List.cons.injEq,PV.str.injEq] at e
   exact absurd (uB (b:=[]) e.2.1) hq
  case t=>
   refine af.cons (aF.eC (bE.ph rfl (bu.cur cP bl) aT.acc (aa.var (p:=cK q) rfl) rfl cY vv fF (by ext) rfl (by ext) (by ext) (by ext) (by decide) (push (n:=n+8) a d k (l:=ak l) rfl rfl hll) (Nat.le_of_ble_eq_true rfl)) (af.nil ?_))
   rw[←c9]
   refine af.cons (aF.ite (b:=true) ((bb.cmp (aa.rN (aa.blt rfl rfl rfl) (aa.attr (p:=bS k (ak (l++[q]))) 3 (aa.var rfl) cP bl rfl rfl) g8 (by ext) (jJ (n:=n+6) k (l++[q]) (by omega)) (by omega)) aa.cInt ay.rF aJ.bool).cast ?g3) (fun _=>?t2) (fun h=>nomatch h))
   case g3=>exact decide_eq_true (by lia)
   case t2=>
   refine af.cons (aF.ite (b:=false) (bb.rH (AllP.um (bb.value (aa.fk (aa.attr (p:=bS k (ak (l++[q]))) 3 (aa.var rfl) cP bl rfl rfl) .nil cY (by ext) rfl (by ext) (uT (n:=n+4) k (l++[q]) (by omega) (by simp;omega) how)) aJ.bool))) (fun h=>nomatch h) (fun _=>?t3))
   refine af.cons (aF.eC (bE.kM rfl (bu.lines cP iM) aT.lines (aa.ud (aa.blt rfl rfl rfl) (aa.attr (p:=bS k (ak (l++[q]))) 3 (aa.var rfl) cP bl rfl rfl) ly (by ext) (m8 (n:=n+6) k (l++[q]) (by unfold bL at hz;lia) (by simp;omega))) rfl (by omega)) (af.nil ?_))
   refine af.nil ?_
   refine af.cons (aF.eC (bE.fk rfl (bu.cur cP bl) aT.acc .nil rfl cY dG (by ext) rfl (by ext) (uJ (n:=n+8) a d k (l:=ak (l++[q])) (by simp;omega))) (af.nil ⟨rfl,rfl,rfl⟩))
noncomputable abbrev rp:Str:=⟨#[108,105,110,101,115,101,112]⟩
theorem xN (f df ln a d:Addr) {ml:Int} {sp:Str} {L:List (List Nat)} {k:Nat} {l:List Part} {q:Part} (hq:q.2≠[]) (hc:∀c∈q.1++q.2,c<128) (hz:bL k (l++[q])<10000) (hl:l.length<1000) (hln:L.length≤100) (hlz:(L.map List.length).sum≤10000)
  (how:k≠0∨((aD (l++[q])).length≠0∧Txt.isspace (tx (aD (l++[q])))=false)):
  gN (CX w mg mb []) (n+11) 42 (.fmt f df ln a d ml sp (aI L) k (ak (l++[q]))) [.txt [10]] (.txt (ft [10] (L++[aD (l++[q])]))) (.fmt f df ln a d ml sp (aI (L++[aD (l++[q])])) 0 []):=by
 refine gN.enter (dps:=[]) (dvs:=[]) bw [rp] (hk:=by exact rfl) rfl rfl rfl rfl (by ext) (fun s g v vs h1=>?b) (fun _=>rfl) rfl ?st (by decide) rfl rfl rfl (aW rfl) rfl ?body
 case b=>exact vs1 h1 fun x=>Binds.of (fun S=>by with_unfolding_all rfl) s g
 case st=>exact bI (by ext)
 case body=>
  have e:aI L++[.txt (aD (l++[q]))]=aI (L++[aD (l++[q])]):=by simp[aI]
  refine af.cons (aF.eC (bE.fk rfl bu.self (aT.self (o':= .fmt f df ln a d ml sp (aI L++[.txt (aD (l++[q]))]) 0 []) rfl rfl) .nil rfl lT kW (by ext) rfl (by ext) (l7 (n:=n) f df ln a d (ml:=ml) (sp:=sp) (lines:=aI L) hq hc hz hl (by simp[aI];omega) how)) ?_)
  rw[e]
  refine af.cons (aF.vH (p:= .txt (ft [10] (L++[aD (l++[q])]))) (aa.joinSep (aa.var rfl) (aa.attr (p:= .lst (aI (L++[aD (l++[q])]))) 2 (aa.var rfl) cP iM rfl rfl) ?_ (by decide) (by simp;omega)) rfl ⟨rfl,rfl⟩)
  rw[List.map_append,List.sum_append]
  unfold bL at hz
  simp only[List.map_cons,List.map_nil,List.sum_cons,List.sum_nil]
  lia
noncomputable def ij (c:Nat):Bool:=Txt.isspace (tx [c])
noncomputable def iw (c:Nat) (b:List Nat):Bool:=!b.isEmpty&&([b.headD 0]==[c])
noncomputable def mY (c:Nat) (b:List Nat):Bool:=!b.isEmpty&&([b.getLastD 0]==[c])
noncomputable def dw (l:List Part) (c i:Nat):Bool:=(ij c&&iw c (l.getD i ([],[])).1)||mY c (l.getD (i - 1) ([],[])).2
noncomputable def a7 (l:List Part) (wish:List Nat):Option Nat:=wish.findSome? fun c=>aO (dw l c) (l.length - 1)
noncomputable def cL (f df ln a d:Addr) (ml:Nat) (wish:List Nat) (L:List (List Nat)) (k:Nat) (l:List Part) (q:Part):Own:=
 if bL k (l++[q])≤ml then .fmt f df ln a d ml (tx wish) (aI L) k (ak (l++[q]))
 else match a7 (l++[q]) wish with
  | some i=> .fmt f df ln a d ml (tx wish) (aI (L++[aD ((l++[q]).take i)])) 0 (ak ((l++[q]).drop i))
  | none=>if 0<k then .fmt f df ln a d ml (tx wish) (aI (L++[aD l])) 0 (ak [(eG q.1,q.2)]) else .fmt f df ln a d ml (tx wish) (aI L) k (ak (l++[q]))
theorem qT (l:List Nat):signsOf (tx l)=l.map fun c=> .txt [c]:=rfl
theorem nf {b:List Nat} (h:b≠[]):bo b 0=some (b.headD 0):=by
 cases b with
 | nil=>exact absurd rfl h
 | cons x b=>exact(ba (l:=x::b) (i:=0) (by simp)).trans rfl
theorem kJ (l:List Part):PV.bO (ak l)=true:=by
 induction l with
 | nil=>rfl
 | cons p l ih=>rw[ak,List.map_cons];unfold PV.bO;rw[Bool.and_eq_true];exact⟨rfl,ih⟩
noncomputable abbrev xq:Str:=⟨#[99,104]⟩
noncomputable abbrev tL:Str:=⟨#[112,97,114,116]⟩
theorem oK (f df ln a d:Addr) (ml:Nat) (wish:List Nat) (L:List (List Nat)) (k:Nat) (l:List Part) (q:Part):(cL f df ln a d ml wish L k l q).fp=[f,df,ln,a,d]:=by
 unfold cL
 split
 ·rfl
 ·split
  ·rfl
  ·split<;>rfl
theorem chunk (f df ln a d:Addr) {ml:Nat} {wish:List Nat} {L:List (List Nat)} {k:Nat} {l:List Part} {q:Part} (hw:∀c∈wish,c<128) (hl0:bL k (l++[q])≤ml∨l≠[]∨k=0) (hp:∀p∈l++[q],p.2≠[]∧∀c∈p.1++p.2,c<128)
  (hz:bL k (l++[q])<10000) (hl:l.length<1000) (hln:L.length≤100):
  gN (CX w mg mb []) (n+12) 91 (.fmt f df ln a d ml (tx wish) (aI L) k (ak l)) [.txt q.1, .txt q.2] .none (cL f df ln a d ml wish L k l q):=by
 refine gN.enter (dps:=[]) (dvs:=[]) bw [rO,oq] (hk:=by exact rfl) rfl rfl rfl rfl (by ext) (fun s g v vs h1=>?b) (fun _=>rfl) rfl ?st (by decide) rfl rfl rfl (aW rfl) (oK ..) ?body
 case b=>exact vs2 h1 fun x y=>Binds.of (fun S=>by with_unfolding_all rfl) s g
 case st=>exact bI (by ext)
 case body=>
  have hll:(ak l).length≤10000:=by simp;omega
  have hzt:(aD (l++[q])).length<10000:=by unfold bL at hz;omega
  refine af.cons (aF.eC (bE.fk rfl (bu.cur cP bl) aT.acc (aj.ag (aa.var rfl) (aj.ag (aa.var rfl) .nil)) rfl cY dG (by ext) rfl (by ext) (push (n:=n+10) a d k (l:=ak l) (p:= .txt q.1) (q:= .txt q.2) rfl rfl hll)) ?_)
  rw[show ak l++[.tup [.txt q.1, .txt q.2]]=ak (l++[q]) from (c9 l q).symm]
  generalize hl':l++[q]=l'
  refine af.cons (aF.ite (b:=decide (bL k l'>ml)) ((bb.cmp (aa.rN (aa.blt rfl rfl rfl) (aa.attr (p:=bS k (ak l')) 3 (aa.var rfl) cP bl rfl rfl) g8 (by ext) (jJ (n:=n+8) k l' (by rw[←hl'];omega)) (by rw[←hl'];omega)) (aa.attr (p:= .int ml) 0 (aa.var rfl) cP sU rfl rfl) ay.rF aJ.bool).cast ?g1) (fun hb=>?over) (fun hb=>?fits))
  case g1=>exact decide_eq_decide.mpr (by omega)
  case fits=>
   refine af.nil (af.nil ⟨rfl,rfl,?_⟩)
   rw[aM]
   unfold cL
   rw[hl',if_pos (by have:=of_decide_eq_false hb;omega)]
  case over=>
   have hov:¬bL k l'≤ml:=by have:=of_decide_eq_true hb;omega
   have hN:(ak l').length=l.length+1:=by rw[←hl'];simp
   have hn':l'.length=l.length+1:=by rw[←hl'];simp
   have hpart:∀j,j<l'.length→(ak l')[j]?=some (cK (l'.getD j ([],[]))):=fun j hj=>by
    simp[yK,yM hj]
   have hplen:∀j,j<l'.length→(l'.getD j ([],[])).1.length<10000∧(l'.getD j ([],[])).2.length<10000:=fun j hj=>by
    have hm:l'.getD j ([],[])∈l':=by rw[yK,yM hj];exact List.getElem_mem hj
    have:=fz hm
    rw[List.length_append] at this
    rw[hl'] at hzt
    omega
   refine af.cons (aF.vR (ua.str (x:=tx wish) (aa.attr (p:= .txt wish) 1 (aa.var rfl) cP pF rfl rfl) ?asc) ?loop)
   case asc=>simpa [tx] using hw
   case loop=>
    rw[qT]
    refine aU.less (ρ':=[]) (ω':=[(bw,some (.fmt f df ln a d ml (tx wish) (aI L) k (ak l')))]) (aU.find (found:=fun c=>aO (dw l' c) (l'.length - 1)) (T:=fun i ρ'=>ρ'.lookup kI=some (some (.int (i:Nat)))) (.inl rfl) wish (fun c hc=>?turn) (fun i ρ' ω' hf hi hr ho=>?found) (fun hf=>?none)) aG.nil (by exact aC.self (by ext))
    case turn=>
     refine af.cons (aF.vR (ua.oY (a:=l'.length - 1) (aa.blt rfl rfl rfl) (aj.ag ((aa.bin (gI (n:=n+10) (k:=k) (l:=ak l') (aa.attr (p:=bS k (ak l')) 3 (aa.var rfl) cP bl rfl rfl)) aa.cInt aK.sub).cast ?ra) (aj.ag aa.cInt (aj.ag aa.kO .nil))) (by omega)) ?inner)
     case ra=>exact congrArg PV.int (by rw[hN];omega)
     case inner=>
      refine aU.less (ρ':=[(xq,some (.txt [c]))]) (ω':=[(bw,some (.fmt f df ln a d ml (tx wish) (aI L) k (ak l')))]) (aU.search (.inl rfl) (dw l' c) (l'.length - 1) (fun i h1 h2=>?step) (fun i ρ' ω' hf hi hr ho=>?hit) (fun hf=>?miss)) (by exact aG.self (by ext)) (by exact aC.self (by ext))
      case hit=>
       refine af.cons (aF.brk ⟨?_,aG.nil,ho⟩)
       rw[hf]
       exact⟨rfl,hi⟩
      case miss=>
       refine af.cons (aF.cont ⟨?_,aG.nil,aC.refl _⟩)
       rw[hf]
       exact .inr rfl
      case step=>
       have hi1:i<l'.length:=by omega
       have hi2:i - 1<l'.length:=by omega
       refine af.cons (cI.gX (P:=fun fl ρ' ω'=>(if (ij c&&iw c (l'.getD i ([],[])).1)=true then fl= .brk else fl= .next)∧aG [(kI,some (.int (i:Nat))),(xq,some (.txt [c]))] ρ'∧aC [(bw,some (.fmt f df ln a d ml (tx wish) (aI L) k (ak l')))] ω') (aF.ite (b:=ij c) (bb.value (aa.isspace (aa.var (p:= .txt [c]) rfl)) aJ.bool) (fun hs=>?sp) (fun hs=>?nosp)) ?rest)
       case nosp=>
        refine af.nil ⟨?_,by exact aG.self (by ext),by exact aC.self (by ext)⟩
        rw[hs,Bool.false_and,if_neg Bool.false_ne_true]
       case sp=>
        refine af.cons (aF.jv (p:= .txt (l'.getD i ([],[])).1) (aa.sub (aa.uc jA (aa.attr (p:=bS k (ak l')) 3 (aa.var rfl) cP bl rfl rfl) (aa.var rfl) (hpart i hi1) (by lia)) aa.cInt (aL.tup rfl (by simp))) rfl (.inl rfl) ?_)
        refine af.cons (aF.ite (b:=iw c (l'.getD i ([],[])).1) (bb.rH (AllP.oS (bb.value (aa.var rfl) (aJ.str (by have:=hplen i hi1;omega))) fun hb=>bb.cmp (aa.sub (aa.var rfl) aa.cInt (aL.str (c:=(l'.getD i ([],[])).1.headD 0) (nf (by simpa using hb)) (by have:=hplen i hi1;omega))) (aa.var rfl) ay.xC aJ.bool)) (fun hh=>?brk) (fun hh=>?nobrk))
        case brk=>
         refine af.cons (aF.brk ⟨?_,by exact aG.self (by ext),by exact aC.self (by ext)⟩)
         rw[hs,hh,Bool.and_self,if_pos rfl]
        case nobrk=>
         refine af.nil (af.nil ⟨?_,by exact aG.self (by ext),by exact aC.self (by ext)⟩)
         rw[hs,hh,Bool.and_false,if_neg Bool.false_ne_true]
       case rest=>
        (intro fl ρ' ω' zz;obtain⟨h1,hr,ho⟩:=zz)
        have hch:aG [(xq,some (.txt [c]))] ρ':=aG.trans (by exact aG.self (by ext)) hr
        by_cases hA:(ij c&&iw c (l'.getD i ([],[])).1)=true
        ·rw[if_pos hA] at h1;subst h1
         have hh:dw l' c i=true:=by unfold dw;rw[hA,Bool.true_or]
         refine⟨?_,hch,ho⟩
         rw[if_pos hh]
         exact⟨rfl,hr _ _ rfl⟩
        ·rw[if_neg hA] at h1;subst h1
         have hA:(ij c&&iw c (l'.getD i ([],[])).1)=false:=by simpa using hA
         refine cI.less (ρ':=[(kI,some (.int (i:Nat))),(xq,some (.txt [c]))]) (ω':=[(bw,some (.fmt f df ln a d ml (tx wish) (aI L) k (ak l')))]) ?_ hr ho
         refine af.cons (aF.jv (p:= .txt (l'.getD (i - 1) ([],[])).2) (aa.sub (aa.uc (i:=i - 1) jA (aa.attr (p:=bS k (ak l')) 3 (aa.var rfl) cP bl rfl rfl) ((aa.bin (aa.var (p:= .int (i:Nat)) rfl) aa.cInt aK.sub).cast ?si) (hpart (i - 1) hi2) (by lia)) aa.cInt (aL.tup rfl (by simp))) rfl (.inl rfl) ?_)
         case si=>exact congrArg PV.int (by omega)
         refine af.cons (aF.ite (b:=mY c (l'.getD (i - 1) ([],[])).2) (bb.rH (AllP.oS (bb.value (aa.var rfl) (aJ.str (by have:=hplen (i - 1) hi2;omega))) fun hb=>bb.cmp (aa.sub (aa.var rfl) aa.kO (aL.str (c:=(l'.getD (i - 1) ([],[])).2.getLastD 0) (eV (by simpa using hb)) (by have:=hplen (i - 1) hi2;omega))) (aa.var rfl) ay.xC aJ.bool)) (fun hh=>?brk) (fun hh=>?nobrk))
         case brk=>
          have hh:dw l' c i=true:=by unfold dw;rw[hh,Bool.or_true]
          refine af.cons (aF.brk ⟨?_,by exact aG.self (by ext),by exact aC.self (by ext)⟩)
          rw[if_pos hh]
          exact⟨rfl,rfl⟩
         case nobrk=>
          have hh:dw l' c i=false:=by unfold dw;rw[hh,hA];rfl
          refine af.nil (af.nil ⟨?_,by exact aG.self (by ext),by exact aC.self (by ext)⟩)
          rw[if_neg (by rw[hh];exact Bool.false_ne_true)]
          exact .inl rfl
    case found=>
     refine cI.less (ρ':=[(kI,some (.int (i:Nat)))]) (ω':=[(bw,some (.fmt f df ln a d ml (tx wish) (aI L) k (ak l')))]) ?_ (aG.cons hi aG.nil) ho
     have hta:(aD (l'.take i)).length<10000:=by have:=dM l' i;rw[hl'] at hzt;omega
     have pf:=sh (w:=w) (mg:=mg) (mb:=mb) (ex:=[]) (n:=n+10) a d k (l:=ak l') (i:=i) (kJ l') (by lia)
     rw[show(ak l').drop i=ak (l'.drop i) by simp,show(ak l').take i=ak (l'.take i) by simp] at pf
     refine af.cons (aF.ju (bE.fk rfl (bu.cur cP bl) aT.acc (aj.ag (aa.var rfl) .nil) rfl cY dG (by ext) rfl (by ext) pf) (.inl rfl) ?_)
     refine af.cons (aF.eC (bE.kM rfl (bu.lines cP iM) aT.lines (aa.ud (aa.blt rfl rfl rfl) (aa.attr (p:=bS k (ak (l'.take i))) 3 (aa.var rfl) cP bl rfl rfl) ly (by ext) (m8 (n:=n+8) k (l'.take i) (by omega) (by simp;omega))) rfl (by simp[aI];omega)) ?_)
     refine af.cons (aF.eC (bE.methP rfl (bu.cur cP bl) aT.acc (aj.ag (aa.var rfl) .nil) cY dG (by ext) rfl (by ext) (uI (n:=n+10) a d k (l:=ak (l'.take i)) (m:=ak (l'.drop i)) (by simp;omega) (by simp;lia))) (af.nil (af.nil ⟨rfl,rfl,?_⟩)))
     rw[aM]
     unfold cL
     rw[hl',if_neg hov,show a7 l' wish=some i from hf]
     simp[aI]
    case none=>
     subst hl'
     rw[c9]
     refine af.cons (aF.ry (p:=cK q) (bE.fk rfl (bu.cur cP bl) aT.acc .nil rfl cY dG (by ext) rfl (by ext) (g9 (n:=n+9) a d k (l:=ak l) hll)) (fM.tuple (bB.cons (.inl rfl) (bB.cons (.inl rfl) (bB.nil ?rest)))) (fun env he=>?sw))
     case sw=>
      obtain⟨⟩:=env
      dsimp only at he
      subst he
      with_unfolding_all rfl
     case rest=>
      have hres:cL f df ln a d ml wish L k l q=if 0<k then .fmt f df ln a d ml (tx wish) (aI (L++[aD l])) 0 (ak [(eG q.1,q.2)]) else .fmt f df ln a d ml (tx wish) (aI L) k (ak (l++[q])):=by
       unfold cL
       rw[if_neg hov,show a7 (l++[q]) wish=none from hf]
      by_cases hk:0<k
      ·rw[if_pos hk] at hres
       refine af.cons (cI.gX (P:=fun fl ρ' ω'=>fl= .next∧aG [(rO,some (.txt (eG q.1))),(tL,some (.txt q.2))] ρ'∧aC [(bw,some (.fmt f df ln a d ml (tx wish) (aI (L++[aD l])) 0 (ak [])))] ω') (aF.ite (b:=true) ((bb.cmp (aa.attr (p:= .int k) 0 (aa.attr (p:=bS k (ak l)) 3 (aa.var rfl) cP bl rfl rfl) p8 fE rfl rfl) aa.cInt ay.rF aJ.bool).cast ?g) (fun _=>?yes) (fun h=>nomatch h)) ?push)
       case g=>exact decide_eq_true (by lia)
       case yes=>
        have hne:l≠[]:=(hl0.resolve_left hov).resolve_right (by lia)
        have hlast:l=l.dropLast++[l.getLast hne]:=(List.dropLast_concat_getLast hne).symm
        have hm:l.getLast hne∈l++[q]:=List.mem_append_left _ (List.getLast_mem hne)
        have hzl:bL k l≤bL k (l++[q]):=by unfold bL;rw[b6,List.length_append];lia
        have nl:=l7 (w:=w) (mg:=mg) (mb:=mb) (n:=n+1) f df ln a d (ml:=ml) (sp:=tx wish) (lines:=aI L) (k:=k) (l:=l.dropLast) (q:=l.getLast hne) (hp _ hm).1 (hp _ hm).2 (by rw[←hlast];omega) (by simp;omega) (by simp[aI];omega) (.inl (by lia))
        rw[←hlast] at nl
        refine af.cons (aF.eC (bE.fk rfl bu.self (aT.self (o':= .fmt f df ln a d ml (tx wish) (aI L++[.txt (aD l)]) 0 []) rfl rfl) .nil rfl lT kW (by ext) rfl (by ext) nl) ?_)
        have eL:aI (L++[aD l])=aI L++[.txt (aD l)]:=by simp[aI]
        rw[eL]
        have hq1:q.1.length<1000000:=by
         have:=fz (l:=l++[q]) (q:=q) (by simp)
         rw[List.length_append] at this;lia
        refine af.cons (aF.ite (b:=q.1.isEmpty) ((bb.not (bb.value (aa.var (p:= .txt q.1) rfl) (aJ.str hq1))).cast (by simp)) (fun hb=>?e) (fun hb=>?ne))
        case e=>
         have hws:eG q.1=[32]:=if_pos (by simpa using hb)
         rw[hws]
         exact af.cons (aF.assign (p:= .txt [32]) aa.cStr (.inl rfl) (af.nil (af.nil ⟨rfl,by exact aG.self (by ext),by exact aC.self (by ext)⟩)))
        case ne=>
         have hws:eG q.1=q.1:=if_neg (by simpa using hb)
         rw[hws]
         exact af.nil (af.nil ⟨rfl,by exact aG.self (by ext),by exact aC.self (by ext)⟩)
       case push=>
        (intro fl ρ' ω' zz;obtain⟨rfl,hr,ho⟩:=zz)
        refine cI.less (ρ':=[(rO,some (.txt (eG q.1))),(tL,some (.txt q.2))]) (ω':=[(bw,some (.fmt f df ln a d ml (tx wish) (aI (L++[aD l])) 0 (ak [])))]) ?_ hr ho
        refine af.cons (aF.eC (bE.fk rfl (bu.cur cP bl) aT.acc (aj.ag (aa.var rfl) (aj.ag (aa.var rfl) .nil)) rfl cY dG (by ext) rfl (by ext) (push (n:=n+10) a d 0 (l:=ak []) (p:= .txt (eG q.1)) (q:= .txt q.2) rfl rfl (by simp))) ?_)
        refine af.cons (aF.vF ⟨rfl,?_⟩)
        rw[hres,aM]
        rfl
      ·rw[if_neg hk] at hres
       refine af.cons (aF.ite (b:=false) ((bb.cmp (aa.attr (p:= .int k) 0 (aa.attr (p:=bS k (ak l)) 3 (aa.var rfl) cP bl rfl rfl) p8 fE rfl rfl) aa.cInt ay.rF aJ.bool).cast ?g) (fun h=>nomatch h) (fun _=>af.nil ?no))
       case g=>exact decide_eq_false (by lia)
       case no=>
        refine af.cons (aF.eC (bE.fk rfl (bu.cur cP bl) aT.acc (aj.ag (aa.var rfl) (aj.ag (aa.var rfl) .nil)) rfl cY dG (by ext) rfl (by ext) (push (n:=n+10) a d k (l:=ak l) (p:= .txt q.1) (q:= .txt q.2) rfl rfl hll)) ?_)
        rw[show ak l++[.tup [.txt q.1, .txt q.2]]=ak (l++[q]) from (c9 l q).symm]
        refine af.cons (aF.vF ⟨rfl,?_⟩)
        rw[hres,aM]
noncomputable abbrev tM:Str:=⟨#[105,110,105,116,105,97,108,95,115,105,122,101]⟩
theorem tD {A:Around} {s:Shared} {G:ae} {x dx:Addr} {k:Int} {t:Tok} {R:Result→Shared→Prop} (rm:aV A (n+1)) (bs:Base (CX w mg mb ex) s G) (hx:s.heap.get? x=some (di 178 dx)) (hd:s.heap.get? dx=some emptyDict) (hne:x≠dx) (hspx:¬aw (CX w mg mb ex) x) (hspd:¬aw (CX w mg mb ex) dx)
  (q:∀h₁ tk h₂ h₃ h₄ tk2,Step (CX w mg mb ex) s G {s with heap:=h₁,toks:=tk} G→Heap.SameBut dx h₁ h₂→(∀b o,h₂.get? b=some o→h₃.get? b=some o)→Heap.SameBut x h₃ h₄→b5 (CX w mg mb ex) h₃→
   (∃o m t,h₄.get? x=some o∧bM o 178 dx true []∧lI h₄ dx m 100∧(m eh=some (.int k t)∧∀x∈eB,m x=none))→R (.ok (.ret .none)) {s with heap:=h₄,toks:=tk2}):
  codeAny (model (CX w mg mb ex).prog (CX w mg mb ex).w) A (.call (.ref 115) ⟨[.ref x, .int k t],[]⟩) R s:=by
 refine iA (names:=[bw,tM]) (us:=[.ref x, .int k t]) (ω:=[]) (ρ:=[]) (hk:=by exact rfl) rfl rfl rfl rfl (by ext) (Binds.of (fun S=>by with_unfolding_all rfl)) (by decide) (by decide) rfl (by decide) rfl rfl rfl (aW rfl) rm bs (fun _ _ e=>nomatch e) [] (by simp) (fun _ _ e=>nomatch e) (fun _ _ _ _ e=>nomatch e) fun env h₁ tk D E he hD rm' r nsAt=>?_
 obtain⟨m1,hn1,hm1⟩:=nsAt bw _ (.head _)
 obtain⟨m2,hn2,hm2⟩:=nsAt tM _ (.tail _ (.head _))
 have t0:Step (CX w mg mb ex) s G {s with heap:=h₁,toks:=tk} G:=by
  refine⟨fun b o e=>r.fin.keep b o (by rw[hD];simpa using e),r.fin.gnd,Sub.refl _,r.fin.within,fun _ _ _ e _=>e,rfl,r.fin.gens⟩
 have hx1:=t0.keep.get hx (by show ¬(Value.ref 178=Value.none);nofun)
 have hd1:=t0.keep.get hd (by show ¬(Value.type "dict" =Value.none);nofun)
 refine ks_wpAt_execs_cons (jM (plainObj_wpAny_Assign_Attribute (bz rfl r.er.scope rfl hn2 hm2 (bz rfl r.er.scope rfl hn1 hm1 ?_))))
 have i1:bM (di 178 dx) 178 dx true []:=⟨rfl,rfl,0,rfl⟩
 have z1:lI h₁ dx (fun _=>none) 0:=⟨emptyDict, #[],0,hd1,rfl,(by intro e he;simp at he),(fun _=>rfl),Nat.le_refl _⟩
 have hloc:env.locals=s.heap.objs.size:=by rw[he];rfl
 refine jO (d:=dx) m9 r.er.gnd.kin (bM.inst hx1 i1 hd1) rfl z1 (by omega) (by ext) fun h₂ tk2 hz2 hs2=>?_
 have g2:b5 (CX w mg mb ex) h₂:=r.er.gnd.sameBut hs2 hspd hd1 (fun _ h=>absurd h (by show ¬(Value.type "dict" =Value.type "code");decide))
 have hx2:h₂.get? x=some (di 178 dx):=hs2.extBut _ _ hne hx1
 obtain⟨od2,es2,ep2,hd2,hdd2,_⟩:=id hz2
 refine ks_wpAt_execs_cons (ks_wpAt_Expr_any ?_ (by rw[he];rfl) (by rw[he];rfl))
 refine iC (f:=115) (fd:=_) (ar:=_) (mR 115 _ _ ⟨_,_,_,rfl⟩ rfl ⟨_,_,_,_,_,_,_,rfl,rfl,rfl,by ext⟩ rfl rfl rfl rfl rfl) nD g2 (by rw[he];rfl) (by rw[he];rfl) (by rw[he];rfl) (by rw[he];rfl) (by rw[he];rfl) (by rw[he];rfl) ⟨m1,hn1.extBut hs2.extBut (fun z=>?_),hm1⟩ (bM.inst hx2 i1 hd2) (.inl rfl) F.entry_list_init (by decide +kernel) (fun _ _ q=>wpAny_of_eq (rv _) q) (fun h₃ tk3 k3=>?_) (by rw[he];rfl)
 ·rw[hloc] at z
  rw[←z,aq] at hd;cases hd
 refine sQ (k3 _ _ hx2) i1 (by simp) fun h₄ o4 ho4 i4 hs4=>?_
 refine jM (wpAny_execs_nil (q h₁ tk h₂ h₃ h₄ tk3 t0 hs2 k3 hs4 (g2.keeps k3) ⟨o4,(fun x=>if x=eh then some (.int k t) else none),t,ho4,i4,?_,if_pos rfl,fun y hy=>?_⟩))
 ·obtain⟨od,es,ep,a1,a2,a3,a4,a5⟩:=hz2
  exact⟨od,es,ep,hs4.extBut _ _ (fun z=>hne z.symm) (k3 _ _ a1),a2,a3,a4,yN a5 (by split<;>omega)⟩
 ·exact if_neg (by rintro rfl;exact absurd hy (by decide))
theorem aV.made {A:Around} {n:Nat} {c:Code} (r:aV A (n+3)) (h1:c.weight=1) (h2:c.cUnits=1):aV (A.under c) (n+1):=by
 obtain⟨a,b,d⟩:=r
 refine⟨?_,?_,d⟩
 ·show A.depth+c.weight+(n+1)<_;omega
 ·show A.units+c.cUnits+16*(n+1)<_;lia
theorem qM {A:Around} {s:Shared} {G:ae} {k:Int} {t:Tok} {R:Result→Shared→Prop} (rm:aV A (n+3)) (bs:Base (CX w mg mb ex) s G)
  (q:∀a d s',kP (CX w mg mb ex) G s (.acc a d k []) s' G→R (.ok (.ret (.ref a))) s'):codeAny (model (CX w mg mb ex).prog (CX w mg mb ex).w) A (.call (.ref 178) ⟨[.int k t],[]⟩) R s:=by
 obtain⟨h,g,dr,tk,os⟩:=s
 have X0:=bs.gnd.kin
 have Y:jL (model (CX w mg mb ex).prog (CX w mg mb ex).w) h 178:=pn X0 (by ext)
 have b1:=bs.fresh emptyDict
 have b2:=b1.base.fresh (di 178 h.objs.size)
 have e0:h.get? h.objs.size=none:=aq _
 have e1:(h.push emptyDict).get? (h.objs.size+1)=none:=by rw[←Heap.size_push h emptyDict];exact aq _
 have hd:((h.push emptyDict).push (di 178 h.objs.size)).get? h.objs.size=some emptyDict:=Heap.get?_push_of_some _ (Heap.get?_push_size _ rfl)
 have hx:((h.push emptyDict).push (di 178 h.objs.size)).get? (h.objs.size+1)=some (di 178 h.objs.size):=by rw[←Heap.size_push h emptyDict];exact Heap.get?_push_size _ rfl
 have e2:h.get? (h.objs.size+1)=none:=by
  cases z:h.get? (h.objs.size+1) with
  | none=>rfl
  | some o=>exact absurd (Heap.lt_size z) (Nat.not_lt_of_le (Nat.le_succ _))
 have nsp:∀{y},h.get? y=none→¬aw (CX w mg mb ex) y:=fun e z=>by obtain⟨o,e'⟩:=bs.gnd.special z;rw[e] at e';cases e'
 have st:Step (CX w mg mb ex) ⟨h,g,dr,tk,os⟩ G ⟨(h.push emptyDict).push (di 178 h.objs.size),g,dr,tk,os⟩ G:=b1.trans b2
 refine nq Y (looks_findIn X0 (by ext):Looks _ _ _ (some (.ref 115))) (fun self=>bind_fn X0 self (by ext)) ?_
 refine tD (n:=n) ?_ st.base hx hd (Nat.succ_ne_self _) (nsp e2) (nsp e0) fun h₁ tk1 h₂ h₃ h₄ tk2 s1 c2 k3 c4 g3 hA=>?_
 ·exact rm.made (by rfl) (by rfl)
 ·have hG:∀{y},h.get? y=none→G y=none:=fun e=>ao bs.within e
  have hd1:=s1.keep.get hd (by show ¬(Value.type "dict" =Value.none);nofun)
  have hx1:=s1.keep.get hx (by show ¬(Value.ref 178=Value.none);nofun)
  have sA:=st.trans s1
  have sB:=Step.alt (tk:=tk1) sA e0 hd1 (fun _ h=>absurd h (by show ¬(Value.type "dict" =Value.type "code");decide)) (nsp e0) (hG e0) c2
  have sC:=sB.trans (sB.base.ext (h':=h₃) (tk:=tk1) k3)
  have hx3:=k3 _ _ (c2.extBut _ _ (Nat.succ_ne_self _) hx1)
  have sD:=Step.alt (tk:=tk2) sC e2 hx3 (fun _ h=>absurd h (by show ¬(Value.ref 178=Value.type "code");nofun)) (nsp e2) (hG e2) c4
  obtain⟨o,m,t',ho,hi,hz,hm⟩:=hA
  refine⟨rfl,q _ h.objs.size _ ⟨sD,⟨o,m,[],t',ho,hi,hz,hm,aE.nil,Nat.succ_ne_self _⟩,fun b hb=>?_⟩⟩
  simp only[Own.fp,List.mem_cons,List.not_mem_nil,or_false] at hb
  rcases hb with rfl | rfl
  ·exact⟨e2,hG e2⟩
  ·exact⟨e0,hG e0⟩
noncomputable abbrev qj:Str:=⟨#[104,101,97,100,101,114,108,101,110]⟩
noncomputable abbrev lq:Str:=⟨#[109,97,120,108,101,110]⟩
noncomputable abbrev rP:Str:=⟨#[99,111,110,116,105,110,117,97,116,105,111,110,95,119,115]⟩
noncomputable abbrev mZ:Str:=⟨#[115,112,108,105,116,99,104,97,114,115]⟩
theorem pd {a b c d e:Addr} (h1:a≠b) (h2:a≠c) (h3:a≠d) (h4:a≠e) (h5:b≠c) (h6:b≠d) (h7:b≠e) (h8:c≠d) (h9:c≠e) (h0:d≠e):[a,b,c,d,e].Nodup:=by
 simp only[List.nodup_cons,List.mem_cons,List.not_mem_nil,or_false,not_or,List.nodup_nil,and_true,not_false_eq_true]
 exact⟨⟨h1,h2,h3,h4⟩,⟨h5,h6,h7⟩,⟨h8,h9⟩,h0⟩
theorem nF {c:Prop} [Decidable c] {a b v:Option Value} (h:¬c) (k:b=v):(if c then a else b)=v:=(if_neg h).trans k
theorem sW {A:Around} {s0 s:Shared} {G:ae} {x dx:Addr} {hd ml:Int} {t1 t2 t3 t4:Tok} {ws sp:List Nat} {R:Result→Shared→Prop} (rm:aV A (n+4)) (b0:Base (CX w mg mb ex) s0 G) (st:Step (CX w mg mb ex) s0 G s G) (x0:s0.heap.get? x=none) (d0:s0.heap.get? dx=none) (hx:s.heap.get? x=some (instObj 94 dx)) (hdx:s.heap.get? dx=some emptyDict) (hne:x≠dx) (hws:ws.length<1000000)
  (q:∀ln a d s',kP (CX w mg mb ex) G s0 (.fmt x dx ln a d ml (tx sp) [] hd []) s' G→R (.ok (.ret .none)) s'):
  codeAny (model (CX w mg mb ex).prog (CX w mg mb ex).w) A (.call (.ref 35) ⟨[.ref x, .int hd t1, .int ml t2, .str (tx ws) t3, .str (tx sp) t4],[]⟩) R s:=by
 have bs:=st.base
 refine vm (names:=[bw,qj,lq,rP,mZ]) (us:=[.ref x, .int hd t1, .int ml t2, .str (tx ws) t3, .str (tx sp) t4]) (ω:=[]) (ρ:=[]) (hk:=by exact rfl) rfl rfl rfl rfl (by ext) (Binds.of (fun S=>by with_unfolding_all rfl)) (by decide) (by decide) rfl (by decide) rfl rfl rfl (aW rfl) rm bs (fun _ _ e=>nomatch e) [] (by simp) (fun _ _ e=>nomatch e) (fun _ _ _ _ e=>nomatch e) fun env h₁ tk D E he hD rm' r nsAt=>?_
 have t0:Step (CX w mg mb ex) s G {s with heap:=h₁,toks:=tk} G:=by
  refine⟨fun b o e=>r.fin.keep b o (by rw[hD];simpa using e),r.fin.gnd,Sub.refl _,r.fin.within,fun _ _ _ e _=>e,rfl,r.fin.gens⟩
 have hloc:env.locals=s.heap.objs.size:=by rw[he];rfl
 have i0:et (CX w mg mb ex) s0 G env 94 x dx [(bw, .ref x),(qj, .int hd t1),(lq, .int ml t2),(rP, .str (tx ws) t3),(mZ, .str (tx sp) t4)] (fun _=>none) 0 {s with heap:=h₁,toks:=tk}:=
  ⟨st.trans t0,t0.keep.get hx (by show ¬(Value.ref 94=Value.none);nofun),⟨emptyDict, #[],0,t0.keep.get hdx (by show ¬(Value.type "dict" =Value.none);nofun),rfl,(by intro e he;simp at he),(fun _=>rfl),Nat.le_refl _⟩,(fun q hq=>nsAt q.1 q.2 hq),x0,d0,hne,fun z=>by rw[hloc] at z;rw[←z,aq] at hdx;cases hdx⟩
 refine jM ?_
 have sc:=r.er.scope
 have gl:=r.er.globals
 have bn:=r.er.builtins
 clear r nsAt
 generalize ({s with heap:=h₁,toks:=tk}:Shared)=s1 at i0 ⊢
 obtain⟨mS,nS,eS⟩:=i0.loc (bw, .ref x) (.head _)
 obtain⟨m2,n2,e2⟩:=i0.loc (lq, .int ml t2) (.tail _ (.tail _ (.head _)))
 refine wpAny_execs_cons (plainObj_wpAny_Assign_Attribute (bz rfl sc rfl n2 e2 (bz rfl sc rfl nS eS (i0.set b0 iz (by omega) (by ext) fun s2 i2 _=>?_))))
 clear nS eS n2 e2
 obtain⟨mS,nS,eS⟩:=i2.loc (bw, .ref x) (.head _)
 obtain⟨m2,n2,e2⟩:=i2.loc (rP, .str (tx ws) t3) (.tail _ (.tail _ (.tail _ (.head _))))
 refine wpAny_execs_cons (plainObj_wpAny_Assign_Attribute (bz rfl sc rfl n2 e2 (bz rfl sc rfl nS eS (i2.set b0 iz (by omega) (by ext) fun s3 i3 _=>?_))))
 clear nS eS n2 e2
 obtain⟨m2,n2,e2⟩:=i3.loc (rP, .str (tx ws) t3) (.tail _ (.tail _ (.tail _ (.head _))))
 have i3':=i3.toks (s3.toks+1+1)
 obtain⟨mS,nS,eS⟩:=i3'.loc (bw, .ref x) (.head _)
 refine wpAny_execs_cons (plainObj_wpAny_Assign_Attribute (mU rfl sc gl bn rfl rfl i3.st.gnd (i3.st.gnd.xo rfl) rfl n2 e2 hws (bz rfl sc rfl nS eS (i3'.set b0 iz (by omega) (by ext) fun s4 i4 _=>?_))))
 clear nS eS n2 e2
 obtain⟨mS,nS,eS⟩:=i4.loc (bw, .ref x) (.head _)
 obtain⟨m2,n2,e2⟩:=i4.loc (mZ, .str (tx sp) t4) (.tail _ (.tail _ (.tail _ (.tail _ (.head _)))))
 refine wpAny_execs_cons (plainObj_wpAny_Assign_Attribute (bz rfl sc rfl n2 e2 (bz rfl sc rfl nS eS (i4.set b0 iz (by omega) (by ext) fun s5 i5 _=>?_))))
 clear nS eS n2 e2
 have i5':=i5.step (i5.st.base.fresh {cls:= .type "list",data:= .seq #[]})
 obtain⟨mS,nS,eS⟩:=i5'.loc (bw, .ref x) (.head _)
 refine wpAny_execs_cons (plainObj_wpAny_Assign_Attribute (wpAny_List_spliced (spliced_nil ⟨Nat.zero_le _,bz rfl sc rfl nS eS (i5'.set b0 iz (by omega) (by ext) fun s6 i6 c6=>?_)⟩)))
 clear nS eS
 have pl6:s6.heap.PlainList s5.heap.objs.size #[]:=⟨0,c6.extBut _ _ (fun z=>by have:=i5.hz;obtain⟨o,_,_,e,_⟩:=this;rw[←z,aq] at e;cases e) (Heap.get?_push_size _ rfl)⟩
 obtain⟨m2,n2,e2⟩:=i6.loc (qj, .int hd t1) (.tail _ (.head _))
 refine wpAny_execs_cons (plainObj_wpAny_Assign_Attribute (wpAny_Call_Name_kw (nY rfl sc gl rfl i6.st.gnd (i6.st.gnd.xB rfl) (callWith_K (h₀:=s6.heap) i6.st.gnd.kin (by ext) (spliced_cons ?_)))))
 refine bz rfl sc rfl n2 e2 (spliced_nil ⟨i6.st.gnd.kin,wpAny_call (qM rm' i6.st.base fun a d s7 N=>?_)⟩)
 obtain⟨st7,at7,fr7⟩:=N
 have i7:=i6.step st7
 clear n2 e2
 obtain⟨mS,nS,eS⟩:=i7.loc (bw, .ref x) (.head _)
 refine bz rfl sc rfl nS eS (i7.set b0 iz (by omega) (by ext) fun s8 i8 c8=>?_)
 clear nS eS
 refine wpAny_execs_nil ?_
 obtain⟨od5,_,_,ed5,_⟩:=id i5.hz
 obtain⟨od6,_,_,ed6,_⟩:=id i6.hz
 obtain⟨cl6,el6⟩:=id pl6
 have fr5:s5.heap.get? s5.heap.objs.size=none:=aq _
 have ne5:∀{y o},s5.heap.get? y=some o→y≠s5.heap.objs.size:=fun e z=>by rw[z,fr5] at e;cases e
 have ne6:∀{y b o},s6.heap.get? y=some o→b∈[a,d]→y≠b:=fun e hb z=>by rw[z,(fr7 _ hb).1] at e;cases e
 have at8:AccAt G s8.heap a d hd []:=AccAt.keep at7 (Sub.refl _) fun b hb o e=>c8.extBut b o (fun z=>ne6 ed6 hb z.symm) e
 have nad:a≠d:=by obtain⟨_,_,_,_,_,_,_,_,_,ne⟩:=at8;exact ne
 have pl8:s8.heap.PlainList s5.heap.objs.size #[]:=by
  obtain⟨c,e⟩:=PlainList.gY st7.keep pl6
  exact⟨c,c8.extBut _ _ (fun z=>ne5 ed5 z.symm) e⟩
 refine q s5.heap.objs.size a d s8 ⟨i8.st,⟨instObj 94 dx,_,t2,t4,i8.hx,⟨rfl,rfl,rfl,rfl⟩,i8.hz.ns,?_,?_,?_,⟨?_,fun y hy=>?_⟩,⟨[],pl8,aE.nil⟩,at8,?_⟩,fun b hb=>?_⟩
 ·exact nF (by decide) (nF (by decide) (nF (by decide) (nF (by decide) (nF (by decide) (if_pos rfl)))))
 ·exact nF (by decide) (nF (by decide) (if_pos rfl))
 ·exact nF (by decide) (if_pos rfl)
 ·exact if_pos rfl
 ·have na:∀{z:Str},z∉eB→y≠z:=fun h e=>h (e▸hy)
  exact nF (na (by decide)) (nF (na (by decide)) (nF (na (by decide)) (nF (na (by decide)) (nF (na (by decide)) (nF (na (by decide)) rfl)))))
 ·have h1:=ne5 i5.hx
  have h2:=ne5 ed5
  have h3:=ne6 i6.hx (b:=a) (.head _)
  have h4:=ne6 i6.hx (b:=d) (.tail _ (.head _))
  have h5:=ne6 ed6 (b:=a) (.head _)
  have h6:=ne6 ed6 (b:=d) (.tail _ (.head _))
  have h7:=ne6 el6 (b:=a) (.head _)
  have h8:=ne6 el6 (b:=d) (.tail _ (.head _))
  exact pd hne h1 h3 h4 h2 h5 h6 h7 h8 nad
 ·have fin:∀{y},s0.heap.get? y=none→s0.heap.get? y=none∧G y=none:=fun e=>⟨e,ao b0.within e⟩
  simp only[Own.fp,List.mem_cons,List.not_mem_nil,or_false] at hb
  rcases hb with rfl | rfl | rfl | rfl | rfl
  ·exact fin x0
  ·exact fin d0
  ·exact fin (aB i5.st fr5)
  ·exact fin (aB i6.st (fr7 _ (.head _)).1)
  ·exact fin (aB i6.st (fr7 _ (.tail _ (.head _))).1)
theorem vi {A:Around} {s:Shared} {G:ae} {hd ml:Int} {t1 t2 t3 t4:Tok} {ws sp:List Nat} {R:Result→Shared→Prop} (rm:aV A (n+6)) (bs:Base (CX w mg mb ex) s G) (hws:ws.length<1000000)
  (q:∀f df ln a d s',kP (CX w mg mb ex) G s (.fmt f df ln a d ml (tx sp) [] hd []) s' G→R (.ok (.ret (.ref f))) s'):codeAny (model (CX w mg mb ex).prog (CX w mg mb ex).w) A (.call (.ref 94) ⟨[.int hd t1, .int ml t2, .str (tx ws) t3, .str (tx sp) t4],[]⟩) R s:=by
 obtain⟨h,g,dr,tk,os⟩:=s
 have X0:=bs.gnd.kin
 have Y:Makes (model (CX w mg mb ex).prog (CX w mg mb ex).w) h 94:=makes_of X0 (by ext)
 have b1:=bs.fresh emptyDict
 have b2:=b1.base.fresh (instObj 94 h.objs.size)
 have e0:h.get? h.objs.size=none:=aq _
 have hd':((h.push emptyDict).push (instObj 94 h.objs.size)).get? h.objs.size=some emptyDict:=Heap.get?_push_of_some _ (Heap.get?_push_size _ rfl)
 have hx:((h.push emptyDict).push (instObj 94 h.objs.size)).get? (h.objs.size+1)=some (instObj 94 h.objs.size):=by rw[←Heap.size_push h emptyDict];exact Heap.get?_push_size _ rfl
 have e2:h.get? (h.objs.size+1)=none:=by
  cases z:h.get? (h.objs.size+1) with
  | none=>rfl
  | some o=>exact absurd (Heap.lt_size z) (Nat.not_lt_of_le (Nat.le_succ _))
 have st:Step (CX w mg mb ex) ⟨h,g,dr,tk,os⟩ G ⟨(h.push emptyDict).push (instObj 94 h.objs.size),g,dr,tk,os⟩ G:=b1.trans b2
 refine make_core Y (looks_findIn X0 (by ext):Looks _ _ _ (some (.ref 35))) (fun self=>bind_fn X0 self (by ext)) (.inl rfl) ?_
 refine sW (n:=n) (rm.made (n:=n+3) (by rfl) (by rfl)) bs st e2 e0 hx hd' (Nat.succ_ne_self _) hws fun ln a d s' N=>?_
 exact⟨rfl,q _ _ ln a d s' N⟩
theorem tC (k:Int):uq (CX w mg mb ex) (n+3) 178 [.int k] (fun o=>∃a d,o= .acc a d k []):=by
 (intro A s G vs R rm bs zz;obtain⟨_,_,rfl,⟨t,rfl⟩,rfl⟩:=zz;intro q)
 exact qM rm bs fun a d s' N=>q (.acc a d k []) s' G ⟨a,d,rfl⟩ N
theorem sV (hd ml:Int) {ws sp:List Nat} (hws:ws.length<1000000):uq (CX w mg mb ex) (n+6) 94 [.int hd, .int ml, .txt ws, .txt sp] (fun o=>∃f df ln a d,o= .fmt f df ln a d ml (tx sp) [] hd []):=by
 (intro A s G vs R rm bs zz;obtain⟨_,_,rfl,⟨t1,rfl⟩,_,_,rfl,⟨t2,rfl⟩,_,_,rfl,⟨t3,rfl⟩,_,_,rfl,⟨t4,rfl⟩,rfl⟩:=zz;intro q)
 exact vi rm bs hws fun f df ln a d s' N=>q (.fmt f df ln a d ml (tx sp) [] hd []) s' G ⟨f,df,ln,a,d,rfl⟩ N
noncomputable abbrev qF:Str:=⟨#[109,97,107,101,114]⟩
noncomputable abbrev wH:Str:=⟨#[119,105,115,104]⟩
noncomputable def ez (l:List Part) (wish:List Nat) (head:Nat):List (List Nat)×List Part:=match a7 l wish with
 | some i=>([aD (l.take i)],l.drop i)
 | none=>if 0<head then ([aD l.dropLast],[(eG (l.getLastD ([],[])).1,(l.getLastD ([],[])).2)]) else ([],l)
theorem pL (f df ln a d:Addr) (ml:Nat) (wish:List Nat) (L:List (List Nat)) (k:Nat) (l:List Part) (q:Part):(cL f df ln a d ml wish L k l q).addr=f:=by
 unfold cL
 split
 ·rfl
 ·split
  ·rfl
  ·split<;>rfl
theorem last_eq {l:List Part} (h:l≠[]):l=l.dropLast++[l.getLastD ([],[])]:=by
 rw[List.getLastD_eq_getLast?,List.getLast?_eq_some_getLast h]
 exact(List.dropLast_concat_getLast h).symm
theorem pK {f df ln a d:Addr} {ml:Nat} {wish:List Nat} {head:Nat} {l:List Part} (h:l≠[]) (hz:¬bL head l≤ml):
  cL f df ln a d ml wish [] head l.dropLast (l.getLastD ([],[]))= .fmt f df ln a d ml (tx wish) (aI (ez l wish head).1) 0 (ak (ez l wish head).2):=by
 unfold cL ez
 rw[←last_eq h,if_neg hz]
 cases e:a7 l wish with
 | some i=>rfl
 | none=>
  dsimp only
  by_cases hk:0<head
  ·rw[if_pos hk,if_pos hk];rfl
  ·rw[if_neg hk,if_neg hk]
   have:head=0:=by lia
   subst this;rfl
theorem ib {hit:Nat→Bool}:∀{N i:Nat},aO hit N=some i→1≤i∧i≤N
 | 0,_,e=>nomatch e
 | N+1,i,e=>by
  unfold aO at e
  split at e
  ·cases e;lia
  ·have:=ib e;lia
theorem eW {l:List Part} {wish:List Nat} {i:Nat} (h:a7 l wish=some i):1≤i∧i≤l.length - 1:=by
 obtain⟨c,_,e⟩:=List.exists_of_findSome?_eq_some h
 exact ib e
theorem rU {l:List Part} {wish:List Nat} {head:Nat} (h2:2≤l.length):
  fY l ((a7 l wish).getD 0) head=(ft [10] ((ez l wish head).1++[aD (ez l wish head).2]),(ez l wish head).2,(aD (ez l wish head).2).length):=by
 unfold fY ez
 cases e:a7 l wish with
 | some i=>
  have:=eW e
  simp only[Option.getD_some]
  rw[if_neg (by simp;lia)]
  unfold fu
  rw[if_pos (by omega)]
  simp[ft]
 | none=>
  simp only[Option.getD_none]
  by_cases hk:0<head
  ·rw[if_pos (by simp;omega),if_pos hk]
   unfold fu
   rw[if_pos (by omega)]
   have e1:(gP l).take (l.length - 1)=l.dropLast:=by unfold gP;rw[List.take_append_of_le_length (by simp),List.take_of_length_le (by simp)]
   have e2:(gP l).drop (l.length - 1)=[(eG (l.getLastD ([],[])).1,(l.getLastD ([],[])).2)]:=by unfold gP;rw[List.drop_append_of_le_length (by simp),List.drop_of_length_le (by simp)];rfl
   rw[e1,e2]
   simp[ft]
  ·rw[if_neg (by simp;lia),if_neg hk]
   unfold fu
   rw[if_neg (by lia)]
   simp[ft]
theorem pI {l:List Part} {wish:List Nat} {head:Nat} (h2:2≤l.length):∃l0 q,(ez l wish head).2=l0++[q]∧q.2=(l.getLastD ([],[])).2∧(q.1=(l.getLastD ([],[])).1∨q.1=[32])∧l0.length≤l.length:=by
 have hne:l≠[]:=by rintro rfl;simp at h2
 unfold ez
 cases e:a7 l wish with
 | some i=>
  have:=eW e
  refine⟨l.dropLast.drop i,l.getLastD ([],[]),?_,rfl, .inl rfl,by simp;lia⟩
  dsimp only
  conv=>lhs;rw[last_eq hne]
  rw[List.drop_append_of_le_length (by simp;omega)]
 | none=>
  dsimp only
  split
  ·refine⟨[],_,rfl,rfl,?_,by simp⟩
   unfold eG
   split
   ·exact .inr rfl
   ·exact .inl rfl
  ·exact⟨l.dropLast,_,last_eq hne,rfl, .inl rfl,by simp⟩
theorem ur {l:List Nat} (h:36∈l):l.length≠0∧Txt.isspace (tx l)=false:=by
 refine⟨(fun e=>by rw[List.length_eq_zero_iff.mp e] at h;cases h),?_⟩
 unfold Txt.isspace
 rw[Bool.and_eq_false_iff]
 right
 rw[Array.all_eq_false']
 exact⟨36,by simpa [tx] using h,by decide +kernel⟩
theorem fK {l:List Part} (h:l≠[]):(aD l).length=(aD l.dropLast).length+(l.getLastD ([],[])).1.length+(l.getLastD ([],[])).2.length:=by
 conv=>lhs;rw[last_eq h]
 rw[b6,List.length_append]
 simp[aD];lia
theorem pH {l:List Part} {wish:List Nat} {head:Nat} (h:l≠[]) (hz:(aD l).length≤500):((ez l wish head).1.map List.length).sum+(aD (ez l wish head).2).length≤600∧(ez l wish head).1.length≤1:=by
 have htl:=fK h
 unfold ez
 cases e:a7 l wish with
 | some i=>
  have:=dM l i
  simp;omega
 | none=>
  dsimp only
  split
  ·refine⟨?_,by simp⟩
   have:(eG (l.getLastD ([],[])).1).length≤(l.getLastD ([],[])).1.length+1:=by
    unfold eG;split<;>simp
   have e1:∀a b:List Nat,aD [(a,b)]=a++b:=fun a b=>by simp[aD]
   simp only[e1,List.map_cons,List.map_nil,List.sum_cons,List.sum_nil,List.length_append]
   lia
  ·simp;omega
theorem told {l:List Part} {wish:List Nat} {head:Nat} (h2:2≤l.length) (hl:l.length≤100) (hw:∀c∈wish,c<128) (hp:∀p∈l,p.2≠[]∧∀c∈p.1++p.2,c<128) (hd:(l.getLastD ([],[])).2=[36]) (hz:head+(aD l).length≤500):
  cA (CX w mg mb []) (n+16) 250 [.lst (ak l), .txt wish, .int head] [] (dg (fY l ((a7 l wish).getD 0) head)):=by
 refine cA.enter (dps:=[]) (dvs:=[]) [nN,wH,iU] (hk:=by exact rfl) rfl rfl rfl rfl (by ext) (fun s g vs kvs h1 h2=>?b) (fun _=>rfl) rfl ?st (by decide) rfl rfl rfl (aW rfl) ?body
 case b=>exact vs3 h1 fun a b c=>vs0 h2 (Binds.of (fun S=>by with_unfolding_all rfl) s g)
 case st=>exact bI (by ext)
 case body=>
  have hne:l≠[]:=by rintro rfl;simp at h2
  have htl:=fK hne
  rw[hd] at htl
  obtain⟨ml,hml⟩:∃ml,ml=head+(aD l.dropLast).length:=⟨_,rfl⟩
  have hover:¬bL head l≤ml:=by unfold bL;rw[hml,htl,List.length_singleton];lia
  refine af.cons (aF.tA (vy.cls (aa.bj rfl rfl) (by ext) (aa.var rfl) (aj.ag (p:= .int ml) ?ml (aj.ag aa.cStr (aj.ag (aa.var rfl) .nil))) (sV (n:=n+9) head ml (ws:=[9]) (sp:=wish) (by decide))) (.inl rfl) ?_)
  case ml=>
   refine(aa.bin (aa.var (p:= .int head) rfl) (aa.oO (l:=aD l.dropLast) (aa.blt rfl rfl rfl) (aa.bK (aa.bj rfl rfl) (by exact rfl) (aj.ag ((aa.bG (l:=ak l) (lo:=none) (hi:=some (-1)) (aa.var rfl) aP.none (aP.some aa.kO) (by rw[bD];omega)).cast (q:= .lst (ak l.dropLast)) ?sl) .nil) (text (by lia) (by simp;omega))) (by lia)) aK.add).cast ?ad
   case sl=>rw[fG];simp
   case ad=>exact congrArg PV.int (by rw[hml];lia)
  (intro o zz;obtain⟨f,df,ln,a,d,rfl⟩:=zz)
  obtain⟨O,hO⟩:∃O:Nat→Own,∀i,O i=if i<l.length then .fmt f df ln a d ml (tx wish) (aI []) head (ak (l.take i)) else .fmt f df ln a d ml (tx wish) (aI (ez l wish head).1) 0 (ak (ez l wish head).2):=⟨_,fun _=>rfl⟩
  have hO0:O 0= .fmt f df ln a d ml (tx wish) [] head []:=by rw[hO,if_pos (by lia)];rfl
  have hOn:O l.length= .fmt f df ln a d ml (tx wish) (aI (ez l wish head).1) 0 (ak (ez l wish head).2):=by rw[hO,if_neg (by lia)]
  refine af.cons (aF.forIn (dj.of (aa.var rfl) fW.list) (aU.less (ρ':=[]) (ω':=[(qF,some (O 0))]) (aU.steps (f:=cK) l (fun i=>[(qF,some (O i))]) (fun i q hi=>?turn) ?done) aG.nil ?l0))
  case l0=>
   rw[hO0];exact aC.self (by ext)
  case turn=>
   obtain⟨hi',hq⟩:=List.getElem?_eq_some_iff.mp hi
   have e1:l.take i++[q]=l.take (i+1):=by rw[List.take_succ,hi];rfl
   have hle:(aD (l.take (i+1))).length≤(aD l).length:=by have:=dM l (i+1);lia
   have hmem:∀p∈l.take (i+1),p∈l:=fun p hp=>List.mem_of_mem_take hp
   have hfit:i+1<l.length→bL head (l.take (i+1))≤ml:=fun h=>by
    have e:l.take (i+1)=l.dropLast.take (i+1):=by rw[List.dropLast_eq_take,List.take_take,Nat.min_eq_left (by omega)]
    have:=dM l.dropLast (i+1)
    unfold bL
    rw[hml,e];omega
   have hch:cL f df ln a d ml wish [] head (l.take i) q=O (i+1):=by
    rw[hO]
    by_cases h:i+1<l.length
    ·rw[if_pos h]
     unfold cL
     rw[e1,if_pos (hfit h)]
    ·rw[if_neg h,←pK hne hover]
     have hil:i=l.length - 1:=by lia
     have e2:l.take i=l.dropLast:=by rw[List.dropLast_eq_take,hil]
     have e3:l.getLastD ([],[])=q:=by rw[List.getLastD_eq_getLast?,List.getLast?_eq_getElem?,←hil,hi];rfl
     rw[e2,e3]
   have ch:=chunk (w:=w) (mg:=mg) (mb:=mb) (n:=n+3) f df ln a d (ml:=ml) (wish:=wish) (L:=[]) (k:=head) (l:=l.take i) (q:=q) hw (by
     rw[e1]
     by_cases h:i+1<l.length
     ·exact .inl (hfit h)
     ·refine .inr (.inl fun z=>?_)
      have:=congrArg List.length z
      rw[List.length_take,List.length_nil] at this
      lia) (fun p hp'=>hp p (hmem p (by rw[←e1];exact hp'))) (by rw[e1];unfold bL;lia) (by simp;omega) (by simp)
   rw[hch] at ch
   have hadr:(O (i+1)).addr=f:=by rw[←hch];exact pL ..
   have hfp:(O (i+1)).fp=[f,df,ln,a,d]:=by rw[←hch];exact oK ..
   rw[show O i= .fmt f df ln a d ml (tx wish) (aI []) head (ak (l.take i)) by rw[hO,if_pos hi']]
   refine fM.tuple (bB.cons (.inl rfl) (bB.cons (.inl rfl) (bB.nil ?_)))
   refine af.cons (aF.eC (bE.fk rfl bu.self (aT.self (o':=O (i+1)) hfp hadr) (aj.ag (aa.var rfl) (aj.ag (aa.var rfl) .nil)) rfl lT kW (by ext) rfl (by ext) ch) (af.nil ⟨.inl rfl,aG.nil,by exact aC.self (by ext)⟩))
  case done=>
   refine af.nil ?_
   dsimp only
   rw[hOn]
   have ⟨l0,q0,eq,eq2,eq1,hl0⟩:=pI (wish:=wish) (head:=head) h2
   rw[hd] at eq2
   obtain⟨L,hL⟩:∃L,L=(ez l wish head).1:=⟨_,rfl⟩
   obtain⟨l2,hl2⟩:∃l2,l2=(ez l wish head).2:=⟨_,rfl⟩
   have hres:=rU (wish:=wish) (head:=head) h2
   rw[hres,←hL,←hl2]
   rw[←hl2] at eq
   have hll2:l2.length≤101:=by rw[eq];simp;omega
   have hzz:(L.map List.length).sum+(aD l2).length≤600∧L.length≤1:=by rw[hL,hl2];exact pH hne (by omega)
   refine af.cons (aF.ju (p:= .tup [.lst (ak l2), .int (bL 0 l2:Nat)]) (bE.tuple (eA.ag (bE.yn (bH.comp (l:=ak l2) (out:=ak l2) (dj.of (aa.attr (p:=bS (0:Nat) (ak l2)) 3 (aa.var rfl) cP bl rfl rfl) (fW.sub jA)) ?ov (by simp;omega) (by exact aH.jw rfl rfl (by ext)) ?asy) (kJ l2)) (eA.ag (bE.of (aa.rN (aa.blt rfl rfl rfl) (aa.attr (p:=bS (0:Nat) (ak l2)) 3 (aa.var rfl) cP bl rfl rfl) g8 (by ext) (jJ (n:=n+12) 0 l2 (by unfold bL;omega)) (by unfold bL;omega)) rfl) .nil))) (.inl rfl) ?_)
   case ov=>exact aQ.gj (f:=cK) (r:=cK) (.inl rfl) rfl fun p hp=>aa.var rfl
   case asy=>
    intro g' hg
    rcases List.mem_cons.mp hg with rfl | hg
    ·rfl
    ·cases hg
   have h36:36∈aD (l0++[q0]):=by rw[b6];simp[aD,eq2]
   have hch:∀c∈q0.1++q0.2,c<128:=by
    have hm:l.getLastD ([],[])∈l:=by
     rw[List.getLastD_eq_getLast?,List.getLast?_eq_some_getLast hne];exact List.getLast_mem hne
    intro c hc
    rcases List.mem_append.mp hc with h | h
    ·rcases eq1 with e | e
     ·exact(hp _ hm).2 c (List.mem_append_left _ (e▸h))
     ·rw[e] at h;simp at h;omega
    ·rw[eq2] at h;simp at h;omega
   have st:=xN (w:=w) (mg:=mg) (mb:=mb) (n:=n+4) f df ln a d (ml:=ml) (sp:=tx wish) (L:=L) (k:=0) (l:=l0) (q:=q0) (by rw[eq2];decide) hch (by rw[←eq];unfold bL;omega) (by omega) (by omega) (by omega) (.inr (ur h36))
   rw[←eq] at st
   refine af.cons (aF.uf (bE.tuple (eA.ag (bE.fk rfl bu.self (aT.self (o':= .fmt f df ln a d ml (tx wish) (aI (L++[aD l2])) 0 []) rfl rfl) (aj.ag aa.cStr .nil) rfl lT kW (by ext) rfl (by ext) st) (eA.ag (bE.small (aa.var rfl)) .nil))) ?_)
   show PV.tup _=PV.tup _
   unfold bL
   rw[Nat.zero_add]
noncomputable def cB (up:Bool):Int:=if up then 1 else -1
section
variable {I:Nat→Nat} {m:Nat}
noncomputable def bF (I:Nat→Nat) (st:List Nat):List gk:=st.reverse.map fun r=>([32],[ch I r])
noncomputable abbrev gZ:Str:=⟨#[112,105,108,101]⟩
noncomputable abbrev lR:Str:=⟨#[104,105,103,104]⟩
noncomputable abbrev pY:Str:=⟨#[111,117,116]⟩
noncomputable abbrev oP:Str:=⟨#[119,97,121]⟩
theorem eE (st:List Nat):(bF I st).length=st.length:=by simp[bF]
theorem jX (r:Nat) (st:List Nat):(bF I (r::st)).map ig=(bF I st).map ig++[.tup [.txt [32], .txt [ch I r]]]:=by simp[bF]
theorem eF (p:Nat→Bool) (l:List Nat):(l.takeWhile p).length+(l.dropWhile p).length=l.length:=by
 rw[←List.length_append,List.takeWhile_append_dropWhile]
theorem jr (st:List Nat):(st.map fun r=>[ch I r]).flatten=zs I st:=by
 induction st with
 | nil=>rfl
 | cons y t ih=>rw[List.map_cons,List.flatten_cons,ih];rfl
theorem qR (st:List Nat):((st.map fun r=>[ch I r]).map List.length).sum=st.length:=by
 induction st with
 | nil=>rfl
 | cons y t ih=>rw[List.map_cons,List.map_cons,List.sum_cons,ih,List.length_cons];simp;lia
noncomputable abbrev yd (m:Nat) (p:Nat→Bool) (st out:List Nat):Type:={q:List Nat×List Nat // q.1.dropWhile p=st.dropWhile p∧q.2++q.1.takeWhile p=out++st.takeWhile p∧Rs m q.1∧q.1.length+q.2.length=st.length+out.length}
theorem piled (K:Rk I m) {l:List Nat} (h:Rs m l) (hl:l.length≤5) (up:Bool) (head:Nat) (hh:head≤100):cA (CX w mg mb []) (n+8) 262 [.txt (zs I l), .int (cB up), .int head] [] (.txt (zs I (dF up l))):=by
 refine cA.enter (dps:=[]) (dvs:=[]) [qt,oP,iU] (hk:=by exact rfl) rfl rfl rfl rfl (by ext) (fun s g vs kvs h1 h2=>?b) (fun _=>rfl) rfl ?st (by decide) rfl rfl rfl (aW rfl) ?body
 case b=>exact vs3 h1 fun a b c=>vs0 h2 (Binds.of (fun S=>by with_unfolding_all rfl) s g)
 case st=>exact bI (by ext)
 case body=>
  refine af.cons (aF.rB (vy.cls (aa.bj rfl rfl) (by ext) (aa.var (p:= .int head) rfl) .nil (tC (n:=n+4) head)) aa.cInt aa.cStr (.inr rfl) (.inl rfl) (.inl rfl) ?_ (fun env he=>?sw))
  case sw=>
   obtain⟨⟩:=env
   dsimp only at he
   subst he
   with_unfolding_all rfl
  (intro o zz;obtain⟨a,d,rfl⟩:=zz)
  refine af.cons (aF.forIn (l:=l.map fun r=>PV.txt [ch I r]) ?it ?_)
  case it=>
   refine dj.of (p:= .txt (zs I l)) (aa.var rfl) ?_
   rw[←cu]
   exact fW.str (dJ K h)
  refine aU.less (ρ':=[(lR,some (.int (0:Nat))),(pY,some (.txt (zs I []))),(oP,some (.int (cB up))),(iU,some (.int head))]) (ω':=[(gZ,some (.acc a d head ((bF I []).map ig)))]) ?_ (by exact aG.self (by ext)) (by exact aC.self (by ext))
  refine aU.kq (β:=List Nat×List Nat) (b:=([],[])) (S:=fun s=>[(lR,some (.int (s.1.length:Nat))),(pY,some (.txt (zs I s.2))),(oP,some (.int (cB up))),(iU,some (.int head))]) (W:=fun s=>[(gZ,some (.acc a d head ((bF I s.1).map ig)))]) (gW up)
   (fun rest s=>Rs m rest∧Rs m s.1∧s.1.length+s.2.length+rest.length≤5) (.inl rfl) ⟨h,(fun _ hr=>nomatch hr),by simpa using hl⟩ (fun s r rest hf=>?_) (fun hf=>?_)
  ·obtain⟨hrest,hst,hz⟩:=hf
   have hr:1≤r∧r≤m:=hrest r List.mem_cons_self
   rw[List.length_cons] at hz
   obtain⟨st,out⟩:=s
   dsimp only at hst hz ⊢
   refine af.cons (aF.assign (p:= .int (nr I r)) (aa.sub (aa.bj rfl rfl) (aa.var rfl) (aL.rk K hr)) (.inl rfl) ?_)
   refine af.cons ?_
   refine cI.less (ρ':=[(⟨#[120]⟩,some (.int (nr I r))),(⟨#[115,105,103,110]⟩,some (.txt [ch I r])),(lR,some (.int (st.length:Nat))),(pY,some (.txt (zs I out))),(oP,some (.int (cB up))),(iU,some (.int head))]) (ω':=[(gZ,some (.acc a d head ((bF I st).map ig)))]) ?_ (by exact aG.self (by ext)) (by exact aC.self (by ext))
   refine cI.gX (aF.while (fun q:yd m (b7 up · r) st out=>[(⟨#[120]⟩,some (.int (nr I r))),(⟨#[115,105,103,110]⟩,some (.txt [ch I r])),(lR,some (.int (q.1.1.length:Nat))),(pY,some (.txt (zs I q.1.2))),(oP,some (.int (cB up))),(iU,some (.int head))])
    (fun q=>[(gZ,some (.acc a d head ((bF I q.1.1).map ig)))]) (fun q=>q.1.1.length)
    (P:=fun fl ρ' ω'=>fl= .next∧aG [(⟨#[115,105,103,110]⟩,some (.txt [ch I r])),(lR,some (.int ((st.dropWhile (b7 up · r)).length:Nat))),(pY,some (.txt (zs I (out++st.takeWhile (b7 up · r))))),(oP,some (.int (cB up))),(iU,some (.int head))] ρ'∧aC [(gZ,some (.acc a d head ((bF I (st.dropWhile (b7 up · r))).map ig)))] ω')
    ⟨(st,out),rfl,rfl,hst,rfl⟩ ?_) ?_
   ·(intro zz;obtain⟨⟨t,o⟩,h1,h2,h3,h4⟩:=zz)
    dsimp only at h1 h2 h3 h4 ⊢
    have htl:(bF I t).length=t.length:=eE t
    refine⟨decide (0<t.length)&&b7 up (t.headD 0) r,bb.rH (AllP.oS ((bb.cmp (aa.var rfl) aa.cInt ay.rF aJ.bool).cast (decide_eq_decide.mpr (by omega))) fun hb=>(bb.cmp (aa.bK (aa.bj rfl rfl) (by exact rfl) (aj.ag (aa.bin aa.cInt (aa.bin (aa.var rfl) (aa.bin (aa.sub (aa.bj rfl rfl) (aa.sub (aa.uc (i:=t.length - 1) (r:= .tup [.txt [32], .txt [ch I (t.headD 0)]]) jA (aa.var (p:=bS head ((bF I t).map ig)) rfl) ((aa.bin (aa.var (p:= .int (t.length:Nat)) rfl) aa.cInt aK.sub).cast ?i1) ?i2 (by simp;lia)) aa.cInt (aL.tup rfl (by simp))) (aL.rk K ?i3)) (aa.var rfl) aK.sub) (aK.mul ?i4)) aK.add) .nil) (qG _)) aa.cBool ay.isTrue aJ.bool).cast ?i5),fun hb=>?_,fun hb=>?_⟩
    case i1=>have:=of_decide_eq_true hb;exact congrArg PV.int (by omega)
    case i2=>
     cases t with
     | nil=>simp at hb
     | cons y t=>simp[bF]
    case i3=>
     cases t with
     | nil=>simp at hb
     | cons y t=>exact h3 y List.mem_cons_self
    case i4=>exact .of_left (by unfold cB;cases up<;>decide)
    case i5=>
     have hy:1≤t.headD 0∧t.headD 0≤m:=by
      cases t with
      | nil=>simp at hb
      | cons y t=>exact h3 y List.mem_cons_self
     have l1:=K.iS hy hr
     have l2:=K.iS hr hy
     unfold b7 cB
     cases up with
     | true=>dsimp only[iT];exact decide_eq_decide.mpr (by omega)
     | false=>dsimp only[iF];exact decide_eq_decide.mpr (by omega)
    ·cases t with
     | nil=>simp at hb
     | cons y t=>
      have hw:b7 up y r=true:=by simpa using hb
      have d1:(y::t).dropWhile (b7 up · r)=t.dropWhile (b7 up · r):=List.dropWhile_cons_of_pos (p:=(b7 up · r)) hw
      have d2:(y::t).takeWhile (b7 up · r)=y::t.takeWhile (b7 up · r):=List.takeWhile_cons_of_pos (p:=(b7 up · r)) hw
      rw[d1] at h1
      rw[d2] at h2
      rw[List.length_cons] at h4
      have pp:=g9 (w:=w) (mg:=mg) (mb:=mb) (ex:=[]) (n:=n+5) a d head (l:=(bF I t).map ig) (p:= .tup [.txt [32], .txt [ch I y]]) (by rw[List.length_map,eE];lia)
      rw[←jX] at pp
      refine af.cons (aF.pQ (ω':=[(gZ,some (.acc a d head ((bF I t).map ig))),(gZ,some (.acc a d head ((bF I (y::t)).map ig)))]) (p:= .txt (zs I (o++[y]))) (q:= .int (t.length:Nat)) (bE.tuple (eA.ag ?e1 (eA.ag (bE.small ((aa.bin (aa.var (p:= .int ((y::t).length:Nat)) rfl) aa.cInt aK.sub).cast ?e2)) .nil))) rfl rfl (af.nil ⟨⟨(t,o++[y]),h1,by rw[←h2];simp,fun q hq=>h3 q (yL _ hq),by simp;lia⟩,by simp,by exact aG.self (by ext),by exact aC.self (by ext)⟩) (fun env he=>?sw))
      case sw=>
       obtain⟨⟩:=env
       dsimp only at he
       subst he
       with_unfolding_all rfl
      case e2=>exact congrArg PV.int (by rw[List.length_cons];lia)
      case e1=>
       rw[show zs I (o++[y])=zs I o++[ch I y] by simp]
       refine bE.bin (bE.small (aa.var rfl)) (bE.sub (bE.fk rfl bu.self (aT.self (o:= .acc a d head ((bF I (y::t)).map ig)) (o':= .acc a d head ((bF I t).map ig)) rfl rfl) .nil rfl cY dG (by ext) rfl (by ext) pp) (bE.small aa.cInt) (aL.tup rfl (by simp))) (aK.eN (by simp;lia))
    ·have hd:t.dropWhile (b7 up · r)=t∧t.takeWhile (b7 up · r)=[]:=by
      cases t with
      | nil=>exact⟨rfl,rfl⟩
      | cons y t=>
       have hw:¬b7 up y r=true:=by simpa using hb
       exact⟨List.dropWhile_cons_of_neg (p:=(b7 up · r)) hw,List.takeWhile_cons_of_neg (p:=(b7 up · r)) hw⟩
     rw[hd.1] at h1
     rw[hd.2,List.append_nil] at h2
     rw[←h1,←h2]
     exact af.nil ⟨rfl,by exact aG.self (by ext),by exact aC.self (by ext)⟩
   ·(intro fl ρ' ω' zz;obtain⟨rfl,hρ,hω⟩:=zz)
    refine cI.less ?_ hρ hω
    have hdl:=eF (b7 up · r) st
    generalize hD:st.dropWhile (b7 up · r)=D at hdl ⊢
    have hDm:Rs m D:=fun q hq=>hst q (by rw[←hD] at hq;exact(List.dropWhile_suffix _).subset hq)
    have ps:=push (w:=w) (mg:=mg) (mb:=mb) (ex:=[]) (n:=n+6) a d head (l:=(bF I D).map ig) (p:= .txt [32]) (q:= .txt [ch I r]) rfl rfl (by rw[List.length_map,eE];omega)
    rw[←jX] at ps
    refine af.cons (aF.eC (bE.fk rfl bu.self (aT.self (o:= .acc a d head ((bF I D).map ig)) (o':= .acc a d head ((bF I (r::D)).map ig)) rfl rfl) (aj.ag aa.cStr (aj.ag (aa.var rfl) .nil)) rfl cY dG (by ext) rfl (by ext) ps) ?_)
    refine af.cons (aF.aug rfl aa.cInt gR.uo rfl (.inl rfl) (af.nil ⟨.inl rfl,⟨fun q hq=>hrest q (yL _ hq),?_,?_⟩,?_,?_⟩))
    ·unfold gW;dsimp only;rw[hD]
     intro q hq
     rcases List.mem_cons.mp hq with rfl | hq
     ·exact hr
     ·exact hDm q hq
    ·unfold gW;simp only[hD,List.length_cons,List.length_append];lia
    ·unfold gW;simp only[hD,List.length_cons]
     have:((D.length+1:Nat):Int)=(D.length:Int)+1:=by lia
     rw[this]
     exact aG.self (by ext)
    ·unfold gW;simp only[hD]
     exact aC.self (by ext)
  ·obtain⟨_,hst,hz⟩:=hf
   generalize hS:l.foldl (gW up) ([],[])=S at hst hz ⊢
   obtain⟨st,out⟩:=S
   have hres:dF up l=out++st:=by unfold dF;rw[hS]
   rw[hres]
   dsimp only at hst hz ⊢
   simp only[List.length_nil,Nat.add_zero] at hz
   refine af.nil ?_
   have hout:(bF I st).reverse.map (fun q=>PV.txt q.2)=aI (st.map fun r=>[ch I r]):=by simp[bF,aI]
   refine af.cons (aF.yb (ω':=[(gZ,some (.acc a d head [])),(gZ,some (.acc a d head ((bF I st).map ig)))]) (r:= .txt (zs I (out++st))) rfl (bE.join aa.cStr (l:=st.map fun r=>[ch I r]) ?cp ?_) ?_ (.inl rfl) ?_)
   case cp=>
    rw[←hout]
    refine bE.ti (L:=bF I st) (B:=100) rfl (dj.ip (b:=(st.length:Nat)) (aa.blt rfl rfl rfl) (aj.ag (aa.var rfl) .nil) rfl (by omega)) ?_ (by rw[eE];omega) (by rw[eE];omega) ?_ (qb.of (kc:=cY) (hf:=by ext) (hk:=rfl) (ht:=by ext) (h:=fun l p hl=>g9 (n:=n+5) a d head (by omega)) (hsl:=aa.cInt)) (by exact aH.jw rfl rfl (by ext)) rfl rfl ?_
    ·simp[bF,bp]
    ·intro q hq
     simp only[bF,List.mem_map] at hq
     obtain⟨r,_,rfl⟩:=hq
     simp
    ·exact .tail _ (.tail _ (.head _))
   ·rw[qR];omega
   ·rw[jr,show zs I (out++st)=zs I out++zs I st by simp]
    exact gR.eN (by simp;lia)
   refine af.cons (aF.uf (bE.tE (b:=true) (xv.cmp (bE.tuple (eA.ag (bE.fk rfl bu.self (aT.self (o':= .acc a d head []) rfl rfl) .nil rfl cY dG (by ext) rfl (by ext) (sf (n:=n+5) a d head)) (eA.ag (bE.of (aa.rN (aa.blt rfl rfl rfl) (aa.var (p:=bS head (ak [])) rfl) g8 (by ext) (jJ (n:=n+4) head [] (by unfold bL;simp[aD];omega)) (by unfold bL;simp[aD];omega)) rfl) .nil))) (bE.small (aa.tuple (aj.ag (aa.tuple (aj.ag aa.cStr (aj.ag aa.cStr .nil))) (aj.ag (aa.var (p:= .int head) rfl) .nil)))) (ay.vB (d:=4) ?g1 ?g2 ?g3) aJ.bool) (fun _=>bE.small (aa.var rfl)) (fun h=>nomatch h)) rfl)
   case g1=>
    exact PV.gx fun p hp=>by
     simp only[List.mem_cons,List.not_mem_nil,or_false] at hp
     rcases hp with rfl | rfl
     ·rfl
     ·exact PV.ix
   case g2=>
    exact PV.gx fun p hp=>by
     simp only[List.mem_cons,List.not_mem_nil,or_false] at hp
     rcases hp with rfl | rfl
     ·rfl
     ·exact PV.ix
   case g3=>simp[bL,aD]
end
noncomputable abbrev eO:Str:=⟨#[115,105,103,110,115]⟩
noncomputable abbrev cC:Str:=⟨#[110,117,109,98,101,114,115]⟩
noncomputable abbrev dE:Str:=⟨#[99,101,108,108,115]⟩
noncomputable abbrev kl:Str:=⟨#[104,101,97,100]⟩
noncomputable abbrev mL:Str:=⟨#[119,97,121]⟩
noncomputable abbrev fN:Str:=⟨#[98,108,97,110,107,115]⟩
noncomputable abbrev il:Str:=⟨#[100,114,97,119,110]⟩
noncomputable abbrev kQ:Str:=⟨#[102,105,114,115,116]⟩
noncomputable abbrev jn:Str:=⟨#[115,101,99,111,110,100]⟩
noncomputable abbrev tH:Str:=⟨#[108,97,105,100]⟩
noncomputable abbrev kj:Str:=⟨#[108,105,110,101]⟩
noncomputable abbrev rJ:Str:=⟨#[111,119,110]⟩
noncomputable abbrev xJ:Str:=⟨#[114,111,119]⟩
noncomputable abbrev v9:Str:=⟨#[103,97,112,115]⟩
noncomputable abbrev tG:Str:=⟨#[119,105,115,104]⟩
noncomputable abbrev wa:Str:=⟨#[99,117,116,115]⟩
noncomputable abbrev uz:Str:=⟨#[97,108,105,107,101]⟩
noncomputable abbrev uw:Str:=⟨#[115,105,122,101,115]⟩
noncomputable abbrev xK:Str:=⟨#[100,117,101]⟩
noncomputable abbrev uy:Str:=⟨#[102,111,117,110,100]⟩
noncomputable abbrev ux:Str:=⟨#[108,101,97,115,116]⟩
noncomputable abbrev v7:Str:=⟨#[109,111,115,116]⟩
noncomputable abbrev nR:Str:=⟨#[115,99,114,105,112,116]⟩
noncomputable abbrev ub:Str:=⟨#[103,97,112]⟩
noncomputable def aZ (P:Params):List Stmt:=match (hdz.zo_259 P).data with
 | .func fd=>(match fd.body with | .stmts b=>b | _=>[])
 | _=>[]
noncomputable def bR (P:Params):Scope:=match (hdz.zo_259 P).data with
 | .func fd=>fd.scope
 | _=>⟨.function,[],false,false,[]⟩
noncomputable def cx (l:List Int) (q:Int×Nat):List Int:=
 let l1:=l.set (q.2 % 6) (l.getD (q.2 % 6) 0+q.1.fmod 1000000)
 l1.set 6 (l1.getD 6 0+(q.1.fmod 1000000).fdiv 24)
noncomputable def m7:List Int:=[13,6,0,20,9,117,69203]
noncomputable def cN (xs:List Int) (i:Nat):List Int:=((xs.zipIdx).take i).foldl cx m7
theorem lB {l:List Int} {q:Int×Nat} (h:l.length=7∧∀z∈l,0≤z):(cx l q).length=7∧∀z∈cx l q,0≤z:=by
 have h0:0≤q.1.fmod 1000000:=Int.fmod_nonneg_of_pos _ (by decide)
 have h1:0≤(q.1.fmod 1000000).fdiv 24:=Int.fdiv_nonneg h0 (by decide)
 have hg:∀(l:List Int) (i:Nat),(∀z∈l,0≤z)→0≤l.getD i 0:=fun l i hl=>by
  rw[yK]
  cases e:l[i]? with
  | none=>exact Int.le_refl _
  | some z=>exact hl z (List.mem_of_getElem? e)
 have hs:∀(l:List Int) (i:Nat) (v:Int),(∀z∈l,0≤z)→0≤v→∀z∈l.set i v,0≤z:=fun l i v hl hv z hz=>by
  rcases List.mem_or_eq_of_mem_set hz with e | e
  ·exact hl z e
  ·rw[e];exact hv
 unfold cx
 refine⟨by simp[h.1],?_⟩
 have a:=hs l (q.2 % 6) _ h.2 (Int.add_nonneg (hg l (q.2 % 6) h.2) h0)
 exact hs _ 6 _ a (Int.add_nonneg (hg _ 6 a) h1)
theorem j7 (xs:List Int) (i:Nat):(cN xs i).length=7∧∀z∈cN xs i,0≤z:=by
 unfold cN
 generalize (xs.zipIdx).take i=l
 have key:∀(l:List (Int×Nat)) (c:List Int),(c.length=7∧∀z∈c,0≤z)→(l.foldl cx c).length=7∧∀z∈l.foldl cx c,0≤z:=by
  intro l
  induction l with
  | nil=>intro c h;exact h
  | cons q l ih=>intro c h;exact ih _ (lB h)
 exact key l m7 (by decide)
theorem lF {xs:List Int} {i:Nat} {x:Int} (h:xs[i]?=some x):cN xs (i+1)=cx (cN xs i) (x,i):=by
 unfold cN
 have:(xs.zipIdx)[i]?=some (x,i):=by rw[List.getElem?_zipIdx,h];simp
 rw[List.take_add_one,this]
 simp
theorem pG (xs:List Int):dA (ai xs)=(xs.zipIdx).map fun q=>PV.tup [.int (q.2:Int), .int q.1]:=by
 unfold dA ai
 rw[List.zipIdx_map,List.map_map]
 rfl
theorem wz {xs:List Int} {P:a6} {R:PV→aA→Prop} (hx:xs.length≤63) (k:af (CX w mg mb []) (n+20) (bR w.params) [(dE,some (.lst (ai (cN (xs.take 60) (xs.take 60).length)))),(cC,some (.lst (ai b'))),(eO,some (.txt gO))] [] ((aZ w.params).drop 4) P R):
  af (CX w mg mb []) (n+20) (bR w.params) [(nR,some (.lst (ai xs)))] [] (aZ w.params) P R:=by
 refine af.cons (aF.assign (p:= .txt gO) aa.cStr (.inr rfl) ?_)
 refine af.cons (aF.assign (p:= .lst (ai b')) ?nums (.inr rfl) ?_)
 case nums=>
  refine(aa.lN (l:=bp 7 1 20) ((bH.nv (k:=20) (aa.blt rfl rfl rfl) (aa.blt rfl rfl rfl) (aj.ag aa.cInt (aj.ag aa.cInt .nil)) rfl (by decide) (by decide) (by decide)).frozen) (aa.list (aj.ag aa.cInt (aj.ag aa.cInt (aj.ag aa.cInt (aj.ag aa.cInt (aj.ag aa.cInt (aj.ag aa.cInt .nil))))))) (by decide)).cast ?_
  rfl
 refine af.cons (aF.oL (l:=ai m7) (bH.list (aj.ag aa.cInt (aj.ag aa.cInt (aj.ag aa.cInt (aj.ag aa.cInt (aj.ag aa.cInt (aj.ag aa.cInt (aj.ag aa.cInt .nil)))))))) (.inl rfl) fun a=>?_)
 have hys:(xs.take 60).length≤60:=by simp;omega
 refine af.cons (aF.forIn (l:=dA (ai (xs.take 60))) (dj.jU (aa.blt rfl rfl rfl) (aj.ag ((aa.bG (l:=ai xs) (lo:=none) (hi:=some ((60:Nat):Int)) (aa.var rfl) aP.none (aP.some aa.cInt) (by simp[ai];omega)).cast (by rw[br];simp[ai])) .nil)) ?_)
 generalize xs.take 60=ys at hys k ⊢
 rw[pG]
 refine aU.less (ρ':=[(cC,some (.lst (ai b'))),(eO,some (.txt gO))]) (ω':=[(dE,some (.lst a (ai (cN ys 0))))]) ?_ (by exact aG.self (by ext)) (by exact aC.self (by ext))
 refine aU.steps ys.zipIdx (fun i=>[(dE,some (.lst a (ai (cN ys i))))]) (fun i q hi=>?turn) ?done
 case done=>
  rw[List.length_zipIdx]
  refine af.nil ?_
  refine cI.freeze (x:=dE) rfl ?_
  exact cI.less k (by exact aG.self (by ext)) (by exact aC.self (by ext))
 case turn=>
  rw[List.getElem?_zipIdx] at hi
  obtain⟨x,hx,rfl⟩:∃x,ys[i]?=some x∧q=(x,i):=by
   cases e:ys[i]? with
   | none=>rw[e] at hi;cases hi
   | some x=>rw[e] at hi;exact⟨x,rfl,by simpa using hi.symm⟩
  have hi:i<ys.length:=(List.getElem?_eq_some_iff.mp hx).1
  rw[lF hx]
  have ok:=j7 ys i
  generalize cN ys i=l at ok ⊢
  have hl:(ai l).length=7:=by simp[ai,ok.1]
  have at_:∀(l:List Int) (j:Nat),j<l.length→(ai l)[j]?=some (.int (l.getD j 0)):=fun l j hj=>by
   simp[ai,yK,hj]
  refine fM.tuple (bB.cons (.inl rfl) (bB.cons (.inl rfl) (bB.nil ?_)))
  have hm:(i:Int).fmod 6=((i % 6:Nat):Int):=by rw[Int.fmod_eq_emod_of_nonneg _ (by decide)];lia
  have hlt:i % 6<7:=by omega
  refine af.cons (aF.qL (l:=ai l) (j:=((i % 6:Nat):Int)) (p:= .int (l.getD (i % 6) 0)) (q:= .int (x.fmod 1000000)) (r:= .int (l.getD (i % 6) 0+x.fmod 1000000)) rfl ((aa.bin (aa.var rfl) aa.cInt (aK.mod (by decide))).cast (congrArg PV.int hm)) (aa.bin (aa.var rfl) (aa.bin aa.cInt aa.cInt (aK.pow (a:=10) (k:=6))) (aK.mod (b:=1000000) (by decide))) (by omega) (by rw[Int.toNat_natCast];exact at_ l _ (by lia)) gR.uo (by omega) ?_)
  rw[Int.toNat_natCast]
  have e1:(ai l).set (i % 6) (.int (l.getD (i % 6) 0+x.fmod 1000000))=ai (l.set (i % 6) (l.getD (i % 6) 0+x.fmod 1000000)):=by simp[ai,List.map_set]
  rw[e1]
  have e3:cx l (x,i)=(l.set (i % 6) (l.getD (i % 6) 0+x.fmod 1000000)).set 6 ((l.set (i % 6) (l.getD (i % 6) 0+x.fmod 1000000)).getD 6 0+(x.fmod 1000000).fdiv 24):=rfl
  rw[e3]
  have hl1:(l.set (i % 6) (l.getD (i % 6) 0+x.fmod 1000000)).length=7:=by simp[ok.1]
  generalize l.set (i % 6) (l.getD (i % 6) 0+x.fmod 1000000)=l1 at hl1 ⊢
  have e2:(ai l1).set 6 (.int (l1.getD 6 0+(x.fmod 1000000).fdiv 24))=ai (l1.set 6 (l1.getD 6 0+(x.fmod 1000000).fdiv 24)):=by simp[ai,List.map_set]
  refine af.cons (aF.qL (l:=ai l1) (j:=6) (p:= .int (l1.getD 6 0)) (q:= .int ((x.fmod 1000000).fdiv 24)) (r:= .int (l1.getD 6 0+(x.fmod 1000000).fdiv 24)) rfl aa.cInt (aa.bin (aa.bin (aa.var rfl) (aa.bin aa.cInt aa.cInt (aK.pow (a:=10) (k:=6))) (aK.mod (b:=1000000) (by decide))) aa.cInt (aK.floordiv (by decide) (by decide))) (by decide) (at_ l1 6 (by omega)) gR.uo (by simp[ai];omega) (af.nil ⟨.inl rfl,by exact aG.self (by ext),?_⟩))
  rw[show(6:Int).toNat=6 from rfl,e2]
  exact aC.self (by ext)
noncomputable def aR (R:List Nat):List Nat:=((List.range 5).filter fun k=>!(R.take k).contains (R.getD k 0)).map fun k=>R.getD k 0
noncomputable def b9 (R:List Nat) (a c:Nat):List Nat:=((bP R).take (R.countP (· <c))).drop (R.countP (·≤a))
noncomputable def ik (R:List Nat) (a b:Nat):Nat:=R.countP (fun k=>decide (a<k)&&decide (k≤b))
noncomputable def bT (Ls W:List Nat):Option Nat:=W.findSome? fun r=>aO (fun i=>Ls.getD (i - 1) 0==r) Ls.length
noncomputable def jI (R:List Nat) (own:List (List Nat)) (S:List Nat):Bool:=own.all fun t=>bT (b9 R (gA t) (gC t)) S==some (ik R (gA t) (gB t))
noncomputable def iQ (F:List Nat) (c5:Nat) (s:List Nat) (t:Nat):List Nat:=if c5 / 5 ^ t % 5+1<F.length then bQ s (c5 / 5 ^ t % 5) else s
noncomputable def oN (F:List Nat) (c5:Nat):List Nat:=(List.range 3).foldl (iQ F c5) F
theorem d9 {α:Type} (f:α→Nat) (l:List α):((l.map fun r=>[f r]).map List.length).sum=l.length:=by
 induction l with
 | nil=>rfl
 | cons y t ih=>rw[List.map_cons,List.map_cons,List.sum_cons,ih,List.length_cons];simp;lia
section
variable {I:Nat→Nat} {m:Nat}
theorem ku {l:List Nat} {k:Nat} (h:k<l.length):bo (zs I l) (k:Int)=some (ch I (l.getD k 0)):=by
 rw[ba (by simpa using h)];simp[yK,h]
theorem nQ (l:List Nat) (k:Nat):(zs I l).take k=zs I (l.take k):=by simp[zs]
theorem u5 (K:Rk I m) {l:List Nat} (h:Rs m l) {r:Nat} (hr:1≤r∧r≤m):decide (ch I r∈zs I l)=l.contains r:=by
 rw[Bool.eq_iff_iff,decide_eq_true_eq,List.contains_iff_mem]
 constructor
 ·intro h1
  obtain⟨s,hs,e⟩:=List.mem_map.mp h1
  rw[←K.jH (h s hs) hr e];exact hs
 ·exact List.mem_map_of_mem
theorem Rs.first {R:List Nat} (h:Rs m R) (h5:R.length=5):Rs m (aR R):=fun r hr=>by
 unfold aR at hr
 obtain⟨k,hk,rfl⟩:=List.mem_map.mp hr
 have:=(List.mem_filter.mp hk).1
 exact h _ (getD_mem (by have:=List.mem_range.mp this;omega))
theorem gL (R:List Nat):(aR R).length≤5:=by
 unfold aR
 rw[List.length_map]
 exact yN (List.length_filter_le ..) (by simp)
theorem xO (K:Rk I m) {l:List Nat} (h:Rs m l) (hl:l.length≤5):perm .none (fun i j=>decide ((l.map fun r=>(I r:Int)).getD i 0<(l.map fun r=>(I r:Int)).getD j 0)) (ai (l.map fun r=>(I r:Int)))=ai ((bP l).map fun r=>(I r:Int)):=by
 have e:∀q:List Nat,ai (q.map fun r=>(I r:Int))=q.map fun r=>PV.int (I r):=fun q=>by simp[ai]
 rw[e,e,←l5 (Rs.gQ K h) hl]
 refine fy (by omega) fun i j hi hj=>?_
 unfold xp
 refine decide_eq_decide.mpr ?_
 simp only[yK,List.getElem?_map,yM hi,yM hj,Option.map_some,Option.getD_some]
 rw[←K.iff (h _ (List.getElem_mem hi)) (h _ (List.getElem_mem hj))]
 omega
end
noncomputable abbrev tF (c0 c1 c2 c3 c4:Nat):List Nat:=[c0,c1,c2,c3,c4]
theorem wx {I:Nat→Nat} {m:Nat} (K:Rk I m) {R:List Nat} (hR:Rs m R) (h5:R.length=5) {c0 c1 c2 c3 c4 c5 c6:Nat} (hD:(tF c0 c1 c2 c3 c4).map (· % 24)=R.map I) {P:a6} {RR:PV→aA→Prop}
  (k:af (CX w mg mb []) (n+20) (bR w.params) [(il,some (.txt (zs I R))),(fN,some (.int (c6 / 384:Nat))),(mL,some (.int (cB (c6 / 4 % 2==0)))),(kl,some (.int (c6 % 4:Nat))),(dE,some (.lst (ai [(c0:Int),c1,c2,c3,c4,c5,c6]))),(cC,some (.lst (ai b'))),(eO,some (.txt gO))] [] ((aZ w.params).drop 6) P RR):
  af (CX w mg mb []) (n+20) (bR w.params) [(dE,some (.lst (ai [(c0:Int),c1,c2,c3,c4,c5,c6]))),(cC,some (.lst (ai b'))),(eO,some (.txt gO))] [] ((aZ w.params).drop 4) P RR:=by
 have g6:bo (ai [(c0:Int),c1,c2,c3,c4,c5,c6]) 6=some (.int c6):=rfl
 have gl:(ai [(c0:Int),c1,c2,c3,c4,c5,c6]).length<1000000:=by rw[ax];exact Nat.lt_of_sub_eq_succ rfl
 refine af.cons (aF.fQ (p:= .tup [.int (c6 % 4:Nat), .int (cB (c6 / 4 % 2==0)), .int (c6 / 384:Nat)]) (aa.tuple (aj.ag ?h (aj.ag ?wy (aj.ag ?b .nil)))) (fM.tuple (bB.cons (.inr ⟨rfl,rfl⟩) (bB.cons (.inr ⟨rfl,rfl⟩) (bB.cons (.inr ⟨rfl,rfl⟩) (bB.nil ?_))))) (fun env he=>?sw))
 case sw=>
  obtain⟨⟩:=env
  dsimp only at he
  subst he
  with_unfolding_all rfl
 case h=>
  refine(aa.bin (aa.sub (aa.var rfl) aa.cInt (aL.list g6 gl)) aa.cInt (aK.mod (by decide))).cast (congrArg PV.int ?_)
  rw[Int.fmod_eq_emod_of_nonneg _ (by decide)];lia
 case wy=>
  refine(aa.bin aa.cInt (aa.bin aa.cInt (aa.bin (aa.bin (aa.sub (aa.var rfl) aa.cInt (aL.list g6 gl)) aa.cInt (aK.floordiv (by decide) (by decide))) aa.cInt (aK.mod (by decide))) (aK.mul (.of_left (by decide)))) aK.sub).cast (congrArg PV.int ?_)
  rw[Int.fmod_eq_emod_of_nonneg _ (by decide),Int.fdiv_eq_ediv_of_nonneg _ (by decide)]
  unfold cB
  by_cases h:c6 / 4 % 2=0
  ·rw[h];simp;lia
  ·have h:c6 / 4 % 2=1:=by lia
   rw[h];simp;lia
 case b=>
  refine(aa.bin (aa.sub (aa.var rfl) aa.cInt (aL.list g6 gl)) aa.cInt (aK.floordiv (by decide) (by decide))).cast (congrArg PV.int ?_)
  rw[Int.fdiv_eq_ediv_of_nonneg _ (by decide)];lia
 refine af.cons (aF.assign (p:= .txt (zs I R)) ?dr (.inr rfl) ?_)
 case dr=>
  refine(aa.join aa.cStr (l:=(tF c0 c1 c2 c3 c4).map fun c=>[sg (c % 24)]) (bH.frozen (bH.comp (l:=(tF c0 c1 c2 c3 c4).map fun(c:Nat)=>PV.int c) ?it ?ov (by simp[aI]) (by exact aH.jw rfl rfl (by ext)) (by exact allB (by ext)))) (by simp)).cast (congrArg (fun z=>PV.txt z) ?_)
  case it=>
   exact dj.of ((aa.bG (l:=ai [(c0:Int),c1,c2,c3,c4,c5,c6]) (lo:=none) (hi:=some ((5:Nat):Int)) (aa.var rfl) aP.none (aP.some aa.cInt) (by simp[ai])).cast (by rw[br];rfl)) fW.list
  case ov=>
   rw[show aI ((tF c0 c1 c2 c3 c4).map fun c=>[sg (c % 24)])=(tF c0 c1 c2 c3 c4).map fun c=>PV.txt [sg (c % 24)] from rfl]
   refine aQ.gj (.inl rfl) rfl fun c hc=>aa.sub (aa.var (p:= .txt gO) rfl) ((aa.bin (aa.var rfl) aa.cInt (aK.mod (by decide))).cast (q:= .int ((c % 24:Nat):Int)) (congrArg PV.int ?_)) (aL.str ?_ (by decide))
   ·rw[Int.fmod_eq_emod_of_nonneg _ (by decide)];lia
   ·rw[ba (by show c % 24<24;omega)]
    unfold sg
    rw[yK,yM (by show c % 24<24;omega)];rfl
  have e:(tF c0 c1 c2 c3 c4).map (fun c=>[sg (c % 24)])=((tF c0 c1 c2 c3 c4).map (· % 24)).map fun i=>[sg i]:=by simp
  rw[e,hD,List.map_map]
  exact jr R
 exact cI.less k (by exact aG.self (by ext)) (by exact aC.self (by ext))
theorem xX {I:Nat→Nat} {m:Nat} (K:Rk I m) {R:List Nat} (hR:Rs m R) (h5:R.length=5) {c0 c1 c2 c3 c4 c5 c6:Nat} {up:Bool} {P:a6} {RR:PV→aA→Prop}
  (k:af (CX w mg mb []) (n+20) (bR w.params) [(tH,some (.lst (ai ((bP R).map fun r=>(I r:Int))))),(jn,some (.txt (zs I (oN (aR R) c5)))),(kQ,some (.txt (zs I (aR R)))),(il,some (.txt (zs I R))),(fN,some (.int (c6 / 384:Nat))),(mL,some (.int (cB up))),(kl,some (.int (c6 % 4:Nat))),(dE,some (.lst (ai [(c0:Int),c1,c2,c3,c4,c5,c6]))),(cC,some (.lst (ai b'))),(eO,some (.txt gO))] [] ((aZ w.params).drop 10) P RR):
  af (CX w mg mb []) (n+20) (bR w.params) [(il,some (.txt (zs I R))),(fN,some (.int (c6 / 384:Nat))),(mL,some (.int (cB up))),(kl,some (.int (c6 % 4:Nat))),(dE,some (.lst (ai [(c0:Int),c1,c2,c3,c4,c5,c6]))),(cC,some (.lst (ai b'))),(eO,some (.txt gO))] [] ((aZ w.params).drop 6) P RR:=by
 have e5:bp 0 1 5=(List.range 5).map fun(k:Nat)=>PV.int k:=rfl
 have hzl:(zs I R).length=5:=by simp[h5]
 refine af.cons (aF.assign (p:= .txt (zs I (aR R))) ?fi (.inl rfl) ?_)
 case fi=>
  refine(aa.join aa.cStr (l:=((List.range 5).filter fun k=>!(R.take k).contains (R.getD k 0)).map fun k=>[ch I (R.getD k 0)]) (bH.frozen (bH.comp (l:=(List.range 5).map fun(k:Nat)=>PV.int k) ?it ?ov ?z (by exact aH.jw rfl rfl (by ext)) (by exact allB (by ext)))) ?_).cast (congrArg (fun z=>PV.txt z) ?_)
  case it=>exact dj.ip (k:=5) (aa.blt rfl rfl rfl) (aj.ag aa.cInt .nil) rfl (by decide)
  case ov=>
   unfold aI
   rw[List.map_map]
   refine aQ.cM (b:=fun k=>!(R.take k).contains (R.getD k 0)) (r:=(fun x=>PV.txt x) ∘ fun k=>[ch I (R.getD k 0)]) (.inl rfl) rfl (fun k hk=>?_) fun k hk _=>?_
   ·have hk:=List.mem_range.mp hk
    refine(bb.cmp (aa.sub (aa.var (p:= .txt (zs I R)) rfl) (aa.var rfl) (aL.str (ku (by omega)) (by omega))) (aa.cD (l:=zs I R) (lo:=none) (hi:=some (k:Int)) (aa.var rfl) aP.none (aP.some (aa.var rfl)) (by omega)) ay.uX aJ.bool).cast ?_
    rw[br,nQ,ie,u5 K (hR.take k) (hR _ (getD_mem (by omega)))]
   ·have hk:=List.mem_range.mp hk
    exact aa.sub (aa.var (p:= .txt (zs I R)) rfl) (aa.var rfl) (aL.str (ku (by omega)) (by omega))
  case z=>
   unfold aI
   rw[List.length_map,List.length_map]
   exact yN (List.length_filter_le ..) (by simp)
  ·rw[d9]
   exact yN (List.length_filter_le ..) (by simp)
  ·rw[show((List.range 5).filter fun k=>!(R.take k).contains (R.getD k 0)).map (fun k=>[ch I (R.getD k 0)])=(aR R).map fun r=>[ch I r] by unfold aR;rw[List.map_map];rfl]
   exact jr _
 have hF:=hR.first h5
 have hFl:=gL R
 generalize aR R=F at hF hFl k ⊢
 refine af.cons (aF.assign (p:= .txt (zs I F)) (aa.var rfl) (.inl rfl) ?_)
 refine af.cons (aF.forIn (l:=(List.range 3).map fun(k:Nat)=>PV.int k) (dj.ip (k:=3) (aa.blt rfl rfl rfl) (aj.ag aa.cInt .nil) rfl (by decide)) ?_)
 refine aU.less (ρ':=[(jn,some (.txt (zs I F))),(kQ,some (.txt (zs I F))),(il,some (.txt (zs I R))),(fN,some (.int (c6 / 384:Nat))),(mL,some (.int (cB up))),(kl,some (.int (c6 % 4:Nat))),(dE,some (.lst (ai [(c0:Int),c1,c2,c3,c4,c5,c6]))),(cC,some (.lst (ai b'))),(eO,some (.txt gO))]) (ω':=[]) ?_ (by exact aG.self (by ext)) (by exact aC.self (by ext))
 refine aU.kq (S:=fun s=>[(jn,some (.txt (zs I s))),(kQ,some (.txt (zs I F))),(il,some (.txt (zs I R))),(fN,some (.int (c6 / 384:Nat))),(mL,some (.int (cB up))),(kl,some (.int (c6 % 4:Nat))),(dE,some (.lst (ai [(c0:Int),c1,c2,c3,c4,c5,c6]))),(cC,some (.lst (ai b'))),(eO,some (.txt gO))]) (W:=fun _=>[]) (iQ F c5) (fun rest s=>Rs m s∧s.length=F.length∧∀t∈rest,t<3) (.inl rfl) ⟨hF,rfl,fun t ht=>List.mem_range.mp ht⟩ (fun s t rest hf=>?_) (fun hf=>?_)
 ·obtain⟨hs,hsl,ht⟩:=hf
  have ht3:t<3:=ht t List.mem_cons_self
  obtain⟨kk,hk⟩:∃kk,kk=c5 / 5 ^ t % 5:=⟨_,rfl⟩
  have hrest:∀t∈rest,t<3:=fun t h=>ht t (yL _ h)
  refine af.cons (aF.assign (p:= .int (kk:Int)) ?ek (.inl rfl) ?_)
  case ek=>
   refine(aa.bin (aa.bin (aa.sub (aa.var rfl) aa.cInt (aL.list (l:=ai [(c0:Int),c1,c2,c3,c4,c5,c6]) (i:=5) (r:= .int c5) rfl (by simp[ai]))) (aa.bin aa.cInt (aa.var rfl) (aK.pow (a:=5) (k:=t) (by omega) (by decide))) (aK.floordiv ?_ ?_)) aa.cInt (aK.mod (by decide))).cast (congrArg PV.int ?_)
   ·match t,ht3 with
    | 0,_=>decide
    | 1,_=>decide
    | 2,_=>decide
   ·match t,ht3 with
    | 0,_=>decide
    | 1,_=>decide
    | 2,_=>decide
   ·rw[hk,Int.fmod_eq_emod_of_nonneg _ (by decide),Int.fdiv_eq_ediv_of_nonneg _ (Int.pow_nonneg (by decide))]
    norm_cast
  have hzs:(zs I F).length=F.length:=by simp
  have hst:iQ F c5 s t=if kk+1<F.length then bQ s kk else s:=by rw[hk];rfl
  refine af.cons (aF.ite (b:=decide (kk+1<F.length)) ((bb.cmp (aa.bin (aa.var rfl) aa.cInt aK.add) (aa.oO (l:=zs I F) (aa.blt rfl rfl rfl) (aa.var rfl) (by omega)) ay.ltI aJ.bool).cast ?c1) (fun hb=>?yes) fun hb=>?no)
  case c1=>rw[hzs];exact decide_eq_decide.mpr (by omega)
  case no=>
   have es:iQ F c5 s t=s:=by rw[hst,if_neg (of_decide_eq_false hb)]
   exact af.nil (af.nil ⟨.inl rfl,by rw[es];exact⟨hs,hsl,hrest⟩,by rw[es];exact aG.self (by ext),by exact aC.self (by ext)⟩)
  case yes=>
   have hb:=of_decide_eq_true hb
   have es:iQ F c5 s t=bQ s kk:=by rw[hst,if_pos hb]
   have hsw:=jo ⟨hs,hsl⟩ hb
   have hzl:(zs I s).length=s.length:=by simp
   refine af.cons (aF.assign (p:= .txt (zs I (bQ s kk))) ?ot (.inl rfl) (af.nil (af.nil ⟨.inl rfl,by rw[es];exact⟨hsw.1,hsw.2,hrest⟩,by rw[es];exact aG.self (by ext),by exact aC.self (by ext)⟩)))
   case ot=>
    refine(aa.bin (aa.bin (aa.bin (aa.cD (l:=zs I s) (lo:=none) (hi:=some (kk:Int)) (aa.var rfl) aP.none (aP.some (aa.var rfl)) (by omega)) (aa.sub (aa.var (p:= .txt (zs I s)) rfl) (aa.bin (aa.var (p:= .int kk) rfl) aa.cInt aK.add) (aL.str (ku (k:=kk+1) (by omega)) (by omega))) (aK.eN ?_)) (aa.sub (aa.var (p:= .txt (zs I s)) rfl) (aa.var (p:= .int kk) rfl) (aL.str (ku (by omega)) (by omega))) (aK.eN ?_)) (aa.cD (l:=zs I s) (lo:=some ((kk+2:Nat):Int)) (hi:=none) (aa.var rfl) (aP.some (aa.bin (aa.var (p:= .int kk) rfl) aa.cInt aK.add)) aP.none (by omega)) (aK.eN ?_)).cast ?_
    ·rw[br,List.length_take];simp;omega
    ·rw[List.length_append,br,List.length_take];simp;omega
    ·rw[List.length_append,List.length_append,br,cE,List.length_take,List.length_drop];simp;omega
    ·rw[br,cE];unfold bQ zs;simp
 refine af.nil ?_
 refine af.cons (aF.assign (p:= .lst (ai ((bP R).map fun r=>(I r:Int)))) ?la (.inr rfl) ?_)
 case la=>
  have hl5:(R.map fun r=>(I r:Int)).length=5:=by simp[h5]
  refine((bH.sorted (ps:=ai (R.map fun r=>(I r:Int))) (aa.blt rfl rfl rfl) (bH.frozen (bH.comp (l:=R.map fun r=>PV.txt [ch I r]) ?it ?ov ?_ (by exact aH.jw rfl rfl (by ext)) (by exact allB (by ext)))) bW.ints ?_ ?_).frozen).cast (congrArg PV.lst (xO K hR (by omega)))
  case it=>
   refine dj.of (p:= .txt (zs I R)) (aa.var rfl) ?_
   rw[←cu]
   exact fW.str (dJ K hR)
  case ov=>
   rw[show ai (R.map fun r=>(I r:Int))=R.map fun r=>PV.int (I r) by unfold ai;rw[List.map_map];rfl]
   exact aQ.gj (.inl rfl) rfl fun r hr=>(aa.index (l:=gO) (aa.var rfl) (aa.var rfl) (K.mem (hR r hr))).cast (K.idx (hR r hr))
  ·rw[ax,hl5];decide
  ·rw[ax,hl5];decide
  ·rw[ax,hl5];exact cZ (by decide)
 exact cI.less k (by exact aG.self (by ext)) (by exact aC.self (by ext))
noncomputable def tV (j:Nat):List Nat:=[[32],[9],[32,9],[9,32]].getD j []
noncomputable def pX (j:Nat):List Nat:=[[],[32],[9],[9,32]].getD j []
noncomputable def eD (I:Nat→Nat) (R:List Nat) (B:Nat) (k:Nat):Part:=(tV (B / 4 ^ k % 4),[ch I ((bP R).getD ((k+4) % 5) 0),ch I ((bP R).getD k 0)])
noncomputable def fq (I:Nat→Nat) (R:List Nat) (B:Nat):List Part:=(List.range 5).map (eD I R B)
noncomputable def cW (I:Nat→Nat) (R:List Nat) (B E:Nat):List Part:=fq I R B++[(pX E,[36])]
theorem kT {α:Type} {f:α→PV} {l:List α} {d:α} {j:Nat} (h:j<l.length):bo (l.map f) (j:Int)=some (f (l.getD j d)):=by
 rw[ba (by simpa using h)];simp[yK,h]
theorem aF.rA {X:Cx} {sc:Scope} {ρ:az} {ω:aA} {P:a6} {R:PV→aA→Prop} {x:Str} {elt:PySem.Expr} {gs:List Comprehension} {scope:Scope} {ps pos pos':Pos} {l:List PV} (h:bH X n sc ρ (.ListComp elt gs scope ps) l) (hx:sc.names.lookup x=some .cell) (k:∀a,P .next ((x,none)::ρ) ((x,some (.lst a l))::ω)):aF X n sc ρ ω (.Assign [.Name x pos'] (.ListComp elt gs scope ps) pos) P R:=
 fun A env s G D Q E rm wr r k1 k2=>wpAny_Assign_Name (h A env s G _ E rm r.er fun a vs s1 G1 t1 hn hg hl hr=>(r.step t1).storeAt (b8.at (.inr hx) wr) fun h' tk S=>
  k1 .next _ _ _ G1 (k a) (S.owned (r.step t1) (o:= .lst a l) (dZ r t1 (fun b hb=>by simp[Own.fp] at hb;subst hb;exact hn) (fun b hb=>by simp[Own.fp] at hb;subst hb;exact hg) ⟨vs,hl,hr⟩))) (by
   have hk:env.kindOf x=some .cell:=by rw[bh r.er.scope];exact hx
   unfold swapsWith
   simp only[hk,show(some NameKind.cell==some NameKind.local)=false from rfl,Bool.and_false,Bool.false_and])
noncomputable abbrev ρC (I:Nat→Nat) (R F S:List Nat) (up:Bool) (cs:List PV) (c6:Nat):az:=[(tH,some (.lst (ai ((bP R).map fun r=>(I r:Int))))),(jn,some (.txt (zs I S))),(kQ,some (.txt (zs I F))),(il,some (.txt (zs I R))),(fN,some (.int (c6 / 384:Nat))),(mL,some (.int (cB up))),(kl,some (.int (c6 % 4:Nat))),(dE,some (.lst cs)),(cC,some (.lst (ai b'))),(eO,some (.txt gO))]
noncomputable abbrev ρD (I:Nat→Nat) (R F S:List Nat) (up:Bool) (cs:List PV) (c6:Nat):az:=(kj,some (.lst (ak (cW I R (c6 / 384) (c6 / 96 % 4)))))::ρC I R F S up cs c6
theorem xW {I:Nat→Nat} {m:Nat} (K:Rk I m) {R F S:List Nat} (hR:Rs m R) (h5:R.length=5) {c0 c1 c2 c3 c4 c5 c6:Nat} {up:Bool} {P:a6} {RR:PV→aA→Prop}
  (k:af (CX w mg mb []) (n+20) (bR w.params) (ρD I R F S up (ai [(c0:Int),c1,c2,c3,c4,c5,c6]) c6) [] ((aZ w.params).drop 12) P RR):
  af (CX w mg mb []) (n+20) (bR w.params) (ρC I R F S up (ai [(c0:Int),c1,c2,c3,c4,c5,c6]) c6) [] ((aZ w.params).drop 10) P RR:=by
 have hs5:(bP R).length=5:=by rw[eR,h5]
 have hsm:∀j:Nat,j<5→1≤(bP R).getD j 0∧(bP R).getD j 0≤m:=fun j hj=>hR.bP _ (getD_mem (by omega))
 have gu:(ai ((bP R).map fun r=>(I r:Int))).length=5:=by simp[ai,hs5]
 have atL:∀j:Nat,j<5→bo (ai ((bP R).map fun r=>(I r:Int))) (j:Int)=some (.int (I ((bP R).getD j 0):Nat)):=fun j hj=>by
  rw[ba (by omega)];simp[ai,yK,hs5,hj]
 have atL':∀k:Nat,k<5→bo (ai ((bP R).map fun r=>(I r:Int))) ((k:Int) - 1)=some (.int (I ((bP R).getD ((k+4) % 5) 0):Nat)):=fun k hk=>by
  cases k with
  | zero=>
   rw[show((0:Nat):Int) - 1= -1 from rfl,eV (x:= .none) (by intro e;rw[e] at gu;cases gu),List.getLastD_eq_getLast?,List.getLast?_eq_getElem?,gu]
   simp[ai,yK,hs5]
  | succ k=>
   rw[show((k+1:Nat):Int) - 1=(k:Int) by lia,atL k (by omega),show(k+1+4) % 5=k by omega]
 have sgA:∀r,1≤r∧r≤m→bo gO ((I r:Nat):Int)=some (ch I r):=fun r hr=>by
  have:=K.lt r hr.1 hr.2
  rw[ba (by show I r<24;exact this)]
  unfold ch sg
  rw[yK,yM (by show I r<24;exact this)];rfl
 refine af.cons (aF.rA (l:=ak (fq I R (c6 / 384))) (bH.comp (l:=(List.range 5).map fun(k:Nat)=>PV.int k) (dj.ip (k:=5) (aa.blt rfl rfl rfl) (aj.ag aa.cInt .nil) rfl (by decide)) ?ov (by simp[fq]) (by exact aH.jw rfl rfl (by ext)) (by exact allB (by ext))) rfl fun a=>?_)
 case ov=>
  unfold ak fq
  rw[List.map_map]
  refine aQ.gj (.inl rfl) rfl fun k hk=>aa.tuple (aj.ag ?e1 (aj.ag ?e2 .nil))
  case e1=>
   have hk:=List.mem_range.mp hk
   have hj:c6 / 384 / 4 ^ k % 4<4:=Nat.mod_lt _ (by decide)
   refine aa.sub (aa.tuple (ps:=([[32],[9],[32,9],[9,32]]:List (List Nat)).map fun x=>PV.txt x) (aj.ag aa.cStr (aj.ag aa.cStr (aj.ag aa.cStr (aj.ag aa.cStr .nil))))) (((aa.bin (aa.bin (aa.var (p:= .int (c6 / 384:Nat)) rfl) (aa.bin aa.cInt (aa.var rfl) (aK.pow (a:=4) (k:=k) (by omega) (by decide))) (aK.floordiv ?_ ?_)) aa.cInt (aK.mod (by decide))).cast (q:= .int ((c6 / 384 / 4 ^ k % 4:Nat):Int)) (congrArg PV.int ?_))) (aL.tup (kT hj) (by decide))
   ·exact Int.ne_of_gt (Int.pow_pos (by decide))
   ·match k,hk with
    | 0,_=>decide
    | 1,_=>decide
    | 2,_=>decide
    | 3,_=>decide
    | 4,_=>decide
   ·rw[Int.fmod_eq_emod_of_nonneg _ (by decide),Int.fdiv_eq_ediv_of_nonneg _ (Int.pow_nonneg (by decide))]
    norm_cast
  case e2=>
   have hk:=List.mem_range.mp hk
   refine aa.bin (aa.sub (aa.var (p:= .txt gO) rfl) (aa.sub (aa.var rfl) (aa.bin (aa.var (p:= .int (k:Nat)) rfl) aa.cInt aK.sub) (aL.list (atL' k hk) (by omega))) (aL.str (sgA _ (hsm _ (Nat.mod_lt _ (by decide)))) (by decide))) (aa.sub (aa.var (p:= .txt gO) rfl) (aa.sub (aa.var rfl) (aa.var (p:= .int (k:Nat)) rfl) (aL.list (atL k hk) (by omega))) (aL.str (sgA _ (hsm _ hk)) (by decide))) (aK.eN (a:=[ch I ((bP R).getD ((k+4) % 5) 0)]) (b:=[ch I ((bP R).getD k 0)]) (by simp))
 have hj:c6 / 96 % 4<4:=Nat.mod_lt _ (by decide)
 refine af.cons (aF.append (l:=ak (fq I R (c6 / 384))) (p:=cK (pX (c6 / 96 % 4),[36])) rfl (aa.tuple (aj.ag ?e1 (aj.ag aa.cStr .nil))) rfl (by simp[fq]) ?_)
 case e1=>
  refine aa.sub (aa.tuple (ps:=([[],[32],[9],[9,32]]:List (List Nat)).map fun x=>PV.txt x) (aj.ag aa.cStr (aj.ag aa.cStr (aj.ag aa.cStr (aj.ag aa.cStr .nil))))) (((aa.bin (aa.bin (aa.sub (aa.var rfl) aa.cInt (aL.list (l:=ai [(c0:Int),c1,c2,c3,c4,c5,c6]) (i:=6) (r:= .int c6) rfl (by simp[ai]))) aa.cInt (aK.floordiv (by decide) (by decide))) aa.cInt (aK.mod (by decide))).cast (q:= .int ((c6 / 96 % 4:Nat):Int)) (congrArg PV.int ?_))) (aL.tup (kT hj) (by decide))
  rw[Int.fmod_eq_emod_of_nonneg _ (by decide),Int.fdiv_eq_ediv_of_nonneg _ (by decide)]
  lia
 refine cI.freeze (x:=kj) rfl ?_
 have el:ak (fq I R (c6 / 384))++[cK (pX (c6 / 96 % 4),[36])]=ak (cW I R (c6 / 384) (c6 / 96 % 4)):=by simp[cW]
 rw[el]
 exact cI.less k (by exact aG.self (by ext)) (by exact aC.self (by ext))
noncomputable def xe (I:Nat→Nat) (r:Nat):Int:=if r=0 then -1 else if r=6 then 24 else I r
noncomputable abbrev eH (I:Nat→Nat) (l:List (List Nat)):List PV:=l.map fun t=> .tup (ai (t.map (xe I)))
theorem lu:∀(l:List Nat) (z:Nat),(l.foldl Nat.max z=z∨l.foldl Nat.max z∈l)∧z≤l.foldl Nat.max z∧∀r∈l,r≤l.foldl Nat.max z
 | [],z=>⟨.inl rfl,Nat.le_refl _,fun _ h=>nomatch h⟩
 | x::l,z=>by
  obtain⟨h1,h2,h3⟩:=lu l (Nat.max z x)
  have a1:z≤Nat.max z x:=Nat.le_max_left ..
  have a2:x≤Nat.max z x:=Nat.le_max_right ..
  refine⟨?_,yN a1 h2,fun r hr=>?_⟩
  ·rcases h1 with h1 | h1
   ·by_cases q:x≤z
    ·exact .inl (h1.trans (Nat.max_eq_left q))
    ·exact .inr (by rw[List.foldl_cons,h1,show Nat.max z x=x from Nat.max_eq_right (by omega)];exact List.mem_cons_self)
   ·exact .inr (yL _ h1)
  ·rcases List.mem_cons.mp hr with rfl | hr
   ·exact yN a2 h2
   ·exact h3 r hr
theorem lr:∀(l:List Nat) (z:Nat),(l.foldl Nat.min z=z∨l.foldl Nat.min z∈l)∧l.foldl Nat.min z≤z∧∀r∈l,l.foldl Nat.min z≤r
 | [],z=>⟨.inl rfl,Nat.le_refl _,fun _ h=>nomatch h⟩
 | x::l,z=>by
  obtain⟨h1,h2,h3⟩:=lr l (Nat.min z x)
  have a1:Nat.min z x≤z:=Nat.min_le_left ..
  have a2:Nat.min z x≤x:=Nat.min_le_right ..
  refine⟨?_,yN h2 a1,fun r hr=>?_⟩
  ·rcases h1 with h1 | h1
   ·by_cases q:z≤x
    ·exact .inl (h1.trans (Nat.min_eq_left q))
    ·exact .inr (by rw[List.foldl_cons,h1,show Nat.min z x=x from Nat.min_eq_right (by omega)];exact List.mem_cons_self)
   ·exact .inr (yL _ h1)
  ·rcases List.mem_cons.mp hr with rfl | hr
   ·exact yN h2 a2
   ·exact h3 r hr
noncomputable def ownAt (F:List Nat) (k:Nat):List Nat:=[jg (F.take k) (F.getD k 0),F.getD k 0,fb (F.take k) (F.getD k 0)]
theorem dY (F:List Nat):fX F=(List.range F.length).map (ownAt F):=rfl
section
variable {I:Nat→Nat} {m:Nat}
theorem cQ (K:Rk I m) {r s:Nat} (hr:r=0∨r=6∨(1≤r∧r≤m)) (hs:s=0∨s=6∨(1≤s∧s≤m)):xe I r<xe I s↔r<s:=by
 have h5:=K.gQ
 have lo:∀r,(1≤r∧r≤m)→I r<24:=fun r h=>K.lt r h.1 h.2
 unfold xe
 rcases hr with rfl | rfl | hr<;>rcases hs with rfl | rfl | hs
 ·simp
 ·simp
 ·rw[if_pos rfl,if_neg (by omega),if_neg (by omega)];omega
 ·simp
 ·simp
 ·rw[if_neg (by lia),if_pos rfl,if_neg (by omega),if_neg (by omega)];have:=lo s hs;omega
 ·rw[if_neg (by omega),if_neg (by omega),if_pos rfl];lia
 ·rw[if_neg (by omega),if_neg (by omega),if_neg (by lia),if_pos rfl];have:=lo r hr;omega
 ·rw[if_neg (by omega),if_neg (by omega),if_neg (by omega),if_neg (by omega)]
  have:=K.iff hr hs
  omega
theorem qc (K:Rk I m) {r s:Nat} (hr:r=0∨r=6∨(1≤r∧r≤m)) (hs:s=0∨s=6∨(1≤s∧s≤m)):xe I r=xe I s↔r=s:=by
 have h1:=cQ K hr hs
 have h2:=cQ K hs hr
 constructor
 ·intro h;omega
 ·rintro rfl;rfl
theorem gV {r:Nat} (K:Rk I m) (hr:1≤r∧r≤m):xe I r=I r:=by
 have:=K.gQ
 unfold xe;rw[if_neg (by omega),if_neg (by omega)]
theorem qx (K:Rk I m):∀{a b:List Nat},Gs m a→Gs m b→lexLt (a.map (xe I)) (b.map (xe I))=dU a b
 | [],_,_,_=>by simp[lexLt,dU]
 | _::_,[],_,_=>by simp[lexLt,dU]
 | x::a,y::b,ha,hb=>by
  have hx:=ha x List.mem_cons_self
  have hy:=hb y List.mem_cons_self
  simp only[List.map_cons,lexLt,dU]
  rw[qx K (fun r hr=>ha r (yL _ hr)) (fun r hr=>hb r (yL _ hr))]
  have e1:(xe I x==xe I y)=(x==y):=by rw[Bool.eq_iff_iff,beq_iff_eq,beq_iff_eq];exact qc K hx hy
  have e2:decide (xe I x<xe I y)=decide (x<y):=decide_eq_decide.mpr (cQ K hx hy)
  rw[e1,e2]
theorem oh:∀a b:List Nat,dU a b=true→dU b a=false
 | [],[],_=>rfl
 | [],_::_,_=>rfl
 | _::_,[],_=>rfl
 | x::a,y::b,h=>by
  unfold dU at h ⊢
  by_cases e:x=y
  ·subst e
   rw[if_pos (by simp)] at h ⊢
   exact oh a b h
  ·rw[if_neg (by simpa using e)] at h
   rw[if_neg (by simpa using fun q=>e q.symm)]
   have:=of_decide_eq_true h
   exact decide_eq_false (by omega)
theorem og:∀{a b c:List Nat},a.length=b.length→b.length=c.length→dU b a=false→dU c b=false→dU c a=false
 | [],[],[],_,_,_,_=>rfl
 | x::a,y::b,z::c,h1,h2,e1,e2=>by
  unfold dU at e1 e2 ⊢
  by_cases p:x=y
  ·subst p
   rw[if_pos (by simp)] at e1
   by_cases q:z=x
   ·subst q
    rw[if_pos (by simp)] at e2 ⊢
    exact og (by simpa using h1) (by simpa using h2) e1 e2
   ·rw[if_neg (by simpa using q)] at e2 ⊢;exact e2
  ·rw[if_neg (by simpa using fun q=>p q.symm)] at e1
   have e1:=of_decide_eq_false e1
   by_cases q:z=y
   ·subst q
    rw[if_neg (by simpa using fun q=>p q.symm)]
    exact decide_eq_false e1
   ·rw[if_neg (by simpa using q)] at e2
    have e2:=of_decide_eq_false e2
    rw[if_neg (by simp;lia)]
    exact decide_eq_false (by lia)
theorem oj:∀{a b:List Nat},a.length=b.length→dU a b=false→dU b a=false→a=b
 | [],[],_,_,_=>rfl
 | x::a,y::b,h,e1,e2=>by
  unfold dU at e1 e2
  by_cases p:x=y
  ·subst p
   rw[if_pos (by simp)] at e1 e2
   rw[oj (by simpa using h) e1 e2]
  ·rw[if_neg (by simpa using p)] at e1
   rw[if_neg (by simpa using fun q=>p q.symm)] at e2
   have e1:=of_decide_eq_false e1
   have e2:=of_decide_eq_false e2
   lia
theorem l6 {l:List (List Nat)} (hl:l.length<6) (h3:∀t∈l,t.length=3):perm [] (fun i j=>dU (l.getD i []) (l.getD j [])) l=dc dU l:=
 kD hl oh (fun a b c ha hb hc=>og ((h3 a ha).trans (h3 b hb).symm) ((h3 b hb).trans (h3 c hc).symm)) fun a b ha hb e1 e2=>oj ((h3 a ha).trans (h3 b hb).symm) e1 e2
theorem qX {F:List Nat} (K:Rk I m) (hF:Rs m F) {k:Nat} (hk:k<F.length):Gs m (ownAt F k)∧(ownAt F k).length=3:=by
 have hh:1≤F.getD k 0∧F.getD k 0≤m:=hF _ (getD_mem hk)
 refine⟨fun r hr=>?_,rfl⟩
 simp only[ownAt,List.mem_cons,List.not_mem_nil,or_false] at hr
 rcases hr with rfl | rfl | rfl
 ·unfold jg
  rcases(lu ((F.take k).filter (· <F.getD k 0)) 0).1 with e | e
  ·exact .inl e
  ·exact .inr (.inr (hF.take k _ (List.mem_filter.mp e).1))
 ·exact .inr (.inr hh)
 ·unfold fb
  rcases(lr ((F.take k).filter (F.getD k 0< ·)) 6).1 with e | e
  ·exact .inr (.inl e)
  ·exact .inr (.inr (hF.take k _ (List.mem_filter.mp e).1))
theorem lb {F:List Nat} (K:Rk I m) (hF:Rs m F):∀t∈fX F,Gs m t∧t.length=3:=fun t ht=>by
 rw[dY] at ht
 obtain⟨k,hk,rfl⟩:=List.mem_map.mp ht
 exact qX K hF (List.mem_range.mp hk)
theorem jq {F:List Nat} (K:Rk I m) (hF:Rs m F):∀t∈au F,Gs m t∧t.length=3:=fun t ht=>lb K hF t (aS.mem_iff.mp ht)
theorem hJ (F:List Nat):(au F).length=F.length:=by
 unfold au
 rw[aS.length_eq,dY];simp
theorem sj (K:Rk I m) {F:List Nat} (hF:Rs m F) (hl:F.length≤5):perm .none (fun i j=>lexLt (((fX F).map fun t=>t.map (xe I)).getD i []) (((fX F).map fun t=>t.map (xe I)).getD j [])) (eH I (fX F))=eH I (au F):=by
 have hz:(fX F).length<6:=by rw[dY];simp;omega
 have hg:=lb K hF
 unfold au
 rw[←l6 hz fun t ht=>(hg t ht).2]
 refine fy hz fun i j hi hj=>?_
 simp only[yK,List.getElem?_map,yM hi,yM hj,Option.map_some,Option.getD_some]
 exact qx K (hg _ (List.getElem_mem hi)).1 (hg _ (List.getElem_mem hj)).1
end
theorem j0 {α β:Type} (f:α→β):∀(l:List α) (b:List β),l.foldl (fun b a=>b++[f a]) b=b++l.map f
 | [],b=>by simp
 | a::l,b=>by rw[List.foldl_cons,j0 f l];simp
noncomputable abbrev ρE (I:Nat→Nat) (R F S:List Nat) (up:Bool) (cs:List PV) (c6:Nat):az:=(rJ,some (.lst (eH I (au F))))::ρD I R F S up cs c6
theorem xV {I:Nat→Nat} {m:Nat} (K:Rk I m) {R F S:List Nat} (hF:Rs m F) (hFl:F.length≤5) {cs:List PV} {c6:Nat} {up:Bool} {P:a6} {RR:PV→aA→Prop}
  (k:af (CX w mg mb []) (n+20) (bR w.params) (ρE I R F S up cs c6) [] ((aZ w.params).drop 15) P RR):
  af (CX w mg mb []) (n+20) (bR w.params) (ρD I R F S up cs c6) [] ((aZ w.params).drop 12) P RR:=by
 have hzF:(zs I F).length=F.length:=by simp
 refine af.cons (aF.oL (l:=[]) (bH.list .nil) (.inl rfl) fun a=>?_)
 refine af.cons (aF.forIn (l:=(List.range F.length).map fun(k:Nat)=>PV.int k) ?it ?_)
 case it=>
  have e:bp 0 1 F.length=(List.range F.length).map fun(k:Nat)=>PV.int k:=by
   unfold bp;refine List.map_congr_left fun a _=>?_;congr 1;lia
  rw[←e]
  exact dj.ip (b:=(F.length:Nat)) (k:=F.length) (aa.blt rfl rfl rfl) (aj.ag ((aa.oO (l:=zs I F) (aa.blt rfl rfl rfl) (aa.var rfl) (by omega)).cast (by rw[hzF])) .nil) rfl (by omega)
 refine aU.less (ρ':=ρD I R F S up cs c6) (ω':=[(rJ,some (.lst a (eH I [])))]) ?_ (by exact aG.self (by ext)) (by exact aC.self (by ext))
 refine aU.kq (β:=List (List Nat)) (b:=[]) (S:=fun _=>ρD I R F S up cs c6) (W:=fun o=>[(rJ,some (.lst a (eH I o)))]) (fun b k=>b++[ownAt F k]) (fun rest b=>b.length+rest.length≤5∧∀k∈rest,k<F.length) (.inl rfl) ⟨by simpa using hFl,fun k hk=>List.mem_range.mp hk⟩ (fun b k rest hf=>?_) (fun hf=>?_)
 ·obtain⟨hz,hks⟩:=hf
  have hk:k<F.length:=hks k List.mem_cons_self
  rw[List.length_cons] at hz
  have hh:1≤F.getD k 0∧F.getD k 0≤m:=hF _ (getD_mem hk)
  have hT:=hF.take k
  have hTl:(F.take k).length≤5:=by simp;omega
  obtain⟨h,he⟩:∃h,h=F.getD k 0:=⟨_,rfl⟩
  obtain⟨T,hTe⟩:∃T,T=F.take k:=⟨_,rfl⟩
  have ho:ownAt F k=[jg T h,h,fb T h]:=by rw[he,hTe];rfl
  rw[←he] at hh
  rw[←hTe] at hT hTl
  have hin:∀l:List Nat,(ai (l.map fun r=>(I r:Int)))=l.map fun r=>PV.int (I r):=fun l=>by simp[ai]
  refine af.cons (aF.fQ (p:= .tup [.int (I h:Nat), .lst (ai (T.map fun r=>(I r:Int)))]) (aa.tuple (aj.ag ?a1 (aj.ag ?a2 .nil))) (fM.tuple (bB.cons (.inr ⟨rfl,rfl⟩) (bB.cons (.inl rfl) (bB.nil ?_)))) (fun env he=>?sw))
  case sw=>
   obtain⟨⟩:=env
   dsimp only at he
   subst he
   with_unfolding_all rfl
  case a1=>
   rw[he]
   exact(aa.index (l:=gO) (aa.var rfl) (aa.sub (aa.var (p:= .txt (zs I F)) rfl) (aa.var rfl) (aL.str (ku hk) (by omega))) (K.mem (he▸hh))).cast (K.idx (he▸hh))
  case a2=>
   refine bH.frozen (bH.comp (l:=T.map fun r=>PV.txt [ch I r]) ?it ?ov ?_ (by exact aH.jw rfl rfl (by ext)) (by exact allB (by ext)))
   case it=>
    refine dj.of (p:= .txt (zs I T)) ((aa.cD (l:=zs I F) (lo:=none) (hi:=some (k:Int)) (aa.var rfl) aP.none (aP.some (aa.var rfl)) (by omega)).cast (by rw[br,nQ,hTe])) ?_
    rw[←cu]
    exact fW.str (dJ K hT)
   case ov=>
    rw[hin]
    exact aQ.gj (.inl rfl) rfl fun r hr=>(aa.index (l:=gO) (aa.var rfl) (aa.var rfl) (K.mem (hT r hr))).cast (K.idx (hT r hr))
   ·rw[hin];simp;omega
  have hmx:=lu (T.filter (· <h)) 0
  have hmn:=lr (T.filter (h< ·)) 6
  have h5:=K.gQ
  have mem1:∀{r},r∈T.filter (· <h)→(1≤r∧r≤m)∧r<h:=fun hr=>by
   obtain⟨a,b⟩:=List.mem_filter.mp hr
   exact⟨hT _ a,of_decide_eq_true b⟩
  have mem2:∀{r},r∈T.filter (h< ·)→(1≤r∧r≤m)∧h<r:=fun hr=>by
   obtain⟨a,b⟩:=List.mem_filter.mp hr
   exact⟨hT _ a,of_decide_eq_true b⟩
  refine af.cons (aF.append (l:=eH I b) (p:= .tup (ai ((ownAt F k).map (xe I)))) rfl ?tu rfl (by rw[List.length_map];omega) (af.nil ⟨.inl rfl,⟨by simp;omega,fun j hj=>hks j (yL _ hj)⟩,by exact aG.self (by ext),?_⟩))
  case tu=>
   rw[ho]
   refine aa.tuple (aj.ag ?g1 (aj.ag ((aa.var (p:= .int (I h:Nat)) rfl).cast (congrArg PV.int (gV K hh).symm)) (aj.ag ?g3 .nil)))
   case g1=>
    refine aa.max (l:= -1::(T.filter (· <h)).map fun r=>(I r:Int)) (aa.blt rfl rfl rfl) (aa.lN (l:=[.int (-1)]) (aa.list (aj.ag aa.kO .nil)) (bH.frozen (bH.comp (l:=T.map fun r=>PV.int (I r:Nat)) (out:=(T.filter fun r=>decide (r<h)).map fun r=>PV.int (I r:Nat)) (dj.of ((aa.var (p:= .lst (ai (T.map fun r=>(I r:Int)))) rfl).cast (congrArg PV.lst (hin T))) fW.list) ?ov ?_ (by exact aH.jw rfl rfl (by ext)) (by exact allB (by ext)))) ?_ |>.cast ?_) ?_ ?_
    case ov=>
     refine aQ.cM (b:=fun r=>decide (r<h)) (.inl rfl) rfl (fun r hr=>?_) fun r hr _=>aa.var rfl
     refine(bb.cmp (aa.var (p:= .int (I r:Nat)) rfl) (aa.var (p:= .int (I h:Nat)) rfl) ay.ltI aJ.bool).cast ?_
     have:=K.iff (hT r hr) hh
     exact decide_eq_decide.mpr (by omega)
    ·rw[List.length_map];exact yN (List.length_filter_le ..) (by omega)
    ·rw[List.length_map]
     have:=List.length_filter_le (fun r=>decide (r<h)) T
     simp;omega
    ·rw[show ai (-1::(T.filter (· <h)).map fun r=>(I r:Int))= .int (-1)::ai ((T.filter (· <h)).map fun r=>(I r:Int)) from rfl,hin];rfl
    ·rcases hmx.1 with e | e
     ·rw[show jg T h=0 from e];exact List.mem_cons_self
     ·refine yL _ (List.mem_map.mpr ⟨_,e,?_⟩)
      exact(gV K (mem1 e).1).symm
    ·intro z hz
     rcases List.mem_cons.mp hz with rfl | hz
     ·have:=(cQ K (r:=0) (s:=jg T h) (.inl rfl) ?_)
      ·have h0:xe I 0= -1:=rfl
       rw[←h0]
       by_cases q:jg T h=0
       ·rw[q];exact Int.le_refl _
       ·have:=this.mpr (by omega);lia
      ·rcases hmx.1 with e | e
       ·exact .inl e
       ·exact .inr (.inr (mem1 e).1)
     ·obtain⟨r,hr,rfl⟩:=List.mem_map.mp hz
      have hle:=hmx.2.2 r hr
      have hr1:=(mem1 hr).1
      rw[←gV K hr1]
      have hz:jg T h=0∨jg T h=6∨(1≤jg T h∧jg T h≤m):=by
       rcases hmx.1 with e | e
       ·exact .inl e
       ·exact .inr (.inr (mem1 e).1)
      have:=(cQ K hz (.inr (.inr hr1)))
      have hle:r≤jg T h:=hle
      lia
   case g3=>
    refine aa.min (l:=24::(T.filter (h< ·)).map fun r=>(I r:Int)) (aa.blt rfl rfl rfl) (aa.lN (l:=[.int 24]) (aa.list (aj.ag aa.cInt .nil)) (bH.frozen (bH.comp (l:=T.map fun r=>PV.int (I r:Nat)) (out:=(T.filter fun r=>decide (h<r)).map fun r=>PV.int (I r:Nat)) (dj.of ((aa.var (p:= .lst (ai (T.map fun r=>(I r:Int)))) rfl).cast (congrArg PV.lst (hin T))) fW.list) ?ov ?_ (by exact aH.jw rfl rfl (by ext)) (by exact allB (by ext)))) ?_ |>.cast ?_) ?_ ?_
    case ov=>
     refine aQ.cM (b:=fun r=>decide (h<r)) (.inl rfl) rfl (fun r hr=>?_) fun r hr _=>aa.var rfl
     refine(bb.cmp (aa.var (p:= .int (I r:Nat)) rfl) (aa.var (p:= .int (I h:Nat)) rfl) ay.rF aJ.bool).cast ?_
     have:=K.iff hh (hT r hr)
     exact decide_eq_decide.mpr (by omega)
    ·rw[List.length_map];exact yN (List.length_filter_le ..) (by omega)
    ·rw[List.length_map]
     have:=List.length_filter_le (fun r=>decide (h<r)) T
     simp;omega
    ·rw[show ai (24::(T.filter (h< ·)).map fun r=>(I r:Int))= .int 24::ai ((T.filter (h< ·)).map fun r=>(I r:Int)) from rfl,hin];rfl
    ·rcases hmn.1 with e | e
     ·rw[show fb T h=6 from e];exact List.mem_cons_self
     ·refine yL _ (List.mem_map.mpr ⟨_,e,?_⟩)
      exact(gV K (mem2 e).1).symm
    ·have hz':fb T h=0∨fb T h=6∨(1≤fb T h∧fb T h≤m):=by
      rcases hmn.1 with e | e
      ·exact .inr (.inl e)
      ·exact .inr (.inr (mem2 e).1)
     intro z hz
     rcases List.mem_cons.mp hz with rfl | hz
     ·have h6:xe I 6=24:=rfl
      have:=cQ K (r:=6) (s:=fb T h) (.inr (.inl rfl)) hz'
      have hle:fb T h≤6:=hmn.2.1
      lia
     ·obtain⟨r,hr,rfl⟩:=List.mem_map.mp hz
      have hle:fb T h≤r:=hmn.2.2 r hr
      have hr1:=(mem2 hr).1
      rw[←gV K hr1]
      have:=(cQ K (.inr (.inr hr1)) hz')
      lia
  ·have e2:eH I b++[PV.tup (ai ((ownAt F k).map (xe I)))]=eH I (b++[ownAt F k]):=by simp
   rw[e2]
   exact aC.self (by ext)
 ·refine af.nil ?_
  rw[j0,List.nil_append,←dY]
  have hz:(eH I (fX F)).length=F.length:=by simp[dY]
  refine af.cons (aF.sort (ps:=eH I (fX F)) (lt:=fun i j=>lexLt (((fX F).map fun t=>t.map (xe I)).getD i []) (((fX F).map fun t=>t.map (xe I)).getD j [])) rfl ?ok (by omega) (by rw[hz];exact cZ (by omega)) ?_)
  case ok=>
   rw[show eH I (fX F)=((fX F).map fun t=>t.map (xe I)).map fun x=>PV.tup (ai x) by simp]
   exact bW.rK (m:=2) fun x hx=>by
    obtain⟨t,ht,rfl⟩:=List.mem_map.mp hx
    rw[List.length_map,(lb K hF t ht).2]
  rw[sj K hF hFl]
  refine cI.freeze (x:=rJ) rfl ?_
  exact cI.less k (by exact aG.self (by ext)) (by exact aC.self (by ext))
theorem aa.rM {X:Cx} {sc:Scope} {ρ:az} {e:PySem.Expr} {pos:Pos} {i:Int} (h:aa X n sc ρ e (.int i)):aa X n sc ρ (.UnaryOp .USub e pos) (.int (-i)):=by
 intro A env s G Q E rm ev k
 refine wpAny_UnaryOp (h A env s G _ E rm ev fun v s1 G1 t1 d1=>?_)
 obtain⟨t,rfl⟩:=d1
 exact PySem.P.neg_int (k _ _ G1 (t1.trans (t1.base.toks _)) ⟨_,rfl⟩)
section
variable {I:Nat→Nat} {m:Nat}
theorem ir (K:Rk I m) {r:Nat} (hr:r=0∨r=6∨(1≤r∧r≤m)):bo (ai b') (xe I r)=some (.int (ne I r)):=by
 have h5:=K.gQ
 rcases hr with rfl | rfl | hr
 ·rfl
 ·rfl
 ·have hlt:=K.lt r hr.1 hr.2
  rw[gV K hr,ba (by show I r<26;omega)]
  unfold ne nr num
  rw[if_neg (by omega),if_neg (by omega)]
  simp only[ai,List.getElem?_map,yK]
  rw[yM (show I r<b'.length by show I r<26;omega)];rfl
theorem mf {l:List Int} {d:Nat}:(PV.lst (ai l)).gd (d+1)=true:=PV.gy fun p hp=>by
 obtain⟨i,_,rfl⟩:=List.mem_map.mp hp
 exact PV.ix
theorem lV {l:List (List Int)} {d:Nat}:(PV.lst (l.map fun t=>PV.tup (ai t))).gd (d+2)=true:=PV.gy fun p hp=>by
 obtain⟨t,_,rfl⟩:=List.mem_map.mp hp
 exact PV.gx fun p hp=>by
  obtain⟨i,_,rfl⟩:=List.mem_map.mp hp
  exact PV.ix
theorem three {t:List Nat} (h:t.length=3):t=[gA t,gB t,gC t]:=by
 match t,h with
 | [a,b,c],_=>rfl
end
noncomputable abbrev ρF (I:Nat→Nat) (R F S:List Nat) (up:Bool) (cs:List PV) (c6:Nat):az:=(v9,some (.lst (bV I (au F))))::(xJ,some (.lst (de I (bP R))))::ρE I R F S up cs c6
theorem xU {I:Nat→Nat} {m:Nat} (K:Rk I m) {R F S:List Nat} (hR:Rs m R) (h5:R.length=5) (hF:Rs m F) (hFl:F.length≤5) (f1:(jD R).1=bP R) (f2:(jD R).2=au F) {cs:List PV} {c6:Nat} {up:Bool} {P:a6} {RR:PV→aA→Prop}
  (k:af (CX w mg mb []) (n+20) (bR w.params) (ρF I R F S up cs c6) [] ((aZ w.params).drop 17) P RR):
  af (CX w mg mb []) (n+20) (bR w.params) (ρE I R F S up cs c6) [] ((aZ w.params).drop 15) P RR:=by
 have gp:=vQ (w:=w) (mg:=mg) (mb:=mb) (n:=n+14) K hR (by omega)
 rw[f1,f2] at gp
 refine af.cons (aF.fQ (p:= .tup [.lst (de I (bP R)), .lst (bV I (au F))]) (aa.bK (aa.bj rfl rfl) (by exact rfl) (aj.ag (aa.var rfl) .nil) gp) (fM.tuple (bB.cons (.inl rfl) (bB.cons (.inl rfl) (bB.nil ?_)))) (fun env he=>?sw))
 case sw=>
  obtain⟨⟩:=env
  dsimp only at he
  subst he
  with_unfolding_all rfl
 have hs5:(bP R).length=5:=by rw[eR,h5]
 have hsR:=hR.bP
 have lenN:(ai b').length<1000000:=by decide
 have hin:(ai ((bP R).map fun r=>(I r:Int)))=(bP R).map fun r=>PV.int (I r):=by simp[ai]
 have hok:=jq K hF
 have hol:(au F).length≤5:=by rw[hJ];exact hFl
 refine af.cons (aF.ite (b:=false) (bb.rH (AllP.yl (b:=false) (c:=false) (bb.cmp (aa.var (p:= .lst (de I (bP R))) rfl) (bH.frozen (l:=de I (bP R)) (bH.comp (l:=(bP R).map fun r=>PV.int (I r)) (dj.of ((aa.var rfl).cast (congrArg PV.lst hin)) fW.list) ?ov (by simp[ai,hs5]) (by exact aH.jw rfl rfl (by ext)) (by exact allB (by ext)))) (ay.tW (b:=true) (d:=3) mf mf (by simp)) aJ.bool)
  fun _=>bb.cmp (aa.var (p:= .lst (bV I (au F))) rfl) (bH.frozen (l:=bV I (au F)) (bH.comp (l:=(au F).map fun t=>PV.tup [.int (xe I (gA t)), .int (xe I (gB t)), .int (xe I (gC t))]) (dj.of ((aa.var (p:= .lst (eH I (au F))) rfl).cast (congrArg PV.lst ?own)) fW.list) ?ov2 (by simp;omega) (by exact aH.jw rfl rfl (by ext)) (by exact allB (by ext)))) (ay.tW (b:=true) (d:=4) ?gd ?gd (by simp)) aJ.bool)) (fun h=>nomatch h) fun _=>af.nil ?_)
 case ov=>
  rw[show de I (bP R)=(bP R).map fun r=>PV.int (nr I r) by unfold de ai;rw[List.map_map];rfl]
  refine aQ.gj (.inl rfl) rfl fun r hr=>aa.sub (aa.var (p:= .lst (ai b')) rfl) (aa.var rfl) (aL.list ?_ lenN)
  have hr:=hsR r hr
  have:=ir K (.inr (.inr hr))
  rw[gV K hr] at this
  rw[this]
  have:=K.gQ
  unfold ne
  rw[if_neg (by omega),if_neg (by omega)]
 case own=>
  refine List.map_congr_left fun t ht=>?_
  rw[three (hok t ht).2];rfl
 case ov2=>
  rw[show bV I (au F)=(au F).map fun t=>PV.tup [.int (ne I (gA t)), .int (ne I (gB t)), .int (ne I (gC t))] from List.map_congr_left fun t ht=>by rw[three (hok t ht).2];rfl]
  refine aQ.wb (f1:=fun t=> .int (xe I (gA t))) (f2:=fun t=> .int (xe I (gB t))) (f3:=fun t=> .int (xe I (gC t))) (.inl rfl) (.inl rfl) (.inl rfl) rfl rfl rfl fun t ht=>?_
  have hg:=(hok t ht).1
  have h3:=(hok t ht).2
  have gm:∀j,j<3→t.getD j 0=0∨t.getD j 0=6∨(1≤t.getD j 0∧t.getD j 0≤m):=fun j hj=>hg _ (getD_mem (by omega))
  exact aa.tuple (aj.ag (aa.sub (aa.var (p:= .lst (ai b')) rfl) (aa.var rfl) (aL.list (ir K (gm 0 (by decide))) lenN)) (aj.ag (aa.sub (aa.var (p:= .lst (ai b')) rfl) (aa.var rfl) (aL.list (ir K (gm 1 (by decide))) lenN)) (aj.ag (aa.sub (aa.var (p:= .lst (ai b')) rfl) (aa.var rfl) (aL.list (ir K (gm 2 (by decide))) lenN)) .nil)))
 case gd=>
  rw[show bV I (au F)=((au F).map fun t=>t.map (ne I)).map fun t=>PV.tup (ai t) by simp]
  exact lV
 exact cI.less k (by exact aG.self (by ext)) (by exact aC.self (by ext))
theorem bZ {hit:Nat→Bool}:∀{N i:Nat},aO hit N=some i→hit i=true∧1≤i∧i≤N∧∀j,i<j→j≤N→hit j=false
 | 0,_,e=>nomatch e
 | N+1,i,e=>by
  unfold aO at e
  by_cases h:hit (N+1)=true
  ·rw[if_pos h] at e
   cases e
   exact⟨h,by omega,Nat.le_refl _,fun j h1 h2=>absurd h1 (by omega)⟩
  ·rw[if_neg h] at e
   obtain⟨a,b,c,d⟩:=bZ e
   refine⟨a,b,by omega,fun j h1 h2=>?_⟩
   by_cases q:j=N+1
   ·subst q;simpa using h
   ·exact d j h1 (by lia)
theorem cH {hit:Nat→Bool}:∀{N:Nat},aO hit N=none→∀j,1≤j→j≤N→hit j=false
 | 0,_,j,h1,h2=>absurd h1 (by lia)
 | N+1,e,j,h1,h2=>by
  unfold aO at e
  by_cases h:hit (N+1)=true
  ·rw[if_pos h] at e;cases e
  ·rw[if_neg h] at e
   by_cases q:j=N+1
   ·subst q;simpa using h
   ·exact cH e j h1 (by lia)
theorem mW {x y:Int×Int}:ke x y=false↔(y.1<x.1∨(y.1=x.1∧y.2≤x.2)):=by
 unfold ke
 by_cases p:x.1=y.1
 ·rw[if_pos (by simpa using p),decide_eq_false_iff_not];omega
 ·rw[if_neg (by simpa using p),decide_eq_false_iff_not];omega
theorem qv {a b c:Int×Int} (h1:ke b a=false) (h2:ke c b=false):ke c a=false:=by
 rw[mW] at *;omega
theorem su (a:Int×Int):ke a a=false:=by rw[mW];lia
theorem u6 {a b:Int×Int} (h:ke a b=true):ke b a=false:=by
 have h:¬ke a b=false:=by rw[h];decide
 rw[mW] at *;omega
theorem mw:∀(l:List (Int×Int)) (b:Int×Int),(dB b l=b∨dB b l∈l)∧ke b (dB b l)=false∧∀y∈l,ke y (dB b l)=false
 | [],b=>⟨.inl rfl,su b,fun _ h=>nomatch h⟩
 | x::l,b=>by
  have e:dB b (x::l)=dB (if ke x b then x else b) l:=rfl
  obtain⟨h1,h2,h3⟩:=mw l (if ke x b then x else b)
  rw[e]
  by_cases p:ke x b=true
  ·rw[if_pos p] at h1 h2 h3 ⊢
   refine⟨.inr ?_,qv h2 (u6 p),fun y hy=>?_⟩
   ·rcases h1 with h | h
    ·rw[h];exact List.mem_cons_self
    ·exact yL _ h
   ·rcases List.mem_cons.mp hy with rfl | hy
    ·exact h2
    ·exact h3 y hy
  ·have p:ke x b=false:=by simpa using p
   rw[p] at h1 h2 h3 ⊢
   dsimp only[iF] at h1 h2 h3 ⊢
   refine⟨h1.imp id (yL _),h2,fun y hy=>?_⟩
   rcases List.mem_cons.mp hy with rfl | hy
   ·exact qv h2 p
   ·exact h3 y hy
noncomputable def jx (L:List Part) (i:Nat):List (List Nat):=[(L.getD (i+1) ([],[])).1.take 1,[(L.getD i ([],[])).2.getLastD 0]]
noncomputable def xn (W s:List Nat):Bool:=s != []&&decide (s.headD 0∈W)
noncomputable def dX (L:List Part) (W:List Nat):List (Int×Int):=(List.range 5).flatMap fun i=>((jx L i).filter (xn W)).map fun s=>((W.idxOf (s.headD 0):Int), -((i+1:Nat):Int))
noncomputable def xY (l:List (Int×Int)):Int:=match l with
 | []=>0
 | x::xs=> -(dB x xs).2
theorem take1 (b:List Nat):b.take 1=[]∨b.take 1=[b.headD 0]:=by
 cases b with
 | nil=>exact .inl rfl
 | cons x b=>exact .inr rfl
theorem jN {L:List Part} {i:Nat} {s:List Nat} (h:s∈jx L i) (hn:s≠[]):s=[s.headD 0]:=by
 simp only[jx,List.mem_cons,List.not_mem_nil,or_false] at h
 rcases h with rfl | rfl
 ·rcases take1 (L.getD (i+1) ([],[])).1 with e | e
  ·exact absurd e hn
  ·rw[e];rfl
 ·rfl
theorem lZ {L:List Part} (hw:∀j,j<6→∀c∈(L.getD j ([],[])).1,ij c=true) (hp:∀j,j<6→(L.getD j ([],[])).2≠[]) {i c:Nat} (hi:i<5):[c]∈jx L i↔dw L c (i+1)=true:=by
 have hp':=hp i (by omega)
 simp only[jx,List.mem_cons,List.not_mem_nil,or_false,dw,Nat.add_sub_cancel,Bool.or_eq_true,Bool.and_eq_true,iw,mY,beq_iff_eq,Bool.not_eq_true',List.isEmpty_eq_false_iff]
 constructor
 ·rintro (h | h)
  ·refine .inl ?_
   rcases take1 (L.getD (i+1) ([],[])).1 with e | e
   ·rw[e] at h;cases h
   ·rw[e] at h
    have hne:(L.getD (i+1) ([],[])).1≠[]:=fun z=>by rw[z] at e;cases e
    refine⟨?_,hne,h.symm⟩
    have hc:c=(L.getD (i+1) ([],[])).1.headD 0:=by simpa using h
    refine hw (i+1) (by omega) c ?_
    rw[hc]
    cases e2:(L.getD (i+1) ([],[])).1 with
    | nil=>exact absurd e2 hne
    | cons x b=>simp
  ·exact .inr ⟨hp',h.symm⟩
 ·rintro (⟨_,hne,h⟩ | ⟨_,h⟩)
  ·refine .inl ?_
   rcases take1 (L.getD (i+1) ([],[])).1 with e | e
   ·cases e2:(L.getD (i+1) ([],[])).1 with
    | nil=>exact absurd e2 hne
    | cons x b=>rw[e2] at e;cases e
   ·rw[e];exact h.symm
  ·exact .inr h.symm
theorem rf {L:List Part} (hw:∀j,j<6→∀c∈(L.getD j ([],[])).1,ij c=true) (hp:∀j,j<6→(L.getD j ([],[])).2≠[]) {W:List Nat} {p:Int×Int}:p∈dX L W↔∃i c,i<5∧c∈W∧dw L c (i+1)=true∧p=((W.idxOf c:Int), -((i+1:Nat):Int)):=by
 simp only[dX,List.mem_flatMap,List.mem_range,List.mem_map,List.mem_filter,xn,Bool.and_eq_true,bne_iff_ne,decide_eq_true_eq]
 constructor
 ·(intro zz;obtain⟨i,hi,s,⟨hs,hn,hm⟩,rfl⟩:=zz)
  have e:=jN hs (by simpa using hn)
  refine⟨i,s.headD 0,hi,hm,?_,rfl⟩
  rw[e] at hs
  exact(lZ hw hp hi).mp hs
 ·(intro zz;obtain⟨i,c,hi,hc,hh,rfl⟩:=zz)
  exact⟨i,hi,[c],⟨(lZ hw hp hi).mpr hh,by simp,hc⟩,rfl⟩
theorem nB {L:List Part} (hL:L.length=6) (hw:∀j,j<6→∀c∈(L.getD j ([],[])).1,ij c=true) (hp:∀j,j<6→(L.getD j ([],[])).2≠[]) (W:List Nat):xY (dX L W)=((a7 L W).getD 0:Nat):=by
 have mem:= @rf L hw hp W
 have hN:L.length - 1=5:=by omega
 cases e:dX L W with
 | nil=>
  have:a7 L W=none:=by
   unfold a7
   rw[hN,List.findSome?_eq_none_iff]
   intro c hc
   cases q:aO (dw L c) 5 with
   | none=>rfl
   | some i=>
    obtain⟨h1,h2,h3,_⟩:=bZ q
    have:=mem.mpr ⟨i - 1,c,by omega,hc,by rw[show i - 1+1=i by omega];exact h1,rfl⟩
    rw[e] at this;cases this
  rw[this];rfl
 | cons x xs=>
  rw[e] at mem
  obtain⟨b1,b2,b3⟩:=mw xs x
  have bm:dB x xs∈x::xs:=by
   rcases b1 with h | h
   ·rw[h];exact List.mem_cons_self
   ·exact yL _ h
  obtain⟨i,c,hi,hc,hh,hb⟩:=mem.mp bm
  have hne:a7 L W≠none:=fun z=>by
   unfold a7 at z
   rw[hN,List.findSome?_eq_none_iff] at z
   have:=cH (z c hc) (i+1) (by omega) (by omega)
   rw[hh] at this;cases this
  obtain⟨i',hs⟩:=Option.ne_none_iff_exists'.mp hne
  have hs':=hs
  unfold a7 at hs'
  rw[hN,List.findSome?_eq_some_iff] at hs'
  obtain⟨l1,c',l2,hW,hf,hno⟩:=hs'
  obtain⟨g1,g2,g3,g4⟩:=bZ hf
  have nin:∀d,(∃j,1≤j∧j≤5∧dw L d j=true)→d∉l1:=fun d ⟨j,j1,j2,j3⟩ hd=>by
   have:=cH (hno d hd) j j1 j2
   rw[j3] at this;cases this
  have c'1:c'∉l1:=nin c' ⟨i',g2,g3,g1⟩
  have c1:c∉l1:=nin c ⟨i+1,by omega,by omega,hh⟩
  have id':W.idxOf c'=l1.length:=by rw[hW,List.idxOf_append,if_neg c'1];simp
  have idc:l1.length≤W.idxOf c∧(W.idxOf c=l1.length→c=c'):=by
   rw[hW,List.idxOf_append,if_neg c1,List.idxOf_cons]
   constructor
   ·omega
   ·intro z
    by_cases q:c'==c
    ·simpa using (beq_iff_eq.mp q).symm
    ·simp only[q,cond_false] at z;lia
  have hy:ke ((W.idxOf c':Int), -((i':Nat):Int)) (dB x xs)=false:=by
   have hm:((W.idxOf c':Int), -((i':Nat):Int))∈x::xs:=mem.mpr ⟨i' - 1,c',by omega,by rw[hW];simp,by rw[show i' - 1+1=i' by omega];exact g1,by rw[show i' - 1+1=i' by omega]⟩
   rcases List.mem_cons.mp hm with e | h
   ·rw[e];exact b2
   ·exact b3 _ h
  rw[hb,id'] at hy
  unfold ke at hy
  have e1:W.idxOf c=l1.length:=by
   by_cases q:l1.length=W.idxOf c
   ·exact q.symm
   ·have q':¬((l1.length:Nat):Int)=(W.idxOf c:Nat):=by lia
    simp[q'] at hy;lia
  have ec:=idc.2 e1
  subst ec
  rw[e1] at hy
  simp at hy
  have:i+1≤i':=by
   by_cases q:i+1≤i'
   ·exact q
   ·have:=g4 (i+1) (by omega) (by omega)
    rw[hh] at this;cases this
  show -(dB x xs).2=_
  rw[hs,hb]
  simp only[Option.getD_some]
  lia
theorem iW {l:List Part} (h:∀p∈l,∀c∈p.1++p.2,c<128):∀c∈aD l,c<128:=fun c hc=>by
 unfold aD at hc
 rw[List.mem_flatten] at hc
 obtain⟨t,ht,hc⟩:=hc
 obtain⟨p,hp,rfl⟩:=List.mem_map.mp ht
 exact h p hp c hc
theorem o6 {l:List Part} (h:∀p∈l,∀c∈p.1++p.2,c<128) {d:Nat}:(PV.lst (ak l)).gd (d+3)=true:=PV.gy fun p hp=>by
 obtain⟨q,hq,rfl⟩:=List.mem_map.mp hp
 exact oE (h q hq)
theorem mr {l:List Part} (h:∀p∈l,∀c∈p.1++p.2,c<128) (cut:Nat):(dg (fu l cut)).gd 6=true:=by
 have ht:∀p∈l.take cut,∀c∈p.1++p.2,c<128:=fun p hp=>h p (List.mem_of_mem_take hp)
 have hd:∀p∈l.drop cut,∀c∈p.1++p.2,c<128:=fun p hp=>h p (List.mem_of_mem_drop hp)
 refine PV.gx fun p hp=>?_
 simp only[List.mem_cons,List.not_mem_nil,or_false] at hp
 rcases hp with rfl | rfl
 ·refine PV.eo fun c hc=>?_
  unfold fu at hc
  rcases List.mem_append.mp hc with hc | hc
  ·split at hc
   ·rcases List.mem_append.mp hc with hc | hc
    ·exact iW ht c hc
    ·simp at hc;omega
   ·cases hc
  ·exact iW hd c hc
 ·refine PV.gx fun p hp=>?_
  simp only[List.mem_cons,List.not_mem_nil,or_false] at hp
  rcases hp with rfl | rfl
  ·exact o6 hd
  ·exact PV.ix
theorem ny {l:List Part} (h:∀p∈l,∀c∈p.1++p.2,c<128):∀p∈gP l,∀c∈p.1++p.2,c<128:=fun p hp=>by
 unfold gP at hp
 rcases List.mem_append.mp hp with hp | hp
 ·exact h p (List.dropLast_subset l hp)
 ·rw[List.mem_singleton.mp hp]
  intro c hc
  have hq:∀c∈(l.getLastD ([],[])).1++(l.getLastD ([],[])).2,c<128:=by
   by_cases e:l=[]
   ·subst e;intro c hc;cases hc
   ·rw[List.getLastD_eq_getLast?,List.getLast?_eq_some_getLast e];exact h _ (List.getLast_mem e)
  rcases List.mem_append.mp hc with hc | hc
  ·unfold eG at hc
   split at hc
   ·simp at hc;omega
   ·exact hq c (List.mem_append_left _ hc)
  ·exact hq c (List.mem_append_right _ hc)
theorem oI {l:List Part} (h:∀p∈l,∀c∈p.1++p.2,c<128) (cut head:Nat):(dg (fY l cut head)).gd 6=true:=by
 unfold fY
 split
 ·exact mr (ny h) _
 ·exact mr h _
noncomputable def wA (j:Nat):Nat:=if j=0 then 32 else 9
noncomputable def wB (j:Nat):Nat:=if j=0 then 9 else 32
noncomputable def jB (D:List Nat) (a b:Nat):List (List Nat):=[[],[36,63],[a],[a,b],63::a::D,D.getD 4 0::a::D]
section
variable {I:Nat→Nat} {m:Nat}
theorem uu (j:Nat):(tV j).length≤2∧∀c∈tV j,c=32∨c=9:=by
 have:∀j<4,(tV j).length≤2∧∀c∈tV j,c=32∨c=9:=by decide
 by_cases h:j<4
 ·exact this j h
 ·have e:tV j=[]:=by
   unfold tV
   rw[yK,List.getElem?_eq_none (by show 4≤j;omega)];rfl
  rw[e];exact⟨by decide,fun _ h=>nomatch h⟩
theorem uv (j:Nat):(pX j).length≤2∧∀c∈pX j,c=32∨c=9:=by
 have:∀j<4,(pX j).length≤2∧∀c∈pX j,c=32∨c=9:=by decide
 by_cases h:j<4
 ·exact this j h
 ·have e:pX j=[]:=by
   unfold pX
   rw[yK,List.getElem?_eq_none (by show 4≤j;omega)];rfl
  rw[e];exact⟨by decide,fun _ h=>nomatch h⟩
structure jK (p:Part):Prop where
 ne:p.2≠[]
 ascii:∀c∈p.1++p.2,c<128
 len:(p.1++p.2).length≤4
 ws:∀c∈p.1,ij c=true
theorem oy {c:Nat} (h:c=32∨c=9):ij c=true:=by
 rcases h with rfl | rfl
 ·decide +kernel
 ·decide +kernel
theorem uP (K:Rk I m) {R:List Nat} (hR:Rs m R) (h5:R.length=5) {B k:Nat} (hk:k<5):jK (eD I R B k):=by
 have hs5:(bP R).length=5:=by rw[eR,h5]
 have hsm:∀j,j<5→ch I ((bP R).getD j 0)<128:=fun j hj=>by
  have:=hR.bP _ (getD_mem (l:=bP R) (k:=j) (by omega))
  exact cF _ (K.lt _ this.1 this.2)
 obtain⟨w1,w2⟩:=uu (B / 4 ^ k % 4)
 refine⟨by simp[eD],fun c hc=>?_,by simp[eD];omega,fun c hc=>oy (w2 c hc)⟩
 rcases List.mem_append.mp hc with hc | hc
 ·rcases w2 c hc with rfl | rfl<;>decide
 ·simp only[eD,List.mem_cons,List.not_mem_nil,or_false] at hc
  rcases hc with rfl | rfl
  ·exact hsm _ (Nat.mod_lt _ (by decide))
  ·exact hsm _ hk
theorem ve (E:Nat):jK (pX E,[36]):=by
 obtain⟨w1,w2⟩:=uv E
 refine⟨by simp,fun c hc=>?_,by simp;omega,fun c hc=>oy (w2 c hc)⟩
 rcases List.mem_append.mp hc with hc | hc
 ·rcases w2 c hc with rfl | rfl<;>decide
 ·simp at hc;omega
theorem qw (K:Rk I m) {R:List Nat} (hR:Rs m R) (h5:R.length=5) {B E:Nat}:∀p∈cW I R B E,jK p:=fun p hp=>by
 rcases List.mem_append.mp hp with hp | hp
 ·obtain⟨k,hk,rfl⟩:=List.mem_map.mp hp
  exact uP K hR h5 (List.mem_range.mp hk)
 ·rw[List.mem_singleton.mp hp];exact ve E
theorem lW {l:List Part} (h:∀p∈l,jK p):(aD l).length≤4*l.length:=by
 induction l with
 | nil=>simp[aD]
 | cons p l ih=>
  have:=ih fun q hq=>h q (yL _ hq)
  have hp:=(h p List.mem_cons_self).len
  have e:aD (p::l)=(p.1++p.2)++aD l:=by simp[aD]
  rw[e,List.length_append,List.length_cons];lia
theorem l8 {R:List Nat} {B E:Nat}:(cW I R B E).length=6:=by simp[cW,fq]
end
noncomputable abbrev ρG (I:Nat→Nat) (R F S:List Nat) (up:Bool) (cs:List PV) (c6:Nat) (W:List Nat):az:=(tG,some (.txt W))::ρF I R F S up cs c6
theorem wu {I:Nat→Nat} {m:Nat} (K:Rk I m) {R F S:List Nat} (hR:Rs m R) (h5:R.length=5) {c0 c1 c2 c3 c4 c5 c6:Nat} {up:Bool} {P:a6} {RR:PV→aA→Prop}
  (k:∀W,(∀c∈W,c<128)→W.length≤10→af (CX w mg mb []) (n+20) (bR w.params) (ρG I R F S up (ai [(c0:Int),c1,c2,c3,c4,c5,c6]) c6 W) [] ((aZ w.params).drop 19) P RR):
  af (CX w mg mb []) (n+20) (bR w.params) (ρF I R F S up (ai [(c0:Int),c1,c2,c3,c4,c5,c6]) c6) [] ((aZ w.params).drop 17) P RR:=by
 have g6:bo (ai [(c0:Int),c1,c2,c3,c4,c5,c6]) 6=some (.int c6):=rfl
 have gl:(ai [(c0:Int),c1,c2,c3,c4,c5,c6]).length<1000000:=by rw[ax];exact Nat.lt_of_sub_eq_succ rfl
 have hzR:(zs I R).length=5:=by simp[h5]
 obtain⟨j,hj⟩:∃j,j=c6 / 48 % 2:=⟨_,rfl⟩
 obtain⟨i,hi⟩:∃i,i=c6 / 8 % 6:=⟨_,rfl⟩
 have hj2:j<2:=by omega
 have hi6:i<6:=by omega
 have ew:bo [PV.tup [.txt [32], .txt [9]], .tup [.txt [9], .txt [32]]] (j:Int)=some (.tup [.txt [wA j], .txt [wB j]]):=by
  match j,hj2 with
  | 0,_=>rfl
  | 1,_=>rfl
 refine af.cons (aF.fQ (p:= .tup [.txt [wA j], .txt [wB j]]) (aa.sub (aa.tuple (aj.ag (aa.tuple (aj.ag aa.cStr (aj.ag aa.cStr .nil))) (aj.ag (aa.tuple (aj.ag aa.cStr (aj.ag aa.cStr .nil))) .nil))) ((aa.bin (aa.bin (aa.sub (aa.var rfl) aa.cInt (aL.list g6 gl)) aa.cInt (aK.floordiv (by decide) (by decide))) aa.cInt (aK.mod (by decide))).cast (q:= .int (j:Int)) (congrArg PV.int ?ej)) (aL.tup ew (by simp))) (fM.tuple (bB.cons (.inl rfl) (bB.cons (.inl rfl) (bB.nil ?_)))) (fun env he=>?sw))
 case sw=>
  obtain⟨⟩:=env
  dsimp only at he
  subst he
  with_unfolding_all rfl
 case ej=>
  rw[Int.fmod_eq_emod_of_nonneg _ (by decide),Int.fdiv_eq_ediv_of_nonneg _ (by decide)];lia
 have hwl:(jB (zs I R) (wA j) (wB j)).length=6:=rfl
 refine af.cons (aF.assign (p:= .txt ((jB (zs I R) (wA j) (wB j)).getD i [])) (aa.sub (aa.tuple (ps:=(jB (zs I R) (wA j) (wB j)).map fun x=>PV.txt x) (aj.ag aa.cStr (aj.ag aa.cStr (aj.ag (aa.var rfl) (aj.ag ?w3 (aj.ag ?w4 (aj.ag ?w5 .nil))))))) ((aa.bin (aa.bin (aa.sub (aa.var rfl) aa.cInt (aL.list g6 gl)) aa.cInt (aK.floordiv (by decide) (by decide))) aa.cInt (aK.mod (by decide))).cast (q:= .int (i:Int)) (congrArg PV.int ?ei)) (aL.tup (kT (by rw[hwl];exact hi6)) (by rw[List.length_map,hwl];decide))) (.inr rfl) ?_)
 case ei=>
  rw[Int.fmod_eq_emod_of_nonneg _ (by decide),Int.fdiv_eq_ediv_of_nonneg _ (by decide)];lia
 case w3=>exact aa.bin (aa.var (p:= .txt [wA j]) rfl) (aa.var (p:= .txt [wB j]) rfl) (aK.eN (by simp))
 case w4=>exact aa.bin (aa.bin aa.cStr (aa.var (p:= .txt [wA j]) rfl) (aK.eN (a:=[63]) (by simp))) (aa.var (p:= .txt (zs I R)) rfl) (aK.eN (by rw[hzR];simp))
 case w5=>
  have e4:bo (zs I R) 4=some ((zs I R).getD 4 0):=by
   have:=ku (I:=I) (l:=R) (k:=4) (by omega)
   rw[show((4:Nat):Int)=4 from rfl] at this
   rw[this];simp[yK,h5]
  exact aa.bin (aa.bin (aa.sub (aa.var (p:= .txt (zs I R)) rfl) aa.cInt (aL.str e4 (by omega))) (aa.var (p:= .txt [wA j]) rfl) (aK.eN (by simp))) (aa.var (p:= .txt (zs I R)) rfl) (aK.eN (by rw[hzR];simp))
 have hz:=fw K hR
 have hwa:wA j<128∧wB j<128:=by unfold wA wB;split<;>decide
 have h4:(zs I R).getD 4 0<128:=hz _ (getD_mem (by omega))
 have all:∀x∈jB (zs I R) (wA j) (wB j),(∀c∈x,c<128)∧x.length≤10:=by
  intro x hx
  simp only[jB,List.mem_cons,List.not_mem_nil,or_false] at hx
  rcases hx with rfl | rfl | rfl | rfl | rfl | rfl
  ·simp
  ·simp
  ·simp;omega
  ·simp;omega
  ·refine⟨fun c hc=>?_,by simp[h5]⟩
   simp only[List.mem_cons] at hc
   rcases hc with rfl | rfl | hc
   ·decide
   ·exact hwa.1
   ·exact hz c hc
  ·refine⟨fun c hc=>?_,by simp[h5]⟩
   simp only[List.mem_cons] at hc
   rcases hc with rfl | rfl | hc
   ·exact h4
   ·exact hwa.1
   ·exact hz c hc
 have hm:(jB (zs I R) (wA j) (wB j)).getD i []∈jB (zs I R) (wA j) (wB j):=by
  rw[yK,yM (by rw[hwl];exact hi6)];exact List.getElem_mem _
 exact cI.less (k _ (all _ hm).1 (all _ hm).2) (by exact aG.self (by ext)) (by exact aC.self (by ext))
theorem wt {I:Nat→Nat} {m:Nat} (K:Rk I m) {R F S:List Nat} (hR:Rs m R) (h5:R.length=5) {cs:List PV} {c6:Nat} {W:List Nat} (hW:∀c∈W,c<128) (hWl:W.length≤10) {up:Bool} {P:a6} {RR:PV→aA→Prop}
  (k:af (CX w mg mb []) (n+20) (bR w.params) (ρF I R F S up cs c6) [] ((aZ w.params).drop 21) P RR):
  af (CX w mg mb []) (n+20) (bR w.params) (ρG I R F S up cs c6 W) [] ((aZ w.params).drop 19) P RR:=by
 have hL:(cW I R (c6 / 384) (c6 / 96 % 4)).length=6:=l8
 have hok:=qw K hR h5 (B:=c6 / 384) (E:=c6 / 96 % 4)
 have hlast:((cW I R (c6 / 384) (c6 / 96 % 4)).getLastD ([],[])).2=[36]:=by simp[cW,List.getLastD_eq_getLast?]
 have hle:=lW hok
 obtain⟨L,hLe⟩:∃L,L=cW I R (c6 / 384) (c6 / 96 % 4):=⟨_,rfl⟩
 have kk:af (CX w mg mb []) (n+20) (bR w.params) ((kj,some (.lst (ak L)))::ρF I R F S up cs c6) [] ((aZ w.params).drop 21) P RR:=cI.less k (by rw[hLe];exact aG.trans (aG.refl _) (fun x p e=>by
  by_cases hx:x=kj
  ·subst hx;rw[aM];exact e
  ·rw[aN hx];exact e)) (by exact aC.self (by ext))
 rw[←hLe] at hL hok hlast hle
 rw[hL] at hle
 have hget:∀j,j<6→L.getD j ([],[])∈L:=fun j hj=>by
  rw[yK,yM (by omega)];exact List.getElem_mem _
 have hw:∀j,j<6→∀c∈(L.getD j ([],[])).1,ij c=true:=fun j hj=>(hok _ (hget j hj)).ws
 have hp:∀j,j<6→(L.getD j ([],[])).2≠[]:=fun j hj=>(hok _ (hget j hj)).ne
 have hplen:∀j,j<6→(L.getD j ([],[])).1.length≤4∧(L.getD j ([],[])).2.length≤4:=fun j hj=>by
  have:=(hok _ (hget j hj)).len
  rw[List.length_append] at this;lia
 have hpl:(ak L).length=6:=by simp[hL]
 have hpart:∀j:Nat,j<6→bo (ak L) (j:Int)=some (cK (L.getD j ([],[]))):=fun j hj=>by
  rw[ba (by omega)]
  simp[yK,yM (show j<L.length by omega)]
 have hone:∀i,i<5→∀s∈jx L i,s.length≤1:=fun i hi s hs=>by
  simp only[jx,List.mem_cons,List.not_mem_nil,or_false] at hs
  rcases hs with rfl | rfl
  ·rw[List.length_take];omega
  ·simp
 have hcl:(dX L W).length≤10:=by
  unfold dX
  refine yN (fH (B:=2) fun i _=>?_) (by simp)
  rw[List.length_map]
  exact yN (List.length_filter_le ..) (by simp[jx])
 have hcs:=nB hL hw hp W
 refine cI.less (ρ':=(kj,some (.lst (ak L)))::(tG,some (.txt W))::ρF I R F S up cs c6) (ω':=[]) ?_ ?l1 (by exact aC.self (by ext))
 case l1=>
  intro x p e
  by_cases hx:x=kj
  ·subst hx;rw[aM] at e;rw[←e,hLe];rfl
  ·rw[aN hx] at e;exact e
 refine af.cons (aF.tB (l:=(List.range 5).map fun(i:Nat)=>PV.int ((i+1:Nat):Int)) (out:=(dX L W).map cS) ?it ?ov (by simp;omega) (by exact aH.jw rfl rfl (by ext)) (by exact allB (by ext)) rfl (fun a=>?_) (fun env he=>?sw))
 case it=>
  have e:bp 1 1 5=(List.range 5).map fun(i:Nat)=>PV.int ((i+1:Nat):Int):=rfl
  rw[←e]
  exact dj.uM (k:=5) (aa.blt rfl rfl rfl) (aj.ag aa.cInt (aj.ag aa.cInt .nil)) rfl (by decide) (by decide)
 case ov=>
  rw[show(dX L W).map cS=(List.range 5).flatMap fun i=>(((jx L i).filter (xn W)).map fun s=>((W.idxOf (s.headD 0):Int), -((i+1:Nat):Int))).map cS by unfold dX;rw[List.map_flatMap]]
  refine aQ.name (.inl rfl) rfl fun i hi=>⟨(jx L i).map fun s=>PV.txt s,rfl,?itE,fun _ _=>rfl,?_⟩
  case itE=>
   have hi:=List.mem_range.mp hi
   have hn:=hp i (by omega)
   have l1:=hplen i (by omega)
   have l2:=hplen (i+1) (by omega)
   refine dj.of (aa.tuple (ps:=(jx L i).map fun s=>PV.txt s) (aj.ag ?s1 (aj.ag ?s2 .nil))) fW.tup
   case s1=>
    exact(aa.cD (l:=(L.getD (i+1) ([],[])).1) (lo:=none) (hi:=some ((1:Nat):Int)) (aa.sub (aa.sub (aa.var (p:= .lst (ak L)) rfl) (aa.var rfl) (aL.list (hpart (i+1) (by omega)) (by omega))) aa.cInt (aL.tup rfl (by simp))) aP.none (aP.some aa.cInt) (by omega)).cast (by rw[br])
   case s2=>
    refine aa.sub (aa.sub (aa.sub (aa.var (p:= .lst (ak L)) rfl) ((aa.bin (aa.var (p:= .int ((i+1:Nat):Int)) rfl) aa.cInt aK.sub).cast (q:= .int (i:Int)) (congrArg PV.int (by lia))) (aL.list (hpart i (by omega)) (by omega))) aa.cInt (aL.tup rfl (by simp))) aa.kO (aL.str (l:=(L.getD i ([],[])).2) (eV hn) (by lia))
  have hi:=List.mem_range.mp hi
  rw[List.map_map]
  refine aQ.cM (f:=fun s=>PV.txt s) (.inl rfl) rfl (fun s hs=>?_) fun s hs hb=>?_
  ·refine bb.rH (AllP.oS (bb.cmp (aa.var (p:= .txt s) rfl) aa.cStr (ay.yz (m:=[])) aJ.bool) fun hn=>(bb.cmp (aa.var (p:= .txt s) rfl) (aa.var (p:= .txt W) rfl) ay.yB aJ.bool).cast ?_)
   have e:=jN hs (by simpa using hn)
   have:Txt.contains (tx W) (tx s)=decide (s.headD 0∈W):=by
    conv=>lhs;rw[e]
    exact ie W _
   exact this
  ·unfold xn at hb
   simp only[Bool.and_eq_true,decide_eq_true_eq] at hb
   have e:=jN hs (by simpa using hb.1)
   have es:PV.txt s=PV.txt [s.headD 0]:=congrArg (fun z=>PV.txt z) e
   exact aa.tuple (aj.ag (aa.index (l:=W) (c:=s.headD 0) (aa.var rfl) ((aa.var (p:= .txt s) rfl).cast es) hb.2) (aj.ag (aa.rM (aa.var (p:= .int ((i+1:Nat):Int)) rfl)) .nil))
 case sw=>
  obtain⟨⟩:=env
  dsimp only at he
  subst he
  with_unfolding_all rfl
 refine cI.freeze (x:=wa) rfl ?_
 have td:=told (w:=w) (mg:=mg) (mb:=mb) (n:=n+4) (l:=L) (wish:=W) (head:=c6 % 4) (by omega) (by omega) hW (fun p hp=>⟨(hok p hp).ne,(hok p hp).ascii⟩) hlast (by omega)
 have du:=yq (w:=w) (mg:=mg) (mb:=mb) (ex:=[]) (n:=n+17) (l:=L) (cut:=(a7 L W).getD 0) (head:=c6 % 4) (by rintro rfl;simp at hL) (by omega) (by omega)
 have gd:=oI (l:=L) (fun p hp=>(hok p hp).ascii) ((a7 L W).getD 0) (c6 % 4)
 refine af.cons (aF.ite (b:=false) (bb.cmp (aa.bK (aa.bj rfl rfl) (by exact rfl) (aj.ag (aa.var rfl) (aj.ag (aa.var rfl) (aj.ag (aa.var rfl) .nil))) td) (aa.bK (aa.bj rfl rfl) (by exact rfl) (aj.ag (aa.var rfl) (aj.ag ?cut (aj.ag (aa.var rfl) .nil))) du) (ay.tW (b:=true) (d:=6) gd gd (by simp)) aJ.bool) (fun h=>nomatch h) fun _=>af.nil ?_)
 case cut=>
  rw[←hcs]
  refine aa.tE (b:=!decide (dX L W=[])) (bb.cmp (aa.var (p:= .lst ((dX L W).map cS)) rfl) (aa.list .nil) (ay.tW (b:=decide (dX L W=[])) (d:=3) ?gd1 ?gd2 (by simp)) aJ.bool) (fun hb=>?_) fun hb=>?_
  case gd1=>
   exact PV.gy fun p hp=>by
    obtain⟨q,_,rfl⟩:=List.mem_map.mp hp
    exact PV.gx fun p hp=>by
     simp only[List.mem_cons,List.not_mem_nil,or_false] at hp
     rcases hp with rfl | rfl<;>exact PV.ix
  case gd2=>rfl
  ·cases e:dX L W with
   | nil=>rw[e] at hb;simp at hb
   | cons x xs=>
    exact aa.rM (aa.sub (aa.xR (x:=x) (xs:=xs) (aa.blt rfl rfl rfl) (aa.var rfl)) aa.cInt (aL.tup rfl (by simp)))
  ·have e:dX L W=[]:=by simpa using hb
   rw[e];exact aa.cInt
 exact cI.less kk (by rw[hLe];exact aG.self (by ext)) (by exact aC.self (by ext))
theorem aU.tP {X:Cx} {sc:Scope} {α β:Type} {P:a6} {R:PV→aA→Prop} {f:α→PV} {S:β→az} {W:β→aA} (step:β→α→β) (inv:List α→β→Prop) {tgt:PySem.Expr} {body orelse:List Stmt}:∀{l:List α} {b:β},inv l b→
  (∀b a r,inv (a::r) b→fM X n true sc tgt (f a) (S b) (W b) (fun ρ1 ω1=>af X n sc ρ1 ω1 body (fun fl ρ' ω'=>(fl= .next∨fl= .cont)∧inv r (step b a)∧aG (S (step b a)) ρ'∧aC (W (step b a)) ω') R))→
  (inv [] (l.foldl step b)→af X n sc (S (l.foldl step b)) (W (l.foldl step b)) orelse P R)→aU X n sc tgt body orelse P R (l.map f) (S b) (W b)
 | [],b,hi,_,k=>k hi
 | a::l,b,hi,h,k=>by
  intro A env s G D v Q E rm wr r d q
  refine h b a l hi A env s G D v Q E rm wr r d fun ρ1 ω1 s' G' hk r'=>q ρ1 ω1 s' G' (hk.mono (fun fl ρ' ω' z=>?_) fun _ _ e=>e) r'
  obtain⟨z1,z2,z3,z4⟩:=z
  have:aU X n sc tgt body orelse P R (l.map f) (S (step b a)) (W (step b a)):=aU.tP step inv z2 h k
  rcases z1 with rfl | rfl<;>exact this.less z3 z4
theorem lY {α:Type} {l:List α} {lo hi:Nat} (h1:lo≤hi) (h2:hi≤l.length):fV l (some (lo:Int)) (some (hi:Int))=(l.take hi).drop lo:=by
 unfold fV bk
 simp only[if_neg (show ¬((lo:Int)<0) by lia),if_neg (show ¬((hi:Int)<0) by lia)]
 rw[show(max 0 (min (lo:Int) l.length)).toNat=lo by omega,show(max 0 (min (hi:Int) l.length)).toNat=hi by omega,List.drop_take]
theorem rW:∀i<24,ij (sg i)=false:=by decide +kernel
section
variable {I:Nat→Nat} {m:Nat}
theorem fL {α β:Type} {f g:α→Option β}:∀{l:List α},(∀a∈l,f a=g a)→l.findSome? f=l.findSome? g
 | [],_=>rfl
 | a::l,h=>by
  rw[List.findSome?_cons,List.findSome?_cons,h a List.mem_cons_self,fL fun b hb=>h b (yL _ hb)]
theorem fj {f g:Nat→Bool}:∀{N:Nat},(∀i,1≤i→i≤N→f i=g i)→aO f N=aO g N
 | 0,_=>rfl
 | N+1,h=>by
  unfold aO
  rw[h (N+1) (by omega) (Nat.le_refl _),fj fun i h1 h2=>h i h1 (by omega)]
theorem hY (K:Rk I m) {part:List Part} {Ls S:List Nat} (hl:part.length=Ls.length+1) (hLs:Rs m Ls) (hS:Rs m S) (hp:∀j,j<Ls.length→∃x y,part.getD j ([],[])=(x,[y,ch I (Ls.getD j 0)])):a7 part (zs I S)=bT Ls S:=by
 unfold a7 bT zs
 rw[List.findSome?_map,hl,Nat.add_sub_cancel]
 refine fL fun r hr=>?_
 have hr:=hS r hr
 refine fj fun i h1 h2=>?_
 obtain⟨x,y,e⟩:=hp (i - 1) (by omega)
 unfold dw
 rw[e,show ij (ch I r)=false from rW _ (K.lt r hr.1 hr.2),Bool.false_and,Bool.false_or]
 show(true&&([ch I (Ls.getD (i - 1) 0)]==[ch I r]))=_
 rw[Bool.true_and,Bool.eq_iff_iff,beq_iff_eq,beq_iff_eq]
 have hL:=hLs _ (getD_mem (l:=Ls) (k:=i - 1) (by omega))
 constructor
 ·intro z;exact K.jH hL hr (by simpa using z)
 ·intro z;rw[z]
theorem vq (K:Rk I m) {R:List Nat} (hR:Rs m R) {a:Nat} (ha:a=0∨a=6∨(1≤a∧a≤m)):((bP R).map (nr I)).countP (·≤ne I a)=R.countP (·≤a):=by
 rw[List.countP_map,(cf R).countP_eq]
 refine List.countP_congr fun r hr=>?_
 have hr:=hR r hr
 have h5:=K.gQ
 have e:nr I r=ne I r:=by unfold ne;rw[if_neg (by omega),if_neg (by omega)]
 have:=lQ K ha (.inr (.inr hr))
 simp only[Function.comp,decide_eq_true_eq]
 rw[e];omega
theorem vp (K:Rk I m) {R:List Nat} (hR:Rs m R) {a:Nat} (ha:a=0∨a=6∨(1≤a∧a≤m)):((bP R).map (nr I)).countP (· <ne I a)=R.countP (· <a):=by
 rw[List.countP_map,(cf R).countP_eq]
 refine List.countP_congr fun r hr=>?_
 have hr:=hR r hr
 have h5:=K.gQ
 have e:nr I r=ne I r:=by unfold ne;rw[if_neg (by omega),if_neg (by omega)]
 have:=lQ K (.inr (.inr hr)) ha
 simp only[Function.comp,decide_eq_true_eq]
 rw[e];omega
theorem qP {l:List Part} {i j h:Nat} (hi:1≤i∧i<l.length) (hj:1≤j∧j<l.length) (e:dg (fY l i h)=dg (fY l j h)):i=j:=by
 have hd:∀i,1≤i→fY l i h=fu l i:=fun i hi=>by unfold fY;rw[if_neg (by simp;lia)]
 rw[hd i hi.1,hd j hj.1] at e
 simp only[dg,PV.tup.injEq,List.cons.injEq,PV.lst.injEq,PV.int.injEq,and_true] at e
 have:=congrArg List.length e.2.1
 simp[fu] at this
 omega
end
noncomputable abbrev ρH (I:Nat→Nat) (R F S:List Nat) (up:Bool) (cs:List PV) (c6:Nat) (al:Bool) (z:Int):az:=(uw,some (.int z))::(uz,some (.bool al))::ρF I R F S up cs c6
noncomputable def nH (R S:List Nat) (own:List (List Nat)) (b:Bool×Nat) (t:List Nat):Bool×Nat:=(bT (b9 R (gA t) (gC t)) S==some (ik R (gA t) (gB t))&&b.1,b.2*(own.filter fun g=>decide (gA t<gB g)&&decide (gB g<gC t)).length)
theorem tO (R S:List Nat) (own:List (List Nat)):∀(l:List (List Nat)) (b:Bool×Nat),l.foldl (nH R S own) b=((l.all fun t=>bT (b9 R (gA t) (gC t)) S==some (ik R (gA t) (gB t)))&&b.1,l.foldl (fun z t=>z*(own.filter fun g=>decide (gA t<gB g)&&decide (gB g<gC t)).length) b.2)
 | [],b=>by simp
 | t::l,b=>by
  rw[List.foldl_cons,tO R S own l,List.foldl_cons,List.all_cons]
  unfold nH
  simp only[Prod.mk.injEq,and_true]
  rw[←Bool.and_assoc]
  congr 1
  exact Bool.and_comm ..
theorem xT {I:Nat→Nat} {m:Nat} (K:Rk I m) {R F S:List Nat} (hR:Rs m R) (h5:R.length=5) (hF:Rs m F) (hFl:F.length≤5) (hS:Rs m S)
  (f3:∀t∈au F,bT (b9 R (gA t) (gC t)) R=some (ik R (gA t) (gB t))) (f4:∀t∈au F,(bT (b9 R (gA t) (gC t)) S).isSome=true) (f5:∀t∈au F,gA t≤gB t∧gB t≤gC t∧R.countP (·≤gA t)≤R.countP (· <gC t))
  {cs:List PV} {c6:Nat} {up:Bool} {P:a6} {RR:PV→aA→Prop}
  (k:af (CX w mg mb []) (n+20) (bR w.params) (ρH I R F S up cs c6 (jI R (au F) S) (gv (au F))) [] ((aZ w.params).drop 23) P RR):
  af (CX w mg mb []) (n+20) (bR w.params) (ρF I R F S up cs c6) [] ((aZ w.params).drop 21) P RR:=by
 have lenN:(ai b').length<1000000:=by decide
 have hok:=jq K hF
 have hol:(au F).length≤5:=by rw[hJ];exact hFl
 have hL:(cW I R (c6 / 384) (c6 / 96 % 4)).length=6:=l8
 have hpl:(ak (cW I R (c6 / 384) (c6 / 96 % 4))).length=6:=by simp[hL]
 have hlo:=qw K hR h5 (B:=c6 / 384) (E:=c6 / 96 % 4)
 have hs5:(bP R).length=5:=by rw[eR,h5]
 have own3:eH I (au F)=(au F).map fun t=>PV.tup [.int (xe I (gA t)), .int (xe I (gB t)), .int (xe I (gC t))]:=List.map_congr_left fun t ht=>by rw[three (hok t ht).2];rfl
 refine af.cons (aF.fQ (p:= .tup [.bool true, .int ((1:Nat):Int)]) (aa.tuple (aj.ag aa.cBool (aj.ag aa.cInt .nil))) (fM.tuple (bB.cons (.inl rfl) (bB.cons (.inl rfl) (bB.nil ?_)))) (fun env he=>?sw))
 case sw=>
  obtain⟨⟩:=env
  dsimp only at he
  subst he
  with_unfolding_all rfl
 refine af.cons (aF.forIn (l:=(au F).map fun t=>PV.tup [.int (xe I (gA t)), .int (xe I (gB t)), .int (xe I (gC t))]) (dj.of ((aa.var (p:= .lst (eH I (au F))) rfl).cast (congrArg PV.lst own3)) fW.list) ?_)
 refine aU.less (ρ':=ρH I R F S up cs c6 true ((1:Nat):Int)) (ω':=[]) ?_ (by exact aG.self (by ext)) (by exact aC.self (by ext))
 refine aU.tP (β:=Bool×Nat) (b:=(true,1)) (S:=fun b=>ρH I R F S up cs c6 b.1 (b.2:Int)) (W:=fun _=>[]) (nH R S (au F)) (fun rest _=>∀t∈rest,t∈au F) (fun t ht=>ht) (fun b t rest hf=>?_) (fun hf=>?_)
 ·have ht:t∈au F:=hf t List.mem_cons_self
  have hrest:∀t∈rest,t∈au F:=fun t h=>hf t (yL _ h)
  have g3:=f3 t ht
  have g4:=f4 t ht
  obtain⟨o1,o2,o3⟩:=f5 t ht
  have hg:=(hok t ht).1
  have h3:=(hok t ht).2
  have gm:∀j,j<3→t.getD j 0=0∨t.getD j 0=6∨(1≤t.getD j 0∧t.getD j 0≤m):=fun j hj=>hg _ (getD_mem (by omega))
  have ga:gA t=0∨gA t=6∨(1≤gA t∧gA t≤m):=gm 0 (by decide)
  have gb:gB t=0∨gB t=6∨(1≤gB t∧gB t≤m):=gm 1 (by decide)
  have gc:gC t=0∨gC t=6∨(1≤gC t∧gC t≤m):=gm 2 (by decide)
  obtain⟨al,z⟩:=b
  obtain⟨lo,hlo'⟩:∃lo,lo=R.countP (·≤gA t):=⟨_,rfl⟩
  obtain⟨hi,hhi⟩:∃hi,hi=R.countP (· <gC t):=⟨_,rfl⟩
  have hi5:hi≤5:=by rw[hhi,←h5];exact List.countP_le_length
  rw[←hlo',←hhi] at o3
  obtain⟨L,hLe⟩:∃L,L=cW I R (c6 / 384) (c6 / 96 % 4):=⟨_,rfl⟩
  obtain⟨Q,hQ⟩:∃Q,Q=(L.take hi).drop lo++L.drop 5:=⟨_,rfl⟩
  have hQL:Q.length=(hi - lo)+1:=by rw[hQ,hLe];simp[hL];omega
  have hQok:∀p∈Q,jK p:=fun p hp=>by
   rw[hQ,hLe] at hp
   rcases List.mem_append.mp hp with hp | hp
   ·exact hlo p (List.mem_of_mem_take (List.mem_of_mem_drop hp))
   ·exact hlo p (List.mem_of_mem_drop hp)
  have hd5:L.drop 5=[(pX (c6 / 96 % 4),[36])]:=by rw[hLe];simp[cW,fq]
  have hlast:(Q.getLastD ([],[])).2=[36]:=by rw[hQ,hd5];simp[List.getLastD_eq_getLast?]
  have hQt:=lW hQok
  have hLs:b9 R (gA t) (gC t)=((bP R).take hi).drop lo:=by rw[hhi,hlo'];rfl
  have hLl:(b9 R (gA t) (gC t)).length=hi - lo:=by rw[hLs];simp;omega
  have hLr:Rs m (b9 R (gA t) (gC t)):=by rw[hLs];exact(hR.bP.take hi).drop lo
  have hQp:∀j,j<(b9 R (gA t) (gC t)).length→∃x y,Q.getD j ([],[])=(x,[y,ch I ((b9 R (gA t) (gC t)).getD j 0)]):=fun j hj=>by
   rw[hLl] at hj
   have e1:Q.getD j ([],[])=eD I R (c6 / 384) (lo+j):=by
    rw[hQ,yK,List.getElem?_append_left (by rw[hLe];simp[hL];omega),List.getElem?_drop,List.getElem?_take_of_lt (by omega),hLe]
    unfold cW
    rw[List.getElem?_append_left (by simp[fq];omega)]
    unfold fq
    rw[List.getElem?_map,List.getElem?_range (by omega)]
    rfl
   have e2:(b9 R (gA t) (gC t)).getD j 0=(bP R).getD (lo+j) 0:=by
    rw[hLs,yK,List.getElem?_drop,List.getElem?_take_of_lt (by omega),yK]
   rw[e1,e2]
   exact⟨_,_,rfl⟩
  have sR:a7 Q (zs I R)=some (ik R (gA t) (gB t)):=by rw[hY K (by rw[hQL,hLl]) hLr hR hQp];exact g3
  have sS:a7 Q (zs I S)=bT (b9 R (gA t) (gC t)) S:=hY K (by rw[hQL,hLl]) hLr hS hQp
  have hc:=eW sR
  obtain⟨js,hjs⟩:=Option.isSome_iff_exists.mp g4
  have hj:=eW (sS.trans hjs)
  rw[hQL] at hc hj
  have row_s:((bP R).map (nr I)).Pairwise (·≤·):=qe K hR
  have td:=told (w:=w) (mg:=mg) (mb:=mb) (n:=n+4) (l:=Q) (wish:=zs I R) (head:=c6 % 4) (by omega) (by omega) (fw K hR) (fun p hp=>⟨(hQok p hp).ne,(hQok p hp).ascii⟩) hlast (by omega)
  have td2:=told (w:=w) (mg:=mg) (mb:=mb) (n:=n+4) (l:=Q) (wish:=zs I S) (head:=c6 % 4) (by omega) (by omega) (fw K hS) (fun p hp=>⟨(hQok p hp).ne,(hQok p hp).ascii⟩) hlast (by omega)
  rw[sR] at td
  rw[sS.trans hjs] at td2
  simp only[Option.getD_some] at td td2
  have du:=yq (w:=w) (mg:=mg) (mb:=mb) (ex:=[]) (n:=n+17) (l:=Q) (cut:=ik R (gA t) (gB t)) (head:=c6 % 4) (by rintro rfl;simp at hQL) (by omega) (by omega)
  have gd:∀j,(dg (fY Q j (c6 % 4))).gd 6=true:=fun j=>oI (fun p hp=>(hQok p hp).ascii) j _
  have hin:(ai ((bP R).map fun r=>(I r:Int)))=(bP R).map fun r=>PV.int (I r):=by simp[ai]
  refine fM.tuple (bB.cons (.inr ⟨rfl,rfl⟩) (bB.cons (.inr ⟨rfl,rfl⟩) (bB.cons (.inr ⟨rfl,rfl⟩) (bB.nil ?_))))
  refine af.cons (aF.assign (p:= .lst (ak Q)) ?part (.inl rfl) ?_)
  case part=>
   have hpL:(ak L).length=6:=by rw[hLe];exact hpl
   have hL6:L.length=6:=by rw[hLe];exact hL
   refine(aa.lN (aa.bG (l:=ak L) (lo:=some (lo:Int)) (hi:=some (hi:Int)) ((aa.var (p:= .lst (ak (cW I R (c6 / 384) (c6 / 96 % 4)))) rfl).cast (by rw[hLe])) (aP.some ?b1) (aP.some ?b2) (by omega)) (aa.bG (l:=ak L) (lo:=some ((5:Nat):Int)) (hi:=none) ((aa.var (p:= .lst (ak (cW I R (c6 / 384) (c6 / 96 % 4)))) rfl).cast (by rw[hLe])) (aP.some aa.cInt) aP.none (by omega)) ?_).cast ?_
   case b1=>
    refine(aa.bK (aa.bj rfl rfl) (by exact rfl) (aj.ag (aa.var (p:= .lst (de I (bP R))) rfl) (aj.ag (aa.sub (aa.var (p:= .lst (ai b')) rfl) (aa.var rfl) (aL.list (ir K ga) lenN)) .nil)) (vX row_s (by rw[List.length_map];omega))).cast ?_
    exact congrArg PV.int (by rw[hlo',vq K hR ga])
   case b2=>
    refine(aa.bK (aa.bj rfl rfl) (by exact rfl) (aj.ag (aa.var (p:= .lst (de I (bP R))) rfl) (aj.ag (aa.sub (aa.var (p:= .lst (ai b')) rfl) (aa.var rfl) (aL.list (ir K gc) lenN)) .nil)) (vY row_s (by rw[List.length_map];omega))).cast ?_
    exact congrArg PV.int (by rw[hhi,vp K hR gc])
   ·rw[lY o3 (by lia),cE];simp;omega
   ·rw[lY o3 (by lia),cE,hQ];simp
  refine af.cons (aF.assign (p:=dg (fY Q (ik R (gA t) (gB t)) (c6 % 4))) (aa.bK (aa.bj rfl rfl) (by exact rfl) (aj.ag (aa.var rfl) (aj.ag ?cut (aj.ag (aa.var rfl) .nil))) du) (.inr rfl) ?_)
  case cut=>
   refine(aa.gu (l:=((bP R).filter fun r=>decide (gA t<r)&&decide (r≤gB t)).map fun r=>PV.int (I r)) (aa.blt rfl rfl rfl) (bH.frozen (bH.comp (l:=(bP R).map fun r=>PV.int (I r)) (dj.of ((aa.var (p:= .lst (ai ((bP R).map fun r=>(I r:Int)))) rfl).cast (congrArg PV.lst hin)) fW.list) ?ov ?_ (by exact aH.jw rfl rfl (by ext)) (by exact allB (by ext)))) ?_).cast (congrArg PV.int ?_)
   case ov=>
    refine aQ.cM (b:=fun r=>decide (gA t<r)&&decide (r≤gB t)) (.inl rfl) rfl (fun r hr=>?_) fun r hr _=>aa.var rfl
    have hr:=hR.bP r hr
    refine(bb.qK (aa.var (p:= .int (xe I (gA t))) rfl) (aa.var (p:= .int (I r:Nat)) rfl) (aa.var (p:= .int (xe I (gB t))) rfl) ay.ltI ay.yA).cast ?_
    have e1:=cQ K ga (.inr (.inr hr))
    have e2:=cQ K gb (.inr (.inr hr))
    rw[gV K hr] at e1 e2
    congr 1
    ·exact decide_eq_decide.mpr e1
    ·exact decide_eq_decide.mpr (by omega)
   ·rw[List.length_map];exact yN (List.length_filter_le ..) (by omega)
   ·rw[List.length_map]
    have:=List.length_filter_le (fun r=>decide (gA t<r)&&decide (r≤gB t)) (bP R)
    omega
   ·rw[List.length_map,←List.countP_eq_length_filter,(cf R).countP_eq];rfl
  refine af.cons (aF.ite (b:=false) (bb.cmp (aa.bK (aa.bj rfl rfl) (by exact rfl) (aj.ag (aa.var rfl) (aj.ag (aa.var rfl) (aj.ag (aa.var rfl) .nil))) td) (aa.var rfl) (ay.tW (b:=true) (d:=6) (gd _) (gd _) (by simp)) aJ.bool) (fun h=>nomatch h) fun _=>af.nil ?_)
  obtain⟨A,hA⟩:∃A,A=(bT (b9 R (gA t) (gC t)) S==some (ik R (gA t) (gB t))):=⟨_,rfl⟩
  have hAe:A=true↔dg (fY Q js (c6 % 4))=dg (fY Q (ik R (gA t) (gB t)) (c6 % 4)):=by
   rw[hA,hjs]
   constructor
   ·intro e
    rw[show js=ik R (gA t) (gB t) by simpa using e]
   ·intro e
    have:=qP (by omega) (by omega) e
    rw[this];simp
  refine af.cons (aF.assign (p:= .bool (A&&al)) ?alk (.inl rfl) ?_)
  case alk=>
   cases hAA:A with
   | true=>
    rw[hAA] at hAe
    exact aa.tS (p:= .bool true) (aa.cmp (aa.bK (aa.bj rfl rfl) (by exact rfl) (aj.ag (aa.var rfl) (aj.ag (aa.var rfl) (aj.ag (aa.var rfl) .nil))) td2) (aa.var rfl) (ay.vB (b:=true) (d:=6) (gd _) (gd _) hAe)) aJ.bool (aa.var (p:= .bool al) rfl)
   | false=>
    rw[hAA] at hAe
    exact aa.tT (p:= .bool false) (aa.cmp (aa.bK (aa.bj rfl rfl) (by exact rfl) (aj.ag (aa.var rfl) (aj.ag (aa.var rfl) (aj.ag (aa.var rfl) .nil))) td2) (aa.var rfl) (ay.vB (b:=false) (d:=6) (gd _) (gd _) hAe)) aJ.bool
  have e2:nH R S (au F) (al,z) t=(A&&al,z*((au F).filter fun g=>decide (gA t<gB g)&&decide (gB g<gC t)).length):=by rw[hA];rfl
  have hfl:=List.length_filter_le (fun g=>decide (gA t<gB g)&&decide (gB g<gC t)) (au F)
  refine af.cons (aF.aug (p:= .int (z:Int)) (q:= .int (((au F).filter fun g=>decide (gA t<gB g)&&decide (gB g<gC t)).length:Int)) rfl ?cnt (gR.xQ (.of_right (PySem.intBits_le_64 (by omega) (by omega)))) rfl (.inl rfl) (af.nil ⟨.inl rfl,hrest,?_,by exact aC.self (by ext)⟩))
  case cnt=>
   refine aa.gu (l:=((au F).filter fun g=>decide (gA t<gB g)&&decide (gB g<gC t)).map fun g=>PV.tup [.int (xe I (gA g)), .int (xe I (gB g)), .int (xe I (gC g))]) (aa.blt rfl rfl rfl) (bH.frozen (bH.comp (l:=(au F).map fun t=>PV.tup [.int (xe I (gA t)), .int (xe I (gB t)), .int (xe I (gC t))]) (dj.of ((aa.var (p:= .lst (eH I (au F))) rfl).cast (congrArg PV.lst own3)) fW.list) ?ov ?_ (by exact aH.jw rfl rfl (by ext)) (by exact allB (by ext)))) ?_ |>.cast (by rw[List.length_map])
   case ov=>
    refine aQ.cM (b:=fun g=>decide (gA t<gB g)&&decide (gB g<gC t)) (.inl rfl) rfl (fun g hgm=>?_) fun r hr _=>aa.var rfl
    have hg2:=(hok g hgm).1
    have gb2:gB g=0∨gB g=6∨(1≤gB g∧gB g≤m):=hg2 _ (getD_mem (by have:=(hok g hgm).2;omega))
    refine(bb.qK (aa.var (p:= .int (xe I (gA t))) rfl) (aa.sub (aa.var (p:= .tup [.int (xe I (gA g)), .int (xe I (gB g)), .int (xe I (gC g))]) rfl) aa.cInt (aL.tup rfl (by simp))) (aa.var (p:= .int (xe I (gC t))) rfl) ay.ltI ay.ltI).cast ?_
    congr 1
    ·exact decide_eq_decide.mpr (cQ K ga gb2)
    ·exact decide_eq_decide.mpr (cQ K gb2 gc)
   ·rw[List.length_map];omega
   ·rw[List.length_map];omega
  rw[e2]
  have e3:((z*((au F).filter fun g=>decide (gA t<gB g)&&decide (gB g<gC t)).length:Nat):Int)=(z:Int)*(((au F).filter fun g=>decide (gA t<gB g)&&decide (gB g<gC t)).length:Int):=by rw[Int.natCast_mul]
  dsimp only
  rw[e3]
  exact aG.self (by ext)
 ·rw[tO]
  refine af.nil ?_
  have e1:((au F).all fun t=>bT (b9 R (gA t) (gC t)) S==some (ik R (gA t) (gB t)))=jI R (au F) S:=rfl
  dsimp only
  rw[Bool.and_true,e1]
  exact cI.less k (by exact aG.self (by ext)) (by exact aC.self (by ext))
theorem ay.eqB {X:Cx} {a b:Bool}:ay X (n+5) .Eq (.bool a) (.bool b) (.bool (a==b)):=by
 have:=ay.eq (X:=X) (n:=n) (p:= .bool a) (q:= .bool b) (by cases a<;>rfl) (by cases b<;>rfl)
 have e:(PV.bool a).eqv (.bool b)=(a==b):=by cases a<;>cases b<;>decide
 rw[e] at this;exact this
theorem mj {m z:Nat} {one:List Nat} (ho:Rs m one∧one.length=z):∀{ks:List Nat} {f:List (List Nat)},(∀k∈ks,k+1<z)→mJ m z f→mJ m z (ks.foldl (dq one) f)
 | [],_,_,h=>h
 | k::ks,f,hk,h=>by
  show mJ m z (ks.foldl (dq one) (dq one f k))
  exact mj ho (fun j hj=>hk j (yL _ hj)) (lX h ho (hk k List.mem_cons_self))
theorem kx {m z:Nat}:∀{N i:Nat} {f r:List (List Nat)},bx N i f=some r→mJ m z f→mJ m z r
 | N+1,i,f,r,e,h=>by
  unfold bx at e
  split at e
  ·rename_i hi
   have ho:Rs m (f.getD i [])∧(f.getD i []).length=z:=by
    rw[yK,yM hi];exact h _ (List.getElem_mem hi)
   exact kx e (mj ho (fun k hk=>by have:=List.mem_range.mp hk;omega) h)
  ·cases e;exact h
section
variable {I:Nat→Nat} {m:Nat}
theorem o5 {up:Bool} {l:List Nat} (h:Rs m l):Rs m (dF up l):=by
 have key:∀(l:List Nat) (s:List Nat×List Nat),Rs m l→Rs m s.1→Rs m s.2→Rs m (l.foldl (gW up) s).1∧Rs m (l.foldl (gW up) s).2:=by
  intro l
  induction l with
  | nil=>intro s _ h1 h2;exact⟨h1,h2⟩
  | cons x l ih=>
   intro s h h1 h2
   refine ih _ (fun r hr=>h r (yL _ hr)) (fun r hr=>?_) fun r hr=>?_
   ·rcases List.mem_cons.mp hr with rfl | hr
    ·exact h _ List.mem_cons_self
    ·exact h1 r ((List.dropWhile_suffix _).subset hr)
   ·rcases List.mem_append.mp hr with hr | hr
    ·exact h2 r hr
    ·exact h1 r ((List.takeWhile_prefix _).subset hr)
 obtain⟨a,b⟩:=key l ([],[]) h (fun _ h=>nomatch h) (fun _ h=>nomatch h)
 intro r hr
 rcases List.mem_append.mp hr with hr | hr
 ·exact b r hr
 ·exact a r hr
theorem qf {own:List (List Nat)} {lt:Nat→Nat→Bool} {r:List Nat→List Nat→Bool} (hz:own.length<6) (as:∀a b,r a b=true→r b a=false) (tr:∀a b c,r b a=false→r c b=false→r c a=false) (an:∀a b,a∈own→b∈own→r a b=false→r b a=false→a=b)
  (hlt:∀i j,i<own.length→j<own.length→lt i j=r (own.getD i []) (own.getD j [])):perm .none lt (eH I own)=eH I (dc r own):=by
 rw[←kD (d:=[]) hz as (fun a b c _ _ _=>tr a b c) an]
 exact fy hz hlt
theorem getD_map {α β:Type} {f:α→β} {l:List α} {i:Nat} {d:α} {d':β} (h:i<l.length):(l.map f).getD i d'=f (l.getD i d):=by
 simp[yK,h]
theorem vL {p q p' q':Int}:lexLt [p,q] [p',q']=true↔(p<p'∨(p=p'∧q<q')):=by
 simp only[lexLt]
 by_cases h:p=p'
 ·rw[if_pos (by simpa using h)]
  by_cases g:q=q'
  ·rw[if_pos (by simpa using g)];simp;lia
  ·rw[if_neg (by simpa using g),decide_eq_true_eq];omega
 ·rw[if_neg (by simpa using h),decide_eq_true_eq];omega
theorem rn {a b:List Nat}:eK a b=true↔(gA a<gA b∨(gA a=gA b∧gC b<gC a)):=by
 unfold eK
 by_cases p:gA a=gA b
 ·rw[if_pos (by simpa using p),decide_eq_true_eq];omega
 ·rw[if_neg (by simpa using p),decide_eq_true_eq];omega
theorem rl {a b:List Nat}:eJ a b=true↔(gC b<gC a∨(gC a=gC b∧gA a<gA b)):=by
 unfold eJ
 by_cases p:gC a=gC b
 ·rw[if_pos (by simpa using p),decide_eq_true_eq];omega
 ·rw[if_neg (by simpa using p),decide_eq_true_eq];omega
theorem sH:∀a b:List Nat,eK a b=true→eK b a=false:=fun a b h=>by
 unfold eK at *
 by_cases p:gA a=gA b
 ·rw[if_pos (by simpa using p)] at h;rw[if_pos (by simpa using p.symm)];have:=of_decide_eq_true h;exact decide_eq_false (by omega)
 ·rw[if_neg (by simpa using p)] at h;rw[if_neg (by simpa using fun e=>p e.symm)];have:=of_decide_eq_true h;exact decide_eq_false (by omega)
theorem n8 {a b:List Nat}:eK a b=false↔(gA b<gA a∨(gA b=gA a∧gC a≤gC b)):=by
 unfold eK
 by_cases p:gA a=gA b
 ·rw[if_pos (by simpa using p),decide_eq_false_iff_not];omega
 ·rw[if_neg (by simpa using p),decide_eq_false_iff_not];omega
theorem lj {a b:List Nat}:eJ a b=false↔(gC a<gC b∨(gC b=gC a∧gA b≤gA a)):=by
 unfold eJ
 by_cases p:gC a=gC b
 ·rw[if_pos (by simpa using p),decide_eq_false_iff_not];omega
 ·rw[if_neg (by simpa using p),decide_eq_false_iff_not];omega
theorem sE:∀a b:List Nat,eJ a b=true→eJ b a=false:=fun a b h=>by
 have h:¬eJ a b=false:=by rw[h];decide
 rw[lj] at *;omega
theorem lh {up:Bool} {a b:List Nat}:fm up a b=false↔(if up then gB b≤gB a else gB a≤gB b):=by
 unfold fm
 cases up
 ·simp
 ·simp
theorem sx {up:Bool}:∀a b:List Nat,fm up a b=true→fm up b a=false:=fun a b h=>by
 have h:¬fm up a b=false:=by rw[h];decide
 rw[lh] at *
 cases up<;>simp at* <;>omega
theorem sv {up:Bool}:∀a b c:List Nat,fm up b a=false→fm up c b=false→fm up c a=false:=fun a b c h1 h2=>by
 rw[lh] at *
 cases up<;>simp at* <;>omega
theorem gJ (K:Rk I m) {own:List (List Nat)}:(own.map fun t=>[ch I (gB t)]).flatten=zs I (own.map gB):=by
 rw[show own.map (fun t=>[ch I (gB t)])=(own.map gB).map fun r=>[ch I r] by rw[List.map_map];rfl]
 exact jr _
end
noncomputable def vO:PV→PV
 | .tup [.int a, .int _, .int c]=> .tup [.int a, .int (-c)]
 | _=> .none
noncomputable def vN:PV→PV
 | .tup [.int a, .int _, .int c]=> .tup [.int (-c), .int a]
 | _=> .none
noncomputable def vM (w:Int):PV→PV
 | .tup [.int _, .int b, .int _]=> .int (w*b)
 | _=> .none
noncomputable abbrev iR (I:Nat→Nat) (own:List (List Nat)):List PV:=own.map fun t=>PV.tup [.int (xe I (gA t)), .int (xe I (gB t)), .int (xe I (gC t))]
noncomputable abbrev ρI (I:Nat→Nat) (R F S:List Nat) (up:Bool) (cs:List PV) (c6:Nat) (al:Bool) (z:Int) (FO:List (List Nat)):az:=(xK,some (.txt (zs I (jy up (au F)))))::(v7,some (.txt (zs I (cV (au F)))))::(ux,some (.txt (zs I (cq (au F)))))::(uy,some (.lst (iP I FO)))::ρH I R F S up cs c6 al z
theorem sG {a b c:List Nat} (h1:eK b a=false) (h2:eK c b=false):eK c a=false:=by rw[n8] at *;omega
theorem sz {a b c:List Nat} (h1:eJ b a=false) (h2:eJ c b=false):eJ c a=false:=by rw[lj] at *;omega
theorem n9 {a b:List Nat} (h1:eK a b=false) (h2:eK b a=false):gA a=gA b∧gC a=gC b:=by rw[n8] at *;exact⟨by omega,by omega⟩
theorem n0 {a b:List Nat} (h1:eJ a b=false) (h2:eJ b a=false):gA a=gA b∧gC a=gC b:=by rw[lj] at *;exact⟨by omega,by omega⟩
theorem sy {up:Bool} {a b:List Nat} (h1:fm up a b=false) (h2:fm up b a=false):gB a=gB b:=by rw[lh] at *;cases up<;>simp at* <;>omega
theorem wq {I:Nat→Nat} {m:Nat} (K:Rk I m) {R F S:List Nat} (hF:Rs m F) (hFl:F.length≤5) (hF1:1≤F.length)
  (f6:∀s t,s∈au F→t∈au F→gA s=gA t→gC s=gC t→s=t) (f7:∀s t,s∈au F→t∈au F→gB s=gB t→s=t)
  {FO:List (List Nat)} {N:Nat} (hFO:bx N 0 [F]=some FO) (hFOl:FO.length≤200)
  {cs:List PV} {c6:Nat} {up:Bool} {al:Bool} {z:Int} {P:a6} {RR:PV→aA→Prop}
  (k:af (CX w mg mb []) (n+20) (bR w.params) (ρI I R F S up cs c6 al z FO) [] ((aZ w.params).drop 27) P RR):
  af (CX w mg mb []) (n+20) (bR w.params) (ρH I R F S up cs c6 al z) [] ((aZ w.params).drop 23) P RR:=by
 have hok:=jq K hF
 have hol:(au F).length≤5:=by rw[hJ];exact hFl
 have own3:eH I (au F)=iR I (au F):=List.map_congr_left fun t ht=>by rw[three (hok t ht).2];rfl
 have gm:∀{t},t∈au F→∀j,j<3→t.getD j 0=0∨t.getD j 0=6∨(1≤t.getD j 0∧t.getD j 0≤m):=fun ht j hj=>(hok _ ht).1 _ (getD_mem (by have:=(hok _ ht).2;omega))
 have gi:∀i,i<(au F).length→(au F).getD i []∈au F:=fun i hi=>by
  rw[yK,yM hi];exact List.getElem_mem hi
 have gB1:∀{t},t∈au F→1≤gB t∧gB t≤m:=fun {t} ht=>by
  have:t∈fX F:=aS.mem_iff.mp ht
  rw[dY] at this
  obtain⟨k,hk,rfl⟩:=List.mem_map.mp this
  exact hF _ (getD_mem (List.mem_range.mp hk))
 have sgA:∀r,1≤r∧r≤m→bo gO (xe I r)=some (ch I r):=fun r hr=>by
  have:=K.lt r hr.1 hr.2
  rw[gV K hr,ba (by show I r<24;exact this)]
  unfold ch sg
  rw[yK,yM (by show I r<24;exact this)];rfl
 have k1:∀s t,s∈au F→t∈au F→lexLt [xe I (gA s), -xe I (gC s)] [xe I (gA t), -xe I (gC t)]=eK s t:=fun s t hs ht=>by
  have a1:xe I (gA s)<xe I (gA t)↔gA s<gA t:=cQ K (gm hs 0 (by decide)) (gm ht 0 (by decide))
  have a2:xe I (gA s)=xe I (gA t)↔gA s=gA t:=qc K (gm hs 0 (by decide)) (gm ht 0 (by decide))
  have a3:xe I (gC t)<xe I (gC s)↔gC t<gC s:=cQ K (gm ht 2 (by decide)) (gm hs 2 (by decide))
  rw[Bool.eq_iff_iff,vL,rn];omega
 have k2:∀s t,s∈au F→t∈au F→lexLt [-xe I (gC s),xe I (gA s)] [-xe I (gC t),xe I (gA t)]=eJ s t:=fun s t hs ht=>by
  have a1:xe I (gA s)<xe I (gA t)↔gA s<gA t:=cQ K (gm hs 0 (by decide)) (gm ht 0 (by decide))
  have a2:xe I (gC s)=xe I (gC t)↔gC s=gC t:=qc K (gm hs 2 (by decide)) (gm ht 2 (by decide))
  have a3:xe I (gC t)<xe I (gC s)↔gC t<gC s:=cQ K (gm ht 2 (by decide)) (gm hs 2 (by decide))
  rw[Bool.eq_iff_iff,vL,rl];omega
 have k3:∀s t,s∈au F→t∈au F→decide (cB up*xe I (gB s)<cB up*xe I (gB t))=fm up s t:=fun s t hs ht=>by
  have a1:xe I (gB s)<xe I (gB t)↔gB s<gB t:=cQ K (gm hs 1 (by decide)) (gm ht 1 (by decide))
  have a3:xe I (gB t)<xe I (gB s)↔gB t<gB s:=cQ K (gm ht 1 (by decide)) (gm hs 1 (by decide))
  unfold fm cB
  cases up
  ·dsimp only[iF];exact decide_eq_decide.mpr (by omega)
  ·dsimp only[iT];exact decide_eq_decide.mpr (by omega)
 refine af.cons (aF.assign (p:= .lst (iP I FO)) (aa.bK (aa.bj rfl rfl) (by exact rfl) (aj.ag (aa.var rfl) .nil) (uA (n:=n+14) K hF hFl hF1 hFO hFOl)) (.inl rfl) ?_)
 have three':∀{o:List (List Nat)},(∀t∈o,t∈au F)→eH I o=iR I o:=fun {o} h=>List.map_congr_left fun t ht=>by rw[three (hok t (h t ht)).2];rfl
 refine af.cons (aF.assign (p:= .txt (zs I (cq (au F)))) ?le (.inl rfl) ?_)
 case le=>
  refine(aa.join aa.cStr (l:=(dc eK (au F)).map fun t=>[ch I (gB t)]) (bH.frozen (bH.comp (l:=iR I (dc eK (au F))) (dj.of (bH.frozen ?so) fW.list) ?ov ?_ (by exact aH.jw rfl rfl (by ext)) (by exact allB (by ext)))) ?_).cast (congrArg (fun z=>PV.txt z) (gJ K))
  case so=>
   rw[←three' (o:=dc eK (au F)) fun t ht=>aS.mem_iff.mp ht]
   rw[←qf (own:=au F) (lt:=fun i j=>lexLt (((au F).map fun t=>[xe I (gA t), -xe I (gC t)]).getD i []) (((au F).map fun t=>[xe I (gA t), -xe I (gC t)]).getD j [])) (by omega) sH (fun a b c h1 h2=>sG h1 h2) (fun a b ha hb h1 h2=>f6 a b ha hb (n9 h1 h2).1 (n9 h1 h2).2) ?hlt]
   ·refine bH.iE (n:=n+18) (kf:=vO) (x:=ub) (c:=276) (P:=274) (q:="law.<locals>.") (aa.blt rfl rfl rfl) (aa.var rfl) ?H (fun l p hp=>?hb) (fun l=>?ok) (by rw[List.length_map];omega) (by rw[List.length_map];exact cZ (by omega))
    case H=>
     refine⟨rfl,?_,?_,by ext,fun _=>rfl,by exact allB (by ext),?_,rfl,by exact allB (by ext),by exact allB (by ext),rfl,rfl,rfl,rfl,?_⟩
     ·exact .tail _ (.tail _ (.tail _ (.head _)))
     ·intro t ht e
      simp only[CX,List.mem_cons,List.not_mem_nil,or_false] at ht
      rcases ht with rfl | rfl | rfl | rfl
      ·exact absurd e (by decide)
      ·exact absurd e (by decide)
      ·exact absurd e (by decide)
      ·rfl
     ·rintro ⟨⟩ h h2 h3 v
      dsimp only at h h2 h3
      subst h;subst h2;subst h3
      with_unfolding_all rfl
     ·exact kY hV
    case hb=>
     rw[own3] at hp
     obtain⟨t,ht,rfl⟩:=List.mem_map.mp hp
     exact aa.tuple (aj.ag (aa.sub (aa.var (p:= .tup [.int (xe I (gA t)), .int (xe I (gB t)), .int (xe I (gC t))]) rfl) aa.cInt (aL.tup rfl (by simp))) (aj.ag (aa.rM (aa.sub (aa.var (p:= .tup [.int (xe I (gA t)), .int (xe I (gB t)), .int (xe I (gC t))]) rfl) aa.cInt (aL.tup rfl (by simp)))) .nil))
    case ok=>
     rw[own3,show(iR I (au F)).map vO=((au F).map fun t=>[xe I (gA t), -xe I (gC t)]).map fun x=>PV.tup (ai x) by rw[List.map_map,List.map_map];rfl]
     exact bW.rK (m:=1) fun x hx=>by
      obtain⟨t,ht,rfl⟩:=List.mem_map.mp hx
      rfl
   case hlt=>
    intro i j hi hj
    rw[getD_map (d:=[]) hi,getD_map (d:=[]) hj]
    exact k1 _ _ (gi i hi) (gi j hj)
  case ov=>
   unfold aI
   rw[List.map_map]
   refine aQ.gj (.inl rfl) rfl fun t ht=>aa.sub (aa.var (p:= .txt gO) rfl) (aa.sub (aa.var (p:= .tup [.int (xe I (gA t)), .int (xe I (gB t)), .int (xe I (gC t))]) rfl) aa.cInt (aL.tup rfl (by simp))) (aL.str (sgA _ (gB1 (aS.mem_iff.mp ht))) (by decide))
  ·unfold aI
   rw[List.length_map,List.length_map,aS.length_eq];omega
  ·rw[d9,aS.length_eq];omega
 refine af.cons (aF.assign (p:= .txt (zs I (cV (au F)))) ?mo (.inl rfl) ?_)
 case mo=>
  refine(aa.join aa.cStr (l:=(dc eJ (au F)).map fun t=>[ch I (gB t)]) (bH.frozen (bH.comp (l:=iR I (dc eJ (au F))) (dj.of (bH.frozen ?so) fW.list) ?ov ?_ (by exact aH.jw rfl rfl (by ext)) (by exact allB (by ext)))) ?_).cast (congrArg (fun z=>PV.txt z) (gJ K))
  case so=>
   rw[←three' (o:=dc eJ (au F)) fun t ht=>aS.mem_iff.mp ht]
   rw[←qf (own:=au F) (lt:=fun i j=>lexLt (((au F).map fun t=>[-xe I (gC t),xe I (gA t)]).getD i []) (((au F).map fun t=>[-xe I (gC t),xe I (gA t)]).getD j [])) (by omega) sE (fun a b c h1 h2=>sz h1 h2) (fun a b ha hb h1 h2=>f6 a b ha hb (n0 h1 h2).1 (n0 h1 h2).2) ?hlt]
   ·refine bH.iE (n:=n+18) (kf:=vN) (x:=ub) (c:=276) (P:=274) (q:="law.<locals>.") (aa.blt rfl rfl rfl) (aa.var rfl) ?H (fun l p hp=>?hb) (fun l=>?ok) (by rw[List.length_map];omega) (by rw[List.length_map];exact cZ (by omega))
    case H=>
     refine⟨rfl,?_,?_,by ext,fun _=>rfl,by exact allB (by ext),?_,rfl,by exact allB (by ext),by exact allB (by ext),rfl,rfl,rfl,rfl,?_⟩
     ·exact .tail _ (.tail _ (.tail _ (.head _)))
     ·intro t ht e
      simp only[CX,List.mem_cons,List.not_mem_nil,or_false] at ht
      rcases ht with rfl | rfl | rfl | rfl
      ·exact absurd e (by decide)
      ·exact absurd e (by decide)
      ·exact absurd e (by decide)
      ·rfl
     ·rintro ⟨⟩ h h2 h3 v
      dsimp only at h h2 h3
      subst h;subst h2;subst h3
      with_unfolding_all rfl
     ·exact kY hV
    case hb=>
     rw[own3] at hp
     obtain⟨t,ht,rfl⟩:=List.mem_map.mp hp
     exact aa.tuple (aj.ag (aa.rM (aa.sub (aa.var (p:= .tup [.int (xe I (gA t)), .int (xe I (gB t)), .int (xe I (gC t))]) rfl) aa.cInt (aL.tup rfl (by simp)))) (aj.ag (aa.sub (aa.var (p:= .tup [.int (xe I (gA t)), .int (xe I (gB t)), .int (xe I (gC t))]) rfl) aa.cInt (aL.tup rfl (by simp))) .nil))
    case ok=>
     rw[own3,show(iR I (au F)).map vN=((au F).map fun t=>[-xe I (gC t),xe I (gA t)]).map fun x=>PV.tup (ai x) by rw[List.map_map,List.map_map];rfl]
     exact bW.rK (m:=1) fun x hx=>by
      obtain⟨t,ht,rfl⟩:=List.mem_map.mp hx
      rfl
   case hlt=>
    intro i j hi hj
    rw[getD_map (d:=[]) hi,getD_map (d:=[]) hj]
    exact k2 _ _ (gi i hi) (gi j hj)
  case ov=>
   unfold aI
   rw[List.map_map]
   refine aQ.gj (.inl rfl) rfl fun t ht=>aa.sub (aa.var (p:= .txt gO) rfl) (aa.sub (aa.var (p:= .tup [.int (xe I (gA t)), .int (xe I (gB t)), .int (xe I (gC t))]) rfl) aa.cInt (aL.tup rfl (by simp))) (aL.str (sgA _ (gB1 (aS.mem_iff.mp ht))) (by decide))
  ·unfold aI
   rw[List.length_map,List.length_map,aS.length_eq];omega
  ·rw[d9,aS.length_eq];omega
 refine af.cons (aF.assign (p:= .txt (zs I (jy up (au F)))) ?du (.inr rfl) ?_)
 case du=>
  refine(aa.join aa.cStr (l:=(dc (fm up) (au F)).map fun t=>[ch I (gB t)]) (bH.frozen (bH.comp (l:=iR I (dc (fm up) (au F))) (dj.of (bH.frozen ?so) fW.list) ?ov ?_ (by exact aH.jw rfl rfl (by ext)) (by exact allB (by ext)))) ?_).cast (congrArg (fun z=>PV.txt z) (gJ K))
  case so=>
   rw[←three' (o:=dc (fm up) (au F)) fun t ht=>aS.mem_iff.mp ht]
   rw[←qf (own:=au F) (lt:=fun i j=>decide (((au F).map fun t=>cB up*xe I (gB t)).getD i 0<((au F).map fun t=>cB up*xe I (gB t)).getD j 0)) (by omega) sx sv (fun a b ha hb h1 h2=>f7 a b ha hb (sy h1 h2)) ?hlt]
   ·refine bH.iE (n:=n+18) (kf:=vM (cB up)) (x:=ub) (c:=276) (P:=274) (q:="law.<locals>.") (aa.blt rfl rfl rfl) (aa.var rfl) ?H (fun l p hp=>?hb) (fun l=>?ok) (by rw[List.length_map];omega) (by rw[List.length_map];exact cZ (by omega))
    case H=>
     refine⟨rfl,?_,?_,by ext,fun _=>rfl,by exact allB (by ext),?_,rfl,by exact allB (by ext),by exact allB (by ext),rfl,rfl,rfl,rfl,?_⟩
     ·exact .tail _ (.tail _ (.tail _ (.head _)))
     ·intro t ht e
      simp only[CX,List.mem_cons,List.not_mem_nil,or_false] at ht
      rcases ht with rfl | rfl | rfl | rfl
      ·exact absurd e (by decide)
      ·exact absurd e (by decide)
      ·exact absurd e (by decide)
      ·rfl
     ·rintro ⟨⟩ h h2 h3 v
      dsimp only at h h2 h3
      subst h;subst h2;subst h3
      with_unfolding_all rfl
     ·exact kY (l:=[(mL,some (.int (cB up)))]) (kN (fun u e=>by cases e;rfl) hV)
    case hb=>
     rw[own3] at hp
     obtain⟨t,ht,rfl⟩:=List.mem_map.mp hp
     exact aa.bin (aa.var (p:= .int (cB up)) rfl) (aa.sub (aa.var (p:= .tup [.int (xe I (gA t)), .int (xe I (gB t)), .int (xe I (gC t))]) rfl) aa.cInt (aL.tup rfl (by simp))) (aK.mul (.of_left (by unfold cB;cases up<;>decide)))
    case ok=>
     rw[own3,show(iR I (au F)).map (vM (cB up))=ai ((au F).map fun t=>cB up*xe I (gB t)) by unfold ai;rw[List.map_map,List.map_map];rfl]
     exact bW.ints
   case hlt=>
    intro i j hi hj
    rw[getD_map (d:=[]) hi,getD_map (d:=[]) hj]
    exact k3 _ _ (gi i hi) (gi j hj)
  case ov=>
   unfold aI
   rw[List.map_map]
   refine aQ.gj (.inl rfl) rfl fun t ht=>aa.sub (aa.var (p:= .txt gO) rfl) (aa.sub (aa.var (p:= .tup [.int (xe I (gA t)), .int (xe I (gB t)), .int (xe I (gC t))]) rfl) aa.cInt (aL.tup rfl (by simp))) (aL.str (sgA _ (gB1 (aS.mem_iff.mp ht))) (by decide))
  ·unfold aI
   rw[List.length_map,List.length_map,aS.length_eq];omega
  ·rw[d9,aS.length_eq];omega
 exact cI.less k (by exact aG.self (by ext)) (by exact aC.self (by ext))
theorem wo {I:Nat→Nat} {m:Nat} (K:Rk I m) {R F S:List Nat} (hF:Rs m F) (hFl:F.length≤5)
  {FO:List (List Nat)} (hFO:mJ m F.length FO) (hFOl:FO.length≤200)
  {cs:List PV} {c6:Nat} {up:Bool} {al:Bool} (hdu:Rs m (jy up (au F))) (f8:FO.length*gv (au F)=nO.getD F.length 0) (f9:(FO.filter fun o=>dF up o==jy up (au F))=[if up then cq (au F) else cV (au F)])
  (hle:Rs m (cq (au F))) (hmo:Rs m (cV (au F)))
  {P:a6} {RR:PV→aA→Prop}
  (k:af (CX w mg mb []) (n+20) (bR w.params) (ρI I R F S up cs c6 al (gv (au F)) FO) [] ((aZ w.params).drop 29) P RR):
  af (CX w mg mb []) (n+20) (bR w.params) (ρI I R F S up cs c6 al (gv (au F)) FO) [] ((aZ w.params).drop 27) P RR:=by
 have hzF:(zs I F).length=F.length:=by simp
 have hfl:(iP I FO).length=FO.length:=by simp[aI]
 refine af.cons (aF.ite (b:=false) ((bb.cmp (aa.bin (aa.gu (l:=iP I FO) (aa.blt rfl rfl rfl) (aa.var rfl) (by omega)) (aa.var (p:= .int (gv (au F):Nat)) rfl) (aK.mul (.of_left (PySem.intBits_le_64 (by omega) (by lia))))) (aa.sub (aa.tuple (ps:=nO.map fun x=>PV.int (x:Nat)) (aj.ag aa.cInt (aj.ag aa.cInt (aj.ag aa.cInt (aj.ag aa.cInt (aj.ag aa.cInt (aj.ag aa.cInt .nil))))))) ((aa.oO (l:=zs I F) (aa.blt rfl rfl rfl) (aa.var rfl) (by omega)).cast (q:= .int (F.length:Int)) (by rw[hzF])) (aL.tup (kT (d:=0) (by show F.length<6;omega)) (by decide))) ay.yo aJ.bool).cast ?_) (fun h=>nomatch h) fun _=>af.nil ?_)
 ·rw[hfl,←f8,Int.natCast_mul];simp
 have hone:∀o∈FO,Rs m o∧o.length≤5:=fun o ho=>⟨(hFO o ho).1,by rw[(hFO o ho).2];exact hFl⟩
 have fs1:∀f:List (List Nat),iP I f=f.map fun o=>PV.txt (zs I o):=fun f=>by simp[aI]
 have hgd:(PV.lst (iP I (FO.filter fun o=>dF up o==jy up (au F)))).gd 2=true:=m6 K (z:=F.length) fun o ho=>hFO o (List.mem_filter.mp ho).1
 refine af.cons (aF.ite (b:=false) (bb.cmp (bH.frozen (l:=iP I (FO.filter fun o=>dF up o==jy up (au F))) (bH.comp (l:=FO.map fun o=>PV.txt (zs I o)) (dj.of ((aa.var (p:= .lst (iP I FO)) rfl).cast (by rw[fs1])) fW.list) ?ov ?_ (by exact aH.jw rfl rfl (by ext)) (by exact allB (by ext)))) (aa.list (ps:=[.txt (zs I (if up then cq (au F) else cV (au F)))]) (aj.ag ?one .nil)) (ay.tW (b:=true) (d:=2) hgd ?gd2 ?eq) aJ.bool) (fun h=>nomatch h) fun _=>af.nil ?_)
 case ov=>
  rw[fs1]
  refine aQ.cM (b:=fun o=>dF up o==jy up (au F)) (r:=fun o=>PV.txt (zs I o)) (.inl rfl) rfl (fun o ho=>?_) fun o ho _=>aa.var rfl
  refine(bb.cmp (aa.bK (aa.bj rfl rfl) (by exact rfl) (aj.ag (aa.var rfl) (aj.ag (aa.var (p:= .int (cB up)) rfl) (aj.ag (aa.var (p:= .int (c6 % 4:Nat)) rfl) .nil))) (piled (n:=n+12) K (hone o ho).1 (hone o ho).2 up (c6 % 4) (by omega))) (aa.var (p:= .txt (zs I (jy up (au F)))) rfl) ay.xC aJ.bool).cast ?_
  rw[Bool.eq_iff_iff,beq_iff_eq,beq_iff_eq]
  constructor
  ·exact mP K (o5 (hone o ho).1) hdu
  ·intro e;rw[e]
 ·rw[fs1,List.length_map];exact yN (List.length_filter_le ..) (by omega)
 case one=>
  refine aa.tE (b:=up) ((bb.cmp (aa.var (p:= .int (cB up)) rfl) aa.cInt ay.rF aJ.bool).cast ?_) (fun hb=>?_) fun hb=>?_
  ·cases up<;>rfl
  ·rw[hb,if_pos rfl];exact(aa.var (p:= .txt (zs I (cq (au F)))) rfl)
  ·rw[hb,if_neg (by decide)];exact(aa.var (p:= .txt (zs I (cV (au F)))) rfl)
 case gd2=>
  refine PV.gy fun p hp=>?_
  rw[List.mem_singleton.mp hp]
  refine PV.eo ?_
  cases up
  ·exact fw K hmo
  ·exact fw K hle
 case eq=>rw[f9];simp[fs1]
 exact k
section
variable {I:Nat→Nat} {m:Nat}
theorem pE (K:Rk I m):∀{a b:List (List Nat)},(∀t∈a,Gs m t)→(∀t∈b,Gs m t)→bV I a=bV I b→a=b:=by
 have one:∀{s t:List Nat},Gs m s→Gs m t→s.map (ne I)=t.map (ne I)→s=t:=by
  intro s
  induction s with
  | nil=>intro t _ _ h;cases t with | nil=>rfl | cons _ _=>cases h
  | cons x s ih=>
   intro t hs ht h
   cases t with
   | nil=>cases h
   | cons y t=>
    simp only[List.map_cons,List.cons.injEq] at h
    rw[(ne_eq K (hs x List.mem_cons_self) (ht y List.mem_cons_self)).mp h.1,ih (fun r hr=>hs r (yL _ hr)) (fun r hr=>ht r (yL _ hr)) h.2]
 have intsI:∀{x y:List Int},ai x=ai y→x=y:=by
  intro x
  induction x with
  | nil=>intro y h;cases y with | nil=>rfl | cons _ _=>cases h
  | cons a x ih=>
   intro y h
   cases y with
   | nil=>cases h
   | cons b y=>
    simp only[ai,List.map_cons,List.cons.injEq,PV.int.injEq] at h
    rw[h.1,ih h.2]
 intro a
 induction a with
 | nil=>intro b _ _ h;cases b with | nil=>rfl | cons _ _=>cases h
 | cons s a ih=>
  intro b ha hb h
  cases b with
  | nil=>cases h
  | cons t b=>
   simp only[bV,List.map_cons,List.cons.injEq,PV.tup.injEq] at h
   rw[one (ha s List.mem_cons_self) (hb t List.mem_cons_self) (intsI h.1),ih (fun r hr=>ha r (yL _ hr)) (fun r hr=>hb r (yL _ hr)) h.2]
theorem mi {l:List Nat} (h:Rs m l):∀(rest:List Nat) (s:List Nat×List (List Nat)),Rs m rest→Rs m s.1→(∀t∈s.2,Gs m t∧t.length=3)→s.2.length+rest.length≤5→(∀t∈(rest.foldl bJ s).2,Gs m t∧t.length=3)∧(rest.foldl bJ s).2.length≤5
 | [],s,_,_,hg,hz=>⟨hg,by simpa using hz⟩
 | r::rest,s,hr,h1,hg,hz=>by
  rw[List.foldl_cons]
  have hr1:=hr r List.mem_cons_self
  have hp:s.1.countP (· <r)≤s.1.length:=List.countP_le_length
  refine mi h rest (bJ s r) (fun q hq=>hr q (yL _ hq)) (fun q hq=>?_) (fun t ht=>?_) ?_
  ·rcases jS.mp hq with rfl | hq
   ·exact hr1
   ·exact h1 q hq
  ·unfold bJ at ht
   dsimp only at ht
   split at ht
   ·rcases List.mem_append.mp ht with ht | ht
    ·exact hg t ht
    ·rw[List.mem_singleton.mp ht]
     refine⟨fun q hq=>?_,rfl⟩
     simp only[jE,List.mem_cons,List.not_mem_nil,or_false] at hq
     rcases hq with rfl | rfl | rfl
     ·split
      ·exact .inl rfl
      ·rename_i hne
       have hne:¬s.1.countP (· <r)=0:=by simpa using hne
       exact .inr (.inr (h1 _ (getD_mem (by omega))))
     ·exact .inr (.inr hr1)
     ·split
      ·rename_i hlt;exact .inr (.inr (h1 _ (getD_mem hlt)))
      ·exact .inr (.inl rfl)
   ·exact hg t ht
  ·have:(bJ s r).2.length≤s.2.length+1:=by
    unfold bJ
    dsimp only
    split
    ·simp
    ·omega
   rw[List.length_cons] at hz
   lia
theorem oF {l:List Nat} (h:Rs m l) (hl:l.length≤5):(jD l).2=cJ l∧∀t∈cJ l,Gs m t:=by
 obtain⟨h1,h2⟩:=mi h l ([],[]) h (fun _ h=>nomatch h) (fun _ h=>nomatch h) (by simpa using hl)
 refine⟨?_,fun t ht=>(h1 t (aS.mem_iff.mp ht)).1⟩
 exact l6 (by omega) fun t ht=>(h1 t ht).2
theorem gE {l:List Nat} (h:Rs m l):∀q∈bg l,(1≤q.1∧q.1≤m)∧(1≤q.2∧q.2≤m):=fun q hq=>by
 unfold bg at hq
 obtain⟨z,hz,hq⟩:=List.mem_flatMap.mp hq
 obtain⟨a,ha,rfl⟩:=List.mem_map.mp hq
 have h1:=(List.mem_filter.mp ha).1
 exact⟨h a (List.mem_of_mem_take h1),h _ (fg hz).1⟩
noncomputable abbrev rD (I:Nat→Nat) (l:List (Nat×Nat)):List PV:=l.map fun p=> .txt [ch I p.1,ch I p.2]
theorem mQ (K:Rk I m) {l:List (Nat×Nat)} (h:∀q∈l,(1≤q.1∧q.1≤m)∧(1≤q.2∧q.2≤m)):(PV.lst (rD I l)).gd 2=true:=PV.gy fun p hp=>by
 obtain⟨q,hq,rfl⟩:=List.mem_map.mp hp
 refine PV.eo fun c hc=>?_
 have:=h q hq
 simp only[List.mem_cons,List.not_mem_nil,or_false] at hc
 rcases hc with rfl | rfl
 ·exact cF _ (K.lt _ this.1.1 this.1.2)
 ·exact cF _ (K.lt _ this.2.1 this.2.2)
theorem qo (K:Rk I m) {l:List (Nat×Nat)} (h:∀q∈l,(1≤q.1∧q.1≤m)∧(1≤q.2∧q.2≤m)) {q:Nat×Nat} (hq:(1≤q.1∧q.1≤m)∧(1≤q.2∧q.2≤m)):l.contains q=true↔PV.txt [ch I q.1,ch I q.2]∈rD I l:=by
 rw[List.contains_iff_mem]
 constructor
 ·exact List.mem_map_of_mem
 ·intro z
  obtain⟨q',hq',e⟩:=List.mem_map.mp z
  simp only[PV.str.injEq,Str.mk.injEq,Array.mk.injEq,List.cons.injEq,and_true] at e
  have h':=h q' hq'
  rw[←show q'=q from Prod.ext (K.jH h'.1 hq.1 e.1) (K.jH h'.2 hq.2 e.2)]
  exact hq'
end
theorem xS {I:Nat→Nat} {m:Nat} (K:Rk I m) {R F S:List Nat} (hF:Rs m F) (hFl:F.length≤5) (hS:Rs m S) (hSl:S.length=F.length)
  {FO:List (List Nat)} (hFO:mJ m F.length FO) (hFOl:FO.length≤200)
  {cs:List PV} {c6:Nat} {up:Bool} {al:Bool} {z:Int}
  (hle:Rs m (cq (au F))∧(cq (au F)).length≤5) (hmo:Rs m (cV (au F))∧(cV (au F)).length≤5)
  (g1:al=(cJ S==au F)) (g2:(cJ S==au F)=FO.contains S) (g3:FO.contains S=c7 (au F) S):
  af (CX w mg mb []) (n+20) (bR w.params) (ρI I R F S up cs c6 al z FO) [] ((aZ w.params).drop 29) (vS (.bool true)) (fun q _=>q= .bool true):=by
 have wS:=gE hS
 have wM:=gE hmo.1
 have wL:=gE hle.1
 have lS:=fS S (by omega)
 have lM:=fS (cV (au F)) hmo.2
 have lL:=fS (cq (au F)) hle.2
 refine af.cons (aF.fQ (p:= .tup [.lst (rD I (bg S)), .lst (rD I (bg (cV (au F))))]) (aa.tuple (aj.ag (aa.bK (aa.bj rfl rfl) (by exact rfl) (aj.ag (aa.var rfl) (aj.ag (aa.var rfl) .nil)) (qd (n:=n+19) K hS (by omega))) (aj.ag (aa.bK (aa.bj rfl rfl) (by exact rfl) (aj.ag (aa.var rfl) (aj.ag (aa.var rfl) .nil)) (qd (n:=n+19) K hmo.1 hmo.2)) .nil))) (fM.tuple (bB.cons (.inr ⟨rfl,rfl⟩) (bB.cons (.inr ⟨rfl,rfl⟩) (bB.nil ?_)))) (fun env he=>?sw))
 case sw=>
  obtain⟨⟩:=env
  dsimp only at he
  subst he
  with_unfolding_all rfl
 refine af.cons (aF.assign (p:= .bool (c7 (au F) S)) (aa.cmp (aa.lN (l:=rD I ((bg (cq (au F))).filter fun p=>!(bg S).contains p)) (m:=rD I ((bg S).filter fun p=>!(bg (cV (au F))).contains p)) (bH.frozen (bH.comp (l:=rD I (bg (cq (au F)))) (dj.of (aa.bK (aa.bj rfl rfl) (by exact rfl) (aj.ag (aa.var rfl) (aj.ag (aa.var rfl) .nil)) (qd (n:=n+19) K hle.1 hle.2)) fW.list) ?ov1 ?z1 (by exact aH.jw rfl rfl (by ext)) (by exact allB (by ext)))) (bH.frozen (bH.comp (l:=rD I (bg S)) (dj.of (aa.var rfl) fW.list) ?ov2 ?z2 (by exact aH.jw rfl rfl (by ext)) (by exact allB (by ext)))) ?z3) (aa.list .nil) (ay.vB (d:=2) ?gd rfl ?iff)) (.inl rfl) ?_)
 case ov1=>
  refine aQ.cM (f:=fun p:Nat×Nat=>PV.txt [ch I p.1,ch I p.2]) (b:=fun p=>!(bg S).contains p) (.inl rfl) rfl (fun q hq=>bb.cmp (aa.var rfl) (aa.var (p:= .lst (rD I (bg S))) rfl) (ay.mV (d:=1) (mQ K wS) (PV.eo ?_) (qo K wS (wL q hq))) aJ.bool) fun q hq _=>aa.var rfl
  intro c hc
  simp only[List.mem_cons,List.not_mem_nil,or_false] at hc
  rcases hc with rfl | rfl
  ·exact cF _ (K.lt _ (wL q hq).1.1 (wL q hq).1.2)
  ·exact cF _ (K.lt _ (wL q hq).2.1 (wL q hq).2.2)
 case ov2=>
  refine aQ.cM (f:=fun p:Nat×Nat=>PV.txt [ch I p.1,ch I p.2]) (b:=fun p=>!(bg (cV (au F))).contains p) (.inl rfl) rfl (fun q hq=>bb.cmp (aa.var rfl) (aa.var (p:= .lst (rD I (bg (cV (au F))))) rfl) (ay.mV (d:=1) (mQ K wM) (PV.eo ?_) (qo K wM (wS q hq))) aJ.bool) fun q hq _=>aa.var rfl
  intro c hc
  simp only[List.mem_cons,List.not_mem_nil,or_false] at hc
  rcases hc with rfl | rfl
  ·exact cF _ (K.lt _ (wS q hq).1.1 (wS q hq).1.2)
  ·exact cF _ (K.lt _ (wS q hq).2.1 (wS q hq).2.2)
 case z1=>rw[List.length_map];exact yN (List.length_filter_le ..) (by omega)
 case z2=>rw[List.length_map];exact yN (List.length_filter_le ..) (by omega)
 case z3=>
  rw[List.length_map,List.length_map]
  have a1:=List.length_filter_le (fun p=>!(bg S).contains p) (bg (cq (au F)))
  have a2:=List.length_filter_le (fun p=>!(bg (cV (au F))).contains p) (bg S)
  omega
 case gd=>
  rw[←List.map_append]
  refine mQ K fun q hq=>?_
  rcases List.mem_append.mp hq with hq | hq
  ·exact wL q (List.mem_filter.mp hq).1
  ·exact wS q (List.mem_filter.mp hq).1
 case iff=>
  unfold c7
  rw[beq_iff_eq]
  constructor
  ·intro e;rw[←List.map_append,e];rfl
  ·intro e
   rw[←List.map_append] at e
   simp only[PV.lst.injEq] at e
   exact List.map_eq_nil_iff.mp e
 have gp:=vQ (w:=w) (mg:=mg) (mb:=mb) (n:=n+14) K hS (by omega)
 obtain⟨e1,e2⟩:=oF hS (by omega)
 rw[e1] at gp
 have tgd:∀l:List (List Nat),(PV.lst (bV I l)).gd 4=true:=fun l=>by
  rw[show bV I l=(l.map fun t=>t.map (ne I)).map fun t=>PV.tup (ai t) by simp]
  exact lV
 have ok:=jq K hF
 subst g1
 refine af.cons (aF.ret ((aa.chain (t:= .bool true) (aa.var (p:= .bool (cJ S==au F)) rfl) (.link (c:= .bool true) (q:= .bool (cJ S==au F)) (aa.cmp (aa.sub (aa.bK (aa.bj rfl rfl) (by exact rfl) (aj.ag (aa.var rfl) .nil) gp) aa.cInt (aL.tup rfl (by simp))) (aa.var (p:= .lst (bV I (au F))) rfl) (ay.vB (d:=4) (tgd _) (tgd _) ?i1)) ?c1 aJ.bool (.link (c:= .bool true) (q:= .bool (FO.contains S)) (aa.cmp (aa.var (p:= .txt (zs I S)) rfl) (aa.var (p:= .lst (iP I FO)) rfl) (ay.inD (d:=1) (m6 K hFO) (PV.eo (fw K hS)) (oG K hFO hS))) ?c2 aJ.bool (.last (aa.var (p:= .bool (c7 (au F) S)) rfl) ?c3))))) rfl)
 case i1=>
  rw[beq_iff_eq]
  constructor
  ·intro e;rw[e]
  ·intro e
   simp only[PV.lst.injEq] at e
   exact pE K e2 (fun t ht=>(ok t ht).1) e
 case c1=>
  have:=ay.eqB (X:=CX w mg mb []) (n:=n+15) (a:=cJ S==au F) (b:=cJ S==au F)
  rwa [show((cJ S==au F)==(cJ S==au F))=true by simp] at this
 case c2=>
  have:=ay.eqB (X:=CX w mg mb []) (n:=n+15) (a:=cJ S==au F) (b:=FO.contains S)
  rwa [show((cJ S==au F)==FO.contains S)=true by rw[g2];simp] at this
 case c3=>
  have:=ay.eqB (X:=CX w mg mb []) (n:=n+15) (a:=FO.contains S) (b:=c7 (au F) S)
  rwa [show(FO.contains S==c7 (au F) S)=true by rw[g3];simp] at this
noncomputable def iB (R:List Nat):Bool:=R.all fun r=>r==1||R.contains (r - 1)
structure Facts (R S:List Nat):Prop where
 f0:1≤(aR R).length
 f1:(R.foldl bJ ([],[])).1=bP R
 f2:cJ R=au (aR R)
 f3:∀t∈au (aR R),bT (b9 R (gA t) (gC t)) R=some (ik R (gA t) (gB t))
 f4:∀t∈au (aR R),(bT (b9 R (gA t) (gC t)) S).isSome=true
 f5:∀t∈au (aR R),gA t≤gB t∧gB t≤gC t∧R.countP (·≤gA t)≤R.countP (· <gC t)
 f6:∀s t,s∈au (aR R)→t∈au (aR R)→gA s=gA t→gC s=gC t→s=t
 f7:∀s t,s∈au (aR R)→t∈au (aR R)→gB s=gB t→s=t
 fo:∃N FO,bx N 0 [aR R]=some FO∧FO.length≤200∧FO.length*gv (au (aR R))=nO.getD (aR R).length 0∧
  (∀up,(FO.filter fun o=>dF up o==jy up (au (aR R)))=[if up then cq (au (aR R)) else cV (au (aR R))])∧
  (cJ S==au (aR R))=FO.contains S∧FO.contains S=c7 (au (aR R)) S
 g1:jI R (au (aR R)) S=(cJ S==au (aR R))
theorem oJ:∀(D l:List Nat),(∀d,l.count d≤1)→l.countP (fun x=>decide (x∈D))≤D.length
 | [],l,_=>by simp
 | d::D,l,h=>by
  have ih:=oJ D l h
  have h1:l.countP (fun x=>decide (x∈d::D))≤l.countP (fun x=>x==d)+l.countP (fun x=>decide (x∈D)):=by
   clear ih h
   induction l with
   | nil=>simp
   | cons x l ih=>
    simp only[List.countP_cons]
    by_cases p:x=d<;>by_cases q:x∈D<;>simp[p,q] at* <;>omega
  have h2:l.countP (fun x=>x==d)=l.count d:=rfl
  have:=h d
  rw[List.length_cons];lia
theorem wg (D:List Nat) (h5:D.length=5) (h:∀d∈D,d<24):∃m I R,Rk I m∧Rs m R∧R.length=5∧D=R.map I∧iB R=true:=by
 obtain⟨U,hU⟩:∃U,U=(List.range 24).filter fun x=>decide (x∈D):=⟨_,rfl⟩
 have hm:∀{x},x∈U↔x∈D:=fun {x}=>by
  rw[hU,List.mem_filter,List.mem_range,decide_eq_true_eq]
  exact⟨fun q=>q.2,fun q=>⟨h x q,q⟩⟩
 have hs:U.Pairwise (· < ·):=by rw[hU];exact List.Pairwise.filter _ List.pairwise_lt_range
 have hz:U.length≤5:=by
  rw[hU,←List.countP_eq_length_filter,←h5]
  exact oJ D _ (fun d=>by
   have:=List.nodup_iff_count.mp (List.nodup_range (n:=24)) d
   exact this)
 have hidx:∀{d},d∈D→U.idxOf d<U.length∧U.getD (U.idxOf d) 0=d:=fun {d} hd=>by
  have:=List.idxOf_lt_length_of_mem (hm.mpr hd)
  refine⟨this,?_⟩
  rw[yK,yM this]
  simp
 have hlt:∀i,i<U.length→U.getD i 0<24:=fun i hi=>h _ (hm.mp (by rw[yK,yM hi];exact List.getElem_mem hi))
 refine⟨U.length,fun r=>U.getD (r - 1) 0,D.map fun d=>U.idxOf d+1,⟨fun r h1 h2=>hlt _ (by omega),fun r s h1 h2 h3=>?_,hz⟩,fun r hr=>?_,by simp[h5],?_,?_⟩
 ·have a:r - 1<U.length:=by omega
  have b:s - 1<U.length:=by omega
  simp only[yK,yM a,yM b,Option.getD_some]
  exact List.pairwise_iff_getElem.mp hs _ _ a b (by omega)
 ·obtain⟨d,hd,rfl⟩:=List.mem_map.mp hr
  have:=(hidx hd).1
  lia
 ·rw[List.map_map]
  have:∀(l:List Nat),(∀d∈l,d∈D)→l=l.map ((fun r=>U.getD (r - 1) 0) ∘ fun d=>U.idxOf d+1):=by
   intro l hl
   induction l with
   | nil=>rfl
   | cons d l ih=>
    rw[List.map_cons,←ih fun e he=>hl e (yL _ he)]
    congr 1
    exact(hidx (hl d List.mem_cons_self)).2.symm
  exact this D fun d hd=>hd
 ·unfold iB
  rw[List.all_eq_true]
  intro r hr
  obtain⟨d,hd,rfl⟩:=List.mem_map.mp hr
  rw[Bool.or_eq_true,beq_iff_eq,List.contains_iff_mem]
  by_cases e:U.idxOf d=0
  ·left;lia
  ·right
   have hi:=(hidx hd).1
   have hlt':U.idxOf d - 1<U.length:=by omega
   have hmem:U[U.idxOf d - 1]∈D:=hm.mp (List.getElem_mem hlt')
   refine List.mem_map.mpr ⟨_,hmem,?_⟩
   have hnd:U.Nodup:=hs.imp fun h=>Nat.ne_of_lt h
   rw[List.Nodup.idxOf_getElem hnd];omega
theorem rX {m:Nat} {F:List Nat} (hF:Rs m F) (c5:Nat):Rs m (oN F c5)∧(oN F c5).length=F.length:=by
 have key:∀(ts:List Nat) (s:List Nat),(Rs m s∧s.length=F.length)→Rs m (ts.foldl (iQ F c5) s)∧(ts.foldl (iQ F c5) s).length=F.length:=by
  intro ts
  induction ts with
  | nil=>intro s h;exact h
  | cons t ts ih=>
   intro s h
   refine ih _ ?_
   unfold iQ
   split
   ·rename_i hk;exact jo h hk
   ·exact h
 exact key _ F ⟨hF,rfl⟩
theorem iJ {m:Nat} {F:List Nat} (hF:Rs m F) {r:List Nat→List Nat→Bool}:Rs m ((dc r (au F)).map gB)∧((dc r (au F)).map gB).length=F.length:=by
 refine⟨fun x hx=>?_,?_⟩
 ·obtain⟨t,ht,rfl⟩:=List.mem_map.mp hx
  have:t∈fX F:=aS.mem_iff.mp (aS.mem_iff.mp ht)
  rw[dY] at this
  obtain⟨k,hk,rfl⟩:=List.mem_map.mp this
  exact hF _ (getD_mem (List.mem_range.mp hk))
 ·rw[List.length_map,aS.length_eq,hJ]
theorem uZ {l:List Int} (h:l.length=7∧∀z∈l,0≤z):∃c0 c1 c2 c3 c4 c5 c6:Nat,l=[(c0:Int),c1,c2,c3,c4,c5,c6]:=by
 match l,h with
 | [a,b,c,d,e,f,g],⟨_,h⟩=>
  refine⟨a.toNat,b.toNat,c.toNat,d.toNat,e.toNat,f.toNat,g.toNat,?_⟩
  have hh:∀z∈[a,b,c,d,e,f,g],((z.toNat:Nat):Int)=z:=fun z hz=>Int.toNat_of_nonneg (h z hz)
  rw[hh a (by simp),hh b (by simp),hh c (by simp),hh d (by simp),hh e (by simp),hh f (by simp),hh g (by simp)]
theorem vd (facts:∀(m:Nat) (R:List Nat) (c5:Nat),m≤5→Rs m R→R.length=5→iB R=true→Facts R (oN (aR R) c5)) {xs:List Int} (hx:xs.length≤63):cA (CX w mg mb []) (n+21) 277 [.lst (ai xs)] [] (.bool true):=by
 refine cA.enter (dps:=[]) (dvs:=[]) [nR] (hk:=by exact rfl) rfl rfl rfl rfl (by ext) (fun s g vs kvs h1 h2=>?b) (fun _=>rfl) rfl ?st (by decide) rfl rfl rfl ?cod ?body
 case b=>exact vs1 h1 fun a=>vs0 h2 (Binds.of (fun S=>by with_unfolding_all rfl) s g)
 case st=>exact bI (by ext)
 case cod=>
  intro v q e
  cases (show some (Value.ref 276,("law.<locals>.":Str))=some (v,q) from e)
  exact⟨rfl,by rfl⟩
 case body=>
  refine wz hx ?_
  obtain⟨c0,c1,c2,c3,c4,c5,c6,hc⟩:=uZ (j7 (xs.take 60) (xs.take 60).length)
  rw[hc]
  obtain⟨m,I,R,K,hR,h5,hD,hden⟩:=wg ((tF c0 c1 c2 c3 c4).map (· % 24)) rfl (fun d hd=>by
   obtain⟨c,_,rfl⟩:=List.mem_map.mp hd
   exact Nat.mod_lt _ (by decide))
  have fc:=facts m R c5 K.gQ hR h5 hden
  have hF:=hR.first h5
  have hFl:=gL R
  obtain⟨hS,hSl⟩:=rX hF c5
  obtain⟨e1,_⟩:=oF hR (by omega)
  obtain⟨N,FO,hFO,hFOl,f8,f9,g2,g3⟩:=fc.fo
  have hOk:mJ m (aR R).length FO:=kx hFO fun l hl=>by rw[List.mem_singleton.mp hl];exact⟨hF,rfl⟩
  refine wx K hR h5 hD ?_
  refine xX K hR h5 ?_
  refine xW K hR h5 ?_
  refine xV K hF hFl ?_
  refine xU K hR h5 hF hFl fc.f1 (e1.trans fc.f2) ?_
  refine wu K hR h5 fun W hW hWl=>?_
  refine wt K hR h5 hW hWl ?_
  refine xT K hR h5 hF hFl hS fc.f3 fc.f4 fc.f5 ?_
  refine wq K hF hFl fc.f0 fc.f6 fc.f7 hFO hFOl ?_
  have le:=iJ hF (r:=eK)
  have mo:=iJ hF (r:=eJ)
  have du:=iJ hF (r:=fm (c6 / 4 % 2==0))
  refine wo K hF hFl hOk hFOl du.1 f8 (f9 _) le.1 mo.1 ?_
  exact xS K hF hFl hS hSl hOk hFOl ⟨le.1,by show((dc eK _).map gB).length≤5;omega⟩ ⟨mo.1,by show((dc eJ _).map gB).length≤5;omega⟩ fc.g1 g2 g3
noncomputable def gf (m:Nat) (s:List Nat) (k:Nat):List Nat:=if k+1<m then bQ s k else s
theorem sd:((List.range 6).all fun m=>m==0||(List.range 5).all fun a=>(List.range 5).all fun b=>(List.range 5).all fun c=>(PR m).contains (gf m (gf m (gf m (List.range m) a) b) c))=true:=by decide +kernel
theorem uN (m:Nat) (h6:m<6) (h1:1≤m) (a:Nat) (ha:a<5) (b:Nat) (hb:b<5) (c:Nat) (hc:c<5):gf m (gf m (gf m (List.range m) a) b) c∈PR m:=by
 have h:=List.all_eq_true.mp sd m (List.mem_range.mpr h6)
 rw[Bool.or_eq_true] at h
 rcases h with h | h
 ·rw[beq_iff_eq] at h;lia
 ·have h:=List.all_eq_true.mp (List.all_eq_true.mp (List.all_eq_true.mp h a (List.mem_range.mpr ha)) b (List.mem_range.mpr hb)) c (List.mem_range.mpr hc)
  exact List.contains_iff_mem.mp h
theorem oZ {F s:List Nat} {k:Nat} (h:k+1<s.length):bQ (jf F s) k=jf F (bQ s k):=by
 unfold bQ jf
 have e:∀j,j<s.length→(s.map fun k=>F.getD k 0).getD j 0=F.getD (s.getD j 0) 0:=fun j hj=>by
  simp[yK,hj]
 rw[e _ h,e _ (by omega)]
 simp
theorem kz {m:Nat} {s:List Nat} {k:Nat} (h:s.length=m):(gf m s k).length=m:=by
 unfold gf
 split
 ·unfold bQ;simp;omega
 ·exact h
theorem iH {F s:List Nat} {k:Nat} (h:s.length=F.length):(if k+1<F.length then bQ (jf F s) k else jf F s)=jf F (gf F.length s k):=by
 unfold gf
 split
 ·rename_i hk;exact oZ (by omega)
 ·rfl
theorem rZ (F:List Nat):jf F (List.range F.length)=F:=by
 unfold jf
 refine List.ext_getElem (by simp) fun i h1 h2=>?_
 simp[yK,h2]
theorem uH {F:List Nat} (h1:1≤F.length) (h5:F.length≤5) (c5:Nat):∃s∈PR F.length,oN F c5=jf F s:=by
 refine⟨_,uN F.length (by omega) h1 (c5 / 5 ^ 0 % 5) (Nat.mod_lt _ (by decide)) (c5 / 5 ^ 1 % 5) (Nat.mod_lt _ (by decide)) (c5 / 5 ^ 2 % 5) (Nat.mod_lt _ (by decide)),?_⟩
 have l0:(List.range F.length).length=F.length:=by simp
 have l1:=kz (k:=c5 / 5 ^ 0 % 5) l0
 have l2:=kz (k:=c5 / 5 ^ 1 % 5) l1
 rw[←iH l2,←iH l1,←iH l0,rZ]
 rfl
theorem vV {l:List Nat} {q:Nat→Bool} (hs:l.Pairwise (·≤·)) (hq:∀a b,a≤b→q b=true→q a=true):l.take (l.countP q)=l.filter q∧l.drop (l.countP q)=l.filter fun x=>!q x:=by
 induction l with
 | nil=>simp
 | cons b l ih=>
  obtain⟨h1,h2⟩:=List.pairwise_cons.mp hs
  obtain⟨i1,i2⟩:=ih h2
  by_cases z:q b=true
  ·rw[List.countP_cons_of_pos z,List.filter_cons_of_pos z,List.filter_cons_of_neg (by simp[z]),List.take_succ_cons,List.drop_succ_cons,i1,i2]
   exact⟨rfl,rfl⟩
  ·have no:∀x∈l,¬q x=true:=fun x hx e=>z (hq b x (h1 x hx) e)
   rw[List.countP_cons_of_neg z,List.countP_eq_zero.mpr no,List.filter_cons_of_neg z,List.filter_eq_nil_iff.mpr no,List.filter_cons_of_pos (by simpa using z)]
   refine⟨rfl,?_⟩
   rw[List.filter_eq_self.mpr fun x hx=>by simpa using no x hx]
   rfl
theorem ui {l:List Nat} {q:Nat→Bool} (hs:l.Pairwise (·≤·)) (hq:∀a b,a≤b→q b=true→q a=true) {i:Nat} (h:i<l.length):q l[i]=true↔i<l.countP q:=by
 induction l generalizing i with
 | nil=>simp at h
 | cons b l ih=>
  obtain⟨h1,h2⟩:=List.pairwise_cons.mp hs
  cases i with
  | zero=>
   rw[List.getElem_cons_zero]
   constructor
   ·intro e;rw[List.countP_cons_of_pos e];omega
   ·intro e
    by_cases z:q b=true
    ·exact z
    ·rw[List.countP_cons_of_neg z,List.countP_eq_zero.mpr fun x hx e=>z (hq b x (h1 x hx) e)] at e;omega
  | succ i=>
   rw[List.getElem_cons_succ,ih h2 (by simpa using h)]
   by_cases z:q b=true
   ·rw[List.countP_cons_of_pos z];lia
   ·rw[List.countP_cons_of_neg z,List.countP_eq_zero.mpr fun x hx e=>z (hq b x (h1 x hx) e)];lia
theorem lE {hit:Nat→Bool} {N k:Nat} (h:hit k=true) (h1:1≤k) (h2:k≤N) (no:∀j,k<j→j≤N→hit j=false):aO hit N=some k:=by
 cases e:aO hit N with
 | none=>rw[cH e k h1 h2] at h;cases h
 | some i=>
  obtain⟨a,b,c,d⟩:=bZ e
  by_cases p:k=i
  ·rw[p]
  ·by_cases q:k<i
   ·rw[no i q c] at a;cases a
   ·rw[d k (by lia) h2] at h;cases h
theorem lD {hit:Nat→Bool} {N:Nat} (no:∀j,1≤j→j≤N→hit j=false):aO hit N=none:=by
 cases e:aO hit N with
 | none=>rfl
 | some i=>
  obtain⟨a,b,c,d⟩:=bZ e
  rw[no i b c] at a;cases a
theorem mH {Ls:List Nat} (hs:Ls.Pairwise (·≤·)) (r:Nat):aO (fun i=>Ls.getD (i - 1) 0==r) Ls.length=if r∈Ls then some (Ls.countP fun x=>decide (x≤r)) else none:=by
 have hq:∀a b,a≤b→decide (b≤r)=true→decide (a≤r)=true:=fun a b h e=>by
  have:=of_decide_eq_true e
  exact decide_eq_true (by omega)
 have at_:∀j,j<Ls.length→Ls.getD j 0=Ls[j]!:=fun j hj=>by simp[yK,hj]
 by_cases hr:r∈Ls
 ·rw[if_pos hr]
  obtain⟨i,hi,e⟩:=List.getElem_of_mem hr
  have hk:=(ui hs hq hi).mp (by rw[e];simp)
  have hle:Ls.countP (fun x=>decide (x≤r))≤Ls.length:=List.countP_le_length
  obtain⟨k,hke⟩:∃k,k=Ls.countP fun x=>decide (x≤r):=⟨_,rfl⟩
  rw[←hke] at hk hle ⊢
  refine lE ?_ (by lia) hle fun j h1 h2=>?_
  ·have hk1:k - 1<Ls.length:=by omega
   have a:=of_decide_eq_true ((ui hs hq hk1).mpr (by lia))
   have b:Ls[i]≤Ls[k - 1]:=by
    by_cases p:i=k - 1
    ·subst p;exact Nat.le_refl _
    ·exact List.pairwise_iff_getElem.mp hs _ _ hi hk1 (by omega)
   rw[yK,yM hk1,beq_iff_eq]
   show Ls[k - 1]=r
   lia
  ·have hj:j - 1<Ls.length:=by omega
   have a:¬decide (Ls[j - 1]≤r)=true:=fun e=>by
    have:=(ui hs hq hj).mp e;lia
   rw[decide_eq_true_eq] at a
   rw[yK,yM hj]
   show(Ls[j - 1]==r)=false
   rw[beq_eq_false_iff_ne];lia
 ·rw[if_neg hr]
  refine lD fun j h1 h2=>?_
  have hj:j - 1<Ls.length:=by omega
  rw[yK,yM hj]
  show(Ls[j - 1]==r)=false
  rw[beq_eq_false_iff_ne]
  intro e
  exact hr (e▸List.getElem_mem hj)
noncomputable def oQ (R t:List Nat) (r:Nat):Nat:=R.countP fun k=>decide (gA t<k)&&decide (k≤r)
theorem jQ {R t:List Nat} (h:gA t<gC t):b9 R (gA t) (gC t)=((bP R).filter fun k=>decide (k<gC t)).filter fun k=>!decide (k≤gA t):=by
 have hs:=dO R
 have q1:∀a b,a≤b→decide (b<gC t)=true→decide (a<gC t)=true:=fun a b h e=>by
  have:=of_decide_eq_true e
  exact decide_eq_true (by omega)
 have q2:∀a b,a≤b→decide (b≤gA t)=true→decide (a≤gA t)=true:=fun a b h e=>by
  have:=of_decide_eq_true e
  exact decide_eq_true (by omega)
 unfold b9
 rw[show R.countP (fun x=>decide (x<gC t))=(bP R).countP (fun x=>decide (x<gC t)) from ((cf R).countP_eq _).symm,show R.countP (fun x=>decide (x≤gA t))=(bP R).countP (fun x=>decide (x≤gA t)) from ((cf R).countP_eq _).symm,(vV hs q1).1]
 have hs1:((bP R).filter fun k=>decide (k<gC t)).Pairwise (·≤·):=hs.filter _
 rw[←(vV hs1 q2).2]
 congr 1
 rw[List.countP_filter]
 refine List.countP_congr fun k _=>?_
 simp only[Bool.and_eq_true,decide_eq_true_eq]
 omega
theorem ea {R t:List Nat} (h:gA t<gC t):∀{S:List Nat},(∀r∈S,r∈R)→bT (b9 R (gA t) (gC t)) S=(S.find? (rG t)).map (oQ R t)
 | [],_=>rfl
 | r::S,hS=>by
  have ih:=ea h (S:=S) fun r hr=>hS r (yL _ hr)
  have hs:(b9 R (gA t) (gC t)).Pairwise (·≤·):=by rw[jQ h];exact((dO R).filter _).filter _
  have hm:r∈b9 R (gA t) (gC t)↔rG t r=true:=by
   rw[jQ h,List.mem_filter,List.mem_filter,k9]
   unfold rG
   simp only[Bool.not_eq_true',decide_eq_false_iff_not,decide_eq_true_eq,Bool.and_eq_true]
   have:=hS r List.mem_cons_self
   constructor
   ·(intro zz;obtain⟨⟨_,a⟩,b⟩:=zz);omega
   ·(intro zz;obtain⟨a,b⟩:=zz);exact⟨⟨this,b⟩,by omega⟩
  unfold bT at ih ⊢
  rw[List.findSome?_cons,mH hs]
  by_cases p:rG t r=true
  ·rw[if_pos (hm.mpr p),List.find?_cons_of_pos p]
   show some _=some _
   congr 1
   rw[jQ h,List.countP_filter,List.countP_filter,(cf R).countP_eq]
   refine List.countP_congr fun k _=>?_
   unfold rG at p
   simp only[Bool.and_eq_true,decide_eq_true_eq,Bool.not_eq_true',decide_eq_false_iff_not] at p ⊢
   omega
  ·rw[if_neg fun e=>p (hm.mp e),List.find?_cons_of_neg p]
   exact ih
theorem nC {l:List Nat} {p q:Nat→Bool} (h:∀x∈l,p x=true→q x=true) {b:Nat} (hb:b∈l) (h1:q b=true) (h2:p b=false):l.countP p<l.countP q:=by
 induction l with
 | nil=>cases hb
 | cons x l ih=>
  have hl:l.countP p≤l.countP q:=List.countP_mono_left fun y hy=>h y (yL _ hy)
  rcases List.mem_cons.mp hb with rfl | hb
  ·rw[List.countP_cons_of_pos h1,List.countP_cons_of_neg (by rw[h2];decide)];omega
  ·have:=ih (fun y hy=>h y (yL _ hy)) hb
   by_cases e:p x=true
   ·rw[List.countP_cons_of_pos e,List.countP_cons_of_pos (h x List.mem_cons_self e)];omega
   ·rw[List.countP_cons_of_neg e]
    by_cases g:q x=true
    ·rw[List.countP_cons_of_pos g];omega
    ·rw[List.countP_cons_of_neg g];exact this
theorem ru {R t:List Nat} {r b:Nat} (hr:r∈R) (hb:b∈R) (ar:gA t<r) (ab:gA t<b) (e:oQ R t r=oQ R t b):r=b:=by
 have key:∀{r b:Nat},b∈R→gA t<b→r<b→oQ R t r<oQ R t b:=fun {r b} hb ab h=>by
  refine nC (fun x _ hx=>?_) hb (by rw[Bool.and_eq_true];exact⟨decide_eq_true ab,decide_eq_true (Nat.le_refl _)⟩) (by rw[Bool.and_eq_false_iff];exact .inr (decide_eq_false (by omega)))
  simp only[Bool.and_eq_true,decide_eq_true_eq] at hx ⊢;omega
 rcases Nat.lt_trichotomy r b with h | h | h
 ·have:=key hb ab h;lia
 ·exact h
 ·have:=key hr ar h;lia
theorem nE {R S:List Nat} (hS:∀r∈S,r∈R) {own:List (List Nat)} (ho:∀t∈own,(gA t<gB t∧gB t<gC t)∧gB t∈R):jI R own S=xt own S:=by
 unfold jI xt
 rw[Bool.eq_iff_iff,List.all_eq_true,List.all_eq_true]
 refine forall_congr' fun t=>forall_congr' fun ht=>?_
 obtain⟨⟨h1,h2⟩,hb⟩:=ho t ht
 rw[ea (by omega) hS,beq_iff_eq,beq_iff_eq]
 have e:ik R (gA t) (gB t)=oQ R t (gB t):=rfl
 rw[e]
 cases hf:S.find? (rG t) with
 | none=>simp
 | some r=>
  have hr:=List.mem_of_find?_eq_some hf
  have hp:=List.find?_some hf
  unfold rG at hp
  simp only[Bool.and_eq_true,decide_eq_true_eq] at hp
  simp only[Option.map_some,Option.some.injEq]
  constructor
  ·exact ru (hS r hr) hb hp.1 h1
  ·intro e;rw[e]
theorem wV (m:Nat) (F:List Nat) (h:F∈AF m):jz F=true:=by
 match m,h with
 | 0,h=>cases h
 | 1,h=>exact List.all_eq_true.mp ya F h
 | 2,h=>exact List.all_eq_true.mp x9 F h
 | 3,h=>exact List.all_eq_true.mp x8 F h
 | 4,h=>exact List.all_eq_true.mp x7 F h
 | 5,h=>
  have h:F∈xI++xH++xG++xF++xE:=h
  simp only[List.mem_append] at h
  rcases h with(((h | h) | h) | h) | h
  ·exact List.all_eq_true.mp xc F h
  ·exact List.all_eq_true.mp w' F h
  ·exact List.all_eq_true.mp w9 F h
  ·exact List.all_eq_true.mp w8 F h
  ·exact List.all_eq_true.mp w7 F h
 | n+6,h=>cases h
noncomputable def uj (R:List Nat):Bool:=decide (1≤(aR R).length)&&(R.foldl bJ ([],[])).1==bP R&&cJ R==au (aR R)&&xt (au (aR R)) R&&(AF (aR R).length).contains (aR R)
noncomputable def d5:List Nat:=[1,2,3,4,5]
noncomputable def oR (a:Nat):Bool:=d5.all fun b=>d5.all fun c=>d5.all fun d=>d5.all fun e=>!iB [a,b,c,d,e]||uj [a,b,c,d,e]
theorem w0:oR 1=true:=by decide +kernel
theorem wZ:oR 2=true:=by decide +kernel
theorem wY:oR 3=true:=by decide +kernel
theorem wX:oR 4=true:=by decide +kernel
theorem wW:oR 5=true:=by decide +kernel
theorem wU {m:Nat} (hm:m≤5) {R:List Nat} (hR:Rs m R) (h5:R.length=5) (hd:iB R=true):uj R=true:=by
 match R,h5 with
 | [a,b,c,d,e],_=>
  have mem:∀x,x∈[a,b,c,d,e]→x∈d5:=fun x hx=>by
   have:=hR x hx
   have h:x=1∨x=2∨x=3∨x=4∨x=5:=by omega
   rcases h with rfl | rfl | rfl | rfl | rfl<;>decide
  have ha:oR a=true:=by
   have:=hR a (by simp)
   have h:a=1∨a=2∨a=3∨a=4∨a=5:=by omega
   rcases h with rfl | rfl | rfl | rfl | rfl
   ·exact w0
   ·exact wZ
   ·exact wY
   ·exact wX
   ·exact wW
  have h:=List.all_eq_true.mp (List.all_eq_true.mp (List.all_eq_true.mp (List.all_eq_true.mp ha b (mem b (by simp))) c (mem c (by simp))) d (mem d (by simp))) e (mem e (by simp))
  rw[hd] at h
  simpa using h
theorem sb:((List.range 6).all fun m=>(PR m).all fun s=>(s.all fun k=>decide (k<m))&&(List.range m).all fun k=>s.contains k)=true:=by decide +kernel
theorem nz {R:List Nat} (h5:R.length=5):∀r∈aR R,r∈R:=fun r hr=>by
 unfold aR at hr
 obtain⟨k,hk,rfl⟩:=List.mem_map.mp hr
 have:=List.mem_range.mp (List.mem_filter.mp hk).1
 exact getD_mem (by omega)
theorem facts (m:Nat) (R:List Nat) (c5:Nat) (hm:m≤5) (hR:Rs m R) (h5:R.length=5) (hd:iB R=true):Facts R (oN (aR R) c5):=by
 have h:=wU hm hR h5 hd
 unfold uj at h
 simp only[Bool.and_eq_true,beq_iff_eq,decide_eq_true_eq,List.contains_iff_mem] at h
 obtain⟨⟨⟨⟨r1,r2⟩,r3⟩,r4⟩,r5⟩:=h
 have hF5:=gL R
 have sub:=nz h5
 obtain⟨s,hs,hsec⟩:=uH r1 hF5 c5
 rw[hsec]
 have hpr:=List.all_eq_true.mp (List.all_eq_true.mp sb _ (List.mem_range.mpr (show(aR R).length<6 by omega))) s hs
 rw[Bool.and_eq_true,List.all_eq_true,List.all_eq_true] at hpr
 obtain⟨p1,p2⟩:=hpr
 obtain⟨F,hF⟩:∃F,F=aR R:=⟨_,rfl⟩
 rw[←hF] at r1 r3 r4 r5 hF5 sub hs p1 p2
 have hc:=wV _ F r5
 have mF:∀k,k<F.length→F.getD k 0∈F:=fun k hk=>getD_mem hk
 have sF:∀r∈jf F s,r∈F:=fun r hr=>by
  obtain⟨k,hk,rfl⟩:=List.mem_map.mp hr
  exact mF k (of_decide_eq_true (p1 k hk))
 have Fs:∀r∈F,r∈jf F s:=fun r hr=>by
  obtain⟨k,hk,rfl⟩:=List.getElem_of_mem hr
  refine List.mem_map.mpr ⟨k,List.contains_iff_mem.mp (p2 k (List.mem_range.mpr hk)),?_⟩
  simp[yK,hk]
 have oB:∀t∈au F,gB t∈F:=fun t ht=>by
  have:t∈fX F:=aS.mem_iff.mp ht
  rw[dY] at this
  obtain⟨k,hk,rfl⟩:=List.mem_map.mp this
  exact mF k (List.mem_range.mp hk)
 unfold jz at hc
 rw[Bool.and_eq_true] at hc
 obtain⟨ho,hc⟩:=hc
 have ho:=List.all_eq_true.mp ho
 have o1:∀t∈au F,gA t<gB t∧gB t<gC t:=fun t ht=>by
  have:=ho t ht
  rw[Bool.and_eq_true,Bool.and_eq_true] at this
  exact⟨of_decide_eq_true this.1.1,of_decide_eq_true this.1.2⟩
 have o2:∀t∈au F,∀u∈au F,((!(gA t==gA u&&gC t==gC u)||t==u)&&(!(gB t==gB u)||t==u))=true:=fun t ht u hu=>by
  have:=ho t ht
  rw[Bool.and_eq_true] at this
  exact List.all_eq_true.mp this.2 u hu
 have ow:∀t∈au F,(gA t<gB t∧gB t<gC t)∧gB t∈R:=fun t ht=>⟨o1 t ht,sub _ (oB t ht)⟩
 have f6:∀t u,t∈au F→u∈au F→gA t=gA u→gC t=gC u→t=u:=fun t u ht hu h1 h2=>by
  have:=o2 t ht u hu
  rw[Bool.and_eq_true,Bool.or_eq_true] at this
  rcases this.1 with z | z
  ·rw[h1,h2] at z;simp at z
  ·exact beq_iff_eq.mp z
 have f7:∀t u,t∈au F→u∈au F→gB t=gB u→t=u:=fun t u ht hu h1=>by
  have:=o2 t ht u hu
  rw[Bool.and_eq_true,Bool.or_eq_true,Bool.or_eq_true] at this
  rcases this.2 with z | z
  ·rw[h1] at z;simp at z
  ·exact beq_iff_eq.mp z
 have f5:∀t∈au F,gA t≤gB t∧gB t≤gC t∧R.countP (·≤gA t)≤R.countP (· <gC t):=fun t ht=>by
  have:=o1 t ht
  refine⟨by omega,by omega,List.countP_mono_left fun x _ hx=>?_⟩
  have:=of_decide_eq_true hx
  exact decide_eq_true (by omega)
 cases e:bx 130 0 [F] with
 | none=>rw[e] at hc;cases hc
 | some FO=>
  rw[e] at hc
  simp only[Bool.and_eq_true,beq_iff_eq,decide_eq_true_eq] at hc
  obtain⟨⟨⟨⟨q1,q2⟩,q3⟩,q4⟩,q5⟩:=hc
  have q:=List.all_eq_true.mp q5 s hs
  unfold vW at q
  simp only[Bool.and_eq_true] at q
  obtain⟨⟨q6,q7⟩,q8⟩:=q
  have q6:=beq_iff_eq.mp q6
  have q7:=beq_iff_eq.mp q7
  have q8:=beq_iff_eq.mp q8
  refine⟨hF▸r1,r2,hF▸r3,?_,?_,hF▸f5,hF▸f6,hF▸f7,⟨130,FO,hF▸e,q1,hF▸q2,fun up=>?_,?_,?_⟩,?_⟩
  ·rw[←hF]
   intro t ht
   have w:=o1 t ht
   rw[ea (by omega) (fun r hr=>hr)]
   have:=List.all_eq_true.mp r4 t ht
   rw[beq_iff_eq.mp this];rfl
  ·rw[←hF]
   intro t ht
   have w:=o1 t ht
   rw[ea (by omega) (fun r hr=>sub r (sF r hr)),Option.isSome_map,List.find?_isSome]
   exact⟨gB t,Fs _ (oB t ht),by unfold rG;rw[Bool.and_eq_true];exact⟨decide_eq_true w.1,decide_eq_true w.2⟩⟩
  ·rw[←hF]
   cases up
   ·exact q4
   ·exact q3
  ·rw[←hF];exact q7
  ·rw[←hF];exact q8
  ·rw[←hF,nE (fun r hr=>sub r (sF r hr)) ow];exact q6
end
section
open PySem PySem.W PySem.W.X PyProof.Rows PySem.Calls
theorem tabIn {K:Frag} {h:Heap} (X:K.In h) {c P:Addr} {q:Str} {d:Option Addr} {sl:Array (Option Value)} {vs:Array Value} (file:Str) (tf:Tok) (flags:Int) (tg:Tok) (inF:Bool) (text:Int) (tt:Tok) (hc:K.lookup c=some ⟨.type "code",d, .fields vs,sl⟩) (hP:K.lookup P=some {cls:= .none,data:= .fields #[]})
  (h1:vs.getD 11 .none= .ref P) (h2:vs.getD 18 .none= .str file tf) (h3:vs.getD 7 .none= .int flags tg) (h4:vs.getD 9 .none= .bool inF) (h5:vs.getD 10 .none= .int text tt) (h6:vs[11]?=some (.ref P)) (ne:c≠P):fe h c P q∧isCodeTable h P:=by
 have t:h.TableAt c P #[]:=⟨⟨_,vs,X _ _ hc,rfl,rfl,h6⟩,X _ _ hP⟩
 exact⟨⟨ne, #[],⟨_,vs,file,tf,flags,tg,inF,text,tt,_,X _ _ hc,rfl,h1,h2,h3,h4,h5,X _ _ hP,rfl,trivial,ne⟩,t,fun pos c' e=>by cases e⟩,t.isCodeTable⟩
theorem tabsOk {w:World} {mg mb:Str→Option Value} {h:Heap} (X:(hdz.heap_259 w.params).In h):∀t∈(CX w mg mb []).tabs,fe h t.1 t.2.1 t.2.2∧isCodeTable h t.2.1:=by
 intro t ht
 simp only[CX,List.mem_cons,List.not_mem_nil,or_false] at ht
 rcases ht with rfl | rfl | rfl | rfl
 ·exact tabIn X _ _ _ _ _ _ _ (c:=144) (P:=140) rfl rfl rfl rfl rfl rfl rfl rfl (by decide)
 ·exact tabIn X _ _ _ _ _ _ _ (c:=151) (P:=147) rfl rfl rfl rfl rfl rfl rfl rfl (by decide)
 ·exact tabIn X _ _ _ _ _ _ _ (c:=239) (P:=235) rfl rfl rfl rfl rfl rfl rfl rfl (by decide)
 ·exact tabIn X _ _ _ _ _ _ _ (c:=276) (P:=274) rfl rfl rfl rfl rfl rfl rfl rfl (by decide)
theorem wD {P:Params} {h:Heap} (X:(hdz.heap_259 P).In h) (A:AllIn h (hdz.heap_259 P)):(KK P).In h:=by
 have key:∀{K:Frag},AllIn h K→∀p∈K,h.get? p.1=some p.2:=by
  intro K
  induction K with
  | nil=>intro _ p hp;cases hp
  | cons q K ih=>
   intro A p hp
   rcases List.mem_cons.mp hp with rfl | hp
   ·exact A.1
   ·exact ih A.2 p hp
 intro a o e
 obtain⟨l1,l2,hl,_⟩:=List.lookup_eq_some_iff.mp e
 have hm:(a,o)∈KK P:=by rw[hl];simp
 exact key A (a,o) (List.mem_filter.mp hm).1
theorem je {h h':Heap} (k:∀b o,h.get? b=some o→h'.get? b=some o):∀{K:Frag},AllIn h K→AllIn h' K
 | [],_=>trivial
 | _::_,A=>⟨k _ _ A.1,je k A.2⟩
theorem sM {w:World} {mg mb:Str→Option Value} {s₁:Shared} {xs:List Int} {vs:List Value} {Q E:Value→Shared→Prop} (K0:(hdz.heap_259 w.params).In s₁.heap) (A0:AllIn s₁.heap (hdz.heap_259 w.params))
  (g:s₁.heap.Ns mainGlobals mg) (b:s₁.heap.Ns builtinsNs mb) (nl:s₁.heap.NoLimit) (nd:∃mc,s₁.heap.Ns cStatics mc∧mc "sys.int_max_str_digits" =none) (bi:∀x:Str,x≠"__name__"→mb x=bootBuiltins x)
  (bm:∃bm ob,mg "__builtins__" =some (.ref bm)∧bm≠builtinsNs∧s₁.heap.get? bm=some ob∧ob.cls= .type "module"∧ob.dict=some builtinsNs∧ob.data= .plain)
  (hg:s₁.gens= #[]) (hL:s₁.heap.IsList 278 vs.toArray) (hi:IntsAre vs xs) (hx:xs.length≤63)
  (q:∀s',OldK s₁.heap s'.heap→s'.os=s₁.os→AllBare s'.gens→Q (.bool true) s'):wpAny (model PySem.Challenge.rw_ux0035_01.row.prog w) callerA (call (.ref 277) [.ref 278]) Q E s₁:=by
 have tabs:=tabsOk (mg:=mg) (mb:=mb) K0
 obtain⟨o,ho,hc,m,hd⟩:=hL
 have gnd:b5 (CX w mg mb []) s₁.heap:=⟨by show(KK w.params++[]).In s₁.heap;rw[List.append_nil];exact wD K0 A0,g,b,nl,nd,bi,bm,fun t ht=>(tabs t ht).1⟩
 obtain⟨G,hG⟩:∃G:ae,G=fun b=>if b=278 then s₁.heap.get? 278 else none:=⟨_,rfl⟩
 have base:Base (CX w mg mb []) s₁ G:=by
  refine⟨gnd,fun b o e=>?_,hg▸AllBare.empty,fun t ht=>?_⟩
  ·rw[hG] at e
   dsimp only at e
   split at e
   ·rename_i z;rw[z];exact e
   ·cases e
  ·rw[hG]
   dsimp only
   rw[if_neg]
   simp only[CX,List.mem_cons,List.not_mem_nil,or_false] at ht
   rcases ht with rfl | rfl | rfl | rfl<;>decide
 have intsR:∀{vs:List Value} {xs:List Int},IntsAre vs xs→aE G (ai xs) vs:=by
  intro vs xs h
  induction h with
  | nil=>exact aE.nil
  | cons n t _ ih=>exact aE.cons ⟨_,rfl⟩ ih
 have rd:Rd G (.lst (ai xs)) (.ref 278):=⟨278,o,vs,m,rfl,by rw[hG];dsimp only;rw[if_pos rfl];exact ho,hc,hd,intsR hi⟩
 refine wpAny_call (vd (w:=w) (mg:=mg) (mb:=mb) (n:=0) facts hx callerA s₁ G [.ref 278] [] _ ?_ base (aE.cons rd aE.nil) aE.nil fun v s' G' t d=>?_)
 ·exact⟨by decide,by decide,rfl⟩
 ·cases d
  exact q s' (t.keep.oldK fun t ht=>(tabs t ht).2) t.os t.gens.1
end
end Mine.Internal
open PySem PySem.W PySem.W.X PyProof.Rows PySem.Calls
theorem PySem.Challenge.cw_ux0035_01_holds : PySem.Challenge.rw_ux0035_01.Holds := by
 refine hdz ?_
 k_fill
 intro w s₀ s₁ mg mb G y fa o pm cd doc dV kV ho hd hcd hD hmg hg args vals as L hpre hlay hrd hwl hlo
 obtain⟨ZH,KX,ZN,ZT⟩:=z_facts (fun _=>by ext) y
 refine Ground.open G ?_
 intro T B D TE TW
 wrow_args hpre hlay hrd hwl hlo
 obtain⟨hat,hsz⟩:=script_at L
 rw[ZN] at hat hsz
 subst hat
 have K1:(hdz.heap_259 w.params).In s₁.heap:=Frag.In.keeps KX L.keeps
 have hfa:fa=277:=by
  have h1:=mg_of (n:=PySem.Str.ofString "law") K1 T.g (v:= .ref 277) (by ext)
  have h2:mg (PySem.Str.ofString "law")=some (.ref fa):=Mine.Internal.th▸hmg
  rw[h1] at h2
  cases h2;rfl
 subst hfa
 refine Mine.Internal.sM K1 ?_ T.g T.b T.nolimit T.nodigits T.builtins T.bmain hg (by assumption) (by assumption) (by omega) fun s' h1 h2 h3=>?_
 ·exact Mine.Internal.je L.keeps ZH
 ·refine⟨.inl ⟨_,_,[],rfl,?_,ReadsW.bool true,?_,fun _=>⟨List.nodup_nil,fun _ hm=>(nomatch hm)⟩⟩,h1,h2,h3⟩
  ·exact raisesW_false (by wrow_none_raised)
  ·wrow_post
