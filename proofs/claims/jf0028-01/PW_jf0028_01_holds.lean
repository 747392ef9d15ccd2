import PyProof.Rows.All
import Wide.All
import OpenK.AllK
import Wide.FinOn
import PyProof.FactsAll.list_3
import PyProof.FactsAll.list_4
import PyProof.FactsAll.dict_0
import PyProof.FactsAll.dict_1
import PyProof.FactsAll.dict_2
import PyProof.FactsAll.dict_3
import PyProof.DictItems
import PyProof.DictIter
import PyProof.WalksPairs
import KE.KDictList
import KE.KPairComp
import KE.KItemsList
import PyProof.Rows.TupAssign
import PyProof.SetScanFacts
import PyProof.SetRoads
import PyProof.FactsAll.set_4
import PyProof.SetNew
import PyProof.GenQ
import PyProof.Cells
import PyProof.GenArm
import PyProof.CodeObjX
import KE.KDictOf
import PyProof.AttrMissHeap
import PyProof.DictWalks
import PyProof.Rows.SetFrom
import PyProof.MeetsDict
import PyProof.DictTruth
import PyProof.DelItemList
import PyProof.NeKinds
import KE.KEqDict
import KE.KSortTup
import PyProof.RulesDel
import PyProof.IsiHeapPairs
import PyProof.IsiPairs
import PyProof.Rows.StrTemp
import KE.KStar
import PyProof.NoPylong
import PyProof.Rows.SumAny
import PyProof.ExcFactsAll.TypeError
import PyProof.SliceMore
import PyProof.ListIndexNeg
import PyProof.GenRules
import Lean
import PySem.Challenge.RW_jf0028_01
set_option Elab.async false
set_option genSizeOf false
set_option genInjectivity false
set_option maxRecDepth 100000
open PySem PySem.W PyProof.Rows PySem.Calls
open PySem PySem.W PyProof.Rows
set_option Elab.async false
namespace Mine
noncomputable def view:Program:=
 { PySem.Challenge.rw_jf0028_01.prog with main:={ PySem.Challenge.rw_jf0028_01.prog.main with body:=PySem.Challenge.rw_jf0028_01.prog.main.body.take 1++((PySem.Challenge.rw_jf0028_01.prog.main.body.drop 2).take 2++((PySem.Challenge.rw_jf0028_01.prog.main.body.drop 5).take 3++PySem.Challenge.rw_jf0028_01.prog.main.body.drop 9)) } }
noncomputable def tabsHook (H:Hook) (as:List Addr):Hook:=
 ⟨H.α×List (Option Obj)×Bool,fun s=>(H.obs s,as.map s.heap.get?,(s.heap.get? sysModules).isSome),fun w=>(H.val w,as.map fun _=>some { cls:=.none,data:=.fields #[] },true),
  fun w h=>H.says w h∧(∀a∈as,h.get? a=some { cls:=.none,data:=.fields #[] })∧∃o,h.get? sysModules=some o,
  fun w s e=>⟨H.of w s (congrArg Prod.fst e),fun a ha=>List.map_inj_left.mp (congrArg (fun x=>x.2.1) e) a ha,Option.isSome_iff_exists.mp (congrArg (fun x=>x.2.2) e)⟩,
  fun w h h' y k=>⟨H.keeps w h h' y.1 k,fun a ha=>k _ _ (y.2.1 a ha),y.2.2.elim fun o e=>⟨o,k _ _ e⟩⟩⟩
theorem hdl (H:Hook) {d:DefRec} {kwd:List (Str×Expr)}
  (hl:LeftO PySem.Challenge.rw_jf0028_01.row.prog view [] (fun s=>xlAt view [] s && recOk PySem.Challenge.rw_jf0028_01.row.toRowW.records s) (tabsHook H [93,114,170]).obs (tabsHook H [93,114,170]).val 2802)
  (h1:defOf view PySem.Challenge.rw_jf0028_01.row.name=some (d,kwd)) (h2:PySem.Challenge.rw_jf0028_01.row.prog.theDef PySem.Challenge.rw_jf0028_01.row.name=some (d.params,d.body,d.scope)) (h3:kwWritten? d.params.kwonlyargs d.params.kw_defaults=some kwd)
  (h4:PySem.Challenge.rw_jf0028_01.row.wellSaid=true) (hw:PySem.Challenge.rw_jf0028_01.row.toRowW.promised) (hc:WalkO view [] (XL view []) (tabsHook H [93,114,170]).says PySem.Challenge.rw_jf0028_01.row.toRowW d kwd fun f vs=>PySem.call f vs):PySem.Challenge.rw_jf0028_01.row.Holds:=
 holds_open hl (tabsHook H [93,114,170]).of (tabsHook H [93,114,170]).keeps (fun s e=>xl_of s (Bool.and_eq_true_iff.mp e).1) XL.keeps h1 h2 h3 (fun s e=>recFacts_of (Bool.and_eq_true_iff.mp e).2) (by rfl) h4 (by decide +kernel) ⟨rfl,rfl,rfl,rfl,rfl,by decide +kernel⟩ hw hc
set_option maxRecDepth 100000 in
set_option maxHeartbeats 8000000 in
theorem wr:namesResolve PySem.Challenge.rw_jf0028_01.row.prog=true:=by kernel_rfl
set_option maxRecDepth 100000 in
set_option maxHeartbeats 8000000 in
theorem wn:PySem.Challenge.rw_jf0028_01.row.prog.boundNames.all (fun n=>!worldNames.contains n)=true:=by kernel_rfl
set_option maxRecDepth 100000 in
set_option maxHeartbeats 8000000 in
theorem wm:namesMeet PySem.Challenge.rw_jf0028_01.row.prog PySem.Challenge.rw_jf0028_01.row.prog.main.body (fun _ n=>attrL n)=true:=by kernel_rfl
set_option maxRecDepth 100000 in
set_option maxHeartbeats 8000000 in
theorem wl:looksOpen PySem.Challenge.rw_jf0028_01.row.prog=true:=by
 delta looksOpen
 with_reducible refine look_both ?_ wm
 with_reducible refine look_both ?_ ?_
 ·with_reducible refine look_both ?_ wn
  with_reducible refine look_both ?_ wr
  kernel_rfl
 ·kernel_rfl
set_option maxRecDepth 100000 in
set_option maxHeartbeats 8000000 in
theorem wp:PySem.Challenge.rw_jf0028_01.row.partSaid=true:=by
 delta OpenRow.partSaid
 iterate 13 with_reducible refine look_both ?_ ?_
 ·exact wl
 all_goals kernel_rfl
set_option maxRecDepth 100000 in
set_option maxHeartbeats 8000000 in
theorem lwl (h:PySem.Challenge.rw_jf0028_01.row.wellSaid=true→PySem.Challenge.rw_jf0028_01.row.Holds):PySem.Challenge.rw_jf0028_01.Holds:=by
 refine holds_law ?_ h
 delta OpenLaw.wellSaid
 iterate 18 with_reducible refine look_both ?_ ?_
 ·delta OpenRow.wellSaid
  iterate 2 with_reducible refine look_both ?_ ?_
  ·exact wp
  all_goals kernel_rfl
 all_goals kernel_rfl
local macro_rules | `(tactic| o_head $H) => `(tactic| refine hdl $H (fun _ => by kernel_rfl) (by rfl) (by rfl) (by rfl) (by assumption) ?hw ?_)
local macro_rules | `(tactic| o_law) => `(tactic| refine lwl fun said => ?_)
set_option maxRecDepth 100000 in
set_option maxHeartbeats 8000000 in
open_top hd for PySem.Challenge.rw_jf0028_01
end Mine
namespace Mine
theorem E0A2 {p1 p2:Prop} {C:Prop} (h:p1∧p2) (k:p1→p2→C):C:=k h.1 h.2
theorem E0A3 {p1 p2 p3:Prop} {C:Prop} (h:p1∧p2∧p3) (k:p1→p2→p3→C):C:=k h.1 h.2.1 h.2.2
theorem E0A4 {p1 p2 p3 p4:Prop} {C:Prop} (h:p1∧p2∧p3∧p4) (k:p1→p2→p3→p4→C):C:=k h.1 h.2.1 h.2.2.1 h.2.2.2
theorem E0A5 {p1 p2 p3 p4 p5:Prop} {C:Prop} (h:p1∧p2∧p3∧p4∧p5) (k:p1→p2→p3→p4→p5→C):C:=k h.1 h.2.1 h.2.2.1 h.2.2.2.1 h.2.2.2.2
theorem E0A6 {p1 p2 p3 p4 p5 p6:Prop} {C:Prop} (h:p1∧p2∧p3∧p4∧p5∧p6) (k:p1→p2→p3→p4→p5→p6→C):C:=k h.1 h.2.1 h.2.2.1 h.2.2.2.1 h.2.2.2.2.1 h.2.2.2.2.2
theorem E1A1 {α:Type} {p1:α→Prop} {C:Prop} (h:∃a,p1 a) (k:∀a,p1 a→C):C:=h.elim fun a h=>k a h
theorem E1A2 {α:Type} {p1 p2:α→Prop} {C:Prop} (h:∃a,p1 a∧p2 a) (k:∀a,p1 a→p2 a→C):C:=h.elim fun a h=>k a h.1 h.2
theorem E1A3 {α:Type} {p1 p2 p3:α→Prop} {C:Prop} (h:∃a,p1 a∧p2 a∧p3 a) (k:∀a,p1 a→p2 a→p3 a→C):C:=h.elim fun a h=>k a h.1 h.2.1 h.2.2
theorem E1A4 {α:Type} {p1 p2 p3 p4:α→Prop} {C:Prop} (h:∃a,p1 a∧p2 a∧p3 a∧p4 a) (k:∀a,p1 a→p2 a→p3 a→p4 a→C):C:=h.elim fun a h=>k a h.1 h.2.1 h.2.2.1 h.2.2.2
theorem E1A6 {α:Type} {p1 p2 p3 p4 p5 p6:α→Prop} {C:Prop} (h:∃a,p1 a∧p2 a∧p3 a∧p4 a∧p5 a∧p6 a) (k:∀a,p1 a→p2 a→p3 a→p4 a→p5 a→p6 a→C):C:=h.elim fun a h=>k a h.1 h.2.1 h.2.2.1 h.2.2.2.1 h.2.2.2.2.1 h.2.2.2.2.2
theorem E1A7 {α:Type} {p1 p2 p3 p4 p5 p6 p7:α→Prop} {C:Prop} (h:∃a,p1 a∧p2 a∧p3 a∧p4 a∧p5 a∧p6 a∧p7 a) (k:∀a,p1 a→p2 a→p3 a→p4 a→p5 a→p6 a→p7 a→C):C:=h.elim fun a h=>k a h.1 h.2.1 h.2.2.1 h.2.2.2.1 h.2.2.2.2.1 h.2.2.2.2.2.1 h.2.2.2.2.2.2
theorem E1A8 {α:Type} {p1 p2 p3 p4 p5 p6 p7 p8:α→Prop} {C:Prop} (h:∃a,p1 a∧p2 a∧p3 a∧p4 a∧p5 a∧p6 a∧p7 a∧p8 a) (k:∀a,p1 a→p2 a→p3 a→p4 a→p5 a→p6 a→p7 a→p8 a→C):C:=h.elim fun a h=>k a h.1 h.2.1 h.2.2.1 h.2.2.2.1 h.2.2.2.2.1 h.2.2.2.2.2.1 h.2.2.2.2.2.2.1 h.2.2.2.2.2.2.2
theorem E2A1 {α β:Type} {p1:α→β→Prop} {C:Prop} (h:∃a b,p1 a b) (k:∀a b,p1 a b→C):C:=h.elim fun a h=>h.elim fun b h=>k a b h
theorem E2A2 {α β:Type} {p1 p2:α→β→Prop} {C:Prop} (h:∃a b,p1 a b∧p2 a b) (k:∀a b,p1 a b→p2 a b→C):C:=h.elim fun a h=>h.elim fun b h=>k a b h.1 h.2
theorem E2A3 {α β:Type} {p1 p2 p3:α→β→Prop} {C:Prop} (h:∃a b,p1 a b∧p2 a b∧p3 a b) (k:∀a b,p1 a b→p2 a b→p3 a b→C):C:=h.elim fun a h=>h.elim fun b h=>k a b h.1 h.2.1 h.2.2
theorem E2A4 {α β:Type} {p1 p2 p3 p4:α→β→Prop} {C:Prop} (h:∃a b,p1 a b∧p2 a b∧p3 a b∧p4 a b) (k:∀a b,p1 a b→p2 a b→p3 a b→p4 a b→C):C:=h.elim fun a h=>h.elim fun b h=>k a b h.1 h.2.1 h.2.2.1 h.2.2.2
theorem E2A5 {α β:Type} {p1 p2 p3 p4 p5:α→β→Prop} {C:Prop} (h:∃a b,p1 a b∧p2 a b∧p3 a b∧p4 a b∧p5 a b) (k:∀a b,p1 a b→p2 a b→p3 a b→p4 a b→p5 a b→C):C:=h.elim fun a h=>h.elim fun b h=>k a b h.1 h.2.1 h.2.2.1 h.2.2.2.1 h.2.2.2.2
theorem E2A6 {α β:Type} {p1 p2 p3 p4 p5 p6:α→β→Prop} {C:Prop} (h:∃a b,p1 a b∧p2 a b∧p3 a b∧p4 a b∧p5 a b∧p6 a b) (k:∀a b,p1 a b→p2 a b→p3 a b→p4 a b→p5 a b→p6 a b→C):C:=h.elim fun a h=>h.elim fun b h=>k a b h.1 h.2.1 h.2.2.1 h.2.2.2.1 h.2.2.2.2.1 h.2.2.2.2.2
theorem E2A7 {α β:Type} {p1 p2 p3 p4 p5 p6 p7:α→β→Prop} {C:Prop} (h:∃a b,p1 a b∧p2 a b∧p3 a b∧p4 a b∧p5 a b∧p6 a b∧p7 a b) (k:∀a b,p1 a b→p2 a b→p3 a b→p4 a b→p5 a b→p6 a b→p7 a b→C):C:=h.elim fun a h=>h.elim fun b h=>k a b h.1 h.2.1 h.2.2.1 h.2.2.2.1 h.2.2.2.2.1 h.2.2.2.2.2.1 h.2.2.2.2.2.2
theorem E2A8 {α β:Type} {p1 p2 p3 p4 p5 p6 p7 p8:α→β→Prop} {C:Prop} (h:∃a b,p1 a b∧p2 a b∧p3 a b∧p4 a b∧p5 a b∧p6 a b∧p7 a b∧p8 a b) (k:∀a b,p1 a b→p2 a b→p3 a b→p4 a b→p5 a b→p6 a b→p7 a b→p8 a b→C):C:=h.elim fun a h=>h.elim fun b h=>k a b h.1 h.2.1 h.2.2.1 h.2.2.2.1 h.2.2.2.2.1 h.2.2.2.2.2.1 h.2.2.2.2.2.2.1 h.2.2.2.2.2.2.2
theorem E3A2 {α β γ:Type} {p1 p2:α→β→γ→Prop} {C:Prop} (h:∃a b c,p1 a b c∧p2 a b c) (k:∀a b c,p1 a b c→p2 a b c→C):C:=h.elim fun a h=>h.elim fun b h=>h.elim fun c h=>k a b c h.1 h.2
theorem E3A3 {α β γ:Type} {p1 p2 p3:α→β→γ→Prop} {C:Prop} (h:∃a b c,p1 a b c∧p2 a b c∧p3 a b c) (k:∀a b c,p1 a b c→p2 a b c→p3 a b c→C):C:=h.elim fun a h=>h.elim fun b h=>h.elim fun c h=>k a b c h.1 h.2.1 h.2.2
theorem E3A4 {α β γ:Type} {p1 p2 p3 p4:α→β→γ→Prop} {C:Prop} (h:∃a b c,p1 a b c∧p2 a b c∧p3 a b c∧p4 a b c) (k:∀a b c,p1 a b c→p2 a b c→p3 a b c→p4 a b c→C):C:=h.elim fun a h=>h.elim fun b h=>h.elim fun c h=>k a b c h.1 h.2.1 h.2.2.1 h.2.2.2
theorem E3A5 {α β γ:Type} {p1 p2 p3 p4 p5:α→β→γ→Prop} {C:Prop} (h:∃a b c,p1 a b c∧p2 a b c∧p3 a b c∧p4 a b c∧p5 a b c) (k:∀a b c,p1 a b c→p2 a b c→p3 a b c→p4 a b c→p5 a b c→C):C:=h.elim fun a h=>h.elim fun b h=>h.elim fun c h=>k a b c h.1 h.2.1 h.2.2.1 h.2.2.2.1 h.2.2.2.2
theorem E3A6 {α β γ:Type} {p1 p2 p3 p4 p5 p6:α→β→γ→Prop} {C:Prop} (h:∃a b c,p1 a b c∧p2 a b c∧p3 a b c∧p4 a b c∧p5 a b c∧p6 a b c) (k:∀a b c,p1 a b c→p2 a b c→p3 a b c→p4 a b c→p5 a b c→p6 a b c→C):C:=h.elim fun a h=>h.elim fun b h=>h.elim fun c h=>k a b c h.1 h.2.1 h.2.2.1 h.2.2.2.1 h.2.2.2.2.1 h.2.2.2.2.2
theorem E3A7 {α β γ:Type} {p1 p2 p3 p4 p5 p6 p7:α→β→γ→Prop} {C:Prop} (h:∃a b c,p1 a b c∧p2 a b c∧p3 a b c∧p4 a b c∧p5 a b c∧p6 a b c∧p7 a b c) (k:∀a b c,p1 a b c→p2 a b c→p3 a b c→p4 a b c→p5 a b c→p6 a b c→p7 a b c→C):C:=h.elim fun a h=>h.elim fun b h=>h.elim fun c h=>k a b c h.1 h.2.1 h.2.2.1 h.2.2.2.1 h.2.2.2.2.1 h.2.2.2.2.2.1 h.2.2.2.2.2.2
theorem E4A2 {α β γ δ:Type} {p1 p2:α→β→γ→δ→Prop} {C:Prop} (h:∃a b c d,p1 a b c d∧p2 a b c d) (k:∀a b c d,p1 a b c d→p2 a b c d→C):C:=h.elim fun a h=>h.elim fun b h=>h.elim fun c h=>h.elim fun d h=>k a b c d h.1 h.2
theorem E4A3 {α β γ δ:Type} {p1 p2 p3:α→β→γ→δ→Prop} {C:Prop} (h:∃a b c d,p1 a b c d∧p2 a b c d∧p3 a b c d) (k:∀a b c d,p1 a b c d→p2 a b c d→p3 a b c d→C):C:=h.elim fun a h=>h.elim fun b h=>h.elim fun c h=>h.elim fun d h=>k a b c d h.1 h.2.1 h.2.2
theorem E4A4 {α β γ δ:Type} {p1 p2 p3 p4:α→β→γ→δ→Prop} {C:Prop} (h:∃a b c d,p1 a b c d∧p2 a b c d∧p3 a b c d∧p4 a b c d) (k:∀a b c d,p1 a b c d→p2 a b c d→p3 a b c d→p4 a b c d→C):C:=h.elim fun a h=>h.elim fun b h=>h.elim fun c h=>h.elim fun d h=>k a b c d h.1 h.2.1 h.2.2.1 h.2.2.2
theorem E4A5 {α β γ δ:Type} {p1 p2 p3 p4 p5:α→β→γ→δ→Prop} {C:Prop} (h:∃a b c d,p1 a b c d∧p2 a b c d∧p3 a b c d∧p4 a b c d∧p5 a b c d) (k:∀a b c d,p1 a b c d→p2 a b c d→p3 a b c d→p4 a b c d→p5 a b c d→C):C:=h.elim fun a h=>h.elim fun b h=>h.elim fun c h=>h.elim fun d h=>k a b c d h.1 h.2.1 h.2.2.1 h.2.2.2.1 h.2.2.2.2
theorem E4A6 {α β γ δ:Type} {p1 p2 p3 p4 p5 p6:α→β→γ→δ→Prop} {C:Prop} (h:∃a b c d,p1 a b c d∧p2 a b c d∧p3 a b c d∧p4 a b c d∧p5 a b c d∧p6 a b c d) (k:∀a b c d,p1 a b c d→p2 a b c d→p3 a b c d→p4 a b c d→p5 a b c d→p6 a b c d→C):C:=h.elim fun a h=>h.elim fun b h=>h.elim fun c h=>h.elim fun d h=>k a b c d h.1 h.2.1 h.2.2.1 h.2.2.2.1 h.2.2.2.2.1 h.2.2.2.2.2
theorem E4A8 {α β γ δ:Type} {p1 p2 p3 p4 p5 p6 p7 p8:α→β→γ→δ→Prop} {C:Prop} (h:∃a b c d,p1 a b c d∧p2 a b c d∧p3 a b c d∧p4 a b c d∧p5 a b c d∧p6 a b c d∧p7 a b c d∧p8 a b c d) (k:∀a b c d,p1 a b c d→p2 a b c d→p3 a b c d→p4 a b c d→p5 a b c d→p6 a b c d→p7 a b c d→p8 a b c d→C):C:=h.elim fun a h=>h.elim fun b h=>h.elim fun c h=>h.elim fun d h=>k a b c d h.1 h.2.1 h.2.2.1 h.2.2.2.1 h.2.2.2.2.1 h.2.2.2.2.2.1 h.2.2.2.2.2.2.1 h.2.2.2.2.2.2.2
theorem E5A2 {α β γ δ ε:Type} {p1 p2:α→β→γ→δ→ε→Prop} {C:Prop} (h:∃a b c d e,p1 a b c d e∧p2 a b c d e) (k:∀a b c d e,p1 a b c d e→p2 a b c d e→C):C:=h.elim fun a h=>h.elim fun b h=>h.elim fun c h=>h.elim fun d h=>h.elim fun e h=>k a b c d e h.1 h.2
theorem E6A2 {α β γ δ ε ζ:Type} {p1 p2:α→β→γ→δ→ε→ζ→Prop} {C:Prop} (h:∃a b c d e f,p1 a b c d e f∧p2 a b c d e f) (k:∀a b c d e f,p1 a b c d e f→p2 a b c d e f→C):C:=h.elim fun a h=>h.elim fun b h=>h.elim fun c h=>h.elim fun d h=>h.elim fun e h=>h.elim fun f h=>k a b c d e f h.1 h.2
theorem E7A2 {α β γ δ ε ζ η:Type} {p1 p2:α→β→γ→δ→ε→ζ→η→Prop} {C:Prop} (h:∃a b c d e f g,p1 a b c d e f g∧p2 a b c d e f g) (k:∀a b c d e f g,p1 a b c d e f g→p2 a b c d e f g→C):C:=h.elim fun a h=>h.elim fun b h=>h.elim fun c h=>h.elim fun d h=>h.elim fun e h=>h.elim fun f h=>h.elim fun g h=>k a b c d e f g h.1 h.2
theorem bl0 {a b:Nat} (h:Nat.ble a b=true):a≤b:=Nat.le_of_ble_eq_true h
theorem bl1 {n a m:Nat} (h:Nat.ble m a=true):m≤n+a:=Nat.le_trans (bl0 h) (Nat.le_add_left a n)
theorem bl2 {n a b m:Nat} (h:Nat.ble m (a+b)=true):m≤n+a+b:=Nat.add_assoc n a b▸bl1 h
theorem bl3 {n a b m:Nat} (h:Nat.ble m (a+b)=true):n+m≤n+a+b:=Nat.add_assoc n a b▸Nat.add_le_add_left (bl0 h) n
theorem tr1 {a b c:Nat} (h:a≤b) (h2:Nat.ble b c=true):a≤c:=Nat.le_trans h (bl0 h2)
theorem eq1 {a b c:Nat} (e:a=b) (h:b≤c):a≤c:=e▸h
theorem eq2 {a b c:Nat} (e:b=a) (h:b≤c):a≤c:=e▸h
inductive Ex2 {α β:Type} (p:α→β→Prop):Prop|intro (a:α) (b:β) (h:p a b)
inductive Ex7 {α β γ δ ε ζ η:Type} (p:α→β→γ→δ→ε→ζ→η→Prop):Prop|intro (a:α) (b:β) (c:γ) (d:δ) (e:ε) (f:ζ) (g:η) (h:p a b c d e f g)
inductive Ex4 {α β γ δ:Type} (p:α→β→γ→δ→Prop):Prop|intro (a:α) (b:β) (c:γ) (d:δ) (h:p a b c d)
inductive An3 (a b c:Prop):Prop|intro (h1:a) (h2:b) (h3:c)
inductive An4 (a b c d:Prop):Prop|intro (h1:a) (h2:b) (h3:c) (h4:d)
inductive An8 (a b c d e f g h:Prop):Prop|intro (h1:a) (h2:b) (h3:c) (h4:d) (h5:e) (h6:f) (h7:g) (h8:h)
theorem six {r:Int} (h0:0≤r) (h6:r<6):r=0∨r=1∨r=2∨r=3∨r=4∨r=5:=by lia
theorem sixA {r:Int} (h:0≤r∧r<6):r=0∨r=1∨r=2∨r=3∨r=4∨r=5:=six h.1 h.2
theorem sb0 {n i k:Nat} (h:n - i=k+1):i<n:=Nat.lt_of_sub_pos (h▸Nat.succ_pos k)
theorem sb1 {n i k:Nat} (h:n - i=k+1):n - (i+1)=k:=by rw[Nat.sub_add_eq,h]; rfl
theorem sb3 {n i k:Nat} (h:n - k=i+1):n - 1 - k=i:=by rw[Nat.sub_right_comm,h]; rfl
theorem sb4 {n i k:Nat} (h:n - i=k+1) (h2:i<n):n - k=i+1:=by lia
theorem sb7 {n i:Nat} (h:n - i=0) (h2:i≤n):i=n:=Nat.le_antisymm h2 (Nat.le_of_sub_eq_zero h)
theorem sb8 {n:Nat} (h:0<n):n=n - 1+1:=(Nat.sub_add_cancel h).symm
theorem sb9 {n i:Nat} (h:i<n):n - i=n - i - 1+1:=sb8 (Nat.sub_pos_of_lt h)
theorem sb11 {n q:Nat} (h:n=q+1):n - (n - 1)=1:=by subst h; exact Nat.add_sub_cancel_left q 1
theorem sb14 {n i:Nat} (h:i<n):n+1 - (i+1)<n+1 - i:=Nat.sub_succ_lt_self _ _ (Nat.lt_succ_of_lt h)
theorem sb15 {i j:Nat} (h:i≤j):i+(j - i)=j:=Nat.add_sub_cancel' h
theorem md1 {l h:Nat} (e:l<h):(l+h) / 2<h:=by lia
theorem md2 {l h:Nat} (e:l<h):l≤(l+h) / 2:=by lia
theorem md3 {l h s:Nat} (e:l<h) (hs:h≤s):(l+h) / 2<s:=Nat.lt_of_lt_of_le (md1 e) hs
theorem tnA {r:Int} (h:0≤r∧r<6):((r.toNat:Nat):Int)=r:=Int.toNat_of_nonneg h.1
theorem tnB {r:Int} (h:0≤r∧r<6):r.toNat<6:=by lia
theorem un0 {u n c:Nat} (h:u+60*(n+1)≤9000) (hc:Nat.ble c 800=true):u+c<9900:=by have:=bl0 hc; lia
theorem un1 {u n q:Nat} (hq:q≤3) (h:u+60*(n+1)≤9000):u+q+1<9900:=by lia
theorem un2 {u n c:Nat} (h:u+60*(n+1)≤9000) (hc:Nat.ble c 60=true):u+c+60*n≤9000:=by have:=bl0 hc; lia
theorem un3 {u n:Nat} (h:u+60*(n+1)≤9000):u+60*n≤9000:=by lia
theorem un4 {u m n:Nat} (hm:m≤n) (h:u+60*n≤9000):u+60*m≤9000:=by lia
theorem dp1 {d n:Nat} (h:d+(n+1)≤900):d+1+n≤900:=by lia
theorem dp2 {d m n:Nat} (hm:m≤n) (h:d+n≤900):d+m≤900:=by lia
theorem ll1 {x n i:Nat} (h:x≤min i n) (c:Nat) (hi:Nat.ble i c=true):x≤c:=Nat.le_trans h (Nat.le_trans (Nat.min_le_left _ _) (bl0 hi))
theorem eqs {a b c d:Nat} (h1:a=c) (h2:b=d) (h3:c=d):a=b:=h1.trans (h3.trans h2.symm)
theorem ln1 {q x c:Nat} (h:x≤c) (e:x=q+1):q≤c:=Nat.le_of_succ_le (show q+1≤c from e▸h)
theorem ad1 {a b c:Nat} (h:a+b+1=c):a+1+b=c:=by lia
theorem lt2 {j:Nat} (h:j<2):j=0∨j=1:=by lia
end Mine
namespace Mine
noncomputable def Sub (h h':Heap):Prop:=∀b o,h.get? b=some o→h'.get? b=some o
theorem Sub.refl (h:Heap):Sub h h:=fun _ _ e=>e
theorem Sub.trans {a b c:Heap} (x:Sub a b) (y:Sub b c):Sub a c:=fun _ _ e=>y _ _ (x _ _ e)
theorem Sub.push (h:Heap) (o:Obj):Sub h (h.push o):=fun _ _ e=>Heap.get?_push_of_some _ e
structure Asn where
 ok:Heap→Obj→Prop
 mono:∀ {P P':Heap} {o:Obj},Sub P P'→ok P o→ok P' o
noncomputable def Asn.eq (o:Obj):Asn:=⟨fun _ o'=>o'=o,fun _ e=>e⟩
noncomputable def Asn.ns (m:Str→Option Value):Asn:=
 ⟨fun _ o=>∃es ep,o.data=.dict es ep∧StrKeys es∧∀name,nsFind es name=m name,fun _ e=>e⟩
structure Ld (P:Heap) (led:List (Addr×Asn)) (h:Heap):Prop where
 sub:Sub P h
 nodup:(led.map (·.1)).Nodup
 pt:∀p∈led,∃o,h.get? p.1=some o∧p.2.ok P o
 off:∀p∈led,P.get? p.1=none
structure Gk (σ:Shared) (gens:Array GenState):Prop where
 bare:AllBare gens
 kept:∀(g:Nat) (x:GenState),σ.gens[g]? = some x→gens[g]? = some x
structure At (σ:Shared) (P:Heap) (led:List (Addr×Asn)) (s:Shared):Prop where
 ld:Ld P led s.heap
 os:s.os=σ.os
 gens:Gk σ s.gens
inductive Upd (d:Addr) (R R':Asn):List (Addr×Asn)→List (Addr×Asn)→Prop
 | head {r}:Upd d R R' ((d,R)::r) ((d,R')::r)
 | tail {p r r'}:Upd d R R' r r'→Upd d R R' (p::r) (p::r')
theorem Upd.mem {d:Addr} {R R':Asn} {l l'} (U:Upd d R R' l l'):(d,R)∈l:=by
 induction U with
 | head=>exact .head _
 | tail _ ih=>exact .tail _ ih
theorem Upd.mem' {d:Addr} {R R':Asn} {l l'} (U:Upd d R R' l l'):(d,R')∈l':=by
 induction U with
 | head=>exact .head _
 | tail _ ih=>exact .tail _ ih
theorem Upd.keys {d:Addr} {R R':Asn} {l l'} (U:Upd d R R' l l'):l'.map (·.1)=l.map (·.1):=by
 induction U with
 | head=>rfl
 | tail _ ih=>simp[ih]
theorem Upd.cases' {d:Addr} {R R':Asn} {l l'} (U:Upd d R R' l l'):(l.map (·.1)).Nodup→∀p∈l',p=(d,R')∨(p∈l∧p.1≠d):=by
 induction U with
 | head=>
  intro hn p hp
  rcases List.mem_cons.mp hp with rfl|hp
  ·exact .inl rfl
  ·refine .inr ⟨.tail _ hp,fun e=>?_⟩
   simp only[List.map_cons,List.nodup_cons] at hn
   exact hn.1 (e▸List.mem_map_of_mem hp)
 | @tail q r r' U ih=>
  intro hn p hp
  simp only[List.map_cons,List.nodup_cons] at hn
  rcases List.mem_cons.mp hp with rfl|hp
  ·refine .inr ⟨.head _,fun e=>hn.1 ?_⟩
   rw[e]; exact List.mem_map_of_mem (f:=(·.1)) U.mem
  ·rcases ih hn.2 p hp with h|⟨h,h'⟩
   ·exact .inl h
   ·exact .inr ⟨.tail _ h,h'⟩
namespace Ld
variable {P h h':Heap} {led led':List (Addr×Asn)}
theorem grow (H:Ld P led h) (k:Sub h h'):Ld P led h':=
 ⟨H.sub.trans k,H.nodup,fun p hp=>E1A2 (H.pt p hp) fun o e r=>⟨o,k _ _ e,r⟩,H.off⟩
theorem upd {d:Addr} {R R':Asn} (H:Ld P led h) (U:Upd d R R' led led') (hs:Heap.SameBut d h h') (hd:∃o,h'.get? d=some o∧R'.ok P o):Ld P led' h':=by
 have hk:=U.keys
 have off:P.get? d=none:=H.off _ U.mem
 refine⟨fun b o e=>?_,hk▸H.nodup,fun p hp=>?_,fun p hp=>?_⟩
 ·have:b≠d:=fun q=>by rw[q,off] at e; contradiction
  rw[hs.2 b this]; exact H.sub _ _ e
 ·rcases U.cases' H.nodup p hp with rfl|⟨hm,hne⟩
  ·exact hd
  ·refine E1A2 (H.pt p hm) fun o e r=>?_
   exact⟨o,(hs.2 _ hne).trans e,r⟩
 ·rcases U.cases' H.nodup p hp with rfl|⟨hm,_⟩
  ·exact off
  ·exact H.off _ hm
theorem push {R:Asn} {o:Obj} (H:Ld P led h) (hR:R.ok P o) (hf:o.isFreed=false):Ld P ((h.objs.size,R)::led) (h.push o):=by
 have new:∀b x,h.get? b=some x→b≠h.objs.size:=fun b x e q=>absurd (Heap.lt_size (q▸e)) (Nat.lt_irrefl _)
 refine⟨H.sub.trans (Sub.push _ _),?_,fun p hp=>?_,fun p hp=>?_⟩
 ·simp only[List.map_cons,List.nodup_cons]
  refine⟨fun hm=>?_,H.nodup⟩
  refine E1A2 (List.mem_map.mp hm) fun p hp e=>?_
  refine E1A2 (H.pt p hp) fun x hx _=>?_
  exact new _ _ hx e
 ·rcases List.mem_cons.mp hp with rfl|hp
  ·exact⟨o,Heap.get?_push_size _ hf,hR⟩
  ·refine E1A2 (H.pt p hp) fun x e r=>?_
   exact⟨x,Heap.get?_push_of_some _ e,r⟩
 ·rcases List.mem_cons.mp hp with rfl|hp
  ·rcases q:P.get? h.objs.size with _|x
   ·rfl
   ·exact absurd rfl (new _ _ (H.sub _ _ q))
  ·exact H.off _ hp
theorem drop {p:Addr×Asn} (H:Ld P (p::led) h):Ld P led h:=
 ⟨H.sub,(by have:=H.nodup; replace this:=List.nodup_cons.mp this; exact this.2),fun q hq=>H.pt q (.tail _ hq),fun q hq=>H.off q (.tail _ hq)⟩
theorem perm (H:Ld P led h) (k:led'.Perm led):Ld P led' h:=
 ⟨H.sub,(k.map (·.1)).nodup_iff.mpr H.nodup,fun q hq=>H.pt q (k.mem_iff.mp hq),fun q hq=>H.off q (k.mem_iff.mp hq)⟩
theorem get {a:Addr} {R:Asn} (H:Ld P led h) (hm:(a,R)∈led):∃o,h.get? a=some o∧R.ok P o:=H.pt _ hm
theorem wide (H:Ld P led h):∃P',Sub P P'∧Sub P' h∧Ld P' led h∧∀a o,h.get? a=some o→a∉led.map (·.1)→P'.get? a=some o:=by
 have hs:Sub (hideAll h (led.map (·.1))) h:=fun b o e=>of_hideAll _ e
 have ha:∀a o,h.get? a=some o→a∉led.map (·.1)→(hideAll h (led.map (·.1))).get? a=some o:=fun a o e n=>hideAll_get _ e n
 have hp:Sub P (hideAll h (led.map (·.1))):=fun b o e=>ha b o (H.sub _ _ e) fun hm=>by
  refine E1A2 (List.mem_map.mp hm) fun p hp q=>?_
  rw[←q,H.off p hp] at e; contradiction
 exact⟨_,hp,hs,⟨hs,H.nodup,fun p q=>E1A2 (H.pt p q) fun o e r=>⟨o,e,p.2.mono hp r⟩,fun p q=>hideAll_none _ (List.mem_map_of_mem q)⟩,ha⟩
theorem persist {a:Addr} {R:Asn} (H:Ld P ((a,R)::led) h):∃P' o,Sub P P'∧P'.get? a=some o∧R.ok P' o∧Ld P' led h:=by
 refine E1A2 (H.pt _ (.head _)) fun o e r=>?_
 refine E1A4 (H.drop.wide) fun P' h1 _ h3 h4=>?_
 refine⟨P',o,h1,h4 a o e fun hm=>?_,R.mono h1 r,h3⟩
 have:=H.nodup
 simp only[List.map_cons,List.nodup_cons] at this
 exact this.1 hm
end Ld
namespace At
variable {σ:Shared} {P:Heap} {led led':List (Addr×Asn)} {s:Shared} {h':Heap} {tk:Nat}
theorem grow (H:At σ P led s) (k:Sub s.heap h'):At σ P led { s with heap:=h',toks:=tk }:=⟨H.ld.grow k,H.os,H.gens⟩
theorem tok (H:At σ P led s):At σ P led { s with toks:=tk }:=⟨H.ld,H.os,H.gens⟩
theorem upd {d:Addr} {R R':Asn} (H:At σ P led s) (U:Upd d R R' led led') (hs:Heap.SameBut d s.heap h') (hd:∃o,h'.get? d=some o∧R'.ok P o):At σ P led' { s with heap:=h',toks:=tk }:=
 ⟨H.ld.upd U hs hd,H.os,H.gens⟩
theorem push {R:Asn} {o:Obj} (H:At σ P led s) (hR:R.ok P o) (hf:o.isFreed=false):At σ P ((s.heap.objs.size,R)::led) { s with heap:=s.heap.push o }:=⟨H.ld.push hR hf,H.os,H.gens⟩
theorem base (H:At σ P led s):At { σ with gens:=s.gens } P led s:=⟨H.ld,H.os,H.gens.bare,fun _ _ e=>e⟩
theorem rebase {gs:Array GenState} (H:At { σ with gens:=gs } P led s) (k:∀(g:Nat) (x:GenState),σ.gens[g]? = some x→gs[g]? = some x):At σ P led s:=⟨H.ld,H.os,H.gens.bare,fun g x e=>H.gens.kept g x (k g x e)⟩
theorem drop {p:Addr×Asn} (H:At σ P (p::led) s):At σ P led s:=⟨H.ld.drop,H.os,H.gens⟩
theorem subl (H:At σ P led s) (k:led'.Sublist led):At σ P led' s:=
 ⟨⟨H.ld.sub,(k.map (·.1)).nodup H.ld.nodup,fun q hq=>H.ld.pt q (k.subset hq),fun q hq=>H.ld.off q (k.subset hq)⟩,H.os,H.gens⟩
theorem perm (H:At σ P led s) (k:led'.Perm led):At σ P led' s:=⟨H.ld.perm k,H.os,H.gens⟩
theorem persist {a:Addr} {R:Asn} (H:At σ P ((a,R)::led) s):∃P' o,Sub P P'∧P'.get? a=some o∧R.ok P' o∧At σ P' led s:=
 E2A4 (H.ld.persist) fun P' o a b c d=>⟨P',o,a,b,c,d,H.os,H.gens⟩
theorem ns {a:Addr} {m} (H:At σ P led s) (hm:(a,Asn.ns m)∈led):s.heap.Ns a m:=
 let ⟨o,e,es,ep,r⟩:=H.ld.get hm; ⟨o,es,ep,e,r⟩
theorem sub (H:At σ P led s):Sub P s.heap:=H.ld.sub
theorem obj {a:Addr} {o:Obj} (H:At σ P led s) (hm:(a,Asn.eq o)∈led):s.heap.get? a=some o:=by
 refine E1A2 (H.ld.get hm) fun o' e r=>?_
 rw[e,show o'=o from r]
end At
theorem ok_ns {P h:Heap} {a:Addr} {m} (h':h.Ns a m):∃o,h.get? a=some o∧(Asn.ns m).ok P o:=E3A2 (h') fun o es ep e r=>⟨o,e,es,ep,r⟩
structure Rm (A:Around) (n:Nat):Prop where
 handled:A.handled=none
 depth:A.depth+n≤900
 units:A.units+60*n≤9000
noncomputable def upd (m:Str→Option Value) (x:Str) (v:Value):Str→Option Value:=fun y=>if y=x then some v else m y
theorem upd_self {m x v}:upd m x v x=some v:=if_pos rfl
section
variable {prog:Program} {w:World} {σ:Shared} {P:Heap} {led led':List (Addr×Asn)} {s:Shared} {A:Around} {E:Value→Shared→Prop} {env:Env}
theorem r_store {x:Str} {v:Value} {m} {Q:Unit→Shared→Prop} (H:At σ P led s) (U:Upd env.locals (Asn.ns m) (Asn.ns (upd m x v)) led led')
  (h:∀s',At σ P led' s'→Q () s') (hk:env.scope.kind=.function:=by rfl) (hl:env.kindOf x=some .local:=by rfl) :
  wpAny (model prog w) A (storeName env x v) Q E s:=
 wpAny_storeName_local hl (H.ns U.mem) (fun _ hn hs=>h _ (H.upd U hs (ok_ns hn))) (by rw[hk]; rfl)
end
end Mine
namespace Mine
theorem lookIn_ns {o:Obj} {es ep} {name:Str} {x:Option Value} (hd:o.data=.dict es ep) (hk:StrKeys es) (hf:nsFind es name=x):lookIn name o=some x:=by
 unfold lookIn
 rw[hd]
 dsimp only
 unfold nsFind findBy at hf
 rw[←Array.find?_toList] at hf
 cases q:es.toList.find? (fun e=>e.key.isStr name) with
 | some e=>rw[q] at hf; rw[←hf]; rfl
 | none=>
  rw[q] at hf
  rw[←hf]
  dsimp only
  rw[if_neg]
  ·rfl
  ·intro hc
   refine E1A2 (List.any_eq_true.mp hc) fun e he hr=>?_
   refine E2A1 (hk e (Array.mem_toList_iff.mp he)) fun n t hk'=>?_
   obtain⟨hh,ek,ev⟩:=e
   dsimp only at hk'
   subst hk'
   contradiction
noncomputable def Asn.nsN (k:Nat) (m:Str→Option Value):Asn:=
 ⟨fun _ o=>∃es ep,o.data=.dict es ep∧StrKeys es∧(∀name,nsFind es name=m name)∧es.size≤k,fun _ e=>e⟩
theorem wp_nsSetN {M:Model} {A:Around} {E:Value→Shared→Prop} {s:Shared} {a:Addr} {o:Obj} {es ep m} (k:Nat) (name:Str) (v:Value) {Q:Unit→Shared→Prop}
  (ho:s.heap.get? a=some o) (hd:o.data=.dict es ep) (hk:StrKeys es) (hm:∀name,nsFind es name=m name) (hz:es.size≤k)
  (hQ:∀h' o' es' ep',h'.get? a=some o'→o'.data=.dict es' ep'→StrKeys es'→(∀y,nsFind es' y=upd m name v y)→es'.size≤(if(m name).isSome then k else k+1)→Heap.SameBut a s.heap h' →
   Q () { s with heap:=h',toks:=s.toks+1 }):wpAny M A (nsSet a name v) Q E s:=fun Γ p _=>by
 simp only[nsSet,strHash,Sem.wp_bind',Sem.wp_cmd_ask,Sem.wp_pure',Sem.wp_cmd_mkText]
 rw[Sem.wp_loadPart_of M Γ _ p { s with toks:=s.toks+1 } (o:=o) _ ho]
 have hany:es.any (·.refKey)=false:=by
  rw[Array.any_eq_false']; intro e he; obtain⟨n,t,h⟩:=hk e he; simp[DictEntry.refKey,h]
 simp only[hd,aRefKeyMayBeTheName_at,hany,Bool.and_false,Bool.false_eq_true,if_false,Sem.wp_cmd_updatePart]
 have hmn:=hm name
 rw[nsFind,findBy_of_findIdx?] at hmn
 obtain⟨c,d,dt,sl⟩:=o
 subst hd
 rcases hi:es.findIdx? (·.key.isStr name) with _|i
 rotate_left
 ·
  refine⟨by rw[ho]; rfl,hQ _ _ _ ep (Heap.get?_update_self _ ho (by simp only[Obj.putName_eq,Obj.putNameByArray,hi]; rfl)) (by simp only[Obj.putName_eq,Obj.putNameByArray,hi]; rfl) (hk.modify _ _) (fun x=>?_) ?_ (Heap.SameBut.update ..)⟩
  ·show _=if x=name then some v else m x
   rw[←hm]; exact findBy_modify (fun n v=>v.isStr n) Value.isStr_inj es name x v i hi
  ·have:(m name).isSome=true:=by
    simp only[←hmn,hi]
    obtain⟨hlt,_⟩:=Array.findIdx?_eq_some_iff_getElem.mp hi
    simp[Array.getElem?_eq_getElem hlt]
   rw[if_pos this,Array.size_modify]; exact hz
 ·
  refine⟨by rw[ho]; rfl,hQ _ _ _ (ep+1) (Heap.get?_update_self _ ho (by simp only[Obj.putName_eq,Obj.putNameByArray,hi]; rfl)) (by simp only[Obj.putName_eq,Obj.putNameByArray,hi]; rfl) (hk.push _ _ _ _) (fun x=>?_) ?_ (Heap.SameBut.update ..)⟩
  ·show _=if x=name then some v else m x
   rw[←hm]
   exact findBy_push (fun n v=>v.isStr n) es name x _ _ v (fun y=>by
    show(name == y)=decide (y=name)
    by_cases h:y=name
    ·subst h; simp
    ·have:¬name=y:=fun e=>h e.symm
     simp[h,this]) hi
  ·have:(m name).isSome=false:=by rw[←hmn,hi]; rfl
   rw[this,Array.size_push]
   exact Nat.add_le_add_right (by assumption) _
section
variable {prog:Program} {w:World} {σ:Shared} {P:Heap} {led led':List (Addr×Asn)} {s:Shared} {A:Around} {E:Value→Shared→Prop} {env:Env} {K:Frag} {x dx C:Addr} {f:Str→Option Value} {name:Str} {v:Value} {k:Nat}
theorem At.inst (H:At σ P led s) (h1:(x,Asn.eq (instObj C dx))∈led) (h2:(dx,Asn.nsN k f)∈led) :
  ∃od es ep,W.InstAt s.heap x (instObj C dx) C (some od)∧od.data=.dict es ep∧StrKeys es∧(∀name,nsFind es name=f name)∧es.size≤k∧s.heap.get? dx=some od:=by
 have h1':=H.obj h1
 obtain⟨od,e,es,ep,a,b,c,d⟩:=H.ld.get h2
 exact⟨od,es,ep,⟨h1',rfl,rfl,e⟩,a,b,c,d,e⟩
theorem r_attr {expr:Bool} {attr:Option Value} {Q:Value→Shared→Prop} (H:At σ P led s) (X:K.In P) (h1:(x,Asn.eq (instObj C dx))∈led) (h2:(dx,Asn.nsN k f)∈led)
  (hf:f name=some v) (hg:plainGet K C name=true) (hh:hasDictIn K C=true) (ha:findIn K (.ref C) name=some attr) (hn:noGet K attr=true) (hv:handedIn v=true)
  (h:∀s',At σ P led s'→Q v s'):wpAny (model prog w) A (getAttr (.ref x) name expr) Q E s:=by
 refine E3A6 (H.inst h1 h2) fun od es ep I a b c _ _=>?_
 exact get_value (X.keeps H.sub) I (plainGet_of hg).1 (findObj_own hh ha hn (lookIn_ns a b ((c name).trans hf))) hv (h _ H.tok)
theorem r_method {pl:Sem Bool} {g:Addr} {Q:Value×List Value→Shared→Prop} (H:At σ P led s) (X:K.In P) (h1:(x,Asn.eq (instObj C dx))∈led) (h2:(dx,Asn.nsN k f)∈led)
  (hf:f name=none) (hg:plainGet K C name=true) (ha:findIn K (.ref C) name=some (some (.ref g))) (ht:isFn K (.ref g)=true)
  (h:Q (.ref g,[.ref x]) s):wpAny (model prog w) A (getMethod (.ref x) name pl) Q E s:=by
 refine E3A6 (H.inst h1 h2) fun od es ep I a b c _ _=>?_
 refine method_fn (X.keeps H.sub) I (plainGet_of hg).1 (plainGet_of hg).2 ha (beq_iff_eq.mp ht) ?_ h
 show(lookIn name od).map _=_
 rw[lookIn_ns a b ((c name).trans hf)]; rfl
theorem setattr_any {Q:Unit→Shared→Prop} (H:At σ P led s) (X:K.In P) (h1:(x,Asn.eq (instObj C dx))∈led) (U:Upd dx (Asn.nsN k f) (Asn.nsN (if(f name).isSome then k else k+1) (upd f name v)) led led')
  (hs:findIn K (.ref C) "__setattr__" = some (some (.builtin "object.__setattr__"))) (hp:plainOver K C=true) (ht:takerIn K C name=some none) (hh:hasDictIn K C=true) (hz:k≤1000)
  (h:∀s',At σ P led' s'→Q () s'):wpAny (model prog w) A (setAttr (.ref x) name v) Q E s:=by
 refine E3A6 (H.inst h1 U.mem) fun od es ep I a b c d e=>?_
 have XX:=X.keeps H.sub
 refine E1A2 (any_some hh) fun cd hc hd'=>?_
 refine set_plain XX I hs ?_
 refine osa_open (s:={ s with toks:=s.toks+1 }) XX I hp ht fun b=>?_
 have hx:=I.at_
 refine wpAny_bind (wpAny_pure (wpAny_bind (wpAny_bind (wpAny_loadPart (s:={ s with toks:=s.toks+1 }) hx (wpAny_bind ((looks_clsIn (show K.In ({ s with toks:=s.toks+1 }:Shared).heap from XX) hc).here ?_))))))
 rw[hd']
 refine wpAny_pure (a:=some dx) (wpAny_bind (wpAny_pure (wpAny_bind ?_)))
 refine wp_nsSetN (s:={ s with toks:=s.toks+1 }) (m:=f) k name v e a (by assumption) c d fun h' o' es' ep' a' b' c' d' e' f'=>?_
 refine wpAny_bind (wpAny_lookBehind a' (by rw[b']; exact pastItsLine_dict (by rw[sizeLine_eq]; split at e' <;> lia)) ?_)
 exact wpAny_pure (h _ (H.upd U f' ⟨o',a',es',ep',b',c',d',e'⟩))
theorem r_setattr {Q:Unit→Shared→Prop} {v₀:Value} (H:At σ P led s) (X:K.In P) (h1:(x,Asn.eq (instObj C dx))∈led) (U:Upd dx (Asn.nsN k f) (Asn.nsN k (upd f name v)) led led') (hf:f name=some v₀)
  (hs:findIn K (.ref C) "__setattr__" = some (some (.builtin "object.__setattr__"))) (hp:plainOver K C=true) (ht:takerIn K C name=some none) (hh:hasDictIn K C=true) (hz:k≤1000)
  (h:∀s',At σ P led' s'→Q () s'):wpAny (model prog w) A (setAttr (.ref x) name v) Q E s:=
 setattr_any (f:=f) H X h1 (by rw[hf]; exact U) hs hp ht hh hz h
theorem r_setattr_new {Q:Unit→Shared→Prop} (H:At σ P led s) (X:K.In P) (h1:(x,Asn.eq (instObj C dx))∈led) (U:Upd dx (Asn.nsN k f) (Asn.nsN (k+1) (upd f name v)) led led') (hf:f name=none)
  (hs:findIn K (.ref C) "__setattr__" = some (some (.builtin "object.__setattr__"))) (hp:plainOver K C=true) (ht:takerIn K C name=some none) (hh:hasDictIn K C=true) (hz:k≤1000)
  (h:∀s',At σ P led' s'→Q () s'):wpAny (model prog w) A (setAttr (.ref x) name v) Q E s:=
 setattr_any (f:=f) H X h1 (by rw[hf]; exact U) hs hp ht hh hz h
end
end Mine
namespace Mine
structure Rep (α:Type) where
 is:Heap→α→Value→Prop
 mono:∀ {P P':Heap} {x:α} {v:Value},Sub P P'→is P x v→is P' x v
noncomputable def Rep.int:Rep Int:=⟨fun _ n v=>∃t,v=.int n t,fun _ h=>h⟩
noncomputable def Rep.bool:Rep Bool:=⟨fun _ b v=>v=.bool b,fun _ h=>h⟩
noncomputable def Rep.val:Rep Value:=⟨fun _ x v=>v=x,fun _ h=>h⟩
noncomputable abbrev tupObj (vs:List Value) (n:Nat):Obj:={ cls:=.type "tuple",data:=.seq vs.toArray n }
noncomputable def Rep.pair {α β:Type} (A:Rep α) (B:Rep β):Rep (α×β):=
 ⟨fun P x v=>∃a u u' n,v=.ref a∧P.get? a=some (tupObj [u,u'] n)∧A.is P x.1 u∧B.is P x.2 u',
  fun k zz94=>E4A4 zz94 fun a u u' n e g p q=>⟨a,u,u',n,e,k _ _ g,A.mono k p,B.mono k q⟩⟩
inductive F2 {α β:Type} (R:α→β→Prop):List α→List β→Prop
 | nil:F2 R [] []
 | cons {a b as bs}:R a b→F2 R as bs→F2 R (a::as) (b::bs)
namespace F2
variable {α β:Type} {R R':α→β→Prop}
theorem length {as:List α} {bs:List β} (h:F2 R as bs):as.length=bs.length:=by
 induction h with
 | nil=>rfl
 | cons _ _ ih=>simp[ih]
theorem imp {as:List α} {bs:List β} (k:∀a b,R a b→R' a b) (h:F2 R as bs):F2 R' as bs:=by
 induction h with
 | nil=>exact .nil
 | cons x _ ih=>exact .cons (k _ _ x) ih
theorem get {as:List α} {bs:List β} (h:F2 R as bs):∀ {i:Nat} {b:β},bs[i]? = some b→∃a,as[i]? = some a∧R a b:=by
 induction h with
 | nil=>intro i b e; simp at e
 | cons x _ ih=>
  intro i b e
  rcases i with _|i
  ·simp only[List.getElem?_cons_zero,Option.some.injEq] at e; subst e; exact⟨_,rfl,x⟩
  ·simp only[List.getElem?_cons_succ] at e ⊢; exact ih e
theorem get' {as:List α} {bs:List β} (h:F2 R as bs):∀ {i:Nat} {a:α},as[i]? = some a→∃b,bs[i]? = some b∧R a b:=by
 induction h with
 | nil=>intro i b e; simp at e
 | cons x _ ih=>
  intro i b e
  rcases i with _|i
  ·simp only[List.getElem?_cons_zero,Option.some.injEq] at e; subst e; exact⟨_,rfl,x⟩
  ·simp only[List.getElem?_cons_succ] at e ⊢; exact ih e
theorem append {as as':List α} {bs bs':List β} (h:F2 R as bs) (h':F2 R as' bs'):F2 R (as++as') (bs++bs'):=by
 induction h with
 | nil=>exact h'
 | cons x _ ih=>exact .cons x ih
theorem snoc {as:List α} {bs:List β} {a:α} {b:β} (h:F2 R as bs) (x:R a b):F2 R (as++[a]) (bs++[b]):=h.append (.cons x .nil)
theorem map_left {γ:Type} {f:γ→α} {cs:List γ} {bs:List β} (h:F2 (fun c b=>R (f c) b) cs bs):F2 R (cs.map f) bs:=by
 induction h with
 | nil=>exact .nil
 | cons x _ ih=>exact .cons x ih
theorem erase {as:List α} {bs:List β} (h:F2 R as bs):∀i,F2 R (as.eraseIdx i) (bs.eraseIdx i):=by
 induction h with
 | nil=>intro i; exact .nil
 | cons x h ih=>
  intro i
  rcases i with _|i
  ·exact h
  ·exact .cons x (ih i)
theorem modify {as:List α} {bs:List β} {f:α→α} {g:β→β} (k:∀a b,R a b→R (f a) (g b)) (h:F2 R as bs):∀i,F2 R (as.modify i f) (bs.modify i g):=by
 induction h with
 | nil=>intro i; obtain⟨⟩:=i <;> exact .nil
 | cons x h ih=>
  intro i
  rcases i with _|i
  ·exact .cons (k _ _ x) h
  ·exact .cons x (ih i)
end F2
section
variable {κ β:Type} [DecidableEq κ]
noncomputable def idx (ks:List κ) (k:κ):Option Nat:=ks.findIdx? fun x=>decide (x=k)
noncomputable def look (ps:List (κ×β)) (k:κ):Option β:=(ps.find? fun p=>decide (p.1=k)).map (·.2)
noncomputable def put (ps:List (κ×β)) (k:κ) (v:β):List (κ×β):=
 match idx (ps.map (·.1)) k with
 | some i=>ps.modify i fun p=>(p.1,v)
 | none=>ps++[(k,v)]
noncomputable def cut (ps:List (κ×β)) (k:κ):List (κ×β):=
 match idx (ps.map (·.1)) k with
 | some i=>ps.eraseIdx i
 | none=>ps
theorem idx_look (ps:List (κ×β)) (k:κ):(match idx (ps.map (·.1)) k with|some i=>(ps[i]?).map (·.2)|none=>none)=look ps k:=by
 unfold idx look
 induction ps with
 | nil=>rfl
 | cons p r ih=>
  simp only[List.map_cons,List.findIdx?_cons,List.find?_cons]
  rcases h:decide (p.1=k) with _|_
  rotate_left
  ·rfl
  ·
   rw[←ih]
   cases List.findIdx? (fun x=>decide (x=k)) (r.map (·.1)) with
   | none=>rfl
   | some i=>rfl
theorem look_none_idx {ps:List (κ×β)} {k:κ}:look ps k=none↔idx (ps.map (·.1)) k=none:=by
 unfold look idx
 rw[List.findIdx?_eq_none_iff,Option.map_eq_none_iff,List.find?_eq_none]
 simp
end
structure DKind (prog:Program) (w:World) (K:Type) [DecidableEq K] where
 rep:Rep K
 hash:K→Int
 pyHash:∀ {A:Around} {E:Value→Shared→Prop} {s:Shared} {k:K} {v:Value} {Q:Int→Shared→Prop},A.units<cLine→rep.is s.heap k v →
  (∀tk,Q (hash k) { s with toks:=tk })→wpAny (model prog w) A (PySem.pyHash v) Q E s
 find:∀ {A:Around} {E:Value→Shared→Prop} {s:Shared} {d:Addr} {o:Obj} {es ep} {ks:List K} {k:K} {v:Value} {Q:Option Nat→Shared→Prop},A.units<cLine→rep.is s.heap k v →
  s.heap.get? d=some o→o.data=.dict es ep→F2 (fun k (e:DictEntry)=>e.hash=hash k∧rep.is s.heap k e.key) ks es.toList→ks.Nodup →
  Q (idx ks k) s→wpAny (model prog w) A (dictFind d v (hash k)) Q E s
theorem int_find {prog:Program} {w:World} {A:Around} {E:Value→Shared→Prop} {s:Shared} {d:Addr} {o:Obj} {es ep} {ks:List Int} {k:Int} {v:Value} {Q:Option Nat→Shared→Prop}
  (hv:Rep.int.is s.heap k v) (ho:s.heap.get? d=some o) (hd:o.data=.dict es ep) (he:F2 (fun k (e:DictEntry)=>e.hash=hashInt k∧Rep.int.is s.heap k e.key) ks es.toList)
  (h:Q (idx ks k) s):wpAny (model prog w) A (dictFind d v (hashInt k)) Q E s:=by
 refine E1A1 (hv) fun t ee86=>?_
 clear hv
 subst ee86
 refine wpAny_dictFind_of (knd:=intKind prog w) (k:=k) (intKind_is ..) ho hd ?_ ?_
 ·intro e hm
  refine E1A1 (List.mem_iff_getElem?.mp (Array.mem_toList_iff.mpr hm)) fun i hi=>?_
  obtain⟨a,b⟩:=F2.get he hi
  obtain⟨_,h1,t',h2⟩:=b
  exact⟨a,by rw[h2]; exact intKind_is ..,h1⟩
 ·have:es.findIdx? (fun e=>(intKind prog w).is k e.key)=idx ks k:=by
   unfold idx
   clear h hd ho
   obtain⟨l⟩:=es
   rw[List.findIdx?_toArray]
   dsimp only at he
   induction he with
   | nil=>rfl
   | @cons a b as bs x r ih=>
    obtain⟨_,t',h2⟩:=x
    simp only[List.findIdx?_cons]
    have:(intKind prog w).is k b.key=decide (a=k):=by
     simp only[h2,KeyKind.is_eq_decide (knd:=intKind prog w) (k:=a) (intKind_is ..)]
     by_cases q:a=k
     ·simp[q]
     ·simp[q,Ne.symm q]
    simp only[this,ih]
  rw[this]; exact h
noncomputable def DKind.int (prog:Program) (w:World):DKind prog w Int where
 rep:=Rep.int
 hash:=hashInt
 pyHash:=fun _ hv h=>by obtain⟨t,rfl⟩:=hv; exact wpAny_pyHash_int (h _)
 find:=fun _ hv ho hd he _ h=>int_find hv ho hd he h
noncomputable def pairKind (prog:Program) (w:World):HeapKind prog w (List Int):=tupleKind (intKind prog w)
theorem pair_key {prog:Program} {w:World} {h:Heap} {k:Int×Int} {v:Value} (hv:(Rep.pair Rep.int Rep.int).is h k v):∃a,v=.ref a∧IsTupleKey (intKind prog w) h [k.1,k.2] a:=by
 obtain⟨a,u,u',n,rfl,g,⟨t,rfl⟩,t',rfl⟩:=hv
 exact⟨a,rfl,_,_,n,g,rfl,rfl,.cons (intKind_is ..) (.cons (intKind_is ..) .nil)⟩
theorem pair_find {prog:Program} {w:World} {A:Around} {E:Value→Shared→Prop} {s:Shared} {d:Addr} {o:Obj} {es ep} {ks:List (Int×Int)} {k:Int×Int} {v:Value} {Q:Option Nat→Shared→Prop}
  (hu:A.units<cLine) (hv:(Rep.pair Rep.int Rep.int).is s.heap k v) (ho:s.heap.get? d=some o) (hd:o.data=.dict es ep)
  (he:F2 (fun k (e:DictEntry)=>e.hash=(pairKind prog w).hash [k.1,k.2]∧(Rep.pair Rep.int Rep.int).is s.heap k e.key) ks es.toList) (hn:ks.Nodup)
  (h:Q (idx ks k) s):wpAny (model prog w) A (dictFind d v ((pairKind prog w).hash [k.1,k.2])) Q E s:=by
 refine E1A2 (pair_key (prog:=prog) (w:=w) hv) fun a ee59 hk=>?_
 subst ee59
 have hx:∃xs:List (List Int×Addr×Value),es.toList=xs.map (entryOfKey (pairKind prog w))∧(∀x∈xs,(pairKind prog w).is s.heap x.1 x.2.1)∧xs.map (·.1)=ks.map fun k=>[k.1,k.2]:=by
  clear h hd hn
  generalize es.toList=l at he
  induction he with
  | nil=>exact⟨[],rfl,(fun x hx=>nomatch hx),rfl⟩
  | @cons k e _ _ x _ ih=>
   refine E1A3 (ih) fun xs h1 h2 h3=>?_
   clear ih
   obtain⟨hh,hr⟩:=x
   refine E1A2 (pair_key (prog:=prog) (w:=w) hr) fun a' ha' hk'=>?_
   obtain⟨eh,ek,ev⟩:=e
   dsimp only at hh ha'
   subst hh ha'
   refine⟨([k.1,k.2],a',ev)::xs,by rw[h1]; rfl,fun x hx=>?_,by rw[List.map_cons,List.map_cons,h3]⟩
   rcases List.mem_cons.mp hx with rfl|hx
   ·exact hk'
   ·exact h2 x hx
 refine E1A3 (hx) fun xs h1 h2 h3=>?_
 clear hx
 have inj:∀x y:Int×Int,[x.1,x.2]=[y.1,y.2]→x=y:=fun x y e=>by
  injection e with e1 e2; injection e2 with e2 _; exact Prod.ext e1 e2
 have hnd:(xs.map (·.1)).Nodup:=by
  rw[h3]
  exact List.Pairwise.map _ (fun x y hxy e=>hxy (inj x y e)) hn
 have key:∀j:Nat,(xs[j]?).map (·.1)=(ks[j]?).map fun k=>[k.1,k.2]:=fun j=>by rw[←List.getElem?_map,h3,List.getElem?_map]
 refine wpAny_dictFind_heap (knd:=pairKind prog w) (k:=[k.1,k.2]) hu hk ho hd h1 h2 hnd (fun hno=>?_) fun j p hj=>?_
 ·have:idx ks k=none:=by
   unfold idx
   rw[List.findIdx?_eq_none_iff]
   intro x hx
   refine E1A1 (List.mem_iff_getElem?.mp hx) fun j hj=>?_
   have:=key j
   rw[hj] at this
   refine E1A2 (Option.map_eq_some_iff.mp this) fun y hy e=>?_
   refine decide_eq_false fun q=>?_
   subst q
   exact hno j y.2 (by rw[hy]; exact congrArg some (Prod.ext e rfl))
  rw[this] at h; exact h
 ·have:idx ks k=some j:=by
   have q:=key j
   rw[hj] at q
   refine E1A2 (Option.map_eq_some_iff.mp q.symm) fun k' hk' e=>?_
   have e':=inj _ _ e
   subst e'
   unfold idx
   obtain⟨hlt,hg⟩:=List.getElem?_eq_some_iff.mp hk'
   rw[List.findIdx?_eq_some_iff_getElem]
   refine⟨hlt,by simp[hg],fun i hi=>?_⟩
   have hil:i<ks.length:=Nat.lt_trans hi hlt
   simp only[decide_eq_true_eq]
   intro q
   have:=(List.getElem_inj (h₀:=hil) (h₁:=hlt) hn).mp (q.trans hg.symm)
   omega
  rw[this] at h; exact h
noncomputable def DKind.pair (prog:Program) (w:World):DKind prog w (Int×Int) where
 rep:=Rep.pair Rep.int Rep.int
 hash:=fun k=>(pairKind prog w).hash [k.1,k.2]
 pyHash:=fun hu hv h=>by obtain⟨a,rfl,hk⟩:=pair_key (prog:=prog) (w:=w) hv; exact(pairKind prog w).pyHash hu hk (h _)
 find:=fun hu hv ho hd he hn h=>pair_find hu hv ho hd he hn h
end Mine
namespace Mine
section
variable {prog:Program} {w:World} {κ β:Type} [DecidableEq κ]
noncomputable def DRep (D:DKind prog w κ) (V:Rep β) (P:Heap) (p:κ×β) (e:DictEntry):Prop:=e.hash=D.hash p.1∧D.rep.is P p.1 e.key∧V.is P p.2 e.val
theorem DRep.mono {D:DKind prog w κ} {V:Rep β} {P P':Heap} {p:κ×β} {e:DictEntry} (k:Sub P P') (h:DRep D V P p e):DRep D V P' p e:=⟨h.1,D.rep.mono k h.2.1,V.mono k h.2.2⟩
noncomputable def Asn.dictX (D:DKind prog w κ) (V:Rep β) (ps:List (κ×β)) (ep:Option Nat):Asn:=
 ⟨fun P o=>∃es n,(o=dictOf es n∧∀x,ep=some x→n=x)∧F2 (DRep D V P) ps es∧(ps.map (·.1)).Nodup,by rintro P P' o k ⟨es,n,e,f,g⟩; exact⟨es,n,e,f.imp fun _ _=>DRep.mono k,g⟩⟩
noncomputable abbrev Asn.dict (D:DKind prog w κ) (V:Rep β) (ps:List (κ×β)):Asn:=Asn.dictX D V ps none
noncomputable def ORep (V:Rep β) (P:Heap):Option β→Option Value→Prop
 | none,none=>True
 | some b,some u=>V.is P b u
 | _,_=>False
end
structure Src (K:Frag) (P:Heap):Prop where
 K:K.In P
 sys:∃o,P.get? sysModules=some o
 nolimit:P.NoLimit
 g:∃mg,P.Ns mainGlobals mg
 b:∃mb,P.Ns builtinsNs mb∧∀x:Str,x≠Str.ofString "__name__"→mb x=bootBuiltins x
 bm:∃mg bm ob,P.Ns mainGlobals mg∧mg "__builtins__" = some (.ref bm)∧bm≠builtinsNs∧P.get? bm=some ob∧ob.cls=.type "module"∧ob.dict=some builtinsNs∧ob.data=.plain
theorem Src.mono {K:Frag} {P P':Heap} (X:Src K P) (k:Sub P P'):Src K P':=
 ⟨X.K.keeps k,E1A1 (X.sys) fun o e=>⟨o,k _ _ e⟩,X.nolimit.keeps k,E1A1 (X.g) fun m e=>⟨m,e.keeps k⟩,E1A2 (X.b) fun m e r=>⟨m,e.keeps k,r⟩,E3A5 (X.bm) fun mg bm ob a b c d e=>⟨mg,bm,ob,a.keeps k,b,c,k _ _ d,e⟩⟩
section
variable {prog:Program} {w:World} {κ β:Type} {di:DecidableEq κ} {D:DKind prog w κ} {V:Rep β} {ps:List (κ×β)} {k:κ} {v key:Value} {d:Addr}
 {σ:Shared} {P:Heap} {led led':List (Addr×Asn)} {s:Shared} {A:Around} {E:Value→Shared→Prop} {env:Env} {K:Frag} {b:β} {ep:Option Nat}
theorem At.noSys {R:Asn} (H:At σ P led s) (X:Src K P) (hm:(d,R)∈led):(d == sysModules)=false:=by
 refine E1A1 (X.sys) fun o e=>?_
 have:=H.ld.off _ hm
 refine beq_eq_false_iff_ne.mpr fun q=>?_
 subst q
 rw[e] at this; contradiction
theorem At.dict (H:At σ P led s) (hm:(d,Asn.dictX D V ps ep)∈led):∃es n,s.heap.get? d=some (dictOf es n)∧F2 (DRep D V P) ps es∧(ps.map (·.1)).Nodup:=by
 obtain⟨o,e,es,n,⟨rfl,_⟩,f,g⟩:=H.ld.get hm
 exact⟨es,n,e,f,g⟩
theorem At.dictT (H:At σ P led s) (hm:(d,Asn.dictX D V ps ep)∈led):s.TypeIs (.ref d) "dict":=E2A2 (H.dict hm) fun _ _ e _=>⟨_,e,rfl⟩
theorem F2keys {es:List DictEntry} (f:F2 (DRep D V P) ps es) (k:Sub P s.heap):F2 (fun k (e:DictEntry)=>e.hash=D.hash k∧D.rep.is s.heap k e.key) (ps.map (·.1)) es:=
 (f.imp fun _ _ h=>(⟨h.1,D.rep.mono k h.2.1⟩:_∧_)).map_left
theorem dictGet_ {Q:Option Value→Shared→Prop} (H:At σ P led s) (hm:(d,Asn.dictX D V ps ep)∈led) (hu:A.units<cLine) (hk:D.rep.is P k key)
  (h:∀tk r,ORep V P (look ps k) r→Q r { s with toks:=tk }):wpAny (model prog w) A (dictGet d key) Q E s:=by
 refine E2A3 (H.dict hm) fun es n e f g=>?_
 unfold dictGet
 try with_reducible refine wpAny_holding ?_
 refine wpAny_bind (D.pyHash hu (D.rep.mono H.sub hk) fun tk=>?_)
 refine wpAny_bind (D.find (s:={ s with toks:=tk }) (ks:=ps.map (·.1)) hu (D.rep.mono H.sub hk) e rfl (F2keys (s:={ s with toks:=tk }) f H.sub) g ?_)
 have L:=idx_look ps k
 cases hi:idx (ps.map (·.1)) k with
 | none=>
  rw[hi] at L
  refine wpAny_pure (h _ _ ?_)
  rw[←L]; trivial
 | some i=>
  rw[hi] at L
  dsimp only at L ⊢
  refine wpAny_bind (wpAny_dictEntries (s:={ s with toks:=tk }) e rfl (wpAny_pure (h _ _ ?_)))
  rw[List.getElem?_toArray]
  have hlt:i<ps.length:=by
   unfold idx at hi
   obtain⟨q,_⟩:=List.findIdx?_eq_some_iff_getElem.mp hi
   exact Nat.lt_of_lt_of_eq q (List.length_map ..)
  have e1:ps[i]? = some ps[i]:=List.getElem?_eq_getElem hlt
  refine E1A2 (f.get' e1) fun en e2 r=>?_
  rw[←L,e1,e2]
  exact r.2.2
theorem r_in {Q:Value→Shared→Prop} (H:At σ P led s) (X:Src K P) (hm:(d,Asn.dictX D V ps ep)∈led) (hu:A.units+1<cLine) (hk:D.rep.is P k key)
  (h:∀s',At σ P led s'→Q (.bool (look ps k).isSome) s'):wpAny (model prog w) A (compareOp .In key (.ref d)) Q E s:=by
 have hT:=H.dictT hm
 refine wpAny_bind ?_
 unfold contains
 try with_reducible refine wpAny_holding ?_
 refine wpAny_bind (wpAny_specialOf hT slot_dict_contains.lookup ?_)
 refine wpAny_bind (wpAny_callSpecialUnlessNone?_slot (name:=Str.ofString "__contains__") hT slot_dict_contains
  (wpAny_call_entry slot_dict_contains hT entry_dict_contains ?_ (args_dict_contains _ _)))
 show wpAny _ _ (dictGet d key >>= _) _ _ s
 refine wpAny_bind (dictGet_ H hm (A:=A.in1) hu hk fun tk r hr=>?_)
 have hq:=h _ (H.tok (tk:=tk))
 rcases hf:look ps k with _|p
 rotate_left
 ·
  rw[hf] at hr hq
  rcases r with _|u
  ·exact hr.elim
  ·
   exact wpAny_pure ⟨_,rfl,wpAny_truthy_bool (wpAny_pure hq)⟩
 ·
  rw[hf] at hr hq
  rcases r with _|u
  rotate_left
  ·exact hr.elim
  ·
   exact wpAny_bind (wpAny_pendingKey_other (H.noSys X hm) (wpAny_pure ⟨_,rfl,wpAny_truthy_bool (wpAny_pure hq)⟩))
theorem r_getitem {Q:Value→Shared→Prop} (H:At σ P led s) (hm:(d,Asn.dictX D V ps ep)∈led) (hu:A.units+1<cLine) (hk:D.rep.is P k key) (hb:look ps k=some b)
  (h:∀u s',V.is P b u→At σ P led s'→Q u s'):wpAny (model prog w) A (getItem (.ref d) key) Q E s:=by
 have hT:=H.dictT hm
 unfold getItem
 try with_reducible refine wpAny_holding ?_
 refine wpAny_bind (wpAny_sequenceKey hT (by decide) ?_)
 refine wpAny_bind (wpAny_callSpecial?_slot (name:=Str.ofString "__getitem__") hT slot_dict_getitem
  (wpAny_call_entry slot_dict_getitem hT entry_dict_getitem ?_ (args_dict_getitem _ _)))
 show wpAny _ _ (dictGet d key >>= _) _ _ s
 refine wpAny_bind (dictGet_ H hm (A:=A.in1) hu hk fun tk r hr=>?_)
 rw[hb] at hr
 rcases r with _|u
 ·exact hr.elim
 ·exact wpAny_pure ⟨u,rfl,wpAny_pure (h _ _ hr H.tok)⟩
theorem put_rep {es:List DictEntry} {u:Value} (f:F2 (DRep D V P) ps es) (hk:D.rep.is P k key) (hv:V.is P b u) :
  (∀i,idx (ps.map (·.1)) k=some i→F2 (DRep D V P) (put ps k b) (es.modify i fun e=>{ e with val:=u })) ∧
  (idx (ps.map (·.1)) k=none→F2 (DRep D V P) (put ps k b) (es++[⟨D.hash k,key,u⟩])):=by
 unfold put
 constructor
 ·intro i hi
  rw[hi]
  exact f.modify (fun p e h=>⟨h.1,h.2.1,hv⟩) i
 ·intro hi
  rw[hi]
  exact f.snoc ⟨rfl,hk,hv⟩
theorem put_keys (ps:List (κ×β)) (k:κ) (b:β):(put ps k b).map (·.1)=if idx (ps.map (·.1)) k=none then ps.map (·.1)++[k] else ps.map (·.1):=by
 unfold put
 cases hi:idx (ps.map (·.1)) k with
 | none=>simp
 | some i=>
  have:∀(l:List (κ×β)) (i:Nat),(l.modify i fun p=>(p.1,b)).map (·.1)=l.map (·.1):=by
   intro l
   induction l with
   | nil=>intro i; obtain⟨⟩:=i <;> rfl
   | cons x r ih=>intro i; cases i with
    | zero=>rfl
    | succ i=>simp[List.modify_succ_cons,ih]
  exact this ps i
theorem put_nodup (ps:List (κ×β)) (k:κ) (b:β) (hn:(ps.map (·.1)).Nodup):((put ps k b).map (·.1)).Nodup:=by
 rw[put_keys]
 refine iteInduction (fun _=>?_) fun _=>?_
 ·rename_i h
  rw[List.nodup_append]
  refine⟨hn,by simp,fun x hx y hy e=>?_⟩
  rw[List.mem_singleton] at hy
  subst hy e
  unfold idx at h
  rw[List.findIdx?_eq_none_iff] at h
  simpa using h x hx
 ·exact hn
theorem dictSetHashed_ {u:Value} {Q:Unit→Shared→Prop} (H:At σ P led s) (U:Upd d (Asn.dict D V ps) (Asn.dict D V (put ps k b)) led led') (hu:A.units<cLine) (hk:D.rep.is P k key) (hv:V.is P b u)
  (hz:ps.length≤1000) (h:∀s',At σ P led' s'→Q () s'):wpAny (model prog w) A (dictSetHashed d key (D.hash k) u) Q E s:=by
 refine E2A3 (H.dict U.mem) fun es n e f g=>?_
 obtain⟨p1,p2⟩:=put_rep (b:=b) f hk hv
 have hlen:=f.length
 unfold dictSetHashed
 try with_reducible refine wpAny_holding ?_
 refine wpAny_bind (D.find (ks:=ps.map (·.1)) hu (D.rep.mono H.sub hk) e rfl (F2keys f H.sub) g ?_)
 cases hi:idx (ps.map (·.1)) k with
 | none=>
  refine wpAny_bind (wpAny_rule (wpAny_updateDictKeys (es:=es.toArray) (ep:=n) (hz:=by rw[List.size_toArray,sizeLine_eq]; exact eq2 (by assumption) (tr1 (by assumption) rfl)) e rfl (h _ (H.upd U (Heap.SameBut.update ..) ⟨_,Heap.get?_update_self _ e rfl,es++[⟨D.hash k,key,u⟩],n+1,?_,p2 hi,put_nodup _ _ _ g⟩))))
  simp[Obj.mapDictKeys]
 | some i=>
  refine wpAny_bind (wpAny_rule (wpAny_bind (wpAny_updateDict (es:=es.toArray) (ep:=n) e rfl (wpAny_point (h _ (H.upd (tk:=s.toks) U (Heap.SameBut.update ..) ⟨_,Heap.get?_update_self _ e rfl,es.modify i (fun e=>{ e with val:=u }),n,?_,p1 i hi,put_nodup _ _ _ g⟩))))))
  simp[Obj.mapDict]
theorem dictSet_ {u:Value} {Q:Unit→Shared→Prop} (H:At σ P led s) (U:Upd d (Asn.dict D V ps) (Asn.dict D V (put ps k b)) led led') (hu:A.units<cLine) (hk:D.rep.is P k key) (hv:V.is P b u)
  (hz:ps.length≤1000) (h:∀s',At σ P led' s'→Q () s'):wpAny (model prog w) A (dictSet d key u) Q E s:=by
 unfold dictSet
 try with_reducible refine wpAny_holding ?_
 refine wpAny_bind (D.pyHash hu (D.rep.mono H.sub hk) fun tk=>?_)
 exact dictSetHashed_ (H.tok (tk:=tk)) U hu hk hv hz h
theorem r_setitem {u:Value} {Q:Unit→Shared→Prop} (H:At σ P led s) (U:Upd d (Asn.dict D V ps) (Asn.dict D V (put ps k b)) led led') (hu:A.units+1<cLine) (hk:D.rep.is P k key) (hv:V.is P b u)
  (hz:ps.length≤1000) (h:∀s',At σ P led' s'→Q () s'):wpAny (model prog w) A (setItem (.ref d) key u) Q E s:=by
 have hT:=H.dictT U.mem
 unfold setItem
 try with_reducible refine wpAny_holding ?_
 refine wpAny_bind (wpAny_sequenceKey hT (by decide) ?_)
 refine wpAny_bind (wpAny_callSpecial?_slot (name:=Str.ofString "__setitem__") hT slot_dict_setitem
  (wpAny_call_entry slot_dict_setitem hT entry_dict_setitem ?_ (args_dict_setitem _ _ _)))
 refine wpAny_bind (wpAny_notOrdered_dict hT ?_)
 show wpAny _ _ (dictSet d key u >>= _) _ _ s
 exact wpAny_bind (dictSet_ (A:=A.in1) H U hu hk hv hz fun s' H'=>wpAny_pure ⟨.none,rfl,wpAny_pure (h _ H')⟩)
end
end Mine
namespace Mine
structure EnvOk (env:Env) (L:Addr) (nms:List (Str×NameKind)):Prop where
 locals:env.locals=L
 kind:env.scope.kind=.function
 names:env.scope.names=nms
 globals:env.globals=mainGlobals
 builtins:env.builtins=builtinsNs
theorem EnvOk.kindOf {env:Env} {L:Addr} {nms:List (Str×NameKind)} (h:EnvOk env L nms) {x:Str} {k:NameKind} (e:nms.lookup x=some k):env.kindOf x=some k:=by
 unfold Env.kindOf
 rw[h.names]
 exact e
section
variable {prog:Program} {w:World} {σ:Shared} {P:Heap} {led led':List (Addr×Asn)} {s:Shared} {A:Around} {E:Value→Shared→Prop} {env:Env} {L:Addr} {nms:List (Str×NameKind)} {K:Frag}
theorem v_loadName {x:Str} {m v} {Q:Value→Shared→Prop} (O:EnvOk env L nms) (H:At σ P led s) (hm:(L,Asn.ns m)∈led) (hv:m x=some v) (h:Q v s)
  (hl:nms.lookup x=some .local:=by rfl) :
  wpAny (model prog w) A (loadName env x) Q E s:=wpAny_loadName_local O.kind (O.kindOf hl) (O.locals▸H.ns hm) hv h
theorem v_store {x:Str} {v:Value} {m} {Q:Unit→Shared→Prop} (O:EnvOk env L nms) (H:At σ P led s) (U:Upd L (Asn.ns m) (Asn.ns (upd m x v)) led led')
  (h:∀s',At σ P led' s'→Q () s') (hl:nms.lookup x=some .local:=by rfl) :
  wpAny (model prog w) A (storeName env x v) Q E s:=by
 obtain⟨rfl,hk,hn,hg,hb⟩:=O
 exact r_store H U h hk (EnvOk.kindOf ⟨rfl,hk,hn,hg,hb⟩ hl)
theorem v_global {x:Str} {pos:Pos} {v} {Q:Value→Shared→Prop} (O:EnvOk env L nms) (X:Src K P) (H:At σ P led s) (e:nsIn K mainGlobals x=some (some v)) (h:Q v s)
  (hl:nms.lookup x=some .globalImplicit:=by rfl) (hd:(x == ("__debug__" : Str))=false:=by rfl) :
  wpAny (model prog w) A (eval (.Name x pos) env) Q E s:=by
 refine E1A1 (X.g) fun mg hg=>?_
 exact Name_function_global O.kind (O.kindOf hl) (loadGlobal_global (by rw[O.globals]; exact hg.keeps H.sub) (mg_of X.K hg e) h) hd
theorem v_builtin {x:Str} {pos:Pos} {v} {Q:Value→Shared→Prop} (O:EnvOk env L nms) (X:Src K P) (H:At σ P led s) (e:nsIn K mainGlobals x=some none) (hv:bootBuiltins x=some v) (hn:x≠"__name__") (h:Q v s)
  (hl:nms.lookup x=some .globalImplicit:=by rfl) (hd:(x == ("__debug__" : Str))=false:=by rfl) :
  wpAny (model prog w) A (eval (.Name x pos) env) Q E s:=by
 refine E1A1 (X.g) fun mg hg=>?_
 refine E1A2 (X.b) fun mb hb hb'=>?_
 exact Name_function_global O.kind (O.kindOf hl) (loadGlobal_builtin (by rw[O.globals]; exact hg.keeps H.sub) (mg_none_of X.K hg e) (by rw[O.builtins]; exact hb.keeps H.sub) ((hb' x hn).trans hv) h) hd
theorem v_int {i:Int} {k:Nat} {pos:Pos} {Q:Value→Shared→Prop} (H:At σ P led s) (h:∀t s',At σ P led s'→Q (.int i t) s'):wpAny (model prog w) A (eval (.Constant (.int i) k pos) env) Q E s:=
 wpAny_Constant_int (h _ _ H.tok)
theorem v_str {x:Str} {k:Nat} {pos:Pos} {Q:Value→Shared→Prop} (H:At σ P led s) (h:∀t s',At σ P led s'→Q (.str x t) s'):wpAny (model prog w) A (eval (.Constant (.str x) k pos) env) Q E s:=
 Constant_str (h _ _ H.tok)
theorem v_add {a b:Int} {t u:Tok} {Q:Value→Shared→Prop} (H:At σ P led s) (h:∀t s',At σ P led s'→Q (.int (a+b) t) s'):wpAny (model prog w) A (binaryOp .Add (.int a t) (.int b u)) Q E s:=add_int (h _ _ H.tok)
theorem v_iadd {a b:Int} {t u:Tok} {Q:Value→Shared→Prop} (H:At σ P led s) (h:∀t s',At σ P led s'→Q (.int (a+b) t) s'):wpAny (model prog w) A (inplaceOp .Add (.int a t) (.int b u)) Q E s:=iadd_int (h _ _ H.tok)
theorem v_neg {a:Int} {t:Tok} {Q:Value→Shared→Prop} (H:At σ P led s) (h:∀t s',At σ P led s'→Q (.int (-a) t) s'):wpAny (model prog w) A (unaryOp .USub (.int a t)) Q E s:=neg_int (h _ _ H.tok)
theorem callFn {f:Addr} {args:Args} {R:Result→Shared→Prop} {oc:Value} {od:Option Addr} {osl:Array (Option Value)} {fd:FuncData} {body:List Stmt} {binds:List (Str×Value)} {nms:List (Str×NameKind)}
  (X:Src K P) (H:At σ P led s) (ho:K.lookup f=some ⟨oc,od,.func fd,osl⟩) (hcd:codeIn K fd.code fd.qualname=true) (hroom:A.depth<recursionLimit)
  (hbody:fd.body=.stmts body) (hnm:fd.scope.names=nms) (hbind:bindArgs fd args=pure binds) (hcell:(nms.all fun x=>x.2 != .cell)=true)
  (hloc:(binds.all fun x=>nms.lookup x.1 == some .local)=true)
  (hg:fd.globals=mainGlobals) (hb:fd.builtins=builtinsNs) (hco:fd.scope.isCoroutine=false) (hgen:fd.scope.isGenerator=false) (hk:fd.scope.kind=.function)
  (h:∀L env s',EnvOk env L nms→env.frame=some L→At σ P ((L,Asn.ns fun x=>binds.reverse.lookup x)::led) s' →
   wpAny (model prog w) (A.deeper env) (execs body env) (fun fl s'=>R (.ok (.ret (match fl with|.ret v=>v|_=>.none))) s') (fun e s'=>wpAny (model prog w) (A.deeper env) (leaving env e) (fun _ s''=>R (.error e) s'') (fun e' s''=>R (.error e') s'') s') s') :
  codeAny (model prog w) A (.call (.ref f) args) R s:=by
 refine codeAny_call_def hroom (X.K.keeps H.sub _ _ ho) rfl (X.nolimit.keeps H.sub) (codeRec_of (X.K.keeps H.sub) hcd) hbody (BindsTo.of_eq hbind) ?_ ?_ (fun h₀ hn hs=>?_) hco hgen hk
 ·intro x hx
  rw[hnm] at hx
  have:=List.all_eq_true.mp hcell x hx
  simpa using this
 ·intro x hx
  rw[hnm]
  have:=List.all_eq_true.mp hloc x hx
  exact eq_of_beq this
 ·refine h s.heap.objs.size (callEnv fd s.heap.objs.size f) _ ⟨rfl,hk,hnm,hg,hb⟩ rfl ⟨?_,H.os,H.gens⟩
  have G:=H.ld.grow hs
  have new:∀b x,s.heap.get? b=some x→b≠s.heap.objs.size:=fun b x e q=>absurd (Heap.lt_size (q▸e)) (Nat.lt_irrefl _)
  refine⟨G.sub,?_,fun p hp=>?_,fun p hp=>?_⟩
  ·simp only[List.map_cons,List.nodup_cons]
   refine⟨fun hm=>?_,H.ld.nodup⟩
   refine E1A2 (List.mem_map.mp hm) fun p hp e=>?_
   refine E1A2 (H.ld.pt p hp) fun x hx _=>?_
   exact new _ _ hx e
  ·rcases List.mem_cons.mp hp with rfl|hp
   ·exact ok_ns hn
   ·exact G.pt p hp
  ·rcases List.mem_cons.mp hp with rfl|hp
   ·rcases q:P.get? s.heap.objs.size with _|x
    ·rfl
    ·exact absurd rfl (new _ _ (H.sub _ _ q))
   ·exact H.ld.off _ hp
noncomputable def Asn.cell (v:Option Value):Asn:=⟨fun _ o=>o.data=.cell v,fun _ e=>e⟩
theorem v_loadCell {x:Str} {c:Addr} {v:Value} {Q:Value→Shared→Prop} (O:EnvOk env L nms) (H:At σ P led s) (hm:(c,Asn.cell (some v))∈led) (hc:env.cells.lookup x=some c) (h:Q v s) (hl:nms.lookup x=some .cell) :
  wpAny (model prog w) A (loadName env x) Q E s:=by
 refine E1A2 (H.ld.get hm) fun o e r=>?_
 exact wpAny_loadName_cell O.kind (O.kindOf hl) hc ⟨o,e,r⟩ h
theorem v_loadFree {x:Str} {c:Addr} {v:Value} {Q:Value→Shared→Prop} (O:EnvOk env L nms) (H:At σ P led s) (hm:(c,Asn.cell (some v))∈led) (hc:env.cells.lookup x=some c) (h:Q v s) (hl:nms.lookup x=some .free) (hn:(x == ("__classdict__" : Str))=false) :
  wpAny (model prog w) A (loadName env x) Q E s:=by
 refine E1A2 (H.ld.get hm) fun o e r=>?_
 exact wpAny_loadName_free O.kind (O.kindOf hl) hc ⟨o,e,r⟩ h hn
theorem v_storeCell {x:Str} {c:Addr} {v₀:Option Value} {v:Value} {Q:Unit→Shared→Prop} (O:EnvOk env L nms) (H:At σ P led s) (U:Upd c (Asn.cell v₀) (Asn.cell (some v)) led led') (hc:env.cells.lookup x=some c)
  (h:∀s',At σ P led' s'→Q () s') (hl:nms.lookup x=some .cell):wpAny (model prog w) A (storeName env x v) Q E s:=by
 refine E1A2 (H.ld.get U.mem) fun o e r=>?_
 exact wpAny_storeName_cell O.kind (O.kindOf hl) hc ⟨o,e,r⟩ fun h' zz2 hs=>E1A2 zz2 fun o' e' r'=>h _ (H.upd (tk:=s.toks) U hs ⟨o',e',r'⟩)
noncomputable def flowVal:Flow→Value
 | .ret v=>v
 | _=>.none
theorem callK {f:Addr} {pos:List Value} {Q:Value→Shared→Prop} {oc:Value} {od:Option Addr} {osl:Array (Option Value)} {fd:FuncData} {body:List Stmt} (nms:List (Str×NameKind)) (binds:List (Str×Value))
  (X:Src K P) (H:At σ P led s) (ho:K.lookup f=some ⟨oc,od,.func fd,osl⟩) (hcd:codeIn K fd.code fd.qualname=true) (hroom:A.depth<recursionLimit)
  (hbody:fd.body=.stmts body) (hnm:fd.scope.names=nms) (hbind:bindArgs fd ⟨pos,[]⟩=pure binds) (hcell:(nms.all fun x=>x.2 != .cell)=true)
  (hloc:(binds.all fun x=>nms.lookup x.1 == some .local)=true)
  (hg:fd.globals=mainGlobals) (hb:fd.builtins=builtinsNs) (hco:fd.scope.isCoroutine=false) (hgen:fd.scope.isGenerator=false) (hk:fd.scope.kind=.function)
  (h:∀L env s',EnvOk env L nms→At σ P ((L,Asn.ns fun x=>binds.reverse.lookup x)::led) s' →
   wpAny (model prog w) (A.deeper env) (execs body env) (fun fl s'=>Q (flowVal fl) s') (fun _ _=>False) s') :
  wpAny (model prog w) A (call (.ref f) pos) Q E s:=
 wpAny_call (callFn X H ho hcd hroom hbody hnm hbind hcell hloc hg hb hco hgen hk fun L env s' O _ H'=>wpAny_mono (h L env s' O H') (fun fl s' q=>by obtain⟨⟩:=fl <;> exact q) fun _ _ q=>q.elim)
theorem Rm.deeper {n:Nat} (R:Rm A (n+1)):Rm (A.deeper env) n:=⟨R.handled,by have:=R.depth; show A.depth+1+n≤900; exact dp1 (by assumption),by have:=R.units; show A.units+3+60*n≤9000; exact un2 (by assumption) rfl⟩
theorem Rm.lim {n:Nat} (R:Rm A n):A.depth<recursionLimit:=by have:=R.depth; show A.depth<1000; lia
theorem Rm.c1 {n:Nat} (R:Rm A n):A.units+1<cLine:=by have:=R.units; show A.units+1<9900; lia
theorem Rm.c0 {n:Nat} (R:Rm A n):A.units<cLine:=by have:=R.units; show A.units<9900; lia
end
end Mine
namespace Mine
noncomputable def Asn.list {α:Type} (V:Rep α) (xs:List α):Asn:=
 ⟨fun P o=>∃vs n,o=listOf vs n∧F2 (V.is P) xs vs.toList,by rintro P P' o k ⟨vs,n,e,f⟩; exact⟨vs,n,e,f.imp fun _ _=>V.mono k⟩⟩
noncomputable def Rep.list {α:Type} (V:Rep α):Rep (List α):=
 ⟨fun P xs v=>∃a vs n,v=.ref a∧P.get? a=some (listOf vs n)∧F2 (V.is P) xs vs.toList,by rintro P P' o v k ⟨a,vs,n,e,g,f⟩; exact⟨a,vs,n,e,k _ _ g,f.imp fun _ _=>V.mono k⟩⟩
noncomputable def Asn.iter (l:Addr) (i:Nat):Asn:=⟨fun _ o=>o.cls=.type "list_iterator"∧o.data=.fields #[.ref l,.int i 0],fun _ h=>h⟩
theorem Ld.extBut {P h h':Heap} {a:Addr} {R:Asn} {led:List (Addr×Asn)} (H:Ld P ((a,R)::led) h) (k:Heap.ExtBut a h h'):Ld P led h':=by
 have hn:=H.nodup
 simp only[List.map_cons,List.nodup_cons] at hn
 have off:=H.off _ (.head _)
 refine⟨fun b o e=>k b o (fun q=>?_) (H.sub _ _ e),hn.2,fun p hp=>?_,fun p hp=>H.off p (.tail _ hp)⟩
 ·subst q
  rw[off] at e; contradiction
 ·refine E1A2 (H.pt p (.tail _ hp)) fun o e r=>?_
  exact⟨o,k _ _ (fun q=>hn.1 (q▸List.mem_map_of_mem hp)) e,r⟩
theorem At.extBut {σ:Shared} {P h':Heap} {a:Addr} {R:Asn} {led:List (Addr×Asn)} {s:Shared} {tk:Nat} (H:At σ P ((a,R)::led) s) (k:Heap.ExtBut a s.heap h'):At σ P led { s with heap:=h',toks:=tk }:=
 ⟨H.ld.extBut k,H.os,H.gens⟩
section
variable {prog:Program} {w:World} {σ:Shared} {P:Heap} {led led':List (Addr×Asn)} {s:Shared} {A:Around} {E:Value→Shared→Prop} {env:Env} {L:Addr} {nms:List (Str×NameKind)} {K:Frag}
 {α:Type} {V:Rep α} {xs:List α} {x:α} {l:Addr} {u:Value}
theorem At.list (H:At σ P led s) (hm:(l,Asn.list V xs)∈led):∃vs n,s.heap.get? l=some (listOf vs n)∧F2 (V.is P) xs vs.toList:=by
 obtain⟨o,e,vs,n,rfl,f⟩:=H.ld.get hm
 exact⟨vs,n,e,f⟩
theorem m_list {name:Str} {id:String} {pl:Sem Bool} {Q:Value×List Value→Shared→Prop} (H:At σ P led s) (hm:(l,Asn.list V xs)∈led) (slot:Slot "list" name id) (hty:typeOf (.builtin id)=pure (.type "method_descriptor"))
  (h:Q (.builtin id,[.ref l]) s):wpAny (model prog w) A (getMethod (.ref l) name pl) Q E s:=by
 refine E2A2 (H.list hm) fun vs n e f=>?_
 exact getMethod_builtin ⟨_,e,rfl⟩ PySem.F.plainAttrs_list slot hty (fun a q=>by(injection q with q; subst q); exact⟨_,e,rfl⟩) h
theorem r_append {Q:Value→Shared→Prop} (H:At σ P led s) (U:Upd l (Asn.list V xs) (Asn.list V (xs++[x])) led led') (hv:V.is P x u) (hz:xs.length≤1000)
  (h:∀s',At σ P led' s'→Q .none s'):wpAny (model prog w) A (call (.builtin "list.append") [.ref l,u]) Q E s:=by
 refine E2A2 (H.list U.mem) fun vs n e f=>?_
 have hl:xs.length=vs.size:=by have:=f.length; exact this
 refine append_at (hsz:=by rw[sizeLine_eq]; exact eq2 (by assumption) (tr1 (by assumption) rfl)) e fun h' hs ho=>h _ (H.upd (tk:=s.toks) U hs ⟨_,ho,vs.push u,n+1,rfl,?_⟩)
 rw[Array.toList_push]
 exact f.snoc hv
theorem r_len {Q:Value→Shared→Prop} (H:At σ P led s) (hm:(l,Asn.list V xs)∈led) (hz:xs.length≤1000000)
  (h:∀t s',At σ P led s'→Q (.int xs.length t) s'):wpAny (model prog w) A (call (.builtin "len") [.ref l]) Q E s:=by
 refine E2A2 (H.list hm) fun vs n e f=>?_
 have hl:xs.length=vs.size:=by have:=f.length; exact this
 refine len_list ⟨_,e,rfl,_,rfl⟩ (by rw[←hl]; lia) ?_
 rw[←hl]
 exact h _ _ H.tok
theorem r_pop0 {t:Tok} {Q:Value→Shared→Prop} (H:At σ P led s) (U:Upd l (Asn.list V (x::xs)) (Asn.list V xs) led led') (hz:xs.length≤1000)
  (h:∀u s',V.is P x u→At σ P led' s'→Q u s'):wpAny (model prog w) A (call (.builtin "list.pop") [.ref l,.int 0 t]) Q E s:=by
 refine E2A2 (H.list U.mem) fun vs n e f=>?_
 obtain⟨vs⟩:=vs
 dsimp only at f
 cases f with
 | @cons _ u _ us hu f=>
  refine wpAny_call_entry F.slot_list_pop ⟨_,e,rfl⟩ F.entry_list_pop ?_ (F.args_list_pop_2 _ _)
  show wpAny _ _ (Builtin.List.listItems (.ref l) >>= _) _ _ s
  refine wpAny_bind (wpAny_bind (wpAny_seqItems e rfl (wpAny_pure ?_)))
  have hi:(seqIndex? 0 (us.length+1))=some 0:=by
   unfold seqIndex?
   simp
  rw[if_neg (by simp)]
  simp only[List.size_toArray,List.length_cons,hi,Option.bind_some,List.getElem?_toArray,List.getElem?_cons_zero,Option.map_some]
  refine wpAny_bind ?_
  have hl:xs.length=us.length:=f.length
  refine wpAny_updateSeq (hz:=by rw[sizeLine_eq]; simp; exact eq2 (by assumption) (tr1 (by assumption) rfl)) (_hz':=by rw[sizeLine_eq]; simp; exact eq2 (by assumption) (tr1 (by assumption) rfl)) e rfl (wpAny_pure ⟨u,rfl,h u _ hu (H.upd (tk:=s.toks) U (Heap.SameBut.update ..) ⟨_,Heap.get?_update_self _ e rfl,us.toArray,n+1,?_,f⟩)⟩)
  simp[Obj.mapSeq]
noncomputable def TurnEnd (next:Shared→Prop) (brk:Shared→Prop) (ret:Value→Shared→Prop) (f:Flow) (s:Shared):Prop:=
 match f with
 | .next=>next s
 | .cont=>next s
 | .brk=>brk s
 | .ret v=>ret v s
theorem for_list {target:Expr} {body orelse:List Stmt} {R:Flow→Shared→Prop} (Inv:Nat→Heap→List (Addr×Asn)→Prop) (hh:A.handled=none)
  (H:At σ P led s) (h0:Inv 0 P led)
  (hl:∀i P' led' s',Inv i P' led'→At σ P' led' s'→∃vs n,s'.heap.get? l=some (listOf vs n)∧F2 (V.is P') xs vs.toList)
  (turn:∀i x v it P' led' s',xs[i]? = some x→V.is P' x v→Inv i P' led'→At σ P' ((it,Asn.iter l (i+1))::led') s' →
   wpAny (model prog w) A (assign target env v) (fun _ s₂=>wpAny (model prog w) A (execs body env) (TurnEnd (fun s₃=>∃P'' led'',Inv (i+1) P'' led''∧At σ P'' ((it,Asn.iter l (i+1))::led'') s₃) (R .next) (fun v=>R (.ret v))) (fun _ _=>False) s₂) (fun _ _=>False) s')
  (done:∀P' led' s',Inv xs.length P' led'→At σ P' led' s'→wpAny (model prog w) A (execs orelse env) R (fun _ _=>False) s')
  (hgo:∀it v,letOwnedTupleGo target it v=pure ()) :
  wpAny (model prog w) A (pyIter (.ref l)) (fun it s₂=>codeAny (model prog w) A (.forLoop target it body orelse env) (fun r s'=>match r with|.ok f=>R f s'|.error _=>False) s₂) E s:=by
 refine E2A2 (hl 0 P led s h0 H) fun vs n e f=>?_
 refine wpAny_pyIter_list (items:=vs) ⟨_,e,rfl,_,rfl⟩ ?_
 refine codeAny_forLoop (fun k s'=>∃i P' led',k=xs.length+1 - i∧i≤xs.length∧Inv i P' led'∧At σ P' ((s.heap.objs.size,Asn.iter l i)::led') s') ?_ (xs.length+1)
  ⟨0,P,led,rfl,Nat.zero_le _,h0,H.push (R:=Asn.iter l 0) ⟨rfl,rfl⟩ rfl⟩ (hgo _)
 clear e f vs
 intro k s' hz19
 refine E3A4 hz19 fun i P' led' ee18 hi hI H'=>?_
 clear hz19
 subst ee18
 refine E2A2 (hl i P' led' s' hI H'.drop) fun vs n' e' f=>?_
 have hlen:xs.length=vs.size:=by have:=f.length; exact this
 have hit:s'.heap.IsListIter s.heap.objs.size l i:=E1A3 (H'.ld.get (.head _)) fun o e c d=>⟨o,e,c,d⟩
 have hlist:s'.heap.IsList l vs:=⟨_,e',rfl,_,rfl⟩
 rcases hx:xs[i]? with _|x
 rotate_left
 ·
  have hlt:i<xs.length:=(List.getElem?_eq_some_iff.mp hx).1
  refine E1A2 (f.get' hx) fun v hv hV=>?_
  refine wpAny_pyNext_list_item hit hlist (x:=v) (by simpa using hv) fun h' hit' hs'=>?_
  have H2:At σ P' ((s.heap.objs.size,Asn.iter l (i+1))::led') { s' with heap:=h' }:=by
   refine H'.upd (tk:=s'.toks) .head hs' ?_
   refine E1A3 (hit') fun o ho hc hd=>?_
   clear hit'
   exact⟨o,ho,hc,hd⟩
  refine wpAny_mono (turn i x v _ P' led' _ hx hV hI H2) (fun _ s₂ q=>?_) fun _ _ q=>q.elim
  refine wpAny_mono q (fun f s₃ z=>?_) fun _ _ q=>q.elim
  have nx:(∃P'' led'',Inv (i+1) P'' led''∧At σ P'' ((s.heap.objs.size,Asn.iter l (i+1))::led'') s₃)→∃m,m<xs.length+1 - i∧∃i' P' led',m=xs.length+1 - i'∧i'≤xs.length∧Inv i' P' led'∧At σ P' ((s.heap.objs.size,Asn.iter l i')::led') s₃:=
   fun zz4=>E2A2 zz4 fun P'' led'' a b=>⟨xs.length+1 - (i+1),by exact sb14 (by assumption),i+1,P'',led'',rfl,hlt,a,b⟩
  obtain⟨⟩:=f <;> first|exact nx z|exact z
 ·
  have hin:i=xs.length:=by
   have:=List.getElem?_eq_none_iff.mp hx; lia
  subst hin
  refine wpAny_pyNext_list_end hh hit hlist (by simp[hlen]) fun h' he'=>?_
  exact wpAny_mono (done P' led' _ hI (H'.extBut (tk:=s'.toks) he')) (fun _ _ q=>q) fun _ _ q=>q.elim
end
end Mine
namespace Mine
section
variable {prog:Program} {w:World} {κ β:Type} {di:DecidableEq κ} {D:DKind prog w κ} {V:Rep β} {ps:List (κ×β)} {k:κ} {v key:Value} {d:Addr}
 {σ:Shared} {P:Heap} {led led':List (Addr×Asn)} {s:Shared} {A:Around} {E:Value→Shared→Prop} {env:Env} {K:Frag} {b:β} {ep:Option Nat}
theorem contains_ {Q:Bool→Shared→Prop} (H:At σ P led s) (X:Src K P) (hm:(d,Asn.dictX D V ps ep)∈led) (hu:A.units+1<cLine) (hk:D.rep.is P k key)
  (h:∀s',At σ P led s'→Q (look ps k).isSome s'):wpAny (model prog w) A (contains (.ref d) key) Q E s:=by
 have hT:=H.dictT hm
 unfold contains
 try with_reducible refine wpAny_holding ?_
 refine wpAny_bind (wpAny_specialOf hT slot_dict_contains.lookup ?_)
 refine wpAny_bind (wpAny_callSpecialUnlessNone?_slot (name:=Str.ofString "__contains__") hT slot_dict_contains
  (wpAny_call_entry slot_dict_contains hT entry_dict_contains ?_ (args_dict_contains _ _)))
 show wpAny _ _ (dictGet d key >>= _) _ _ s
 refine wpAny_bind (dictGet_ H hm (A:=A.in1) hu hk fun tk r hr=>?_)
 have hq:=h _ (H.tok (tk:=tk))
 rcases hf:look ps k with _|p
 rotate_left
 ·
  rw[hf] at hr hq
  rcases r with _|u
  ·exact hr.elim
  ·
   exact wpAny_pure ⟨_,rfl,wpAny_truthy_bool hq⟩
 ·
  rw[hf] at hr hq
  rcases r with _|u
  rotate_left
  ·exact hr.elim
  ·
   exact wpAny_bind (wpAny_pendingKey_other (H.noSys X hm) (wpAny_pure ⟨_,rfl,wpAny_truthy_bool hq⟩))
theorem r_notin {Q:Value→Shared→Prop} (H:At σ P led s) (X:Src K P) (hm:(d,Asn.dictX D V ps ep)∈led) (hu:A.units+1<cLine) (hk:D.rep.is P k key)
  (h:∀s',At σ P led s'→Q (.bool (!(look ps k).isSome)) s'):wpAny (model prog w) A (compareOp .NotIn key (.ref d)) Q E s:=by
 exact wpAny_bind (contains_ H X hm hu hk fun s' H'=>wpAny_pure (h s' H'))
theorem r_subdict {value slice:Expr} {Q:Value→Shared→Prop} (H:At σ P led s) (hm:(d,Asn.dictX D V ps ep)∈led) (hu:A.units+1<cLine) (hk:D.rep.is P k key) (hb:look ps k=some b)
  (h:∀u s',V.is P b u→At σ P led s'→Q u s') (hs:subscripted slice false (.ref d) key=operate [.ref d,key] (getItem (.ref d) key)) :
  wpAny (model prog w) A (subscriptTail value slice (.ref d) key) Q E s:=
 tail_any (H.dictT hm) slot_dict_getitem.lookup (r_getitem H hm hu hk hb h) hs
theorem s_expr {L:Addr} {nms:List (Str×NameKind)} {e:Expr} {pos:Pos} {Q:Flow→Shared→Prop} (O:EnvOk env L nms)
  (h:wpAny (model prog w) A (eval e env) (fun v s'=>match v with|.ref _=>False|_=>Q .next s') E s) (hs:swapsWith e none pos.line env=pure false):wpAny (model prog w) A (exec (.Expr e pos) env) Q E s:=
 wpAny_Expr h (by unfold interactive; rw[O.kind]; rfl) hs
theorem s_for {target iter:Expr} {body orelse:List Stmt} {pos:Pos} {Q:Flow→Shared→Prop}
  (h:wpAny (model prog w) A (eval iter env) (fun x s₁=>wpAny (model prog w) A (pyIter x) (fun it s₂=>codeAny (model prog w) A (.forLoop target it body orelse env) (fun r s'=>match r with|.ok f=>Q f s'|.error _=>False) s₂) E s₁) E s)
  (hf:∀x,foldedSetIterable iter env x=pure x):wpAny (model prog w) A (exec (.For target iter body orelse pos) env) Q E s:=
 wpAny_For (wpAny_mono h (fun x s₁ h₁=>wpAny_mono h₁ (fun it s₂ h₂=>codeAny_mono h₂ fun r s' z=>by obtain⟨⟩:=r <;> first|exact z|exact z.elim) fun _ _ q=>q) fun _ _ q=>q) hf
theorem s_while {test:Expr} {body orelse:List Stmt} {pos:Pos} {Q:Flow→Shared→Prop} (I:Nat→Shared→Prop)
  (turn:∀n s,I n s→wpAny (model prog w) A (isTrue test env (eval test env)) (fun b s₂=>if b=true then
    wpAny (model prog w) A (execs body env) (TurnEnd (fun s₃=>∃m,m<n∧I m s₃) (Q .next) (fun v=>Q (.ret v))) (fun _ _=>False) s₂
   else wpAny (model prog w) A (execs orelse env) Q (fun _ _=>False) s₂) (fun _ _=>False) s) (n:Nat) (h:I n s) :
  wpAny (model prog w) A (exec (.While test body orelse pos) env) Q E s:=by
 refine wpAny_While (codeAny_mono (codeAny_whileLoop (R:=fun r s'=>match r with|.ok f=>Q f s'|.error _=>False) I (fun n s hI=>?_) n h) fun r s' z=>by obtain⟨⟩:=r <;> first|exact z|exact z.elim)
 refine wpAny_mono (turn n s hI) (fun b s₂ q=>?_) fun _ _ q=>q.elim
 rcases b with _|_
 rotate_left
 ·
  simp only[if_true] at q ⊢
  exact wpAny_mono q (fun f s₃ z=>by obtain⟨⟩:=f <;> exact z) fun _ _ q=>q.elim
 ·
  simp only[Bool.false_eq_true,if_false] at q ⊢
  exact wpAny_mono q (fun f s₃ z=>z) fun _ _ q=>q.elim
end
end Mine
namespace Mine
noncomputable section
noncomputable def KF (w:World):Frag:=hd.heap_1 w.params
structure Gl where
 prog:Program
 w:World
 σ:Shared
structure Cx (G:Gl) (P:Heap) (nms:List (Str×NameKind)) (n:Nat) where
 env:Env
 L:Addr
 A:Around
 src:Src (KF G.w) P
 eok:EnvOk env L nms
 nod:nms.lookup ("__debug__" : Str)=none
 rm:Rm A (n+1)
 own:List (Str×Addr)
 ownc:∀x c,own.lookup x=some c→env.cells.lookup x=some c
 ownl:∀x,nms.lookup x=some .local→own.lookup x=none
 ownd:(own.map (·.1)).Nodup
noncomputable def frOf (L:Addr) (own:List (Str×Addr)) (m:Str→Option Value):List (Addr×Asn):=
 (L,Asn.ns fun x=>if(own.lookup x).isSome then none else m x)::own.map fun p=>(p.2,Asn.cell (m p.1))
theorem frOf_local {L:Addr} {own:List (Str×Addr)} {m:Str→Option Value} {x:Str} {v:Value} (h:own.lookup x=none) :
  frOf L own (upd m x v)=(L,Asn.ns (upd (fun x=>if(own.lookup x).isSome then none else m x) x v))::own.map fun p=>(p.2,Asn.cell (m p.1)):=by
 unfold frOf
 congr 1
 ·congr 2
  funext y
  by_cases e:y=x
  ·subst e; simp[h,upd]
  ·simp[upd,e]
 ·refine List.map_congr_left fun p hp=>?_
  have:p.1≠x:=fun e=>by
   have:=List.lookup_eq_none_iff.mp h p hp
   simp[e] at this
  rw[show upd m x v p.1=m p.1 from if_neg this]
theorem frOf_cell {m:Str→Option Value} {x:Str} {v:Value} {c:Addr}:∀ {own:List (Str×Addr)},(own.map (·.1)).Nodup→own.lookup x=some c →
  Upd c (Asn.cell (m x)) (Asn.cell (some v)) (own.map fun p=>(p.2,Asn.cell (m p.1))) (own.map fun p=>(p.2,Asn.cell (upd m x v p.1)))
 | [],_,h=>by contradiction
 | (y,a)::r,hn,h=>by
  simp only[List.map_cons,List.nodup_cons] at hn
  by_cases e:x=y
  ·subst e
   simp only[List.lookup_cons,beq_self_eq_true] at h
   (obtain rfl:=Option.some.inj h)
   have hr:(r.map fun p=>(p.2,Asn.cell (upd m x v p.1)))=r.map fun p=>(p.2,Asn.cell (m p.1)):=
    List.map_congr_left fun p hp=>by
     have q:p.1≠x:=fun e=>hn.1 (e▸List.mem_map_of_mem (f:=fun p:Str×Addr=>p.1) hp)
     rw[show upd m x v p.1=m p.1 from if_neg q]
   simp only[List.map_cons,hr,show upd m x v x=some v from if_pos rfl]
   exact .head
  ·have e':(x == y)=false:=by exact decide_eq_false e
   simp only[List.lookup_cons,e'] at h
   simp only[List.map_cons,show upd m x v y=m y from if_neg fun q=>e q.symm]
   exact .tail (frOf_cell hn.2 h)
section
variable {G:Gl} {P:Heap} {nms:List (Str×NameKind)} {n:Nat} (Γ:Cx G P nms n)
noncomputable def Cx.fr (m:Str→Option Value):List (Addr×Asn):=frOf Γ.L Γ.own m
noncomputable def Cx.at_ (m:Str→Option Value) (led:List (Addr×Asn)) (s:Shared):Prop:=At G.σ P (Γ.fr m++led) s
theorem Cx.tl {m:Str→Option Value} {led:List (Addr×Asn)} {p:Addr×Asn} (h:p∈led):p∈Γ.fr m++led:=List.mem_append_right _ h
theorem Upd.pre {d:Addr} {R R':Asn} {led led':List (Addr×Asn)} (U:Upd d R R' led led'):∀l,Upd d R R' (l++led) (l++led')
 | []=>U
 | _::l=>.tail (U.pre l)
theorem Upd.post {d:Addr} {R R':Asn} {led led':List (Addr×Asn)} (U:Upd d R R' led led') (l:List (Addr×Asn)):Upd d R R' (led++l) (led'++l):=by
 induction U with
 | head=>exact .head
 | tail _ ih=>exact .tail ih
theorem Cx.tu {m:Str→Option Value} {led led':List (Addr×Asn)} {d:Addr} {R R':Asn} (U:Upd d R R' led led'):Upd d R R' (Γ.fr m++led) (Γ.fr m++led'):=U.pre _
theorem At.dropL {σ:Shared} {P:Heap} {led:List (Addr×Asn)} {s:Shared}:∀ {l:List (Addr×Asn)},At σ P (l++led) s→At σ P led s
 | [],H=>H
 | _::_,H=>At.dropL H.drop
theorem Cx.out {m:Str→Option Value} {led:List (Addr×Asn)} {s:Shared} (H:Γ.at_ m led s):At G.σ P led s:=At.dropL H
theorem Cx.load {m:Str→Option Value} {led:List (Addr×Asn)} {s:Shared} {A:Around} {E:Value→Shared→Prop} {x:Str} {v:Value} {Q:Value→Shared→Prop} (H:At G.σ P (Γ.fr m++led) s) (hv:m x=some v) (hl:nms.lookup x=some .local) (h:Q v s) :
  wpAny (model G.prog G.w) A (loadName Γ.env x) Q E s:=
 v_loadName Γ.eok H (.head _) (by rw[Γ.ownl x hl]; exact hv) h hl
theorem Cx.loadC {m:Str→Option Value} {led:List (Addr×Asn)} {s:Shared} {A:Around} {E:Value→Shared→Prop} {x:Str} {v:Value} {c:Addr} {Q:Value→Shared→Prop} (H:At G.σ P (Γ.fr m++led) s) (hv:m x=some v) (hl:nms.lookup x=some .cell) (hc:Γ.own.lookup x=some c) (h:Q v s) :
  wpAny (model G.prog G.w) A (loadName Γ.env x) Q E s:=by
 refine v_loadCell Γ.eok H (c:=c) (List.mem_append_left _ (.tail _ ?_)) (Γ.ownc x c hc) h hl
 exact hv▸List.mem_map_of_mem (f:=fun p:Str×Addr=>(p.2,Asn.cell (m p.1))) (mem_of_lookup hc)
theorem Cx.store {m:Str→Option Value} {led:List (Addr×Asn)} {s:Shared} {A:Around} {E:Value→Shared→Prop} {x:Str} {v:Value} {Q:Unit→Shared→Prop} (H:At G.σ P (Γ.fr m++led) s) (hl:nms.lookup x=some .local)
  (h:∀s',At G.σ P (Γ.fr (upd m x v)++led) s'→Q () s'):wpAny (model G.prog G.w) A (storeName Γ.env x v) Q E s:=
 v_store Γ.eok H (led':=Γ.fr (upd m x v)++led) (by unfold Cx.fr; rw[frOf_local (Γ.ownl x hl)]; exact .head) h hl
theorem Cx.storeC {m:Str→Option Value} {led:List (Addr×Asn)} {s:Shared} {A:Around} {E:Value→Shared→Prop} {x:Str} {v:Value} {c:Addr} {Q:Unit→Shared→Prop} (H:At G.σ P (Γ.fr m++led) s) (hl:nms.lookup x=some .cell) (hc:Γ.own.lookup x=some c)
  (h:∀s',At G.σ P (Γ.fr (upd m x v)++led) s'→Q () s'):wpAny (model G.prog G.w) A (storeName Γ.env x v) Q E s:=by
 have e:(fun y=>if(Γ.own.lookup y).isSome then none else upd m x v y)=fun y=>if(Γ.own.lookup y).isSome then none else m y:=by
  funext y
  by_cases e:y=x
  ·subst e; simp[hc]
  ·rw[show upd m x v y=m y from if_neg e]
 refine v_storeCell Γ.eok H (c:=c) (v₀:=m x) (led':=Γ.fr (upd m x v)++led) (Upd.post ?_ led) (Γ.ownc x c hc) h hl
 unfold Cx.fr frOf
 rw[e]
 exact .tail (frOf_cell Γ.ownd hc)
noncomputable def Cx.wp {α:Type} (t:Sem α) (Q:α→Shared→Prop) (s:Shared):Prop:=wpAny (model G.prog G.w) Γ.A t Q (fun _ _=>False) s
noncomputable def Cx.seq (rest:List Stmt) (Q:Flow→Shared→Prop):Flow→Shared→Prop:=fun f s'=>match f with
 | .next=>Γ.wp (execs rest Γ.env) Q s'
 | f=>Q f s'
end
structure EvC {G:Gl} {P:Heap} {nms:List (Str×NameKind)} {n:Nat} (Γ:Cx G P nms n) (m:Str→Option Value) (led:List (Addr×Asn)) (e:Expr) (R:Value→Prop) (led':List (Addr×Asn)):Prop where
 run:∀(Q:Value→Shared→Prop) (s:Shared),Γ.at_ m led s→(∀v s',R v→Γ.at_ m led' s'→Q v s')→Γ.wp (eval e Γ.env) Q s
noncomputable abbrev Ev {G:Gl} {P:Heap} {nms:List (Str×NameKind)} {n:Nat} (Γ:Cx G P nms n) (m:Str→Option Value) (led:List (Addr×Asn)) (e:Expr) (R:Value→Prop):Prop:=EvC Γ m led e R led
structure TstC {G:Gl} {P:Heap} {nms:List (Str×NameKind)} {n:Nat} (Γ:Cx G P nms n) (m:Str→Option Value) (led:List (Addr×Asn)) (e:Expr) (b:Bool) (led':List (Addr×Asn)):Prop where
 run:∀(Q:Bool→Shared→Prop) (s:Shared),Γ.at_ m led s→(∀s',Γ.at_ m led' s'→Q b s')→Γ.wp (isTrue e Γ.env (eval e Γ.env)) Q s
noncomputable abbrev Tst {G:Gl} {P:Heap} {nms:List (Str×NameKind)} {n:Nat} (Γ:Cx G P nms n) (m:Str→Option Value) (led:List (Addr×Asn)) (e:Expr) (b:Bool):Prop:=TstC Γ m led e b led
structure St {G:Gl} {P:Heap} {nms:List (Str×NameKind)} {n:Nat} (Γ:Cx G P nms n) (m:Str→Option Value) (led:List (Addr×Asn)) (body:List Stmt) (Q:Flow→Shared→Prop):Prop where
 run:∀s,Γ.at_ m led s→Γ.wp (execs body Γ.env) Q s
noncomputable def Is (v:Value):Value→Prop:=fun u=>u=v
noncomputable def IsI (n:Int):Value→Prop:=fun u=>∃t,u=.int n t
structure AttrOk (w:World) (C:Addr) (a:Str):Prop where
 g:plainGet (KF w) C a=true
 h:hasDictIn (KF w) C=true
 f:findIn (KF w) (.ref C) a=some none
structure MethOk (w:World) (C:Addr) (a:Str) (fn:Addr):Prop where
 g:plainGet (KF w) C a=true
 f:findIn (KF w) (.ref C) a=some (some (.ref fn))
 k:isFn (KF w) (.ref fn)=true
 c:keepIn (KF w) (.ref fn)=true
structure SetOk (w:World) (C:Addr) (a:Str):Prop where
 s:findIn (KF w) (.ref C) "__setattr__" = some (some (.builtin "object.__setattr__"))
 p:plainOver (KF w) C=true
 t:takerIn (KF w) C a=some none
 h:hasDictIn (KF w) C=true
section
variable {G:Gl} {P:Heap} {nms:List (Str×NameKind)} {n:Nat} {Γ:Cx G P nms n} {m:Str→Option Value} {led led' led1 led2:List (Addr×Asn)} {e e1 e2:Expr} {R R1 R2:Value→Prop} {x a:Str} {v:Value} {pos p1 p2:Pos}
 {rest body orelse:List Stmt} {Q:Flow→Shared→Prop}
theorem Cx.dbg (Γ:Cx G P nms n) {x:Str} {k:NameKind} (hl:nms.lookup x=some k):(x == ("__debug__" : Str))=false:=
 beq_eq_false_iff_ne.mpr fun e=>by rw[e,Γ.nod] at hl; contradiction
theorem Ev.name (hv:m x=some v) (hR:R v) (hl:nms.lookup x=some .local):Ev Γ m led (.Name x pos) R:=
 ⟨fun _ _ H h=>wpAny_Name (Γ.load H hv hl (h _ _ hR H)) (Γ.dbg hl)⟩
theorem Ev.glob (e:nsIn (KF G.w) mainGlobals x=some (some v)) (hR:R v) (hl:nms.lookup x=some .globalImplicit):Ev Γ m led (.Name x pos) R:=
 ⟨fun _ _ H h=>v_global Γ.eok Γ.src H e (h _ _ hR H) hl (Γ.dbg hl)⟩
theorem Ev.builtin (e:nsIn (KF G.w) mainGlobals x=some none) (hv:bootBuiltins x=some v) (hn:x≠"__name__") (hR:R v) (hl:nms.lookup x=some .globalImplicit):Ev Γ m led (.Name x pos) R:=
 ⟨fun _ _ H h=>v_builtin Γ.eok Γ.src H e hv hn (h _ _ hR H) hl (Γ.dbg hl)⟩
theorem Ev.int {i:Int} {k:Nat}:Ev Γ m led (.Constant (.int i) k pos) (IsI i):=
 ⟨fun _ _ H h=>v_int H fun t _ H'=>h _ _ ⟨t,rfl⟩ H'⟩
theorem Ev.str {i:Str} {k:Nat}:Ev Γ m led (.Constant (.str i) k pos) (fun u=>∃t,u=.str i t):=
 ⟨fun _ _ H h=>v_str H fun t _ H'=>h _ _ ⟨t,rfl⟩ H'⟩
theorem Ev.bool {b:Bool} {k:Nat}:Ev Γ m led (.Constant (.bool b) k pos) (Is (.bool b)):=
 ⟨fun _ _ H h=>Constant_bool (h _ _ rfl H)⟩
theorem Ev.attr {me d C:Addr} {f:Str→Option Value} {k:Nat} (h1:Ev Γ m led (.Name x p1) (Is (.ref me))) (hme:(me,Asn.eq (instObj C d))∈led) (hd:(d,Asn.nsN k f)∈led) (hf:f a=some v) (O:AttrOk G.w C a) (hv:handedIn v=true) (hR:R v) :
  Ev Γ m led (.Attribute (.Name x p1) a pos) R:=
 ⟨fun Q s H h=>Attribute_name (h1.run _ s H fun u s1 hu H1=>by
  subst hu
  exact r_attr (H1:At _ _ _ _) Γ.src.K (Γ.tl hme) (Γ.tl hd) hf O.g O.h O.f rfl hv fun s' H'=>h _ _ hR H')⟩
section
variable {κ β:Type} {di:DecidableEq κ} {D:DKind G.prog G.w κ} {V:Rep β} {ps:List (κ×β)} {k:κ} {d:Addr} {b:β} {ep:Option Nat}
theorem Ev.sub (h1:Ev Γ m led e1 (Is (.ref d))) (hm:(d,Asn.dictX D V ps ep)∈led) (h2:Ev Γ m led e2 (D.rep.is P k)) (hb:look ps k=some b)
  (hs:∀o i,subscripted e2 false o i=operate [o,i] (getItem o i)):Ev Γ m led (.Subscript e1 e2 pos) (V.is P b):=
 ⟨fun Q s H h=>Subscript_ (h1.run _ s H fun u s1 hu H1=>by
  subst hu
  exact h2.run _ s1 H1 fun i s2 hi H2=>r_subdict (H2:At _ _ _ _) (Γ.tl hm) Γ.rm.c1 hi hb (fun u s' hu H'=>h u s' hu H') (hs _ _))⟩
theorem Ev.subI {ps:List (κ×Int)} {n:Int} (h1:Ev Γ m led e1 (Is (.ref d))) (hm:(d,Asn.dictX D Rep.int ps ep)∈led) (h2:Ev Γ m led e2 (D.rep.is P k)) (hb:look ps k=some n)
  (hs:∀o i,subscripted e2 false o i=operate [o,i] (getItem o i)):Ev Γ m led (.Subscript e1 e2 pos) (IsI n):=⟨(Ev.sub h1 hm h2 hb hs).run⟩
theorem Tst.inn {c:Bool} (h2:Ev Γ m led e2 (Is (.ref d))) (hm:(d,Asn.dictX D V ps ep)∈led) (h1:Ev Γ m led e1 (D.rep.is P k)) (hc:(look ps k).isSome=c) (hb:behindInMarks .In e2=false) :
  Tst Γ m led (.Compare e1 [.In] [e2] pos) c:=
 ⟨fun Q s H h=>wpAny_isTrue_Compare1 (h1.run _ s H fun u s1 hu H1=>h2.run _ s1 H1 fun o s2 ho H2=>by
  subst ho
  exact r_in (H2:At _ _ _ _) Γ.src (Γ.tl hm) Γ.rm.c1 hu fun s' H'=>wpAny_truthy_bool (hc▸h s' H')) hb⟩
theorem Tst.notin {c:Bool} (h2:Ev Γ m led e2 (Is (.ref d))) (hm:(d,Asn.dictX D V ps ep)∈led) (h1:Ev Γ m led e1 (D.rep.is P k)) (hc:(look ps k).isSome=!c) (hb:behindInMarks .NotIn e2=false) :
  Tst Γ m led (.Compare e1 [.NotIn] [e2] pos) c:=
 ⟨fun Q s H h=>wpAny_isTrue_Compare1 (h1.run _ s H fun u s1 hu H1=>h2.run _ s1 H1 fun o s2 ho H2=>by
  subst ho
  exact r_notin (H2:At _ _ _ _) Γ.src (Γ.tl hm) Γ.rm.c1 hu fun s' H'=>wpAny_truthy_bool (by rw[hc,Bool.not_not]; exact h s' H')) hb⟩
theorem St.setitem (h1:Ev Γ m led e1 (Is (.ref d))) (U:Upd d (Asn.dict D V ps) (Asn.dict D V (put ps k b)) led led') (h2:Ev Γ m led e2 (D.rep.is P k)) (h3:Ev Γ m led e (V.is P b))
  (hz:ps.length≤1000) (hw:∀env,swapsWith e (some (.Subscript e1 e2 p1)) pos.line env=pure false) (h:St Γ m led' rest Q) :
  St Γ m led (.Assign [.Subscript e1 e2 p1] e pos::rest) Q:=
 ⟨fun s H=>wpAny_execs_cons (wpAny_Assign_Subscript (h3.run _ s H fun u s1 hu H1=>h1.run _ s1 H1 fun o s2 ho H2=>by
  subst ho
  exact h2.run _ s2 H2 fun i s3 hi H3=>r_setitem (H3:At _ _ _ _) (Γ.tu U) Γ.rm.c1 hi hu hz fun s' H'=>h.run s' H') (hw _))⟩
theorem St.setitemI {ps:List (κ×Int)} {n:Int} (h1:Ev Γ m led e1 (Is (.ref d))) (U:Upd d (Asn.dict D Rep.int ps) (Asn.dict D Rep.int (put ps k n)) led led') (h2:Ev Γ m led e2 (D.rep.is P k)) (h3:Ev Γ m led e (IsI n))
  (hz:ps.length≤1000) (hw:∀env,swapsWith e (some (.Subscript e1 e2 p1)) pos.line env=pure false) (h:St Γ m led' rest Q) :
  St Γ m led (.Assign [.Subscript e1 e2 p1] e pos::rest) Q:=St.setitem h1 U h2 ⟨h3.run⟩ hz hw h
end
theorem Ev.add {x y:Int} (h1:Ev Γ m led e1 (IsI x)) (h2:Ev Γ m led e2 (IsI y)):Ev Γ m led (.BinOp e1 .Add e2 pos) (IsI (x+y)):=
 ⟨fun Q s H h=>wpAny_BinOp (h1.run _ s H fun u s1 ⟨t,hu⟩ H1=>h2.run _ s1 H1 fun o s2 ⟨t',ho⟩ H2=>by
  subst hu ho
  exact v_add (H2:At _ _ _ _) fun t s' H'=>h _ _ ⟨t,rfl⟩ H')⟩
theorem Tst.eqI {x y:Int} {c:Bool} (h1:Ev Γ m led e1 (IsI x)) (h2:Ev Γ m led e2 (IsI y)) (hc:(x == y)=c) (hb:behindInMarks .Eq e2=false):Tst Γ m led (.Compare e1 [.Eq] [e2] pos) c:=
 ⟨fun Q s H h=>wpAny_isTrue_Compare1 (h1.run _ s H fun u s1 ⟨t,hu⟩ H1=>h2.run _ s1 H1 fun o s2 ⟨t',ho⟩ H2=>by
  subst hu ho
  exact eq_int (wpAny_truthy_bool (hc▸h _ H2))) hb⟩
theorem TstC.of_ev {b:Bool} (h:EvC Γ m led e (Is (.bool b)) led') (hp:∀env whole,isTrue e env whole=(do let v ←whole; standAt e.pos; holding [v] (truthy v))):TstC Γ m led e b led':=
 ⟨fun Q s H k=>isTrue_plain (h.run _ s H fun v s' hv H'=>by subst hv; exact wpAny_truthy_bool (k s' H')) (hp _ _)⟩
theorem St.nil (h:∀s,Γ.at_ m led s→Q .next s):St Γ m led [] Q:=⟨fun s H=>wpAny_execs_nil (h s H)⟩
theorem St.skip (h:St Γ m led rest Q):St Γ m led [] (Γ.seq rest Q):=⟨fun s H=>wpAny_execs_nil (h.run s H)⟩
theorem St.ret (h1:EvC Γ m led e R led') (h:∀v s',R v→Γ.at_ m led' s'→Q (.ret v) s'):St Γ m led (.Return (some e) pos::rest) Q:=
 ⟨fun s H=>wpAny_execs_cons (wpAny_Return_some (h1.run _ s H fun v s' hv H'=>h v s' hv H'))⟩
theorem St.assign (h1:EvC Γ m led e R led') (hl:nms.lookup x=some .local) (hw:∀env,swapsWith e (some (.Name x p1)) pos.line env=pure false) (h:∀v,R v→St Γ (upd m x v) led' rest Q) :
  St Γ m led (.Assign [.Name x p1] e pos::rest) Q:=
 ⟨fun s H=>wpAny_execs_cons (wpAny_Assign_Name (h1.run _ s H fun v s1 hv H1=>Γ.store H1 hl fun s' H'=>(h v hv).run s' H') (hw _))⟩
theorem St.setattr {me d C:Addr} {f:Str→Option Value} {k:Nat} (h1:Ev Γ m led e R) (h2:Ev Γ m led (.Name x p1) (Is (.ref me))) (hme:(me,Asn.eq (instObj C d))∈led) (hf:(f a).isSome=true) (O:SetOk G.w C a)
  (hw:∀env,swapsWith e (some (.Attribute (.Name x p1) a p2)) pos.line env=pure false) (hk:k≤1000)
  (U:∀v,R v→∃led',Upd d (Asn.nsN k f) (Asn.nsN k (upd f a v)) led led'∧St Γ m led' rest Q) :
  St Γ m led (.Assign [.Attribute (.Name x p1) a p2] e pos::rest) Q:=
 ⟨fun s H=>wpAny_execs_cons (plainObj_wpAny_Assign_Attribute (h1.run _ s H fun u s1 hu H1=>h2.run _ s1 H1 fun o s2 ho H2=>by
  subst ho
  refine E1A2 (U u hu) fun led' U' h=>?_
  obtain⟨v₀,hv₀⟩:=Option.isSome_iff_exists.mp hf
  exact r_setattr (H2:At _ _ _ _) Γ.src.K (Γ.tl hme) (Γ.tu U') hv₀ O.s O.p O.t O.h hk fun s' H'=>h.run s' H') (hw _))⟩
theorem St.ite {b:Bool} (h1:TstC Γ m led e b led') (h:St Γ m led' (if b then body else orelse) (Γ.seq rest Q)):St Γ m led (.If e body orelse pos::rest) Q:=
 ⟨fun s H=>wpAny_execs_cons (wpAny_If (h1.run _ s H fun s' H'=>by
  have q:=h.run s' H'
  rcases b with _|_
  rotate_left
  ·rw[if_pos rfl] at q ⊢; exact wpAny_mono q (fun f s3 z=>by obtain⟨⟩:=f <;> exact z) fun _ _ z=>z
  ·rw[if_neg Bool.false_ne_true] at q ⊢; exact wpAny_mono q (fun f s3 z=>by obtain⟨⟩:=f <;> exact z) fun _ _ z=>z))⟩
theorem St.iteT (h1:Tst Γ m led e true) (h:St Γ m led body (Γ.seq rest Q)):St Γ m led (.If e body orelse pos::rest) Q:=St.ite (b:=true) h1 h
theorem St.iteF (h1:Tst Γ m led e false) (h:St Γ m led orelse (Γ.seq rest Q)):St Γ m led (.If e body orelse pos::rest) Q:=St.ite (b:=false) h1 h
theorem St.expr (h1:EvC Γ m led e (Is .none) led') (hw:∀env,swapsWith e none pos.line env=pure false) (h:St Γ m led' rest Q):St Γ m led (.Expr e pos::rest) Q:=
 ⟨fun s H=>wpAny_execs_cons (s_expr Γ.eok (h1.run _ s H fun v s' hv H'=>by subst hv; exact h.run s' H') (hw _))⟩
structure Cl {G:Gl} {P:Heap} {nms:List (Str×NameKind)} {n:Nat} (Γ:Cx G P nms n) (led:List (Addr×Asn)) (f:Addr) (args:List Value) (R:Value→Prop) (led':List (Addr×Asn)):Prop where
 run:∀(m:Str→Option Value) (Q:Value→Shared→Prop) (s:Shared),Γ.at_ m led s→(∀v s',R v→Γ.at_ m led' s'→Q v s')→Γ.wp (call (.ref f) args) Q s
inductive Evs {G:Gl} {P:Heap} {nms:List (Str×NameKind)} {n:Nat} (Γ:Cx G P nms n) (m:Str→Option Value) (led:List (Addr×Asn)):List Expr→List Value→Prop
 | nil:Evs Γ m led [] []
 | cons {e:Expr} {es:List Expr} {v:Value} {vs:List Value}:Ev Γ m led e (Is v)→(∀env,starEach (e::es) env=(false,eval e env)::starEach es env)→Evs Γ m led es vs→Evs Γ m led (e::es) (v::vs)
theorem Evs.spliced {es:List Expr} {vs:List Value} (h:Evs Γ m led es vs):∀(pos:Pos) (Q:List Value→Shared→Prop) (s:Shared),Γ.at_ m led s→(∀s',Γ.at_ m led s'→Q vs s')→Γ.wp (spliced (backTo pos (starEach es Γ.env))) Q s:=by
 induction h with
 | nil=>exact fun pos Q s H h=>spliced_none (h s H)
 | cons h1 hs _ ih=>exact fun pos Q s H h=>spliced_more (h1.run _ s H fun v s1 hv H1=>by subst hv; exact ih pos _ s1 H1 fun s' H'=>h s' H') (hs _)
theorem Evs.plain {es:List Expr} {vs:List Value} (h:Evs Γ m led es vs) (pos:Pos):((backTo pos (starEach es Γ.env)).any (·.1))=false:=by
 induction h with
 | nil=>rfl
 | cons _ hs _ ih=>rw[hs]; exact ih
theorem callWithK {f:Addr} {first:List Value} {es:List Expr} {vs:List Value} {Q:Value→Shared→Prop} {s:Shared} (hk:keepIn (KF G.w) (.ref f)=true) (h:Evs Γ m led es vs) (pos:Pos) (H:Γ.at_ m led s)
  (k:∀s',Γ.at_ m led s'→Γ.wp (call (.ref f) (first++vs)) Q s'):Γ.wp (callWith pos (.ref f) first (backTo pos (starEach es Γ.env)) []) Q s:=by
 rcases h with _|⟨h1,hs,h2⟩
 ·exact callWith_K0 (Γ.src.K.keeps H.sub) hk (k s H)
 ·exact callWith_K Γ.src.K hk (Evs.spliced (.cons h1 hs h2) pos _ s H fun s' H'=>⟨Γ.src.K.keeps H'.sub,k s' H'⟩) (hs _) (h2.plain pos)
theorem EvC.meth {me d C g:Addr} {f:Str→Option Value} {k:Nat} {es:List Expr} {vs:List Value} {pl:Sem Bool} (h1:Ev Γ m led e (Is (.ref me))) (hme:(me,Asn.eq (instObj C d))∈led) (hd:(d,Asn.nsN k f)∈led) (hf:f a=none)
  (O:MethOk G.w C a g) (h2:Evs Γ m led es vs)
  (hm:eval (.Call (.Attribute e a p1) es [] pos) Γ.env=(do
   let ov ←eval e Γ.env
   standAt p1.atName
   let (f,first) ←holding [ov] (getMethod ov a pl)
   callWith pos f first (backTo pos (starEach es Γ.env)) [])) (h3:Cl Γ led g (.ref me::vs) R led') :
  EvC Γ m led (.Call (.Attribute e a p1) es [] pos) R led':=
 ⟨fun Q s H h=>MethodCall_ (pl:=pl) (h1.run _ s H fun u s1 hu H1=>by
  subst hu
  exact r_method (H1:At _ _ _ _) Γ.src.K (Γ.tl hme) (Γ.tl hd) hf O.g O.f O.k (callWithK O.c h2 pos H1 fun s2 H2=>h3.run _ _ _ H2 h)) hm⟩
structure TurnQ {G:Gl} {P:Heap} {nms:List (Str×NameKind)} {n:Nat} (Γ:Cx G P nms n) (Inv:(Str→Option Value)→List (Addr×Asn)→Prop) (it:List (Addr×Asn)) (rest:List Stmt) (Q Q':Flow→Shared→Prop):Prop where
 next:∀m led s,Inv m led→Γ.at_ m (it++led) s→Q' .next s
 cont:∀m led s,Inv m led→Γ.at_ m (it++led) s→Q' .cont s
 brk:∀s,Γ.wp (execs rest Γ.env) Q s→Q' .brk s
 ret:∀v s,Q (.ret v) s→Q' (.ret v) s
theorem TurnQ.nil {Inv:(Str→Option Value)→List (Addr×Asn)→Prop} {it:List (Addr×Asn)} {Q':Flow→Shared→Prop} (T:TurnQ Γ Inv it rest Q Q') (h:Inv m led):St Γ m (it++led) [] Q':=St.nil fun s H=>T.next m led s h H
theorem St.seqC {r:List Stmt} {Q':Flow→Shared→Prop} (h:∀s,Γ.at_ m led s→Q' .cont s):St Γ m led (.Continue pos::r) (Γ.seq rest Q'):=⟨fun s H=>wpAny_execs_cons (wpAny_Continue (h s H))⟩
theorem St.forAny {α:Type} {V:Rep α} {xs:List α} {iter:Expr} {mx:Str} {led0:List (Addr×Asn)} (Inv:Nat→(Str→Option Value)→List (Addr×Asn)→Prop)
  (h1:EvC Γ m led0 iter R led) (hl:∀u,R u→∃l,u=.ref l∧∀i m' led' s',Inv i m' led'→Γ.at_ m' led' s'→∃vs n,s'.heap.get? l=some (listOf vs n)∧F2 (V.is P) xs vs.toList)
  (hl2:nms.lookup mx=some .local) (hf:∀env x,foldedSetIterable iter env x=pure x) (h0:Inv 0 m led)
  (turn:∀i x v it m' led' Q',xs[i]? = some x→V.is P x v→Inv i m' led'→TurnQ Γ (Inv (i+1)) [it] rest Q Q'→St Γ (upd m' mx v) (it::led') body Q')
  (done:∀m' led',Inv xs.length m' led'→St Γ m' led' rest Q) :
  St Γ m led0 (.For (.Name mx p1) iter body [] pos::rest) Q:=by
 refine⟨fun s H=>?_⟩
 refine wpAny_execs_cons (s_for (h1.run _ s H fun u s1 hu H1=>?_) (hf _))
 refine E1A2 (hl u hu) fun l ee92 hl=>?_
 subst ee92
 refine for_list (V:=V) (xs:=xs) (R:=fun f s'=>match f with|.next=>wpAny (model G.prog G.w) Γ.A (execs rest Γ.env) Q (fun _ _=>False) s'|f=>Q f s') (fun i P' led'=>∃m' led'',P'=P∧led'=Γ.fr m'++led''∧Inv i m' led'') Γ.rm.handled H1 ⟨m,led,rfl,rfl,h0⟩ ?_ ?_ ?_ (fun _ _=>rfl)
 ·intro i P' led' s' hz85
  refine E2A3 hz85 fun m' led'' ee83 ee84 hi=>?_
  clear hz85
  subst ee83 ee84
  rintro H'
  exact hl i m' led'' s' hi H'
 ·intro i x v it P' led' s' hx hv hz75
  refine E2A3 hz75 fun m' led'' ee73 ee74 hi=>?_
  clear hz75
  subst ee73 ee74
  rintro H'
  refine wpAny_assign_Name (Γ.store (H'.perm List.perm_middle) hl2 fun s2 H3=>?_)
  have nx:∀m'' l'' s3,Inv (i+1) m'' l''→Γ.at_ m'' ([(it,Asn.iter l (i+1))]++l'') s3→∃P'' led'3,(∃m' led'',P''=P'∧led'3=Γ.fr m'++led''∧Inv (i+1) m' led'')∧At G.σ P'' ((it,Asn.iter l (i+1))::led'3) s3:=
   fun m'' l'' s3 a b=>⟨P',_,⟨m'',l'',rfl,rfl,a⟩,At.perm b List.perm_middle.symm⟩
  refine(turn i x v (it,Asn.iter l (i+1)) m' led'' (TurnEnd _ _ _) hx hv hi ⟨?_,?_,?_,?_⟩).run s2 H3
  ·exact nx
  ·exact nx
  ·exact fun _ z=>z
  ·exact fun _ _ z=>z
 ·intro P' led' s' hz62
  refine E2A3 hz62 fun m' led'' ee60 ee61 hi=>?_
  clear hz62
  subst ee60 ee61
  rintro H'
  exact wpAny_execs_nil ((done m' led'' hi).run s' H')
theorem St.forRep {α:Type} {V:Rep α} {xs:List α} {iter:Expr} {mx:Str} {led0:List (Addr×Asn)} (Inv:Nat→(Str→Option Value)→List (Addr×Asn)→Prop)
  (h1:EvC Γ m led0 iter ((Rep.list V).is P xs) led)
  (hl2:nms.lookup mx=some .local) (hf:∀env x,foldedSetIterable iter env x=pure x) (h0:Inv 0 m led)
  (turn:∀i x v it m' led' Q',xs[i]? = some x→V.is P x v→Inv i m' led'→TurnQ Γ (Inv (i+1)) [it] rest Q Q'→St Γ (upd m' mx v) (it::led') body Q')
  (done:∀m' led',Inv xs.length m' led'→St Γ m' led' rest Q) :
  St Γ m led0 (.For (.Name mx p1) iter body [] pos::rest) Q:=
 St.forAny Inv h1 (fun _ zz52=>E3A3 zz52 fun l vs n e hP hvs=>⟨l,e,fun _ _ _ _ _ H'=>⟨vs,n,H'.sub _ _ hP,hvs⟩⟩) hl2 hf h0 turn done
theorem St.forLed {α:Type} {V:Rep α} {xs:List α} {iter:Expr} {mx:Str} {l:Addr} {led0:List (Addr×Asn)} (Inv:Nat→(Str→Option Value)→List (Addr×Asn)→Prop)
  (h1:EvC Γ m led0 iter (Is (.ref l)) led) (hm:∀i m' led',Inv i m' led'→(l,Asn.list V xs)∈led')
  (hl2:nms.lookup mx=some .local) (hf:∀env x,foldedSetIterable iter env x=pure x) (h0:Inv 0 m led)
  (turn:∀i x v it m' led' Q',xs[i]? = some x→V.is P x v→Inv i m' led'→TurnQ Γ (Inv (i+1)) [it] rest Q Q'→St Γ (upd m' mx v) (it::led') body Q')
  (done:∀m' led',Inv xs.length m' led'→St Γ m' led' rest Q) :
  St Γ m led0 (.For (.Name mx p1) iter body [] pos::rest) Q:=
 St.forAny Inv h1 (fun _ e=>⟨l,e,fun i m' led' _ hI H'=>At.list H' (Γ.tl (hm i m' led' hI))⟩) hl2 hf h0 turn done
theorem St.whileT {k:Nat} {N:Nat} (Inv:Nat→(Str→Option Value)→List (Addr×Asn)→Prop) (h0:Inv N m led)
  (turn:∀i m' led' Q',Inv i m' led'→TurnQ Γ (fun m'' led''=>∃j,j<i∧Inv j m'' led'') [] rest Q Q'→St Γ m' led' body Q') :
  St Γ m led (.While (.Constant (.bool true) k p1) body [] pos::rest) Q:=by
 refine⟨fun s H=>wpAny_execs_cons (s_while (fun i s'=>∃m' led',Inv i m' led'∧Γ.at_ m' led' s') (fun i s' hI=>?_) N ⟨m,led,h0,H⟩)⟩
 refine E2A2 (hI) fun m' led' hi H'=>?_
 clear hI
 refine isTrue_plain (Constant_bool (wpAny_truthy_bool ?_)) rfl
 have nx:∀m'' l'' s3,(∃j,j<i∧Inv j m'' l'')→Γ.at_ m'' ([]++l'') s3→∃j,j<i∧∃m' led',Inv j m' led'∧Γ.at_ m' led' s3:=fun m'' l'' s3 zz18 c=>E1A2 zz18 fun j a b=>⟨j,a,m'',l'',b,c⟩
 refine(turn i m' led' (TurnEnd _ _ _) hi ⟨?_,?_,?_,?_⟩).run s' H'
 ·exact nx
 ·exact nx
 ·exact fun _ z=>z
 ·exact fun _ _ z=>z
theorem callC {prog:Program} {w:World} {σ:Shared} {P:Heap} {led:List (Addr×Asn)} {s:Shared} {A:Around} {E:Value→Shared→Prop} {n:Nat}
  {f:Addr} {pos:List Value} {Q:Value→Shared→Prop} {oc:Value} {od:Option Addr} {osl:Array (Option Value)} {fd:FuncData} {body:List Stmt} (nms:List (Str×NameKind)) (binds:List (Str×Value))
  (X:Src (KF w) P) (R:Rm A (n+2)) (H:At σ P led s) (ho:(KF w).lookup f=some ⟨oc,od,.func fd,osl⟩) (hcd:codeIn (KF w) fd.code fd.qualname=true)
  (hbody:fd.body=.stmts body) (hnm:fd.scope.names=nms) (hbind:bindArgs fd ⟨pos,[]⟩=pure binds) (hcell:(nms.all fun x=>x.2 != .cell)=true)
  (hloc:(binds.all fun x=>nms.lookup x.1 == some .local)=true) (hdb:nms.lookup ("__debug__" : Str)=none)
  (hg:fd.globals=mainGlobals) (hb:fd.builtins=builtinsNs) (hco:fd.scope.isCoroutine=false) (hgen:fd.scope.isGenerator=false) (hk:fd.scope.kind=.function)
  (h:∀Γ:Cx ⟨prog,w,σ⟩ P nms n,Rm Γ.A (n+1)→St Γ (fun x=>binds.reverse.lookup x) led body (fun fl s'=>Q (flowVal fl) s')) :
  wpAny (model prog w) A (call (.ref f) pos) Q E s:=
 callK nms binds X H ho hcd R.lim hbody hnm hbind hcell hloc hg hb hco hgen hk fun L env s' O H'=>(h ⟨env,L,A.deeper env,X,O,hdb,R.deeper,[],by simp,by simp,List.nodup_nil⟩ R.deeper).run s' H'
end
end
end Mine
namespace Mine
noncomputable section
structure EvX {G:Gl} {P:Heap} {nms:List (Str×NameKind)} {n:Nat} (Γ:Cx G P nms n) (m:Str→Option Value) (led:List (Addr×Asn)) (e:Expr) (R:Value→List (Addr×Asn)→Prop):Prop where
 run:∀(Q:Value→Shared→Prop) (s:Shared),Γ.at_ m led s→(∀v led' s',R v led'→Γ.at_ m led' s'→Q v s')→Γ.wp (eval e Γ.env) Q s
noncomputable def cmpI:CmpOp→Int→Int→Option Bool
 | .Eq,a,b=>some (a == b)
 | .NotEq,a,b=>some (a != b)
 | .GtE,a,b=>some (decide (b≤a))
 | .Gt,a,b=>some (decide (b<a))
 | .Lt,a,b=>some (decide (a<b))
 | .LtE,a,b=>some (decide (a≤b))
 | _,_,_=>none
theorem cmpI_run {prog:Program} {w:World} {A:Around} {E:Value→Shared→Prop} {s:Shared} {op:CmpOp} {a b:Int} {c:Bool} {t u:Tok} {Q:Value→Shared→Prop} (hc:cmpI op a b=some c) (h:Q (.bool c) s) :
  wpAny (model prog w) A (compareOp op (.int a t) (.int b u)) Q E s:=by
 obtain⟨⟩:=op <;> simp only[cmpI,Option.some.injEq,reduceCtorEq] at hc <;> subst hc
 ·exact eq_int h
 ·exact ne_int h
 ·exact lt_int h
 ·exact le_int h
 ·exact gt_int h
 ·exact ge_int h
section
variable {G:Gl} {P:Heap} {nms:List (Str×NameKind)} {n:Nat} {Γ:Cx G P nms n} {m:Str→Option Value} {led led' led1 led2:List (Addr×Asn)} {e e1 e2 e3:Expr} {R R1 R2:Value→Prop} {x a:Str} {v:Value} {pos p1 p2 p3:Pos}
 {rest body orelse:List Stmt} {Q:Flow→Shared→Prop} {op op':CmpOp} {c c':Bool}
theorem St.assignX {RX:Value→List (Addr×Asn)→Prop} (h1:EvX Γ m led e RX) (hl:nms.lookup x=some .local) (hw:∀env,swapsWith e (some (.Name x p1)) pos.line env=pure false) (h:∀v led',RX v led'→St Γ (upd m x v) led' rest Q) :
  St Γ m led (.Assign [.Name x p1] e pos::rest) Q:=
 ⟨fun s H=>wpAny_execs_cons (wpAny_Assign_Name (h1.run _ s H fun v led' s1 hv H1=>Γ.store H1 hl fun s' H'=>(h v led' hv).run s' H') (hw _))⟩
theorem EvX.nilList {α:Type} (V:Rep α):EvX Γ m led (.List [] pos) (fun v l'=>∃q,v=.ref q∧l'=(q,Asn.list V [])::led):=
 ⟨fun Q s H h=>List_ (spliced_none (wpAny_newObj_type (h _ _ _ ⟨s.heap.objs.size,rfl,rfl⟩ (At.perm (At.push H (R:=Asn.list V []) (o:=listOf #[] 0) ⟨#[],0,rfl,.nil⟩ rfl) List.perm_middle)) (by show(0:Nat)≤_; exact Nat.zero_le _)))⟩
theorem Tst.cmpI {x y:Int} (h1:Ev Γ m led e1 (IsI x)) (h2:Ev Γ m led e2 (IsI y)) (hc:cmpI op x y=some c) (hb:behindInMarks op e2=false):Tst Γ m led (.Compare e1 [op] [e2] pos) c:=
 ⟨fun Q s H h=>wpAny_isTrue_Compare1 (h1.run _ s H fun u s1 zz31 H1=>E1A1 zz31 fun t hu=>h2.run _ s1 H1 fun o s2 zz28 H2=>E1A1 zz28 fun t' ho=>by
  subst hu ho
  exact cmpI_run hc (wpAny_truthy_bool (h _ H2))) hb⟩
theorem Ev.cmpI {x y:Int} (h1:Ev Γ m led e1 (IsI x)) (h2:Ev Γ m led e2 (IsI y)) (hc:cmpI op x y=some c) (hb:behindInMarks op e2=false):Ev Γ m led (.Compare e1 [op] [e2] pos) (Is (.bool c)):=
 ⟨fun Q s H h=>wpAny_Compare1 (h1.run _ s H fun u s1 ⟨t,hu⟩ H1=>h2.run _ s1 H1 fun o s2 ⟨t',ho⟩ H2=>by
  subst hu ho
  exact cmpI_run hc (h _ _ rfl H2)) hb⟩
theorem Tst.chainI {x y z:Int} (h1:Ev Γ m led e1 (IsI x)) (h2:Ev Γ m led e2 (IsI y)) (h3:Ev Γ m led e3 (IsI z)) (hc:Mine.cmpI op x y=some c) (hc':Mine.cmpI op' y z=some c') {r:Bool} (hr:(c && c')=r) (hb:lastMarks [op,op'] [e2,e3]=false) :
  Tst Γ m led (.Compare e1 [op,op'] [e2,e3] pos) r:=
 ⟨fun Q s H h=>isTrue_chain (h1.run _ s H fun u s1 zz18 H1=>E1A1 zz18 fun t hu=>test_link (h2.run _ s1 H1 fun o s2 zz13 H2=>E1A1 zz13 fun t' ho=>by
  subst hu ho
  refine cmpI_run hc (wpAny_truthy_bool ?_)
  rcases c with _|_
  ·rw[if_neg Bool.false_ne_true]; subst hr; exact h _ H2
  ·
   refine test_last (h3.run _ s2 H2 fun o s3 zz7 H3=>E1A1 zz7 fun t3 ho=>?_)
   subst ho
   refine cmpI_run hc' (wpAny_truthy_bool ?_)
   subst hr; exact h _ H3)) hb⟩
section
variable {α:Type} {V:Rep α} {xs:List α} {y:α} {l:Addr}
theorem EvC.lenL {pf:Pos} (hf:Ev Γ m led (.Name x pf) (Is (.builtin "len"))) (h1:Ev Γ m led e (Is (.ref l))) (hm:(l,Asn.list V xs)∈led) (hz:xs.length≤1000000)
  (he:∀env,eval (.Call (.Name x pf) [e] [] pos) env=(do callWith pos (←eval (.Name x pf) env) [] (backTo pos (starEach [e] env)) (backToKw pos (keywordEach [] env))))
  (hs:∀env,starEach [e] env=(false,eval e env)::starEach [] env):Ev Γ m led (.Call (.Name x pf) [e] [] pos) (IsI xs.length):=
 ⟨fun Q s H h=>Call_ (hf.run _ s H fun u s1 hu H1=>by
  subst hu
  exact PyProof.Rows.callWith_builtin1 (spliced_more (h1.run _ s1 H1 fun o s2 ho H2=>by
   subst ho
   exact spliced_none (r_len (H2:At _ _ _ _) (Γ.tl hm) hz fun t s' H'=>h _ _ ⟨t,rfl⟩ H')) (hs _)) (hs _) rfl) (he _)⟩
theorem EvC.append {pl:Sem Bool} (h1:Ev Γ m led e1 (Is (.ref l))) (U:Upd l (Asn.list V xs) (Asn.list V (xs++[y])) led led') (h2:Ev Γ m led e (V.is P y)) (hz:xs.length≤1000)
  (hm:eval (.Call (.Attribute e1 "append" p1) [e] [] pos) Γ.env=(do
   let ov ←eval e1 Γ.env
   standAt p1.atName
   let (f,first) ←holding [ov] (getMethod ov "append" pl)
   callWith pos f first (backTo pos (starEach [e] Γ.env)) []))
  (hs:∀env,starEach [e] env=(false,eval e env)::starEach [] env):EvC Γ m led (.Call (.Attribute e1 "append" p1) [e] [] pos) (Is .none) led':=
 ⟨fun Q s H h=>MethodCall_ (pl:=pl) (h1.run _ s H fun u s1 hu H1=>by
  subst hu
  exact m_list (H1:At _ _ _ _) (Γ.tl U.mem) PySem.F.slot_list_append PySem.F.type_list_append (PyProof.Rows.callWith_method1 (spliced_more (h2.run _ s1 H1 fun o s2 ho H2=>
   spliced_none (r_append (H2:At _ _ _ _) (Γ.tu U) ho hz fun s' H'=>h _ _ rfl H')) (hs _)) (hs _) rfl)) hm⟩
theorem EvC.pop0 {pl:Sem Bool} {k:Nat} (h1:Ev Γ m led e1 (Is (.ref l))) (U:Upd l (Asn.list V (y::xs)) (Asn.list V xs) led led') (hz:xs.length≤1000)
  (hm:eval (.Call (.Attribute e1 "pop" p1) [.Constant (.int 0) k p2] [] pos) Γ.env=(do
   let ov ←eval e1 Γ.env
   standAt p1.atName
   let (f,first) ←holding [ov] (getMethod ov "pop" pl)
   callWith pos f first (backTo pos (starEach [.Constant (.int 0) k p2] Γ.env)) [])):EvC Γ m led (.Call (.Attribute e1 "pop" p1) [.Constant (.int 0) k p2] [] pos) (V.is P y) led':=
 ⟨fun Q s H h=>MethodCall_ (pl:=pl) (h1.run _ s H fun u s1 hu H1=>by
  subst hu
  exact m_list (H1:At _ _ _ _) (Γ.tl U.mem) PySem.F.slot_list_pop PySem.F.type_list_pop (PyProof.Rows.callWith_method1 (spliced_more (v_int H1 fun t s2 H2=>
   spliced_none (r_pop0 (H2:At _ _ _ _) (Γ.tu U) hz fun u s' hu H'=>h _ _ hu H'))))) hm⟩
end
theorem St.brkSeq {r:List Stmt} {Q':Flow→Shared→Prop} (h:∀s,Γ.at_ m led s→Q' .brk s):St Γ m led (.Break pos::r) (Γ.seq rest Q'):=⟨fun s H=>wpAny_execs_cons (wpAny_Break (h s H))⟩
end
end
end Mine
namespace Mine
noncomputable section
section
variable {prog:Program} {w:World} {κ β:Type} {di:DecidableEq κ} {D:DKind prog w κ} {V:Rep β} {ps:List (κ×β)} {k:κ} {v key:Value} {d:Addr}
 {σ:Shared} {P:Heap} {led led':List (Addr×Asn)} {s:Shared} {A:Around} {E:Value→Shared→Prop} {b:β}
theorem m_dict {ep:Option Nat} {name:Str} {id:String} {pl:Sem Bool} {Q:Value×List Value→Shared→Prop} (H:At σ P led s) (hm:(d,Asn.dictX D V ps ep)∈led) (slot:Slot "dict" name id) (hty:typeOf (.builtin id)=pure (.type "method_descriptor"))
  (h:Q (.builtin id,[.ref d]) s):wpAny (model prog w) A (getMethod (.ref d) name pl) Q E s:=by
 refine E2A3 (H.dict hm) fun es n e f g=>?_
 exact getMethod_builtin ⟨_,e,rfl⟩ PySem.F.plainAttrs_dict slot hty (fun a q=>by(injection q with q; subst q); exact⟨_,e,rfl⟩) h
theorem r_clear {Q:Value→Shared→Prop} (H:At σ P led s) (U:Upd d (Asn.dict D V ps) (Asn.dict D V []) led led') (hz:ps.length≤1000)
  (h:∀s',At σ P led' s'→Q .none s'):wpAny (model prog w) A (call (.builtin "dict.clear") [.ref d]) Q E s:=by
 refine E2A3 (H.dict U.mem) fun es n e f g=>?_
 have hl:=f.length
 refine wpAny_call_entry F.slot_dict_clear ⟨_,e,rfl⟩ F.entry_dict_clear ?_ (F.args_dict_clear_1 _)
 refine wpAny_bind ?_
 refine wpAny_bind (wpAny_notOrdered_dict ⟨_,e,rfl⟩ ?_)
 refine wpAny_pure ?_
 refine wpAny_bind (wpAny_dictEntries e rfl ?_)
 refine wpAny_bind ?_
 refine wpAny_bind (wpAny_load e (wpAny_pure ?_))
 refine wpAny_bind (wpAny_updateDictKeys (es:=es.toArray) (ep:=n) (hz:=by rw[List.size_toArray,sizeLine_eq]; exact eq2 (by assumption) (tr1 (by assumption) rfl)) e rfl ?_)
 have hget:(s.heap.update d (Obj.mapDictKeys fun _=>#[])).get? d=some (dictOf [] (n+1)):=Heap.get?_update_self _ e rfl
 have H':=h _ (H.upd (tk:=s.toks) U (Heap.SameBut.update ..) ⟨_,hget,[],n+1,⟨rfl,fun _ q=>by cases q⟩,.nil,List.nodup_nil⟩)
 refine wpAny_ite_split (fun _=>?_) fun _=>?_
 ·exact wpAny_bind (wpAny_letGo (wpAny_pure ⟨.none,rfl,H'⟩))
 ·exact wpAny_bind (wpAny_pure (wpAny_pure ⟨.none,rfl,H'⟩))
end
section
variable {G:Gl} {P:Heap} {nms:List (Str×NameKind)} {n:Nat} {Γ:Cx G P nms n} {m:Str→Option Value} {led led' led1 led2:List (Addr×Asn)} {e e1 e2 e3:Expr} {R R1 R2:Value→Prop} {x a:Str} {v:Value} {pos p1 p2 p3:Pos}
 {rest body orelse:List Stmt} {Q:Flow→Shared→Prop}
structure TstX {G:Gl} {P:Heap} {nms:List (Str×NameKind)} {n:Nat} (Γ:Cx G P nms n) (m:Str→Option Value) (led:List (Addr×Asn)) (e:Expr) (b:Bool) (RL:List (Addr×Asn)→Prop):Prop where
 run:∀(Q:Bool→Shared→Prop) (s:Shared),Γ.at_ m led s→(∀led' s',RL led'→Γ.at_ m led' s'→Q b s')→Γ.wp (isTrue e Γ.env (eval e Γ.env)) Q s
structure ClX {G:Gl} {P:Heap} {nms:List (Str×NameKind)} {n:Nat} (Γ:Cx G P nms n) (led:List (Addr×Asn)) (f:Addr) (args:List Value) (R:Value→List (Addr×Asn)→Prop):Prop where
 run:∀(m:Str→Option Value) (Q:Value→Shared→Prop) (s:Shared),Γ.at_ m led s→(∀v led' s',R v led'→Γ.at_ m led' s'→Q v s')→Γ.wp (call (.ref f) args) Q s
theorem EvX.meth {me d C g:Addr} {f:Str→Option Value} {k:Nat} {es:List Expr} {vs:List Value} {pl:Sem Bool} {RX:Value→List (Addr×Asn)→Prop} (h1:Ev Γ m led e (Is (.ref me))) (hme:(me,Asn.eq (instObj C d))∈led) (hd:(d,Asn.nsN k f)∈led) (hf:f a=none)
  (O:MethOk G.w C a g) (h2:Evs Γ m led es vs)
  (hm:eval (.Call (.Attribute e a p1) es [] pos) Γ.env=(do
   let ov ←eval e Γ.env
   standAt p1.atName
   let (f,first) ←holding [ov] (getMethod ov a pl)
   callWith pos f first (backTo pos (starEach es Γ.env)) [])) (h3:ClX Γ led g (.ref me::vs) RX) :
  EvX Γ m led (.Call (.Attribute e a p1) es [] pos) RX:=
 ⟨fun Q s H h=>MethodCall_ (pl:=pl) (h1.run _ s H fun u s1 hu H1=>by
  subst hu
  exact r_method (H1:At _ _ _ _) Γ.src.K (Γ.tl hme) (Γ.tl hd) hf O.g O.f O.k (callWithK O.c h2 pos H1 fun s2 H2=>h3.run _ _ _ H2 h)) hm⟩
theorem TstX.of_ev {b:Bool} {RL:List (Addr×Asn)→Prop} (h:EvX Γ m led e (fun v l=>v=.bool b∧RL l)) (hp:∀env whole,isTrue e env whole=(do let v ←whole; standAt e.pos; holding [v] (truthy v))):TstX Γ m led e b RL:=
 ⟨fun Q s H k=>isTrue_plain (h.run _ s H fun v l s' zz4 H'=>E0A2 zz4 fun hv hl=>by subst hv; exact wpAny_truthy_bool (k l s' hl H')) (hp _ _)⟩
theorem TstX.not {b:Bool} {RL:List (Addr×Asn)→Prop} (h:TstX Γ m led e b RL):TstX Γ m led (.UnaryOp .Not e pos) (!b) RL:=
 ⟨fun Q s H k=>isTrue_not (h.run _ s H fun l s' hl H'=>k l s' hl H')⟩
theorem St.iteX {b:Bool} {RL:List (Addr×Asn)→Prop} (h1:TstX Γ m led e b RL) (h:∀led',RL led'→St Γ m led' (if b then body else orelse) (Γ.seq rest Q)):St Γ m led (.If e body orelse pos::rest) Q:=
 ⟨fun s H=>wpAny_execs_cons (wpAny_If (h1.run _ s H fun l s' hl H'=>by
  have q:=(h l hl).run s' H'
  rcases b with _|_
  rotate_left
  ·rw[if_pos rfl] at q ⊢; exact wpAny_mono q (fun f s3 z=>by obtain⟨⟩:=f <;> exact z) fun _ _ z=>z
  ·rw[if_neg Bool.false_ne_true] at q ⊢; exact wpAny_mono q (fun f s3 z=>by obtain⟨⟩:=f <;> exact z) fun _ _ z=>z))⟩
theorem EvC.clear {κ β:Type} {di:DecidableEq κ} {D:DKind G.prog G.w κ} {V:Rep β} {ps:List (κ×β)} {d:Addr} {pl:Sem Bool} (h1:Ev Γ m led e1 (Is (.ref d))) (U:Upd d (Asn.dict D V ps) (Asn.dict D V []) led led') (hz:ps.length≤1000)
  (hm:eval (.Call (.Attribute e1 "clear" p1) [] [] pos) Γ.env=(do
   let ov ←eval e1 Γ.env
   standAt p1.atName
   let (f,first) ←holding [ov] (getMethod ov "clear" pl)
   callWith pos f first (backTo pos (starEach [] Γ.env)) [])):EvC Γ m led (.Call (.Attribute e1 "clear" p1) [] [] pos) (Is .none) led':=
 ⟨fun Q s H h=>MethodCall_ (pl:=pl) (h1.run _ s H fun u s1 hu H1=>by
  subst hu
  exact m_dict (H1:At _ _ _ _) (Γ.tl U.mem) PySem.F.slot_dict_clear PySem.F.type_dict_clear (PyProof.Rows.callWith_method0
   (r_clear (H1:At _ _ _ _) (Γ.tu U) hz fun s' H'=>h _ _ rfl H'))) hm⟩
theorem TstC.not {b:Bool} (h:TstC Γ m led e b led'):TstC Γ m led (.UnaryOp .Not e pos) (!b) led':=
 ⟨fun Q s H k=>isTrue_not (h.run _ s H fun s' H'=>k s' H')⟩
theorem St.aug {y:Int} {z:Int} (h0:∃t,m x=some (.int y t)) (h1:Ev Γ m led e (IsI z)) (hl:nms.lookup x=some .local) (h:∀t,St Γ (upd m x (.int (y+z) t)) led rest Q):St Γ m led (.AugAssign (.Name x p1) .Add e pos::rest) Q:=
 ⟨fun s H=>by
  refine E1A1 (h0) fun t h0=>?_
  refine wpAny_execs_cons (wpAny_AugAssign_Name (Γ.load H h0 hl (h1.run _ s H fun u s1 zz2 H1=>E1A1 zz2 fun t' hu=>?_)))
  subst hu
  exact v_iadd (H1:At _ _ _ _) fun t2 s2 H2=>Γ.store H2 hl fun s' H'=>(h t2).run s' H'⟩
end
end
end Mine
namespace Mine
structure It (prog:Program) (w:World) (σ:Shared) (I:Addr) (n:Nat) (R:Nat→Asn) (need:Heap→Heap→Prop) (Pv:Heap→Nat→Value→Prop):Prop where
 item:∀ {A:Around} {E:Value→Shared→Prop} {P:Heap} {led led':List (Addr×Asn)} {s:Shared} {Q:Option Value→Shared→Prop} {i:Nat},i<n→At σ P led s→Upd I (R i) (R (i+1)) led led'→need P s.heap →
  (∀P' v s',Sub P P'→Pv P' i v→At σ P' led' s'→Q (some v) s')→wpAny (model prog w) A (pyNext (.ref I)) Q E s
 done:∀ {A:Around} {E:Value→Shared→Prop} {P:Heap} {led:List (Addr×Asn)} {s:Shared} {Q:Option Value→Shared→Prop},A.handled=none→At σ P ((I,R n)::led) s→need P s.heap →
  (∀s',At σ P led s'→Q none s')→wpAny (model prog w) A (pyNext (.ref I)) Q E s
 go:∀ {A:Around} {E:Value→Shared→Prop} {P:Heap} {led:List (Addr×Asn)} {s:Shared} {Q:Unit→Shared→Prop} {i:Nat} {elts:List Expr} {k:Nat} {pos:Pos} {v:Value},At σ P led s→(I,R i)∈led →
  (∀s',At σ P led s'→Q () s')→wpAny (model prog w) A (letOwnedTupleGo (.Tuple elts k pos) (.ref I) v) Q E s
 self:∀ {A:Around} {E:Value→Shared→Prop} {P:Heap} {led:List (Addr×Asn)} {s:Shared} {Q:Value→Shared→Prop} {i:Nat},At σ P led s→(I,R i)∈led→Q (.ref I) s→wpAny (model prog w) A (pyIter (.ref I)) Q E s
 nmono:∀ {P P' h:Heap},Sub P P'→need P h→need P' h
 rfree:∀ {i:Nat} {P P':Heap} {o:Obj},(R i).ok P o→(R i).ok P' o
noncomputable def KeyIt (d:Addr) (n ep i:Nat):Asn:=⟨fun _ o=>o.cls=.type "dict_keyiterator"∧o.data=.fields #[.ref d,.int i 0,.int n 0,.int ep 0],fun _ h=>h⟩
noncomputable def ItemIt (d:Addr) (n ep i:Nat):Asn:=⟨fun _ o=>∃x b k v,(x=Value.none∨∃a:Nat,x=rawInt a)∧(b=Value.bool true∨b=.bool false) ∧
 o={ cls:=.type "dict_itemiterator",dict:=none,data:=.fields #[x,b,.ref d,.int i 0,.int n 0,.int ep 0,k,v],slots:=#[] },fun _ h=>h⟩
noncomputable def Raw (d:Addr) (ep:Nat) (es:List DictEntry) (h:Heap):Prop:=h.get? d=some (dictOf es ep)
section
variable {prog:Program} {w:World} {σ:Shared} {P:Heap} {led led':List (Addr×Asn)} {s:Shared} {A:Around} {E:Value→Shared→Prop} {d I:Addr} {es:List DictEntry} {ep i:Nat} {e:DictEntry}
theorem n_key {Q:Option Value→Shared→Prop} (H:At σ P led s) (U:Upd I (KeyIt d es.length ep i) (KeyIt d es.length ep (i+1)) led led') (hr:Raw d ep es s.heap) (he:es[i]? = some e)
  (h:∀s',At σ P led' s'→Q (some e.key) s'):wpAny (model prog w) A (pyNext (.ref I)) Q E s:=by
 refine E1A3 (H.ld.get U.mem) fun o ho hc hd=>?_
 have hT:s.TypeIs (.ref I) "dict_keyiterator":=⟨o,ho,hc⟩
 refine wpAny_bind (wpAny_attempt (wpAny_callSpecial?_slot (name:=Str.ofString "__next__") hT F.slot_dict_keyiterator_next
  (wpAny_call_entry F.slot_dict_keyiterator_next hT F.entry_dict_keyiterator_next ?_ (F.args_dict_keyiterator_next_1 _))))
 refine wpAny_bind (wpAny_pure (wpAny_bind (wpAny_bind (wpAny_bind (wpAny_typeNameOfWhole_keyiter hT (wpAny_pure ?_))))))
 refine wpAny_bind (wpAny_fieldsOf ho hd ?_)
 refine wpAny_bind (wpAny_pure (wpAny_bind (wpAny_dictEntries hr rfl ?_)))
 rw[if_neg (by simp)]
 refine wpAny_bind (wpAny_pure (wpAny_bind (wpAny_dictEpoch hr rfl ?_)))
 rw[if_neg (by simp)]
 refine wpAny_pure ?_
 simp only[show ¬((i:Int)<0) from by lia,if_false,Int.toNat_natCast,List.getElem?_toArray,he]
 refine wpAny_bind (wpAny_bind (wpAny_typeNameOfWhole_keyiter hT (wpAny_pure ?_)))
 refine wpAny_bind (wpAny_isOneOf_keyiter hT ?_)
 show wpAny _ _ (setField (.ref I) 1 (rawInt ((i:Int)+1)) >>= _) _ _ s
 refine wpAny_bind (wpAny_setField ho hd (by simp) ?_)
 have ho':=Heap.get?_update_self (Obj.mapFields (·.setIfInBounds 1 (rawInt ((i:Int)+1)))) ho (Obj.isFreed_of_fields (Obj.data_mapFields hd _))
 have H':=H.upd (tk:=s.toks) U (Heap.SameBut.update ..) ⟨_,ho',(Obj.cls_mapFields ..).trans hc,by rw[Obj.data_mapFields hd]; simp[rawInt]⟩
 have hT':Shared.TypeIs { s with heap:=s.heap.update I (Obj.mapFields (·.setIfInBounds 1 (rawInt ((i:Int)+1)))) } (.ref I) "dict_keyiterator":=⟨_,ho',(Obj.cls_mapFields ..).trans hc⟩
 refine wpAny_bind (wpAny_holding (wpAny_bind (wpAny_isOneOf_keyiter hT' ?_)))
 exact wpAny_pure (wpAny_pure ⟨_,rfl,wpAny_pure (h _ H')⟩)
theorem stopsIt {k:Nat} {vs:Array Value} {α:Type} {Q:α→Shared→Prop} {o:Obj} (hh:A.handled=none) (ho:s.heap.get? I=some o) (hd:o.data=.fields vs) (hk:k<vs.size)
  (h:∀x s',s'.TypeIs (.ref x) "StopIteration"→s'.os=s.os→s'.gens=s.gens→Heap.ExtBut I s.heap s'.heap→E (.ref x) s') :
  wpAny (model prog w) A (do setField (.ref I) k .none; raiseNew (α:=α) (←newExc (.type "StopIteration") [])) Q E s:=by
 refine wpAny_bind (wpAny_setField ho hd hk ?_)
 refine wpAny_bind ?_
 refine wpAny_bind (wpAny_newObj_type ?_ (by size_fits))
 refine wpAny_bind (m:=firstArgMember _ _) (wpAny_of_eq (a:=Value.none) (by first|rfl|(simp only[firstArgMember]; rfl)) ?_)
 refine wpAny_newObj_type ?_ (by size_fits)
 refine wpAny_bind (wpAny_handled ?_)
 rw[hh]
 refine wpAny_bind (wpAny_pure (wpAny_throw ?_))
 exact h _ _ ⟨_,Heap.get?_push_size _ rfl,rfl⟩ rfl rfl (((Heap.SameBut.update ..).extBut.push _).push _)
theorem n_key_end {Q:Option Value→Shared→Prop} (hh:A.handled=none) (H:At σ P ((I,KeyIt d es.length ep es.length)::led) s) (hr:Raw d ep es s.heap)
  (h:∀s',At σ P led s'→Q none s'):wpAny (model prog w) A (pyNext (.ref I)) Q E s:=by
 obtain⟨o,ho,hc,hd⟩:=H.ld.get (.head _)
 have hT:s.TypeIs (.ref I) "dict_keyiterator":=⟨o,ho,hc⟩
 refine wpAny_bind (wpAny_attempt (wpAny_callSpecial?_slot (name:=Str.ofString "__next__") hT F.slot_dict_keyiterator_next
  (wpAny_call_entry F.slot_dict_keyiterator_next hT F.entry_dict_keyiterator_next ?_ (F.args_dict_keyiterator_next_1 _))))
 refine wpAny_bind (wpAny_pure (wpAny_bind (wpAny_bind (wpAny_bind (wpAny_typeNameOfWhole_keyiter hT (wpAny_pure ?_))))))
 refine wpAny_bind (wpAny_fieldsOf ho hd ?_)
 refine wpAny_bind (wpAny_pure (wpAny_bind (wpAny_dictEntries hr rfl ?_)))
 rw[if_neg (by simp)]
 refine wpAny_bind (wpAny_pure (wpAny_bind (wpAny_dictEpoch hr rfl ?_)))
 rw[if_neg (by simp)]
 refine wpAny_pure ?_
 simp only[show ¬((es.length:Int)<0) from by lia,if_false,Int.toNat_natCast,List.getElem?_toArray,List.getElem?_eq_none (Nat.le_refl es.length)]
 refine wpAny_bind (wpAny_bind (wpAny_typeNameOfWhole_keyiter hT (wpAny_pure ?_)))
 refine stopsIt (k:=0) (A:=A.in1) hh ho hd (by exact Nat.succ_pos _) fun x s' hx h1 h2 h3=>?_
 refine wpAny_bind (wpAny_isInstance (T:="StopIteration") (b:=true) hx isSubtype_stop ?_)
 exact wpAny_pure (h _ ⟨H.ld.extBut h3,h1.trans H.os,h2▸H.gens⟩)
theorem alive_ {a:Addr} {Q:Option Obj→Shared→Prop} (h:Q (s.heap.get? a) s):wpAny (model prog w) A (loadIfAlive a) Q E s:=fun _ _ _=>h
noncomputable abbrev itObj (x b:Value) (d i n ep:Nat) (k v:Value):Obj:={ cls:=.type "dict_itemiterator",dict:=none,data:=.fields #[x,b,.ref d,.int i 0,.int n 0,.int ep 0,k,v],slots:=#[] }
theorem setIt {n j i':Nat} {x b k v y x' b' k' v':Value} {Q:Unit→Shared→Prop} (H:At σ P led s) (U:Upd I (ItemIt d n ep i) (ItemIt d n ep i') led led') (ho:s.heap.get? I=some (itObj x b d i n ep k v)) (hj:j<8)
  (he:(#[x,b,.ref d,.int i 0,.int n 0,.int ep 0,k,v]:Array Value).setIfInBounds j y = #[x',b',.ref d,.int i' 0,.int n 0,.int ep 0,k',v']) (hx:x'=Value.none∨∃a:Nat,x'=rawInt a) (hb:b'=Value.bool true∨b'=.bool false)
  (h:∀s',At σ P led' s'→s'.heap.get? I=some (itObj x' b' d i' n ep k' v')→Q () s'):wpAny (model prog w) A (setField (.ref I) j y) Q E s:=
 wpAny_setField_rec ho (by exact hj) fun h' e hs=>by
  rw[he] at e
  exact h _ (H.upd (tk:=s.toks) U hs ⟨_,e,x',b',k',v',hx,hb,rfl⟩) e
theorem Upd.again {R:Asn} (hm:(d,R)∈led):Upd d R R led led:=by
 induction led with
 | nil=>contradiction
 | cons p r ih=>
  cases hm with
  | head=>exact .head
  | tail _ hm=>exact .tail (ih hm)
theorem setAny {n j:Nat} {y:Value} {Q:Unit→Shared→Prop} (H:At σ P led s) (hm:(I,ItemIt d n ep i)∈led)
  (hj:j=6∨j=7∨(j=0∧(y=Value.none∨∃a:Nat,y=rawInt a))∨(j=1∧(y=Value.bool true∨y=.bool false)))
  (h:∀s',At σ P led s'→Q () s'):wpAny (model prog w) A (setField (.ref I) j y) Q E s:=by
 obtain⟨o,ho,x,b,k,v,hx,hb,rfl⟩:=H.ld.get hm
 rcases hj with rfl|rfl|⟨rfl,hy⟩|⟨rfl,hy⟩
 ·exact setIt (j:=6) (x':=x) (b':=b) (k':=y) (v':=v) H (Upd.again hm) ho (by decide) rfl hx hb fun s' H' _=>h s' H'
 ·exact setIt (j:=7) (x':=x) (b':=b) (k':=k) (v':=y) H (Upd.again hm) ho (by decide) rfl hx hb fun s' H' _=>h s' H'
 ·exact setIt (j:=0) (x':=y) (b':=b) (k':=k) (v':=v) H (Upd.again hm) ho (by decide) rfl hy hb fun s' H' _=>h s' H'
 ·exact setIt (j:=1) (x':=x) (b':=y) (k':=k) (v':=v) H (Upd.again hm) ho (by decide) rfl hx hy fun s' H' _=>h s' H'
theorem isFree_ {n:Nat} {Q:Bool→Shared→Prop} (H:At σ P led s) (hm:(I,ItemIt d n ep i)∈led) (h:∀r s',At σ P led s'→Q r s'):wpAny (model prog w) A (Builtin.Dict_items.ownedTupleIsFree (.ref I)) Q E s:=by
 obtain⟨o,ho,x,b,k,v,hx,hb,rfl⟩:=H.ld.get hm
 refine wpAny_bind (wpAny_field ho rfl (x:=x) rfl ?_)
 rcases hx with rfl|⟨a,rfl⟩
 ·exact wpAny_pure (h _ _ H)
 ·skip
  refine wpAny_bind (alive_ ?_)
  rcases s.heap.get? (a:Int).toNat with _|o
  ·exact wpAny_pure (h _ _ H)
  ·
   refine wpAny_bind (wpAny_field ho rfl (x:=b) rfl ?_)
   refine wpAny_ite_split (fun _=>?_) fun _=>?_
   ·exact wpAny_bind (setAny H hm (.inr (.inr (.inr ⟨rfl,.inl rfl⟩))) fun s' H'=>wpAny_pure (h _ _ H'))
   ·exact wpAny_pure (h _ _ H)
theorem n_item {Q:Option Value→Shared→Prop} (H:At σ P led s) (U:Upd I (ItemIt d es.length ep i) (ItemIt d es.length ep (i+1)) led led') (hr:Raw d ep es s.heap) (he:es[i]? = some e)
  (h:∀a s',At σ P ((a,Asn.eq (tupObj [e.key,e.val] 0))::led') s'→Q (some (.ref a)) s'):wpAny (model prog w) A (pyNext (.ref I)) Q E s:=by
 obtain⟨o,ho,x,b,k,v,hx,hb,rfl⟩:=H.ld.get U.mem
 have hT:s.TypeIs (.ref I) "dict_itemiterator":=⟨_,ho,rfl⟩
 refine wpAny_bind (wpAny_attempt (wpAny_callSpecial?_slot (name:=Str.ofString "__next__") hT F.slot_dict_itemiterator_next
  (wpAny_call_entry F.slot_dict_itemiterator_next hT F.entry_dict_itemiterator_next ?_ (F.args_dict_itemiterator_next_1 _))))
 refine wpAny_bind (wpAny_pure (wpAny_bind (wpAny_bind (wpAny_bind (wpAny_typeNameOfWhole_itemiter hT (wpAny_pure ?_))))))
 refine wpAny_bind (wpAny_fieldsOf ho rfl ?_)
 refine wpAny_bind (wpAny_pure (wpAny_bind (wpAny_dictEntries hr rfl ?_)))
 rw[if_neg (by simp)]
 refine wpAny_bind (wpAny_pure (wpAny_bind (wpAny_dictEpoch hr rfl ?_)))
 rw[if_neg (by simp)]
 refine wpAny_pure ?_
 simp only[show ¬((i:Int)<0) from by lia,if_false,Int.toNat_natCast,List.getElem?_toArray,he]
 refine wpAny_bind (wpAny_bind (wpAny_typeNameOfWhole_itemiter hT (wpAny_pure ?_)))
 refine wpAny_bind (wpAny_isOneOf_itemiter hT ?_)
 show wpAny _ _ (setField (.ref I) 3 (rawInt ((i:Int)+1)) >>= _) _ _ s
 refine wpAny_bind (setIt (j:=3) H U ho (by decide) (x':=x) (b':=b) (k':=k) (v':=v) (by simp[rawInt]) hx hb fun s1 H1 ho1=>?_)
 have hT1:s1.TypeIs (.ref I) "dict_itemiterator":=⟨_,ho1,rfl⟩
 refine wpAny_bind (wpAny_holding ?_)
 refine wpAny_bind (wpAny_isOneOf_itemiter hT1 (wpAny_bind (wpAny_isOneOf_itemiter hT1 ?_)))
 refine wpAny_bind (wpAny_newTuple ?_)
 have H2:=H1.push (R:=Asn.eq (tupObj [e.key,e.val] 0)) rfl rfl
 refine wpAny_bind (isFree_ H2 (.tail _ U.mem') fun r s3 H3=>?_)
 rcases r with _|_
 ·exact wpAny_pure (wpAny_pure ⟨_,rfl,wpAny_pure (h _ _ H3)⟩)
 ·
  obtain⟨o,ho,x,b,k,v,hx,hb,rfl⟩:=H3.ld.get (.tail _ U.mem')
  refine wpAny_bind (wpAny_field ho rfl (x:=k) rfl ?_)
  refine wpAny_bind (wpAny_field ho rfl (x:=v) rfl ?_)
  clear ho hx hb
  refine wpAny_bind (setAny H3 (.tail _ U.mem') (.inl rfl) fun s4 H4=>?_)
  refine wpAny_bind (setAny H4 (.tail _ U.mem') (.inr (.inl rfl)) fun s5 H5=>?_)
  refine wpAny_bind (setAny H5 (.tail _ U.mem') (.inr (.inr (.inl ⟨rfl,.inr ⟨_,rfl⟩⟩))) fun s6 H6=>?_)
  refine wpAny_bind (setAny H6 (.tail _ U.mem') (.inr (.inr (.inr ⟨rfl,.inr rfl⟩))) fun s7 H7=>?_)
  exact wpAny_bind (wpAny_letGo (wpAny_pure (wpAny_pure ⟨_,rfl,wpAny_pure (h _ _ H7)⟩)))
theorem n_item_end {Q:Option Value→Shared→Prop} (hh:A.handled=none) (H:At σ P ((I,ItemIt d es.length ep es.length)::led) s) (hr:Raw d ep es s.heap)
  (h:∀s',At σ P led s'→Q none s'):wpAny (model prog w) A (pyNext (.ref I)) Q E s:=by
 obtain⟨o,ho,x,b,k,v,hx,hb,rfl⟩:=H.ld.get (.head _)
 have hT:s.TypeIs (.ref I) "dict_itemiterator":=⟨_,ho,rfl⟩
 refine wpAny_bind (wpAny_attempt (wpAny_callSpecial?_slot (name:=Str.ofString "__next__") hT F.slot_dict_itemiterator_next
  (wpAny_call_entry F.slot_dict_itemiterator_next hT F.entry_dict_itemiterator_next ?_ (F.args_dict_itemiterator_next_1 _))))
 refine wpAny_bind (wpAny_pure (wpAny_bind (wpAny_bind (wpAny_bind (wpAny_typeNameOfWhole_itemiter hT (wpAny_pure ?_))))))
 refine wpAny_bind (wpAny_fieldsOf ho rfl ?_)
 refine wpAny_bind (wpAny_pure (wpAny_bind (wpAny_dictEntries hr rfl ?_)))
 rw[if_neg (by simp)]
 refine wpAny_bind (wpAny_pure (wpAny_bind (wpAny_dictEpoch hr rfl ?_)))
 rw[if_neg (by simp)]
 refine wpAny_pure ?_
 simp only[show ¬((es.length:Int)<0) from by lia,if_false,Int.toNat_natCast,List.getElem?_toArray,List.getElem?_eq_none (Nat.le_refl es.length)]
 refine wpAny_bind (wpAny_bind (wpAny_typeNameOfWhole_itemiter hT (wpAny_pure ?_)))
 refine stopsIt (k:=2) (A:=A.in1) hh ho rfl (by simp) fun x s' hx h1 h2 h3=>?_
 refine wpAny_bind (wpAny_isInstance (T:="StopIteration") (b:=true) hx isSubtype_stop ?_)
 exact wpAny_pure (h _ ⟨H.ld.extBut h3,h1.trans H.os,h2▸H.gens⟩)
end
end Mine
namespace Mine
noncomputable section
section
variable {G:Gl} {P P' P'':Heap} {nms:List (Str×NameKind)} {n:Nat}
noncomputable def Cx.up (Γ:Cx G P nms n) (k:Sub P P'):Cx G P' nms n:=⟨Γ.env,Γ.L,Γ.A,Γ.src.mono k,Γ.eok,Γ.nod,Γ.rm,Γ.own,Γ.ownc,Γ.ownl,Γ.ownd⟩
structure EvG {G:Gl} {P:Heap} {nms:List (Str×NameKind)} {n:Nat} (Γ:Cx G P nms n) (m:Str→Option Value) (led:List (Addr×Asn)) (e:Expr) (R:Heap→Value→List (Addr×Asn)→Prop):Prop where
 run:∀(Q:Value→Shared→Prop) (s:Shared),Γ.at_ m led s→(∀P' v led' s' (k:Sub P P'),R P' v led'→(Γ.up k).at_ m led' s'→Q v s')→Γ.wp (eval e Γ.env) Q s
noncomputable abbrev EvV {α:Type} (Γ:Cx G P nms n) (m:Str→Option Value) (led:List (Addr×Asn)) (e:Expr) (V:Rep α) (x:α):Prop:=EvG Γ m led e fun P' v l=>l=led∧V.is P' x v
structure EvsG {G:Gl} {P:Heap} {nms:List (Str×NameKind)} {n:Nat} (Γ:Cx G P nms n) (m:Str→Option Value) (led:List (Addr×Asn)) (es:List Expr) (R:Heap→List Value→Prop):Prop where
 run:∀(pos:Pos) (Q:List Value→Shared→Prop) (s:Shared),Γ.at_ m led s→(∀P' vs s' (k:Sub P P'),R P' vs→(Γ.up k).at_ m led s'→Q vs s')→Γ.wp (spliced (backTo pos (starEach es Γ.env))) Q s
 plain:∀pos,((backTo pos (starEach es Γ.env)).any (·.1))=false
noncomputable abbrev EvsV {α:Type} (Γ:Cx G P nms n) (m:Str→Option Value) (led:List (Addr×Asn)) (es:List Expr) (V:Rep α) (xs:List α):Prop:=EvsG Γ m led es fun P' vs=>F2 (V.is P') xs vs
variable {Γ:Cx G P nms n} {m:Str→Option Value} {led led' led1 led2:List (Addr×Asn)} {e e1 e2:Expr} {es:List Expr} {x a:Str} {v:Value} {pos p1 p2:Pos}
 {rest body orelse:List Stmt} {Q:Flow→Shared→Prop} {R R1 R2:Heap→Value→List (Addr×Asn)→Prop} {α β:Type} {A:Rep α} {B:Rep β} {y:α} {z:β} {ys:List α}
theorem EvC.toG {R0:Value→Prop} (h:EvC Γ m led e R0 led') (hR:∀v,R0 v→R P v led'):EvG Γ m led e R:=⟨fun Q s H k=>h.run Q s H fun v s' hv H'=>k P v led' s' (Sub.refl P) (hR v hv) H'⟩
theorem EvG.imp (h:EvG Γ m led e R1) (hR:∀P' v l,Sub P P'→R1 P' v l→R2 P' v l):EvG Γ m led e R2:=⟨fun Q s H k=>h.run Q s H fun P' v l s' kk hv H'=>k P' v l s' kk (hR _ _ _ kk hv) H'⟩
theorem EvV.of (h:Ev Γ m led e (A.is P y)):EvV Γ m led e A y:=EvC.toG h fun _ hv=>⟨rfl,hv⟩
theorem EvV.val (h:Ev Γ m led e (Is v)):EvV Γ m led e Rep.val v:=EvC.toG h fun _ hv=>⟨rfl,hv⟩
theorem EvsG.nil {R:Heap→List Value→Prop} (h:R P []):EvsG Γ m led [] R:=⟨fun _ Q s H k=>spliced_none (k P [] s (Sub.refl P) h H),fun _=>rfl⟩
theorem EvsG.cons {R:Heap→List Value→Prop} {R2:Heap→List Value→Prop} (h1:EvV Γ m led e A y) (hs:∀env,starEach (e::es) env=(false,eval e env)::starEach es env) (h2:∀P' (k:Sub P P'),EvsG (Γ.up k) m led es R2)
  (hR:∀P' v vs,A.is P' y v→R2 P' vs→R P' (v::vs)):EvsG Γ m led (e::es) R:=
 ⟨fun pos Q s H k=>spliced_more (h1.run _ s H fun P' v l s1 kk zz9 H1=>E0A2 zz9 fun hl hv=>by
  subst hl
  exact(h2 P' kk).run pos _ s1 H1 fun P'' vs s2 k2 hvs H2=>k P'' (v::vs) s2 (kk.trans k2) (hR _ _ _ (A.mono k2 hv) hvs) H2) (hs _),fun pos=>by rw[hs]; exact(h2 P (Sub.refl P)).plain pos⟩
theorem EvsV.nil:EvsV Γ m led [] A []:=EvsG.nil .nil
theorem EvsV.cons (h1:EvV Γ m led e A y) (hs:∀env,starEach (e::es) env=(false,eval e env)::starEach es env) (h2:∀P' (k:Sub P P'),EvsV (Γ.up k) m led es A ys):EvsV Γ m led (e::es) A (y::ys):=
 EvsG.cons h1 hs h2 fun _ _ _ a b=>.cons a b
theorem EvV.pair {k:Nat} (h1:EvV Γ m led e1 A y) (h2:∀P' (kk:Sub P P'),EvV (Γ.up kk) m led e2 B z) (hs1:∀env,starEach [e1,e2] env=(false,eval e1 env)::starEach [e2] env) (hs2:∀env,starEach [e2] env=(false,eval e2 env)::starEach [] env) :
  EvV Γ m led (.Tuple [e1,e2] k pos) (Rep.pair A B) (y,z):=
 ⟨fun Q s H h=>Tuple_ ((EvsG.cons (R:=fun P' vs=>∃u u',vs=[u,u']∧A.is P' y u∧B.is P' z u') (R2:=fun P' vs=>∃u',vs=[u']∧B.is P' z u') h1 hs1
   (fun P' kk=>EvsG.cons (R2:=fun _ vs=>vs=[]) (h2 P' kk) hs2 (fun _ _=>EvsG.nil rfl) fun _ v vs hb e=>⟨v,by rw[e],hb⟩) fun P' v vs ha zz8=>E1A2 zz8 fun u' e hb=>⟨v,u',by rw[e],ha,hb⟩).run pos _ s H fun P' vs s1 kk zz6 H1=>E2A3 zz6 fun u u' e ha hb=>by
  subst e
  refine wpAny_newTuple ?_
  refine E2A4 ((At.push (R:=Asn.eq (tupObj [u,u'] 0)) H1 rfl rfl).persist) fun P2 o k2 g r H2=>?_
  have r':o=tupObj [u,u'] 0:=r
  subst r'
  exact h P2 _ led _ (kk.trans k2) ⟨rfl,_,u,u',0,rfl,g,A.mono k2 ha,B.mono k2 hb⟩ H2)⟩
theorem EvG.list (h:EvsV Γ m led es A ys) (hz:ys.length≤1000):EvG Γ m led (.List es pos) fun _ v l=>∃q,v=.ref q∧l=(q,Asn.list A ys)::led:=
 ⟨fun Q s H k=>List_ (h.run pos _ s H fun P' vs s1 kk hvs H1=>by
  have hl:=hvs.length
  exact wpAny_newObj_type (k P' _ _ _ kk ⟨_,rfl,rfl⟩ (At.perm (At.push H1 (R:=Asn.list A ys) (o:=listOf vs.toArray 0) ⟨vs.toArray,0,rfl,hvs⟩ rfl) List.perm_middle)) (by show vs.toArray.size≤sizeLine; rw[List.size_toArray,sizeLine_eq]; exact eq2 (by assumption) (tr1 (by assumption) rfl)))⟩
theorem St.assignG (h1:EvG Γ m led e R) (hl:nms.lookup x=some .local) (hw:∀env,swapsWith e (some (.Name x p1)) pos.line env=pure false) (h:∀P' v l (k:Sub P P'),R P' v l→St (Γ.up k) (upd m x v) l rest Q) :
  St Γ m led (.Assign [.Name x p1] e pos::rest) Q:=
 ⟨fun s H=>wpAny_execs_cons (wpAny_Assign_Name (h1.run _ s H fun P' v l s1 k hv H1=>(Γ.up k).store H1 hl fun s' H'=>(h P' v l k hv).run s' H') (hw _))⟩
theorem St.assignC {c:Addr} (h1:EvG Γ m led e R) (hl:nms.lookup x=some .cell) (hc:Γ.own.lookup x=some c) (hw:∀env,swapsWith e (some (.Name x p1)) pos.line env=pure false) (h:∀P' v l (k:Sub P P'),R P' v l→St (Γ.up k) (upd m x v) l rest Q) :
  St Γ m led (.Assign [.Name x p1] e pos::rest) Q:=
 ⟨fun s H=>wpAny_execs_cons (wpAny_Assign_Name (h1.run _ s H fun P' v l s1 k hv H1=>(Γ.up k).storeC H1 hl hc fun s' H'=>(h P' v l k hv).run s' H') (hw _))⟩
theorem Ev.cell {c:Addr} {R:Value→Prop} (hv:m x=some v) (hR:R v) (hl:nms.lookup x=some .cell) (hc:Γ.own.lookup x=some c):Ev Γ m led (.Name x pos) R:=
 ⟨fun _ _ H h=>wpAny_Name (Γ.loadC H hv hl hc (h _ _ hR H)) (Γ.dbg hl)⟩
theorem Ev.free {c:Addr} {R:Value→Prop} (hm:(c,Asn.cell (some v))∈led) (hR:R v) (hc:Γ.env.cells.lookup x=some c) (hl:nms.lookup x=some .free) (hn:(x == ("__classdict__" : Str))=false):Ev Γ m led (.Name x pos) R:=
 ⟨fun _ _ H h=>wpAny_Name (v_loadFree Γ.eok H (Γ.tl hm) hc (h _ _ hR H) hl hn) (Γ.dbg hl)⟩
theorem St.retG (h1:EvG Γ m led e R) (h:∀P' v l s' (k:Sub P P'),R P' v l→(Γ.up k).at_ m l s'→Q (.ret v) s'):St Γ m led (.Return (some e) pos::rest) Q:=
 ⟨fun s H=>wpAny_execs_cons (wpAny_Return_some (h1.run _ s H fun P' v l s' k hv H'=>h P' v l s' k hv H'))⟩
theorem St.exprG {RL:Heap→List (Addr×Asn)→Prop} (h1:EvG Γ m led e fun P' v l=>v=.none∧RL P' l) (hw:∀env,swapsWith e none pos.line env=pure false) (h:∀P' l (k:Sub P P'),RL P' l→St (Γ.up k) m l rest Q):St Γ m led (.Expr e pos::rest) Q:=
 ⟨fun s H=>wpAny_execs_cons (s_expr Γ.eok (h1.run _ s H fun P' v l s' k hv H'=>by obtain⟨rfl,hl⟩:=hv; exact(h P' l k hl).run s' H') (hw _))⟩
end
end
section
variable {G:Gl} {P P1 P':Heap} {nms:List (Str×NameKind)} {n:Nat} {Γ:Cx G P nms n} {m:Str→Option Value} {led:List (Addr×Asn)} {body:List Stmt} {Q:Flow→Shared→Prop}
noncomputable def Cx.at (Γ:Cx G P nms n) (X:Src (KF G.w) P'):Cx G P' nms n:=⟨Γ.env,Γ.L,Γ.A,X,Γ.eok,Γ.nod,Γ.rm,Γ.own,Γ.ownc,Γ.ownl,Γ.ownd⟩
theorem St.begin_ {m0:Str→Option Value} {Q0:Flow→Shared→Prop} {F:(Str→Option Value)→Prop} (h:∀m Q,F m→(∀f s,Q0 f s→Q f s)→St Γ m led body Q) (hF:F m0):St Γ m0 led body Q0:=h m0 Q0 hF fun _ _ q=>q
theorem St.at {k:Sub P P'} (X:Src (KF G.w) P') (h:St (Γ.at X) m led body Q):St (Γ.up k) m led body Q:=h
theorem St.at2 {X1:Src (KF G.w) P1} {k:Sub P1 P'} (X:Src (KF G.w) P') (h:St (Γ.at X) m led body Q):St ((Γ.at X1).up k) m led body Q:=h
end
end Mine
namespace Mine
noncomputable section
section
variable {prog:Program} {w:World} {σ:Shared} {P:Heap} {led led':List (Addr×Asn)} {s:Shared} {A:Around} {E:Value→Shared→Prop} {d I l:Addr} {es:List DictEntry} {ep i n:Nat} {e:DictEntry}
 {κ β:Type} {di:DecidableEq κ} {D:DKind prog w κ} {V:Rep β} {ps:List (κ×β)} {xs:List β}
theorem go_none {T:String} {vs:Array Value} {o:Obj} {Q:Unit→Shared→Prop} {elts:List Expr} {k:Nat} {pos:Pos} {v:Value} (ho:s.heap.get? I=some o) (hc:o.cls=.type T) (hd:o.data=.fields vs)
  (hT:(["enumerate","zip","dict_itemiterator","dict_reverseitemiterator","odict_iterator","itertools.zip_longest","itertools.pairwise"].contains T)=false) (h:Q () s) :
  wpAny (model prog w) A (letOwnedTupleGo (.Tuple elts k pos) (.ref I) v) Q E s:=by
 cases v with
 | ref a=>
  refine wpAny_bind (wpAny_load ho ?_)
  rw[hc,hd]
  dsimp only
  rw[hT]
  exact wpAny_pure h
 | _=>exact wpAny_pure h
noncomputable def needL (l:Addr) (V:Rep β) (xs:List β) (P h:Heap):Prop:=∃vs m,h.get? l=some (listOf vs m)∧F2 (V.is P) xs vs.toList
theorem It.list:It prog w σ I xs.length (Asn.iter l) (needL l V xs) (fun P i v=>∃x,xs[i]? = some x∧V.is P x v) where
 item:=fun {A E P led led' s Q i} hi H U hn h=>by
  refine E2A2 (hn) fun vs m e f=>?_
  clear hn
  have hx:xs[i]? = some xs[i]:=List.getElem?_eq_getElem hi
  refine E1A2 (f.get' hx) fun v hv hV=>?_
  refine E1A3 (H.ld.get U.mem) fun o ho hc hd=>?_
  refine wpAny_pyNext_list_item (it:=I) (l:=l) (items:=vs) (x:=v) ⟨o,ho,hc,hd⟩ ⟨_,e,rfl,_,rfl⟩ (by simpa using hv) fun h' hit' hs'=>?_
  refine E1A3 (hit') fun o' ho' hc' hd'=>?_
  clear hit'
  exact h P v _ (Sub.refl P) ⟨_,hx,hV⟩ (H.upd (tk:=s.toks) U hs' ⟨o',ho',hc',hd'⟩)
 done:=fun {A E P led s Q} hh H hn h=>by
  refine E2A2 (hn) fun vs m e f=>?_
  clear hn
  have hl:xs.length=vs.size:=by have:=f.length; exact this
  refine E1A3 (H.ld.get (.head _)) fun o ho hc hd=>?_
  exact wpAny_pyNext_list_end hh (it:=I) (l:=l) (items:=vs) ⟨o,ho,hc,hd⟩ ⟨_,e,rfl,_,rfl⟩ (by simp[hl]) fun h' he'=>h _ (H.extBut (tk:=s.toks) he')
 go:=fun {A E P led s Q i elts k pos v} H hm h=>by
  refine E1A3 (H.ld.get hm) fun o ho hc hd=>?_
  exact go_none ho hc hd (by decide) (h s H)
 self:=fun {A E P led s Q i} H hm h=>by
  refine E1A3 (H.ld.get hm) fun o ho hc hd=>?_
  exact wpAny_pyIter_listiter (l:=l) (i:=i) ⟨o,ho,hc,hd⟩ h
 nmono:=fun k zz280=>E2A2 zz280 fun vs m e f=>⟨vs,m,e,f.imp fun _ _=>V.mono k⟩
 rfree:=fun h=>h
noncomputable def needD (d:Addr) (D:DKind prog w κ) (V:Rep β) (ps:List (κ×β)) (ep:Nat) (P h:Heap):Prop:=∃es,Raw d ep es h∧F2 (DRep D V P) ps es
theorem It.keys:It prog w σ I ps.length (KeyIt d ps.length ep) (needD d D V ps ep) (fun P i v=>∃p,ps[i]? = some p∧D.rep.is P p.1 v) where
 item:=fun {A E P led led' s Q i} hi H U hn h=>by
  obtain⟨es,hr,f⟩:=hn
  have hx:ps[i]? = some ps[i]:=List.getElem?_eq_getElem hi
  obtain⟨e,he,hV⟩:=f.get' hx
  rw[f.length] at U
  exact n_key H U hr he fun s' H'=>h P _ s' (Sub.refl P) ⟨_,hx,hV.2.1⟩ H'
 done:=fun {A E P led s Q} hh H hn h=>by
  obtain⟨es,hr,f⟩:=hn
  rw[f.length] at H
  exact n_key_end hh H hr h
 go:=fun {A E P led s Q i elts k pos v} H hm h=>by
  refine E1A3 (H.ld.get hm) fun o ho hc hd=>?_
  exact go_none ho hc hd (by decide) (h s H)
 self:=fun {A E P led s Q i} H hm h=>by
  refine E1A3 (H.ld.get hm) fun o ho hc hd=>?_
  exact wpAny_pyIter_keyiter (i:=i) ⟨o,ho,hc,hd⟩ h
 nmono:=fun k zz214=>E1A2 zz214 fun es e f=>⟨es,e,f.imp fun _ _=>DRep.mono k⟩
 rfree:=fun h=>h
theorem It.items:It prog w σ I ps.length (ItemIt d ps.length ep) (needD d D V ps ep) (fun P i v=>∃p,ps[i]? = some p∧(Rep.pair D.rep V).is P p v) where
 item:=fun {A E P led led' s Q i} hi H U hn h=>by
  obtain⟨es,hr,f⟩:=hn
  have hx:ps[i]? = some ps[i]:=List.getElem?_eq_getElem hi
  obtain⟨e,he,hV⟩:=f.get' hx
  rw[f.length] at U
  refine n_item H U hr he fun a s' H'=>?_
  refine E2A4 (H'.persist) fun P2 o k2 g r H2=>?_
  have r':o=tupObj [e.key,e.val] 0:=r
  subst r'
  exact h P2 _ s' k2 ⟨_,hx,a,e.key,e.val,0,rfl,g,D.rep.mono k2 hV.2.1,V.mono k2 hV.2.2⟩ H2
 done:=fun {A E P led s Q} hh H hn h=>by
  obtain⟨es,hr,f⟩:=hn
  rw[f.length] at H
  exact n_item_end hh H hr h
 go:=fun {A E P led s Q i elts k pos v} H hm h=>by
  obtain⟨o,ho,x,b,k',v',hx,hb,rfl⟩:=H.ld.get hm
  cases v with
  | ref a=>
   refine wpAny_bind (wpAny_load ho ?_)
   dsimp only
   refine wpAny_ite_split (fun _=>?_) fun _=>?_
   ·exact wpAny_bind (wpAny_rule (setAny H hm (.inr (.inr (.inl ⟨rfl,.inl rfl⟩))) h))
   ·exact wpAny_pure (h s H)
  | _=>exact wpAny_pure (h s H)
 self:=fun {A E P led s Q i} H hm h=>by
  obtain⟨o,ho,x,b,k',v',hx,hb,rfl⟩:=H.ld.get hm
  have hT:s.TypeIs (.ref I) "dict_itemiterator":=⟨_,ho,rfl⟩
  refine wpAny_pyIter_slot hT F.slot_dict_itemiterator_iter (wpAny_call_entry F.slot_dict_itemiterator_iter hT kcp_entry ?_ (F.args_dict_itemiterator_iter_1 _))
  exact wpAny_pure ⟨_,rfl,"dict_itemiterator",_,hT,F.slot_dict_itemiterator_next.lookup,h⟩
 nmono:=fun k zz130=>E1A2 zz130 fun es e f=>⟨es,e,f.imp fun _ _=>DRep.mono k⟩
 rfree:=fun h=>h
theorem At.raw {σ:Shared} {P:Heap} {led:List (Addr×Asn)} {s:Shared} (H:At σ P led s) (hm:(d,Asn.dictX D V ps (some ep))∈led):needD d D V ps ep P s.heap:=by
 obtain⟨o,e,es,n,⟨rfl,hn⟩,f,g⟩:=H.ld.get hm
 have:=hn ep rfl
 subst this
 exact⟨es,e,f⟩
theorem At.pin (H:At σ P led s) (hm:(d,Asn.dict D V ps)∈led):∃ep,∀led',Upd d (Asn.dict D V ps) (Asn.dictX D V ps (some ep)) led led'→At σ P led' s:=by
 obtain⟨o,e,es,n,⟨rfl,hn⟩,f,g⟩:=H.ld.get hm
 exact⟨n,fun led' U=>(H.upd (tk:=s.toks) U (Heap.SameBut.refl _ _) ⟨_,e,es,n,⟨rfl,fun x q=>by(obtain rfl:=Option.some.inj q); rfl⟩,f,g⟩:At _ _ _ { s with heap:=s.heap,toks:=s.toks })⟩
theorem At.unpin (H:At σ P led s) (U:Upd d (Asn.dictX D V ps (some ep)) (Asn.dict D V ps) led led'):At σ P led' s:=by
 obtain⟨o,e,es,n,⟨rfl,hn⟩,f,g⟩:=H.ld.get U.mem
 exact(H.upd (tk:=s.toks) U (Heap.SameBut.refl _ _) ⟨_,e,es,n,⟨rfl,fun x q=>by cases q⟩,f,g⟩:At _ _ _ { s with heap:=s.heap,toks:=s.toks })
theorem i_dict {K:Frag} {x:Option Nat} {Q:Value→Shared→Prop} (H:At σ P led s) (X:Src K P) (hm:(d,Asn.dictX D V ps x)∈led)
  (h:∀I ep s',(∀y,x=some y→ep=y)→needD d D V ps ep P s.heap→At σ P ((I,KeyIt d ps.length ep 0)::led) s'→Q (.ref I) s'):wpAny (model prog w) A (pyIter (.ref d)) Q E s:=by
 obtain⟨o,ho,es,n,⟨rfl,hn⟩,f,g⟩:=H.ld.get hm
 have hT:s.TypeIs (.ref d) "dict":=⟨_,ho,rfl⟩
 refine wpAny_pyIter_slot hT F.slot_dict_iter (wpAny_call_entry F.slot_dict_iter hT F.entry_dict_iter ?_ (F.args_dict_iter_1 _))
 refine wpAny_bind ?_
 refine wpAny_bind (wpAny_notOrdered_dict hT ?_)
 show wpAny _ _ (pure (Value.ref d)) _ _ s
 refine wpAny_pure ?_
 show wpAny _ _ (Builtin.Dict.showsAll d >>= _) _ _ s
 unfold Builtin.Dict.showsAll
 rw[if_neg (by rw[H.noSys X hm]; exact Bool.false_ne_true)]
 refine wpAny_bind (wpAny_pure (wpAny_bind (wpAny_dictEntries ho rfl (wpAny_bind (wpAny_dictEpoch ho rfl ?_)))))
 refine wpAny_bind (wpAny_newObj_type (wpAny_pure ⟨_,rfl,"dict_keyiterator",_,⟨_,Heap.get?_push_size _ rfl,rfl⟩,F.slot_dict_keyiterator_next.lookup,?_⟩))
 exact h _ n _ hn ⟨es,ho,f⟩ (H.push (R:=KeyIt d ps.length n 0) ⟨rfl,by simp[rawInt,f.length]⟩ rfl)
noncomputable def View (T:String) (d:Addr):Asn:=⟨fun _ o=>o={ cls:=.type T,data:=.fields #[.ref d] },fun _ h=>h⟩
theorem i_keys {x:Option Nat} {v:Addr} {Q:Value→Shared→Prop} (H:At σ P led s) (hv:(v,View "dict_keys" d)∈led) (hm:(d,Asn.dictX D V ps x)∈led)
  (h:∀I ep s',(∀y,x=some y→ep=y)→needD d D V ps ep P s.heap→At σ P ((I,KeyIt d ps.length ep 0)::led) s'→Q (.ref I) s'):wpAny (model prog w) A (pyIter (.ref v)) Q E s:=by
 obtain⟨o,ho,es,n,⟨rfl,hn⟩,f,g⟩:=H.ld.get hm
 obtain⟨ov,hov,rfl⟩:=H.ld.get hv
 have hT:s.TypeIs (.ref v) "dict_keys":=⟨_,hov,rfl⟩
 refine wpAny_pyIter_slot hT kdl_slot_keys_iter (wpAny_call_entry kdl_slot_keys_iter hT kdl_entry_keys_iter ?_ (kdl_args_keys_iter _))
 refine wpAny_bind (wpAny_pure (wpAny_bind ?_))
 refine wpAny_bind (wpAny_field hov rfl (x:=.ref d) rfl (wpAny_pure (wpAny_bind ?_)))
 refine wpAny_bind (wpAny_dictEntries ho rfl (wpAny_bind (wpAny_dictEpoch ho rfl ?_)))
 simp only[show Builtin.Dict_items.ownsTuple "dict_keyiterator" = false by decide,Bool.false_eq_true,if_false]
 refine wpAny_newObj_type (wpAny_pure ⟨_,rfl,"dict_keyiterator",_,⟨_,Heap.get?_push_size _ rfl,rfl⟩,F.slot_dict_keyiterator_next.lookup,?_⟩)
 exact h _ n _ hn ⟨es,ho,f⟩ (H.push (R:=KeyIt d ps.length n 0) ⟨rfl,by simp[rawInt,f.length]⟩ rfl)
theorem i_items {x:Option Nat} {v:Addr} {Q:Value→Shared→Prop} (H:At σ P led s) (hv:(v,View "dict_items" d)∈led) (hm:(d,Asn.dictX D V ps x)∈led)
  (h:∀I ep s',(∀y,x=some y→ep=y)→needD d D V ps ep P s.heap→At σ P ((I,ItemIt d ps.length ep 0)::led) s'→Q (.ref I) s'):wpAny (model prog w) A (pyIter (.ref v)) Q E s:=by
 obtain⟨o,ho,es,n,⟨rfl,hn⟩,f,g⟩:=H.ld.get hm
 obtain⟨ov,hov,rfl⟩:=H.ld.get hv
 have hT:s.TypeIs (.ref v) "dict_items":=⟨_,hov,rfl⟩
 refine wpAny_pyIter_slot hT F.slot_dict_items_iter (wpAny_call_entry F.slot_dict_items_iter hT F.entry_dict_items_iter ?_ (F.args_dict_items_iter_1 _))
 refine wpAny_bind (wpAny_pure (wpAny_bind ?_))
 refine wpAny_bind (wpAny_field hov rfl (x:=.ref d) rfl (wpAny_pure (wpAny_bind ?_)))
 refine wpAny_bind (wpAny_dictEntries ho rfl (wpAny_bind (wpAny_dictEpoch ho rfl ?_)))
 simp only[show Builtin.Dict_items.ownsTuple "dict_itemiterator" = true by decide,if_true]
 refine wpAny_newObj_type (wpAny_pure ⟨_,rfl,"dict_itemiterator",_,⟨_,Heap.get?_push_size _ rfl,rfl⟩,F.slot_dict_itemiterator_next.lookup,?_⟩)
  (by simp only[sizeOk,Builtin.Dict_items.ownedTupleFields,List.size_toArray,List.length_append,List.length_cons,List.length_nil,sizeLine_eq]; exact bl0 rfl)
 exact h _ n _ hn ⟨es,ho,f⟩ (H.push (R:=ItemIt d ps.length n 0) ⟨.none,.bool false,.none,.none,.inl rfl,.inr rfl,by simp[rawInt,f.length,Builtin.Dict_items.ownedTupleFields]⟩ rfl)
theorem i_list {Q:Value→Shared→Prop} (H:At σ P led s) (hn:needL l V xs P s.heap) (h:∀I s',At σ P ((I,Asn.iter l 0)::led) s'→Q (.ref I) s'):wpAny (model prog w) A (pyIter (.ref l)) Q E s:=by
 refine E2A2 (hn) fun vs m e f=>?_
 clear hn
 exact wpAny_pyIter_list (items:=vs) ⟨_,e,rfl,_,rfl⟩ (h _ _ (H.push (R:=Asn.iter l 0) ⟨rfl,rfl⟩ rfl))
end
end
end Mine
namespace Mine
noncomputable section
structure TurnG {G:Gl} {P:Heap} {nms:List (Str×NameKind)} {n:Nat} (Γ:Cx G P nms n) (Inv:Heap→(Str→Option Value)→List (Addr×Asn)→Prop) (it:List (Addr×Asn)) (rest:List Stmt) (Q Q':Flow→Shared→Prop):Prop where
 next:∀P' m led s (k:Sub P P'),Inv P' m led→(Γ.up k).at_ m (it++led) s→Q' .next s
 cont:∀P' m led s (k:Sub P P'),Inv P' m led→(Γ.up k).at_ m (it++led) s→Q' .cont s
 brk:∀s,Γ.wp (execs rest Γ.env) Q s→Q' .brk s
 ret:∀v s,Q (.ret v) s→Q' (.ret v) s
structure Walk {G:Gl} {P:Heap} {nms:List (Str×NameKind)} {n:Nat} (Γ:Cx G P nms n) (m:Str→Option Value) (led0:List (Addr×Asn)) (iter:Expr) (N:Nat) (Pv:Heap→Nat→Value→Prop)
  (RL:(List (Addr×Asn)→Prop)→Heap→List (Addr×Asn)→Prop):Prop where
 run:∀(Q:Value→Shared→Prop) (s:Shared),Γ.at_ m led0 s→(∀I R need Pin P' led s' (k:Sub P P'),(∀σ',It G.prog G.w σ' I N R need Pv)→(∀P'' led'' s'',Sub P' P''→Pin led''→At G.σ P'' led'' s''→need P'' s''.heap) →
  (∀l l',(∀x∈l,x∈l')→Pin l→Pin l')→RL Pin P' led→(Γ.up k).at_ m ((I,R 0)::led) s'→Q (.ref I) s')→Γ.wp (eval iter Γ.env) (fun x s1=>Γ.wp (pyIter x) Q s1) s
structure Asg {G:Gl} {P:Heap} {nms:List (Str×NameKind)} {n:Nat} (Γ:Cx G P nms n) (m:Str→Option Value) (led:List (Addr×Asn)) (target:Expr) (v:Value) (K:(Str→Option Value)→Prop):Prop where
 run:∀(A:Around) (E:Value→Shared→Prop) (Q:Unit→Shared→Prop) (s:Shared),A.handled=none→Γ.at_ m led s→(∀m' s',K m'→Γ.at_ m' led s'→Q () s')→wpAny (model G.prog G.w) A (assign target Γ.env v) Q E s
section
variable {G:Gl} {P P':Heap} {nms:List (Str×NameKind)} {n:Nat} {Γ:Cx G P nms n} {m:Str→Option Value} {led led' led0:List (Addr×Asn)} {e iter target:Expr} {x y a b:Str} {v:Value} {pos p1 p2 p3:Pos}
 {rest body:List Stmt} {Q Q':Flow→Shared→Prop} {α β κ:Type} {A:Rep α} {B:Rep β} {u:α} {w:β} {di:DecidableEq κ} {D:DKind G.prog G.w κ} {V:Rep β} {ps:List (κ×β)} {xs:List β} {d l:Addr} {N:Nat}
 {Pv:Heap→Nat→Value→Prop} {RL:(List (Addr×Asn)→Prop)→Heap→List (Addr×Asn)→Prop} {Inv:Heap→(Str→Option Value)→List (Addr×Asn)→Prop} {it:List (Addr×Asn)} {R0:Heap→Value→List (Addr×Asn)→Prop}
theorem TurnG.nil (T:TurnG Γ Inv it rest Q Q') (k:Sub P P') (h:Inv P' m led):St (Γ.up k) m (it++led) [] Q':=St.nil fun s H=>T.next P' m led s k h H
theorem Asg.name (hl:nms.lookup x=some .local):Asg Γ m led (.Name x pos) v (· = upd m x v):=
 ⟨fun _ _ _ s _ H h=>wpAny_assign_Name (Γ.store H hl fun s' H'=>h _ s' rfl H')⟩
theorem Asg.cell {c:Addr} (hl:nms.lookup x=some .cell) (hc:Γ.own.lookup x=some c):Asg Γ m led (.Name x pos) v (· = upd m x v):=
 ⟨fun _ _ _ s _ H h=>wpAny_assign_Name (Γ.storeC H hl hc fun s' H'=>h _ s' rfl H')⟩
theorem Asg.two {t1 t2:Expr} {k:Nat} {K1:Value→(Str→Option Value)→Prop} {K2:Value→(Str→Option Value)→(Str→Option Value)→Prop} (hv:(Rep.pair A B).is P (u,w) v)
  (h1:∀v',Asg Γ m led t1 v' (K1 v')) (h2:∀m' v',Asg Γ m' led t2 v' (K2 v' m'))
  (hs:∀env,assignEach [t1,t2] env=[(false,assign t1 env),(false,assign t2 env)]) :
  Asg Γ m led (.Tuple [t1,t2] k pos) v (fun m'=>∃v1 v2 m1,A.is P u v1∧B.is P w v2∧K1 v1 m1∧K2 v2 m1 m'):=
 ⟨fun A' E Q s hh H h=>by
  refine E4A4 (hv) fun a u1 u2 q ee5 g ha hb=>?_
  clear hv
  subst ee5
  refine wpAny_assign_Tuple (items:=#[u1,u2]) hh ⟨_,H.sub _ _ g,rfl,_,rfl⟩ (by rw[hs]; rfl) (by rw[hs]; rfl) fun h' hx=>?_
  rw[hs]
  have H1:Γ.at_ m led { s with heap:=h' }:=At.grow (tk:=s.toks) H fun b o e=>hx b o (Nat.ne_of_lt (Heap.lt_size e)) e
  show wpAny _ _ (do holding [u2] (assign t1 Γ.env u1); do holding [] (assign t2 Γ.env u2); pure ()) _ _ _
  refine wpAny_bind (wpAny_holding ((h1 u1).run A' E _ _ hh H1 fun m1 s1 k1 H1=>?_))
  exact wpAny_bind (wpAny_holding ((h2 m1 u2).run A' E _ _ hh H1 fun m2 s2 k2 H2=>wpAny_pure (h m2 s2 ⟨u1,u2,m1,ha,hb,k1,k2⟩ H2)))⟩
theorem Walk.dict (h1:Ev Γ m led0 iter (Is (.ref d))) {ledp:Nat→List (Addr×Asn)} (U:∀ep,Upd d (Asn.dict D V ps) (Asn.dictX D V ps (some ep)) led0 (ledp ep)) :
  Walk Γ m led0 iter ps.length (fun P i v=>∃p,ps[i]? = some p∧D.rep.is P p.1 v) (fun Pin P' led=>∃ep,Pin=(fun l=>(d,Asn.dictX D V ps (some ep))∈l)∧led=ledp ep∧P'=P):=
 ⟨fun Q s H h=>h1.run _ s H fun v s1 hv H1=>by
  subst hv
  obtain⟨ep,hp⟩:=At.pin (H1:At _ _ _ _) (Γ.tl (U 0).mem)
  have H2:=hp _ (Γ.tu (U ep))
  refine i_dict (x:=some ep) H2 Γ.src (Γ.tl (U ep).mem') fun I ep' s2 he hn H3=>?_
  have:=he ep rfl
  subst this
  exact h I _ _ (fun l=>(d,Asn.dictX D V ps (some ep'))∈l) P _ s2 (Sub.refl P) (fun _=>It.keys) (fun P'' led'' s'' _ hm H'=>At.raw H' hm) (fun l l' hs hm=>hs _ hm) ⟨ep',rfl,rfl,rfl⟩ (H3.perm List.perm_middle)⟩
theorem St.forIt (W:Walk Γ m led0 iter N Pv RL) (hf:∀env x,foldedSetIterable iter env x=pure x) (hT:(∀it v,letOwnedTupleGo target it v=pure ())∨∃elts k p,target=.Tuple elts k p)
  (h:∀Pin P1 led (k1:Sub P P1),RL Pin P1 led→∃Inv:Nat→Heap→(Str→Option Value)→List (Addr×Asn)→Prop,(∀i P m l,Inv i P m l→Pin l)∧Inv 0 P1 m led ∧
   (∀i P2 P3 (k2:Sub P1 P2) (k3:Sub P2 P3) v it m' led' Q',i<N→Inv i P2 m' led'→Pv P3 i v→TurnG (Γ.up (k1.trans (k2.trans k3))) (Inv (i+1)) [it] rest Q Q' →
    ∃K,Asg (Γ.up (k1.trans (k2.trans k3))) m' (it::led') target v K∧∀m'',K m''→St (Γ.up (k1.trans (k2.trans k3))) m'' (it::led') body Q') ∧
   (∀P2 (k2:Sub P1 P2) m' led',Inv N P2 m' led'→St (Γ.up (k1.trans k2)) m' led' rest Q)) :
  St Γ m led0 (.For target iter body [] pos::rest) Q:=by
 refine⟨fun s H=>wpAny_execs_cons (s_for ?_ (hf _))⟩
 refine wpAny_mono (W.run (fun it s2=>codeAny (model G.prog G.w) Γ.A (.forLoop target it body [] Γ.env) (fun r s'=>match r with|.ok f=>Γ.seq rest Q f s'|.error _=>False) s2) s H fun I R need Pin P1 led s1 k1 hI hneed hmono hRL H1=>?_) (fun x s1 q=>wpAny_mono q (fun it s2 q=>codeAny_mono q fun r s3 z=>by cases r with|ok f=>obtain⟨⟩:=f <;> exact z|error e=>exact z) fun _ _ q=>q.elim) fun _ _ q=>q.elim
 refine E1A4 (h Pin P1 led k1 hRL) fun Inv hpin h0 turn done=>?_
 refine codeAny_loop' rfl (fun j s'=>∃i P2 m' led',j=N - i∧i≤N∧Sub P1 P2∧Inv i P2 m' led'∧At G.σ P2 (Γ.fr m'++(I,R i)::led') s') (fun j s' hJ=>?_) N ⟨0,P1,m,led,rfl,Nat.zero_le _,Sub.refl P1,h0,H1⟩
 refine E4A5 (hJ) fun i P2 m' led' ee2 hi k2 hInv H2=>?_
 clear hJ
 subst ee2
 have hh:=Γ.rm.handled
 have hpl:Pin (Γ.fr m'++(I,R i)::led'):=hmono _ _ (fun x hx=>List.mem_append_right _ (.tail _ hx)) (hpin _ _ _ _ hInv)
 have hn:=hneed P2 _ _ k2 hpl H2
 show wpAny _ _ ((forTurn target (.ref I) body [] Γ.env).onRaise (fun x=>do noteFrame x Γ.env; theTreesLotGoes x)) _ _ s'
 refine wpAny_noted ?_
 refine wpAny_bind (wpAny_standAt (wpAny_bind (wpAny_onRaise ?_)))
 rcases Nat.lt_or_ge i N with hlt|hge
 ·refine(hI _).item hlt H2 (Upd.pre .head _) hn fun P3 v s3 k3 hv H3=>?_
  have go:∀(Q1:Unit→Shared→Prop) (E1:Value→Shared→Prop),(∀s4,At G.σ P3 (Γ.fr m'++(I,R (i+1))::led') s4→Q1 () s4)→wpAny (model G.prog G.w) (Γ.A.under (.forLoop target (.ref I) body [] Γ.env)) (letOwnedTupleGo target (.ref I) v) Q1 E1 s3:=by
   intro Q1 E1 hq
   rcases hT with hT|⟨elts,kk,p,rfl⟩
   ·exact wpAny_of_eq (hT _ _) (hq _ H3)
   ·exact(hI _).go H3 (List.mem_append_right _ (.head _)) hq
  refine wpAny_bind (go _ _ fun s4 H4=>?_)
  have nx:∀P' m'' l'' s5 (k:Sub P3 P'),Inv (i+1) P' m'' l''→At G.σ P' (Γ.fr m''++([(I,R (i+1))]++l'')) s5→∃j,j<N - i∧∃i' P2 m' led',j=N - i'∧i'≤N∧Sub P1 P2∧Inv i' P2 m' led'∧At G.σ P2 (Γ.fr m'++(I,R i')::led') s5:=
   fun P' m'' l'' s5 k a b=>⟨N - (i+1),by exact Nat.sub_succ_lt_self _ _ (by assumption),i+1,P',m'',l'',rfl,hlt,k2.trans (k3.trans k),a,b⟩
  obtain⟨K,hA,hB⟩:=turn i P2 P3 k2 k3 v (I,R (i+1)) m' led' (TurnEnd (fun s5=>∃j,j<N - i∧∃i' P2 m' led',j=N - i'∧i'≤N∧Sub P1 P2∧Inv i' P2 m' led'∧At G.σ P2 (Γ.fr m'++(I,R i')::led') s5)
   (fun s5=>Γ.wp (execs rest Γ.env) Q s5) (fun v s5=>Q (.ret v) s5)) hlt hInv hv ⟨fun P' m'' l'' s5 k a b=>nx P' m'' l'' s5 k a b,fun P' m'' l'' s5 k a b=>nx P' m'' l'' s5 k a b,fun _ z=>z,fun _ _ z=>z⟩
  refine wpAny_bind (hA.run _ _ _ _ hh H4 fun m'' s5 hK H5=>?_)
  have hb:=(hB m'' hK).run s5 H5
  refine wpAny_bind (wpAny_mono (hb:wpAny _ Γ.A _ _ _ _) (fun f s6 z=>?_) fun _ _ (q:False)=>q.elim)
  cases f with
  | next=>exact wpAny_pure (.inl ⟨rfl,z⟩)
  | cont=>exact wpAny_pure (.inl ⟨rfl,z⟩)
  | brk=>exact wpAny_pure z
  | ret v=>exact wpAny_pure z
 ·have:i=N:=by lia
  subst this
  refine(hI _).done hh (H2.perm List.perm_middle.symm) hn fun s3 H3=>?_
  exact wpAny_pure (.inr ⟨rfl,codeAny_block (wpAny_mono (wpAny_execs_nil ((done P2 k2 m' led' hInv).run s3 H3)) (fun _ _ q=>q) fun _ _ q=>q)⟩)
end
end
end Mine
namespace Mine
noncomputable section
noncomputable def relab (nms names:List (Str×NameKind)):List (Str×NameKind):=names.map fun x=>if(x.2 == .free && nms.lookup x.1 == some .cell) then(x.1,.cell) else x
noncomputable def freesOf (names:List (Str×NameKind)):List Str:=(names.filter fun x=>x.2 == .free).map (·.1)
section
variable {G:Gl} {P:Heap} {nms:List (Str×NameKind)} {n:Nat}
theorem relabel_names (Γ:Cx G P nms n) (scope:Scope):(relabel scope Γ.env).names=relab nms scope.names:=by
 refine List.map_congr_left fun x _=>?_
 have hk:(Γ.env.scope.kind == ScopeKind.function)=true:=by rw[Γ.eok.kind]; rfl
 have hn:Γ.env.kindOf x.1=nms.lookup x.1:=by unfold Env.kindOf; rw[Γ.eok.names]
 simp only[hk,hn,Bool.and_true]
theorem closure_ (Γ:Cx G P nms n) {scope:Scope} (h:∀x∈scope.names,x.2=.free→(Γ.env.cells.lookup x.1).isSome) :
  ∃cl,closureFor scope Γ.env=pure cl∧∀x,x∈freesOf scope.names→cl.lookup x=Γ.env.cells.lookup x:=by
 unfold closureFor freesOf
 have key:∀(names:List (Str×NameKind)) (acc:List (Str×Addr)),(∀x∈names,x.2=.free→(Γ.env.cells.lookup x.1).isSome)→(∀p∈acc,Γ.env.cells.lookup p.1=some p.2) →
   ∃cl,(forIn names acc fun x (r:List (Str×Addr))=>if(x.2 == .free)=true then do
     let a ←cellOf Γ.env x.1
     pure (ForInStep.yield ((x.1,a)::r)) else pure (ForInStep.yield r))=(pure cl:Sem (List (Str×Addr)))∧(∀p∈cl,Γ.env.cells.lookup p.1=some p.2)∧(∀x,x∈(names.filter fun x=>x.2 == .free).map (·.1)∨x∈acc.map (·.1)→x∈cl.map (·.1)):=by
  intro names
  induction names with
  | nil=>exact fun acc _ ha=>⟨acc,rfl,ha,fun x hx=>by rcases hx with hx|hx; simp at hx; exact hx⟩
  | cons x r ih=>
   intro acc hf ha
   rw[List.forIn_cons]
   by_cases hx:(x.2 == NameKind.free)=true
   ·refine E1A1 (Option.isSome_iff_exists.mp (hf x List.mem_cons_self (by exact of_decide_eq_true hx))) fun c hc=>?_
    obtain⟨cl,h1,h2,h3⟩:=ih ((x.1,c)::acc) (fun y hy=>hf y (List.mem_cons_of_mem _ hy)) (fun p hp=>by
     rcases List.mem_cons.mp hp with rfl|hp
     ·exact hc
     ·exact ha p hp)
    refine⟨cl,?_,h2,fun y hy=>h3 y ?_⟩
    ·have:cellOf Γ.env x.1=pure c:=by unfold cellOf; rw[hc]
     rw[if_pos hx,this]
     exact h1
    ·rw[List.filter_cons_of_pos (by exact hx)] at hy
     simp only[List.map_cons,List.mem_cons] at hy ⊢
     rcases hy with(rfl|hy)|hy
     ·exact .inr (.inl rfl)
     ·exact .inl hy
     ·exact .inr (.inr hy)
   ·refine E1A3 (ih acc (fun y hy=>hf y (List.mem_cons_of_mem _ hy)) ha) fun cl h1 h2 h3=>?_
    refine⟨cl,?_,h2,fun y hy=>h3 y ?_⟩
    ·rw[if_neg hx]; exact h1
    ·rw[List.filter_cons_of_neg (by exact hx)] at hy
     exact hy
 refine E1A3 (key scope.names [] h (by simp)) fun cl h1 h2 h3=>?_
 refine⟨cl,?_,fun x hx=>?_⟩
 ·have e:(forIn scope.names ([]:List (Str×Addr)) fun x (r:List (Str×Addr))=>match x with
    | (name,kind)=>if(kind == NameKind.free)=true then do
     let a ←cellOf Γ.env name
     pure (ForInStep.yield ((name,a)::r)) else pure (ForInStep.yield r))=(pure cl:Sem (List (Str×Addr))):=h1
  simp only[e,pure_bind] <;> rfl
 ·have hm:=h3 x (.inl hx)
  refine E1A2 (List.mem_map.mp hm) fun p hp ee2=>?_
  subst ee2
  rcases hl:cl.lookup p.1 with _|c
  ·exact absurd (List.lookup_eq_none_iff.mp hl p hp) (by simp)
  ·exact(h2 _ (mem_of_lookup hl)).symm
noncomputable def Cx.comp (Γ:Cx G P nms n) (scope:Scope) (cl:List (Str×Addr)) (C:Addr) (hk:scope.kind=.function) (hdb:(relab nms scope.names).lookup ("__debug__" : Str)=none):Cx G P (relab nms scope.names) n:=
 ⟨compEnvC scope cl C Γ.env,C,Γ.A,Γ.src,⟨rfl,hk,relabel_names Γ scope,Γ.eok.globals,Γ.eok.builtins⟩,hdb,Γ.rm,[],by simp,by simp,List.nodup_nil⟩
structure Tsts {G:Gl} {P:Heap} {nms:List (Str×NameKind)} {n:Nat} (Γ:Cx G P nms n) (m:Str→Option Value) (led:List (Addr×Asn)) (ifs:List Expr) (b:Bool):Prop where
 run:∀(Q:Bool→Shared→Prop) (s:Shared),Γ.at_ m led s→(∀s',Γ.at_ m led s'→Q b s') →
  Γ.wp (forIn ifs true fun c r=>if r=true then do let ok ←isTrue c Γ.env (eval c Γ.env); pure (ForInStep.yield ok) else pure (ForInStep.yield r)) Q s
theorem Tsts.nil {Γ:Cx G P nms n} {m:Str→Option Value} {led:List (Addr×Asn)}:Tsts Γ m led [] true:=⟨fun _ s H k=>wpAny_tests_nil (k s H)⟩
theorem Tsts.one {Γ:Cx G P nms n} {m:Str→Option Value} {led:List (Addr×Asn)} {c:Expr} {b:Bool} (h:Tst Γ m led c b):Tsts Γ m led [c] b:=⟨fun _ s H k=>wpAny_tests_one (h.run _ s H k)⟩
theorem newEnv_ {Γ:Cx G P nms n} {scope:Scope} {cl:List (Str×Addr)} {led:List (Addr×Asn)} {s:Shared} {A:Around} {E:Value→Shared→Prop} {Q:Env→Shared→Prop} (hcell:∀y∈scope.names,y.2≠.cell) (hk:scope.kind=.function)
  (H:At G.σ P led s) (h:∀C cenv s',{ cenv with scope:=relabel scope Γ.env }=compEnvC scope cl C Γ.env→At G.σ P ((C,Asn.ns fun _=>none)::led) s'→Q cenv s') :
  wpAny (model G.prog G.w) A (newFunctionEnv scope Γ.env.globals cl [] Γ.env.qual none .none (some Γ.env)) Q E s:=by
 refine wpAny_newFunctionEnv hcell (by simp) (fun h' hn hs=>?_) hk
 refine h s.heap.objs.size _ _ rfl ?_
 refine E3A2 (hn) fun o es ep e r=>?_
 clear hn
 have H1:=At.push H (R:=Asn.eq { cls:=.type "dict",data:=.dict #[] }) rfl rfl
 exact H1.upd (tk:=_) .head hs ⟨o,e,es,ep,by exact r⟩
end
end
end Mine
namespace Mine
noncomputable section
structure Lsrc (prog:Program) (w:World) (σ:Shared) (P:Heap) (led:List (Addr×Asn)) (r:Addr) (T:String) (N:Nat) (R:Nat→Asn) (need:Heap→Heap→Prop) (Pv:Heap→Nat→Value→Prop):Prop where
 type:∀ {s:Shared} {led':List (Addr×Asn)} {P':Heap},Sub P P'→At σ P' led' s→(∀x∈led,x∈led')→s.TypeIs (.ref r) T
 notList:(Value.type T == Value.type "list")=false
 notTuple:(Value.type T == Value.type "tuple")=false
 off:∀ {s:Shared},At σ P led s→r<s.heap.objs.size
 hint:∀ {A:Around} {E:Value→Shared→Prop} {s:Shared} {Q:Bool→Shared→Prop},s.TypeIs (.ref r) T→Q false s→wpAny (model prog w) A (Builtin.List.listLengthHint (.ref r)) Q E s
 iter:∀ {A:Around} {E:Value→Shared→Prop} {s:Shared} {led':List (Addr×Asn)} {Q:Value→Shared→Prop},At σ P led' s→(∀x∈led,x∈led')→(∀I s',It prog w σ I N R need Pv→At σ P ((I,R 0)::led') s'→Q (.ref I) s')→wpAny (model prog w) A (pyIter (.ref r)) Q E s
 need:∀ {s:Shared} {led':List (Addr×Asn)} {P':Heap},Sub P P'→At σ P' led' s→(∀x∈led,x∈led')→need P' s.heap
section
variable {prog:Program} {w:World} {σ:Shared} {P:Heap} {led led':List (Addr×Asn)} {s:Shared} {A:Around} {E:Value→Shared→Prop} {I S r:Addr} {N:Nat} {R:Nat→Asn} {need:Heap→Heap→Prop}
 {α:Type} {V:Rep α} {xs:List α} {T:String}
theorem extend_loop {RR:Result→Shared→Prop} (hI:It prog w σ I xs.length R need (fun P i v=>∃x,xs[i]? = some x∧V.is P x v)) (hh:A.handled=none) (hz:xs.length≤1000) (res:Value)
  (hn:∀P' led' s',Sub P P'→At σ P' (led'++led) s'→need P' s'.heap) (hR:∀P' s',Sub P P'→At σ P' ((S,Asn.list V xs)::led) s'→RR (.ok (.ret res)) s') :
  ∀(k i:Nat) (P1:Heap) (s:Shared),xs.length - i=k→i≤xs.length→Sub P P1→At σ P1 ((I,R i)::(S,Asn.list V (xs.take i))::led) s→codeAny (model prog w) A (.builtin "list.extend.loop" ⟨[.ref S,.ref I,res],[]⟩) RR s
 | 0,i,P1,s,hk,hi,k1,H=>by
  have hin:i=xs.length:=by exact sb7 (by assumption) (by assumption)
  subst hin
  refine codeAny_builtin F.entry_extend_loop ?_
  rw[Around.under_plainId F.plain_extend_loop _]
  refine wpAny_bind (hI.done (A:=A.in1) hh H (hn P1 [(I,R xs.length),(S,Asn.list V (xs.take xs.length))] s k1 H) fun s' H'=>wpAny_pure (hR P1 s' k1 ?_))
  rw[List.take_length] at H'
  exact H'
 | k+1,i,P1,s,hk,hi,k1,H=>by
  have hlt:i<xs.length:=by exact sb0 (by assumption)
  refine codeAny_builtin F.entry_extend_loop ?_
  rw[Around.under_plainId F.plain_extend_loop _]
  refine wpAny_bind (hI.item (A:=A.in1) hlt H .head (hn P1 [(I,R i),(S,Asn.list V (xs.take i))] s k1 H) fun P2 v s2 k2 zz7 H2=>E1A2 zz7 fun x hx hv=>?_)
  refine E2A2 (H2.list (.tail _ (.head _))) fun vs n e f=>?_
  have hl:=f.length
  refine wpAny_bind ?_
  refine wpAny_updateSeq e rfl (wpAny_pure ⟨plainId_quiet F.plain_extend_loop _,extend_loop hI hh hz res hn hR k (i+1) P2 _ (by exact sb1 (by assumption)) hlt (k1.trans k2)
   (H2.upd (tk:=s2.toks) (.tail .head) (Heap.SameBut.update ..) ⟨_,Heap.get?_update_self _ e rfl,vs.push v,_,rfl,?_⟩)⟩) (by rw[sizeLine_eq]; simp at hl; lia) (by rw[sizeLine_eq,Array.size_push]; simp at hl; lia)
  simp only[Array.toList_push,List.take_add_one,hx]
  exact f.snoc hv
theorem extend_with {RR:Result→Shared→Prop} (L:Lsrc prog w σ P led r T xs.length R need (fun P i v=>∃x,xs[i]? = some x∧V.is P x v)) (hh:A.handled=none) (hz:xs.length≤1000) (res:Value) (hSr:S≠r)
  (H2:At σ P ((S,Asn.list V [])::led) s) (hR:∀P' s',Sub P P'→At σ P' ((S,Asn.list V xs)::led) s'→RR (.ok (.ret res)) s') :
  wpAny (model prog w) A.in1 (Builtin.List.listExtendWith (.ref S) (.ref r) res) (fun fin s'=>match fin with|.done f=>RR (.ok f) s'|.again c'=>c'.quiet=true∧codeAny (model prog w) A c' RR s') E s:=by
 refine wpAny_bind (wpAny_typeOf (T:=T) (L.type (Sub.refl P) H2 fun x hx=>.tail _ hx) ?_)
 have h1:Builtin.List.listSameRef (.ref S) (.ref r)=false:=by simp[Builtin.List.listSameRef,hSr]
 simp only[h1,L.notList,L.notTuple,Bool.or_false,Bool.false_eq_true,if_false]
 refine wpAny_bind (L.iter H2 (fun x hx=>.tail _ hx) fun I s2 hI H3=>?_)
 have key:∀s3,At σ P ((I,R 0)::(S,Asn.list V [])::led) s3→codeAny (model prog w) A (.builtin "list.extend.loop" ⟨[.ref S,.ref I,res],[]⟩) RR s3:=fun s3 H4=>
  extend_loop (A:=A) hI hh hz res (fun P' led' s' k H'=>L.need k H' fun x hx=>List.mem_append_right _ hx) (fun P' s' k H'=>hR P' s' k H') xs.length 0 P s3 rfl (Nat.zero_le _) (Sub.refl P) H4
 refine wpAny_bind (wpAny_holding (L.hint (L.type (Sub.refl P) H3 fun x hx=>.tail _ (.tail _ hx)) ?_))
 refine wpAny_ite_split (fun _=>?_) (fun _=>wpAny_pure ⟨plainId_quiet PySem.F.plain_extend_loop _,key s2 H3⟩)
 refine wpAny_bind (wpAny_rule (wpAny_bind ?_))
 refine E2A2 (H3.list (.tail _ (.head _))) fun vs n e f=>?_
 have hl:=f.length
 refine wpAny_bind (wpAny_updateSeq e rfl ?_ (by rw[sizeLine_eq]; simp at hl; lia) (by rw[sizeLine_eq,Array.size_push]; simp at hl; lia))
 have e2:=Heap.get?_update_self (Obj.mapSeq (·.push Value.none)) e rfl
 refine wpAny_updateSeq e2 rfl (wpAny_pure ⟨plainId_quiet PySem.F.plain_extend_loop _,key _ ?_⟩) (by rw[sizeLine_eq,Array.size_push]; simp at hl; lia) (by rw[sizeLine_eq,Array.size_pop,Array.size_push]; simp at hl; lia)
 have e3:∃n',Obj.mapSeq (·.pop) (Obj.mapSeq (·.push Value.none) (listOf vs n))=listOf vs n':=⟨_,by
  simp only[Obj.mapSeq,Array.pop_push]
  rfl⟩
 refine E1A1 (e3) fun n' e3=>?_
 exact H3.upd (tk:=s2.toks) (.tail .head) ((Heap.SameBut.update ..).trans (Heap.SameBut.update ..)) ⟨_,Heap.get?_update_self _ e2 rfl,vs,n',e3,f⟩
theorem r_listOf {Q:Value→Shared→Prop} (L:Lsrc prog w σ P led r T xs.length R need (fun P i v=>∃x,xs[i]? = some x∧V.is P x v)) (hh:A.handled=none) (hz:xs.length≤1000) (H:At σ P led s)
  (h:∀P' q s',Sub P P'→At σ P' ((q,Asn.list V xs)::led) s'→Q (.ref q) s'):wpAny (model prog w) A (call (.type "list") [.ref r]) Q E s:=by
 refine callType_codes (Q₁:=fun obj s₁=>obj=.ref s.heap.objs.size∧s₁={ s with heap:=s.heap.push { cls:=.type "list",data:=.seq #[] } }) PySem.F.called_list (PySem.F.typeCall_list_1 _) PySem.F.entry_list_init
  (code_list_new _ ⟨rfl,rfl⟩) fun obj s₁ h₁=>?_
 refine E0A2 (h₁) fun ee1 ee2=>?_
 clear h₁
 subst ee1 ee2
 have hSr:s.heap.objs.size≠r:=Nat.ne_of_gt (L.off H)
 have H1:=At.push H (R:=Asn.list V []) (o:=listOf #[] 0) ⟨#[],0,rfl,.nil⟩ rfl
 have hS:(s.heap.push { cls:=.type "list",data:=.seq #[] }).get? s.heap.objs.size=some { cls:=.type "list",data:=.seq #[] }:=Heap.get?_push_size _ rfl
 refine⟨⟨_,hS,rfl⟩,PySem.F.args_list_init_2 _ _,?_⟩
 generalize s.heap.objs.size=S at *
 show wpAny _ _ (do let old ←Builtin.List.listItems (.ref S); Builtin.List.listUpdate (.ref S) (fun _=>#[]); letGo old.toList.reverse; Builtin.List.listExtendWith (.ref S) (.ref r) .none) _ _ _
 refine wpAny_bind ?_
 refine wpAny_bind (wpAny_seqItems hS rfl (wpAny_pure ?_))
 refine wpAny_bind (wpAny_updateSeq hS rfl ?_)
 have H2:=H1.upd (R':=Asn.list V []) (tk:=s.toks) .head (Heap.SameBut.update (f:=Obj.mapSeq (fun _=>(#[]:Array Value))) ..) ⟨_,Heap.get?_update_self _ hS rfl,#[],_,rfl,.nil⟩
 refine wpAny_bind (wpAny_letGo ?_)
 exact extend_with (A:=A.in1) L hh hz .none hSr H2 fun P' s' k H'=>⟨rfl,h P' S s' k H'⟩
end
end
end Mine
namespace Mine
noncomputable section
theorem Upd.ex {d:Addr} {R:Asn} (R':Asn) {l:List (Addr×Asn)} (h:(d,R)∈l):∃l',Upd d R R' l l':=by
 induction l with
 | nil=>contradiction
 | cons p r ih=>
  cases h with
  | head=>exact⟨_,.head⟩
  | tail _ h=>exact E1A1 (ih h) fun l' u=>⟨_,.tail u⟩
theorem Upd.inv {d:Addr} {R R':Asn} {l l':List (Addr×Asn)} (U:Upd d R R' l l'):Upd d R' R l' l:=by
 induction U with
 | head=>exact .head
 | tail _ ih=>exact .tail ih
theorem Upd.other {d a:Addr} {R R' S:Asn} {l l':List (Addr×Asn)} (U:Upd d R R' l l') (hm:(a,S)∈l) (hne:a≠d):(a,S)∈l':=by
 induction U with
 | head=>
  cases hm with
  | head=>exact absurd rfl hne
  | tail _ h=>exact .tail _ h
 | tail _ ih=>
  cases hm with
  | head=>exact .head _
  | tail _ h=>exact .tail _ (ih h)
section
variable {prog:Program} {w:World} {σ:Shared} {P:Heap} {led led':List (Addr×Asn)} {s:Shared} {A:Around} {E:Value→Shared→Prop} {d v:Addr}
 {κ β:Type} {di:DecidableEq κ} {D:DKind prog w κ} {V:Rep β} {ps:List (κ×β)} {K:Frag} {x:Option Nat}
theorem At.lt {a:Addr} {R:Asn} (H:At σ P led s) (hm:(a,R)∈led):a<s.heap.objs.size:=E1A2 (H.ld.get hm) fun _ e _=>Heap.lt_size e
theorem i_items' {vw:Addr} {ep:Nat} {Q:Value→Shared→Prop} (H:At σ P led s) (hv:(vw,View "dict_items" d)∈led) (hm:(d,Asn.dictX D V ps (some ep))∈led)
  (h:∀I s',At σ P ((I,ItemIt d ps.length ep 0)::led) s'→Q (.ref I) s'):wpAny (model prog w) A (pyIter (.ref vw)) Q E s:=
 i_items (x:=some ep) H hv hm fun I ep' s' he hn H'=>by have:=he ep rfl; subst this; exact h I s' H'
theorem r_list_dict {Q:Value→Shared→Prop} (hh:A.handled=none) (X:Src K P) (hz:ps.length≤1000) (H:At σ P led s) (hm:(d,Asn.dict D V ps)∈led)
  (h:∀P' q s',Sub P P'→At σ P' ((q,Asn.list D.rep (ps.map (·.1)))::led) s'→Q (.ref q) s'):wpAny (model prog w) A (call (.type "list") [.ref d]) Q E s:=by
 refine E1A1 (At.pin H hm) fun ep hp=>?_
 obtain⟨led',U⟩:=Upd.ex (Asn.dictX D V ps (some ep)) hm
 have H1:=hp led' U
 have hm':=U.mem'
 refine r_listOf (V:=D.rep) (xs:=ps.map (·.1)) (T:="dict") (R:=KeyIt d ps.length ep) (need:=needD d D V ps ep) ⟨fun k H2 hs=>H2.dictT (hs _ hm'),by decide,by decide,fun H2=>H2.lt hm',fun hT hq=>kdl_hint_dict hT hq,
  fun {A E s led'' Q} H2 hs hq=>i_dict (x:=some ep) H2 X (hs _ hm') fun I ep' s' he hn H'=>?_,fun k H2 hs=>At.raw H2 (hs _ hm')⟩ hh (by simpa using hz) H1 fun P' q s' k H2=>h P' q s' k (H2.unpin (.tail U.inv))
 have:=he ep rfl
 subst this
 refine hq I s' ?_ H'
 have e:(fun(P:Heap) (i:Nat) (v:Value)=>∃x,(ps.map (·.1))[i]? = some x∧D.rep.is P x v)=fun P i v=>∃p,ps[i]? = some p∧D.rep.is P p.1 v:=by
  funext P i v
  simp only[List.getElem?_map,Option.map_eq_some_iff,eq_iff_iff]
  exact⟨fun⟨x,⟨p,hp,e⟩,hx⟩=>⟨p,hp,e▸hx⟩,fun zz54=>E1A2 zz54 fun p hp hx=>⟨p.1,⟨p,hp,rfl⟩,hx⟩⟩
 simp only[e,show(ps.map (·.1)).length=ps.length by exact List.length_map ..]
 exact It.keys
theorem r_list_keys {vw:Addr} {Q:Value→Shared→Prop} (hh:A.handled=none) (hz:ps.length≤1000) (H:At σ P led s) (hv:(vw,View "dict_keys" d)∈led) (hm:(d,Asn.dict D V ps)∈led)
  (h:∀P' q s',Sub P P'→At σ P' ((q,Asn.list D.rep (ps.map (·.1)))::led) s'→Q (.ref q) s'):wpAny (model prog w) A (call (.type "list") [.ref vw]) Q E s:=by
 obtain⟨ep,hp⟩:=At.pin H hm
 obtain⟨led',U⟩:=Upd.ex (Asn.dictX D V ps (some ep)) hm
 have H1:=hp led' U
 have hm':=U.mem'
 have hne:vw≠d:=fun e=>by
  subst e
  refine E1A2 (H.ld.get hv) fun o ho ee43=>?_
  subst ee43
  refine E2A2 (H.dict hm) fun es n e2 _=>?_
  rw[ho] at e2; exact absurd e2 (by simp[dictOf])
 have hv':=U.other hv hne
 refine r_listOf (V:=D.rep) (xs:=ps.map (·.1)) (T:="dict_keys") (R:=KeyIt d ps.length ep) (need:=needD d D V ps ep) ⟨fun k H2 hs=>E1A2 (H2.ld.get (hs _ hv')) fun o ho e=>⟨o,ho,by rw[e]⟩,by decide,by decide,fun H2=>H2.lt hv',fun hT hq=>kdl_hint_keys hT hq,
  fun {A E s led'' Q} H2 hs hq=>i_keys (x:=some ep) H2 (hs _ hv') (hs _ hm') fun I ep' s' he hn H'=>?_,fun k H2 hs=>At.raw H2 (hs _ hm')⟩ hh (by simpa using hz) H1 fun P' q s' k H2=>h P' q s' k (H2.unpin (.tail U.inv))
 have:=he ep rfl
 subst this
 refine hq I s' ?_ H'
 have e:(fun(P:Heap) (i:Nat) (v:Value)=>∃x,(ps.map (·.1))[i]? = some x∧D.rep.is P x v)=fun P i v=>∃p,ps[i]? = some p∧D.rep.is P p.1 v:=by
  funext P i v
  simp only[List.getElem?_map,Option.map_eq_some_iff,eq_iff_iff]
  exact⟨fun⟨x,⟨p,hp,e⟩,hx⟩=>⟨p,hp,e▸hx⟩,fun zz34=>E1A2 zz34 fun p hp hx=>⟨p.1,⟨p,hp,rfl⟩,hx⟩⟩
 simp only[e,show(ps.map (·.1)).length=ps.length by exact List.length_map ..]
 exact It.keys
theorem Lsrc.items {vw:Addr} {ep:Nat} (hv':(vw,View "dict_items" d)∈led) (hm':(d,Asn.dictX D V ps (some ep))∈led):Lsrc prog w σ P led vw "dict_items" ps.length (ItemIt d ps.length ep) (needD d D V ps ep) (fun P i v=>∃p,ps[i]? = some p∧(Rep.pair D.rep V).is P p v):=
 ⟨fun k H2 hs=>E1A2 (H2.ld.get (hs _ hv')) fun o ho e=>⟨o,ho,by rw[e]⟩,by decide,by decide,fun H2=>H2.lt hv',fun hT hq=>kdx_hint hT hq,
  fun {A E s led'' Q} H2 hs hq=>i_items' H2 (hs _ hv') (hs _ hm') fun I s' H'=>hq I s' It.items H',fun k H2 hs=>At.raw H2 (hs _ hm')⟩
theorem view_ne {T:String} {vw:Addr} {x:Option Nat} (H:At σ P led s) (hv:(vw,View T d)∈led) (hm:(d,Asn.dictX D V ps x)∈led):vw≠d:=fun e=>by
 subst e
 refine E1A2 (H.ld.get hv) fun o ho ee20=>?_
 subst ee20
 refine E2A2 (H.dict hm) fun es n e2 _=>?_
 rw[ho] at e2; exact absurd e2 (by simp[dictOf])
theorem r_list_items {vw:Addr} {Q:Value→Shared→Prop} (hh:A.handled=none) (hz:ps.length≤1000) (H:At σ P led s) (hv:(vw,View "dict_items" d)∈led) (hm:(d,Asn.dict D V ps)∈led)
  (h:∀P' q s',Sub P P'→At σ P' ((q,Asn.list (Rep.pair D.rep V) ps)::led) s'→Q (.ref q) s'):wpAny (model prog w) A (call (.type "list") [.ref vw]) Q E s:=by
 obtain⟨ep,hp⟩:=At.pin H hm
 obtain⟨led',U⟩:=Upd.ex (Asn.dictX D V ps (some ep)) hm
 have H1:=hp led' U
 have hm':=U.mem'
 have hne:vw≠d:=view_ne H hv hm
 have hv':=U.other hv hne
 exact r_listOf (V:=Rep.pair D.rep V) (Lsrc.items hv' hm') hh hz H1 fun P' q s' k H2=>h P' q s' k (H2.unpin (.tail U.inv))
theorem r_keys {Q:Value→Shared→Prop} (X:Src K P) (H:At σ P led s) (hm:(d,Asn.dictX D V ps x)∈led) (h:∀vw s',At σ P ((vw,View "dict_keys" d)::led) s'→Q (.ref vw) s') :
  wpAny (model prog w) A (call (.builtin "dict.keys") [.ref d]) Q E s:=by
 have hT:=H.dictT hm
 refine wpAny_call_entry F.slot_dict_keys hT F.entry_dict_keys ?_ (F.args_dict_keys_1 _)
 refine wpAny_bind ?_
 refine wpAny_bind (wpAny_notOrdered_dict hT ?_)
 refine wpAny_pure ?_
 show wpAny _ _ (Builtin.Dict.showsAll d >>= _) _ _ s
 unfold Builtin.Dict.showsAll
 rw[if_neg (by rw[H.noSys X hm]; exact Bool.false_ne_true)]
 exact wpAny_bind (wpAny_pure (wpAny_bind (wpAny_newObj_type (wpAny_pure ⟨_,rfl,h _ _ (H.push (R:=View "dict_keys" d) rfl rfl)⟩))))
theorem r_items {Q:Value→Shared→Prop} (X:Src K P) (H:At σ P led s) (hm:(d,Asn.dictX D V ps x)∈led) (h:∀vw s',At σ P ((vw,View "dict_items" d)::led) s'→Q (.ref vw) s') :
  wpAny (model prog w) A (call (.builtin "dict.items") [.ref d]) Q E s:=by
 have hT:=H.dictT hm
 refine wpAny_call_entry F.slot_dict_items hT F.entry_dict_items ?_ (F.args_dict_items_1 _)
 refine wpAny_bind ?_
 refine wpAny_bind (wpAny_notOrdered_dict hT ?_)
 refine wpAny_pure ?_
 show wpAny _ _ (Builtin.Dict.showsAll d >>= _) _ _ s
 unfold Builtin.Dict.showsAll
 rw[if_neg (by rw[H.noSys X hm]; exact Bool.false_ne_true)]
 exact wpAny_bind (wpAny_pure (wpAny_bind (wpAny_newObj_type (wpAny_pure ⟨_,rfl,h _ _ (H.push (R:=View "dict_items" d) rfl rfl)⟩))))
end
end
end Mine
namespace Mine
noncomputable section
section
variable {G:Gl} {P P':Heap} {nms:List (Str×NameKind)} {n:Nat} {Γ:Cx G P nms n} {m:Str→Option Value} {led led' led0:List (Addr×Asn)} {e e1 e2 iter target:Expr} {x y a b:Str} {v:Value} {pos p1 p2 p3 pf:Pos}
 {rest body:List Stmt} {Q Q':Flow→Shared→Prop} {α β κ:Type} {A:Rep α} {B:Rep β} {u:α} {w:β} {di:DecidableEq κ} {D:DKind G.prog G.w κ} {V:Rep β} {ps:List (κ×β)} {xs:List β} {d l:Addr} {N:Nat}
 {R R1 R2:Heap→Value→List (Addr×Asn)→Prop}
theorem EvG.callT1 {T:String} (hf:Ev Γ m led (.Name x pf) (Is (.type T))) (h1:EvG Γ m led e R1)
  (h2:∀P' (k:Sub P P') v l (Q:Value→Shared→Prop) (s:Shared),R1 P' v l→(Γ.up k).at_ m l s→(∀P'' v' l' s' (k':Sub P' P''),R P'' v' l'→((Γ.up k).up k').at_ m l' s'→Q v' s')→Γ.wp (call (.type T) [v]) Q s)
  (he:∀env,eval (.Call (.Name x pf) [e] [] pos) env=(do callWith pos (←eval (.Name x pf) env) [] (backTo pos (starEach [e] env)) (backToKw pos (keywordEach [] env))))
  (hs:∀env,starEach [e] env=(false,eval e env)::starEach [] env):EvG Γ m led (.Call (.Name x pf) [e] [] pos) R:=
 ⟨fun Q s H h=>Call_ (hf.run _ s H fun u s1 hu H1=>by
  subst hu
  exact PyProof.Rows.callWith_type1 (spliced_more (h1.run _ s1 H1 fun P' v l s2 k hv H2=>spliced_none (h2 P' k v l Q s2 hv H2 fun P'' v' l' s' k' hv' H'=>h P'' v' l' s' (k.trans k') hv' H')) (hs _)) (hs _) rfl) (he _)⟩
theorem EvG.callB1 {id:String} (hf:Ev Γ m led (.Name x pf) (Is (.builtin id))) (h1:EvG Γ m led e R1)
  (h2:∀P' (k:Sub P P') v l (Q:Value→Shared→Prop) (s:Shared),R1 P' v l→(Γ.up k).at_ m l s→(∀P'' v' l' s' (k':Sub P' P''),R P'' v' l'→((Γ.up k).up k').at_ m l' s'→Q v' s')→Γ.wp (call (.builtin id) [v]) Q s)
  (he:∀env,eval (.Call (.Name x pf) [e] [] pos) env=(do callWith pos (←eval (.Name x pf) env) [] (backTo pos (starEach [e] env)) (backToKw pos (keywordEach [] env))))
  (hs:∀env,starEach [e] env=(false,eval e env)::starEach [] env):EvG Γ m led (.Call (.Name x pf) [e] [] pos) R:=
 ⟨fun Q s H h=>Call_ (hf.run _ s H fun u s1 hu H1=>by
  subst hu
  exact PyProof.Rows.callWith_builtin1 (spliced_more (h1.run _ s1 H1 fun P' v l s2 k hv H2=>spliced_none (h2 P' k v l Q s2 hv H2 fun P'' v' l' s' k' hv' H'=>h P'' v' l' s' (k.trans k') hv' H')) (hs _)) (hs _) rfl) (he _)⟩
theorem EvG.keys {pl:Sem Bool} {x:Option Nat} (h1:Ev Γ m led e1 (Is (.ref d))) (hm:(d,Asn.dictX D V ps x)∈led)
  (he:eval (.Call (.Attribute e1 "keys" p1) [] [] pos) Γ.env=(do
   let ov ←eval e1 Γ.env
   standAt p1.atName
   let (f,first) ←holding [ov] (getMethod ov "keys" pl)
   callWith pos f first (backTo pos (starEach [] Γ.env)) [])):EvG Γ m led (.Call (.Attribute e1 "keys" p1) [] [] pos) fun P' v l=>P'=P∧∃vw,v=.ref vw∧l=(vw,View "dict_keys" d)::led:=
 ⟨fun Q s H h=>MethodCall_ (pl:=pl) (h1.run _ s H fun u s1 hu H1=>by
  subst hu
  exact m_dict (H1:At _ _ _ _) (Γ.tl hm) PySem.F.slot_dict_keys PySem.F.type_dict_keys (PyProof.Rows.callWith_method0
   (r_keys Γ.src (H1:At _ _ _ _) (Γ.tl hm) fun vw s' H'=>h P _ _ s' (Sub.refl P) ⟨rfl,vw,rfl,rfl⟩ (H'.perm List.perm_middle)))) he⟩
theorem EvG.items {pl:Sem Bool} {x:Option Nat} (h1:Ev Γ m led e1 (Is (.ref d))) (hm:(d,Asn.dictX D V ps x)∈led)
  (he:eval (.Call (.Attribute e1 "items" p1) [] [] pos) Γ.env=(do
   let ov ←eval e1 Γ.env
   standAt p1.atName
   let (f,first) ←holding [ov] (getMethod ov "items" pl)
   callWith pos f first (backTo pos (starEach [] Γ.env)) [])):EvG Γ m led (.Call (.Attribute e1 "items" p1) [] [] pos) fun P' v l=>P'=P∧∃vw,v=.ref vw∧l=(vw,View "dict_items" d)::led:=
 ⟨fun Q s H h=>MethodCall_ (pl:=pl) (h1.run _ s H fun u s1 hu H1=>by
  subst hu
  exact m_dict (H1:At _ _ _ _) (Γ.tl hm) PySem.F.slot_dict_items PySem.F.type_dict_items (PyProof.Rows.callWith_method0
   (r_items Γ.src (H1:At _ _ _ _) (Γ.tl hm) fun vw s' H'=>h P _ _ s' (Sub.refl P) ⟨rfl,vw,rfl,rfl⟩ (H'.perm List.perm_middle)))) he⟩
theorem EvG.listKeys (hf:Ev Γ m led (.Name x pf) (Is (.type "list"))) (h1:EvG Γ m led e fun P' v l=>P'=P∧∃vw,v=.ref vw∧l=(vw,View "dict_keys" d)::led) (hm:(d,Asn.dict D V ps)∈led) (hz:ps.length≤1000)
  (he:∀env,eval (.Call (.Name x pf) [e] [] pos) env=(do callWith pos (←eval (.Name x pf) env) [] (backTo pos (starEach [e] env)) (backToKw pos (keywordEach [] env))))
  (hs:∀env,starEach [e] env=(false,eval e env)::starEach [] env):EvG Γ m led (.Call (.Name x pf) [e] [] pos) fun _ v l=>∃q,v=.ref q∧l=(q,Asn.list D.rep (ps.map (·.1)))::led:=
 EvG.callT1 hf h1 (fun P' k v l Q s ⟨e1,vw,e2,e3⟩ H h=>by
  subst e1 e2 e3
  exact r_list_keys Γ.rm.handled hz (H:At _ _ _ _) (Γ.tl (.head _)) (Γ.tl (.tail _ hm)) fun P'' q s' k' H'=>h P'' _ ((q,Asn.list D.rep (ps.map (·.1)))::led) s' k' ⟨q,rfl,rfl⟩
   ((H'.perm List.perm_middle).subl ((List.Sublist.refl _).append ((List.sublist_cons_self _ _).cons_cons _)))) he hs
theorem EvC.dict0 {κ β:Type} {di:DecidableEq κ} (D:DKind G.prog G.w κ) (V:Rep β):EvG Γ m led (.Dict [] [] pos) fun P' v l=>P'=P∧∃q,v=.ref q∧l=(q,Asn.dict D V [])::led:=
 ⟨fun Q s H h=>wpAny_Dict_empty (h P _ _ _ (Sub.refl P) ⟨rfl,s.heap.objs.size,rfl,rfl⟩ (At.perm (At.push H (R:=Asn.dict D V []) (o:=dictOf [] 0) ⟨[],0,⟨rfl,fun _ q=>by cases q⟩,.nil,List.nodup_nil⟩ rfl) List.perm_middle))⟩
theorem St.unpack {t1 t2:Expr} {k:Nat} {K1:Value→(Str→Option Value)→Prop} {K2:Value→(Str→Option Value)→(Str→Option Value)→Prop} (h1:EvG Γ m led e R)
  (hv:∀P' v l,R P' v l→(Rep.pair A B).is P' (u,w) v)
  (ha:∀P' (kk:Sub P P') l v',Asg (Γ.up kk) m l t1 v' (K1 v')) (hb:∀P' (kk:Sub P P') l m' v',Asg (Γ.up kk) m' l t2 v' (K2 v' m'))
  (hs:∀env,assignEach [t1,t2] env=[(false,PySem.assign t1 env),(false,PySem.assign t2 env)]) (hw:∀env,swapsWithSole [.Tuple [t1,t2] k p1] e pos.line env=pure false) (hw':∀env,swappedStores [.Tuple [t1,t2] k p1] e env=pure none)
  (h:∀P' v l v1 v2 m1 m2 (kk:Sub P P'),R P' v l→A.is P' u v1→B.is P' w v2→K1 v1 m1→K2 v2 m1 m2→St (Γ.up kk) m2 l rest Q) :
  St Γ m led (.Assign [.Tuple [t1,t2] k p1] e pos::rest) Q:=
 ⟨fun s H=>wpAny_execs_cons (PyProof.Rows.Assign_Tuple (h1.run _ s H fun P' v l s1 kk hR H1=>
  (Asg.two (Γ:=Γ.up kk) (pos:=p1) (k:=k) (hv _ _ _ hR) (ha P' kk l) (fun m' v'=>hb P' kk l m' v') hs).run _ _ _ s1 Γ.rm.handled H1 fun m2 s2 zz6 H2=>E3A4 zz6 fun v1 v2 m1 hA hB k1 k2=>(h P' v l v1 v2 m1 m2 kk hR hA hB k1 k2).run s2 H2) (hw _) (hw' _))⟩
theorem St.setattrNew {me d C:Addr} {f:Str→Option Value} {k:Nat} (h1:EvG Γ m led e R) (h2:∀P' (kk:Sub P P') l,Ev (Γ.up kk) m l (.Name x p1) (Is (.ref me))) (hme:∀P' v l,R P' v l→(me,Asn.eq (instObj C d))∈l) (hf:f a=none) (O:SetOk G.w C a)
  (hw:∀env,swapsWith e (some (.Attribute (.Name x p1) a p2)) pos.line env=pure false) (hk:k≤1000)
  (U:∀P' v l (kk:Sub P P'),R P' v l→∃led',Upd d (Asn.nsN k f) (Asn.nsN (k+1) (upd f a v)) l led'∧St (Γ.up kk) m led' rest Q) :
  St Γ m led (.Assign [.Attribute (.Name x p1) a p2] e pos::rest) Q:=
 ⟨fun s H=>wpAny_execs_cons (plainObj_wpAny_Assign_Attribute (h1.run _ s H fun P' u l s1 kk hu H1=>(h2 P' kk l).run _ s1 H1 fun o s2 ho H2=>by
  subst ho
  refine E1A2 (U P' u l kk hu) fun led' U' h=>?_
  exact r_setattr_new (H2:At _ _ _ _) (Γ.src.mono kk).K (Γ.tl (hme _ _ _ hu)) (Γ.tu U') hf O.s O.p O.t O.h hk fun s' H'=>h.run s' H') (hw _))⟩
structure ClG {G:Gl} {P:Heap} {nms:List (Str×NameKind)} {n:Nat} (Γ:Cx G P nms n) (led:List (Addr×Asn)) (f:Addr) (args:List Value) (R:Heap→Value→List (Addr×Asn)→Prop):Prop where
 run:∀(m:Str→Option Value) (Q:Value→Shared→Prop) (s:Shared),Γ.at_ m led s→(∀P' v led' s' (k:Sub P P'),R P' v led'→(Γ.up k).at_ m led' s'→Q v s')→Γ.wp (call (.ref f) args) Q s
theorem EvG.meth {me C g:Addr} {f:Str→Option Value} {k:Nat} {es:List Expr} {vs:List Value} {pl:Sem Bool} (h1:Ev Γ m led e (Is (.ref me))) (hme:(me,Asn.eq (instObj C d))∈led) (hd:(d,Asn.nsN k f)∈led) (hf:f a=none)
  (O:MethOk G.w C a g) (h2:Evs Γ m led es vs)
  (hm:eval (.Call (.Attribute e a p1) es [] pos) Γ.env=(do
   let ov ←eval e Γ.env
   standAt p1.atName
   let (f,first) ←holding [ov] (getMethod ov a pl)
   callWith pos f first (backTo pos (starEach es Γ.env)) [])) (h3:ClG Γ led g (.ref me::vs) R) :
  EvG Γ m led (.Call (.Attribute e a p1) es [] pos) R:=
 ⟨fun Q s H h=>MethodCall_ (pl:=pl) (h1.run _ s H fun u s1 hu H1=>by
  subst hu
  exact r_method (H1:At _ _ _ _) Γ.src.K (Γ.tl hme) (Γ.tl hd) hf O.g O.f O.k (callWithK O.c h2 pos H1 fun s2 H2=>h3.run _ _ _ H2 h)) hm⟩
theorem r_make {prog:Program} {w:World} {σ:Shared} {P:Heap} {led:List (Addr×Asn)} {s:Shared} {A:Around} {E:Value→Shared→Prop} {K:Frag} {C fI:Addr} {rest:List Value} {Q:Value→Shared→Prop} (X:Src K P) (H:At σ P led s) (hm:makesIn K C=true)
  (hi:findIn K (.ref C) "__init__" = some (some (.ref fI))) (hf:typeIn K (.ref fI)=some (.type "function"))
  (h:∀x dx s',At σ P ((x,Asn.eq (instObj C dx))::(dx,Asn.nsN 0 fun _=>none)::led) s' →
   codeAny (model prog w) (A.under (.builtin "type.__call__" ⟨.ref C::rest,[]⟩)) (.call (.ref fI) ⟨.ref x::rest,[]⟩) (InitBack x fun r s'=>match r with|.ok (.ret v)=>Q v s'|.ok _=>False|.error e=>E e s') s') :
  wpAny (model prog w) A (call (.ref C) rest) Q E s:=by
 have XX:=X.K.keeps H.sub
 obtain⟨hh,g,d,t,os⟩:=s
 refine wpAny_call (make_core (makes_of XX hm) (looks_findIn XX hi) (fun self=>bind_fn XX self hf) (.inl rfl) (h _ hh.objs.size _ ?_))
 have H1:=At.push H (R:=Asn.nsN 0 fun _=>none) (o:=emptyDict) ⟨#[],0,rfl,fun e he=>by simp at he,fun _=>rfl,Nat.le_refl 0⟩ rfl
 have H2:=At.push H1 (R:=Asn.eq (instObj C hh.objs.size)) (o:=instObj C hh.objs.size) rfl rfl
 have e:(hh.push emptyDict).objs.size=hh.objs.size+1:=Heap.size_push ..
 exact e▸H2
theorem callCode {prog:Program} {w:World} {σ:Shared} {P:Heap} {led:List (Addr×Asn)} {s:Shared} {A:Around} {n:Nat}
  {f:Addr} {pos:List Value} {RR:Result→Shared→Prop} {oc:Value} {od:Option Addr} {osl:Array (Option Value)} {fd:FuncData} {body:List Stmt} (nms:List (Str×NameKind)) (binds:List (Str×Value))
  (X:Src (KF w) P) (R:Rm A (n+2)) (H:At σ P led s) (ho:(KF w).lookup f=some ⟨oc,od,.func fd,osl⟩) (hcd:codeIn (KF w) fd.code fd.qualname=true)
  (hbody:fd.body=.stmts body) (hnm:fd.scope.names=nms) (hbind:bindArgs fd ⟨pos,[]⟩=pure binds) (hcell:(nms.all fun x=>x.2 != .cell)=true)
  (hloc:(binds.all fun x=>nms.lookup x.1 == some .local)=true) (hdb:nms.lookup ("__debug__" : Str)=none)
  (hg:fd.globals=mainGlobals) (hb:fd.builtins=builtinsNs) (hco:fd.scope.isCoroutine=false) (hgen:fd.scope.isGenerator=false) (hk:fd.scope.kind=.function)
  (h:∀Γ:Cx ⟨prog,w,σ⟩ P nms n,Rm Γ.A (n+1)→St Γ (fun x=>binds.reverse.lookup x) led body (fun fl s'=>RR (.ok (.ret (flowVal fl))) s')) :
  codeAny (model prog w) A (.call (.ref f) ⟨pos,[]⟩) RR s:=
 callFn X H ho hcd R.lim hbody hnm hbind hcell hloc hg hb hco hgen hk fun L env s' O _ H'=>wpAny_mono ((h ⟨env,L,A.deeper env,X,O,hdb,R.deeper,[],by simp,by simp,List.nodup_nil⟩ R.deeper).run s' H') (fun fl s' q=>by obtain⟨⟩:=fl <;> exact q) fun _ _ q=>q.elim
theorem wt_make (C:Addr) (rest:List Value):(Code.builtin "type.__call__" ⟨.ref C::rest,[]⟩).weight=1:=by kernel_rfl
theorem cu_make (C:Addr) (rest:List Value):(Code.builtin "type.__call__" ⟨.ref C::rest,[]⟩).cUnits=1:=by kernel_rfl
theorem Rm.make {A:Around} {n:Nat} (R:Rm A (n+1)) (C:Addr) (rest:List Value):Rm (A.under (.builtin "type.__call__" ⟨.ref C::rest,[]⟩)) n:=
 ⟨R.handled,by have:=R.depth; have:=wt_make C rest; show A.depth+(Code.builtin "type.__call__" ⟨.ref C::rest,[]⟩).weight+n≤900; exact dp1 (by assumption),
  by have:=R.units; have:=cu_make C rest; show A.units+(Code.builtin "type.__call__" ⟨.ref C::rest,[]⟩).cUnits+60*n≤9000; exact un2 (by assumption) rfl⟩
end
end
end Mine
namespace Mine
noncomputable def cmpI' (n:Int):Bool:=n == -1
structure HS (κ:Type) where
 pl:List (κ×κ)
 pr:List (κ×κ)
 dl:List (κ×Int)
 rf:Int
section
variable {κ:Type} [DecidableEq κ]
noncomputable def HS.swap (st:HS κ) (l r:κ):Option (HS κ):=
 if st.pl.length≤1000∧st.pr.length≤1000 then some { st with pl:=put st.pl l r,pr:=put st.pr r l } else none
noncomputable def HS.dist (st:HS κ) (l:κ) (d:Int):Option (HS κ):=
 if st.dl.length≤1000 then some { st with dl:=put st.dl l d } else none
noncomputable def dfsFor (rec:HS κ→κ→Option (Bool×HS κ)) (left:κ):List κ→HS κ→Option (Bool×HS κ)
 | [],st=>(st.dist left (-1)).map fun st'=>(false,st')
 | r::rs,st=>
  match look st.pr r with
  | none=>match look st.dl left with
   | none=>none
   | some d=>if st.rf=d+1 then(st.swap left r).map fun st'=>(true,st') else dfsFor rec left rs st
  | some o=>match look st.dl o,look st.dl left with
   | some d1,some d0=>
    if d1=d0+1 then
     match rec st o with
     | none=>none
     | some (true,st')=>(st'.swap left r).map fun st''=>(true,st'')
     | some (false,st')=>dfsFor rec left rs st'
    else dfsFor rec left rs st
   | _,_=>none
noncomputable def dfsM (g:List (κ×List κ)):Nat→HS κ→κ→Option (Bool×HS κ)
 | 0,_,_=>none
 | n+1,st,left=>match look g left with
  | none=>none
  | some rs=>dfsFor (dfsM g n) left rs st
noncomputable def bfsInit:List κ→List κ→HS κ→Option (List κ×HS κ)
 | [],q,st=>some (q,st)
 | l::ls,q,st=>
  match look st.pl l with
  | none=>if q.length≤1000 then(st.dist l 0).bind fun st'=>bfsInit ls (q++[l]) st' else none
  | some _=>(st.dist l (-1)).bind fun st'=>bfsInit ls q st'
noncomputable def bfsEdges (v:κ):List κ→List κ→HS κ→Option (List κ×HS κ)
 | [],q,st=>some (q,st)
 | r::rs,q,st=>
  match look st.pr r with
  | none=>if st.rf=-1 then(look st.dl v).bind fun d=>bfsEdges v rs q { st with rf:=d+1 } else bfsEdges v rs q st
  | some o=>match look st.dl o with
   | none=>none
   | some d1=>if d1=-1 then(look st.dl v).bind fun d=>if q.length≤1000 then(st.dist o (d+1)).bind fun st'=>bfsEdges v rs (q++[o]) st' else none
    else bfsEdges v rs q st
noncomputable def bfsLoop (g:List (κ×List κ)):Nat→List κ→HS κ→Option (HS κ)
 | 0,_,_=>none
 | _+1,[],st=>some st
 | n+1,v::q,st=>
  if q.length≤1000 then
   match look st.dl v with
   | none=>none
   | some d=>
    if d=st.rf∧st.rf=-1 then bfsLoop g n q st
    else if st.rf≤d∧st.rf≠-1 then bfsLoop g n q st
    else(look g v).bind fun rs=>(bfsEdges v rs q st).bind fun x=>bfsLoop g n x.1 x.2
  else none
noncomputable def bfsM (g:List (κ×List κ)) (n:Nat) (st:HS κ):Option (Bool×HS κ):=
 (bfsInit (g.map (·.1)) [] st).bind fun x=>(bfsLoop g n x.1 { x.2 with rf:=-1 }).map fun st'=>(decide (st'.rf≠-1),st')
noncomputable def phase (g:List (κ×List κ)) (n:Nat):List κ→Int→HS κ→Option (Int×HS κ)
 | [],c,st=>some (c,st)
 | l::ls,c,st=>
  match look st.pl l with
  | some _=>phase g n ls c st
  | none=>(dfsM g n st l).bind fun x=>phase g n ls (if x.1 then c+1 else c) x.2
noncomputable def phases (g:List (κ×List κ)) (n:Nat):Nat→Int→HS κ→Option (Int×HS κ)
 | 0,_,_=>none
 | k+1,c,st=>(bfsM g n st).bind fun x=>if x.1 then(phase g n (g.map (·.1)) c x.2).bind fun y=>phases g n k y.1 y.2 else some (c,x.2)
noncomputable def initDist:List κ→HS κ→Option (HS κ)
 | [],st=>some st
 | l::ls,st=>(st.dist l (-1)).bind fun st'=>initDist ls st'
noncomputable def runM (g:List (κ×List κ)) (n:Nat) (st:HS κ):Option (Int×HS κ):=
 (initDist (g.map (·.1)) { st with pl:=[],pr:=[],dl:=[] }).bind fun st'=>phases g n n 0 st'
end
section
variable {κ:Type} [DecidableEq κ]
inductive DfsStep (rec:HS κ→κ→Option (Bool×HS κ)) (left r:κ) (rs:List κ) (st:HS κ) (b:Bool) (st':HS κ) (d0:Int):Prop
 | free (h:(look st.pr r).isSome=!true) (hd:(st.rf == d0+1)=true) (hs:st.swap left r=some st') (hb:b=true)
 | skip (h:(look st.pr r).isSome=!true) (hd:(st.rf == d0+1)=false) (hr:dfsFor rec left rs st=some (b,st'))
 | found (o:κ) (d1:Int) (st1:HS κ) (h:(look st.pr r).isSome=!false) (ho:look st.pr r=some o) (hd1:look st.dl o=some d1) (hd:(d1 == d0+1)=true) (hr:rec st o=some (true,st1)) (hs:st1.swap left r=some st') (hb:b=true)
 | lost (o:κ) (d1:Int) (st1:HS κ) (h:(look st.pr r).isSome=!false) (ho:look st.pr r=some o) (hd1:look st.dl o=some d1) (hd:(d1 == d0+1)=true) (hr:rec st o=some (false,st1)) (hs:dfsFor rec left rs st1=some (b,st'))
 | far (o:κ) (d1:Int) (h:(look st.pr r).isSome=!false) (ho:look st.pr r=some o) (hd1:look st.dl o=some d1) (hd:(d1 == d0+1)=false) (hs:dfsFor rec left rs st=some (b,st'))
theorem dfsFor_cons {rec:HS κ→κ→Option (Bool×HS κ)} {left r:κ} {rs:List κ} {st st':HS κ} {b:Bool} (h:dfsFor rec left (r::rs) st=some (b,st')) :
  ∃d0,look st.dl left=some d0∧DfsStep rec left r rs st b st' d0:=by
 unfold dfsFor at h
 rcases hp:look st.pr r with _|o
 ·
  rw[hp] at h
  rcases hd:look st.dl left with _|d
  ·rw[hd] at h; contradiction
  ·
   rw[hd] at h
   refine⟨d,rfl,?_⟩
   dsimp only at h
   revert h; refine iteInduction (motive:=fun x=>x=_→_) (fun _ h=>?_) fun _ h=>?_
   ·rename_i hc
    refine E1A2 (Option.map_eq_some_iff.mp h) fun x h1 h2=>?_
    (obtain⟨rfl,rfl⟩:=Prod.mk.inj h2)
    exact .free (by rw[hp]; rfl) (by exact decide_eq_true hc) h1 rfl
   ·rename_i hc
    exact .skip (by rw[hp]; rfl) (by exact decide_eq_false hc) h
 ·
  rw[hp] at h
  dsimp only at h
  rcases hd1:look st.dl o with _|d1
  ·rw[hd1] at h; contradiction
  ·
   rw[hd1] at h
   rcases hd:look st.dl left with _|d
   ·rw[hd] at h; contradiction
   ·
    rw[hd] at h
    refine⟨d,rfl,?_⟩
    dsimp only at h
    revert h; refine iteInduction (motive:=fun x=>x=_→_) (fun _ h=>?_) fun _ h=>?_
    ·rename_i hc
     rcases hr:rec st o with _|x
     ·rw[hr] at h; contradiction
     ·
      obtain⟨bb,st1⟩:=x
      rw[hr] at h
      rcases bb with _|_
      rotate_left
      ·
       refine E1A2 (Option.map_eq_some_iff.mp h) fun x h1 h2=>?_
       (obtain⟨rfl,rfl⟩:=Prod.mk.inj h2)
       exact .found o d1 st1 (by rw[hp]; rfl) hp hd1 (by exact decide_eq_true hc) hr h1 rfl
      ·exact .lost o d1 st1 (by rw[hp]; rfl) hp hd1 (by exact decide_eq_true hc) hr h
    ·rename_i hc
     exact .far o d1 (by rw[hp]; rfl) hp hd1 (by exact decide_eq_false hc) h
theorem dfsFor_nil {rec:HS κ→κ→Option (Bool×HS κ)} {left:κ} {st st':HS κ} {b:Bool} (h:dfsFor rec left [] st=some (b,st')) :
  b=false∧st.dl.length≤1000∧st'={ st with dl:=put st.dl left (-1) }:=by
 simp only[dfsFor,HS.dist] at h
 split at h
 ·rename_i hz; (obtain⟨rfl,rfl⟩:=Prod.mk.inj (Option.some.inj h)); exact⟨rfl,hz,rfl⟩
 ·contradiction
theorem dfsM_succ {g:List (κ×List κ)} {n:Nat} {st:HS κ} {left:κ} {x:Bool×HS κ} (h:dfsM g (n+1) st left=some x):∃rs,look g left=some rs∧dfsFor (dfsM g n) left rs st=some x:=by
 unfold dfsM at h
 rcases hg:look g left with _|rs
 ·rw[hg] at h; contradiction
 ·rw[hg] at h; exact⟨rs,rfl,h⟩
theorem swap_some {st st':HS κ} {l r:κ} (h:st.swap l r=some st'):st.pl.length≤1000∧st.pr.length≤1000∧st'={ st with pl:=put st.pl l r,pr:=put st.pr r l }:=by
 unfold HS.swap at h
 revert h; refine iteInduction (motive:=fun x=>x=_→_) (fun _ h=>?_) fun _ h=>?_
 ·rename_i hz; (obtain rfl:=Option.some.inj h); exact⟨hz.1,hz.2,rfl⟩
 ·contradiction
theorem dist_some {st st':HS κ} {l:κ} {d:Int} (h:st.dist l d=some st'):st.dl.length≤1000∧st'={ st with dl:=put st.dl l d }:=by
 unfold HS.dist at h
 revert h; refine iteInduction (motive:=fun x=>x=_→_) (fun _ h=>?_) fun _ h=>?_
 ·rename_i hz; (obtain rfl:=Option.some.inj h); exact⟨hz,rfl⟩
 ·contradiction
theorem drop_at {α:Type} {xs:List α} {i:Nat} {x:α} (h:xs[i]? = some x):xs.drop i=x::xs.drop (i+1):=by
 obtain⟨hlt,e⟩:=List.getElem?_eq_some_iff.mp h
 simp only[List.drop_eq_getElem_cons hlt,e]
end
noncomputable def hkF (gd pl pr lv dl:Addr) (rf:Int) (t:Tok):Str→Option Value:=fun x=>List.lookup x
 [("_graph_left",.ref gd),("_reference_distance",.int rf t),("_pair_left",.ref pl),("_pair_right",.ref pr),("_left",.ref lv),("_dist_left",.ref dl)]
structure Fam {prog:Program} {w:World} {κ:Type} [DecidableEq κ] (D:DKind prog w κ) (me d gd pl pr lv dl:Addr) (g:List (κ×List κ)) (F:HS κ→Tok→List (Addr×Asn)):Prop where
 fself:∀st t,(me,Asn.eq (instObj 80 d))∈F st t
 fgd:∀st t,(gd,Asn.dict D (Rep.list D.rep) g)∈F st t
 flv:∀st t,(lv,Asn.list D.rep (g.map (·.1)))∈F st t
 fat:∀st t,(d,Asn.nsN 6 (hkF gd pl pr lv dl st.rf t))∈F st t
 upl:∀st t x,Upd pl (Asn.dict D D.rep st.pl) (Asn.dict D D.rep x) (F st t) (F { st with pl:=x } t)
 upr:∀st t x,Upd pr (Asn.dict D D.rep st.pr) (Asn.dict D D.rep x) (F st t) (F { st with pr:=x } t)
 udl:∀st t x,Upd dl (Asn.dict D Rep.int st.dl) (Asn.dict D Rep.int x) (F st t) (F { st with dl:=x } t)
 urf:∀st t r t',Upd d (Asn.nsN 6 (hkF gd pl pr lv dl st.rf t)) (Asn.nsN 6 (hkF gd pl pr lv dl r t')) (F st t) (F { st with rf:=r } t')
section
variable {prog:Program} {w:World} {κ:Type} [DecidableEq κ] {D:DKind prog w κ} {me d gd pl pr lv dl:Addr} {g:List (κ×List κ)} {F:HS κ→Tok→List (Addr×Asn)}
theorem Fam.cons (h:Fam D me d gd pl pr lv dl g F) (e:Addr×Asn):Fam D me d gd pl pr lv dl g (fun st t=>e::F st t):=
 ⟨fun _ _=>.tail _ (h.fself _ _),fun _ _=>.tail _ (h.fgd _ _),fun _ _=>.tail _ (h.flv _ _),fun _ _=>.tail _ (h.fat _ _),fun _ _ _=>.tail (h.upl _ _ _),fun _ _ _=>.tail (h.upr _ _ _),fun _ _ _=>.tail (h.udl _ _ _),fun _ _ _ _=>.tail (h.urf _ _ _ _)⟩
theorem Fam.pre (h:Fam D me d gd pl pr lv dl g F):∀l:List (Addr×Asn),Fam D me d gd pl pr lv dl g (fun st t=>l++F st t)
 | []=>h
 | e::l=>(h.pre l).cons e
theorem Fam.mpl (h:Fam D me d gd pl pr lv dl g F) (st:HS κ) (t:Tok):(pl,Asn.dict D D.rep st.pl)∈F st t:=(h.upl st t []).mem
theorem Fam.mpr (h:Fam D me d gd pl pr lv dl g F) (st:HS κ) (t:Tok):(pr,Asn.dict D D.rep st.pr)∈F st t:=(h.upr st t []).mem
theorem Fam.mdl (h:Fam D me d gd pl pr lv dl g F) (st:HS κ) (t:Tok):(dl,Asn.dict D Rep.int st.dl)∈F st t:=(h.udl st t []).mem
theorem hkF_upd (gd pl pr lv dl:Addr) (r r':Int) (t t':Tok):upd (hkF gd pl pr lv dl r t) "_reference_distance" (.int r' t')=hkF gd pl pr lv dl r' t':=by
 funext x
 unfold upd hkF
 by_cases h:x = "_reference_distance"
 ·subst h; rfl
 ·rw[if_neg h]
  simp only[List.lookup_cons,beq_false_of_ne h]
theorem Fam.urf' (h:Fam D me d gd pl pr lv dl g F) (st:HS κ) (t:Tok) (r:Int) (t':Tok) :
  Upd d (Asn.nsN 6 (hkF gd pl pr lv dl st.rf t)) (Asn.nsN 6 (upd (hkF gd pl pr lv dl st.rf t) "_reference_distance" (.int r t'))) (F st t) (F { st with rf:=r } t'):=by
 rw[hkF_upd]; exact h.urf st t r t'
end
end Mine
namespace Mine
noncomputable section
section
variable {κ:Type} [DecidableEq κ] {g:List (κ×List κ)} {n:Nat} {l v r:κ} {ls rs q:List κ} {st:HS κ} {x:List κ×HS κ} {y:Bool×HS κ} {z:Int×HS κ} {c:Int}
theorem bind_some {α β:Type} {o:Option α} {f:α→Option β} {b:β} (h:o.bind f=some b):∃a,o=some a∧f a=some b:=by
 rcases o with _|a
 ·contradiction
 ·exact⟨a,rfl,h⟩
theorem bfsInit_cons (h:bfsInit (l::ls) q st=some x) :
  ((look st.pl l).isSome=!true∧q.length≤1000∧st.dl.length≤1000∧bfsInit ls (q++[l]) { st with dl:=put st.dl l 0 }=some x) ∨
  ((look st.pl l).isSome=!false∧st.dl.length≤1000∧bfsInit ls q { st with dl:=put st.dl l (-1) }=some x):=by
 unfold bfsInit at h
 rcases hp:look st.pl l with _|o
 ·
  rw[hp] at h
  dsimp only at h
  revert h; refine iteInduction (motive:=fun x=>x=_→_) (fun _ h=>?_) fun _ h=>?_
  ·rename_i hq
   refine E1A2 (bind_some h) fun st' h1 h2=>?_
   refine E0A2 (dist_some h1) fun hz ee73=>?_
   subst ee73
   exact .inl ⟨rfl,hq,hz,h2⟩
  ·contradiction
 ·
  rw[hp] at h
  refine E1A2 (bind_some h) fun st' h1 h2=>?_
  refine E0A2 (dist_some h1) fun hz ee69=>?_
  subst ee69
  exact .inr ⟨rfl,hz,h2⟩
inductive EdgeStep (v r:κ) (rs q:List κ) (st:HS κ) (x:List κ×HS κ):Prop
 | free (d:Int) (h:(look st.pr r).isSome=!true) (hr:cmpI' st.rf=true) (hd:look st.dl v=some d) (hs:bfsEdges v rs q { st with rf:=d+1 }=some x)
 | late (h:(look st.pr r).isSome=!true) (hr:cmpI' st.rf=false) (hs:bfsEdges v rs q st=some x)
 | new (o:κ) (d1 d:Int) (h:(look st.pr r).isSome=!false) (ho:look st.pr r=some o) (hd1:look st.dl o=some d1) (hc:cmpI' d1=true) (hd:look st.dl v=some d) (hq:q.length≤1000) (hz:st.dl.length≤1000)
   (hs:bfsEdges v rs (q++[o]) { st with dl:=put st.dl o (d+1) }=some x)
 | old (o:κ) (d1:Int) (h:(look st.pr r).isSome=!false) (ho:look st.pr r=some o) (hd1:look st.dl o=some d1) (hc:cmpI' d1=false) (hs:bfsEdges v rs q st=some x)
theorem bfsEdges_cons (h:bfsEdges v (r::rs) q st=some x):EdgeStep v r rs q st x:=by
 unfold bfsEdges at h
 rcases hp:look st.pr r with _|o
 ·
  rw[hp] at h
  dsimp only at h
  revert h; refine iteInduction (motive:=fun x=>x=_→_) (fun _ h=>?_) fun _ h=>?_
  ·rename_i hr
   refine E1A2 (bind_some h) fun d h1 h2=>?_
   exact .free d (by rw[hp]; rfl) (by rw[hr]; rfl) h1 h2
  ·rename_i hr
   exact .late (by rw[hp]; rfl) (by exact decide_eq_false hr) h
 ·
  rw[hp] at h
  dsimp only at h
  rcases hd1:look st.dl o with _|d1
  ·rw[hd1] at h; contradiction
  ·
   rw[hd1] at h
   dsimp only at h
   revert h; refine iteInduction (motive:=fun x=>x=_→_) (fun _ h=>?_) fun _ h=>?_
   ·rename_i hr
    refine E1A2 (bind_some h) fun d h1 h2=>?_
    revert h2; refine iteInduction (motive:=fun x=>x=_→_) (fun _ h2=>?_) fun _ h2=>?_
    ·rename_i hq
     refine E1A2 (bind_some h2) fun st' h3 h4=>?_
     refine E0A2 (dist_some h3) fun hz ee57=>?_
     subst ee57
     exact .new o d1 d (by rw[hp]; rfl) hp hd1 (by rw[hr]; rfl) h1 hq hz h4
    ·contradiction
   ·rename_i hr
    exact .old o d1 (by rw[hp]; rfl) hp hd1 (by exact decide_eq_false hr) h
inductive LoopStep (g:List (κ×List κ)) (n:Nat) (v:κ) (q:List κ) (st y:HS κ) (d:Int):Prop
 | same (h:((d == st.rf) && (st.rf == -1))=true) (hs:bfsLoop g n q st=some y)
 | deep (h:((d == st.rf) && (st.rf == -1))=false) (h':(decide (st.rf≤d) && (st.rf != -1))=true) (hs:bfsLoop g n q st=some y)
 | go (rs q2:List κ) (st2:HS κ) (h:((d == st.rf) && (st.rf == -1))=false) (h':(decide (st.rf≤d) && (st.rf != -1))=false) (hg:look g v=some rs) (he:bfsEdges v rs q st=some (q2,st2)) (hs:bfsLoop g n q2 st2=some y)
theorem bfsLoop_cons {y:HS κ} (h:bfsLoop g (n+1) (v::q) st=some y):q.length≤1000∧∃d,look st.dl v=some d∧LoopStep g n v q st y d:=by
 unfold bfsLoop at h
 revert h; refine iteInduction (motive:=fun x=>x=_→_) (fun _ h=>?_) fun _ h=>?_
 ·rename_i hq
  refine⟨hq,?_⟩
  rcases hd:look st.dl v with _|d
  ·rw[hd] at h; contradiction
  ·
   rw[hd] at h
   refine⟨d,rfl,?_⟩
   dsimp only at h
   revert h; refine iteInduction (motive:=fun x=>x=_→_) (fun _ h=>?_) fun _ h=>?_
   ·rename_i hc
    exact .same (by simpa using hc) h
   ·rename_i hc
    have hc1:((d == st.rf) && (st.rf == -1))=false:=by
     rw[←Bool.not_eq_true]; simpa using hc
    revert h; refine iteInduction (motive:=fun x=>x=_→_) (fun _ h=>?_) fun _ h=>?_
    ·rename_i hc2
     exact .deep hc1 (by simpa using hc2) h
    ·rename_i hc2
     refine E1A2 (bind_some h) fun rs h1 h2=>?_
     refine E1A2 (bind_some h2) fun zz49 h3 h4=>?_
     obtain⟨q2,st2⟩:=zz49
     exact .go rs q2 st2 hc1 (by rw[←Bool.not_eq_true]; simpa using hc2) h1 h3 h4
 ·contradiction
theorem bfsM_some (h:bfsM g n st=some y):∃x st',bfsInit (g.map (·.1)) [] st=some x∧bfsLoop g n x.1 { x.2 with rf:=-1 }=some st'∧y=(st'.rf != -1,st'):=by
 unfold bfsM at h
 refine E1A2 (bind_some h) fun x h1 h2=>?_
 refine E1A2 (Option.map_eq_some_iff.mp h2) fun st' h3 h4=>?_
 exact⟨x,st',h1,h3,by rw[←h4]; congr 1; by_cases hc:st'.rf=-1 <;> simp[hc]⟩
theorem phase_cons (h:phase g n (l::ls) c st=some z) :
  ((look st.pl l).isSome=true∧phase g n ls c st=some z) ∨
  ((look st.pl l).isSome=false∧∃b st',dfsM g n st l=some (b,st')∧phase g n ls (if b then c+1 else c) st'=some z):=by
 unfold phase at h
 rcases hp:look st.pl l with _|o
 rotate_left
 ·rw[hp] at h; exact .inl ⟨rfl,h⟩
 ·
  rw[hp] at h
  refine E1A2 (bind_some h) fun zz34 h1 h2=>?_
  obtain⟨b,st'⟩:=zz34
  exact .inr ⟨rfl,b,st',h1,h2⟩
theorem phases_succ {k:Nat} (h:phases g n (k+1) c st=some z) :
  ∃b st',bfsM g n st=some (b,st')∧((b=false∧z=(c,st'))∨(b=true∧∃c2 st2,phase g n (g.map (·.1)) c st'=some (c2,st2)∧phases g n k c2 st2=some z)):=by
 unfold phases at h
 refine E1A2 (bind_some h) fun zz28 h1 h2=>?_
 obtain⟨b,st'⟩:=zz28
 refine⟨b,st',h1,?_⟩
 rcases b with _|_
 ·(obtain rfl:=Option.some.inj h2); exact .inl ⟨rfl,rfl⟩
 ·
  obtain⟨⟨c2,st2⟩,h3,h4⟩:=bind_some h2
  exact .inr ⟨rfl,c2,st2,h3,h4⟩
theorem initDist_cons {st2:HS κ} (h:initDist (l::ls) st=some st2):st.dl.length≤1000∧initDist ls { st with dl:=put st.dl l (-1) }=some st2:=by
 unfold initDist at h
 refine E1A2 (bind_some h) fun st' h1 h2=>?_
 refine E0A2 (dist_some h1) fun hz ee8=>?_
 subst ee8
 exact⟨hz,h2⟩
end
end
end Mine
namespace Mine
section
variable {κ β:Type} [DecidableEq κ]
theorem look_nil (k:κ):look ([]:List (κ×β)) k=none:=rfl
theorem look_cons (p:κ×β) (ps:List (κ×β)) (k:κ):look (p::ps) k=if p.1=k then some p.2 else look ps k:=by
 unfold look
 rw[List.find?_cons]
 by_cases h:p.1=k
 ·simp[h]
 ·simp[h]
theorem put_nil (k:κ) (v:β):put ([]:List (κ×β)) k v=[(k,v)]:=rfl
theorem idx_cons (x:κ) (ks:List κ) (k:κ):idx (x::ks) k=if x=k then some 0 else(idx ks k).map (·+1):=by
 unfold idx
 rw[List.findIdx?_cons]
 by_cases h:x=k <;> simp[h]
theorem put_cons (p:κ×β) (ps:List (κ×β)) (k:κ) (v:β):put (p::ps) k v=if p.1=k then(p.1,v)::ps else p::put ps k v:=by
 unfold put
 simp only[List.map_cons,idx_cons]
 by_cases h:p.1=k
 ·simp[h]
 ·simp only[h,if_false]
  cases hi:idx (ps.map (·.1)) k with
  | none=>simp
  | some i=>simp
theorem look_put (ps:List (κ×β)) (k k':κ) (v:β):look (put ps k v) k'=if k=k' then some v else look ps k':=by
 induction ps with
 | nil=>rw[put_nil,look_cons]
 | cons p r ih=>
  rw[put_cons]
  by_cases h:p.1=k
  ·rw[if_pos h,look_cons,look_cons]
   by_cases h':k=k'
   ·rw[if_pos h',if_pos (h.trans h')]
   ·rw[if_neg h',if_neg (fun e=>h' (h.symm.trans e)),if_neg (fun e=>h' (h.symm.trans e))]
  ·rw[if_neg h,look_cons,look_cons,ih]
   by_cases h':k=k'
   ·rw[if_pos h',if_pos h',if_neg (fun e=>h (e.trans h'.symm))]
   ·rw[if_neg h',if_neg h']
theorem look_put_self (ps:List (κ×β)) (k:κ) (v:β):look (put ps k v) k=some v:=by rw[look_put,if_pos rfl]
theorem look_put_ne (ps:List (κ×β)) {k k':κ} (v:β) (h:k≠k'):look (put ps k v) k'=look ps k':=by rw[look_put,if_neg h]
theorem put_length (ps:List (κ×β)) (k:κ) (v:β):(put ps k v).length=if(look ps k).isSome then ps.length else ps.length+1:=by
 induction ps with
 | nil=>rfl
 | cons p r ih=>
  rw[put_cons,look_cons]
  by_cases h:p.1=k
  ·rw[if_pos h,if_pos h]; rfl
  ·rw[if_neg h,if_neg h,List.length_cons,ih,List.length_cons]
   split <;> rfl
theorem look_some_mem {ps:List (κ×β)} {k:κ} {v:β} (h:look ps k=some v):(k,v)∈ps:=by
 induction ps with
 | nil=>contradiction
 | cons p r ih=>
  rw[look_cons] at h
  by_cases e:p.1=k
  ·rw[if_pos e] at h
   (obtain rfl:=Option.some.inj h)
   subst e
   exact .head _
  ·rw[if_neg e] at h
   exact .tail _ (ih h)
theorem mem_look {ps:List (κ×β)} {k:κ} {v:β} (hn:(ps.map (·.1)).Nodup) (h:(k,v)∈ps):look ps k=some v:=by
 induction ps with
 | nil=>contradiction
 | cons p r ih=>
  simp only[List.map_cons,List.nodup_cons] at hn
  rw[look_cons]
  rcases List.mem_cons.mp h with rfl|h
  ·rw[if_pos rfl]
  ·have q:p.1≠k:=fun e=>hn.1 (by rw[e]; exact List.mem_map_of_mem (f:=fun p:κ×β=>p.1) h)
   rw[if_neg q]
   exact ih hn.2 h
theorem look_isSome {ps:List (κ×β)} {k:κ}:(look ps k).isSome↔k∈ps.map (·.1):=by
 induction ps with
 | nil=>simp[look_nil]
 | cons p r ih=>
  rw[look_cons,List.map_cons,List.mem_cons]
  by_cases e:p.1=k
  ·rw[if_pos e]; simp[e]
  ·rw[if_neg e,ih]
   exact⟨.inr,fun h=>h.resolve_left fun q=>e q.symm⟩
end
section
variable {α β:Type} [DecidableEq α] [DecidableEq β]
theorem nodup_le:∀ {l m:List α},l.Nodup→(∀x∈l,x∈m)→l.length≤m.length
 | [],_,_,_=>Nat.zero_le _
 | x::l,m,hn,hs=>by
  simp only[List.nodup_cons] at hn
  have hx:=hs x (.head _)
  have h1:l.length≤(m.erase x).length:=nodup_le hn.2 fun y hy=>(List.mem_erase_of_ne (show y≠x from fun e=>hn.1 (by rw[←e]; exact hy))).mpr (hs y (.tail _ hy))
  rw[List.length_erase_of_mem hx] at h1
  have:0<m.length:=List.length_pos_of_mem hx
  simp only[List.length_cons]
  omega
end
end Mine
namespace Mine
section
variable {κ:Type} [DecidableEq κ] {g:List (κ×List κ)}
inductive Aug (g:List (κ×List κ)) (pr:List (κ×κ)) (rf:Int) (dl:List (κ×Int)):κ→Prop
 | free {l r:κ} {rs:List κ} {d:Int}:look g l=some rs→r∈rs→look pr r=none→look dl l=some d→rf=d+1→Aug g pr rf dl l
 | step {l r o:κ} {rs:List κ} {d:Int}:look g l=some rs→r∈rs→look pr r=some o→look dl l=some d→look dl o=some (d+1)→Aug g pr rf dl o→Aug g pr rf dl l
theorem Aug.mono {pr:List (κ×κ)} {rf:Int} {dl dl':List (κ×Int)} {y:κ} (h:Aug g pr rf dl y) (k:∀y,Aug g pr rf dl y→look dl' y=look dl y):Aug g pr rf dl' y:=by
 induction h with
 | free a b c d e=>exact .free a b c ((k _ (.free a b c d e)).trans d) e
 | step a b c d e f ih=>exact .step a b c ((k _ (.step a b c d e f)).trans d) ((k _ f).trans e) ih
structure Sh (g:List (κ×List κ)) (st:HS κ):Prop where
 tl:∀l r,look st.pl l=some r→∃rs,look g l=some rs∧r∈rs
 tr:∀r l,look st.pr r=some l→∃rs,look g l=some rs∧r∈rs
 nl:(st.pl.map (·.1)).Nodup
 nr:(st.pr.map (·.1)).Nodup
 nd:(st.dl.map (·.1)).Nodup
 dom:∀l,(look g l).isSome→(look st.dl l).isSome
 sub:∀l,(look st.dl l).isSome→(look g l).isSome
structure Small (g:List (κ×List κ)):Prop where
 l:g.length≤1000
 r:(g.flatMap (·.2)).length≤1000
theorem Sh.len {st:HS κ} (S:Sh g st) (Z:Small g):st.pl.length≤1000∧st.pr.length≤1000∧st.dl.length≤1000:=by
 refine⟨?_,?_,?_⟩
 ·have:=nodup_le (m:=g.map (·.1)) S.nl fun x hx=>by
   refine E1A1 (Option.isSome_iff_exists.mp (look_isSome.mpr hx)) fun r hr=>?_
   refine E1A2 (S.tl _ _ hr) fun rs h _=>?_
   exact look_isSome.mp (by rw[h]; rfl)
  simp only[List.length_map] at this
  exact Nat.le_trans this Z.l
 ·have:=nodup_le (m:=g.flatMap (·.2)) S.nr fun x hx=>by
   obtain⟨r,hr⟩:=Option.isSome_iff_exists.mp (look_isSome.mpr hx)
   refine E1A2 (S.tr _ _ hr) fun rs h hm=>?_
   exact List.mem_flatMap.mpr ⟨_,look_some_mem h,hm⟩
  simp only[List.length_map] at this
  exact Nat.le_trans this Z.r
 ·have:=nodup_le (m:=g.map (·.1)) S.nd fun x hx=>look_isSome.mp (S.sub _ (look_isSome.mpr hx))
  simp only[List.length_map] at this
  exact Nat.le_trans this Z.l
theorem Sh.swap {st:HS κ} (S:Sh g st) (Z:Small g) {l r:κ} {rs:List κ} (h:look g l=some rs) (hr:r∈rs) :
  st.swap l r=some { st with pl:=put st.pl l r,pr:=put st.pr r l }∧Sh g { st with pl:=put st.pl l r,pr:=put st.pr r l }:=by
 refine E0A3 (S.len Z) fun z1 z2 z3=>?_
 refine⟨by unfold HS.swap; rw[if_pos ⟨z1,z2⟩],fun l' r' e=>?_,fun r' l' e=>?_,put_nodup _ _ _ S.nl,put_nodup _ _ _ S.nr,S.nd,S.dom,S.sub⟩
 ·rw[look_put] at e
  split at e
  ·rename_i q; (obtain rfl:=Option.some.inj e); subst q; exact⟨rs,h,hr⟩
  ·exact S.tl _ _ e
 ·rw[look_put] at e
  split at e
  ·rename_i q; (obtain rfl:=Option.some.inj e); subst q; exact⟨rs,h,hr⟩
  ·exact S.tr _ _ e
theorem Sh.dist {st:HS κ} (S:Sh g st) (Z:Small g) {l:κ} (d:Int) (h:(look g l).isSome) :
  st.dist l d=some { st with dl:=put st.dl l d }∧Sh g { st with dl:=put st.dl l d }:=by
 refine E0A3 (S.len Z) fun z1 z2 z3=>?_
 refine⟨by unfold HS.dist; rw[if_pos z3],S.tl,S.tr,S.nl,S.nr,put_nodup _ _ _ S.nd,fun x hx=>?_,fun x hx=>?_⟩
 ·rw[look_put]; split
  ·rfl
  ·exact S.dom x hx
 ·rw[look_put] at hx
  split at hx
  ·rename_i q; subst q; exact h
  ·exact S.sub x hx
theorem countP_lt {α:Type} {p q:α→Bool} {l:List α} (h:∀x∈l,p x=true→q x=true) {x:α} (hx:x∈l) (hq:q x=true) (hp:p x=false):l.countP p<l.countP q:=by
 induction l with
 | nil=>contradiction
 | cons y r ih=>
  simp only[List.countP_cons,List.countP_cons]
  have hr:∀z∈r,p z=true→q z=true:=fun z hz=>h z (.tail _ hz)
  rcases List.mem_cons.mp hx with rfl|hx
  ·have:=List.countP_mono_left (l:=r) hr
   rw[hq,hp]
   simp only[Bool.false_eq_true,if_false,if_true]
   lia
  ·have:=ih hr hx
   have h2:=h y (.head _)
   rcases hpy:p y with _|_
   ·simp only[Bool.false_eq_true,if_false]; lia
   ·rw[h2 hpy]; simp only[if_true]; lia
noncomputable def above (g:List (κ×List κ)) (dl:List (κ×Int)) (d:Int):Nat:=(g.map (·.1)).countP fun y=>match look dl y with|some e=>decide (d<e)|none=>false
noncomputable def Cons (st:HS κ):Prop:=∀l r,look st.pl l=some r↔look st.pr r=some l
structure Lost (g:List (κ×List κ)) (st:HS κ) (left:κ) (d0:Int) (st':HS κ):Prop where
 pl:st'.pl=st.pl
 pr:st'.pr=st.pr
 rf:st'.rf=st.rf
 dl:∀y,look st'.dl y=look st.dl y∨(look st'.dl y=some (-1)∧¬Aug g st.pr st.rf st.dl y∧(∃d,look st.dl y=some d∧d0≤d)∧(y=left∨(look st.pl y).isSome))
 non:¬Aug g st.pr st.rf st.dl left
 sh:Sh g st'
structure Found (g:List (κ×List κ)) (st:HS κ) (left:κ) (d0:Int) (st':HS κ):Prop where
 rf:st'.rf=st.rf
 cons:∀l r,look st'.pl l=some r↔look st'.pr r=some l∧look st.pl left≠some r
 fl:∀l,look st'.pl l=look st.pl l∨∃d,look st.dl l=some d∧d0≤d
 fr:∀r o,look st.pr r=some o→look st'.pr r=some o∨∃d,look st.dl o=some d∧d0<d
 keys:∀l,(look st'.pl l).isSome↔(look st.pl l).isSome∨l=left
 len:st'.pl.length=if(look st.pl left).isSome then st.pl.length else st.pl.length+1
 dl:∀y,look st'.dl y=look st.dl y∨(look st'.dl y=some (-1)∧(look st.pl y).isSome)
 sh:Sh g st'
end
end Mine
namespace Mine
section
variable {κ:Type} [DecidableEq κ] {g:List (κ×List κ)}
structure Mid (g:List (κ×List κ)) (st:HS κ) (d0:Int) (st1:HS κ):Prop where
 pl:st1.pl=st.pl
 pr:st1.pr=st.pr
 rf:st1.rf=st.rf
 dl:∀y,look st1.dl y=look st.dl y∨(look st1.dl y=some (-1)∧¬Aug g st.pr st.rf st.dl y∧(∃d,look st.dl y=some d∧d0<d)∧(look st.pl y).isSome)
 sh:Sh g st1
theorem Mid.keep {st st1:HS κ} {d0 d:Int} (M:Mid g st d0 st1) {y:κ} (h:look st1.dl y=some d) (hd:0≤d):look st.dl y=some d:=by
 rcases M.dl y with e|⟨e,_⟩
 ·rw[←e]; exact h
 ·rw[e] at h; (obtain rfl:=Option.some.inj h); exact absurd (by assumption) (Int.lt_irrefl _)
theorem Mid.left {st st1:HS κ} {d0:Int} (M:Mid g st d0 st1) {y:κ} (h:look st.dl y=some d0):look st1.dl y=some d0:=by
 rcases M.dl y with e|⟨_,_,⟨d,e,hd⟩,_⟩
 ·rw[e]; exact h
 ·rw[e] at h; (obtain rfl:=Option.some.inj h); exact absurd (by assumption) (Int.lt_irrefl _)
theorem Mid.aug {st st1:HS κ} {d0:Int} (M:Mid g st d0 st1) {y:κ} (h:Aug g st.pr st.rf st.dl y):Aug g st1.pr st1.rf st1.dl y:=by
 rw[M.pr,M.rf]
 refine h.mono fun z hz=>?_
 rcases M.dl z with e|⟨_,e,_⟩
 ·exact e
 ·exact absurd hz e
noncomputable def NotWit (g:List (κ×List κ)) (st:HS κ) (d0:Int) (r:κ):Prop:=
 ¬(look st.pr r=none∧st.rf=d0+1)∧∀o,look st.pr r=some o→look st.dl o=some (d0+1)→¬Aug g st.pr st.rf st.dl o
theorem found_free {st st1:HS κ} {left r:κ} {rs:List κ} {d0:Int} (Z:Small g) (C:Cons st) (hl:look st.dl left=some d0) (hg:look g left=some rs) (hr:r∈rs) (M:Mid g st d0 st1) (hp:look st.pr r=none) :
  ∃st',st1.swap left r=some st'∧Found g st left d0 st':=by
 refine E0A2 (M.sh.swap Z hg hr) fun e S=>?_
 refine⟨_,e,M.rf,fun l x=>?_,fun l=>?_,fun r' o h=>?_,fun l=>?_,?_,fun y=>?_,S⟩
 ·dsimp only
  rw[M.pl,M.pr,look_put,look_put]
  by_cases h1:left=l
  ·subst h1
   rw[if_pos rfl]
   by_cases h2:r=x
   ·subst h2
    rw[if_pos rfl]
    exact⟨fun _=>⟨rfl,fun q=>by rw[(C _ _).mp q] at hp; cases hp⟩,fun _=>rfl⟩
   ·rw[if_neg h2]
    exact⟨fun q=>absurd (Option.some.inj q) h2,fun q=>absurd ((C _ _).mpr q.1) q.2⟩
  ·rw[if_neg h1]
   by_cases h2:r=x
   ·subst h2
    rw[if_pos rfl]
    exact⟨fun q=>(by rw[(C _ _).mp q] at hp; contradiction),fun q=>absurd (Option.some.inj q.1) h1⟩
   ·rw[if_neg h2]
    refine⟨fun q=>⟨(C _ _).mp q,fun q'=>h1 ?_⟩,fun q=>(C _ _).mpr q.1⟩
    have a:=(C _ _).mp q
    rw[(C _ _).mp q'] at a
    exact Option.some.inj a
 ·dsimp only
  rw[M.pl,look_put]
  by_cases h1:left=l
  ·subst h1; exact .inr ⟨d0,hl,Int.le_refl _⟩
  ·rw[if_neg h1]; exact .inl rfl
 ·dsimp only
  rw[M.pr,look_put,if_neg (fun e=>by subst e; rw[hp] at h; contradiction)]
  exact .inl h
 ·dsimp only
  rw[M.pl,look_put]
  by_cases h1:left=l
  ·subst h1; simp
  ·rw[if_neg h1]; exact⟨.inl,fun q=>q.resolve_right fun e=>h1 e.symm⟩
 ·dsimp only
  rw[M.pl,put_length]
 ·rcases M.dl y with e|⟨e,_,_,e'⟩
  ·exact .inl e
  ·exact .inr ⟨e,e'⟩
theorem found_more {st st1 st2:HS κ} {left r o:κ} {rs:List κ} {d0:Int} (Z:Small g) (C:Cons st) (h0:0≤d0) (hl:look st.dl left=some d0) (hg:look g left=some rs) (hr:r∈rs) (M:Mid g st d0 st1)
  (hp:look st.pr r=some o) (ho:look st1.dl o=some (d0+1)) (F:Found g st1 o (d0+1) st2):∃st',st2.swap left r=some st'∧Found g st left d0 st':=by
 refine E0A2 (F.sh.swap Z hg hr) fun e S=>?_
 have hpl:look st.pl o=some r:=(C _ _).mpr hp
 have hne:o≠left:=fun q=>by
  subst q
  rw[M.left hl] at ho
  have:=Option.some.inj ho
  omega
 have c2:∀l x,look st2.pl l=some x↔look st2.pr x=some l∧x≠r:=fun l x=>by
  rw[F.cons,M.pl,hpl]
  exact⟨fun q=>⟨q.1,fun e=>q.2 (by rw[e])⟩,fun q=>⟨q.1,fun e=>q.2 (Option.some.inj e).symm⟩⟩
 have fleft:look st2.pl left=look st.pl left:=by
  rcases F.fl left with q|⟨d,q,hd⟩
  ·rw[q,M.pl]
  ·rw[M.left hl] at q; have:=Option.some.inj q; omega
 have fright:∀x,look st.pl left=some x→look st2.pr x=some left:=fun x hx=>by
  have:=(C _ _).mp hx
  rcases F.fr x left (by rw[M.pr]; exact this) with q|⟨d,q,hd⟩
  ·exact q
  ·rw[M.left hl] at q; have:=Option.some.inj q; omega
 refine⟨_,e,F.rf.trans M.rf,fun l x=>?_,fun l=>?_,fun r' o' h=>?_,fun l=>?_,?_,fun y=>?_,S⟩
 ·skip
  simp only[look_put,look_put]
  by_cases h1:left=l
  ·subst h1
   rw[if_pos rfl]
   by_cases h2:r=x
   ·subst h2
    rw[if_pos rfl]
    exact⟨fun _=>⟨rfl,fun q=>hne (by have a:=(C _ _).mp q; rw[hp] at a; exact Option.some.inj a)⟩,fun _=>rfl⟩
   ·rw[if_neg h2]
    exact⟨fun q=>absurd (Option.some.inj q) h2,fun q=>absurd (fleft▸(c2 _ _).mpr ⟨q.1,fun e=>h2 e.symm⟩) q.2⟩
  ·rw[if_neg h1]
   by_cases h2:r=x
   ·subst h2
    rw[if_pos rfl]
    exact⟨fun q=>absurd rfl ((c2 _ _).mp q).2,fun q=>absurd (Option.some.inj q.1) h1⟩
   ·rw[if_neg h2]
    refine⟨fun q=>⟨((c2 _ _).mp q).1,fun q'=>h1 ?_⟩,fun q=>(c2 _ _).mpr ⟨q.1,fun e=>h2 e.symm⟩⟩
    have a:=((c2 _ _).mp q).1
    rw[fright _ q'] at a
    exact Option.some.inj a
 ·skip
  rw[look_put]
  by_cases h1:left=l
  ·subst h1; exact .inr ⟨d0,hl,Int.le_refl _⟩
  ·rw[if_neg h1]
   rcases F.fl l with q|⟨d,q,hd⟩
   ·exact .inl (by rw[q,M.pl])
   ·exact .inr ⟨d,M.keep q (by exact Int.le_trans (by assumption) (Int.le_of_lt (by assumption))),by exact Int.le_of_lt (by assumption)⟩
 ·skip
  rw[look_put]
  by_cases h1:r=r'
  ·subst h1
   rw[hp] at h
   (obtain rfl:=Option.some.inj h)
   exact .inr ⟨d0+1,M.keep ho (by exact Int.le_add_one (by assumption)),by exact Int.le_refl _⟩
  ·rw[if_neg h1]
   rcases F.fr r' o' (by rw[M.pr]; exact h) with q|⟨d,q,hd⟩
   ·exact .inl q
   ·exact .inr ⟨d,M.keep q (by omega),by exact Int.le_of_lt (by assumption)⟩
 ·skip
  rw[look_put]
  by_cases h1:left=l
  ·subst h1; simp
  ·rw[if_neg h1,F.keys,M.pl]
   refine⟨fun q=>.inl (q.elim id fun e=>by subst e; rw[hpl]; rfl),fun q=>.inl (q.resolve_right fun e=>h1 e.symm)⟩
 ·skip
  simp only[put_length,fleft,F.len,M.pl,hpl]
  rfl
 ·dsimp only
  rcases F.dl y with e|⟨e,e'⟩
  ·rw[e]
   rcases M.dl y with e|⟨e,_,_,e'⟩
   ·exact .inl e
   ·exact .inr ⟨e,e'⟩
  ·exact .inr ⟨e,by rw[←M.pl]; exact e'⟩
theorem dfs_ok (Z:Small g):∀(N:Nat) (st:HS κ) (left:κ) (d0:Int),Sh g st→Cons st→look st.dl left=some d0→0≤d0→above g st.dl d0<N →
  (∃st',dfsM g N st left=some (false,st')∧Lost g st left d0 st')∨(∃st',dfsM g N st left=some (true,st')∧Found g st left d0 st'):=by
 intro N
 induction N with
 | zero=>intro st left d0 _ _ _ _ h; exact absurd (by assumption) (Nat.not_lt_zero _)
 | succ N ih=>
  intro st left d0 S C hl h0 hN
  obtain⟨rs,hg⟩:=Option.isSome_iff_exists.mp (S.sub left (by rw[hl]; rfl))
  unfold dfsM
  rw[hg]
  have inner:∀(qs:List κ) (st1:HS κ),(∀r∈qs,r∈rs)→Mid g st d0 st1→(∀r∈rs,r∈qs∨NotWit g st d0 r) →
    (∃st',dfsFor (dfsM g N) left qs st1=some (false,st')∧Lost g st left d0 st')∨(∃st',dfsFor (dfsM g N) left qs st1=some (true,st')∧Found g st left d0 st'):=by
   intro qs
   induction qs with
   | nil=>
    intro st1 _ M hw
    obtain⟨e,S'⟩:=M.sh.dist Z (-1) (by rw[hg]; rfl:(look g left).isSome)
    have non:¬Aug g st.pr st.rf st.dl left:=fun A=>by
     cases A with
     | free a b c d e'=>
      rw[hg] at a; (obtain rfl:=Option.some.inj a)
      rw[hl] at d; (obtain rfl:=Option.some.inj d)
      exact((hw _ b).resolve_left (by simp)).1 ⟨c,e'⟩
     | step a b c d e' f=>
      rw[hg] at a; (obtain rfl:=Option.some.inj a)
      rw[hl] at d; (obtain rfl:=Option.some.inj d)
      exact((hw _ b).resolve_left (by simp)).2 _ c e' f
    refine .inl ⟨{ st1 with dl:=put st1.dl left (-1) },by unfold dfsFor; rw[e]; rfl,M.pl,M.pr,M.rf,fun y=>?_,non,S'⟩
    rw[look_put]
    by_cases h1:left=y
    ·subst h1; rw[if_pos rfl]; exact .inr ⟨rfl,non,⟨d0,hl,Int.le_refl _⟩,.inl rfl⟩
    ·rw[if_neg h1]
     rcases M.dl y with q|⟨q1,q2,⟨d,q3,q4⟩,q5⟩
     ·exact .inl q
     ·exact .inr ⟨q1,q2,⟨d,q3,by exact Int.le_of_lt (by assumption)⟩,.inr q5⟩
   | cons r qs ihq=>
    intro st1 hq M hw
    have hr:=hq r (.head _)
    have hq':=fun x hx=>hq x (.tail _ hx)
    have next:NotWit g st d0 r→∀x∈rs,x∈qs∨NotWit g st d0 x:=fun nw x hx=>by
     rcases hw x hx with q|q
     ·rcases List.mem_cons.mp q with rfl|q
      ·exact .inr nw
      ·exact .inl q
     ·exact .inr q
    unfold dfsFor
    have hl1:=M.left hl
    rcases hp:look st.pr r with _|o
    ·
     rw[M.pr,hp,hl1]
     dsimp only
     by_cases hrf:st1.rf=d0+1
     ·rw[if_pos hrf]
      refine E1A2 (found_free Z C hl hg hr M hp) fun st' e F=>?_
      exact .inr ⟨st',by rw[e]; rfl,F⟩
     ·rw[if_neg hrf]
      exact ihq st1 hq' M (next ⟨fun q=>hrf (M.rf.trans q.2),fun o ho=>by rw[hp] at ho; cases ho⟩)
    ·
     refine E1A2 (S.tr _ _ hp) fun ors hog _=>?_
     obtain⟨d1,hd1⟩:=Option.isSome_iff_exists.mp (M.sh.dom o (by rw[hog]; rfl))
     rw[M.pr,hp]
     dsimp only
     rw[hd1,hl1]
     dsimp only
     by_cases hd:d1=d0+1
     ·rw[if_pos hd]
      subst hd
      have C1:Cons st1:=fun l r=>by rw[M.pl,M.pr]; exact C l r
      have hlt:above g st1.dl (d0+1)<N:=by
       have:above g st1.dl (d0+1)<above g st.dl d0:=by
        refine countP_lt (x:=o) (fun y _ hy=>?_) (look_isSome.mp (by rw[hog]; rfl)) ?_ ?_
        ·rcases e1:look st1.dl y with _|e
         ·rw[e1] at hy; contradiction
         ·
          rw[e1] at hy
          have hlt:=of_decide_eq_true hy
          rw[M.keep e1 (by omega)]
          exact decide_eq_true (by exact Int.le_of_lt (by assumption))
        ·rw[M.keep hd1 (by exact Int.le_add_one (by assumption))]; exact decide_eq_true (by exact Int.le_refl _)
        ·rw[hd1]; exact decide_eq_false (by omega)
       omega
      rcases ih st1 o (d0+1) M.sh C1 hd1 (by exact Int.le_add_one (by assumption)) hlt with⟨st2,e,L⟩|⟨st2,e,F⟩
      ·rw[e]
       refine ihq st2 hq' ⟨L.pl.trans M.pl,L.pr.trans M.pr,L.rf.trans M.rf,fun y=>?_,L.sh⟩ (next ⟨fun q=>(by rw[hp] at q; obtain⟨⟩:=q.1),fun o' ho' hd' A=>?_⟩)
       ·rcases L.dl y with q|⟨q1,q2,⟨d,q3,q4⟩,q5⟩
        ·rw[q]; exact M.dl y
        ·refine .inr ⟨q1,fun A=>q2 (M.aug A),⟨d,M.keep q3 (by exact Int.le_trans (by assumption) (Int.le_of_lt (by assumption))),by exact(by assumption)⟩,?_⟩
         rcases q5 with rfl|q5
         ·rw[(C _ _).mpr hp]; rfl
         ·rw[←M.pl]; exact q5
       ·rw[hp] at ho'; (obtain rfl:=Option.some.inj ho')
        exact L.non (M.aug A)
      ·rw[e]
       dsimp only
       refine E1A2 (found_more Z C h0 hl hg hr M hp hd1 F) fun st3 e3 F3=>?_
       exact .inr ⟨st3,by rw[e3]; rfl,F3⟩
     ·rw[if_neg hd]
      refine ihq st1 hq' M (next ⟨fun q=>(by rw[hp] at q; obtain⟨⟩:=q.1),fun o' ho' hd' A=>?_⟩)
      rw[hp] at ho'; (obtain rfl:=Option.some.inj ho')
      rcases M.dl o with q|⟨_,q,_⟩
      ·rw[q,hd'] at hd1; exact hd (Option.some.inj hd1).symm
      ·exact q A
  exact inner rs st (fun _ h=>h) ⟨rfl,rfl,rfl,fun _=>.inl rfl,S⟩ fun r hr=>.inl hr
end
end Mine
namespace Mine
section
variable {κ:Type} [DecidableEq κ] {g:List (κ×List κ)}
noncomputable def unseen (g:List (κ×List κ)) (dl:List (κ×Int)):Nat:=(g.map (·.1)).countP fun y=>match look dl y with|some e=>decide (e=-1)|none=>false
structure Bf (g:List (κ×List κ)) (st0:HS κ) (q:List κ) (st:HS κ):Prop where
 pl:st.pl=st0.pl
 pr:st.pr=st0.pr
 sh:Sh g st
 low:∀y d,look st.dl y=some d→d=-1∨0≤d
 back:∀y d,look st.dl y=some d→0≤d→(look st.pl y=none∧d=0)∨∃p dp rs r,look st.dl p=some dp∧0≤dp∧d=dp+1∧look g p=some rs∧r∈rs∧look st.pr r=some y
 free:∀y,(look g y).isSome→look st.pl y=none→look st.dl y=some 0
 qs:∀y∈q,∃d,look st.dl y=some d∧0≤d
 far:st.rf≠-1→∃v rs r d,look st.dl v=some d∧0≤d∧st.rf=d+1∧look g v=some rs∧r∈rs∧look st.pr r=none
noncomputable def Sees (st:HS κ) (r:κ):Prop:=∃o,look st.pr r=some o∧∃d,look st.dl o=some d∧0≤d
noncomputable def Scan (g:List (κ×List κ)) (q:List κ) (st:HS κ):Prop:=st.rf=-1→∀y d,look st.dl y=some d→0≤d→y∈q∨∀rs,look g y=some rs→∀r∈rs,Sees st r
theorem Sees.keep {st st':HS κ} {r:κ} (h:Sees st r) (hp:st'.pr=st.pr) (hk:∀y d,look st.dl y=some d→0≤d→look st'.dl y=some d):Sees st' r:=
 let ⟨o,a,d,b,c⟩:=h; ⟨o,by rw[hp]; exact a,d,hk _ _ b c,c⟩
theorem edges_ok (Z:Small g) {st0:HS κ} {v:κ} {vs:List κ} (hv:look g v=some vs):∀(rs:List κ) (q:List κ) (st:HS κ),(∀r∈rs,r∈vs)→Bf g st0 q st→(∃d,look st.dl v=some d∧0≤d) →
  (st.rf=-1→∀r∈vs,r∈rs∨Sees st r)→(st.rf=-1→∀y d,look st.dl y=some d→0≤d→y∈v::q∨∀rs,look g y=some rs→∀r∈rs,Sees st r)→q.length+unseen g st.dl≤1000 →
  ∃q' st',bfsEdges v rs q st=some (q',st')∧Bf g st0 q' st'∧Scan g q' st'∧q'.length+unseen g st'.dl≤q.length+unseen g st.dl:=by
 intro rs
 induction rs with
 | nil=>
  intro q st _ B _ hs hc _
  refine⟨q,st,rfl,B,fun hr y d hy hd=>?_,Nat.le_refl _⟩
  rcases hc hr y d hy hd with h|h
  ·rcases List.mem_cons.mp h with rfl|h
   ·exact .inr fun rs' e r hr'=>(hs hr r (by rw[hv] at e; (obtain rfl:=Option.some.inj e); exact hr')).resolve_left (by simp)
   ·exact .inl h
  ·exact .inr h
 | cons r rs ih=>
  intro q st hm B hd hs hc hz
  obtain⟨d,hd,hd0⟩:=hd
  have hr:=hm r (.head _)
  have hm':∀r∈rs,r∈vs:=fun x hx=>hm x (.tail _ hx)
  unfold bfsEdges
  rcases hp:look st.pr r with _|o
  ·
   dsimp only
   by_cases hrf:st.rf=-1
   ·rw[if_pos hrf,hd]
    refine ih q { st with rf:=d+1 } hm' ⟨B.pl,B.pr,⟨B.sh.tl,B.sh.tr,B.sh.nl,B.sh.nr,B.sh.nd,B.sh.dom,B.sh.sub⟩,B.low,B.back,B.free,B.qs,fun _=>⟨v,vs,r,d,hd,hd0,rfl,hv,hr,hp⟩⟩ ⟨d,hd,hd0⟩ (fun e=>?_) (fun e=>?_) hz
    ·have:d+1=-1:=e
     lia
    ·have:d+1=-1:=e
     lia
   ·rw[if_neg hrf]
    exact ih q st hm' B ⟨d,hd,hd0⟩ (fun e=>absurd e hrf) (fun e=>absurd e hrf) hz
  ·
   dsimp only
   refine E1A2 (B.sh.tr _ _ hp) fun ors hog _=>?_
   obtain⟨d1,hd1⟩:=Option.isSome_iff_exists.mp (B.sh.dom o (by rw[hog]; rfl))
   rw[hd1]
   dsimp only
   by_cases hneg:d1=-1
   ·subst hneg
    rw[if_pos rfl,hd]
    dsimp only[Option.bind_some]
    rw[if_pos (by lia)]
    obtain⟨e,S⟩:=B.sh.dist Z (d+1) (by rw[hog]; rfl:(look g o).isSome)
    rw[e]
    dsimp only[Option.bind_some]
    have hov:o≠v:=fun e=>by subst e; rw[hd] at hd1; (obtain rfl:=Option.some.inj hd1); exact Int.lt_irrefl _ (by assumption)
    have keep:∀y e,look st.dl y=some e→0≤e→look (put st.dl o (d+1)) y=some e:=fun y e h he=>by
     rw[look_put,if_neg (fun q=>by subst q; rw[hd1] at h; (obtain rfl:=Option.some.inj h); exact Int.lt_irrefl _ (by assumption))]; exact h
    have hcount:unseen g (put st.dl o (d+1))+1≤unseen g st.dl:=by
     refine countP_lt (x:=o) (fun y _ hy=>?_) (look_isSome.mp (by rw[hog]; rfl)) ?_ ?_
     ·by_cases e:o=y
      ·subst e
       rw[look_put_self] at hy
       have:=of_decide_eq_true hy
       lia
      ·rw[look_put_ne _ _ e] at hy
       exact hy
     ·rw[hd1]; rfl
     ·rw[look_put_self]; exact decide_eq_false (by lia)
    have B':Bf g st0 (q++[o]) { st with dl:=put st.dl o (d+1) }:=by
     refine⟨B.pl,B.pr,S,fun y e h=>?_,fun y e h he=>?_,fun y hy hf=>?_,fun y hy=>?_,fun hrf=>?_⟩
     ·rw[look_put] at h
      revert h; refine iteInduction (motive:=fun x=>x=_→_) (fun _ h=>?_) fun _ h=>?_
      ·(obtain rfl:=Option.some.inj h); exact .inr (by exact Int.le_add_one (by assumption))
      ·exact B.low _ _ h
     ·by_cases hy:o=y
      ·subst hy
       rw[look_put_self] at h
       (obtain rfl:=Option.some.inj h)
       exact .inr ⟨v,d,vs,r,keep _ _ hd hd0,hd0,rfl,hv,hr,hp⟩
      ·rw[look_put_ne _ _ hy] at h
       rcases B.back y e h he with h|⟨p,dp,ps,x,a,b,c,d',e',f⟩
       ·exact .inl h
       ·exact .inr ⟨p,dp,ps,x,keep _ _ a b,b,c,d',e',f⟩
     ·exact keep _ _ (B.free y hy hf) (Int.le_refl 0)
     ·rcases List.mem_append.mp hy with h|h
      ·refine E1A2 (B.qs y h) fun e a b=>?_
       exact⟨e,keep _ _ a b,b⟩
      ·rw[List.mem_singleton.mp h]
       exact⟨d+1,look_put_self _ _ _,by exact Int.le_add_one (by assumption)⟩
     ·refine E4A6 (B.far hrf) fun v' rs' r' d' a b c d'' e' f=>?_
      exact⟨v',rs',r',d',keep _ _ a b,b,c,d'',e',f⟩
    have hs':st.rf=-1→∀x∈vs,x∈rs∨Sees { st with dl:=put st.dl o (d+1) } x:=fun hrf x hx=>by
     rcases hs hrf x hx with h|h
     ·rcases List.mem_cons.mp h with rfl|h
      ·exact .inr ⟨o,hp,d+1,look_put_self _ _ _,by exact Int.le_add_one (by assumption)⟩
      ·exact .inl h
     ·exact .inr (h.keep rfl keep)
    have hc':st.rf=-1→∀y e,look (put st.dl o (d+1)) y=some e→0≤e→y∈v::(q++[o])∨∀rs,look g y=some rs→∀r∈rs,Sees { st with dl:=put st.dl o (d+1) } r:=fun hrf y e h he=>by
     by_cases hy:o=y
     ·subst hy; exact .inl (by simp)
     ·rw[look_put_ne _ _ hy] at h
      rcases hc hrf y e h he with h|h
      ·exact .inl (by rcases List.mem_cons.mp h with rfl|h; exact .head _; exact .tail _ (List.mem_append_left _ h))
      ·exact .inr fun rs' hrs x hx=>(h rs' hrs x hx).keep rfl keep
    have hl:(q++[o]).length=q.length+1:=by exact List.length_append ..
    obtain⟨q',st',h1,h2,h3,h4⟩:=ih (q++[o]) { st with dl:=put st.dl o (d+1) } hm' B' ⟨d,keep _ _ hd hd0,hd0⟩ hs' hc' (by rw[hl]; show q.length+1+unseen g (put st.dl o (d+1))≤1000; lia)
    refine⟨q',st',h1,h2,h3,Nat.le_trans h4 ?_⟩
    rw[hl]
    show q.length+1+unseen g (put st.dl o (d+1))≤_
    lia
   ·rw[if_neg hneg]
    refine ih q st hm' B ⟨d,hd,hd0⟩ (fun hrf x hx=>?_) hc hz
    rcases hs hrf x hx with h|h
    ·rcases List.mem_cons.mp h with rfl|h
     ·exact .inr ⟨o,hp,d1,hd1,(B.low _ _ hd1).resolve_left hneg⟩
     ·exact .inl h
    ·exact .inr h
end
end Mine
namespace Mine
section
variable {κ:Type} [DecidableEq κ] {g:List (κ×List κ)}
theorem loop_ok (Z:Small g) {st0:HS κ}:∀(N:Nat) (q:List κ) (st:HS κ),Bf g st0 q st→Scan g q st→q.length+unseen g st.dl<N→q.length+unseen g st.dl≤1000 →
  ∃st',bfsLoop g N q st=some st'∧Bf g st0 [] st'∧Scan g [] st':=by
 intro N
 induction N with
 | zero=>intro q st _ _ h _; exact absurd (by assumption) (Nat.not_lt_zero _)
 | succ N ih=>
  intro q st B S hN hz
  rcases q with _|⟨v,q⟩
  ·exact⟨st,rfl,B,S⟩
  ·
   unfold bfsLoop
   have hz':(v::q).length=q.length+1:=rfl
   rw[hz'] at hN hz
   rw[if_pos (by lia)]
   refine E1A2 (B.qs v (.head _)) fun d hd hd0=>?_
   have B':Bf g st0 q st:=⟨B.pl,B.pr,B.sh,B.low,B.back,B.free,fun y hy=>B.qs y (.tail _ hy),B.far⟩
   rw[hd]
   dsimp only
   rw[if_neg (fun e=>by have:=e.1.trans e.2; lia)]
   by_cases h2:st.rf≤d∧st.rf≠-1
   ·rw[if_pos h2]
    exact ih q st B' (fun e=>absurd e h2.2) (by lia) (by lia)
   ·rw[if_neg h2]
    obtain⟨vs,hv⟩:=Option.isSome_iff_exists.mp (B.sh.sub v (by rw[hd]; rfl))
    rw[hv]
    dsimp only[Option.bind_some]
    refine E2A4 (edges_ok Z hv vs q st (fun _ h=>h) B' ⟨d,hd,hd0⟩ (fun _ r hr=>.inl hr) S (by lia)) fun q' st' e B2 S2 hc=>?_
    rw[e]
    exact ih q' st' B2 S2 (by lia) (by lia)
noncomputable def Cover (g:List (κ×List κ)) (st:HS κ):Prop:=
 (∀y,(look g y).isSome→look st.pl y=none→∃d,look st.dl y=some d∧0≤d)∧∀y d,look st.dl y=some d→0≤d→∀rs,look g y=some rs→∀r∈rs,Sees st r
theorem init_ok (Z:Small g) {st0:HS κ}:∀(ls:List κ) (q:List κ) (st:HS κ),(∀l∈ls,(look g l).isSome)→Sh g st→st.pl=st0.pl→st.pr=st0.pr→q.length+ls.length≤1000 →
  ∃q' st',bfsInit ls q st=some (q',st')∧Sh g st'∧st'.pl=st0.pl∧st'.pr=st0.pr∧st'.rf=st.rf∧q'.length≤q.length+ls.countP (fun l=>(look st0.pl l).isNone) ∧
   (∀y,y∈q'↔y∈q∨(y∈ls∧look st0.pl y=none)) ∧
   (∀y,look st'.dl y=if y∈ls then some (if(look st0.pl y).isSome then -1 else 0) else look st.dl y):=by
 intro ls
 induction ls with
 | nil=>intro q st _ S hp hr _; exact⟨q,st,rfl,S,hp,hr,rfl,by exact Nat.le_refl _,fun y=>by simp,fun y=>by rfl⟩
 | cons l ls ih=>
  intro q st hk S hp hr hz
  have hz':(l::ls).length=ls.length+1:=rfl
  rw[hz'] at hz
  have hk':∀l∈ls,(look g l).isSome:=fun x hx=>hk x (.tail _ hx)
  unfold bfsInit
  rw[hp]
  rcases hl:look st0.pl l with _|r
  ·
   dsimp only
   rw[if_pos (by lia)]
   refine E0A2 (S.dist Z 0 (hk l (.head _))) fun e S'=>?_
   rw[e]
   dsimp only[Option.bind_some]
   obtain⟨q',st',h1,h2,h3,h4,h5,h6,h7,h8⟩:=ih (q++[l]) _ hk' S' hp hr (by simp; lia)
   refine⟨q',st',h1,h2,h3,h4,h5,?_,fun y=>?_,fun y=>?_⟩
   ·rw[List.countP_cons,hl]
    simp only[List.length_append,List.length_cons,List.length_nil] at h6
    simp only[Option.isNone_none,if_true]
    lia
   ·rw[h7]
    simp only[List.mem_append,List.mem_cons,List.not_mem_nil,or_false]
    constructor
    ·rintro((h|h)|h)
     ·exact .inl h
     ·exact .inr ⟨.inl h,h▸hl⟩
     ·exact .inr ⟨.inr h.1,h.2⟩
    ·rintro(h|⟨h|h,h'⟩)
     ·exact .inl (.inl h)
     ·exact .inl (.inr h)
     ·exact .inr ⟨h,h'⟩
   ·rw[h8]
    rw[look_put]
    by_cases hy:y∈ls
    ·rw[if_pos hy,if_pos (List.mem_cons_of_mem _ hy)]
    ·rw[if_neg hy]
     by_cases hly:l=y
     ·subst hly; rw[if_pos rfl,if_pos (List.mem_cons_self ..),hl]; rfl
     ·rw[if_neg hly,if_neg (by simp[hy,Ne.symm hly])]
  ·
   dsimp only
   refine E0A2 (S.dist Z (-1) (hk l (.head _))) fun e S'=>?_
   rw[e]
   dsimp only[Option.bind_some]
   refine E2A8 (ih q _ hk' S' hp hr (by exact Nat.le_of_lt (by assumption))) fun q' st' h1 h2 h3 h4 h5 h6 h7 h8=>?_
   refine⟨q',st',h1,h2,h3,h4,h5,?_,fun y=>?_,fun y=>?_⟩
   ·rw[List.countP_cons,hl]
    exact(by assumption)
   ·rw[h7]
    simp only[List.mem_cons]
    constructor
    ·rintro(h|h)
     ·exact .inl h
     ·exact .inr ⟨.inr h.1,h.2⟩
    ·rintro(h|⟨h|h,h'⟩)
     ·exact .inl h
     ·subst h; rw[hl] at h'; contradiction
     ·exact .inr ⟨h,h'⟩
   ·rw[h8]
    rw[look_put]
    by_cases hy:y∈ls
    ·rw[if_pos hy,if_pos (List.mem_cons_of_mem _ hy)]
    ·rw[if_neg hy]
     by_cases hly:l=y
     ·subst hly; rw[if_pos rfl,if_pos (List.mem_cons_self ..),hl]; rfl
     ·rw[if_neg hly,if_neg (by simp[hy,Ne.symm hly])]
theorem bfs_ok (Z:Small g) {st:HS κ} {N:Nat} (S:Sh g st) (hN:g.length<N) :
  ∃b st',bfsM g N st=some (b,st')∧Sh g st'∧st'.pl=st.pl∧st'.pr=st.pr∧(∀y,(look g y).isSome→look st.pl y=none→look st'.dl y=some 0) ∧
   (b=true→∃y,(look g y).isSome∧look st.pl y=none∧Aug g st'.pr st'.rf st'.dl y)∧(b=false→Cover g st'):=by
 obtain⟨q,st1,h1,S1,hp,hr,_,h6,h7,h8⟩:=init_ok Z (st0:=st) (g.map (·.1)) [] st (fun l hl=>look_isSome.mpr hl) S rfl rfl (by simp; exact Z.l)
 have key:∀y,y∈g.map (·.1)↔(look g y).isSome:=fun y=>look_isSome.symm
 have hdl:∀y d,look st1.dl y=some d→(look g y).isSome∧d=if(look st.pl y).isSome then -1 else 0:=fun y d e=>by
  have hk:=S1.sub y (by rw[e]; rfl)
  rw[h8,if_pos ((key y).mpr hk)] at e
  exact⟨hk,(Option.some.inj e).symm⟩
 have B:Bf g st q { st1 with rf:=-1 }:=by
  refine⟨hp,hr,⟨S1.tl,S1.tr,S1.nl,S1.nr,S1.nd,S1.dom,S1.sub⟩,fun y d e=>?_,fun y d e he=>?_,fun y hy hf=>?_,fun y hy=>?_,fun h=>absurd rfl h⟩
  ·refine E0A2 (hdl y d e) fun _ h=>?_
   split at h
   ·exact .inl h
   ·exact .inr (by lia)
  ·refine E0A2 (hdl y d e) fun _ h=>?_
   split at h
   ·lia
   ·rename_i q'
    refine .inl ⟨?_,h⟩
    rw[hp]
    rcases e2:look st.pl y with _|x
    ·rfl
    ·rw[e2] at q'; exact absurd rfl q'
  ·skip
   have hf':look st.pl y=none:=by rw[←hp]; exact hf
   rw[h8,if_pos ((key y).mpr hy),hf']; rfl
  ·rcases(h7 y).mp hy with h|⟨h,h'⟩
   ·contradiction
   ·exact⟨0,by show look st1.dl y=some 0; rw[h8,if_pos h,h']; rfl,Int.le_refl 0⟩
 have SC:Scan g q { st1 with rf:=-1 }:=fun _ y d e he=>by
  obtain⟨hk,h⟩:=hdl y d e
  split at h
  ·lia
  ·rename_i q'
   refine .inl ((h7 y).mpr (.inr ⟨(key y).mpr hk,?_⟩))
   rcases e2:look st.pl y with _|x
   ·rfl
   ·rw[e2] at q'; exact absurd rfl q'
 have hcount:q.length+unseen g st1.dl≤g.length:=by
  have a:unseen g st1.dl≤(g.map (·.1)).countP (fun l=>!(look st.pl l).isNone):=by
   refine List.countP_mono_left fun y hy h=>?_
   rw[h8,if_pos hy] at h
   have h':=of_decide_eq_true h
   rcases e2:look st.pl y with _|x
   ·rw[e2] at h'; simp at h'
   ·rfl
  have b:=List.length_eq_countP_add_countP (fun l=>(look st.pl l).isNone) (l:=g.map (·.1))
  simp only[List.length_map,List.length_nil,Nat.zero_add] at b h6
  have c:(g.map (·.1)).countP (fun l=>!(look st.pl l).isNone)=(g.map (·.1)).countP (fun a=>decide (¬(look st.pl a).isNone=true)):=by
   congr 1; funext l; cases (look st.pl l).isNone <;> rfl
  lia
 obtain⟨st2,e2,B2,SC2⟩:=loop_ok Z N q { st1 with rf:=-1 } B SC (by show q.length+unseen g st1.dl<N; exact Nat.lt_of_le_of_lt (by assumption) (by assumption)) (by show q.length+unseen g st1.dl≤1000; have:=Z.l; exact Nat.le_trans (by assumption) (by assumption))
 refine⟨decide (st2.rf≠-1),st2,?_,B2.sh,B2.pl,B2.pr,fun y hy hf=>B2.free y hy (by rw[B2.pl]; exact hf),fun hb=>?_,fun hb=>?_⟩
 ·unfold bfsM
  rw[h1]
  dsimp only[Option.bind_some]
  rw[e2]
  rfl
 ·have hrf:=of_decide_eq_true hb
  refine E4A6 (B2.far hrf) fun v rs r d a b c d' e' f=>?_
  have root:∀(n:Nat) (y:κ) (d:Int),look st2.dl y=some d→0≤d→d.toNat≤n→Aug g st2.pr st2.rf st2.dl y→∃y,(look g y).isSome∧look st.pl y=none∧Aug g st2.pr st2.rf st2.dl y:=by
   intro n
   induction n with
   | zero=>
    intro y d hd h0 hn A
    rcases B2.back y d hd h0 with h|⟨p,dp,ps,x,a,b,c,_⟩
    ·exact⟨y,B2.sh.sub y (by rw[hd]; rfl),by rw[←B2.pl]; exact h.1,A⟩
    ·lia
   | succ n ih=>
    intro y d hd h0 hn A
    rcases B2.back y d hd h0 with h|⟨p,dp,ps,x,a,b,c,d',e',f⟩
    ·exact⟨y,B2.sh.sub y (by rw[hd]; rfl),by rw[←B2.pl]; exact h.1,A⟩
    ·exact ih p dp a b (by lia) (.step d' e' f a (by rw[hd,c]) A)
  exact root d.toNat v d a b (Nat.le_refl _) (.free d' e' f a c)
 ·have hrf:st2.rf=-1:=by
   have:=of_decide_eq_false hb
   exact Decidable.not_not.mp this
  exact⟨fun y hy hf=>⟨0,B2.free y hy hf,Int.le_refl 0⟩,fun y d hd h0=>((SC2 hrf) y d hd h0).resolve_left (by simp)⟩
end
end Mine
namespace Mine
section
variable {κ:Type} [DecidableEq κ] {g:List (κ×List κ)}
theorem above_le (dl:List (κ×Int)) (d:Int):above g dl d≤g.length:=by
 have:=List.countP_le_length (p:=fun y=>match look dl y with|some e=>decide (d<e)|none=>false) (l:=g.map (·.1))
 rw[List.length_map] at this
 exact this
theorem phase_ok (Z:Small g) {N:Nat} (hN:g.length<N):∀(ls:List κ) (c:Int) (st:HS κ),ls.Nodup→Sh g st→Cons st→(∀l∈ls,look st.pl l=none→look st.dl l=some 0) →
  ∃c' st',phase g N ls c st=some (c',st')∧Sh g st'∧Cons st'∧c'+st.pl.length=c+st'.pl.length∧st.pl.length≤st'.pl.length ∧
   ((∃l∈ls,look st.pl l=none∧Aug g st.pr st.rf st.dl l)→st.pl.length<st'.pl.length):=by
 intro ls
 induction ls with
 | nil=>intro c st _ S C _; exact⟨c,st,rfl,S,C,rfl,Nat.le_refl _,fun zz25=>E1A2 zz25 fun l hl _=>by cases hl⟩
 | cons x ls ih=>
  intro c st hn S C hd
  simp only[List.nodup_cons] at hn
  unfold phase
  rcases hx:look st.pl x with _|r
  rotate_left
  ·
   dsimp only
   refine E2A6 (ih c st hn.2 S C fun l hl=>hd l (.tail _ hl)) fun c' st' e a b d f h=>?_
   refine⟨c',st',e,a,b,d,f,fun zz23=>E1A3 zz23 fun l hl h1 h2=>h ⟨l,?_,h1,h2⟩⟩
   rcases List.mem_cons.mp hl with rfl|hl
   ·rw[hx] at h1; contradiction
   ·exact hl
  ·
   have h0:=hd x (.head _) hx
   have hab:=above_le (g:=g) st.dl 0
   rcases dfs_ok Z N st x 0 S C h0 (Int.le_refl 0) (by exact Nat.lt_of_le_of_lt (by assumption) (by assumption)) with⟨st1,e,L⟩|⟨st1,e,F⟩
   ·rw[e]
    dsimp only[Option.bind_some]
    have C1:Cons st1:=fun l r=>by rw[L.pl,L.pr]; exact C l r
    obtain⟨c',st',e',a,b,d,f,h⟩:=ih c st1 hn.2 L.sh C1 fun l hl hf=>by
     rw[L.pl] at hf
     rcases L.dl l with q|⟨_,_,_,rfl|q⟩
     ·rw[q]; exact hd l (.tail _ hl) hf
     ·exact absurd hl hn.1
     ·rw[hf] at q; contradiction
    rw[L.pl] at d f h
    refine⟨c',st',e',a,b,d,f,fun zz21=>E1A3 zz21 fun l hl h1 h2=>h ⟨l,?_,h1,?_⟩⟩
    ·rcases List.mem_cons.mp hl with rfl|hl
     ·exact absurd h2 L.non
     ·exact hl
    ·simp only[L.pr,L.rf]
     refine h2.mono fun y hy=>?_
     rcases L.dl y with q|⟨_,q,_⟩
     ·exact q
     ·exact absurd hy q
   ·rw[e]
    dsimp only[Option.bind_some]
    have C1:Cons st1:=fun l r=>by
     rw[F.cons,hx]
     exact⟨fun q=>q.1,fun q=>⟨q,by simp⟩⟩
    have hlen:st1.pl.length=st.pl.length+1:=by rw[F.len,hx]; rfl
    obtain⟨c',st',e',a,b,d,f,h⟩:=ih (c+1) st1 hn.2 F.sh C1 fun l hl hf=>by
     have hf':look st.pl l=none:=by
      rcases q:look st.pl l with _|r
      ·rfl
      ·
       have:=(F.keys l).mpr (.inl (by rw[q]; rfl))
       rw[hf] at this; contradiction
     rcases F.dl l with q|⟨_,q⟩
     ·rw[q]; exact hd l (.tail _ hl) hf'
     ·rw[hf'] at q; contradiction
    refine⟨c',st',e',a,b,by lia,by exact ln1 (by assumption) (by assumption),fun _=>by exact eq2 (by assumption) (by assumption)⟩
theorem phases_ok (Z:Small g) (hn:(g.map (·.1)).Nodup) {N:Nat} (hN:g.length<N):∀(k:Nat) (c:Int) (st:HS κ),Sh g st→Cons st→g.length<k+st.pl.length →
  ∃st',phases g N k c st=some (c+st'.pl.length - st.pl.length,st')∧Sh g st'∧Cons st'∧Cover g st':=by
 intro k
 induction k with
 | zero=>
  intro c st S C hk
  have:=nodup_le (m:=g.map (·.1)) S.nl fun x hx=>by
   refine E1A1 (Option.isSome_iff_exists.mp (look_isSome.mpr hx)) fun r hr=>?_
   refine E1A2 (S.tl _ _ hr) fun rs h _=>?_
   exact look_isSome.mp (by rw[h]; rfl)
  simp only[List.length_map] at this
  lia
 | succ k ih=>
  intro c st S C hk
  refine E2A7 (bfs_ok Z S hN) fun b st1 e S1 hp hr hf hb1 hb0=>?_
  unfold phases
  rw[e]
  dsimp only[Option.bind_some]
  have C1:Cons st1:=fun l r=>by rw[hp,hr]; exact C l r
  rcases b with _|_
  ·
   refine⟨st1,?_,S1,C1,hb0 rfl⟩
   rw[if_neg (by simp),hp]
   congr 2
   lia
  ·
   rw[if_pos rfl]
   obtain⟨c',st2,e2,S2,C2,h1,h2,h3⟩:=phase_ok Z hN (g.map (·.1)) c st1 hn S1 C1 fun l hl h=>hf l (look_isSome.mpr hl) (by rw[←hp]; exact h)
   refine E1A3 (hb1 rfl) fun y hy hy1 hy2=>?_
   have h4:=h3 ⟨y,look_isSome.mp hy,by rw[hp]; exact hy1,hy2⟩
   rw[e2]
   dsimp only[Option.bind_some]
   rw[hp] at h1 h4
   refine E1A4 (ih c' st2 S2 C2 (by lia)) fun st3 e3 S3 C3 V3=>?_
   refine⟨st3,?_,S3,C3,V3⟩
   rw[e3]
   congr 2
   lia
theorem start_ok:∀(ls:List κ) (st:HS κ),(∀l,(look st.dl l).isSome→(look g l).isSome)→(∀l∈ls,(look g l).isSome)→(st.dl.map (·.1)).Nodup→Small g →
  ∃dl,initDist ls st=some { st with dl:=dl }∧(dl.map (·.1)).Nodup∧(∀l,(look dl l).isSome↔l∈ls∨(look st.dl l).isSome):=by
 intro ls
 induction ls with
 | nil=>intro st _ _ hn _; exact⟨st.dl,rfl,hn,fun l=>by simp⟩
 | cons x ls ih=>
  intro st hs hk hn Z
  have hz:st.dl.length≤1000:=by
   have:=nodup_le (m:=g.map (·.1)) hn fun y hy=>look_isSome.mp (hs y (look_isSome.mpr hy))
   simp only[List.length_map] at this
   exact Nat.le_trans this Z.l
  unfold initDist HS.dist
  rw[if_pos hz]
  dsimp only[Option.bind_some]
  obtain⟨dl,e,h1,h2⟩:=ih { st with dl:=put st.dl x (-1) } (fun l h=>by
   rw[look_put] at h
   split at h
   ·rename_i q; subst q; exact hk _ (.head _)
   ·exact hs l h) (fun l hl=>hk l (.tail _ hl)) (put_nodup _ _ _ hn) Z
  refine⟨dl,e,h1,fun l=>?_⟩
  rw[h2,look_put,List.mem_cons]
  by_cases hx:x=l
  ·subst hx; simp
  ·rw[if_neg hx]
   exact⟨fun q=>q.elim (fun h=>.inl (.inr h)) .inr,fun q=>q.elim (fun h=>.inl (h.resolve_left fun e=>hx e.symm)) .inr⟩
theorem run_ok (Z:Small g) (hn:(g.map (·.1)).Nodup) {N:Nat} (hN:g.length<N) (st:HS κ) :
  ∃st',runM g N st=some ((st'.pl.length:Int),st')∧Sh g st'∧Cons st'∧Cover g st':=by
 refine E1A3 (start_ok (g:=g) (g.map (·.1)) { st with pl:=[],pr:=[],dl:=[] } (fun l h=>(by contradiction)) (fun l hl=>look_isSome.mpr hl) List.nodup_nil Z) fun dl e h1 h2=>?_
 have S:Sh g { st with pl:=[],pr:=[],dl:=dl }:=by
  refine⟨fun l r h=>?_,fun l r h=>?_,List.nodup_nil,List.nodup_nil,h1,fun l h=>(h2 l).mpr (.inl (look_isSome.mp h)),fun l h=>?_⟩
  ·contradiction
  ·contradiction
  ·rcases(h2 l).mp h with q|q
   ·exact look_isSome.mpr q
   ·contradiction
 have C:Cons { st with pl:=[],pr:=[],dl:=dl }:=fun l r=>by
  constructor
  ·intro h; contradiction
  ·intro h; contradiction
 obtain⟨st',e',S',C',V'⟩:=phases_ok Z hn hN N 0 { st with pl:=[],pr:=[],dl:=dl } S C (by show g.length<N+0; exact(by assumption))
 refine⟨st',?_,S',C',V'⟩
 unfold runM
 rw[e]
 dsimp only[Option.bind_some]
 rw[e']
 congr 2
 simp
end
end Mine
namespace Mine
noncomputable def addBit (m:List (Int×Nat)) (e:Int×Int):List (Int×Nat):=put m e.1 ((look m e.1).getD 0+2 ^ e.2.toNat)
noncomputable def masksM (es:List (Int×Int)):List (Int×Nat):=es.foldl addBit []
noncomputable def pairsM (ms:List (Int×Nat)):List (Nat×Nat):=ms.foldl (fun acc p=>acc++acc.map fun x=>(x.1 ||| p.2,x.2+1)) [(0,0)]
noncomputable def pop (u:Nat):Nat:=((List.range 6).map fun r=>u / 2 ^ r % 2).sum
noncomputable def lackM (xs:List (Nat×Nat)):Int:=xs.foldl (fun a x=>max a ((x.2:Int) - pop x.1)) 0
noncomputable def mostM (es:List (Int×Int)):Int:=(masksM es).length - lackM (pairsM (masksM es))
theorem bits_add:∀m<64,∀r<6,m.testBit r=false→m+2 ^ r<64∧∀k<6,(m+2 ^ r).testBit k=(m.testBit k || decide (r=k)):=by decide +kernel
theorem bits_pop:∀m<64,pop m=((List.range 6).filter fun r=>m.testBit r).length:=by decide +kernel
structure MaskOk (ms:List (Int×Nat)) (es:List (Int×Int)):Prop where
 nd:(ms.map (·.1)).Nodup
 no:∀l,look ms l=none→∀r,(l,r)∉es
 is:∀l m,look ms l=some m→m<64∧∀r<6,m.testBit r=true↔(l,(r:Int))∈es
theorem mask_step {ms:List (Int×Nat)} {es:List (Int×Int)} {e:Int×Int} (M:MaskOk ms es) (he:0≤e.2∧e.2<6) (hn:e∉es):MaskOk (addBit ms e) (es++[e]):=by
 obtain⟨l0,r0⟩:=e
 dsimp only at he
 have hr:r0.toNat<6:=by exact tnB (by assumption)
 have hcast:(r0.toNat:Int)=r0:=by exact tnA (by assumption)
 unfold addBit
 refine⟨put_nodup _ _ _ M.nd,fun l h r hm=>?_,fun l m h=>?_⟩
 ·dsimp only at h
  rw[look_put] at h
  revert h; refine iteInduction (motive:=fun x=>x=_→_) (fun _ h=>?_) fun _ h=>?_
  ·contradiction
  ·rename_i hne
   rcases List.mem_append.mp hm with q|q
   ·exact M.no l h r q
   ·have:=List.mem_singleton.mp q
    exact hne (congrArg Prod.fst this).symm
 ·dsimp only at h
  rw[look_put] at h
  revert h; refine iteInduction (motive:=fun x=>x=_→_) (fun _ h=>?_) fun _ h=>?_
  ·rename_i hl
   subst hl
   (obtain rfl:=Option.some.inj h)
   rcases hm:look ms l0 with _|m
   ·
    have h0:=bits_add 0 (by decide) r0.toNat hr (by simp)
    refine⟨h0.1,fun r hr'=>?_⟩
    simp only[Option.getD_none,h0.2 r hr']
    simp only[Nat.zero_testBit,Bool.false_or,decide_eq_true_eq,List.mem_append,List.mem_singleton,Prod.mk.injEq,true_and]
    exact⟨fun q=>.inr (by lia),fun q=>(by rcases q with q|q; exact absurd q (M.no _ hm _); lia)⟩
   ·
    refine E0A2 (M.is l0 m hm) fun h1 h2=>?_
    have hb:m.testBit r0.toNat=false:=by
     rcases q:m.testBit r0.toNat with _|_
     ·rfl
     ·exact absurd (hcast▸(h2 _ hr).mp q) hn
    have h0:=bits_add m h1 r0.toNat hr hb
    refine⟨h0.1,fun r hr'=>?_⟩
    simp only[Option.getD_some,h0.2 r hr']
    simp only[Bool.or_eq_true,decide_eq_true_eq,List.mem_append,List.mem_singleton,Prod.mk.injEq,true_and,h2 r hr']
    exact⟨fun q=>q.elim .inl fun q=>.inr (by lia),fun q=>q.elim .inl fun q=>.inr (by lia)⟩
  ·rename_i hne
   refine E0A2 (M.is l m h) fun h1 h2=>?_
   refine⟨h1,fun r hr'=>?_⟩
   simp only[h2 r hr',List.mem_append,List.mem_singleton]
   exact⟨.inl,fun q=>q.resolve_right fun e=>hne (congrArg Prod.fst e).symm⟩
theorem masks_go:∀(es done:List (Int×Int)) (ms:List (Int×Nat)),MaskOk ms done→(done++es).Nodup→(∀e∈es,0≤e.2∧e.2<6)→MaskOk (es.foldl addBit ms) (done++es)
 | [],done,ms,M,_,_=>by rw[List.append_nil]; exact M
 | e::es,done,ms,M,hn,he=>by
  have h1:done++e::es=(done++[e])++es:=by simp
  rw[h1] at hn ⊢
  refine masks_go es (done++[e]) (addBit ms e) (mask_step M (he _ (.head _)) fun q=>?_) hn fun x hx=>he x (.tail _ hx)
  have:=(List.nodup_append.mp (List.nodup_append.mp hn).1).2.2 e q e (.head _)
  exact this rfl
theorem masks_ok {es:List (Int×Int)} (hn:es.Nodup) (he:∀e∈es,0≤e.2∧e.2<6):MaskOk (masksM es) es:=by
 have:=masks_go es [] [] ⟨List.nodup_nil,fun _ _ _ h=>(by contradiction),fun _ _ h=>by cases h⟩ (by exact hn) he
 rw[List.nil_append] at this
 exact this
noncomputable def orAll (S:List (Int×Nat)):Nat:=S.foldr (fun p u=>u ||| p.2) 0
theorem or_testBit (S:List (Int×Nat)) (r:Nat):(orAll S).testBit r=true↔∃p∈S,p.2.testBit r=true:=by
 induction S with
 | nil=>simp[orAll]
 | cons p S ih=>
  show((orAll S) ||| p.2).testBit r=true↔_
  simp only[Nat.testBit_or,Bool.or_eq_true,ih]
  simp only[List.mem_cons,exists_eq_or_imp]
  exact Or.comm
theorem or_lt {S:List (Int×Nat)} (h:∀p∈S,p.2<64):orAll S<64:=by
 induction S with
 | nil=>exact(by decide:0<64)
 | cons p S ih=>exact Nat.or_lt_two_pow (n:=6) (ih fun q hq=>h q (.tail _ hq)) (h p (.head _))
theorem pairs_go:∀(ms done:List (Int×Nat)) (acc:List (Nat×Nat)),
  ((∀x∈acc,∃S:List (Int×Nat),S.Sublist done∧x.1=orAll S.reverse∧x.2=S.length)∧(∀S:List (Int×Nat),S.Sublist done→(orAll S.reverse,S.length)∈acc)) →
  let acc':=ms.foldl (fun acc p=>acc++acc.map fun x=>(x.1 ||| p.2,x.2+1)) acc
  (∀x∈acc',∃S:List (Int×Nat),S.Sublist (done++ms)∧x.1=orAll S.reverse∧x.2=S.length)∧(∀S:List (Int×Nat),S.Sublist (done++ms)→(orAll S.reverse,S.length)∈acc')
 | [],done,acc,h=>by simpa using h
 | p::ms,done,acc,⟨h1,h2⟩=>by
  have e:done++p::ms=(done++[p])++ms:=by simp
  simp only[e,List.foldl_cons]
  refine pairs_go ms (done++[p]) _ ⟨fun x hx=>?_,fun S hS=>?_⟩
  ·rcases List.mem_append.mp hx with hx|hx
   ·refine E1A3 (h1 x hx) fun S a b c=>?_
    exact⟨S,a.trans (List.sublist_append_left _ _),b,c⟩
   ·refine E1A2 (List.mem_map.mp hx) fun y hy ee7=>?_
    subst ee7
    refine E1A3 (h1 y hy) fun S a b c=>?_
    refine⟨S++[p],a.append (List.Sublist.refl _),?_,by simp[c]⟩
    rw[List.reverse_append,b]; rfl
  ·refine E2A3 (List.sublist_append_iff.mp hS) fun S1 S2 ee5 h3 h4=>?_
   subst ee5
   cases h4 with
   | cons _ h4=>
    have:S2=[]:=List.sublist_nil.mp h4
    subst this
    rw[List.append_nil]
    exact List.mem_append_left _ (h2 S1 h3)
   | cons_cons _ h4=>
    rename_i S3
    have:S3=[]:=List.sublist_nil.mp h4
    subst this
    refine List.mem_append_right _ (List.mem_map.mpr ⟨_,h2 S1 h3,?_⟩)
    rw[List.reverse_append]; simp[orAll]
theorem lack_ge (xs:List (Nat×Nat)) (a:Int):a≤xs.foldl (fun a x=>max a ((x.2:Int) - pop x.1)) a:=by
 induction xs generalizing a with
 | nil=>exact Int.le_refl _
 | cons x xs ih=>exact Int.le_trans (Int.le_max_left _ _) (ih _)
theorem lack_eq {xs:List (Nat×Nat)} {v:Int} (h0:0≤v) (h1:∀x∈xs,(x.2:Int) - pop x.1≤v) (h2:∃x∈xs,(x.2:Int) - pop x.1=v):lackM xs=v:=by
 have up:∀(ys:List (Nat×Nat)) (a:Int),a≤v→(∀x∈ys,(x.2:Int) - pop x.1≤v)→ys.foldl (fun a x=>max a ((x.2:Int) - pop x.1)) a≤v:=by
  intro ys
  induction ys with
  | nil=>exact fun a ha _=>ha
  | cons y ys ih=>exact fun a ha hy=>ih _ (Int.max_le.mpr ⟨ha,hy y (.head _)⟩) fun x hx=>hy x (.tail _ hx)
 have down:∀(ys:List (Nat×Nat)) (a:Int),(∃x∈ys,(x.2:Int) - pop x.1=v)→v≤ys.foldl (fun a x=>max a ((x.2:Int) - pop x.1)) a:=by
  intro ys
  induction ys with
  | nil=>exact fun a zz3=>E1A2 zz3 fun x hx _=>by contradiction
  | cons y ys ih=>
   intro a ⟨x,hx,e⟩
   rcases List.mem_cons.mp hx with rfl|hx
   ·have h:=lack_ge ys (max a ((x.2:Int) - pop x.1))
    have h':=Int.le_max_right a ((x.2:Int) - pop x.1)
    rw[List.foldl_cons]
    lia
   ·exact ih _ ⟨x,hx,e⟩
 exact Int.le_antisymm (up xs 0 h0 h1) (down xs 0 h2)
end Mine
namespace Mine
theorem nodup_map {α β:Type} {f:α→β}:∀ {l:List α},l.Nodup→(∀a∈l,∀b∈l,f a=f b→a=b)→(l.map f).Nodup
 | [],_,_=>List.nodup_nil
 | a::l,hn,hi=>by
  simp only[List.nodup_cons] at hn
  simp only[List.map_cons,List.nodup_cons]
  refine⟨fun hm=>?_,nodup_map hn.2 fun x hx y hy=>hi x (.tail _ hx) y (.tail _ hy)⟩
  refine E1A2 (List.mem_map.mp hm) fun b hb e=>?_
  have:=hi b (.tail _ hb) a (.head _) e
  subst this
  exact hn.1 hb
theorem nodup_of_map {α β:Type} {f:α→β}:∀ {l:List α},(l.map f).Nodup→l.Nodup
 | [],_=>List.nodup_nil
 | a::l,h=>by
  simp only[List.map_cons,List.nodup_cons] at h
  exact List.nodup_cons.mpr ⟨fun hm=>h.1 (List.mem_map_of_mem hm),nodup_of_map h.2⟩
theorem split_len {α:Type} (p:α→Bool):∀(l:List α),l.length=(l.filter p).length+(l.filter fun x=>!p x).length
 | []=>rfl
 | a::l=>by
  have:=split_len p l
  cases h:p a <;> simp[h] <;> lia
section
variable {κ:Type} [DecidableEq κ] {g:List (κ×List κ)}
structure Gr (f h:Int→κ) (es:List (Int×Int)) (g:List (κ×List κ)):Prop where
 fi:∀a b,f a=f b→a=b
 hi:∀a b,h a=h b→a=b
 keys:g.map (·.1)=(masksM es).map fun p=>f p.1
 adj:∀l rs,look g (f l)=some rs→∀x,x∈rs↔∃r,x=h r∧(l,r)∈es
theorem most_ok {f h:Int→κ} {es:List (Int×Int)} (G:Gr f h es g) (hn:es.Nodup) (he:∀e∈es,0≤e.2∧e.2<6) {st:HS κ} (S:Sh g st) (C:Cons st) (V:Cover g st):(st.pl.length:Int)=mostM es:=by
 have M:=masks_ok hn he
 have GK:=G.keys
 unfold mostM
 generalize masksM es=ms at *
 have hms:ms.Nodup:=nodup_of_map M.nd
 have look_of:∀p∈ms,look ms p.1=some p.2:=fun p hp=>mem_look M.nd hp
 have same:∀p∈ms,∀q∈ms,p.1=q.1→p=q:=fun p hp q hq e=>by
  have a:=look_of p hp
  rw[e,look_of q hq] at a
  exact Prod.ext e (Option.some.inj a).symm
 have key:∀p∈ms,(look g (f p.1)).isSome:=fun p hp=>look_isSome.mpr (by rw[GK]; exact List.mem_map_of_mem (f:=fun p:Int×Nat=>f p.1) hp)
 have ofKey:∀x,(look g x).isSome→∃p∈ms,f p.1=x:=fun x hx=>by
  have:=look_isSome.mp hx
  rw[GK] at this
  exact List.mem_map.mp this
 let mt:Int×Nat→Bool:=fun p=>(look st.pl (f p.1)).isSome
 have hA:(ms.filter mt).length=st.pl.length:=by
  refine Nat.le_antisymm ?_ ?_
  ·have:=nodup_le (l:=(ms.filter mt).map fun p=>f p.1) (m:=st.pl.map (·.1)) (nodup_map (hms.sublist List.filter_sublist) fun a ha b hb e=>same a (List.mem_filter.mp ha).1 b (List.mem_filter.mp hb).1 (G.fi _ _ e)) fun x hx=>by
    refine E1A2 (List.mem_map.mp hx) fun p hp ee60=>?_
    subst ee60
    exact look_isSome.mp (List.mem_filter.mp hp).2
   simpa only[List.length_map] using this
  ·have:=nodup_le (l:=st.pl.map (·.1)) (m:=(ms.filter mt).map fun p=>f p.1) S.nl fun x hx=>by
    have hx':=look_isSome.mpr hx
    refine E1A1 (Option.isSome_iff_exists.mp hx') fun r hr=>?_
    refine E1A2 (S.tl _ _ hr) fun rs hrs _=>?_
    obtain⟨p,hp,rfl⟩:=ofKey x (by rw[hrs]; rfl)
    exact List.mem_map.mpr ⟨p,List.mem_filter.mpr ⟨hp,hx'⟩,rfl⟩
   simpa only[List.length_map] using this
 have hB:=split_len mt ms
 have bit:∀p∈ms,∀r<6,p.2.testBit r=true↔(p.1,(r:Int))∈es:=fun p hp=>(M.is p.1 p.2 (look_of p hp)).2
 have small:∀T:List (Int×Nat),(∀p∈T,p∈ms)→orAll T<64:=fun T hT=>or_lt fun p hp=>(M.is p.1 p.2 (look_of p (hT p hp))).1
 have hC1:∀T:List (Int×Nat),T.Sublist ms→(T.filter mt).length≤pop (orAll T.reverse):=fun T hT=>by
  have sub:∀p∈T,p∈ms:=fun p hp=>hT.subset hp
  rw[bits_pop _ (small _ fun p hp=>sub p (List.mem_reverse.mp hp))]
  have:=nodup_le (l:=(T.filter mt).map fun p=>(look st.pl (f p.1)).getD (f 0)) (m:=((List.range 6).filter fun r=>(orAll T.reverse).testBit r).map fun(r:Nat)=>h (r:Int))
   (nodup_map ((hms.sublist hT).sublist List.filter_sublist) fun a ha b hb e=>by
    refine E0A2 (List.mem_filter.mp ha) fun ha1 ha2=>?_
    refine E0A2 (List.mem_filter.mp hb) fun hb1 hb2=>?_
    obtain⟨x,hx⟩:=Option.isSome_iff_exists.mp ha2
    obtain⟨y,hy⟩:=Option.isSome_iff_exists.mp hb2
    rw[hx,hy] at e
    have e':x=y:=e
    subst e'
    have:=(C _ _).mp hx
    rw[(C _ _).mp hy] at this
    exact same a (sub a ha1) b (sub b hb1) (G.fi _ _ (Option.some.inj this).symm))
   fun x hx=>by
    refine E1A2 (List.mem_map.mp hx) fun p hp ee53=>?_
    subst ee53
    obtain⟨hp1,hp2⟩:=List.mem_filter.mp hp
    obtain⟨x,hx⟩:=Option.isSome_iff_exists.mp hp2
    refine E1A2 (S.tl _ _ hx) fun rs hrs hm=>?_
    refine E1A2 ((G.adj _ _ hrs x).mp hm) fun r ee45 hr=>?_
    subst ee45
    have hr6:=he _ hr
    dsimp only at hr6
    have hcast:((r.toNat:Nat):Int)=r:=by exact tnA (by assumption)
    rw[hx]
    refine List.mem_map.mpr ⟨r.toNat,List.mem_filter.mpr ⟨List.mem_range.mpr (by exact tnB (by assumption)),(or_testBit _ _).mpr ⟨p,List.mem_reverse.mpr hp1,(bit p (sub p hp1) _ (by exact tnB (by assumption))).mpr (by rw[hcast]; exact hr)⟩⟩,?_⟩
    rw[hcast]; rfl
  simpa only[List.length_map] using this
 have hC2:∀T:List (Int×Nat),T.Sublist ms→(T.filter fun x=>!mt x).length≤(ms.filter fun x=>!mt x).length:=fun T hT=>(hT.filter _).length_le
 let ge:Int×Nat→Bool:=fun p=>match look st.dl (f p.1) with|some d=>decide (0≤d)|none=>false
 have hge:∀p,ge p=true→∃d,look st.dl (f p.1)=some d∧0≤d:=fun p hp=>by
  have hp':(match look st.dl (f p.1) with|some d=>decide (0≤d)|none=>false)=true:=hp
  rcases e:look st.dl (f p.1) with _|d
  ·rw[e] at hp'; contradiction
  ·rw[e] at hp'; exact⟨d,rfl,of_decide_eq_true hp'⟩
 have hge':∀p d,look st.dl (f p.1)=some d→0≤d→ge p=true:=fun p d e h0=>by
  show(match look st.dl (f p.1) with|some d=>decide (0≤d)|none=>false)=true
  rw[e]; exact decide_eq_true h0
 have hT0:(ms.filter ge).Sublist ms:=List.filter_sublist
 have hD1:pop (orAll (ms.filter ge).reverse)≤((ms.filter ge).filter mt).length:=by
  have sub:∀p∈ms.filter ge,p∈ms:=fun p hp=>hT0.subset hp
  rw[bits_pop _ (small _ fun p hp=>sub p (List.mem_reverse.mp hp))]
  have sees:∀r∈(List.range 6).filter (fun r=>(orAll (ms.filter ge).reverse).testBit r),Sees st (h (r:Int)):=fun r hr=>by
   refine E0A2 (List.mem_filter.mp hr) fun h1 h2=>?_
   refine E1A2 ((or_testBit _ _).mp h2) fun p hp hb=>?_
   have hp1:=List.mem_filter.mp (List.mem_reverse.mp hp)
   obtain⟨rs,hrs⟩:=Option.isSome_iff_exists.mp (key p hp1.1)
   refine E1A2 (hge p hp1.2) fun d hd h0=>?_
   exact V.2 _ d hd h0 rs hrs _ ((G.adj _ _ hrs _).mpr ⟨_,rfl,(bit p hp1.1 r (List.mem_range.mp h1)).mp hb⟩)
  have:=nodup_le (l:=((List.range 6).filter fun r=>(orAll (ms.filter ge).reverse).testBit r).map fun(r:Nat)=>(look st.pr (h (r:Int))).getD (f 0)) (m:=((ms.filter ge).filter mt).map fun p=>f p.1)
   (nodup_map (List.nodup_range.sublist List.filter_sublist) fun a ha b hb e=>by
    refine E1A2 (sees a ha) fun o ho _=>?_
    refine E1A2 (sees b hb) fun o' ho' _=>?_
    rw[ho,ho'] at e
    have e':o=o':=e
    subst e'
    have:=(C _ _).mpr ho
    rw[(C _ _).mpr ho'] at this
    have:=G.hi _ _ (Option.some.inj this)
    lia)
   fun x hx=>by
    refine E1A2 (List.mem_map.mp hx) fun r hr ee24=>?_
    subst ee24
    obtain⟨o,ho,d,hd,h0⟩:=sees r hr
    rw[ho]
    refine E1A2 (S.tr _ _ ho) fun rs hrs _=>?_
    obtain⟨p,hp,rfl⟩:=ofKey o (by rw[hrs]; rfl)
    refine List.mem_map.mpr ⟨p,List.mem_filter.mpr ⟨List.mem_filter.mpr ⟨hp,hge' p d hd h0⟩,?_⟩,rfl⟩
    show(look st.pl (f p.1)).isSome=true
    rw[(C _ _).mpr ho]; rfl
  simpa only[List.length_map] using this
 have hD2:(ms.filter fun x=>!mt x).length≤((ms.filter ge).filter fun x=>!mt x).length:=by
  refine nodup_le (hms.sublist List.filter_sublist) fun p hp=>?_
  obtain⟨h1,h2⟩:=List.mem_filter.mp hp
  refine List.mem_filter.mpr ⟨List.mem_filter.mpr ⟨h1,?_⟩,h2⟩
  have hnone:look st.pl (f p.1)=none:=by
   rcases e:look st.pl (f p.1) with _|r
   ·rfl
   ·
    have:mt p=true:=by show(look st.pl (f p.1)).isSome=true; rw[e]; rfl
    rw[this] at h2; contradiction
  refine E1A2 (V.1 _ (key p h1) hnone) fun d hd h0=>?_
  exact hge' p d hd h0
 have P:=pairs_go ms [] [(0,0)] ⟨fun x hx=>⟨[],List.Sublist.refl _,by rw[List.mem_singleton.mp hx]; rfl,by rw[List.mem_singleton.mp hx]; rfl⟩,fun T hT=>by
  rw[List.sublist_nil.mp hT]; exact .head _⟩
 rw[List.nil_append] at P
 have L:lackM (pairsM ms)=(ms.length:Int) - st.pl.length:=by
  refine lack_eq (by lia) (fun x hx=>?_) ?_
  ·refine E1A3 (P.1 x hx) fun T hT e1 e2=>?_
   simp only[e1,e2]
   have a:=hC1 T hT
   have b:=hC2 T hT
   have c:=split_len mt T
   lia
  ·refine⟨_,P.2 _ hT0,?_⟩
   dsimp only
   have a:=hC1 _ hT0
   have b:=hC2 _ hT0
   have c:=split_len mt (ms.filter ge)
   lia
 rw[L]
 lia
end
end Mine
namespace Mine
section
variable {κ:Type} [DecidableEq κ]
noncomputable def addEdge (f h:Int→κ) (g:List (κ×List κ)) (e:Int×Int):List (κ×List κ):=put g (f e.1) ((look g (f e.1)).getD []++[h e.2])
noncomputable def graphM (f h:Int→κ) (es:List (Int×Int)):List (κ×List κ):=es.foldl (addEdge f h) []
theorem keys_put {β:Type} (ps:List (κ×β)) (k:κ) (b:β):(put ps k b).map (·.1)=if k∈ps.map (·.1) then ps.map (·.1) else ps.map (·.1)++[k]:=by
 induction ps with
 | nil=>rfl
 | cons p r ih=>
  rw[put_cons]
  by_cases e:p.1=k
  ·rw[if_pos e,if_pos (by rw[List.map_cons,e]; exact List.mem_cons_self ..)]; rfl
  ·rw[if_neg e,List.map_cons,ih,List.map_cons]
   by_cases hm:k∈r.map (·.1)
   ·rw[if_pos hm,if_pos (List.mem_cons_of_mem _ hm)]
   ·rw[if_neg hm,if_neg (fun q=>by
     rcases List.mem_cons.mp q with q|q
     ·exact e q.symm
     ·exact hm q)]
    rfl
structure GrOk (f h:Int→κ) (done:List (Int×Int)) (ms:List (Int×Nat)) (g:List (κ×List κ)):Prop where
 keys:g.map (·.1)=ms.map fun p=>f p.1
 adj:∀l,match look g (f l) with|some rs=>∀x,x∈rs↔∃r,x=h r∧(l,r)∈done|none=>∀r,(l,r)∉done
 nd:(g.map (·.1)).Nodup
 len:g.length≤done.length
 all:(g.flatMap (·.2)).length=done.length
theorem all_put (g:List (κ×List κ)) (k x:κ):((put g k ((look g k).getD []++[x])).flatMap (·.2)).length=(g.flatMap (·.2)).length+1:=by
 induction g with
 | nil=>rfl
 | cons p r ih=>
  rw[put_cons,look_cons]
  by_cases e:p.1=k
  ·rw[if_pos e,if_pos e]
   simp only[Option.getD_some,List.flatMap_cons,List.length_append,List.length_cons,List.length_nil]
   exact Nat.add_right_comm _ _ _
  ·rw[if_neg e,if_neg e]
   simp only[List.flatMap_cons,List.length_append]
   lia
theorem gr_step {f h:Int→κ} (fi:∀a b,f a=f b→a=b) {done:List (Int×Int)} {ms:List (Int×Nat)} {g:List (κ×List κ)} (G:GrOk f h done ms g) (e:Int×Int):GrOk f h (done++[e]) (addBit ms e) (addEdge f h g e):=by
 obtain⟨l0,r0⟩:=e
 unfold addBit addEdge
 dsimp only
 refine⟨?_,fun l=>?_,put_nodup _ _ _ G.nd,?_,?_⟩
 ·rw[keys_put,G.keys]
  have e2:(fun p:Int×Nat=>f p.1)=f∘fun p=>p.1:=rfl
  rw[e2,←List.map_map,←List.map_map,keys_put]
  by_cases hm:l0∈ms.map (·.1)
  ·rw[if_pos hm,if_pos (List.mem_map_of_mem hm)]
  ·rw[if_neg hm,if_neg (fun q=>by
    refine E1A2 (List.mem_map.mp q) fun y hy e=>?_
    exact hm (fi _ _ e▸hy)),List.map_append]
   rfl
 ·rw[look_put]
  have A:=G.adj l
  by_cases hl:f l0=f l
  ·have:l0=l:=fi _ _ hl
   subst this
   rw[if_pos rfl]
   intro x
   rcases hg:look g (f l0) with _|rs
   ·
    rw[hg] at A
    dsimp only at A
    simp only[Option.getD_none,List.nil_append,List.mem_singleton,List.mem_append,Prod.mk.injEq,true_and]
    exact⟨fun q=>⟨r0,q,.inr rfl⟩,fun zz41=>E1A2 zz41 fun r q1 q2=>by
     rcases q2 with q2|q2
     ·exact absurd q2 (A r)
     ·rw[q1,q2]⟩
   ·
    rw[hg] at A
    dsimp only at A
    simp only[Option.getD_some,List.mem_append,List.mem_singleton,Prod.mk.injEq,true_and,A]
    exact⟨fun q=>by
     rcases q with⟨r,a,b⟩|q
     ·exact⟨r,a,.inl b⟩
     ·exact⟨r0,q,.inr rfl⟩,fun zz40=>E1A2 zz40 fun r q1 q2=>by
     rcases q2 with q2|q2
     ·exact .inl ⟨r,q1,q2⟩
     ·exact .inr (by rw[q1,q2])⟩
  ·rw[if_neg hl]
   have hne:l≠l0:=fun q=>hl (by rw[q])
   rcases hg:look g (f l) with _|rs
   ·
    rw[hg] at A
    dsimp only at A ⊢
    intro r hm
    rcases List.mem_append.mp hm with q|q
    ·exact A r q
    ·exact hne (congrArg Prod.fst (List.mem_singleton.mp q))
   ·
    rw[hg] at A
    dsimp only at A ⊢
    intro x
    rw[A]
    refine⟨fun zz38=>E1A2 zz38 fun r a b=>⟨r,a,List.mem_append_left _ b⟩,fun zz35=>E1A2 zz35 fun r a b=>⟨r,a,?_⟩⟩
    rcases List.mem_append.mp b with q|q
    ·exact q
    ·exact absurd (congrArg Prod.fst (List.mem_singleton.mp q)) hne
 ·simp only[put_length,List.length_append]
  have:=G.len
  split <;> simp <;> lia
 ·rw[all_put,G.all]; simp
theorem gr_go {f h:Int→κ} (fi:∀a b,f a=f b→a=b):∀(es done:List (Int×Int)) (ms:List (Int×Nat)) (g:List (κ×List κ)),GrOk f h done ms g→GrOk f h (done++es) (es.foldl addBit ms) (es.foldl (addEdge f h) g)
 | [],done,ms,g,G=>by rw[List.append_nil]; exact G
 | e::es,done,ms,g,G=>by
  have e1:done++e::es=(done++[e])++es:=by simp
  rw[e1]
  exact gr_go fi es _ _ _ (gr_step fi G e)
theorem graph_all {f h:Int→κ} (fi:∀a b,f a=f b→a=b) (es:List (Int×Int)):GrOk f h es (masksM es) (graphM f h es):=by
 have:=gr_go (h:=h) fi es [] [] [] ⟨rfl,fun l=>(by show ∀r,(l,r)∉[]; intro r q; contradiction),List.nodup_nil,Nat.le_refl _,rfl⟩
 rw[List.nil_append] at this
 exact this
theorem graph_ok {f h:Int→κ} (fi:∀a b,f a=f b→a=b) (hi:∀a b,h a=h b→a=b) (es:List (Int×Int)):Gr f h es (graphM f h es):=
 have G:=graph_all (h:=h) fi es
 ⟨fi,hi,G.keys,fun l rs e=>by have:=G.adj l; rw[e] at this; exact this⟩
theorem run_most {f h:Int→κ} (fi:∀a b,f a=f b→a=b) (hi:∀a b,h a=h b→a=b) {es:List (Int×Int)} (hn:es.Nodup) (he:∀e∈es,0≤e.2∧e.2<6) (hz:es.length≤7) (st:HS κ) :
  ∃st',runM (graphM f h es) 9 st=some (mostM es,st')∧(st'.pl.length:Int)=mostM es∧(st'.pl.map (·.1)).Nodup∧(st'.pl.map (·.2)).Nodup∧(∀l r,(l,r)∈st'.pl→∃a b,l=f a∧r=h b∧(a,b)∈es)∧st'.pl.length≤7∧st'.pr.length≤1000∧st'.dl.length≤1000:=by
 have G:=graph_all (h:=h) fi es
 have Z:Small (graphM f h es):=⟨by have:=G.len; lia,by rw[G.all]; exact tr1 (by assumption) rfl⟩
 obtain⟨st',e,S,C,V⟩:=run_ok Z G.nd (N:=9) (by have:=G.len; lia) st
 have hm:=most_ok (graph_ok fi hi es) hn he S C V
 refine E0A3 (S.len Z) fun z1 z2 z3=>?_
 refine⟨st',by rw[←hm]; exact e,hm,S.nl,nodup_map (nodup_of_map S.nl) fun a ha b hb q=>?_,fun l r hlr=>?_,?_,z2,z3⟩
 ·have h1:=(C _ _).mp (mem_look S.nl (show(a.1,a.2)∈st'.pl from ha))
  have h2:=(C _ _).mp (mem_look S.nl (show(b.1,b.2)∈st'.pl from hb))
  simp only[q,h2] at h1
  exact Prod.ext (Option.some.inj h1).symm q
 ·refine E1A2 (S.tl _ _ (mem_look S.nl hlr)) fun rs hrs hmem=>?_
  have hk:=look_isSome.mp (by rw[hrs]; rfl)
  rw[G.keys] at hk
  refine E1A2 (List.mem_map.mp hk) fun p _ ee19=>?_
  subst ee19
  have A:=G.adj p.1
  rw[hrs] at A
  refine E1A2 ((A r).mp hmem) fun b ee14 hb=>?_
  subst ee14
  exact⟨p.1,b,rfl,rfl,hb⟩
 ·have:=nodup_le (m:=(graphM f h es).map (·.1)) S.nl fun x hx=>by
   obtain⟨r,hr⟩:=Option.isSome_iff_exists.mp (look_isSome.mpr hx)
   refine E1A2 (S.tl _ _ hr) fun rs h _=>?_
   exact look_isSome.mp (by rw[h]; rfl)
  simp only[List.length_map] at this
  have:=G.len
  lia
end
end Mine
namespace Mine
set_option maxHeartbeats 1000000
noncomputable section
example:(PySem.Challenge.rw_jf0028_01,hd.heap_1)=(PySem.Challenge.rw_jf0028_01,hd.heap_1):=by
 k_fill
 rfl
theorem ao_of {w:World} {C:Addr} {a:Str} (g:plainGet (hd.heap_1 w.params) C a=true) (h:hasDictIn (hd.heap_1 w.params) C=true) (f:findIn (hd.heap_1 w.params) (.ref C) a=some none):AttrOk w C a:=⟨g,h,f⟩
theorem mo_of {w:World} {C:Addr} {a:Str} {fn:Addr} (g:plainGet (hd.heap_1 w.params) C a=true) (f:findIn (hd.heap_1 w.params) (.ref C) a=some (some (.ref fn))) (k:isFn (hd.heap_1 w.params) (.ref fn)=true)
  (c:keepIn (hd.heap_1 w.params) (.ref fn)=true):MethOk w C a fn:=⟨g,f,k,c⟩
theorem so_of {w:World} {C:Addr} {a:Str} (s:findIn (hd.heap_1 w.params) (.ref C) "__setattr__" = some (some (.builtin "object.__setattr__"))) (p:plainOver (hd.heap_1 w.params) C=true)
  (t:takerIn (hd.heap_1 w.params) C a=some none) (h:hasDictIn (hd.heap_1 w.params) C=true):SetOk w C a:=⟨s,p,t,h⟩
theorem gl_of {w:World} {x:Str} {v:Option Value} (h:nsIn (hd.heap_1 w.params) mainGlobals x=some v):nsIn (KF w) mainGlobals x=some v:=h
theorem ao_graph (w:World):AttrOk w 80 "_graph_left":=ao_of (by k_is) (by k_is) (by k_is)
theorem ao_ref (w:World):AttrOk w 80 "_reference_distance":=ao_of (by k_is) (by k_is) (by k_is)
theorem ao_pl (w:World):AttrOk w 80 "_pair_left":=ao_of (by k_is) (by k_is) (by k_is)
theorem ao_pr (w:World):AttrOk w 80 "_pair_right":=ao_of (by k_is) (by k_is) (by k_is)
theorem ao_left (w:World):AttrOk w 80 "_left":=ao_of (by k_is) (by k_is) (by k_is)
theorem ao_dl (w:World):AttrOk w 80 "_dist_left":=ao_of (by k_is) (by k_is) (by k_is)
theorem mo_run (w:World):MethOk w 80 "_run_hopcroft_karp" 42:=mo_of (by k_is) (by k_is) (by k_is) (by k_is)
theorem mo_num (w:World):MethOk w 80 "get_maximum_matching_num" 56:=mo_of (by k_is) (by k_is) (by k_is) (by k_is)
theorem mo_bfs (w:World):MethOk w 80 "_bfs_hopcroft_karp" 63:=mo_of (by k_is) (by k_is) (by k_is) (by k_is)
theorem mo_swap (w:World):MethOk w 80 "_swap_lr" 70:=mo_of (by k_is) (by k_is) (by k_is) (by k_is)
theorem mo_dfs (w:World):MethOk w 80 "_dfs_hopcroft_karp" 77:=mo_of (by k_is) (by k_is) (by k_is) (by k_is)
theorem so_ref (w:World):SetOk w 80 "_reference_distance":=so_of (by k_is) (by k_is) (by k_is) (by k_is)
theorem gl_inf (w:World):nsIn (KF w) mainGlobals "FAKE_INFINITY" = some (some (.int (-1) 197)):=gl_of (by k_is)
theorem nb_len (w:World):nsIn (KF w) mainGlobals "len" = some none:=gl_of (by k_is)
theorem nb_list (w:World):nsIn (KF w) mainGlobals "list" = some none:=gl_of (by k_is)
section
variable {prog:Program} {w:World} {σ:Shared} {P:Heap} {s:Shared} {A:Around} {E:Value→Shared→Prop} {κ:Type} [DecidableEq κ] {D:DKind prog w κ}
 {me d gd pl pr lv dl:Addr} {g:List (κ×List κ)} {F:HS κ→Tok→List (Addr×Asn)} {l r:κ} {lv' rv':Value}
theorem swap_c {n:Nat} {st st':HS κ} {t:Tok} {Q:Value→Shared→Prop} (X:Src (KF w) P) (hF:Fam D me d gd pl pr lv dl g F) (H:At σ P (F st t) s) (R:Rm A (n+2)) (kl:D.rep.is P l lv') (kr:D.rep.is P r rv')
  (hst:st.swap l r=some st')
  (h:∀s',At σ P (F st' t) s'→Q .none s'):wpAny (model prog w) A (call (.ref 70) [.ref me,lv',rv']) Q E s:=by
 refine E0A3 (swap_some hst) fun z1 z2 ee1=>?_
 subst ee1
 refine callC (w:=w) [("self",.local),("left",.local),("right",.local)] [("self",.ref me),("left",lv'),("right",rv')]
  X R H (by show(hd.heap_1 w.params).lookup _=_; k_is) (by show codeIn (hd.heap_1 w.params) _ _=_; k_is) rfl rfl rfl rfl rfl rfl rfl rfl rfl rfl rfl fun Γ _=>?_
 refine St.setitem (Ev.attr (Ev.name rfl rfl rfl) (hF.fself st t) (hF.fat st t) rfl (ao_pl _) rfl rfl) (hF.upl st t (put st.pl l r)) (Ev.name rfl kl rfl) (Ev.name rfl kr rfl) z1 (fun env=>rfl) ?_
 refine St.setitem (Ev.attr (Ev.name rfl rfl rfl) (hF.fself _ t) (hF.fat _ t) rfl (ao_pr _) rfl rfl) (hF.upr _ t _) (Ev.name rfl kr rfl) (Ev.name rfl kl rfl) z2 (fun env=>rfl) ?_
 exact St.nil fun s' H'=>h _ (Γ.out H')
end
end
end Mine
namespace Mine
set_option maxHeartbeats 1000000
noncomputable section
section
variable {prog:Program} {w:World} {σ:Shared} {P:Heap} {κ:Type} [DecidableEq κ] {D:DKind prog w κ}
 {me d gd pl pr lv dl:Addr} {g:List (κ×List κ)}
theorem dfs_c (X:Src (KF w) P):∀(n:Nat) {A:Around} {E:Value→Shared→Prop} {F:HS κ→Tok→List (Addr×Asn)} {st st':HS κ} {b:Bool} {t:Tok} {left:κ} {leftv:Value} {s:Shared} {Q:Value→Shared→Prop},
  Rm A (n+3)→Fam D me d gd pl pr lv dl g F→dfsM g n st left=some (b,st')→At σ P (F st t) s→D.rep.is P left leftv →
  (∀s',At σ P (F st' t) s'→Q (.bool b) s')→wpAny (model prog w) A (call (.ref 77) [.ref me,leftv]) Q E s:=by
 intro n
 induction n with
 | zero=>intro A E F st st' b t left leftv s Q R hF hm; contradiction
 | succ n ih=>
  intro A E F st st' b t left leftv s Q R hF hm H kl h
  refine E1A2 (dfsM_succ hm) fun rs hg hm=>?_
  refine callC (w:=w) (n:=n+2) [("self",.local),("left",.local),("right",.local),("other_left",.local),("FAKE_INFINITY",.globalImplicit)] [("self",.ref me),("left",leftv)]
   X R H (by show(hd.heap_1 w.params).lookup _=_; k_is) (by show codeIn (hd.heap_1 w.params) _ _=_; k_is) rfl rfl rfl rfl rfl rfl rfl rfl rfl rfl rfl fun Γ hR=>?_
  clear H R
  refine St.forRep (fun i m' led'=>∃st1,led'=F st1 t∧m' "self" = some (.ref me)∧m' "left" = some leftv∧dfsFor (dfsM g n) left (rs.drop i) st1=some (b,st'))
   (by exact Ev.sub (Ev.attr (Ev.name rfl rfl rfl) (hF.fself st t) (hF.fat st t) rfl (ao_graph _) rfl rfl) (hF.fgd st t) (Ev.name rfl kl rfl) hg fun o i=>rfl) rfl (fun _ _=>rfl) ⟨st,rfl,rfl,rfl,hm⟩ ?_ ?_
  ·intro i r v it m' led' Q' hr kr hz14
   refine E1A4 hz14 fun st1 ee13 m1 m2 hrun=>?_
   clear hz14
   subst ee13
   rintro T
   clear hm
   have hC:=fun m'=>(hF.cons it).pre (Γ.fr m')
   rw[drop_at hr] at hrun
   refine E1A2 (dfsFor_cons hrun) fun d0 hd0 hs=>?_
   have hN:∀st2,dfsFor (dfsM g n) left (rs.drop (i+1)) st2=some (b,st')→∀m'',m'' "self" = some (.ref me)→m'' "left" = some leftv→St Γ m'' (it::F st2 t) [] Q':=fun st2 h1 m'' h2 h3=>T.nil ⟨st2,rfl,h2,h3,h1⟩
   cases hs with
   | free hp hc hsw hb=>
    subst hb
    refine St.iteT (Tst.notin (Ev.attr (Ev.name m1 rfl rfl) (List.Mem.tail it (hF.fself st1 t)) (List.Mem.tail it (hF.fat st1 t)) rfl (ao_pr _) rfl rfl) (List.Mem.tail it (Fam.mpr hF st1 t)) (Ev.name rfl kr rfl) hp rfl) ?_
    refine St.iteT (Tst.cmpI (Ev.attr (Ev.name m1 rfl rfl) (List.Mem.tail it (hF.fself st1 t)) (List.Mem.tail it (hF.fat st1 t)) rfl (ao_ref _) rfl (Exists.intro t rfl)) (Ev.add (Ev.subI (Ev.attr (Ev.name m1 rfl rfl) (List.Mem.tail it (hF.fself st1 t)) (List.Mem.tail it (hF.fat st1 t)) rfl (ao_dl _) rfl rfl) (List.Mem.tail it (Fam.mdl hF st1 t)) (Ev.name m2 kl rfl) hd0 fun o i=>rfl) Ev.int) (congrArg some hc) rfl) ?_
    refine St.expr (led':=it::F st' t) ?_ (fun _=>rfl) ?_
    ·refine EvC.meth (Ev.name m1 rfl rfl) (List.Mem.tail it (hF.fself st1 t)) (List.Mem.tail it (hF.fat st1 t)) rfl (mo_swap _) (Evs.cons (Ev.name m2 rfl rfl) (fun env=>rfl) (Evs.cons (Ev.name rfl rfl rfl) (fun env=>rfl) Evs.nil)) rfl ?_
     exact⟨fun m Q s H k=>swap_c (n:=n+1) X (hC m) H hR kl kr hsw fun s' H'=>k _ _ rfl H'⟩
    ·exact St.ret Ev.bool fun v s' hv H'=>T.ret _ _ (by subst hv; exact h _ (Γ.out H').drop)
   | skip hp hc hr=>
    refine St.iteT (Tst.notin (Ev.attr (Ev.name m1 rfl rfl) (List.Mem.tail it (hF.fself st1 t)) (List.Mem.tail it (hF.fat st1 t)) rfl (ao_pr _) rfl rfl) (List.Mem.tail it (Fam.mpr hF st1 t)) (Ev.name rfl kr rfl) hp rfl) ?_
    refine St.iteF (Tst.cmpI (Ev.attr (Ev.name m1 rfl rfl) (List.Mem.tail it (hF.fself st1 t)) (List.Mem.tail it (hF.fat st1 t)) rfl (ao_ref _) rfl (Exists.intro t rfl)) (Ev.add (Ev.subI (Ev.attr (Ev.name m1 rfl rfl) (List.Mem.tail it (hF.fself st1 t)) (List.Mem.tail it (hF.fat st1 t)) rfl (ao_dl _) rfl rfl) (List.Mem.tail it (Fam.mdl hF st1 t)) (Ev.name m2 kl rfl) hd0 fun o i=>rfl) Ev.int) (congrArg some hc) rfl) ?_
    exact St.skip (St.skip (hN _ hr _ (by exact m1) (by exact m2)))
   | found o d1 st2 hp ho hd1 hc hrec hsw hb=>
    subst hb
    refine St.iteF (Tst.notin (Ev.attr (Ev.name m1 rfl rfl) (List.Mem.tail it (hF.fself st1 t)) (List.Mem.tail it (hF.fat st1 t)) rfl (ao_pr _) rfl rfl) (List.Mem.tail it (Fam.mpr hF st1 t)) (Ev.name rfl kr rfl) hp rfl) ?_
    refine St.assign (Ev.sub (Ev.attr (Ev.name m1 rfl rfl) (List.Mem.tail it (hF.fself st1 t)) (List.Mem.tail it (hF.fat st1 t)) rfl (ao_pr _) rfl rfl) (List.Mem.tail it (Fam.mpr hF st1 t)) (Ev.name rfl kr rfl) ho fun o i=>rfl) rfl (fun env=>rfl) ?_
    intro ov ko
    refine St.iteT (Tst.cmpI (Ev.subI (Ev.attr (Ev.name m1 rfl rfl) (List.Mem.tail it (hF.fself st1 t)) (List.Mem.tail it (hF.fat st1 t)) rfl (ao_dl _) rfl rfl) (List.Mem.tail it (Fam.mdl hF st1 t)) (Ev.name rfl ko rfl) hd1 fun o i=>rfl) (Ev.add (Ev.subI (Ev.attr (Ev.name m1 rfl rfl) (List.Mem.tail it (hF.fself st1 t)) (List.Mem.tail it (hF.fat st1 t)) rfl (ao_dl _) rfl rfl) (List.Mem.tail it (Fam.mdl hF st1 t)) (Ev.name m2 kl rfl) hd0 fun o i=>rfl) Ev.int) (congrArg some hc) rfl) ?_
    refine St.ite (b:=true) (led':=it::F st2 t) (TstC.of_ev ?_ (fun _ _=>rfl)) ?_
    ·refine EvC.meth (Ev.name m1 rfl rfl) (List.Mem.tail it (hF.fself st1 t)) (List.Mem.tail it (hF.fat st1 t)) rfl (mo_dfs _) (Evs.cons (Ev.name rfl rfl rfl) (fun env=>rfl) Evs.nil) rfl ?_
     exact⟨fun m Q s H k=>ih hR (hC m) hrec H ko fun s' H'=>k _ _ rfl H'⟩
    ·refine St.expr (led':=it::F st' t) ?_ (fun _=>rfl) ?_
     ·refine EvC.meth (Ev.name m1 rfl rfl) (List.Mem.tail it (hF.fself st2 t)) (List.Mem.tail it (hF.fat st2 t)) rfl (mo_swap _) (Evs.cons (Ev.name m2 rfl rfl) (fun env=>rfl) (Evs.cons (Ev.name rfl rfl rfl) (fun env=>rfl) Evs.nil)) rfl ?_
      exact⟨fun m Q s H k=>swap_c (n:=n+1) X (hC m) H hR kl kr hsw fun s' H'=>k _ _ rfl H'⟩
     ·exact St.ret Ev.bool fun v s' hv H'=>T.ret _ _ (by subst hv; exact h _ (Γ.out H').drop)
   | lost o d1 st2 hp ho hd1 hc hrec hrest=>
    refine St.iteF (Tst.notin (Ev.attr (Ev.name m1 rfl rfl) (List.Mem.tail it (hF.fself st1 t)) (List.Mem.tail it (hF.fat st1 t)) rfl (ao_pr _) rfl rfl) (List.Mem.tail it (Fam.mpr hF st1 t)) (Ev.name rfl kr rfl) hp rfl) ?_
    refine St.assign (Ev.sub (Ev.attr (Ev.name m1 rfl rfl) (List.Mem.tail it (hF.fself st1 t)) (List.Mem.tail it (hF.fat st1 t)) rfl (ao_pr _) rfl rfl) (List.Mem.tail it (Fam.mpr hF st1 t)) (Ev.name rfl kr rfl) ho fun o i=>rfl) rfl (fun env=>rfl) ?_
    intro ov ko
    refine St.iteT (Tst.cmpI (Ev.subI (Ev.attr (Ev.name m1 rfl rfl) (List.Mem.tail it (hF.fself st1 t)) (List.Mem.tail it (hF.fat st1 t)) rfl (ao_dl _) rfl rfl) (List.Mem.tail it (Fam.mdl hF st1 t)) (Ev.name rfl ko rfl) hd1 fun o i=>rfl) (Ev.add (Ev.subI (Ev.attr (Ev.name m1 rfl rfl) (List.Mem.tail it (hF.fself st1 t)) (List.Mem.tail it (hF.fat st1 t)) rfl (ao_dl _) rfl rfl) (List.Mem.tail it (Fam.mdl hF st1 t)) (Ev.name m2 kl rfl) hd0 fun o i=>rfl) Ev.int) (congrArg some hc) rfl) ?_
    refine St.ite (b:=false) (led':=it::F st2 t) (TstC.of_ev ?_ (fun _ _=>rfl)) ?_
    ·refine EvC.meth (Ev.name m1 rfl rfl) (List.Mem.tail it (hF.fself st1 t)) (List.Mem.tail it (hF.fat st1 t)) rfl (mo_dfs _) (Evs.cons (Ev.name rfl rfl rfl) (fun env=>rfl) Evs.nil) rfl ?_
     exact⟨fun m Q s H k=>ih hR (hC m) hrec H ko fun s' H'=>k _ _ rfl H'⟩
    ·exact St.skip (St.skip (St.skip (hN _ hrest _ (by exact m1) (by exact m2))))
   | far o d1 hp ho hd1 hc hrest=>
    refine St.iteF (Tst.notin (Ev.attr (Ev.name m1 rfl rfl) (List.Mem.tail it (hF.fself st1 t)) (List.Mem.tail it (hF.fat st1 t)) rfl (ao_pr _) rfl rfl) (List.Mem.tail it (Fam.mpr hF st1 t)) (Ev.name rfl kr rfl) hp rfl) ?_
    refine St.assign (Ev.sub (Ev.attr (Ev.name m1 rfl rfl) (List.Mem.tail it (hF.fself st1 t)) (List.Mem.tail it (hF.fat st1 t)) rfl (ao_pr _) rfl rfl) (List.Mem.tail it (Fam.mpr hF st1 t)) (Ev.name rfl kr rfl) ho fun o i=>rfl) rfl (fun env=>rfl) ?_
    intro ov ko
    refine St.iteF (Tst.cmpI (Ev.subI (Ev.attr (Ev.name m1 rfl rfl) (List.Mem.tail it (hF.fself st1 t)) (List.Mem.tail it (hF.fat st1 t)) rfl (ao_dl _) rfl rfl) (List.Mem.tail it (Fam.mdl hF st1 t)) (Ev.name rfl ko rfl) hd1 fun o i=>rfl) (Ev.add (Ev.subI (Ev.attr (Ev.name m1 rfl rfl) (List.Mem.tail it (hF.fself st1 t)) (List.Mem.tail it (hF.fat st1 t)) rfl (ao_dl _) rfl rfl) (List.Mem.tail it (Fam.mdl hF st1 t)) (Ev.name m2 kl rfl) hd0 fun o i=>rfl) Ev.int) (congrArg some hc) rfl) ?_
    exact St.skip (St.skip (hN _ hrest _ (by exact m1) (by exact m2)))
  ·intro m' led' hz10
   refine E1A4 hz10 fun st1 ee9 m1 m2 hrun=>?_
   clear hz10
   subst ee9
   rw[List.drop_length] at hrun
   refine E0A3 (dfsFor_nil hrun) fun ee1 hz ee2=>?_
   subst ee1 ee2
   refine St.setitemI (Ev.attr (Ev.name m1 rfl rfl) (hF.fself st1 t) (hF.fat st1 t) rfl (ao_dl _) rfl rfl) (hF.udl st1 t (put st1.dl left (-1))) (Ev.name m2 kl rfl) (Ev.glob (gl_inf _) (Exists.intro 197 rfl) rfl) hz (fun env=>rfl) ?_
   exact St.ret Ev.bool fun v s' hv H'=>by subst hv; exact h _ (Γ.out H')
end
end
end Mine
namespace Mine
set_option maxHeartbeats 1000000
noncomputable section
section
variable {prog:Program} {w:World} {σ:Shared} {P:Heap} {κ:Type} [DecidableEq κ] {D:DKind prog w κ}
 {me d gd pl pr lv dl:Addr} {g:List (κ×List κ)}
theorem bfs_c {n N:Nat} {A:Around} {E:Value→Shared→Prop} {F:HS κ→Tok→List (Addr×Asn)} {st st':HS κ} {b:Bool} {t:Tok} {s:Shared} {Q:Value→Shared→Prop} (X:Src (KF w) P)
  (R:Rm A (n+2)) (hF:Fam D me d gd pl pr lv dl g F) (hm:bfsM g N st=some (b,st')) (H:At σ P (F st t) s)
  (h:∀t' s',At σ P (F st' t') s'→Q (.bool b) s'):wpAny (model prog w) A (call (.ref 63) [.ref me]) Q E s:=by
 refine E2A3 (bfsM_some hm) fun zz188 stE hi hl hy=>?_
 obtain⟨q0,st0⟩:=zz188
 obtain⟨rfl,rfl⟩:=Prod.mk.inj hy
 refine callC (w:=w) (n:=n) [("self",.local),("vertex_queue",.local),("left_vert",.local),("left_vertex",.local),("right_vertex",.local),("other_left",.local),("FAKE_INFINITY",.globalImplicit),("len",.globalImplicit)] [("self",.ref me)]
  X R H (by show(hd.heap_1 w.params).lookup _=_; k_is) (by show codeIn (hd.heap_1 w.params) _ _=_; k_is) rfl rfl rfl rfl rfl rfl rfl rfl rfl rfl rfl fun Γ hR=>?_
 clear H R hm hy
 refine St.assignX (EvX.nilList D.rep) rfl (fun _=>rfl) ?_
 intro _ _ hz176
 refine E1A2 hz176 fun qa ee174 ee175=>?_
 clear hz176
 subst ee174 ee175
 refine St.forLed (V:=D.rep) (l:=lv) (xs:=g.map (·.1)) (fun i m' led'=>∃q st1,led'=(qa,Asn.list D.rep q)::F st1 t∧m' "self" = some (.ref me)∧m' "vertex_queue" = some (.ref qa)∧bfsInit ((g.map (·.1)).drop i) q st1=some (q0,st0))
  (by exact Ev.attr (Ev.name rfl rfl rfl) (List.Mem.tail (qa,Asn.list D.rep []) (hF.fself st t)) (List.Mem.tail (qa,Asn.list D.rep []) (hF.fat st t)) rfl (ao_left _) rfl rfl) (by rintro i m' led' ⟨q,st1,rfl,_⟩; exact List.Mem.tail (qa,Asn.list D.rep q) (hF.flv st1 t)) rfl (fun _ _=>rfl) ⟨[],st,rfl,rfl,rfl,hi⟩ ?_ ?_
 ·intro i l v it m' led' Q' hr kr hz164
  refine E2A4 hz164 fun q st1 ee163 m1 m2 hrun=>?_
  clear hz164
  subst ee163
  rintro T
  rw[drop_at hr] at hrun
  rcases bfsInit_cons hrun with⟨hp,hq,hz,hrest⟩|⟨hp,hz,hrest⟩
  ·refine St.iteT (Tst.notin (Ev.attr (Ev.name m1 rfl rfl) (List.Mem.tail it (List.Mem.tail (qa,Asn.list D.rep q) (hF.fself st1 t))) (List.Mem.tail it (List.Mem.tail (qa,Asn.list D.rep q) (hF.fat st1 t))) rfl (ao_pl _) rfl rfl) (List.Mem.tail it (List.Mem.tail (qa,Asn.list D.rep q) (Fam.mpl hF st1 t))) (Ev.name rfl kr rfl) hp rfl) ?_
   refine St.expr (by exact EvC.append (Ev.name m2 rfl rfl) (Upd.tail Upd.head) (Ev.name rfl kr rfl) hq rfl fun env=>rfl) (fun _=>rfl) ?_
   refine St.setitemI (Ev.attr (Ev.name m1 rfl rfl) (List.Mem.tail it (List.Mem.tail (qa,Asn.list D.rep (q++[l])) (hF.fself st1 t))) (List.Mem.tail it (List.Mem.tail (qa,Asn.list D.rep (q++[l])) (hF.fat st1 t))) rfl (ao_dl _) rfl rfl) (Upd.tail (Upd.tail (hF.udl st1 t (put st1.dl l 0)))) (Ev.name rfl kr rfl) Ev.int hz (fun env=>rfl) ?_
   exact St.skip (T.nil ⟨_,_,rfl,by exact m1,by exact m2,hrest⟩)
  ·refine St.iteF (Tst.notin (Ev.attr (Ev.name m1 rfl rfl) (List.Mem.tail it (List.Mem.tail (qa,Asn.list D.rep q) (hF.fself st1 t))) (List.Mem.tail it (List.Mem.tail (qa,Asn.list D.rep q) (hF.fat st1 t))) rfl (ao_pl _) rfl rfl) (List.Mem.tail it (List.Mem.tail (qa,Asn.list D.rep q) (Fam.mpl hF st1 t))) (Ev.name rfl kr rfl) hp rfl) ?_
   refine St.setitemI (Ev.attr (Ev.name m1 rfl rfl) (List.Mem.tail it (List.Mem.tail (qa,Asn.list D.rep q) (hF.fself st1 t))) (List.Mem.tail it (List.Mem.tail (qa,Asn.list D.rep q) (hF.fat st1 t))) rfl (ao_dl _) rfl rfl) (Upd.tail (Upd.tail (hF.udl st1 t (put st1.dl l (-1))))) (Ev.name rfl kr rfl) (Ev.glob (gl_inf _) (Exists.intro 197 rfl) rfl) hz (fun env=>rfl) ?_
   exact St.skip (T.nil ⟨_,_,rfl,by exact m1,by exact m2,hrest⟩)
 ·intro m' led' hz150
  refine E2A4 hz150 fun q st1 ee149 m1 m2 hrun=>?_
  clear hz150
  subst ee149
  rw[List.drop_length] at hrun
  obtain⟨rfl,rfl⟩:=Prod.mk.inj (Option.some.inj hrun)
  clear hi hrun
  refine St.setattr (R:=Is (.int (-1) 197)) (k:=6) (f:=hkF gd pl pr lv dl st1.rf t) (by exact Ev.glob (gl_inf _) rfl rfl) (by exact Ev.name m1 rfl rfl) (by exact List.Mem.tail (qa,Asn.list D.rep q) (hF.fself st1 t)) rfl (so_ref _) (fun _=>rfl) (by decide) ?_
  rintro _ rfl
  refine⟨_,Upd.tail (hF.urf' st1 t (-1) 197),?_⟩
  refine St.whileT (N:=N) (fun i m' led'=>∃q st2 t',led'=(qa,Asn.list D.rep q)::F st2 t'∧m' "self" = some (.ref me)∧m' "vertex_queue" = some (.ref qa)∧bfsLoop g i q st2=some st')
   ⟨q,_,_,rfl,m1,m2,hl⟩ ?_
  clear hl m1 m2
  intro i m' led' Q' hz118
  refine E3A4 hz118 fun q1 st2 t' ee117 m1 m2 hrun=>?_
  clear hz118
  subst ee117
  rintro T
  cases i with
  | zero=>contradiction
  | succ i=>
  rcases q1 with _|⟨v,q1⟩
  ·
   have e:st2=st':=Option.some.inj hrun
   subst e
   have hc0:((([]:List κ).length:Int) == 0)=true:=rfl
   have hlen:([]:List κ).length≤1000000:=Nat.zero_le _
   refine St.iteT (Tst.cmpI (EvC.lenL (Ev.builtin (nb_len _) Boot.len (of_decide_eq_true (id rfl)) rfl rfl) (Ev.name m2 rfl rfl) (List.Mem.head (F st2 t')) hlen (fun env=>rfl) fun env=>rfl) Ev.int (congrArg some hc0) rfl) ?_
   refine St.brkSeq fun s' H'=>T.brk s' ((St.ret (Q:=fun fl s'=>Q (flowVal fl) s') (led':=(qa,Asn.list D.rep [])::F st2 t') (R:=Is (.bool (st2.rf != -1))) (by exact Ev.cmpI (Ev.attr (Ev.name m1 rfl rfl) (List.Mem.tail (qa,Asn.list D.rep []) (hF.fself st2 t')) (List.Mem.tail (qa,Asn.list D.rep []) (hF.fat st2 t')) rfl (ao_ref _) rfl (Exists.intro t' rfl)) (Ev.glob (gl_inf _) (Exists.intro 197 rfl) rfl) rfl rfl) ?_).run s' H')
   rintro v s2 rfl H2
   exact h _ _ (Γ.out H2).drop
  ·
   obtain⟨hq,d0,hd0,hs⟩:=bfsLoop_cons hrun
   have hc0:(((v::q1).length:Int) == 0)=false:=by simp; omega
   have hlen:(v::q1).length≤1000000:=by simp; exact tr1 (by assumption) rfl
   clear hrun
   refine St.iteF (Tst.cmpI (EvC.lenL (Ev.builtin (nb_len _) Boot.len (of_decide_eq_true (id rfl)) rfl rfl) (Ev.name m2 rfl rfl) (List.Mem.head (F st2 t')) hlen (fun env=>rfl) fun env=>rfl) Ev.int (congrArg some hc0) rfl) ?_
   refine St.skip (St.assign (by exact EvC.pop0 (Ev.name m2 rfl rfl) Upd.head hq rfl) rfl (fun _=>rfl) ?_)
   intro vv kv
   cases hs with
   | same hc hrest=>
    have m1x:upd m' "left_vertex" vv "self" = some (.ref me):=m1
    refine St.iteT (by exact Tst.chainI (op:=.Eq) (op':=.Eq) (m:=upd m' "left_vertex" vv) (x:=d0) (y:=st2.rf) (z:=-1) (Ev.subI (Ev.attr (Ev.name m1x rfl rfl) (List.Mem.tail (qa,Asn.list D.rep q1) (hF.fself st2 t')) (List.Mem.tail (qa,Asn.list D.rep q1) (hF.fat st2 t')) rfl (ao_dl _) rfl rfl) (List.Mem.tail (qa,Asn.list D.rep q1) (Fam.mdl hF st2 t')) (Ev.name (x:="left_vertex") (v:=vv) rfl kv rfl) hd0 fun o i=>rfl) (Ev.attr (Ev.name m1x rfl rfl) (List.Mem.tail (qa,Asn.list D.rep q1) (hF.fself st2 t')) (List.Mem.tail (qa,Asn.list D.rep q1) (hF.fat st2 t')) rfl (ao_ref _) rfl (Exists.intro t' rfl)) (Ev.glob (gl_inf _) (Exists.intro 197 rfl) rfl) rfl rfl hc rfl) ?_
    exact St.seqC fun s' H'=>T.cont _ _ s' ⟨i,Nat.lt_succ_self i,q1,st2,t',rfl,by exact m1,by exact m2,hrest⟩ H'
   | deep hc hc' hrest=>
    have m1x:upd m' "left_vertex" vv "self" = some (.ref me):=m1
    refine St.iteF (by exact Tst.chainI (op:=.Eq) (op':=.Eq) (m:=upd m' "left_vertex" vv) (x:=d0) (y:=st2.rf) (z:=-1) (Ev.subI (Ev.attr (Ev.name m1x rfl rfl) (List.Mem.tail (qa,Asn.list D.rep q1) (hF.fself st2 t')) (List.Mem.tail (qa,Asn.list D.rep q1) (hF.fat st2 t')) rfl (ao_dl _) rfl rfl) (List.Mem.tail (qa,Asn.list D.rep q1) (Fam.mdl hF st2 t')) (Ev.name (x:="left_vertex") (v:=vv) rfl kv rfl) hd0 fun o i=>rfl) (Ev.attr (Ev.name m1x rfl rfl) (List.Mem.tail (qa,Asn.list D.rep q1) (hF.fself st2 t')) (List.Mem.tail (qa,Asn.list D.rep q1) (hF.fat st2 t')) rfl (ao_ref _) rfl (Exists.intro t' rfl)) (Ev.glob (gl_inf _) (Exists.intro 197 rfl) rfl) rfl rfl hc rfl) ?_
    refine St.skip ?_
    have m1x:upd m' "left_vertex" vv "self" = some (.ref me):=m1
    refine St.iteT (by exact Tst.chainI (op:=.GtE) (op':=.NotEq) (m:=upd m' "left_vertex" vv) (x:=d0) (y:=st2.rf) (z:=-1) (Ev.subI (Ev.attr (Ev.name m1x rfl rfl) (List.Mem.tail (qa,Asn.list D.rep q1) (hF.fself st2 t')) (List.Mem.tail (qa,Asn.list D.rep q1) (hF.fat st2 t')) rfl (ao_dl _) rfl rfl) (List.Mem.tail (qa,Asn.list D.rep q1) (Fam.mdl hF st2 t')) (Ev.name (x:="left_vertex") (v:=vv) rfl kv rfl) hd0 fun o i=>rfl) (Ev.attr (Ev.name m1x rfl rfl) (List.Mem.tail (qa,Asn.list D.rep q1) (hF.fself st2 t')) (List.Mem.tail (qa,Asn.list D.rep q1) (hF.fat st2 t')) rfl (ao_ref _) rfl (Exists.intro t' rfl)) (Ev.glob (gl_inf _) (Exists.intro 197 rfl) rfl) rfl rfl hc' rfl) ?_
    exact St.seqC fun s' H'=>T.cont _ _ s' ⟨i,Nat.lt_succ_self i,q1,st2,t',rfl,by exact m1,by exact m2,hrest⟩ H'
   | go rs q2 st3 hc hc' hg he hrest=>
    have m1x:upd m' "left_vertex" vv "self" = some (.ref me):=m1
    refine St.iteF (by exact Tst.chainI (op:=.Eq) (op':=.Eq) (m:=upd m' "left_vertex" vv) (x:=d0) (y:=st2.rf) (z:=-1) (Ev.subI (Ev.attr (Ev.name m1x rfl rfl) (List.Mem.tail (qa,Asn.list D.rep q1) (hF.fself st2 t')) (List.Mem.tail (qa,Asn.list D.rep q1) (hF.fat st2 t')) rfl (ao_dl _) rfl rfl) (List.Mem.tail (qa,Asn.list D.rep q1) (Fam.mdl hF st2 t')) (Ev.name (x:="left_vertex") (v:=vv) rfl kv rfl) hd0 fun o i=>rfl) (Ev.attr (Ev.name m1x rfl rfl) (List.Mem.tail (qa,Asn.list D.rep q1) (hF.fself st2 t')) (List.Mem.tail (qa,Asn.list D.rep q1) (hF.fat st2 t')) rfl (ao_ref _) rfl (Exists.intro t' rfl)) (Ev.glob (gl_inf _) (Exists.intro 197 rfl) rfl) rfl rfl hc rfl) ?_
    refine St.skip ?_
    have m1x:upd m' "left_vertex" vv "self" = some (.ref me):=m1
    refine St.iteF (by exact Tst.chainI (op:=.GtE) (op':=.NotEq) (m:=upd m' "left_vertex" vv) (x:=d0) (y:=st2.rf) (z:=-1) (Ev.subI (Ev.attr (Ev.name m1x rfl rfl) (List.Mem.tail (qa,Asn.list D.rep q1) (hF.fself st2 t')) (List.Mem.tail (qa,Asn.list D.rep q1) (hF.fat st2 t')) rfl (ao_dl _) rfl rfl) (List.Mem.tail (qa,Asn.list D.rep q1) (Fam.mdl hF st2 t')) (Ev.name (x:="left_vertex") (v:=vv) rfl kv rfl) hd0 fun o i=>rfl) (Ev.attr (Ev.name m1x rfl rfl) (List.Mem.tail (qa,Asn.list D.rep q1) (hF.fself st2 t')) (List.Mem.tail (qa,Asn.list D.rep q1) (hF.fat st2 t')) rfl (ao_ref _) rfl (Exists.intro t' rfl)) (Ev.glob (gl_inf _) (Exists.intro 197 rfl) rfl) rfl rfl hc' rfl) ?_
    refine St.skip ?_
    refine St.forRep (fun j m' led'=>∃q3 st4 t4,led'=(qa,Asn.list D.rep q3)::F st4 t4∧m' "self" = some (.ref me)∧m' "vertex_queue" = some (.ref qa)∧m' "left_vertex" = some vv∧bfsEdges v (rs.drop j) q3 st4=some (q2,st3))
     (by exact Ev.sub (Ev.attr (Ev.name m1 rfl rfl) (List.Mem.tail (qa,Asn.list D.rep q1) (hF.fself st2 t')) (List.Mem.tail (qa,Asn.list D.rep q1) (hF.fat st2 t')) rfl (ao_graph _) rfl rfl) (List.Mem.tail (qa,Asn.list D.rep q1) (hF.fgd st2 t')) (Ev.name rfl kv rfl) hg fun o i=>rfl) rfl (fun _ _=>rfl) ⟨q1,st2,t',rfl,by exact m1,by exact m2,rfl,he⟩ ?_ ?_
    ·intro j r u it m2' led2 Q2 hr kr hz82
     refine E3A5 hz82 fun q3 st4 t4 ee81 n1 n2 n3 hrun=>?_
     clear hz82
     subst ee81
     rintro T2
     rw[drop_at hr] at hrun
     cases bfsEdges_cons hrun with
     | free d hp hc2 hd hs=>
      refine St.iteT (Tst.notin (Ev.attr (Ev.name n1 rfl rfl) (List.Mem.tail it (List.Mem.tail (qa,Asn.list D.rep q3) (hF.fself st4 t4))) (List.Mem.tail it (List.Mem.tail (qa,Asn.list D.rep q3) (hF.fat st4 t4))) rfl (ao_pr _) rfl rfl) (List.Mem.tail it (List.Mem.tail (qa,Asn.list D.rep q3) (Fam.mpr hF st4 t4))) (Ev.name rfl kr rfl) hp rfl) ?_
      refine St.iteT (Tst.cmpI (Ev.attr (Ev.name n1 rfl rfl) (List.Mem.tail it (List.Mem.tail (qa,Asn.list D.rep q3) (hF.fself st4 t4))) (List.Mem.tail it (List.Mem.tail (qa,Asn.list D.rep q3) (hF.fat st4 t4))) rfl (ao_ref _) rfl (Exists.intro t4 rfl)) (Ev.glob (gl_inf _) (Exists.intro 197 rfl) rfl) (congrArg some hc2) rfl) ?_
      refine St.setattr (R:=IsI (d+1)) (k:=6) (f:=hkF gd pl pr lv dl st4.rf t4) (by exact Ev.add (Ev.subI (Ev.attr (Ev.name n1 rfl rfl) (List.Mem.tail it (List.Mem.tail (qa,Asn.list D.rep q3) (hF.fself st4 t4))) (List.Mem.tail it (List.Mem.tail (qa,Asn.list D.rep q3) (hF.fat st4 t4))) rfl (ao_dl _) rfl rfl) (List.Mem.tail it (List.Mem.tail (qa,Asn.list D.rep q3) (Fam.mdl hF st4 t4))) (Ev.name n3 kv rfl) hd fun o i=>rfl) Ev.int) (by exact Ev.name n1 rfl rfl) (by exact List.Mem.tail it (List.Mem.tail (qa,Asn.list D.rep q3) (hF.fself st4 t4))) rfl (so_ref _) (fun _=>rfl) (by decide) ?_
      rintro _ ⟨t5,rfl⟩
      refine⟨_,Upd.tail (Upd.tail (hF.urf' st4 t4 (d+1) t5)),?_⟩
      exact St.skip (St.skip (T2.nil ⟨_,_,_,rfl,by exact n1,by exact n2,by exact n3,hs⟩))
     | late hp hc2 hs=>
      refine St.iteT (Tst.notin (Ev.attr (Ev.name n1 rfl rfl) (List.Mem.tail it (List.Mem.tail (qa,Asn.list D.rep q3) (hF.fself st4 t4))) (List.Mem.tail it (List.Mem.tail (qa,Asn.list D.rep q3) (hF.fat st4 t4))) rfl (ao_pr _) rfl rfl) (List.Mem.tail it (List.Mem.tail (qa,Asn.list D.rep q3) (Fam.mpr hF st4 t4))) (Ev.name rfl kr rfl) hp rfl) ?_
      refine St.iteF (Tst.cmpI (Ev.attr (Ev.name n1 rfl rfl) (List.Mem.tail it (List.Mem.tail (qa,Asn.list D.rep q3) (hF.fself st4 t4))) (List.Mem.tail it (List.Mem.tail (qa,Asn.list D.rep q3) (hF.fat st4 t4))) rfl (ao_ref _) rfl (Exists.intro t4 rfl)) (Ev.glob (gl_inf _) (Exists.intro 197 rfl) rfl) (congrArg some hc2) rfl) ?_
      exact St.skip (St.skip (T2.nil ⟨_,_,_,rfl,by exact n1,by exact n2,by exact n3,hs⟩))
     | new o d1 d hp ho hd1 hc2 hd hq3 hz hs=>
      refine St.iteF (Tst.notin (Ev.attr (Ev.name n1 rfl rfl) (List.Mem.tail it (List.Mem.tail (qa,Asn.list D.rep q3) (hF.fself st4 t4))) (List.Mem.tail it (List.Mem.tail (qa,Asn.list D.rep q3) (hF.fat st4 t4))) rfl (ao_pr _) rfl rfl) (List.Mem.tail it (List.Mem.tail (qa,Asn.list D.rep q3) (Fam.mpr hF st4 t4))) (Ev.name rfl kr rfl) hp rfl) ?_
      refine St.assign (Ev.sub (Ev.attr (Ev.name n1 rfl rfl) (List.Mem.tail it (List.Mem.tail (qa,Asn.list D.rep q3) (hF.fself st4 t4))) (List.Mem.tail it (List.Mem.tail (qa,Asn.list D.rep q3) (hF.fat st4 t4))) rfl (ao_pr _) rfl rfl) (List.Mem.tail it (List.Mem.tail (qa,Asn.list D.rep q3) (Fam.mpr hF st4 t4))) (Ev.name rfl kr rfl) ho fun o i=>rfl) rfl (fun env=>rfl) ?_
      intro ov ko
      refine St.iteT (Tst.cmpI (Ev.subI (Ev.attr (Ev.name n1 rfl rfl) (List.Mem.tail it (List.Mem.tail (qa,Asn.list D.rep q3) (hF.fself st4 t4))) (List.Mem.tail it (List.Mem.tail (qa,Asn.list D.rep q3) (hF.fat st4 t4))) rfl (ao_dl _) rfl rfl) (List.Mem.tail it (List.Mem.tail (qa,Asn.list D.rep q3) (Fam.mdl hF st4 t4))) (Ev.name rfl ko rfl) hd1 fun o i=>rfl) (Ev.glob (gl_inf _) (Exists.intro 197 rfl) rfl) (congrArg some hc2) rfl) ?_
      refine St.setitemI (Ev.attr (Ev.name n1 rfl rfl) (List.Mem.tail it (List.Mem.tail (qa,Asn.list D.rep q3) (hF.fself st4 t4))) (List.Mem.tail it (List.Mem.tail (qa,Asn.list D.rep q3) (hF.fat st4 t4))) rfl (ao_dl _) rfl rfl) (Upd.tail (Upd.tail (hF.udl st4 t4 (put st4.dl o (d+1))))) (Ev.name rfl ko rfl) (Ev.add (Ev.subI (Ev.attr (Ev.name n1 rfl rfl) (List.Mem.tail it (List.Mem.tail (qa,Asn.list D.rep q3) (hF.fself st4 t4))) (List.Mem.tail it (List.Mem.tail (qa,Asn.list D.rep q3) (hF.fat st4 t4))) rfl (ao_dl _) rfl rfl) (List.Mem.tail it (List.Mem.tail (qa,Asn.list D.rep q3) (Fam.mdl hF st4 t4))) (Ev.name n3 kv rfl) hd fun o i=>rfl) Ev.int) hz (fun env=>rfl) ?_
      refine St.expr (by exact EvC.append (Ev.name n2 rfl rfl) (Upd.tail Upd.head) (Ev.name rfl ko rfl) hq3 rfl fun env=>rfl) (fun _=>rfl) ?_
      exact St.skip (St.skip (T2.nil ⟨_,_,_,rfl,by exact n1,by exact n2,by exact n3,hs⟩))
     | old o d1 hp ho hd1 hc2 hs=>
      refine St.iteF (Tst.notin (Ev.attr (Ev.name n1 rfl rfl) (List.Mem.tail it (List.Mem.tail (qa,Asn.list D.rep q3) (hF.fself st4 t4))) (List.Mem.tail it (List.Mem.tail (qa,Asn.list D.rep q3) (hF.fat st4 t4))) rfl (ao_pr _) rfl rfl) (List.Mem.tail it (List.Mem.tail (qa,Asn.list D.rep q3) (Fam.mpr hF st4 t4))) (Ev.name rfl kr rfl) hp rfl) ?_
      refine St.assign (Ev.sub (Ev.attr (Ev.name n1 rfl rfl) (List.Mem.tail it (List.Mem.tail (qa,Asn.list D.rep q3) (hF.fself st4 t4))) (List.Mem.tail it (List.Mem.tail (qa,Asn.list D.rep q3) (hF.fat st4 t4))) rfl (ao_pr _) rfl rfl) (List.Mem.tail it (List.Mem.tail (qa,Asn.list D.rep q3) (Fam.mpr hF st4 t4))) (Ev.name rfl kr rfl) ho fun o i=>rfl) rfl (fun env=>rfl) ?_
      intro ov ko
      refine St.iteF (Tst.cmpI (Ev.subI (Ev.attr (Ev.name n1 rfl rfl) (List.Mem.tail it (List.Mem.tail (qa,Asn.list D.rep q3) (hF.fself st4 t4))) (List.Mem.tail it (List.Mem.tail (qa,Asn.list D.rep q3) (hF.fat st4 t4))) rfl (ao_dl _) rfl rfl) (List.Mem.tail it (List.Mem.tail (qa,Asn.list D.rep q3) (Fam.mdl hF st4 t4))) (Ev.name rfl ko rfl) hd1 fun o i=>rfl) (Ev.glob (gl_inf _) (Exists.intro 197 rfl) rfl) (congrArg some hc2) rfl) ?_
      exact St.skip (St.skip (T2.nil ⟨_,_,_,rfl,by exact n1,by exact n2,by exact n3,hs⟩))
    ·intro m2' led2 hz44
     refine E3A5 hz44 fun q3 st4 t4 ee43 n1 n2 n3 hrun=>?_
     clear hz44
     subst ee43
     rw[List.drop_length] at hrun
     obtain⟨rfl,rfl⟩:=Prod.mk.inj (Option.some.inj hrun)
     exact T.nil ⟨i,Nat.lt_succ_self i,q3,st4,t4,rfl,n1,n2,hrest⟩
end
end
end Mine
namespace Mine
set_option maxHeartbeats 1000000
noncomputable section
section
variable {prog:Program} {w:World} {σ:Shared} {P:Heap} {κ:Type} [DecidableEq κ] {D:DKind prog w κ}
 {me d gd pl pr lv dl:Addr} {g:List (κ×List κ)}
theorem run_c {n N:Nat} {A:Around} {E:Value→Shared→Prop} {F:HS κ→Tok→List (Addr×Asn)} {st st':HS κ} {c:Int} {t:Tok} {s:Shared} {Q:Value→Shared→Prop} (X:Src (KF w) P)
  (R:Rm A (n+N+5)) (hF:Fam D me d gd pl pr lv dl g F) (hm:runM g N st=some (c,st')) (hz1:st.pl.length≤1000) (hz2:st.pr.length≤1000) (hz3:st.dl.length≤1000) (H:At σ P (F st t) s)
  (h:∀t' t2 s',At σ P (F st' t') s'→Q (.int c t2) s'):wpAny (model prog w) A (call (.ref 42) [.ref me]) Q E s:=by
 refine E1A2 (bind_some hm) fun st0 hi hp=>?_
 refine callC (w:=w) (n:=n+N+3) [("self",.local),("left",.local),("matchings",.local),("FAKE_INFINITY",.globalImplicit)] [("self",.ref me)]
  X R H (by show(hd.heap_1 w.params).lookup _=_; k_is) (by show codeIn (hd.heap_1 w.params) _ _=_; k_is) rfl rfl rfl rfl rfl rfl rfl rfl rfl rfl rfl fun Γ hR=>?_
 clear H R hm
 refine St.expr (by exact EvC.clear (Ev.attr (Ev.name rfl rfl rfl) (hF.fself st t) (hF.fat st t) rfl (ao_pl _) rfl rfl) (hF.upl st t []) hz1 rfl) (fun _=>rfl) ?_
 refine St.expr (by exact EvC.clear (Ev.attr (Ev.name rfl rfl rfl) (hF.fself _ t) (hF.fat _ t) rfl (ao_pr _) rfl rfl) (hF.upr _ t []) hz2 rfl) (fun _=>rfl) ?_
 refine St.expr (by exact EvC.clear (Ev.attr (Ev.name rfl rfl rfl) (hF.fself _ t) (hF.fat _ t) rfl (ao_dl _) rfl rfl) (hF.udl _ t []) hz3 rfl) (fun _=>rfl) ?_
 refine St.forLed (V:=D.rep) (l:=lv) (xs:=g.map (·.1)) (fun i m' led'=>∃st1,led'=F st1 t∧m' "self" = some (.ref me)∧initDist ((g.map (·.1)).drop i) st1=some st0)
  (by exact Ev.attr (Ev.name rfl rfl rfl) (hF.fself _ t) (hF.fat _ t) rfl (ao_left _) rfl rfl) (by rintro i m' led' ⟨st1,rfl,_⟩; exact hF.flv st1 t) rfl (fun _ _=>rfl) ⟨_,rfl,rfl,hi⟩ ?_ ?_
 ·intro i l v it m' led' Q' hr kr hz184
  refine E1A3 hz184 fun st1 ee183 m1 hrun=>?_
  clear hz184
  subst ee183
  rintro T
  rw[drop_at hr] at hrun
  refine E0A2 (initDist_cons hrun) fun hz hrest=>?_
  refine St.setitemI (Ev.attr (Ev.name m1 rfl rfl) (List.Mem.tail it (hF.fself st1 t)) (List.Mem.tail it (hF.fat st1 t)) rfl (ao_dl _) rfl rfl) (Upd.tail (hF.udl st1 t (put st1.dl l (-1)))) (Ev.name rfl kr rfl) (Ev.glob (gl_inf _) (Exists.intro 197 rfl) rfl) hz (fun env=>rfl) ?_
  exact T.nil ⟨_,rfl,by exact m1,hrest⟩
 intro m' led' hz160
 refine E1A3 hz160 fun st1 ee159 m1 hrun=>?_
 clear hz160
 subst ee159
 rw[List.drop_length] at hrun
 have e:st1=st0:=Option.some.inj hrun
 subst e
 clear hi hrun
 refine St.assign (R:=IsI 0) Ev.int rfl (fun _=>rfl) ?_
 rintro _ ⟨t0,rfl⟩
 refine St.whileT (N:=N) (fun i m' led'=>∃st2 t' c' t2,led'=F st2 t'∧m' "self" = some (.ref me)∧m' "matchings" = some (.int c' t2)∧phases g N i c' st2=some (c,st'))
  ⟨_,t,0,t0,rfl,by exact m1,rfl,hp⟩ ?_
 intro i m' led' Q' hz134
 refine E4A4 hz134 fun st2 t' c' t2 ee133 m1 m2 hrun=>?_
 clear hz134
 subst ee133
 rintro T
 rcases i with _|i
 ·contradiction
 refine E2A2 (phases_succ hrun) fun b st3 hb hs=>?_
 clear hrun
 refine St.iteX (b:=!b) (RL:=fun l=>∃t3,l=F st3 t3) (TstX.not (TstX.of_ev ?_ (fun _ _=>rfl))) ?_
 ·refine EvX.meth (Ev.name m1 rfl rfl) (hF.fself st2 t') (hF.fat st2 t') rfl (mo_bfs _) Evs.nil rfl ?_
  exact⟨fun m Q s H k=>bfs_c (n:=n+N+2) X hR (hF.pre (Γ.fr m)) hb H fun t' s' H'=>k _ _ s' ⟨rfl,t',rfl⟩ H'⟩
 rintro _ ⟨t3,rfl⟩
 rcases hs with⟨rfl,hz⟩|⟨rfl,c2,st4,hph,hrest⟩
 ·obtain⟨rfl,rfl⟩:=Prod.mk.inj hz
  refine St.brkSeq fun s' H'=>T.brk s' ((St.ret (Q:=fun fl s'=>Q (flowVal fl) s') (R:=IsI c) (led':=F st' t3) (by exact Ev.name m2 (Exists.intro t2 rfl) rfl) ?_).run s' H')
  rintro v s2 ⟨t4,rfl⟩ H2
  exact h _ _ _ (Γ.out H2)
 ·refine St.skip ?_
  refine St.forLed (V:=D.rep) (l:=lv) (xs:=g.map (·.1)) (fun j m' led'=>∃st5 c5 t5,led'=F st5 t3∧m' "self" = some (.ref me)∧m' "matchings" = some (.int c5 t5)∧phase g N ((g.map (·.1)).drop j) c5 st5=some (c2,st4))
   (by exact Ev.attr (Ev.name m1 rfl rfl) (hF.fself st3 t3) (hF.fat st3 t3) rfl (ao_left _) rfl rfl) (by rintro i m' led' ⟨_,_,_,rfl,_⟩; exact hF.flv _ t3) rfl (fun _ _=>rfl) ⟨_,_,_,rfl,m1,m2,hph⟩ ?_ ?_
  ·intro j l v it m' led' Q2 hl kl hz58
   refine E3A4 hz58 fun st5 c5 t5 ee57 n1 n2 hrun=>?_
   clear hz58
   subst ee57
   rintro T2
   rw[drop_at hl] at hrun
   rcases phase_cons hrun with⟨hp,hr⟩|⟨hp,b5,st6,hd,hr⟩
   ·refine St.iteT (Tst.inn (Ev.attr (Ev.name n1 rfl rfl) (List.Mem.tail it (hF.fself st5 t3)) (List.Mem.tail it (hF.fat st5 t3)) rfl (ao_pl _) rfl rfl) (List.Mem.tail it (Fam.mpl hF st5 t3)) (Ev.name rfl kl rfl) hp rfl) ?_
    exact St.seqC fun s' H'=>T2.cont _ _ s' ⟨_,_,_,rfl,by exact n1,by exact n2,hr⟩ H'
   ·refine St.iteF (Tst.inn (Ev.attr (Ev.name n1 rfl rfl) (List.Mem.tail it (hF.fself st5 t3)) (List.Mem.tail it (hF.fat st5 t3)) rfl (ao_pl _) rfl rfl) (List.Mem.tail it (Fam.mpl hF st5 t3)) (Ev.name rfl kl rfl) hp rfl) ?_
    refine St.skip ?_
    refine St.ite (b:=b5) (led':=it::F st6 t3) (TstC.of_ev ?_ (fun _ _=>rfl)) ?_
    ·refine EvC.meth (Ev.name n1 rfl rfl) (List.Mem.tail it (hF.fself st5 t3)) (List.Mem.tail it (hF.fat st5 t3)) rfl (mo_dfs _) (Evs.cons (Ev.name rfl rfl rfl) (fun env=>rfl) Evs.nil) rfl ?_
     exact⟨fun m Q s H k=>dfs_c X N (A:=Γ.A) (by exact⟨hR.handled,by have:=hR.depth; lia,by have:=hR.units; lia⟩) ((hF.cons it).pre (Γ.fr m)) hd H kl fun s' H'=>k _ _ rfl H'⟩
    ·rcases b5 with _|_
     rotate_left
     ·
      refine St.aug (y:=c5) (z:=1) ⟨t5,by exact n2⟩ Ev.int rfl fun t6=>?_
      exact St.skip (T2.nil ⟨_,_,_,rfl,by exact n1,upd_self,hr⟩)
     ·exact St.skip (T2.nil ⟨_,_,_,rfl,by exact n1,by exact n2,hr⟩)
  ·intro m' led' hz40
   refine E3A4 hz40 fun st5 c5 t5 ee39 n1 n2 hrun=>?_
   clear hz40
   subst ee39
   rw[List.drop_length] at hrun
   obtain⟨rfl,rfl⟩:=Prod.mk.inj (Option.some.inj hrun)
   exact T.nil ⟨i,Nat.lt_succ_self i,_,t3,_,t5,rfl,n1,n2,hrest⟩
end
end
end Mine
namespace Mine
set_option maxHeartbeats 1000000
noncomputable section
theorem so_graph (w:World):SetOk w 80 "_graph_left":=so_of (by k_is) (by k_is) (by k_is) (by k_is)
theorem so_pl (w:World):SetOk w 80 "_pair_left":=so_of (by k_is) (by k_is) (by k_is) (by k_is)
theorem so_pr (w:World):SetOk w 80 "_pair_right":=so_of (by k_is) (by k_is) (by k_is) (by k_is)
theorem so_left (w:World):SetOk w 80 "_left":=so_of (by k_is) (by k_is) (by k_is) (by k_is)
theorem so_dl (w:World):SetOk w 80 "_dist_left":=so_of (by k_is) (by k_is) (by k_is) (by k_is)
theorem hkF_of (gd pl pr lv dl:Addr) (rf:Int) (t:Tok) :
  upd (upd (upd (upd (upd (upd (fun _=>none) "_graph_left" (.ref gd)) "_reference_distance" (.int rf t)) "_pair_left" (.ref pl)) "_pair_right" (.ref pr)) "_left" (.ref lv)) "_dist_left" (.ref dl)=hkF gd pl pr lv dl rf t:=by
 funext x
 unfold hkF upd
 by_cases h1:x = "_graph_left"
 ·subst h1; rfl
 by_cases h2:x = "_reference_distance"
 ·subst h2; rfl
 by_cases h3:x = "_pair_left"
 ·subst h3; rfl
 by_cases h4:x = "_pair_right"
 ·subst h4; rfl
 by_cases h5:x = "_left"
 ·subst h5; rfl
 by_cases h6:x = "_dist_left"
 ·subst h6; rfl
 simp only[if_neg h1,if_neg h2,if_neg h3,if_neg h4,if_neg h5,if_neg h6,List.lookup_cons,beq_false_of_ne h1,beq_false_of_ne h2,beq_false_of_ne h3,beq_false_of_ne h4,beq_false_of_ne h5,beq_false_of_ne h6,List.lookup_nil]
section
variable {prog:Program} {w:World} {σ:Shared} {P:Heap} {κ:Type} [DecidableEq κ] {D:DKind prog w κ}
 {me d gd pl pr lv dl:Addr} {g:List (κ×List κ)}
theorem num_c {n N:Nat} {A:Around} {E:Value→Shared→Prop} {F:HS κ→Tok→List (Addr×Asn)} {st st':HS κ} {c:Int} {t:Tok} {s:Shared} {Q:Value→Shared→Prop} (X:Src (KF w) P)
  (R:Rm A (n+N+7)) (hF:Fam D me d gd pl pr lv dl g F) (hm:runM g N st=some (c,st')) (hz1:st.pl.length≤1000) (hz2:st.pr.length≤1000) (hz3:st.dl.length≤1000) (H:At σ P (F st t) s)
  (h:∀P' t' v s',Sub P P'→(Rep.pair Rep.int Rep.val).is P' (c,.ref pl) v→At σ P' (F st' t') s'→Q v s'):wpAny (model prog w) A (call (.ref 56) [.ref me]) Q E s:=by
 refine callC (w:=w) (n:=n+N+5) [("self",.local),("matchings",.local)] [("self",.ref me)]
  X R H (by show(hd.heap_1 w.params).lookup _=_; k_is) (by show codeIn (hd.heap_1 w.params) _ _=_; k_is) rfl rfl rfl rfl rfl rfl rfl rfl rfl rfl rfl fun Γ hR=>?_
 refine St.assignX (RX:=fun v l=>∃t' t2,l=F st' t'∧v=.int c t2) ?_ rfl (fun _=>rfl) ?_
 ·refine EvX.meth (Ev.name rfl rfl rfl) (hF.fself st t) (hF.fat st t) rfl (mo_run _) Evs.nil rfl ?_
  exact⟨fun m Q s H k=>run_c (n:=n) (N:=N) X (by exact⟨hR.handled,by have:=hR.depth; exact Nat.le_of_lt (by assumption),by have:=hR.units; exact un3 (by assumption)⟩) (hF.pre (Γ.fr m)) hm hz1 hz2 hz3 H fun t' t2 s' H'=>k _ _ s' ⟨t',t2,rfl,rfl⟩ H'⟩
 intro _ _ hz463
 refine E2A2 hz463 fun t' t2 ee461 ee462=>?_
 clear hz463
 subst ee461 ee462
 refine St.retG (R:=fun P' v l=>l=F st' t'∧(Rep.pair Rep.int Rep.val).is P' (c,.ref pl) v) (EvG.imp (EvV.pair (A:=Rep.int) (B:=Rep.val) (EvV.of (Ev.name upd_self ⟨_,rfl⟩ rfl)) (fun P' kk=>EvV.val ?_) (fun _=>rfl) (fun _=>rfl)) fun P' v l _ zz457=>E0A2 zz457 fun e hv=>⟨e,hv⟩) fun P' v l s' kk zz436 H'=>E0A2 zz436 fun e hv=>?_
 ·exact Ev.attr (Ev.name rfl rfl rfl) (hF.fself st' t') (hF.fat st' t') rfl (ao_pl _) rfl rfl
 ·subst e
  exact h P' t' v s' kk hv (At.dropL H')
theorem max_c {n N:Nat} {A:Around} {E:Value→Shared→Prop} {F:HS κ→Tok→List (Addr×Asn)} {st st':HS κ} {c:Int} {t:Tok} {s:Shared} {Q:Value→Shared→Prop} (X:Src (KF w) P)
  (R:Rm A (n+N+9)) (hF:Fam D me d gd pl pr lv dl g F) (hm:runM g N st=some (c,st')) (hz1:st.pl.length≤1000) (hz2:st.pr.length≤1000) (hz3:st.dl.length≤1000) (H:At σ P (F st t) s)
  (h:∀P' t' s',Sub P P'→At σ P' (F st' t') s'→Q (.ref pl) s'):wpAny (model prog w) A (call (.ref 49) [.ref me]) Q E s:=by
 refine callC (w:=w) (n:=n+N+7) [("self",.local),("matchings",.local),("maximum_matching",.local)] [("self",.ref me)]
  X R H (by show(hd.heap_1 w.params).lookup _=_; k_is) (by show codeIn (hd.heap_1 w.params) _ _=_; k_is) rfl rfl rfl rfl rfl rfl rfl rfl rfl rfl rfl fun Γ hR=>?_
 refine St.unpack (A:=Rep.int) (B:=Rep.val) (u:=c) (w:=.ref pl) (R:=fun P' v l=>∃t',l=F st' t'∧(Rep.pair Rep.int Rep.val).is P' (c,.ref pl) v) ?_ (fun _ _ _ zz414=>E1A2 zz414 fun _ _ hv=>hv) (fun _ _ _ _=>Asg.name rfl) (fun _ _ _ _ _=>Asg.name rfl) (fun _=>rfl) (fun _=>rfl) (fun _=>rfl) ?_
 ·refine EvG.meth (me:=me) (d:=d) (C:=80) (Ev.name rfl rfl rfl) (hF.fself _ _) (hF.fat _ _) rfl (mo_num w) Evs.nil rfl ?_
  exact⟨fun m Q s H k=>num_c (n:=n) (N:=N) X (by exact⟨hR.handled,by have:=hR.depth; exact Nat.le_of_lt (by assumption),by have:=hR.units; exact un3 (by assumption)⟩) (hF.pre (Γ.fr m)) hm hz1 hz2 hz3 H fun P' t' v s' kk hv H'=>k P' _ _ s' kk ⟨t',rfl,hv⟩ H'⟩
 ·intro P' v l v1 v2 m1 m2 kk hz376
  refine E1A2 hz376 fun t' ee375 hv=>?_
  clear hz376
  subst ee375
  rintro⟨t2,rfl⟩ rfl rfl rfl
  refine St.ret (R:=Is (.ref pl)) (Ev.name upd_self rfl rfl) fun v s' hv H'=>?_
  subst hv
  exact h P' t' s' kk (At.dropL H')
theorem make_c {n:Nat} {A:Around} {E:Value→Shared→Prop} {led:List (Addr×Asn)} {s:Shared} {Q:Value→Shared→Prop} (X:Src (KF w) P) (R:Rm A (n+4)) (hz:g.length≤1000)
  (H:At σ P led s) (hg:(gd,Asn.dict D (Rep.list D.rep) g)∈led)
  (h:∀P' x dx pl pr lv dl t s',Sub P P'→At σ P' ((dl,Asn.dict D Rep.int [])::(lv,Asn.list D.rep (g.map (·.1)))::(pr,Asn.dict D D.rep [])::(pl,Asn.dict D D.rep [])::(x,Asn.eq (instObj 80 dx))::(dx,Asn.nsN 6 (hkF gd pl pr lv dl (-1) t))::led) s'→Q (.ref x) s') :
  wpAny (model prog w) A (call (.ref 80) [.ref gd]) Q E s:=by
 refine r_make (K:=KF w) (C:=80) (fI:=35) X H (by show makesIn (hd.heap_1 w.params) _=_; k_is) (by show findIn (hd.heap_1 w.params) _ _=_; k_is) (by show typeIn (hd.heap_1 w.params) _=_; k_is) fun x dx s1 H1=>?_
 refine callCode (w:=w) (n:=n+1) [("self",.local),("graph_left",.local),("FAKE_INFINITY",.globalImplicit),("list",.globalImplicit)] [("self",.ref x),("graph_left",.ref gd)]
  X (Rm.make (n:=n+3) R _ _) H1 (by show(hd.heap_1 w.params).lookup _=_; k_is) (by show codeIn (hd.heap_1 w.params) _ _=_; k_is) rfl rfl rfl rfl rfl rfl rfl rfl rfl rfl rfl fun Γ hR=>?_
 refine St.setattrNew (me:=x) (d:=dx) (C:=80) (k:=0) (f:=fun _=>none) (R:=fun P' v l=>P'=P∧v=.ref gd∧l=(x,Asn.eq (instObj 80 dx))::(dx,Asn.nsN 0 fun _=>none)::led) (EvC.toG (R0:=Is (.ref gd)) (Ev.name rfl rfl rfl) fun v hv=>⟨rfl,hv,rfl⟩)
  (fun _ _ _=>Ev.name rfl rfl rfl) (fun _ _ _ zz368=>E0A3 zz368 fun _ _ e=>e▸.head _) rfl (so_graph w) (fun _=>rfl) (by decide) ?_
 intro P1 _ _ k1 hz328
 refine E0A3 hz328 fun e1 ee326 ee327=>?_
 clear hz328
 subst ee326 ee327
 obtain rfl:=e1.symm
 refine⟨_,.tail .head,?_⟩
 refine St.setattrNew (me:=x) (d:=dx) (C:=80) (k:=1) (f:=upd (fun _=>none) "_graph_left" (.ref gd)) (R:=fun P' v l=>P'=P∧v=.int (-1) 197∧l=(x,Asn.eq (instObj 80 dx))::(dx,Asn.nsN 1 (upd (fun _=>none) "_graph_left" (.ref gd)))::led) (EvC.toG (R0:=Is (.int (-1) 197)) (Ev.glob (gl_inf w) rfl rfl) fun v hv=>⟨rfl,hv,rfl⟩)
  (fun _ _ _=>Ev.name rfl rfl rfl) (fun _ _ _ zz317=>E0A3 zz317 fun _ _ e=>e▸.head _) rfl (so_ref w) (fun _=>rfl) (by decide) ?_
 intro P1 _ _ k2 hz272
 refine E0A3 hz272 fun e1 ee270 ee271=>?_
 clear hz272
 subst ee270 ee271
 obtain rfl:=e1.symm
 refine⟨_,.tail .head,?_⟩
 refine St.setattrNew (me:=x) (d:=dx) (C:=80) (k:=2) (f:=upd (upd (fun _=>none) "_graph_left" (.ref gd)) "_reference_distance" (.int (-1) 197)) (EvC.dict0 D D.rep) (fun _ _ _=>Ev.name rfl rfl rfl) (fun _ _ _ ⟨_,_,_,e⟩=>e▸.tail _ (.head _)) rfl (so_pl w) (fun _=>rfl) (by decide) ?_
 rintro _ _ _ k3 ⟨rfl,pl,rfl,rfl⟩
 refine⟨_,.tail (.tail .head),?_⟩
 refine St.setattrNew (me:=x) (d:=dx) (C:=80) (k:=3) (f:=upd (upd (upd (fun _=>none) "_graph_left" (.ref gd)) "_reference_distance" (.int (-1) 197)) "_pair_left" (.ref pl)) (EvC.dict0 D D.rep) (fun _ _ _=>Ev.name rfl rfl rfl) (fun _ _ _ ⟨_,_,_,e⟩=>e▸.tail _ (.tail _ (.head _))) rfl (so_pr w) (fun _=>rfl) (by decide) ?_
 rintro _ _ _ k4 ⟨rfl,pr,rfl,rfl⟩
 refine⟨_,.tail (.tail (.tail .head)),?_⟩
 refine St.setattrNew (me:=x) (d:=dx) (C:=80) (k:=4) (f:=upd (upd (upd (upd (fun _=>none) "_graph_left" (.ref gd)) "_reference_distance" (.int (-1) 197)) "_pair_left" (.ref pl)) "_pair_right" (.ref pr)) (EvG.listKeys (D:=D) (V:=Rep.list D.rep) (ps:=g) (d:=gd) (Ev.builtin (nb_list w) (by boot_by_name) (by decide) rfl rfl)
  (EvG.keys (D:=D) (V:=Rep.list D.rep) (ps:=g) (x:=none) (d:=gd) (Ev.attr (me:=x) (d:=dx) (C:=80) (Ev.name rfl rfl rfl) (.tail _ (.tail _ (.head _))) (.tail _ (.tail _ (.tail _ (.head _)))) rfl (ao_graph w) rfl rfl) (.tail _ (.tail _ (.tail _ (.tail _ hg)))) rfl)
  (.tail _ (.tail _ (.tail _ (.tail _ hg)))) hz (fun _=>rfl) (fun _=>rfl)) (fun _ _ _=>Ev.name rfl rfl rfl) (fun _ _ _ zz136=>E1A2 zz136 fun _ _ e=>e▸.tail _ (.tail _ (.tail _ (.head _)))) rfl (so_left w) (fun _=>rfl) (by decide) ?_
 intro P2 _ _ k5 hz92
 refine E1A2 hz92 fun lv ee90 ee91=>?_
 clear hz92
 subst ee90 ee91
 refine⟨_,.tail (.tail (.tail (.tail .head))),?_⟩
 refine St.setattrNew (me:=x) (d:=dx) (C:=80) (k:=5) (f:=upd (upd (upd (upd (upd (fun _=>none) "_graph_left" (.ref gd)) "_reference_distance" (.int (-1) 197)) "_pair_left" (.ref pl)) "_pair_right" (.ref pr)) "_left" (.ref lv)) (EvC.dict0 D Rep.int) (fun _ _ _=>Ev.name rfl rfl rfl) (fun _ _ _ ⟨_,_,_,e⟩=>e▸.tail _ (.tail _ (.tail _ (.tail _ (.head _))))) rfl (so_dl w) (fun _=>rfl) (by decide) ?_
 rintro P3 _ _ k6 ⟨rfl,dl,rfl,rfl⟩
 refine⟨_,.tail (.tail (.tail (.tail (.tail .head)))),?_⟩
 refine St.nil fun s' H'=>⟨rfl,h P3 x dx pl pr lv dl 197 s' k5 ?_⟩
 rw[←hkF_of]
 exact At.dropL H'
end
end
end Mine
open PySem
namespace Mine
theorem rise_le {xs:Array Nat} (hr:xs.toList.Pairwise (· < ·)) {i i' x y:Nat} (h:i≤i') (hx:xs[i]? = some x) (hy:xs[i']? = some y):x≤y:=by
 rcases Nat.lt_or_eq_of_le h with h|h
 ·rw[List.pairwise_iff_getElem] at hr
  obtain⟨h1,rfl⟩:=Array.getElem?_eq_some_iff.mp hx
  obtain⟨h2,rfl⟩:=Array.getElem?_eq_some_iff.mp hy
  have:=hr i i' (by exact h1) (by exact h2) h
  simp only[Array.getElem_toList] at this
  exact Nat.le_of_lt (by assumption)
 ·subst h
  rw[hx] at hy; (obtain rfl:=Option.some.inj hy); exact Nat.le_refl _
theorem below_go {xs:Array Nat} {j:Nat} (hr:xs.toList.Pairwise (· < ·)):∀(fuel lo hi:Nat),hi≤lo+fuel→hi≤xs.size→lo≤hi →
  (∀(i x:Nat),i<lo→xs[i]? = some x→x<j)→(∀(i x:Nat),hi≤i→xs[i]? = some x→j≤x) →
  SetTable.below.go xs j fuel lo hi≤xs.size∧(∀(i x:Nat),i<SetTable.below.go xs j fuel lo hi→xs[i]? = some x→x<j)∧(∀(i x:Nat),SetTable.below.go xs j fuel lo hi≤i→xs[i]? = some x→j≤x)
 | 0,lo,hi,h1,h2,h3,h4,h5=>by
  have:hi=lo:=by lia
  subst this
  exact⟨h2,h4,h5⟩
 | fuel+1,lo,hi,h1,h2,h3,h4,h5=>by
  unfold SetTable.below.go
  by_cases hlt:lo<hi
  ·rw[if_pos hlt]
   have hm:(lo+hi) / 2<xs.size:=by exact md3 (by assumption) (by assumption)
   have hg:xs[(lo+hi) / 2]? = some xs[(lo+hi) / 2]:=Array.getElem?_eq_getElem hm
   have hd:xs.getD ((lo+hi) / 2) j=xs[(lo+hi) / 2]:=by simp[Array.getD,hm]
   dsimp only
   rw[hd]
   by_cases hc:xs[(lo+hi) / 2]<j
   ·rw[if_pos hc]
    refine below_go hr fuel _ hi (by lia) h2 (by exact md1 (by assumption)) (fun i x hi' hx=>?_) h5
    have:=rise_le hr (Nat.le_of_lt_succ hi') hx hg
    exact Nat.lt_of_le_of_lt (by assumption) (by assumption)
   ·rw[if_neg hc]
    refine below_go hr fuel lo _ (by lia) (by exact Nat.le_of_lt (by assumption)) (by exact md2 (by assumption)) h4 fun i x hi' hx=>?_
    have:=rise_le hr hi' hg hx
    lia
  ·rw[if_neg hlt]
   have:hi=lo:=by lia
   subst this
   exact⟨h2,h4,h5⟩
theorem below_spec {xs:Array Nat} (hr:xs.toList.Pairwise (· < ·)) (j:Nat) :
  SetTable.below xs j≤xs.size∧(∀(i x:Nat),i<SetTable.below xs j→xs[i]? = some x→x<j)∧(∀(i x:Nat),SetTable.below xs j≤i→xs[i]? = some x→j≤x):=
 below_go hr _ _ _ (by lia) (Nat.le_refl _) (Nat.zero_le _) (fun _ _ h=>absurd h (Nat.not_lt_zero _)) fun i x h hx=>by
  have:=(Array.getElem?_eq_some_iff.mp hx).1; exact absurd (by assumption) (Nat.not_lt.mpr (by assumption))
theorem below_at {xs:Array Nat} (hr:xs.toList.Pairwise (· < ·)) {i j:Nat} (h:xs[i]? = some j):SetTable.below xs j=i:=by
 refine E0A3 (below_spec hr j) fun a b c=>?_
 rcases Nat.lt_trichotomy i (SetTable.below xs j) with q|q|q
 ·have:=b i j q h; exact absurd (by assumption) (Nat.lt_irrefl _)
 ·exact q.symm
 ·have hi:=(Array.getElem?_eq_some_iff.mp h).1
  have hlt:SetTable.below xs j<xs.size:=by exact Nat.lt_trans (by assumption) (by assumption)
  have hg:xs[SetTable.below xs j]? = some xs[SetTable.below xs j]:=Array.getElem?_eq_getElem hlt
  have h1:=c _ _ (Nat.le_refl _) hg
  have:xs[SetTable.below xs j]<j:=by
   rw[List.pairwise_iff_getElem] at hr
   obtain⟨h2,e⟩:=Array.getElem?_eq_some_iff.mp h
   have:=hr _ i (by exact hlt) (by exact h2) q
   simp only[Array.getElem_toList] at this
   exact Nat.lt_of_lt_of_eq (by assumption) (by assumption)
  exact absurd (by assumption) (Nat.not_lt.mpr (by assumption))
theorem has_iff {xs:Array Nat} (hr:xs.toList.Pairwise (· < ·)) {j:Nat}:SetTable.has xs j=true↔j∈xs.toList:=by
 unfold SetTable.has
 rw[beq_iff_eq]
 constructor
 ·intro h
  exact List.mem_of_getElem? (i:=SetTable.below xs j) (by simpa using h)
 ·intro h
  obtain⟨i,hi⟩:=List.mem_iff_getElem?.mp h
  have hi':xs[i]? = some j:=by simpa using hi
  rw[below_at hr hi']; exact hi'
structure Lay (t:SetTable) (n:Nat):Prop where
 rp:t.place.toList.Pairwise (· < ·)
 rd:t.dummies.toList.Pairwise (· < ·)
 size:t.place.size=n
 fill:t.fill≤t.mask
 pm:∀j∈t.place.toList,j≤t.mask
 dm:∀j∈t.dummies.toList,j≤t.mask
 dis:∀j∈t.place.toList,j∉t.dummies.toList
section
variable {t:SetTable} {n i j:Nat}
theorem Lay.live (L:Lay t n):t.slot j=.live i↔t.place[i]? = some j:=by
 unfold SetTable.slot
 constructor
 ·intro h
  dsimp only at h
  revert h; refine iteInduction (motive:=fun x=>x=_→_) (fun _ h=>?_) fun _ h=>?_
  ·rename_i hc
   (injection h with h; subst h)
   exact beq_iff_eq.mp hc
  ·split at h <;> contradiction
 ·intro h
  have:=below_at L.rp h
  dsimp only
  rw[this,if_pos (beq_iff_eq.mpr h)]
theorem Lay.slot_cases (L:Lay t n) (j:Nat):(∃i,t.slot j=.live i∧t.place[i]? = some j)∨(t.slot j=.dummy∧j∈t.dummies.toList∧j∉t.place.toList)∨(t.slot j=.empty∧j∉t.dummies.toList∧j∉t.place.toList):=by
 by_cases h:j∈t.place.toList
 ·obtain⟨i,hi⟩:=List.mem_iff_getElem?.mp h
  have hi':t.place[i]? = some j:=by simpa using hi
  exact .inl ⟨i,L.live.mpr hi',hi'⟩
 ·have hn:¬((t.place[SetTable.below t.place j]? == some j)=true):=fun q=>h (List.mem_of_getElem? (i:=SetTable.below t.place j) (by simpa using beq_iff_eq.mp q))
  by_cases hd:j∈t.dummies.toList
  ·exact .inr (.inl ⟨by unfold SetTable.slot; dsimp only; rw[if_neg hn,if_pos ((has_iff L.rd).mpr hd)],hd,h⟩)
  ·exact .inr (.inr ⟨by unfold SetTable.slot; dsimp only; rw[if_neg hn,if_neg fun q=>hd ((has_iff L.rd).mp q)],hd,h⟩)
theorem Lay.full (L:Lay t n):t.slot j≠.empty↔j∈t.place.toList∨j∈t.dummies.toList:=by
 rcases L.slot_cases j with⟨i,h,hp⟩|⟨h,hd,hp⟩|⟨h,hd,hp⟩
 ·rw[h]; simp only[ne_eq,reduceCtorEq,not_false_eq_true,true_iff]; exact .inl (List.mem_of_getElem? (i:=i) (by simpa using hp))
 ·rw[h]; simp only[ne_eq,reduceCtorEq,not_false_eq_true,true_iff]; exact .inr hd
 ·rw[h]; simp[hd,hp]
theorem Lay.space (L:Lay t n):∃j,j≤t.mask∧t.slot j=.empty:=by
 refine Classical.byContradiction fun hno=>?_
 have h1:=nodup_le List.nodup_range fun j hj=>by
  have hj':j≤t.mask:=by have:=List.mem_range.mp hj; exact Nat.le_of_lt_succ (by assumption)
  exact List.mem_append.mpr (L.full.mp fun e=>hno ⟨j,hj',e⟩)
 have:=L.fill
 simp only[List.length_range,List.length_append,Array.length_toList,SetTable.fill] at h1 this
 exact absurd (by assumption) (Nat.not_lt.mpr (by assumption))
end
noncomputable abbrev Stp:=Nat×Nat×Nat×Nat
noncomputable def advS (mask:Nat) (s:Stp):Stp:=
 if s.2.1>0 then(s.1+1,s.2.1 - 1,s.2.2.1,s.2.2.2)
 else let q:=SetTable.leap mask s.2.2.1 s.2.2.2; (q.1,SetTable.runEnd mask q.1 - q.1,q.1,q.2)
noncomputable def strip (p:SetTable.Probe):Stp:=(p.j,p.more,p.i,p.perturb)
noncomputable def nth (mask:Nat) (s:Stp):Nat→Stp
 | 0=>s
 | n+1=>nth mask (advS mask s) n
noncomputable def begin_ (mask i perturb:Nat):Stp:=(i,SetTable.runEnd mask i - i,i,perturb)
theorem strip_advance (t:SetTable) (p:SetTable.Probe) (d:Option Nat):strip (t.advance { p with dummy:=d })=advS t.mask (strip p)∧(t.advance { p with dummy:=d }).dummy=d:=by
 unfold SetTable.advance advS strip
 by_cases h:p.more>0
 ·simp[h]
 ·simp only[h,if_false,and_self]
section
variable {t:SetTable} {H:Nat→Int} {h:Int}
noncomputable def Pass (t:SetTable) (H:Nat→Int) (h:Int) (j:Nat):Prop:=t.slot j=.dummy∨∃i,t.slot j=.live i∧(H i == h)=false
theorem go_live {i:Nat}:∀(k fuel:Nat) (p:SetTable.Probe),k<fuel→t.slot (nth t.mask (strip p) k).1=.live i→(H i == h)=true→(∀k'<k,Pass t H h (nth t.mask (strip p) k').1) →
  ∃next,SetTable.probe.go t H h fuel p=some (.candidate (nth t.mask (strip p) k).1 i next)
 | 0,fuel+1,p,_,hs,hh,_=>by
  unfold SetTable.probe.go
  have hs':t.slot p.j=.live i:=hs
  rw[hs']
  dsimp only
  rw[if_pos hh]
  exact⟨_,rfl⟩
 | k+1,fuel+1,p,hk,hs,hh,hp=>by
  unfold SetTable.probe.go
  have h0:Pass t H h p.j:=hp 0 (Nat.succ_pos k)
  rcases h0 with e|⟨i',e,hne⟩
  ·rw[e]
   refine E0A2 (strip_advance t p (some p.j)) fun a _=>?_
   have:=go_live k fuel (t.advance { p with dummy:=some p.j }) (Nat.lt_of_succ_lt_succ hk) (by rw[a]; exact hs) hh (fun k' hk'=>by rw[a]; exact hp (k'+1) (Nat.succ_lt_succ hk'))
   rw[a] at this
   exact this
  ·rw[e]
   dsimp only
   rw[if_neg (by rw[hne]; exact Bool.false_ne_true)]
   refine E0A2 (strip_advance t p p.dummy) fun a _=>?_
   have a:strip (t.advance p)=advS t.mask (strip p):=a
   have:=go_live k fuel (t.advance p) (Nat.lt_of_succ_lt_succ hk) (by rw[a]; exact hs) hh (fun k' hk'=>by rw[a]; exact hp (k'+1) (Nat.succ_lt_succ hk'))
   rw[a] at this
   exact this
theorem go_empty:∀(k fuel:Nat) (p:SetTable.Probe),k<fuel→t.slot (nth t.mask (strip p) k).1=.empty→(∀k'<k,Pass t H h (nth t.mask (strip p) k').1) →
  ∃d,SetTable.probe.go t H h fuel p=some (.empty (nth t.mask (strip p) k).1 d)∧(d=p.dummy∨∃k'<k,d=some (nth t.mask (strip p) k').1∧t.slot (nth t.mask (strip p) k').1=.dummy)
 | 0,fuel+1,p,_,hs,_=>by
  unfold SetTable.probe.go
  have hs':t.slot p.j=.empty:=hs
  rw[hs']
  exact⟨p.dummy,rfl,Or.inl rfl⟩
 | k+1,fuel+1,p,hk,hs,hp=>by
  unfold SetTable.probe.go
  have h0:Pass t H h p.j:=hp 0 (Nat.succ_pos k)
  rcases h0 with e|⟨i',e,hne⟩
  ·rw[e]
   dsimp only
   refine E0A2 (strip_advance t p (some p.j)) fun a b=>?_
   obtain⟨d,h1,h2⟩:=go_empty k fuel (t.advance { p with dummy:=some p.j }) (Nat.lt_of_succ_lt_succ hk) (by rw[a]; exact hs) (fun k' hk'=>by rw[a]; exact hp (k'+1) (Nat.succ_lt_succ hk'))
   rw[a] at h1
   refine⟨d,h1,.inr ?_⟩
   rcases h2 with h2|⟨k',hk',h2,h3⟩
   ·rw[b] at h2
    exact⟨0,Nat.succ_pos k,h2,e⟩
   ·rw[a] at h2 h3
    exact⟨k'+1,Nat.succ_lt_succ hk',h2,h3⟩
  ·rw[e]
   dsimp only
   rw[if_neg (by rw[hne]; exact Bool.false_ne_true)]
   refine E0A2 (strip_advance t p p.dummy) fun a b=>?_
   have a:strip (t.advance p)=advS t.mask (strip p):=a
   have b:(t.advance p).dummy=p.dummy:=b
   obtain⟨d,h1,h2⟩:=go_empty k fuel (t.advance p) (Nat.lt_of_succ_lt_succ hk) (by rw[a]; exact hs) (fun k' hk'=>by rw[a]; exact hp (k'+1) (Nat.succ_lt_succ hk'))
   rw[a] at h1
   refine⟨d,h1,?_⟩
   rcases h2 with h2|⟨k',hk',h2,h3⟩
   ·exact .inl (h2.trans b)
   ·rw[a] at h2 h3
    exact .inr ⟨k'+1,Nat.succ_lt_succ hk',h2,h3⟩
end
noncomputable def meets (mask:Nat):Nat→Nat→Nat→Nat→Bool
 | 0,_,_,_=>false
 | f+1,i,p,j=>(Nat.ble i j && Nat.ble j (SetTable.runEnd mask i)) || meets mask f (SetTable.leap mask i p).1 (SetTable.leap mask i p).2 j
noncomputable def Wide (mask:Nat) (h:Int):Bool:=(List.range (mask+1)).all fun j=>meets mask (SetTable.turns mask) (SetTable.bits h % (mask+1)) (SetTable.bits h) j
theorem nth_run (mask i p:Nat):∀(k m:Nat),(∀n,nth mask (i+k,m,i,p) n=nth mask (i+k,m,i,p) n)∧∀n,n≤m→nth mask (i+k,m,i,p) n=(i+k+n,m - n,i,p):=by
 intro k m
 refine⟨fun _=>rfl,?_⟩
 intro n
 induction n generalizing k m with
 | zero=>intro _; rfl
 | succ n ih=>
  intro h
  show nth mask (advS mask (i+k,m,i,p)) n=_
  have:advS mask (i+k,m,i,p)=(i+(k+1),m - 1,i,p):=by
   unfold advS
   rw[if_pos (show(i+k,m,i,p).2.1>0 from by show m>0; lia)]
   rfl
  simp only[this,ih (k+1) (m - 1) (by exact Nat.le_sub_of_add_le (by assumption))]
  congr 1
  ·lia
  ·congr 1; lia
theorem nth_add (mask:Nat):∀(a b:Nat) (s:Stp),nth mask s (a+b)=nth mask (nth mask s a) b
 | 0,b,s=>by rw[Nat.zero_add]; rfl
 | a+1,b,s=>by rw[Nat.succ_add]; exact nth_add mask a b _
theorem nth_leap (mask i p:Nat):nth mask (begin_ mask i p) (SetTable.runEnd mask i - i+1)=begin_ mask (SetTable.leap mask i p).1 (SetTable.leap mask i p).2:=by
 have h:=(nth_run mask i p 0 (SetTable.runEnd mask i - i)).2 (SetTable.runEnd mask i - i) (Nat.le_refl _)
 have e:begin_ mask i p=(i+0,SetTable.runEnd mask i - i,i,p):=rfl
 simp only[nth_add,e,h]
 show advS mask _=_
 unfold advS
 rw[if_neg (show ¬_>0 from by show ¬(SetTable.runEnd mask i - i - (SetTable.runEnd mask i - i))>0; lia)]
 rfl
theorem runEnd_ge (mask i:Nat):i≤SetTable.runEnd mask i∧SetTable.runEnd mask i - i≤9:=by unfold SetTable.runEnd; split <;> lia
theorem meets_nth {mask j:Nat}:∀(f i p:Nat),meets mask f i p j=true→∃n,n<10*f∧(nth mask (begin_ mask i p) n).1=j
 | 0,_,_,h=>by contradiction
 | f+1,i,p,h=>by
  unfold meets at h
  have hr:=runEnd_ge mask i
  rcases Bool.or_eq_true_iff.mp h with h|h
  ·refine E0A2 (Bool.and_eq_true_iff.mp h) fun h1 h2=>?_
   have h1:=Nat.le_of_ble_eq_true h1
   have h2:=Nat.le_of_ble_eq_true h2
   refine⟨j - i,by lia,?_⟩
   have:=(nth_run mask i p 0 (SetTable.runEnd mask i - i)).2 (j - i) (by exact Nat.sub_le_sub_right (by assumption) _)
   have e:begin_ mask i p=(i+0,SetTable.runEnd mask i - i,i,p):=rfl
   simp only[e,this]
   exact sb15 (by assumption)
  ·refine E1A2 (meets_nth f _ _ h) fun n hn e=>?_
   refine⟨SetTable.runEnd mask i - i+1+n,by lia,?_⟩
   rw[nth_add,nth_leap]
   exact e
end Mine
open PySem
namespace Mine
noncomputable abbrev way (mask:Nat) (h:Int) (k:Nat):Nat:=(nth mask (begin_ mask (SetTable.bits h % (mask+1)) (SetTable.bits h)) k).1
structure Good (t:SetTable) (hs:List Int):Prop extends Lay t hs.length where
 nd:hs.Nodup
 reach:∀x∈t.place.toList.zip hs,∀k,(∀k'≤k,way t.mask x.2 k'≠x.1)→t.slot (way t.mask x.2 k)≠.empty
theorem wide_way {mask:Nat} {h:Int} (W:Wide mask h=true) {j:Nat} (hj:j≤mask):∃n,n<10*SetTable.turns mask∧Mine.way mask h n=j:=
 meets_nth _ _ _ (List.all_eq_true.mp W j (List.mem_range.mpr (Nat.lt_succ_of_le hj)))
theorem begin_le (mask i p:Nat) (h:i≤mask):(begin_ mask i p).1+(begin_ mask i p).2.1≤mask:=by
 show i+(SetTable.runEnd mask i - i)≤mask
 unfold SetTable.runEnd; split <;> lia
theorem adv_le {mask:Nat} {s:Stp} (h:s.1+s.2.1≤mask):(advS mask s).1+(advS mask s).2.1≤mask:=by
 unfold advS
 split
 ·show s.1+1+(s.2.1 - 1)≤mask; lia
 ·exact begin_le mask _ 0 (by have:(SetTable.leap mask s.2.2.1 s.2.2.2).1<mask+1:=Nat.mod_lt _ (Nat.succ_pos _); exact Nat.le_of_lt_succ (by assumption))
theorem nth_le {mask:Nat}:∀(n:Nat) (s:Stp),s.1+s.2.1≤mask→(nth mask s n).1≤mask
 | 0,s,h=>by show s.1≤mask; lia
 | n+1,s,h=>nth_le n _ (adv_le h)
theorem way_le (mask:Nat) (h:Int) (k:Nat):way mask h k≤mask:=nth_le k _ (begin_le mask _ _ (by have:=Nat.mod_lt (SetTable.bits h) (show 0<mask+1 from Nat.succ_pos mask); exact Nat.le_of_lt_succ (by assumption)))
theorem least {p:Nat→Prop} {n:Nat} (h:p n):∃k,k≤n∧p k∧∀k'<k,¬p k':=by
 induction n using Nat.strongRecOn with
 | ind n ih=>
  by_cases hc:∃m,m<n∧p m
  ·refine E1A2 (hc) fun m hm hp=>?_
   clear hc
   refine E1A3 (ih m hm hp) fun k a b c=>?_
   exact⟨k,by lia,b,c⟩
  ·exact⟨n,Nat.le_refl n,h,fun k' hk' hp=>hc ⟨k',hk',hp⟩⟩
section
variable {t:SetTable} {hs:List Int} {H:Nat→Int} {h:Int} {i j:Nat}
theorem Good.at (G:Good t hs) (hi:hs[i]? = some h):∃j,t.place[i]? = some j∧j≤t.mask∧(j,h)∈t.place.toList.zip hs:=by
 have hl:i<t.place.size:=by rw[G.size]; exact(List.getElem?_eq_some_iff.mp hi).1
 have hp:t.place[i]? = some t.place[i]:=Array.getElem?_eq_getElem hl
 refine⟨_,hp,G.pm _ (Array.getElem_mem_toList ..),List.mem_of_getElem? (i:=i) ?_⟩
 rw[List.getElem?_zip_eq_some]
 exact⟨by simp[hp],hi⟩
theorem Good.find (G:Good t hs) (hH:∀i h,hs[i]? = some h→H i=h) (W:Wide t.mask h=true) (hi:hs[i]? = some h) :
  ∃j next,t.probe H h (t.probeStart h)=some (.candidate j i next)∧t.slot j=.live i:=by
 refine E1A3 (G.at hi) fun j hj hm hz=>?_
 refine E1A2 (wide_way W hm) fun n hn hw=>?_
 refine E1A3 (least (p:=fun k=>way t.mask h k=j) hw) fun k hk hkj hmin=>?_
 have hs':t.slot (way t.mask h k)=.live i:=by rw[hkj]; exact G.live.mpr hj
 have hp:∀k'<k,Pass t H h (way t.mask h k'):=fun k' hk'=>by
  have hne:=G.reach _ hz k' fun k'' hk''=>hmin k'' (by exact Nat.lt_of_le_of_lt (by assumption) (by assumption))
  rcases G.slot_cases (way t.mask h k') with⟨i',e1,e2⟩|⟨e1,_⟩|⟨e1,_⟩
  ·refine .inr ⟨i',e1,?_⟩
   have hl:i'<hs.length:=by rw[←G.size]; exact(Array.getElem?_eq_some_iff.mp e2).1
   have hg:hs[i']? = some hs[i']:=List.getElem?_eq_getElem hl
   rw[hH _ _ hg]
   refine beq_eq_false_iff_ne.mpr fun q=>?_
   rw[q] at hg
   have:i'=i:=(List.getElem?_inj hl G.nd).mp (hg.trans hi.symm)
   subst this
   rw[hj] at e2
   exact hmin k' hk' (Option.some.inj e2).symm
  ·exact .inl e1
  ·exact absurd e1 hne
 obtain⟨next,e⟩:=go_live (t:=t) (H:=H) (h:=h) (i:=i) k (10*SetTable.turns t.mask) (t.probeStart h) (by exact Nat.lt_of_le_of_lt (by assumption) (by assumption)) hs' (by rw[hH i h hi]; exact beq_self_eq_true h) hp
 exact⟨_,next,e,hs'⟩
theorem Good.free (G:Good t hs) (hH:∀i h,hs[i]? = some h→H i=h) (W:Wide t.mask h=true) (hi:h∉hs) :
  ∃j d,t.probe H h (t.probeStart h)=some (.empty j d)∧t.slot j=.empty∧(∀p,d=some p→t.slot p=.dummy)∧d.getD j≤t.mask∧∀k,(∀k'≤k,way t.mask h k'≠d.getD j)→t.slot (way t.mask h k)≠.empty:=by
 refine E1A2 (G.space) fun j0 hj0 he0=>?_
 refine E1A2 (wide_way W hj0) fun n hn hw=>?_
 obtain⟨k,hk,hkj,hmin⟩:=least (p:=fun k=>t.slot (way t.mask h k)=.empty) (n:=n) (by rw[hw]; exact he0)
 have hp:∀k'<k,Pass t H h (way t.mask h k'):=fun k' hk'=>by
  rcases G.slot_cases (way t.mask h k') with⟨i',e1,e2⟩|⟨e1,_⟩|⟨e1,_⟩
  ·refine .inr ⟨i',e1,?_⟩
   have hl:i'<hs.length:=by rw[←G.size]; exact(Array.getElem?_eq_some_iff.mp e2).1
   have hg:hs[i']? = some hs[i']:=List.getElem?_eq_getElem hl
   rw[hH _ _ hg]
   exact beq_eq_false_iff_ne.mpr fun q=>hi (by rw[←q]; exact List.getElem_mem hl)
  ·exact .inl e1
  ·exact absurd e1 (hmin k' hk')
 refine E1A2 (go_empty (t:=t) (H:=H) (h:=h) k (10*SetTable.turns t.mask) (t.probeStart h) (by exact Nat.lt_of_le_of_lt (by assumption) (by assumption)) hkj hp) fun d e hd=>?_
 have hk0:d=none∨∃k1<k,d=some (way t.mask h k1)∧t.slot (way t.mask h k1)=.dummy:=hd
 refine⟨way t.mask h k,d,e,hkj,fun p hp'=>?_,?_,fun k2 hk2=>hmin k2 ?_⟩
 ·rcases hk0 with e|⟨k1,_,e,hs1⟩
  ·rw[e] at hp'; contradiction
  ·rw[e] at hp'; (obtain rfl:=Option.some.inj hp'); exact hs1
 ·rcases hk0 with e|⟨k1,_,e,hs1⟩
  ·subst e
   exact way_le _ _ _
  ·subst e
   rcases G.slot_cases (way t.mask h k1) with⟨i',e1,e2⟩|⟨_,e1,_⟩|⟨e1,_⟩
   ·rw[hs1] at e1; contradiction
   ·exact G.dm _ e1
   ·rw[hs1] at e1; contradiction
 ·rcases hk0 with e|⟨k1,hk1,e,hs1⟩
  ·subst e
   rcases Nat.lt_or_ge k2 k with q|q
   ·exact q
   ·exact absurd rfl (hk2 k q)
  ·subst e
   rcases Nat.lt_or_ge k2 k1 with q|q
   ·exact Nat.lt_trans (by assumption) (by assumption)
   ·exact absurd rfl (hk2 k1 q)
end
end Mine
open PySem
namespace Mine
theorem toList_eraseAt {α:Type} (xs:Array α) (p:Nat):(SetTable.eraseAt xs p).toList=xs.toList.eraseIdx p:=by
 simp[SetTable.eraseAt,List.extract_eq_take_drop,List.eraseIdx_eq_take_drop_succ,List.take_of_length_le]
noncomputable def insL {α:Type} (l:List α) (n:Nat) (x:α):List α:=l.take n++x::l.drop n
theorem mem_insL {α:Type} {l:List α} {n:Nat} {x y:α}:y∈insL l n x↔y=x∨y∈l:=by
 have:y∈l↔y∈l.take n++l.drop n:=by rw[List.take_append_drop]
 rw[this]
 unfold insL
 simp only[List.mem_append,List.mem_cons]
 constructor <;> rintro(h|h|h) <;> simp[h]
theorem length_insL {α:Type} (l:List α) (n:Nat) (x:α):(insL l n x).length=l.length+1:=by
 have:=congrArg List.length (List.take_append_drop n l)
 simp only[List.length_append] at this
 unfold insL
 simp only[List.length_append,List.length_cons]
 lia
theorem nodup_insL {α:Type} {l:List α} {n:Nat} {x:α} (h:l.Nodup) (hx:x∉l):(insL l n x).Nodup:=by
 unfold insL
 have e:=List.take_append_drop n l
 rw[←e] at h hx
 rw[List.perm_middle.nodup_iff,List.nodup_cons]
 exact⟨hx,h⟩
theorem zip_insL {α β:Type} {a:List α} {b:List β} {n:Nat} {x:α} {y:β} (hl:a.length=b.length):(insL a n x).zip (insL b n y)=insL (a.zip b) n (x,y):=by
 unfold insL
 rw[List.zip_append (by simp[hl]),List.zip_cons_cons]
 congr 1
 ·exact(List.take_zipWith ..).symm
 ·exact congrArg _ (List.drop_zipWith ..).symm
theorem toList_insertAt' {α:Type} (xs:Array α) (p:Nat) (x:α):(SetTable.insertAt xs p x).toList=insL xs.toList p x:=SetTable.toList_insertAt xs p x
theorem rise_insert {xs:Array Nat} {j:Nat} (hr:xs.toList.Pairwise (· < ·)) (hn:j∉xs.toList):(SetTable.insertAt xs (SetTable.below xs j) j).toList.Pairwise (· < ·):=by
 refine E0A3 (below_spec hr j) fun a b c=>?_
 rw[toList_insertAt']
 unfold insL
 rw[List.pairwise_append,List.pairwise_cons]
 have h1:∀x∈xs.toList.take (SetTable.below xs j),x<j:=fun x hx=>by
  refine E1A1 (List.mem_iff_getElem?.mp hx) fun i hi=>?_
  rw[List.getElem?_take] at hi
  revert hi; refine iteInduction (motive:=fun x=>x=_→_) (fun _ hi=>?_) fun _ hi=>?_
  ·rename_i hlt
   exact b i x hlt (by simpa using hi)
  ·contradiction
 have h2:∀x∈xs.toList.drop (SetTable.below xs j),j<x:=fun x hx=>by
  refine E1A1 (List.mem_iff_getElem?.mp hx) fun i hi=>?_
  rw[List.getElem?_drop] at hi
  have:=c (SetTable.below xs j+i) x (Nat.le_add_right _ _) (by simpa using hi)
  have hne:x≠j:=fun e=>hn (e▸List.mem_of_getElem? hi)
  lia
 refine⟨hr.sublist (List.take_sublist _ _),⟨h2,hr.sublist (List.drop_sublist _ _)⟩,fun x hx y hy=>?_⟩
 rcases List.mem_cons.mp hy with rfl|hy
 ·exact h1 x hx
 ·exact Nat.lt_trans (h1 x hx) (h2 y hy)
theorem rise_nodup {l:List Nat} (h:l.Pairwise (· < ·)):l.Nodup:=h.imp fun h=>Nat.ne_of_lt h
section
variable {t:SetTable} {hs:List Int} {H:Nat→Int} {h:Int} {i j p:Nat}
theorem put_place (t:SetTable) (p:Nat):(t.put p).1.place.toList=insL t.place.toList (t.put p).2 p:=toList_insertAt' ..
theorem put_dummies (L:Lay t i) (p:Nat):(∀q,q∈(t.put p).1.dummies.toList↔q∈t.dummies.toList∧q≠p)∧(t.put p).1.dummies.toList.Pairwise (· < ·)∧(t.put p).1.dummies.size=(if p∈t.dummies.toList then t.dummies.size - 1 else t.dummies.size):=by
 unfold SetTable.put
 dsimp only
 by_cases hd:SetTable.has t.dummies p=true
 ·rw[if_pos hd,toList_eraseAt]
  have hm:=(has_iff L.rd).mp hd
  refine E1A1 (List.mem_iff_getElem?.mp hm) fun k hk=>?_
  have hk':t.dummies[k]? = some p:=by simpa using hk
  rw[below_at L.rd hk',if_pos hm]
  refine⟨fun q=>?_,L.rd.sublist (List.eraseIdx_sublist ..),?_⟩
  ·rw[List.mem_eraseIdx_iff_getElem?]
   constructor
   ·intro hz36
    refine E1A2 hz36 fun i hi hq=>?_
    clear hz36
    refine⟨List.mem_of_getElem? hq,fun e=>?_⟩
    subst e
    obtain⟨hil,_⟩:=List.getElem?_eq_some_iff.mp hq
    exact hi ((List.getElem?_inj hil (rise_nodup L.rd)).mp (hq.trans hk.symm))
   ·intro hz32
    refine E0A2 hz32 fun hq hne=>?_
    clear hz32
    obtain⟨i,hi⟩:=List.mem_iff_getElem?.mp hq
    refine⟨i,fun e=>hne ?_,hi⟩
    subst e
    rw[hk] at hi; exact(Option.some.inj hi).symm
  ·rw[←Array.length_toList,toList_eraseAt,List.length_eraseIdx]
   have:=(List.getElem?_eq_some_iff.mp hk).1
   rw[if_pos this,Array.length_toList]
 ·rw[if_neg hd]
  have hm:p∉t.dummies.toList:=fun q=>hd ((has_iff L.rd).mpr q)
  exact⟨fun q=>⟨fun h=>⟨h,fun e=>hm (e▸h)⟩,fun h=>h.1⟩,L.rd,by rw[if_neg hm]⟩
theorem put_fill (L:Lay t i) (p:Nat):(t.put p).1.fill=if p∈t.dummies.toList then t.fill else t.fill+1:=by
 refine E0A3 (put_dummies L p) fun _ _ hz=>?_
 have h1:(t.put p).1.place.size=t.place.size+1:=by rw[←Array.length_toList,put_place,length_insL,Array.length_toList]
 unfold SetTable.fill
 simp only[h1,hz]
 split
 ·rename_i hm
  have:0<t.dummies.size:=by have:=List.length_pos_of_mem hm; exact this
  lia
 ·exact Nat.add_right_comm _ _ _
theorem Good.put (G:Good t hs) (hp:p≤t.mask) (hpl:p∉t.place.toList) (hi:h∉hs) (hr:∀k,(∀k'≤k,way t.mask h k'≠p)→t.slot (way t.mask h k)≠.empty) (hf:(t.put p).1.fill≤t.mask) :
  Good (t.put p).1 (insL hs (t.put p).2 h):=by
 refine E0A3 (put_dummies G.toLay p) fun d1 d2 _=>?_
 have hmask:(t.put p).1.mask=t.mask:=rfl
 have L:Lay (t.put p).1 (insL hs (t.put p).2 h).length:=by
  refine⟨rise_insert G.rp hpl,d2,?_,hf,fun j hj=>?_,fun j hj=>G.dm j ((d1 j).mp hj).1,fun j hj hj'=>?_⟩
  ·rw[←Array.length_toList,put_place,length_insL,length_insL,Array.length_toList,G.size]
  ·rw[put_place] at hj
   rcases mem_insL.mp hj with rfl|hj
   ·exact hp
   ·exact G.pm j hj
  ·rw[put_place] at hj
   refine E0A2 ((d1 j).mp hj') fun hj1 hj2=>?_
   rcases mem_insL.mp hj with rfl|hj
   ·exact hj2 rfl
   ·exact G.dis j hj hj1
 refine⟨L,nodup_insL G.nd hi,fun x hx k hk=>?_⟩
 have keep:∀q,t.slot q≠.empty→(t.put p).1.slot q≠.empty:=fun q hq=>by
  rw[L.full,put_place]
  rw[G.full] at hq
  by_cases e:q=p
  ·exact .inl (mem_insL.mpr (.inl e))
  ·rcases hq with hq|hq
   ·exact .inl (mem_insL.mpr (.inr hq))
   ·exact .inr ((d1 q).mpr ⟨hq,e⟩)
 rw[hmask] at hk ⊢
 refine keep _ ?_
 rw[put_place,zip_insL (by rw[Array.length_toList,G.size])] at hx
 rcases mem_insL.mp hx with rfl|hx
 ·exact hr k hk
 ·exact G.reach x hx k hk
theorem zip_erase {α β:Type} {x:α×β}:∀ {a:List α} {b:List β} {i:Nat},x∈(a.eraseIdx i).zip (b.eraseIdx i)→x∈a.zip b
 | [],_,i,h=>by simp at h
 | _::_,[],i,h=>by simp at h
 | u::a,v::b,0,h=>by
  rw[List.zip_cons_cons]
  exact .tail _ h
 | u::a,v::b,i+1,h=>by
  simp only[List.eraseIdx_cons_succ,List.eraseIdx_cons_succ,List.zip_cons_cons] at h
  rw[List.zip_cons_cons]
  rcases List.mem_cons.mp h with rfl|h
  ·exact .head _
  ·exact .tail _ (zip_erase h)
theorem Good.drop (G:Good t hs) (hi:t.place[i]? = some j):Good (t.drop i) (hs.eraseIdx i)∧(t.drop i).mask=t.mask∧(t.drop i).fill=t.fill:=by
 have hjm:j∈t.place.toList:=List.mem_of_getElem? (i:=i) (by simpa using hi)
 have hil:=(Array.getElem?_eq_some_iff.mp hi).1
 have hjd:=G.dis j hjm
 have e:t.drop i={ t with place:=SetTable.eraseAt t.place i,dummies:=SetTable.insertAt t.dummies (SetTable.below t.dummies j) j }:=by
  unfold SetTable.drop; rw[hi]
 rw[e]
 have hfill:SetTable.fill { t with place:=SetTable.eraseAt t.place i,dummies:=SetTable.insertAt t.dummies (SetTable.below t.dummies j) j }=t.fill:=by
  unfold SetTable.fill
  have h1:(SetTable.eraseAt t.place i).size=t.place.size - 1:=by rw[←Array.length_toList,toList_eraseAt,List.length_eraseIdx,Array.length_toList,if_pos hil]
  have h2:(SetTable.insertAt t.dummies (SetTable.below t.dummies j) j).size=t.dummies.size+1:=by rw[←Array.length_toList,toList_insertAt',length_insL,Array.length_toList]
  rw[h1,h2]; lia
 have hmem:∀q,q∈(SetTable.eraseAt t.place i).toList↔q∈t.place.toList∧q≠j:=fun q=>by
  rw[toList_eraseAt,List.mem_eraseIdx_iff_getElem?]
  have hi':t.place.toList[i]? = some j:=by simpa using hi
  constructor
  ·rintro⟨k,hk,hq⟩
   refine⟨List.mem_of_getElem? hq,fun e=>?_⟩
   subst e
   obtain⟨hkl,_⟩:=List.getElem?_eq_some_iff.mp hq
   exact hk ((List.getElem?_inj hkl (rise_nodup G.rp)).mp (hq.trans hi'.symm))
  ·intro hz12
   refine E0A2 hz12 fun hq hne=>?_
   clear hz12
   obtain⟨k,hk⟩:=List.mem_iff_getElem?.mp hq
   refine⟨k,fun e=>hne ?_,hk⟩
   subst e
   rw[hi'] at hk; exact(Option.some.inj hk).symm
 have hmem2:∀q,q∈(SetTable.insertAt t.dummies (SetTable.below t.dummies j) j).toList↔q=j∨q∈t.dummies.toList:=fun q=>by rw[toList_insertAt']; exact mem_insL
 have L:Lay { t with place:=SetTable.eraseAt t.place i,dummies:=SetTable.insertAt t.dummies (SetTable.below t.dummies j) j } (hs.eraseIdx i).length:=by
  refine⟨?_,rise_insert G.rd hjd,?_,by rw[hfill]; exact G.fill,fun q hq=>G.pm q ((hmem q).mp hq).1,fun q hq=>?_,fun q hq hq'=>?_⟩
  ·skip
   rw[toList_eraseAt]
   exact G.rp.sublist (List.eraseIdx_sublist ..)
  ·skip
   rw[←Array.length_toList,toList_eraseAt,List.length_eraseIdx,List.length_eraseIdx,Array.length_toList,G.size]
  ·rcases(hmem2 q).mp hq with rfl|hq
   ·exact G.pm _ hjm
   ·exact G.dm q hq
  ·obtain⟨a,b⟩:=(hmem q).mp hq
   rcases(hmem2 q).mp hq' with rfl|hq'
   ·exact b rfl
   ·exact G.dis q a hq'
 refine⟨⟨L,G.nd.sublist (List.eraseIdx_sublist ..),fun x hx k hk=>?_⟩,rfl,hfill⟩
 have hx':x∈t.place.toList.zip hs:=zip_erase (i:=i) (by rw[←toList_eraseAt]; exact hx)
 have hq:=G.reach x hx' k hk
 rw[G.full] at hq
 rw[L.full]
 show way t.mask x.2 k∈(SetTable.eraseAt t.place i).toList∨way t.mask x.2 k∈(SetTable.insertAt t.dummies (SetTable.below t.dummies j) j).toList
 rw[hmem,hmem2]
 by_cases e:way t.mask x.2 k=j
 ·exact .inr (.inl e)
 ·rcases hq with hq|hq
  ·exact .inl ⟨hq,e⟩
  ·exact .inr (.inr hq)
end
end Mine
open PySem
namespace Mine
theorem free_spec {mask:Nat} {owner:Array (Option Nat)}:∀(f i p:Nat),(∃j,meets mask f i p j=true∧owner[j]? = some none) →
  ∃k,SetTable.layClean.free mask owner f i p=some (nth mask (begin_ mask i p) k).1∧owner[(nth mask (begin_ mask i p) k).1]? = some none∧∀k'<k,owner[(nth mask (begin_ mask i p) k').1]?≠some none
 | 0,_,_,⟨_,h,_⟩=>by contradiction
 | f+1,i,p,⟨j,h,hj⟩=>by
  have hr:=runEnd_ge mask i
  have hq:∀k,(owner.getD (i+k) (some 0)).isNone=true↔owner[i+k]? = some none:=fun k=>by
   rw[Array.getD_eq_getD_getElem?]
   rcases owner[i+k]? with _|o
   ·simp
   ·obtain⟨⟩:=o <;> simp
  have hrun:∀k,k≤SetTable.runEnd mask i - i→(nth mask (begin_ mask i p) k).1=i+k:=fun k hk=>by
   have:=(nth_run mask i p 0 (SetTable.runEnd mask i - i)).2 k hk
   have e:begin_ mask i p=(i+0,SetTable.runEnd mask i - i,i,p):=rfl
   simp only[e,this]
   exact Nat.add_right_comm _ _ _
  unfold SetTable.layClean.free
  rcases hf:(List.range (SetTable.runEnd mask i+1 - i)).find? fun k=>(owner.getD (i+k) (some 0)).isNone with _|k
  rotate_left
  ·
   refine E0A3 (List.find?_range_eq_some.mp hf) fun h1 h2 h3=>?_
   have hk:k≤SetTable.runEnd mask i - i:=by have:=List.mem_range.mp h2; lia
   refine⟨k,by rw[hrun k hk],by rw[hrun k hk]; exact(hq k).mp h1,fun k' hk' e=>?_⟩
   rw[hrun k' (by lia)] at e
   have:=h3 k' hk'
   rw[(hq k').mpr e] at this
   contradiction
  ·
   have h1:=List.find?_range_eq_none.mp hf
   have hno:∀k,k≤SetTable.runEnd mask i - i→owner[i+k]?≠some none:=fun k hk e=>by
    have:=h1 k (by lia)
    rw[(hq k).mpr e] at this
    contradiction
   unfold meets at h
   have h':meets mask f (SetTable.leap mask i p).1 (SetTable.leap mask i p).2 j=true:=by
    rcases Bool.or_eq_true_iff.mp h with h|h
    ·refine E0A2 (Bool.and_eq_true_iff.mp h) fun a b=>?_
     have a:=Nat.le_of_ble_eq_true a
     have b:=Nat.le_of_ble_eq_true b
     exact absurd hj (by have:=hno (j - i) (by exact Nat.sub_le_sub_right (by assumption) _); rwa [show i+(j - i)=j by exact sb15 (by assumption)] at this)
    ·exact h
   refine E1A3 (free_spec f _ _ ⟨j,h',hj⟩) fun k e1 e2 e3=>?_
   have e:nth mask (begin_ mask i p) (SetTable.runEnd mask i - i+1+k)=nth mask (begin_ mask (SetTable.leap mask i p).1 (SetTable.leap mask i p).2) k:=by rw[nth_add,nth_leap]
   refine⟨SetTable.runEnd mask i - i+1+k,by rw[e]; exact e1,by rw[e]; exact e2,fun k' hk'=>?_⟩
   rcases Nat.lt_or_ge k' (SetTable.runEnd mask i - i+1) with q|q
   ·rw[hrun k' (by exact Nat.le_of_lt_succ (by assumption))]; exact hno k' (by exact Nat.le_of_lt_succ (by assumption))
   ·refine E1A1 (Nat.exists_eq_add_of_le q) fun k2 ee72=>?_
    subst ee72
    rw[nth_add,nth_leap]
    exact e3 k2 (by lia)
structure Own (mask:Nat) (owner:Array (Option Nat)) (hs:List Int) (k:Nat):Prop where
 size:owner.size=mask+1
 lt:∀(j i:Nat),owner[j]? = some (some i)→i<k
 ex:∀i,i<k→∃j:Nat,owner[j]? = some (some i)
 inj:∀(j j' i:Nat),owner[j]? = some (some i)→owner[j']? = some (some i)→j=j'
 reach:∀(i:Nat) (h:Int) (j:Nat),hs[i]? = some h→owner[j]? = some (some i)→∀n,(∀n'≤n,way mask h n'≠j)→owner[way mask h n]?≠some none
theorem Own.space {mask k:Nat} {owner:Array (Option Nat)} {hs:List Int} (O:Own mask owner hs k) (hk:k≤mask):∃j,j≤mask∧owner[j]? = some none:=by
 refine Classical.byContradiction fun hno=>?_
 have hs':∀j,j<mask+1→∃i,owner[j]? = some (some i):=fun j hj=>by
  have hl:j<owner.size:=by rw[O.size]; exact hj
  have hg:owner[j]? = some owner[j]:=Array.getElem?_eq_getElem hl
  rcases hv:owner[j] with _|i
  ·exact absurd ⟨j,Nat.le_of_lt_succ hj,by rw[hg,hv]⟩ hno
  ·exact⟨i,by rw[hg,hv]⟩
 have h1:((List.range (mask+1)).map fun j=>((owner[j]?).getD none).getD 0).Nodup:=nodup_map List.nodup_range fun a ha b hb e=>by
  refine E1A1 (hs' a (List.mem_range.mp ha)) fun i hi=>?_
  refine E1A1 (hs' b (List.mem_range.mp hb)) fun i' hi'=>?_
  rw[hi,hi'] at e
  have e:i=i':=e
  subst e
  exact O.inj _ _ _ hi hi'
 have:=nodup_le (m:=List.range k) h1 fun x hx=>by
  refine E1A2 (List.mem_map.mp hx) fun j hj ee69=>?_
  subst ee69
  obtain⟨i,hi⟩:=hs' j (List.mem_range.mp hj)
  rw[hi]
  exact List.mem_range.mpr (O.lt _ _ hi)
 simp only[List.length_map,List.length_range] at this
 exact absurd (by assumption) (Nat.not_lt.mpr (by assumption))
theorem Own.step {mask k:Nat} {owner:Array (Option Nat)} {hs:List Int} {h:Int} (O:Own mask owner hs k) (hk:k≤mask) (hh:hs[k]? = some h) (W:Wide mask h=true) :
  ∃j,SetTable.layClean.free mask owner (SetTable.turns mask) (SetTable.bits h % (mask+1)) (SetTable.bits h)=some j∧Own mask (owner.setIfInBounds j (some k)) hs (k+1):=by
 refine E1A2 (O.space hk) fun j0 hj0 hn0=>?_
 refine E1A3 (free_spec (mask:=mask) (owner:=owner) (SetTable.turns mask) (SetTable.bits h % (mask+1)) (SetTable.bits h) ⟨j0,List.all_eq_true.mp W j0 (List.mem_range.mpr (by lia)),hn0⟩) fun n h1 h2 h3=>?_
 refine⟨_,h1,?_⟩
 change owner[way mask h n]? = some none at h2
 change ∀k'<n,owner[way mask h k']?≠some none at h3
 show Own mask (owner.setIfInBounds (way mask h n) (some k)) hs (k+1)
 generalize hj:way mask h n=j at h2 ⊢
 have hjl:j<owner.size:=(Array.getElem?_eq_some_iff.mp h2).1
 have get:∀q,(owner.setIfInBounds j (some k))[q]? = if j=q then some (some k) else owner[q]?:=fun q=>by
  rw[Array.getElem?_setIfInBounds]
  by_cases e:j=q
  ·subst e; simp[hjl]
  ·simp[e]
 refine⟨by rw[Array.size_setIfInBounds]; exact O.size,fun q i hq=>?_,fun i hi=>?_,fun q q' i hq hq'=>?_,fun i hi' q hhi hq m hm=>?_⟩
 ·rw[get] at hq
  by_cases e:j=q
  ·rw[if_pos e] at hq; obtain⟨⟩:=hq; exact Nat.le_refl _
  ·rw[if_neg e] at hq; have:=O.lt _ _ hq; exact Nat.le_trans (by assumption) (Nat.le_succ _)
 ·rcases Nat.lt_or_eq_of_le (Nat.le_of_lt_succ hi) with q|q
  ·refine E1A1 (O.ex i q) fun x hx=>?_
   refine⟨x,?_⟩
   rw[get,if_neg]
   ·exact hx
   ·intro e; rw[←e,h2] at hx; obtain⟨⟩:=hx
  ·exact⟨j,by rw[get,if_pos rfl,q]⟩
 ·rw[get] at hq hq'
  by_cases e:j=q
  ·rw[if_pos e] at hq
   obtain⟨⟩:=hq
   by_cases e':j=q'
   ·exact e.symm.trans e'
   ·rw[if_neg e'] at hq'
    have:=O.lt _ _ hq'; exact absurd (by assumption) (Nat.lt_irrefl _)
  ·rw[if_neg e] at hq
   by_cases e':j=q'
   ·rw[if_pos e'] at hq'
    obtain⟨⟩:=hq'
    have:=O.lt _ _ hq; exact absurd (by assumption) (Nat.lt_irrefl _)
   ·rw[if_neg e'] at hq'
    exact O.inj _ _ _ hq hq'
 ·rw[get]
  rw[get] at hq
  by_cases e2:j=way mask hi' m
  ·rw[if_pos e2]; exact fun c=>by obtain⟨⟩:=c
  ·rw[if_neg e2]
   by_cases e:j=q
   ·rw[if_pos e] at hq
    obtain⟨⟩:=hq
    rw[hh] at hhi
    (obtain rfl:=Option.some.inj hhi)
    refine h3 m ?_
    rcases Nat.lt_or_ge m n with c|c
    ·exact c
    ·exact absurd (hj.trans e) (hm n c)
   ·rw[if_neg e] at hq
    exact O.reach i hi' q hhi hq m hm
theorem lay_fold {mask:Nat} {hs:List Int} (W:∀h∈hs,Wide mask h=true) (hz:hs.length≤mask):∀(rest:List Int) (owner:Array (Option Nat)) (k:Nat),hs.drop k=rest→k+rest.length=hs.length→Own mask owner hs k →
  ∃owner',rest.foldl (fun acc h=>do
   let (owner,k) ←acc
   let j ←SetTable.layClean.free mask owner (SetTable.turns mask) (SetTable.bits h % (mask+1)) (SetTable.bits h)
   pure (owner.setIfInBounds j (some k),k+1)) (some (owner,k))=some (owner',hs.length)∧Own mask owner' hs hs.length
 | [],owner,k,_,hl,O=>by
  have:k=hs.length:=by exact hl
  subst this
  exact⟨owner,rfl,O⟩
 | h::rest,owner,k,hd,hl,O=>by
  have hlt:k<hs.length:=by simp only[List.length_cons] at hl; lia
  have hh:hs[k]? = some h:=by
   have:(hs.drop k)[0]? = some h:=by rw[hd]; rfl
   rwa [List.getElem?_drop,Nat.add_zero] at this
  refine E1A2 (O.step (by lia) hh (W h (List.mem_of_getElem? hh))) fun j e O'=>?_
  rw[List.foldl_cons]
  show ∃owner',rest.foldl _ ((SetTable.layClean.free mask owner (SetTable.turns mask) (SetTable.bits h % (mask+1)) (SetTable.bits h)).bind fun j=>some (owner.setIfInBounds j (some k),k+1))=_∧_
  rw[e]
  refine lay_fold W hz rest _ (k+1) ?_ (by simp only[List.length_cons] at hl; exact ad1 (by assumption)) O'
  have:hs.drop (k+1)=(hs.drop k).drop 1:=by rw[List.drop_drop]
  rw[this,hd]; rfl
theorem fm_map {α β γ:Type} {f:β→Option γ} {g:α→β} {d:γ}:∀ {l:List α},(∀x∈l,(f (g x)).isSome=true)→(l.map g).filterMap f=l.map fun x=>(f (g x)).getD d
 | [],_=>rfl
 | x::l,h=>by
  refine E1A1 (Option.isSome_iff_exists.mp (h x (.head _))) fun y hy=>?_
  simp only[List.map_cons,List.filterMap_cons,hy,List.map_cons,hy,fm_map (d:=d) fun z hz=>h z (.tail _ hz)]
  rfl
theorem relaid_good {t:SetTable} {hs:List Int} {wanted:Nat} (nd:hs.Nodup) (W:∀h∈hs,Wide (SetTable.sizeAbove wanted - 1) h=true) (hz:hs.length≤SetTable.sizeAbove wanted - 1) :
  ∃t2 order,t.relaid hs.toArray wanted=some (t2,order)∧t2.mask=SetTable.sizeAbove wanted - 1∧t2.fill=hs.length∧order.toList.Perm (List.range hs.length)∧Good t2 (order.toList.filterMap (hs[·]?)):=by
 unfold SetTable.relaid
 generalize SetTable.sizeAbove wanted - 1=mask at *
 have O0:Own mask (Array.replicate (mask+1) none) hs 0:=by
  have hg:∀j i,(Array.replicate (mask+1) (none:Option Nat))[j]?≠some (some i):=fun j i e=>by
   rw[Array.getElem?_replicate] at e
   split at e <;> obtain⟨⟩:=e
  exact⟨by simp,fun j i e=>absurd e (hg j i),fun i hi=>absurd hi (Nat.not_lt_zero _),fun j j' i e=>absurd e (hg j i),fun i h j _ e=>absurd e (hg j i)⟩
 refine E1A2 (lay_fold W hz hs _ 0 rfl (by simp) O0) fun owner e O=>?_
 have el:SetTable.layClean mask hs.toArray=some owner:=by
  unfold SetTable.layClean
  rw[←Array.foldl_toList]
  exact(congrArg (Option.map (·.1)) e:_)
 unfold SetTable.laid
 rw[el]
 generalize hlive:(List.range (mask+1)).filterMap (fun j=>(owner.getD j none).map (j,·))=live
 have mem:∀x:Nat×Nat,x∈live↔owner[x.1]? = some (some x.2):=fun x=>by
  rw[←hlive,List.mem_filterMap]
  constructor
  ·intro hz53
   refine E1A2 hz53 fun j hj hx=>?_
   clear hz53
   refine E1A2 (Option.map_eq_some_iff.mp hx) fun i hi ee49=>?_
   subst ee49
   rw[Array.getD_eq_getD_getElem?] at hi
   rcases ho:owner[j]? with _|o
   ·rw[ho] at hi; contradiction
   ·rw[ho] at hi; have hi:o=some i:=hi; subst hi; rfl
  ·intro hx
   have hl:=(Array.getElem?_eq_some_iff.mp hx).1
   refine⟨x.1,List.mem_range.mpr (by rw[←O.size]; exact hl),?_⟩
   rw[Array.getD_eq_getD_getElem?,hx]
   rfl
 have asc:live.Pairwise fun a b=>a.1<b.1:=by
  rw[←hlive,List.pairwise_filterMap]
  refine List.pairwise_lt_range.imp fun {a b} hab x hx y hy=>?_
  refine E1A2 (Option.map_eq_some_iff.mp hx) fun _ _ ee45=>?_
  subst ee45
  refine E1A2 (Option.map_eq_some_iff.mp hy) fun _ _ ee40=>?_
  subst ee40
  exact hab
 have asc1:=List.pairwise_map.mpr asc
 have nd2:(live.map (·.2)).Nodup:=by
  refine List.pairwise_map.mpr (List.Pairwise.imp_of_mem (fun {a b} ha hb hab e=>?_) asc)
  have h1:=(mem a).mp ha
  have h2:=(mem b).mp hb
  rw[e] at h1
  have:=O.inj _ _ _ h1 h2
  lia
 have perm:(live.map (·.2)).Perm (List.range hs.length):=by
  rw[List.perm_ext_iff_of_nodup nd2 List.nodup_range]
  intro i
  rw[List.mem_range,List.mem_map]
  constructor
  ·intro hz35
   refine E1A2 hz35 fun x hx ee34=>?_
   clear hz35
   subst ee34
   exact O.lt _ _ ((mem x).mp hx)
  ·intro hi
   refine E1A1 (O.ex i hi) fun j hj=>?_
   exact⟨(j,i),(mem (j,i)).mpr hj,rfl⟩
 have len:live.length=hs.length:=by have:=perm.length_eq; simpa using this
 have hin:∀x∈live,x.2<hs.length:=fun x hx=>O.lt _ _ ((mem x).mp hx)
 have hfm:(live.map (·.2)).filterMap (hs[·]?)=live.map fun x=>(hs[x.2]?).getD 0:=fm_map fun x hx=>by
  rw[List.getElem?_eq_getElem (hin x hx)]; rfl
 have hperm:((live.map (·.2)).filterMap (hs[·]?)).Perm hs:=by
  have:=perm.filterMap (hs[·]?)
  rwa [List.filterMap_getElem?_range_length] at this
 refine⟨{ mask:=mask,place:=(live.map (·.1)).toArray,dummies:=#[],finger:=t.finger,led:=t.led,moves:=t.movedTo mask,plain:=t.plain },(live.map (·.2)).toArray,by rw[←hlive]; rfl,rfl,?_,by exact perm,?_⟩
 ·show(live.map (·.1)).toArray.size+0=_
  simpa using len
 ·have L:Lay { mask:=mask,place:=(live.map (·.1)).toArray,dummies:=#[],finger:=t.finger,led:=t.led,moves:=t.movedTo mask,plain:=t.plain } ((live.map (·.2)).toArray.toList.filterMap (hs[·]?)).length:=by
   refine⟨asc1,List.Pairwise.nil,?_,?_,fun j hj=>?_,fun j hj=>?_,fun j _ hj=>?_⟩
   ·skip
    rw[hfm]; simp
   ·show(live.map (·.1)).toArray.size+0≤mask
    simp only[List.size_toArray,List.length_map]; exact eq1 (by assumption) (by assumption)
   ·refine E1A2 (List.mem_map.mp hj) fun x hx ee16=>?_
    subst ee16
    have:=(Array.getElem?_eq_some_iff.mp ((mem x).mp hx)).1
    rw[O.size] at this
    exact Nat.le_of_lt_succ this
   ·contradiction
   ·contradiction
  refine⟨L,hperm.nodup_iff.mpr nd,fun x hx k hk=>?_⟩
  rw[L.full]
  have hx':x∈(live.map (·.1)).zip (live.map fun x=>(hs[x.2]?).getD 0):=by rw[←hfm]; exact hx
  rw[List.zip_map',List.mem_map] at hx'
  refine E1A2 (hx') fun y hy ee7=>?_
  clear hx'
  subst ee7
  have hyl:=hin y hy
  have hg:hs[y.2]? = some hs[y.2]:=List.getElem?_eq_getElem hyl
  have:=O.reach y.2 _ y.1 hg ((mem y).mp hy) k fun k' hk'=>by have:=hk k' hk'; rw[hg] at this; exact this
  left
  show way mask ((hs[y.2]?).getD 0) k∈live.map (·.1)
  rw[hg]
  show way mask hs[y.2] k∈live.map (·.1)
  have hwl:way mask hs[y.2] k<owner.size:=by rw[O.size]; exact Nat.lt_succ_of_le (way_le _ _ _)
  have hgw:owner[way mask hs[y.2] k]? = some owner[way mask hs[y.2] k]:=Array.getElem?_eq_getElem hwl
  rcases hv:owner[way mask hs[y.2] k] with _|i
  ·rw[hgw,hv] at this; exact absurd rfl this
  ·exact List.mem_map.mpr ⟨(way mask hs[y.2] k,i),(mem _).mpr (by rw[hgw,hv]),rfl⟩
end Mine
namespace Mine
noncomputable def hp (k:Int×Int):Int:=reduceHash (Builtin.Tuple.tupleHashOf [hashInt k.1,hashInt k.2])
theorem wide_all:([7,15,31].all fun m=>[0,1].all fun a:Int=>[0,1,2,3,4,5].all fun b:Int=>Wide m (hp (a,b)))=true:=by decide +kernel
theorem hp_all:([0,1].all fun a:Int=>[0,1,2,3,4,5].all fun b:Int=>[0,1,2,3,4,5].all fun c:Int=>decide (hp (a,b)=hp (a,c)→b=c))=true:=by decide +kernel
noncomputable def OkS (side:Int) (k:Int×Int):Prop:=(side=0∨side=1)∧k.1=side∧0≤k.2∧k.2<6
theorem OkS.mem {side:Int} {k:Int×Int} (h:OkS side k):k.1∈[(0:Int),1]∧k.2∈[(0:Int),1,2,3,4,5]:=by
 refine E0A4 (h) fun h1 h2 h3 h4=>?_
 clear h
 constructor
 ·rw[h2]; rcases h1 with rfl|rfl <;> simp
 ·have:k.2=0∨k.2=1∨k.2=2∨k.2=3∨k.2=4∨k.2=5:=by exact six (by assumption) (by assumption)
  rcases this with e|e|e|e|e|e <;> rw[e] <;> simp
noncomputable def Odd3 (m:Nat):Prop:=m=7∨m=15∨m=31
theorem OkS.wide {side:Int} {k:Int×Int} (h:OkS side k) {m:Nat} (hm:Odd3 m):Wide m (hp k)=true:=by
 refine E0A2 (h.mem) fun a b=>?_
 have h1:=List.all_eq_true.mp wide_all m (by rcases hm with rfl|rfl|rfl <;> simp)
 exact List.all_eq_true.mp (List.all_eq_true.mp h1 k.1 a) k.2 b
theorem OkS.inj {side:Int} {k k':Int×Int} (h:OkS side k) (h':OkS side k') (e:hp k=hp k'):k=k':=by
 refine E0A2 (h.mem) fun a b=>?_
 refine E0A2 (h'.mem) fun _ b'=>?_
 have h1:k'.1=k.1:=h'.2.1.trans h.2.1.symm
 have:=of_decide_eq_true (List.all_eq_true.mp (List.all_eq_true.mp (List.all_eq_true.mp hp_all k.1 a) k.2 b) k'.2 b') (by
  rw[e,←h1])
 exact Prod.ext h1.symm this
theorem OkS.few {side:Int} {ks:List (Int×Int)} (hn:ks.Nodup) (h:∀k∈ks,OkS side k):ks.length≤6:=by
 have:=nodup_le (m:=[(side,0),(side,1),(side,2),(side,3),(side,4),(side,(5:Int))]) hn fun k hk=>by
  refine E0A4 (h k hk) fun _ h2 h3 h4=>?_
  have:k.2=0∨k.2=1∨k.2=2∨k.2=3∨k.2=4∨k.2=5:=by exact six (by assumption) (by assumption)
  obtain⟨a,b⟩:=k
  simp only at h2 this
  subst h2
  rcases this with e|e|e|e|e|e <;> rw[e] <;> simp
 exact this
theorem above_few:((List.range 7).all fun n=>n == 0 || (let m:=SetTable.sizeAbove (SetTable.grown n) - 1; (m == 7 || m == 15 || m == 31) && Nat.ble n m && decide (n*5<m*3)))=true:=by decide +kernel
structure PS (side:Int) (kk:List (Int×Int)) (t:SetTable):Prop where
 good:Good t (kk.map hp)
 nd:kk.Nodup
 ok:∀k∈kk,OkS side k
 mask:Odd3 t.mask
 full:t.fill*5<t.mask*3
noncomputable def PRep (P:Heap) (k:Int×Int) (e:Int×Value):Prop:=e.1=hp k∧(Rep.pair Rep.int Rep.int).is P k e.2
noncomputable abbrev setOf (es:List (Int×Value)) (ep:Nat) (t:SetTable):Obj:={ cls:=.type "set",dict:=none,data:=.set es.toArray ep t }
noncomputable def Asn.pset (side:Int) (S:Int×Int→Prop):Asn:=
 ⟨fun P o=>∃kk es ep t,o=setOf es ep t∧F2 (PRep P) kk es∧PS side kk t∧∀k,k∈kk↔S k,
  by rintro P P' o k ⟨kk,es,ep,t,e,f,g,h⟩; exact⟨kk,es,ep,t,e,f.imp fun _ _ r=>⟨r.1,(Rep.pair Rep.int Rep.int).mono k r.2⟩,g,h⟩⟩
theorem F2.insL {α β:Type} {R:α→β→Prop} {a:List α} {b:List β} {x:α} {y:β} (h:F2 R a b) (hx:R x y):∀n,F2 R (insL a n x) (Mine.insL b n y):=by
 induction h with
 | nil=>intro n; obtain⟨⟩:=n <;> exact .cons hx .nil
 | cons h0 h ih=>
  intro n
  rcases n with _|n
  ·exact .cons hx (.cons h0 h)
  ·exact .cons h0 (ih n)
theorem F2.perm {α β:Type} {R:α→β→Prop} {a:List α} {b:List β} (h:F2 R a b) (order:List Nat):F2 R (order.filterMap (a[·]?)) (order.filterMap (b[·]?)):=by
 induction order with
 | nil=>exact .nil
 | cons i r ih=>
  rw[List.filterMap_cons,List.filterMap_cons]
  rcases hi:a[i]? with _|x
  ·
   rcases hj:b[i]? with _|y
   ·exact ih
   ·obtain⟨x,hx,_⟩:=h.get hj; rw[hi] at hx; contradiction
  ·
   refine E1A2 (h.get' hi) fun y hy hr=>?_
   rw[hy]
   exact .cons hr ih
theorem map_insL {α β:Type} (f:α→β) (l:List α) (n:Nat) (x:α):(insL l n x).map f=insL (l.map f) n (f x):=by
 unfold insL
 simp[List.map_take,List.map_drop]
theorem erase_map {α β:Type} (f:α→β) (l:List α) (n:Nat):(l.eraseIdx n).map f=(l.map f).eraseIdx n:=by
 induction l generalizing n with
 | nil=>rfl
 | cons x l ih=>cases n with
  | zero=>rfl
  | succ n=>exact congrArg (f x::·) (ih n)
theorem PS.keys {side:Int} {kk:List (Int×Int)} {t:SetTable} (p:PS side kk t) {k:Int×Int} (hk:OkS side k):hp k∈kk.map hp↔k∈kk:=by
 constructor
 ·intro h
  refine E1A2 (List.mem_map.mp h) fun k' h1 h2=>?_
  have:=(p.ok k' h1).inj hk h2
  exact this▸h1
 ·exact fun h=>List.mem_map_of_mem h
theorem PS.odd {side:Int} {kk:List (Int×Int)} {t:SetTable} (p:PS side kk t):t.gaveWay=false:=by
 unfold SetTable.gaveWay
 rcases p.mask with e|e|e <;> rw[e] <;> rfl
theorem PS.fits {side:Int} {kk:List (Int×Int)} {t:SetTable} (p:PS side kk t) {es:List (Int×Value)} (h:es.length=kk.length):t.fits es.toArray.size=true:=by
 unfold SetTable.fits
 have h1:=p.good.size
 have h2:=p.good.fill
 simp only[List.length_map] at h1
 simp[h,h1,h2]
section
variable {prog:Program} {w:World} {A:Around} {E:Value→Shared→Prop} {s:Shared} {a:Addr} {kk:List (Int×Int)} {es:List (Int×Value)} {ep:Nat} {t:SetTable} {side:Int} {k:Int×Int} {v:Value} {adding:Bool} {i:Nat}
theorem stored_at (f:F2 (PRep s.heap) kk es):∀(i:Nat) (h:Int),(kk.map hp)[i]? = some h→((es.toArray[i]?).map (·.1)).getD 0=h:=fun i h hi=>by
 have hi':(kk[i]?).map hp=some h:=(List.getElem?_map ..).symm.trans hi
 rcases hk:kk[i]? with _|k
 ·rw[hk] at hi'; contradiction
 ·
  rw[hk] at hi'
  refine E1A2 (f.get' hk) fun e he hr=>?_
  have h1:es.toArray[i]? = some e:=(List.getElem?_toArray ..).trans he
  rw[h1]
  exact hr.1.trans (Option.some.inj hi')
theorem byClass_ (n:Nat) {a:Addr} {k:List Int} {Q:Bool→Shared→Prop} (hk:IsTupleKey (intKind prog w) s.heap k a) (h:Q false s):wpAny (model prog w) A (ofAClassStatement (n+1) (.ref a)) Q E s:=by
 have hT:=hk.typeIs
 refine E3A4 (hk) fun o items m ho _ hd hi=>?_
 clear hk
 unfold ofAClassStatement
 refine wpAny_bind (wpAny_typeOf hT ?_)
 refine wpAny_bind (wpAny_pure ?_)
 refine wpAny_bind (wpAny_seqItems ho hd ?_)
 refine wpAny_bind ?_
 rw[←Array.forIn_toList]
 refine wpAny_forIn_list _ (fun rest r s'=>r.1=none∧s'=s∧∀v∈rest,carriedByValue v=true) _ ?_ ?_ _ _ ⟨rfl,rfl,hi.byValue⟩
 ·intro v rest r s' hz70
  refine E0A3 hz70 fun hr ee69 hall=>?_
  clear hz70
  subst ee69
  have hv:ofAClassStatement n v=pure false:=by
   have:=hall v List.mem_cons_self
   cases v with
   | ref _=>exact absurd this Bool.false_ne_true
   | _=>simp[ofAClassStatement]
  rw[hv]
  refine wpAny_bind (wpAny_pure ?_)
  exact wpAny_pure ⟨rfl,rfl,fun u hu'=>hall u (List.mem_cons_of_mem _ hu')⟩
 ·rintro⟨r1,r2⟩ s' ⟨hr,rfl,_⟩
  simp only at hr
  subst hr
  exact wpAny_pure h
theorem unseen_ {a:Addr} {k:List Int} {ys:List Value} {Q:Bool→Shared→Prop} (hk:IsTupleKey (intKind prog w) s.heap k a) (hy:∀y∈ys,∃b k',y=.ref b∧IsTupleKey (intKind prog w) s.heap k' b) (h:Q false s) :
  wpAny (model prog w) A (searchCouldBeSeen (.ref a) ys) Q E s:=by
 unfold searchCouldBeSeen
 show wpAny _ _ (forIn ys _ _ >>= _) _ _ s
 refine wpAny_bind ?_
 refine wpAny_forIn_list _ (fun rest r s'=>r.1=none∧s'=s∧∀v∈rest,∃b k',v=.ref b∧IsTupleKey (intKind prog w) s.heap k' b) _ ?_ ?_ _ _ ⟨rfl,rfl,hy⟩
 ·intro v rest r s' hz61
  refine E0A3 hz61 fun hr ee60 hall=>?_
  clear hz61
  subst ee60
  refine E2A2 (hall v List.mem_cons_self) fun b k' ee49 hk'=>?_
  subst ee49
  have hrest:=fun u hu'=>hall u (List.mem_cons_of_mem _ hu')
  dsimp only
  refine wpAny_ite_split (fun _=>?_) fun _=>?_
  ·exact wpAny_pure ⟨rfl,rfl,hrest⟩
  ·refine wpAny_bind ((pairKind prog w).quiet hk ?_)
   refine wpAny_bind ((pairKind prog w).quiet hk' ?_)
   refine wpAny_bind (byClass_ 7 hk ?_)
   refine wpAny_bind (byClass_ 7 hk' ?_)
   exact wpAny_pure ⟨rfl,rfl,hrest⟩
 ·rintro⟨r1,r2⟩ s' ⟨hr,rfl,_⟩
  simp only at hr
  subst hr
  exact wpAny_pure h
theorem byValue_ (n:Nat) {a:Addr} {k:List Int} {Q:Bool→Shared→Prop} (hk:IsTupleKey (intKind prog w) s.heap k a) (h:Q true s):wpAny (model prog w) A (hashByValue (n+1) (.ref a)) Q E s:=by
 have hT:=hk.typeIs
 refine E3A4 (hk) fun o items m ho _ hd hi=>?_
 clear hk
 have hint:∀v∈items.toList,∃i t,v=.int i t:=by
  intro v hv
  clear hd ho h
  generalize items.toList=vs at hi hv
  induction hi with
  | nil=>contradiction
  | @cons k' v' ks vs h1 _ ih=>
   rcases List.mem_cons.mp hv with rfl|hv
   ·obtain⟨⟩:=v <;> first|exact⟨_,_,rfl⟩|contradiction
   ·exact ih hv
 refine wpAny_bind (wpAny_specialOf hT F.slot_tuple_hash.lookup ?_)
 refine wpAny_bind (wpAny_seqItems ho hd ?_)
 show wpAny _ _ (forIn items _ _ >>= _) _ _ s
 refine wpAny_bind ?_
 rw[←Array.forIn_toList]
 refine wpAny_forIn_list _ (fun rest r s'=>r.1=none∧s'=s∧∀v∈rest,∃i t,v=.int i t) _ ?_ ?_ _ _ ⟨rfl,rfl,hint⟩
 ·intro v rest r s' hz31
  refine E0A3 hz31 fun hr ee30 hall=>?_
  clear hz31
  subst ee30
  refine E2A1 (hall v List.mem_cons_self) fun i t ee13=>?_
  subst ee13
  have hv:hashByValue n (.int i t)=pure true:=hashByValue_scannable n rfl
  rw[hv]
  refine wpAny_bind (wpAny_pure ?_)
  exact wpAny_pure ⟨rfl,rfl,fun u hu'=>hall u (List.mem_cons_of_mem _ hu')⟩
 ·rintro⟨r1,r2⟩ s' ⟨hr,rfl,_⟩
  simp only at hr
  subst hr
  exact wpAny_pure h
end
end Mine
namespace Mine
section
variable {prog:Program} {w:World} {A:Around} {E:Value→Shared→Prop} {s:Shared} {a:Addr} {kk:List (Int×Int)} {es:List (Int×Value)} {ep:Nat} {t:SetTable} {side:Int} {k:Int×Int} {v:Value} {adding:Bool} {i:Nat}
theorem mate_ (f:F2 (PRep s.heap) kk es) (h:Int):∀y∈(es.toArray.filter (·.1 == h)).toList.map (·.2),∃b k',y=.ref b∧IsTupleKey (intKind prog w) s.heap k' b:=by
 intro y hy
 refine E1A2 (List.mem_map.mp hy) fun e he ee12=>?_
 subst ee12
 rw[Array.toList_filter] at he
 have he':=(List.mem_filter.mp he).1
 refine E1A1 (List.mem_iff_getElem?.mp he') fun j hj=>?_
 refine E1A2 (f.get (by simpa using hj)) fun k _ hr=>?_
 refine E1A2 (pair_key (prog:=prog) (w:=w) hr.2) fun b hb hk=>?_
 exact⟨b,_,hb,hk⟩
theorem search_found {Q:SetFound→Shared→Prop} (hu:A.units<cLine) (ho:s.heap.get? a=some (setOf es ep t)) (f:F2 (PRep s.heap) kk es) (p:PS side kk t) (hv:(Rep.pair Rep.int Rep.int).is s.heap k v) (hok:OkS side k) (hi:kk[i]? = some k)
  (h:Q (.there (if adding then none else some i)) s):wpAny (model prog w) A (setSearch a v (hp k) adding) Q E s:=by
 have hl:=f.length
 have hf:=p.fits hl.symm
 obtain⟨j,next,hpr,hsl⟩:=p.good.find (H:=fun i=>((es.toArray[i]?).map (·.1)).getD 0) (stored_at f) (hok.wide p.mask) (show(kk.map hp)[i]? = some (hp k) by rw[List.getElem?_map,hi]; rfl)
 refine E1A2 (f.get' hi) fun e he hr=>?_
 refine E1A2 (pair_key (prog:=prog) (w:=w) hr.2) fun b hb hkb=>?_
 refine E1A2 (pair_key (prog:=prog) (w:=w) hv) fun c ee6 hkc=>?_
 subst ee6
 refine wpAny_bind (wpAny_setState_of ho rfl hf ?_)
 dsimp only
 rw[p.odd]
 simp only[Bool.false_eq_true,if_false,Option.getD_none]
 generalize hG:t.probe _ (hp k) (t.probeStart (hp k))=G
 have hG':some (.candidate j i next)=G:=hpr.symm.trans hG
 subst hG'
 clear hG
 dsimp only
 have he':es.toArray[i]? = some e:=(List.getElem?_toArray ..).trans he
 obtain⟨eh,ev⟩:=e
 dsimp only at hb
 subst hb
 have hsm:t.sameMemory t.moves t.mask=some true:=by unfold SetTable.sameMemory; rw[if_pos (beq_self_eq_true _)]
 rcases Bool.eq_false_or_eq_true t.led with hled|hled
 case' inl=>
  rw[hled]
 case' inr=>
  rw[hled]
  refine wpAny_bind (unseen_ hkc (mate_ f (hp k)) ?_)
 all_goals
  rw[he']
  refine wpAny_bind (wpAny_holding ((pairKind prog w).eqBool hu hkb hkc ?_))
  refine wpAny_bind (wpAny_setState_of ho rfl hf ?_)
  simp only[decide_true,Bool.and_true]
  rcases adding with _|_
  rotate_left
  ·
   exact wpAny_pure h
  ·
   rw[hsm]
   dsimp only
   rw[if_pos rfl,hsl]
   dsimp only
   rw[he']
   refine wpAny_bind (wpAny_isSame_ref_self ?_)
   exact wpAny_bind (wpAny_pure (wpAny_pure h))
theorem search_free {Q:SetFound→Shared→Prop} (ho:s.heap.get? a=some (setOf es ep t)) (f:F2 (PRep s.heap) kk es) (p:PS side kk t) (hok:OkS side k) (hi:k∉kk)
  (h:∀slot wasDummy,slot≤t.mask→slot∉t.place.toList→(wasDummy=true→slot∈t.dummies.toList)→(wasDummy=false→slot∉t.dummies.toList)→(∀n,(∀n'≤n,way t.mask (hp k) n'≠slot)→t.slot (way t.mask (hp k) n)≠.empty)→Q (.free slot wasDummy) s) :
  wpAny (model prog w) A (setSearch a v (hp k) adding) Q E s:=by
 have hl:=f.length
 have hf:=p.fits hl.symm
 refine E2A5 (p.good.free (H:=fun i=>((es.toArray[i]?).map (·.1)).getD 0) (stored_at f) (hok.wide p.mask) (fun q=>hi ((p.keys hok).mp q))) fun j d hpr he hd hm hr=>?_
 have L:=p.good.toLay
 refine wpAny_bind (wpAny_setState_of ho rfl hf ?_)
 dsimp only
 rw[p.odd]
 simp only[Bool.false_eq_true,if_false,Option.getD_none]
 generalize hG:t.probe _ (hp k) (t.probeStart (hp k))=G
 have hG':some (.empty j d)=G:=hpr.symm.trans hG
 subst hG'
 clear hG
 dsimp only
 rcases d with _|q
 ·
  refine wpAny_pure (h j false hm ?_ (fun q=>by contradiction) (fun _=>?_) hr)
  ·rcases L.slot_cases j with⟨i,h1,_⟩|⟨h1,_⟩|⟨_,h1,h2⟩
   ·rw[he] at h1; contradiction
   ·rw[he] at h1; contradiction
   ·exact h2
  ·rcases L.slot_cases j with⟨i,h1,_⟩|⟨h1,_⟩|⟨_,h1,h2⟩
   ·rw[he] at h1; contradiction
   ·rw[he] at h1; contradiction
   ·exact h1
 ·
  have hq:=hd q rfl
  dsimp only
  have hne:(adding && t.slot q != .dummy)=false:=by rw[hq]; obtain⟨⟩:=adding <;> rfl
  rw[hne]
  refine wpAny_pure (h q true hm ?_ (fun _=>?_) (fun q=>by contradiction) hr)
  ·rcases L.slot_cases q with⟨i,h1,_⟩|⟨_,h1,h2⟩|⟨h1,_⟩
   ·rw[hq] at h1; contradiction
   ·exact h2
   ·rw[hq] at h1; contradiction
  ·rcases L.slot_cases q with⟨i,h1,_⟩|⟨_,h1,h2⟩|⟨h1,_⟩
   ·rw[hq] at h1; contradiction
   ·exact h1
   ·rw[hq] at h1; contradiction
end
end Mine
namespace Mine
theorem map_fm {α β:Type} (f:α→β) (l:List α) (order:List Nat):(order.filterMap (l[·]?)).map f=order.filterMap ((l.map f)[·]?):=by
 induction order with
 | nil=>rfl
 | cons i r ih=>
  rw[List.filterMap_cons,List.filterMap_cons]
  have:=List.getElem?_map (f:=f) (l:=l) (i:=i)
  rcases hi:l[i]? with _|x
  ·
   rw[hi] at this
   have q:(l.map f)[i]? = none:=this
   rw[q]; exact ih
  ·
   rw[hi] at this
   have q:=this
   rw[q]
   exact congrArg (f x::·) ih
theorem fm_perm {α:Type} {l:List α} {order:List Nat} (p:order.Perm (List.range l.length)):(order.filterMap (l[·]?)).Perm l:=by
 have:=p.filterMap (l[·]?)
 rwa [List.filterMap_getElem?_range_length] at this
section
variable {prog:Program} {w:World} {A:Around} {E:Value→Shared→Prop} {s:Shared} {a:Addr} {kk:List (Int×Int)} {es:List (Int×Value)} {ep:Nat} {t:SetTable} {side:Int} {k:Int×Int} {v:Value} {i:Nat}
 {σ:Shared} {P:Heap} {led led':List (Addr×Asn)} {S:Int×Int→Prop}
theorem setRelay_ {Q:Unit→Shared→Prop} {wanted:Nat} (ho:s.heap.get? a=some (setOf es ep t)) (f:F2 (PRep P) kk es) (G:Good t (kk.map hp)) (hok:∀k∈kk,OkS side k) (hm:Odd3 (SetTable.sizeAbove wanted - 1)) (hz:kk.length≤SetTable.sizeAbove wanted - 1)
  (hf:kk.length*5<(SetTable.sizeAbove wanted - 1)*3)
  (h:∀kk' es' t',(kk'.Perm kk)→F2 (PRep P) kk' es'→PS side kk' t'→Q () { s with heap:=s.heap.update a (Obj.putSet es'.toArray t') }):wpAny (model prog w) A (setRelay a wanted) Q E s:=by
 have hl:=f.length
 have hfit:t.fits es.toArray.size=true:=by
  unfold SetTable.fits
  have h1:=G.size
  have h2:=G.fill
  simp only[List.length_map] at h1
  simp[←hl,h1,h2]
 have hnd:kk.Nodup:=by
  have:=G.nd
  exact nodup_of_map this
 obtain⟨t2,order,e,e1,e2,e3,G2⟩:=relaid_good (t:=t) (hs:=kk.map hp) (wanted:=wanted) G.nd (fun h hh=>by obtain⟨k,hk,rfl⟩:=List.mem_map.mp hh; exact(hok k hk).wide hm) (by simpa using hz)
 rw[List.length_map] at e2 e3
 have hes:es.toArray.map (·.1)=(kk.map hp).toArray:=by
  rw[List.map_toArray]
  congr 1
  clear ho hfit e e2 e3 G2 hl hnd G hok hz hf h
  induction f with
  | nil=>rfl
  | cons x _ ih=>rw[List.map_cons,List.map_cons,ih,x.1]
 have perm1:=fm_perm e3
 have perm2:=fm_perm (hl▸e3)
 have f2:=f.perm order.toList
 have ha:order.filterMap (es.toArray[·]?)=(order.toList.filterMap (es[·]?)).toArray:=by
  apply Array.ext'
  rw[Array.toList_filterMap]
  simp
 refine wpAny_bind (wpAny_setState_of ho rfl hfit ?_)
 dsimp only
 have hsz:¬(SetTable.sizeAbove wanted>sizeLine):=by
  rw[sizeLine_eq]
  rcases hm with q|q|q <;> lia
 rw[if_neg hsz,hes,e]
 have hsame:((order.toList.filterMap (es[·]?)).toArray.size != es.toArray.size)=false:=by
  rw[List.size_toArray,List.size_toArray,perm2.length_eq]; exact bne_self_eq_false _
 refine wpAny_bind (wpAny_of_eq (a:=((order.toList.filterMap (es[·]?)).toArray,t2)) ?_ ?_)
 ·show(do
   let es':=order.filterMap (es.toArray[·]?)
   if es'.size != es.toArray.size then unsupported "internal:set-table-lost-an-element"
   pure (es',t2))=_
  rw[ha]
  dsimp only
  rw[hsame]
  rfl
 have hp2:PS side (order.toList.filterMap (kk[·]?)) t2:=by
  refine⟨?_,perm1.nodup_iff.mpr hnd,fun k hk=>hok k (perm1.mem_iff.mp hk),e1▸hm,?_⟩
  ·rw[map_fm]; exact G2
  ·rw[e1,e2]; exact hf
 exact wpAny_storeSet_of ho rfl (h _ _ _ perm1 f2 hp2) (by
  simp only[List.size_toArray,perm2.length_eq,←hl,sizeLine_eq]
  rcases hm with q|q|q <;> lia)
theorem setAdd_ {Q:Bool→Shared→Prop} (H:At σ P led s) (U:Upd a (Asn.pset side S) (Asn.pset side fun k'=>S k'∨k'=k) led led') (hu:A.units<cLine) (hk:(Rep.pair Rep.int Rep.int).is P k v) (hok:OkS side k)
  (h:∀b s',At σ P led' s'→Q b s'):wpAny (model prog w) A (setAddHashed a v (hp k)) Q E s:=by
 obtain⟨o,ho,kk,es,ep,t,rfl,f,p,hS⟩:=H.ld.get U.mem
 have hl:=f.length
 have hf:=p.fits hl.symm
 have fs:F2 (PRep s.heap) kk es:=f.imp fun _ _ r=>⟨r.1,(Rep.pair Rep.int Rep.int).mono H.sub r.2⟩
 have hks:=(Rep.pair Rep.int Rep.int).mono H.sub hk
 have fin:∀(kk':List (Int×Int)) (es':List (Int×Value)) (t':SetTable) (ep':Nat) (h':Heap),(∀k',k'∈kk'↔k'∈kk∨k'=k)→F2 (PRep P) kk' es'→PS side kk' t'→Heap.SameBut a s.heap h'→h'.get? a=some (setOf es' ep' t')→At σ P led' { s with heap:=h' }:=
  fun kk' es' t' ep' h' hm f' p' hs hg=>H.upd (tk:=s.toks) U hs ⟨_,hg,kk',es',ep',t',rfl,f',p',fun k'=>by rw[hm,hS]⟩
 refine wpAny_holding (wpAny_bind (wpAny_setState_of ho rfl hf ?_))
 dsimp only
 have hb:byScan v es.toArray=false:=by
  refine E4A2 (hk) fun a' _ _ _ ee123 _=>?_
  clear hk
  subst ee123
  rfl
 rw[hb]
 by_cases hin:k∈kk
 ·refine E1A1 (List.mem_iff_getElem?.mp hin) fun i hi=>?_
  refine wpAny_bind (search_found hu ho fs p hks hok hi ?_)
  exact wpAny_pure (h false _ (fin kk es t ep s.heap (fun k'=>⟨.inl,fun q=>q.elim id fun e=>e▸hin⟩) f p (Heap.SameBut.refl _ _) ho))
 ·refine wpAny_bind (search_free ho fs p hok hin fun slot wasDummy h1 h2 h3 h4 h5=>?_)
  refine wpAny_bind (wpAny_setState_of ho rfl hf ?_)
  have hfill:=put_fill p.good.toLay slot
  have hmk:=p.mask
  have hful:=p.full
  have hfill1:(t.put slot).1.fill≤t.mask:=by
   rw[hfill]
   have:7≤t.mask:=by rcases hmk with q|q|q <;> lia
   split <;> lia
  have G1:=p.good.put h1 h2 (fun q=>hin ((p.keys hok).mp q)) h5 hfill1
  rw[←map_insL] at G1
  have f1:F2 (PRep P) (insL kk (t.put slot).2 k) (insL es (t.put slot).2 (hp k,v)):=f.insL ⟨rfl,hk⟩ _
  have hok1:∀k'∈insL kk (t.put slot).2 k,OkS side k':=fun k' hk'=>(mem_insL.mp hk').elim (fun e=>e▸hok) (p.ok k')
  have nd1:(insL kk (t.put slot).2 k).Nodup:=nodup_insL p.nd hin
  have few:=OkS.few nd1 hok1
  have len1:(insL kk (t.put slot).2 k).length=kk.length+1:=length_insL ..
  have hins:SetTable.insertAt es.toArray (t.put slot).2 (hp k,v)=(insL es (t.put slot).2 (hp k,v)).toArray:=by
   apply Array.ext'
   rw[toList_insertAt']
  have mem1:∀k',k'∈insL kk (t.put slot).2 k↔k'∈kk∨k'=k:=fun k'=>mem_insL.trans or_comm
  have hput:t.put slot=((t.put slot).1,(t.put slot).2):=rfl
  refine E1A2 (pair_key (prog:=prog) (w:=w) hks) fun c hc hkc=>?_
  subst hc
  have rest:wpAny (model prog w) A (do
    storeSet a (insL es (t.put slot).2 (hp k,Value.ref c)).toArray (t.put slot).1
    if(!wasDummy && (t.put slot).1.tooFull)=true then do
      setRelay a (SetTable.grown (es.toArray.size+1))
      pure true
     else pure true) Q E s:=by
   refine wpAny_bind (wpAny_storeSet_of ho rfl ?_ (by rw[List.size_toArray,←f1.length,sizeLine_eq]; exact tr1 (by assumption) rfl))
   have hg1:(s.heap.update a (Obj.putSet (insL es (t.put slot).2 (hp k,Value.ref c)).toArray (t.put slot).1)).get? a=some (setOf (insL es (t.put slot).2 (hp k,Value.ref c)) (ep+1) (t.put slot).1):=
    Heap.get?_update_self _ ho rfl
   have hsb1:=Heap.SameBut.update s.heap a (Obj.putSet (insL es (t.put slot).2 (hp k,Value.ref c)).toArray (t.put slot).1)
   by_cases hfull:(!wasDummy && (t.put slot).1.tooFull)=true
   ·rw[if_pos hfull]
    have hn:es.toArray.size+1=(insL kk (t.put slot).2 k).length:=by rw[List.size_toArray,←hl,len1]
    rw[hn]
    have hab:∀n:Nat,0<n→n≤6→Odd3 (SetTable.sizeAbove (SetTable.grown n) - 1)∧n≤SetTable.sizeAbove (SetTable.grown n) - 1∧n*5<(SetTable.sizeAbove (SetTable.grown n) - 1)*3:=fun n h0 h6=>by
     have:=List.all_eq_true.mp above_few n (List.mem_range.mpr (by lia))
     rcases Bool.or_eq_true_iff.mp this with q|q
     ·have:=beq_iff_eq.mp q; lia
     ·dsimp only at q
      simp only[Bool.and_eq_true,Bool.or_eq_true,beq_iff_eq,decide_eq_true_eq] at q
      refine E0A2 (q) fun zz105 q3=>?_
      clear q
      obtain⟨q1,q2⟩:=zz105
      exact⟨q1.elim (fun q=>q.elim .inl fun q=>.inr (.inl q)) fun q=>.inr (.inr q),Nat.le_of_ble_eq_true q2,q3⟩
    refine E0A3 (hab _ (by exact sb0 (by assumption)) few) fun a1 a2 a3=>?_
    refine wpAny_bind (setRelay_ (s:={ s with heap:=s.heap.update a (Obj.putSet (insL es (t.put slot).2 (hp k,Value.ref c)).toArray (t.put slot).1) }) hg1 f1 G1 hok1 a1 a2 a3 fun kk' es' t' pm f' p'=>wpAny_pure ?_)
    refine h true _ (fin kk' es' t' (ep+2) _ (fun k'=>pm.mem_iff.trans (mem1 k')) f' p' (hsb1.trans (Heap.SameBut.update ..)) (Heap.get?_update_self _ hg1 rfl))
   ·rw[if_neg hfull]
    refine wpAny_pure (h true _ (fin _ _ _ (ep+1) _ mem1 f1 ⟨G1,nd1,hok1,hmk,?_⟩ hsb1 hg1))
    rw[hfill]
    rcases wasDummy with _|_
    rotate_left
    ·rw[if_pos (h3 rfl)]; exact hful
    ·
     rw[if_neg (h4 rfl)]
     rw[hfill,if_neg (h4 rfl)] at hfill1
     have hq:¬((t.put slot).1.tooFull=true):=fun q=>hfull (by rw[q]; rfl)
     unfold SetTable.tooFull at hq
     rw[hfill,if_neg (h4 rfl)] at hq
     have hq':=fun c=>hq (decide_eq_true c)
     exact Nat.lt_of_not_le (by assumption)
  rw[hins]
  by_cases hpl:(t.put slot).1.plain=true
  ·rw[if_pos hpl]
   refine wpAny_bind (byValue_ 7 hkc ?_)
   simp only[if_true]
   exact rest
  ·rw[if_neg hpl]
   refine wpAny_bind (wpAny_pure ?_)
   simp only[if_true]
   exact rest
theorem r_setadd {Q:Value→Shared→Prop} (H:At σ P led s) (U:Upd a (Asn.pset side S) (Asn.pset side fun k'=>S k'∨k'=k) led led') (hu:A.units+1<cLine) (hk:(Rep.pair Rep.int Rep.int).is P k v) (hok:OkS side k)
  (h:∀s',At σ P led' s'→Q .none s'):wpAny (model prog w) A (call (.builtin "set.add") [.ref a,v]) Q E s:=by
 obtain⟨o,ho,kk,es,ep,t,rfl,f,p,hS⟩:=H.ld.get U.mem
 refine wpAny_call_entry F.slot_set_add ⟨_,ho,rfl⟩ F.entry_set_add ?_ (F.args_set_add_2 _ _)
 unfold Builtin.«set.add» Builtin.Frozenset.oneOther
 simp only[List.isEmpty_nil,bind_assoc]
 refine wpAny_bind (wpAny_pure ?_)
 try dsimp only
 refine wpAny_bind (wpAny_pure ?_)
 try dsimp only
 refine wpAny_bind ?_
 refine wpAny_holding ?_
 refine wpAny_bind ((DKind.pair prog w).pyHash (A:=A.in1) hu ((Rep.pair Rep.int Rep.int).mono H.sub hk) fun tk=>?_)
 refine setAdd_ (A:=A.in1) (H.tok (tk:=tk)) U hu hk hok fun b s' H'=>?_
 show wpAny _ _ (ret Value.none) _ _ _
 exact wpAny_pure ⟨_,rfl,h s' H'⟩
theorem setDiscard_ {Q:Bool→Shared→Prop} (H:At σ P led s) (U:Upd a (Asn.pset side S) (Asn.pset side fun k'=>S k'∧k'≠k) led led') (hu:A.units<cLine) (hk:(Rep.pair Rep.int Rep.int).is P k v) (hS:S k)
  (h:∀s',At σ P led' s'→Q true s'):wpAny (model prog w) A (setDiscard a v) Q E s:=by
 refine wpAny_holding ?_
 refine wpAny_bind ((DKind.pair prog w).pyHash hu ((Rep.pair Rep.int Rep.int).mono H.sub hk) fun tk=>?_)
 replace H:=H.tok (tk:=tk)
 generalize { s with toks:=tk }=s at *
 obtain⟨o,ho,kk,es,ep,t,rfl,f,p,hSS⟩:=H.ld.get U.mem
 have hl:=f.length
 have hf:=p.fits hl.symm
 have fs:F2 (PRep s.heap) kk es:=f.imp fun _ _ r=>⟨r.1,(Rep.pair Rep.int Rep.int).mono H.sub r.2⟩
 have hks:=(Rep.pair Rep.int Rep.int).mono H.sub hk
 have hin:=(hSS k).mpr hS
 refine E1A1 (List.mem_iff_getElem?.mp hin) fun i hi=>?_
 refine wpAny_bind ?_
 refine wpAny_bind (wpAny_setState_of ho rfl hf ?_)
 dsimp only
 have hb:byScan v es.toArray=false:=by
  refine E4A2 (hk) fun a' _ _ _ ee72 _=>?_
  clear hk
  subst ee72
  rfl
 rw[hb]
 refine wpAny_bind (search_found hu ho fs p hks (p.ok k hin) hi ?_)
 refine wpAny_pure ?_
 refine wpAny_bind (wpAny_setState_of ho rfl hf ?_)
 dsimp only
 obtain⟨j,hj,_,_⟩:=p.good.at (show(kk.map hp)[i]? = some (hp k) by rw[List.getElem?_map,hi]; rfl)
 refine E0A3 (p.good.drop hj) fun G1 hm1 hf1=>?_
 rw[←erase_map] at G1
 have hea:SetTable.eraseAt es.toArray i=(es.eraseIdx i).toArray:=by
  apply Array.ext'
  rw[toList_eraseAt]
 rw[hea]
 have hfew:=OkS.few p.nd p.ok
 refine wpAny_bind (wpAny_storeSet_of ho rfl ?_ (by rw[List.size_toArray,List.length_eraseIdx,←hl,sizeLine_eq]; split <;> lia))
 refine wpAny_bind (wpAny_point (wpAny_pure ?_))
 refine h _ (H.upd (tk:=s.toks) U (Heap.SameBut.update ..) ⟨_,Heap.get?_update_self _ ho rfl,kk.eraseIdx i,es.eraseIdx i,ep+1,t.drop i,rfl,f.erase i,⟨G1,p.nd.sublist (List.eraseIdx_sublist ..),fun k' hk'=>p.ok k' ((List.eraseIdx_sublist ..).subset hk'),hm1▸p.mask,by rw[hm1,hf1]; exact p.full⟩,fun k'=>?_⟩)
 show k'∈kk.eraseIdx i↔S k'∧k'≠k
 rw[←hSS k',List.mem_eraseIdx_iff_getElem?]
 constructor
 ·intro hz58
  refine E1A2 hz58 fun i' hne hi'=>?_
  clear hz58
  refine⟨List.mem_of_getElem? hi',fun e=>?_⟩
  subst e
  obtain⟨hil,_⟩:=List.getElem?_eq_some_iff.mp hi'
  exact hne ((List.getElem?_inj hil p.nd).mp (hi'.trans hi.symm))
 ·intro hz40
  refine E0A2 hz40 fun hk' hne=>?_
  clear hz40
  obtain⟨i',hi'⟩:=List.mem_iff_getElem?.mp hk'
  refine⟨i',fun e=>hne ?_,hi'⟩
  subst e
  rw[hi] at hi'; exact(Option.some.inj hi').symm
theorem r_setremove {Q:Value→Shared→Prop} (H:At σ P led s) (U:Upd a (Asn.pset side S) (Asn.pset side fun k'=>S k'∧k'≠k) led led') (hu:A.units+1<cLine) (hk:(Rep.pair Rep.int Rep.int).is P k v) (hS:S k)
  (h:∀s',At σ P led' s'→Q .none s'):wpAny (model prog w) A (call (.builtin "set.remove") [.ref a,v]) Q E s:=by
 obtain⟨o,ho,kk,es,ep,t,rfl,f,p,_⟩:=H.ld.get U.mem
 refine wpAny_call_entry F.slot_set_remove ⟨_,ho,rfl⟩ F.entry_set_remove ?_ (F.args_set_remove_2 _ _)
 unfold Builtin.«set.remove» Builtin.Frozenset.oneOther
 simp only[List.isEmpty_nil,bind_assoc]
 refine wpAny_bind (wpAny_pure ?_)
 try dsimp only
 refine wpAny_bind (wpAny_pure ?_)
 try dsimp only
 refine wpAny_bind (wpAny_tryCatch ?_)
 refine setDiscard_ (A:=A.in1) H U hu hk hS fun s' H'=>?_
 show wpAny _ _ (ret Value.none) _ _ _
 exact wpAny_pure ⟨_,rfl,h s' H'⟩
theorem new_good (led:Bool):PS side [] (.fresh 0 0 led):=by
 have L:Lay (.fresh 0 0 led) 0:=⟨List.Pairwise.nil,List.Pairwise.nil,rfl,Nat.zero_le _,fun j hj=>(by contradiction),fun j hj=>(by contradiction),fun j hj=>(by contradiction)⟩
 exact⟨⟨L,List.nodup_nil,fun x hx=>(by contradiction)⟩,List.nodup_nil,fun x hx=>(by contradiction),.inl rfl,by show 0*5<7*3; exact bl2 rfl⟩
theorem r_newset {Q:Value→Shared→Prop} (H:At σ P led s) (h:∀a s',At σ P ((a,Asn.pset side fun _=>False)::led) s'→Q (.ref a) s'):wpAny (model prog w) A (call (.type "set") []) Q E s:=
 call_set_0 fun ld=>h _ _ (H.push (R:=Asn.pset side fun _=>False) (o:=setOf [] 0 (.fresh 0 0 ld)) ⟨[],[],0,_,rfl,.nil,new_good ld,fun k=>by simp⟩ rfl)
theorem m_set {name:Str} {id:String} {pl:Sem Bool} {Q:Value×List Value→Shared→Prop} (H:At σ P led s) (hm:(a,Asn.pset side S)∈led) (slot:Slot "set" name id) (hty:typeOf (.builtin id)=pure (.type "method_descriptor"))
  (h:Q (.builtin id,[.ref a]) s):wpAny (model prog w) A (getMethod (.ref a) name pl) Q E s:=by
 obtain⟨o,ho,kk,es,ep,t,rfl,_⟩:=H.ld.get hm
 exact getMethod_builtin ⟨_,ho,rfl⟩ PySem.F.plainAttrs_set slot hty (fun a q=>by(injection q with q; subst q); exact⟨_,ho,rfl⟩) h
end
end Mine
namespace Mine
noncomputable section
noncomputable def Asn.nsA:Asn:=⟨fun _ o=>∃es ep,o.data=.dict es ep∧StrKeys es,fun _ h=>h⟩
structure Fr2 (C I:Addr) (s₀ s:Shared):Prop where
 heap:∀b o,b≠C→b≠I→s₀.heap.get? b=some o→s.heap.get? b=some o
 os:s.os=s₀.os
 gens:Gk s₀ s.gens
structure Gsp where
 σ:Shared
 C:Addr
 I:Addr
 g:Nat
 R:Nat→Asn
 n:Nat
 Rdy:Nat→Shared→Prop
 Yl:Heap→Heap→Nat→Value→Prop
noncomputable def Gsp.Yields (S:Gsp) (i:Nat) (v:Value) (s₀ s:Shared):Prop:=
 ∃P0 P',(∀b o,b≠S.C→b≠S.I→s₀.heap.get? b=some o→P0.get? b=some o)∧Sub P0 P'∧Sub P' s.heap∧P'.get? S.C=none∧P'.get? S.I=none∧S.Yl P0 P' i v
noncomputable def Gsp.Lives (S:Gsp) (i:Nat) (s:Shared):Prop:=(∃o,s.heap.get? S.C=some o∧Asn.nsA.ok s.heap o)∧∃o,s.heap.get? S.I=some o∧∀P,(S.R i).ok P o
noncomputable def Gsp.proto (S:Gsp):Protocol:=fun m s₀ v s k=>
 m<S.n∧Fr2 S.C S.I s₀ s∧S.Lives (S.n - m) s∧S.Yields (S.n - 1 - m) v s₀ s∧∀s'',S.Rdy (S.n - m) s''→k (.send .none) s''
noncomputable abbrev Gsp.fin (S:Gsp):GenEnd:=fun n s₀ r s₁=>(r=.ok .next∨r=.ok (.ret .none))∧(n=0∧Fr2 S.C S.I s₀ s₁)
noncomputable def Gsp.At (S:Gsp) (prog:Program) (w:World) (A:Around) (i:Nat) (s:Shared):Prop:=
 ∃gs,s.gens[S.g]? = some gs∧gs.bare=true∧∀s'',S.Rdy i s''→gs.Goes (model prog w) A S.fin S.proto (S.n - i) (.send .none) s''
theorem Fr2.at_ {σ:Shared} {P:Heap} {led:List (Addr×Asn)} {s₀ s:Shared} {C I:Addr} {R R' S S':Asn} (F:Fr2 C I s₀ s) (H:At σ P ((C,R)::(I,S)::led) s₀)
  (h1:∃o,s.heap.get? C=some o∧R'.ok P o) (h2:∃o,s.heap.get? I=some o∧S'.ok P o):At σ P ((C,R')::(I,S')::led) s:=by
 have nd:=H.ld.nodup
 simp only[List.map_cons,List.nodup_cons,List.mem_cons] at nd
 have hC:=H.ld.off _ (.head _)
 have hI:=H.ld.off _ (.tail _ (.head _))
 refine⟨⟨fun b o e=>F.heap b o (fun q=>by rw[q] at e; rw[hC] at e; contradiction) (fun q=>by rw[q] at e; rw[hI] at e; contradiction) (H.sub _ _ e),H.ld.nodup,fun p hp=>?_,fun p hp=>?_⟩,F.os.trans H.os,?_⟩
 ·rcases List.mem_cons.mp hp with rfl|hp
  ·exact h1
  rcases List.mem_cons.mp hp with rfl|hp
  ·exact h2
  refine E1A2 (H.ld.pt p (.tail _ (.tail _ hp))) fun o e r=>?_
  exact⟨o,F.heap _ _ (fun q=>nd.1 (.inr (q▸List.mem_map_of_mem (f:=(·.1)) hp))) (fun q=>nd.2.1 (q▸List.mem_map_of_mem (f:=(·.1)) hp)) e,r⟩
 ·rcases List.mem_cons.mp hp with rfl|hp
  ·exact hC
  rcases List.mem_cons.mp hp with rfl|hp
  ·exact hI
  exact H.ld.off p (.tail _ (.tail _ hp))
 ·exact⟨F.gens.bare,fun g x e=>F.gens.kept g x (H.gens.kept g x e)⟩
theorem Fr2.drop {σ:Shared} {P:Heap} {led:List (Addr×Asn)} {s₀ s:Shared} {C I:Addr} {R S:Asn} (F:Fr2 C I s₀ s) (H:At σ P ((C,R)::(I,S)::led) s₀):At σ P led s:=by
 have nd:=H.ld.nodup
 simp only[List.map_cons,List.nodup_cons,List.mem_cons] at nd
 have hC:=H.ld.off _ (.head _)
 have hI:=H.ld.off _ (.tail _ (.head _))
 refine⟨⟨fun b o e=>F.heap b o (fun q=>by rw[q] at e; rw[hC] at e; contradiction) (fun q=>by rw[q] at e; rw[hI] at e; contradiction) (H.sub _ _ e),nd.2.2,fun p hp=>?_,fun p hp=>H.ld.off p (.tail _ (.tail _ hp))⟩,F.os.trans H.os,⟨F.gens.bare,fun g x e=>F.gens.kept g x (H.gens.kept g x e)⟩⟩
 refine E1A2 (H.ld.pt p (.tail _ (.tail _ hp))) fun o e r=>?_
 exact⟨o,F.heap _ _ (fun q=>nd.1 (.inr (q▸List.mem_map_of_mem (f:=(·.1)) hp))) (fun q=>nd.2.1 (q▸List.mem_map_of_mem (f:=(·.1)) hp)) e,r⟩
theorem At.setGen {σ:Shared} {P:Heap} {led:List (Addr×Asn)} {s:Shared} {g:Nat} {x:GenState} (H:At σ P led s) (hg:σ.gens[g]? = none) (hb:x.bare=true):At σ P led (s.setGen g x):=by
 refine⟨H.ld,H.os,⟨fun y hy=>?_,fun k z e=>?_⟩⟩
 ·obtain⟨i,hi,e⟩:=Array.mem_iff_getElem.mp hy
  have e':(s.setGen g x).gens[i]? = some y:=by rw[Array.getElem?_eq_getElem hi,e]
  simp only[Shared.setGen,Array.getElem?_setIfInBounds] at e'
  split at e'
  ·split at e'
   ·(obtain rfl:=Option.some.inj e'); exact hb
   ·contradiction
  ·exact H.gens.bare y (Array.mem_of_getElem? e')
 ·have hne:k≠g:=fun q=>by rw[q,hg] at e; contradiction
  have:=H.gens.kept k z e
  simp only[Shared.setGen,Array.getElem?_setIfInBounds]
  rw[if_neg (Ne.symm hne)]
  exact this
theorem pn_gen {prog:Program} {w:World} {A:Around} {E:Value→Shared→Prop} {s:Shared} {a:Addr} {g n:Nat} {gs:GenState} {P:Nat→Shared→Shared→Prop} {Y:Protocol} {Q:Option Value→Shared→Prop} (hh:A.handled=none) (hl:s.heap.NoLimit) (hroom:A.depth<recursionLimit)
  (hg:s.heap.IsGen a g) (hgs:s.gens[g]? = some gs)
  (hgo:gs.Goes (model prog w) A.in1 (fun n s₀ r s₁=>(r=.ok .next∨r=.ok (.ret .none))∧P n s₀ s₁) Y n (.send .none) (s.setGen g .running))
  (hY:∀v s₁ gs',gs'.bare=true→Y (n - 1) (s.setGen g .running) v s₁ (fun r' s''=>match n with
    | 0=>False
    | m+1=>gs'.Goes (model prog w) A.in1 (fun n s₀ r s₁=>(r=.ok .next∨r=.ok (.ret .none))∧P n s₀ s₁) Y m r' s'')→Q (some v) (s₁.setGen g gs'))
  (hP:∀s₁,P n (s.setGen g .running) s₁→∀h',(∀b o,s₁.heap.get? b=some o→h'.get? b=some o)→Q none { s₁.setGen g .finished with heap:=h' }) :
  wpAny (model prog w) A (pyNext (.ref a)) Q E s:=by
 refine wpAny_bind (wpAny_attempt (wpAny_callSpecial?_slot (name:=Str.ofString "__next__") hg.typeIs slot_gen_next (wpAny_call_entry slot_gen_next hg.typeIs entry_gen_next ?_ (args_gen_next _))))
 show wpAny _ A.in1 (Builtin.Generator.genWake (.ref a) (.send .none)) _ _ s
 refine wpAny_bind (wpAny_holding (wpAny_genNumber hg (wpAny_bind (wpAny_genState hgs ?_))))
 have stop:∀(s₁:Shared) {β:Type} (k:Unit→Sem β) (Q1:β→Shared→Prop) (E1:Value→Shared→Prop),(∀h' e,(∀b o,s₁.heap.get? b=some o→h'.get? b=some o)→(∃o,h'.get? e=some o∧o.cls=.type "StopIteration")→E1 (.ref e) { s₁ with heap:=h' }) →
   wpAny (model prog w) A.in1 (newExc (.type "StopIteration") [] >>= fun e=>raiseNew e >>= k) Q1 E1 s₁:=fun s₁ β k Q1 E1 h=>by
  refine wpAny_bind ?_
  refine wpAny_bind (wpAny_newObj_type ?_ (by size_fits))
  refine wpAny_bind (m:=firstArgMember _ _) (wpAny_of_eq (a:=Value.none) (by first|rfl|(simp only[firstArgMember]; rfl)) ?_)
  refine wpAny_newObj_type (wpAny_bind (wpAny_raiseNew_none hh (h _ _ (fun b o hb=>Heap.get?_push_of_some _ (Heap.get?_push_of_some _ hb)) ⟨_,Heap.get?_push_size _ rfl,rfl⟩))) (by size_fits)
 cases gs with
 | running=>exact hgo.elim
 | finished=>exact hgo.elim
 | _=>
  refine wpAny_bind (wpAny_roomToWake hl hroom ?_)
  refine wpAny_resumeQ hgs hgo (fun x s₁ hx=>?_) (fun v s₁ gs' hb hv=>wpAny_pure ⟨v,rfl,wpAny_pure (hY v s₁ gs' hb hv)⟩)
  obtain⟨hx,hp⟩:=hx
  rcases hx with rfl|rfl <;>
  ·skip
   refine stop _ _ _ _ fun h' e hk zz22=>E1A2 zz22 fun o he hc=>?_
   exact wpAny_bind (wpAny_isInstance (T:="StopIteration") (b:=true) ⟨o,he,hc⟩ isSubtype_stop (wpAny_pure (hP s₁ hp h' hk)))
section
variable {prog:Program} {w:World} {P:Heap} {led:List (Addr×Asn)} {s:Shared} {A:Around} {E:Value→Shared→Prop} {S:Gsp} {ga:Addr} {i:Nat}
theorem gen_next {Q:Option Value→Shared→Prop} (hh:A.handled=none) (hroom:A.depth<recursionLimit) (hl:P.NoLimit) (hg:P.IsGen ga S.g) (hσ:S.σ.gens[S.g]? = none)
  (H:Mine.At S.σ P ((S.C,Asn.nsA)::(S.I,S.R i)::led) s) (hS:S.At prog w A.in1 i s) (hi:i<S.n)
  (hr:∀s'',Mine.At S.σ P ((S.C,Asn.nsA)::(S.I,S.R i)::led) s''→S.Rdy i s'')
  (h:∀v s',Mine.At S.σ P ((S.C,Asn.nsA)::(S.I,S.R (i+1))::led) s'→S.Yields i v s s'→S.At prog w A.in1 (i+1) s'→Q (some v) s'):wpAny (model prog w) A (pyNext (.ref ga)) Q E s:=by
 refine E1A3 (hS) fun gs hgs hb hgo=>?_
 clear hS
 have H0:=H.setGen (x:=.running) hσ rfl
 obtain⟨m,hm⟩:∃m,S.n - i=m+1:=⟨S.n - i - 1,by exact sb9 (by assumption)⟩
 refine pn_gen (P:=fun n s₀ s₁=>n=0∧Fr2 S.C S.I s₀ s₁) (Y:=S.proto) (n:=S.n - i) hh (hl.keeps H.sub) hroom (hg.keeps H.sub) hgs (hgo _ (hr _ H0)) (fun v s₁ gs' hb' hv=>?_) (fun s₁ hp=>by have:=hp.1; lia)
 refine E0A5 (hv) fun _ hF zz19 hY hk=>?_
 clear hv
 obtain⟨hL1,hL2⟩:=zz19
 rw[hm] at hL2 hY hk
 have e1:S.n - (m+1 - 1)=i+1:=by exact sb4 (by assumption) (by assumption)
 have e2:S.n - 1 - (m+1 - 1)=i:=by exact sb3 (by assumption)
 rw[e1] at hL2 hk
 rw[e2] at hY
 have H1:Mine.At S.σ P ((S.C,Asn.nsA)::(S.I,S.R (i+1))::led) s₁:=hF.at_ H0 (E1A2 (hL1) fun o e r=>⟨o,e,r⟩) (E1A2 (hL2) fun o e r=>⟨o,e,r P⟩)
 have hrun:s₁.gens[S.g]? = some .running:=hF.gens.kept S.g .running (setGen_self hgs)
 refine h v _ (H1.setGen hσ hb') hY ⟨gs',setGen_self hrun,hb',fun s'' hR=>?_⟩
 have e3:S.n - (i+1)=m:=by exact sb1 (by assumption)
 rw[e3]
 exact hk s'' hR
theorem gen_end {Q:Option Value→Shared→Prop} (hh:A.handled=none) (hroom:A.depth<recursionLimit) (hl:P.NoLimit) (hg:P.IsGen ga S.g) (hσ:S.σ.gens[S.g]? = none)
  (H:Mine.At S.σ P ((S.C,Asn.nsA)::(S.I,S.R S.n)::led) s) (hS:S.At prog w A.in1 S.n s)
  (hr:∀s'',Mine.At S.σ P ((S.C,Asn.nsA)::(S.I,S.R S.n)::led) s''→S.Rdy S.n s'')
  (h:∀s',Mine.At S.σ P led s'→Q none s'):wpAny (model prog w) A (pyNext (.ref ga)) Q E s:=by
 refine E1A3 (hS) fun gs hgs hb hgo=>?_
 clear hS
 have H0:=H.setGen (x:=.running) hσ rfl
 have hg0:=hgo _ (hr _ H0)
 rw[Nat.sub_self] at hg0
 refine pn_gen (P:=fun n s₀ s₁=>n=0∧Fr2 S.C S.I s₀ s₁) (Y:=S.proto) (n:=0) hh (hl.keeps H.sub) hroom (hg.keeps H.sub) hgs hg0 (fun v s₁ gs' hb' hv=>?_) (fun s₁ hp h' hk=>?_)
 ·refine E0A5 (hv) fun hlt hF zz11 hY hk=>?_
  clear hv
  obtain⟨hL1,hL2⟩:=zz11
  have H1:Mine.At S.σ P ((S.C,Asn.nsA)::(S.I,S.R S.n)::led) s₁:=hF.at_ H0 (E1A2 (hL1) fun o e r=>⟨o,e,r⟩) (E1A2 (hL2) fun o e r=>⟨o,e,r P⟩)
  exact(hk s₁ (hr s₁ H1)).elim
 ·refine E0A2 (hp) fun _ hF=>?_
  clear hp
  exact h _ ((hF.drop H0).setGen (x:=.finished) hσ rfl |>.grow (tk:=(s₁.setGen S.g .finished).toks) (h':=h') hk)
end
end
end Mine
namespace Mine
noncomputable section
structure Gx where
 prog:Program
 w:World
 σ:Shared
 C:Addr
 I:Addr
 g:Nat
 R:Nat→Asn
 n:Nat
 need:Heap→Heap→Prop
 X:Heap→Prop
 Yl:Heap→Heap→Nat→Value→Prop
noncomputable abbrev Gx.sp (T:Gx):Gsp:=⟨T.σ,T.C,T.I,T.g,T.R,T.n,fun i s=>∃P m,At T.σ P [(T.C,Asn.ns m),(T.I,T.R i)] s∧Src (KF T.w) P∧T.need P s.heap∧T.X P,T.Yl⟩
structure GTurn (T:Gx) (nms:List (Str×NameKind)) (cenv:Env) (n':Nat) (target elt:Expr) (ifs:List Expr) (Pv:Heap→Nat→Value→Prop):Prop where
 run:∀(σ':Shared) (i:Nat) (P0 P1:Heap) (_:Sub P0 P1) (Γ:Cx ⟨T.prog,T.w,σ'⟩ P1 nms n') (mc:Str→Option Value) (v:Value),Γ.env=cenv→T.X P1→i<T.n→Pv P1 i v →
  ∃K,Asg Γ mc [(T.I,T.R (i+1))] target v K∧∀m'',K m''→Tsts Γ m'' [(T.I,T.R (i+1))] ifs true∧EvG Γ m'' [(T.I,T.R (i+1))] elt fun P' v l=>l=[(T.I,T.R (i+1))]∧T.Yl P0 P' i v
section
variable {T:Gx} {nms:List (Str×NameKind)} {cenv:Env} {n':Nat} {elt target iter:Expr} {ifs:List Expr} {scope:Scope} {pos:Pos} {A:Around} {Pv:Heap→Nat→Value→Prop}
theorem Rm.over {n:Nat} (R:Rm A (n+1)) (elt:Expr) (gens:List Comprehension) (scope:Scope) (pos:Pos) (it acc:Value) (env:Env):Rm (A.over (.compLoop (.GeneratorExp elt gens scope pos) 0 it acc env) []) n:=
 ⟨R.handled,by have:=R.depth; have h:(A.over (.compLoop (.GeneratorExp elt gens scope pos) 0 it acc env) []).depth≤A.depth+1:=Nat.le_of_eq rfl; exact dp1 (by assumption),
  by have:=R.units; have h:(A.over (.compLoop (.GeneratorExp elt gens scope pos) 0 it acc env) []).units≤A.units+3:=Nat.le_of_eq rfl; exact un2 (by assumption) rfl⟩
theorem seg_gx (hI:∀σ',It T.prog T.w σ' T.I T.n T.R T.need Pv) (hR:∀i P P' o,(T.R i).ok P o→(T.R i).ok P' o) (hX:∀P P',Sub P P'→T.X P→T.X P') (hN:∀P P' h,Sub P P'→T.need P h→T.need P' h)
  (O:EnvOk cenv T.C nms) (hdb:nms.lookup ("__debug__" : Str)=none) (hco:cenv.scope.isCoroutine=false) (hT:(∀it v,letOwnedTupleGo target it v=pure ())∨∃elts k p,target=.Tuple elts k p)
  (hRm:Rm A (n'+2)) (turn:GTurn T nms cenv n' target elt ifs Pv):∀(k i:Nat) (s₀:Shared),T.n - i=k→i≤T.n→T.sp.Rdy i s₀ →
   Seg (model T.prog T.w) A T.sp.fin T.sp.proto k s₀ (.compLoop (.GeneratorExp elt [⟨target,iter,ifs,0⟩] scope pos) 0 (.ref T.I) .none cenv)
    ((model T.prog T.w).den (.compLoop (.GeneratorExp elt [⟨target,iter,ifs,0⟩] scope pos) 0 (.ref T.I) .none cenv)) [] s₀:=by
 have hh':=hRm.handled
 intro k
 induction k with
 | zero=>
  intro i s₀ hk hi hz32
  refine E2A4 hz32 fun P m H X hn hx=>?_
  clear hz32
  have hin:i=T.n:=by exact sb7 (by assumption) (by assumption)
  subst hin
  refine E1A4 (H.base.ld.wide) fun P0 k0 _ H0 ha=>?_
  have H1:At { T.σ with gens:=s₀.gens } P0 [(T.C,Asn.ns m),(T.I,T.R T.n)] s₀:=⟨H0,H.os,H.base.gens⟩
  show Seg _ A _ _ _ s₀ _ ((compTurn (.GeneratorExp elt [⟨target,iter,ifs,0⟩] scope pos) 0 (.ref T.I) .none cenv).onRaise (leaving cenv)) [] s₀
  rw[compTurn_gen,Sem.onRaise_eq_wrap]
  refine seg_bind_wrap (wpAny_standAt ?_)
  refine seg_bind_wrap ((hI _).done hh' (H1.perm (List.Perm.swap _ _ _)) (hN _ _ _ k0 hn) fun s' H'=>?_)
  refine seg_end (.ok .next) ⟨.inl rfl,rfl,⟨fun b o h1 h2 e=>H'.sub _ _ (ha b o e ?_),H'.os.trans H.os.symm,⟨H'.gens.bare,H'.gens.kept⟩⟩⟩
  simp[h1,h2]
 | succ k ih=>
  intro i s₀ hk hi hz30
  refine E2A4 hz30 fun P m H X hn hx=>?_
  clear hz30
  have hlt:i<T.n:=by exact sb0 (by assumption)
  refine E1A4 (H.base.ld.wide) fun P0 k0 _ H0 ha=>?_
  have H1:At { T.σ with gens:=s₀.gens } P0 [(T.C,Asn.ns m),(T.I,T.R i)] s₀:=⟨H0,H.os,H.base.gens⟩
  show Seg _ A _ _ _ s₀ _ ((compTurn (.GeneratorExp elt [⟨target,iter,ifs,0⟩] scope pos) 0 (.ref T.I) .none cenv).onRaise (leaving cenv)) [] s₀
  rw[compTurn_gen,Sem.onRaise_eq_wrap]
  refine seg_bind_wrap (wpAny_standAt ?_)
  refine seg_bind_wrap ((hI _).item hlt H1 (.tail .head) (hN _ _ _ k0 hn) fun P1 v s1 k1 hv H2=>?_)
  have fr0:∀mc,frOf T.C [] mc=[(T.C,Asn.ns mc)]:=fun mc=>by simp[frOf]
  have go:∀(Q1:Unit→Shared→Prop) (E1:Value→Shared→Prop),(∀s4,At { T.σ with gens:=s₀.gens } P1 [(T.C,Asn.ns m),(T.I,T.R (i+1))] s4→Q1 () s4) →
    wpAny (model T.prog T.w) (A.over (.compLoop (.GeneratorExp elt [⟨target,iter,ifs,0⟩] scope pos) 0 (.ref T.I) .none cenv) []) (letOwnedTupleGo target (.ref T.I) v) Q1 E1 s1:=by
   intro Q1 E1 hq
   rcases hT with hT|⟨elts,kk,p,rfl⟩
   ·exact wpAny_of_eq (hT _ _) (hq _ H2)
   ·exact(hI _).go H2 (.tail _ (.head _)) hq
  refine seg_bind_wrap (go _ _ fun s2 H3=>?_)
  let Γ:Cx ⟨T.prog,T.w,{ T.σ with gens:=s₀.gens }⟩ P1 nms n':=⟨cenv,T.C,A.over (.compLoop (.GeneratorExp elt [⟨target,iter,ifs,0⟩] scope pos) 0 (.ref T.I) .none cenv) [],X.mono (k0.trans k1),O,hdb,hRm.over _ _ _ _ _ _ _,[],by simp,by simp,List.nodup_nil⟩
  refine E1A2 (turn.run _ i P0 P1 k1 Γ m v rfl (hX _ _ (k0.trans k1) hx) hlt hv) fun K hA hB=>?_
  have H4:Γ.at_ m [(T.I,T.R (i+1))] s2:=by
   show At _ P1 (frOf T.C [] m++[(T.I,T.R (i+1))]) s2
   rw[fr0]; exact H3
  refine seg_bind_wrap (hA.run _ _ _ _ hh' H4 fun m'' s3 hK H5=>?_)
  obtain⟨ht,he⟩:=hB m'' hK
  refine seg_bind_wrap (wpAny_mono (ht.run (fun ok s4=>ok=true∧Γ.at_ m'' [(T.I,T.R (i+1))] s4) s3 H5 fun s4 H6=>⟨rfl,H6⟩) (fun ok s4 zz22=>E0A2 zz22 fun e H6=>?_) fun _ _ (q:False)=>q.elim)
  subst e
  simp only[if_true]
  have hy:∀v,yieldOut cenv v=yieldValue v:=fun v=>by simp only[yieldOut,hco,Bool.false_eq_true,if_false]
  simp only[hy]
  rw[Sem.bind_eq_wrap',Sem.bind_eq_wrap',Sem.wrap_wrap,Sem.wrap_wrap]
  refine seg_wrap (wpAny_mono (he.run (fun v s5=>∃P2,Sub P1 P2∧At { T.σ with gens:=s₀.gens } P2 [(T.C,Asn.ns m''),(T.I,T.R (i+1))] s5∧T.Yl P0 P2 i v) s4 H6 fun P2 v l s5 k2 hR2 H7=>⟨P2,k2,by
   refine E0A2 (hR2) fun ee16 _=>?_
   clear hR2
   subst ee16
   have:At _ P2 (frOf T.C [] m''++[(T.I,T.R (i+1))]) s5:=H7
   rw[fr0] at this; exact this,hR2.2⟩) (fun v s5 zz15=>E1A3 zz15 fun P2 k2 H7 hyl=>?_) fun _ _ (q:False)=>q.elim)
  have e1:T.n - k=i+1:=by exact sb4 (by assumption) (by assumption)
  have e2:T.n - 1 - k=i:=by exact sb3 (by assumption)
  refine seg_at (seg_yield rfl rfl rfl ⟨by show k<T.n; exact sb0 (by assumption),⟨fun b o h1 h2 e=>H7.sub _ _ (k2 _ _ (k1 _ _ (ha b o e ?_))),H7.os.trans H.os.symm,⟨H7.gens.bare,H7.gens.kept⟩⟩,?_,?_,?_⟩)
  ·simp[h1,h2]
  ·skip
   rw[e1]
   obtain⟨o,eo,es,ep,r1,r2,_⟩:=H7.ld.get (.head _)
   refine E1A2 (H7.ld.get (.tail _ (.head _))) fun o' eo' r'=>?_
   exact⟨⟨o,eo,es,ep,r1,r2⟩,o',eo',fun P=>hR _ _ _ _ r'⟩
  ·skip
   rw[e2]
   exact⟨P0,P2,fun b o h1 h2 e=>ha b o e (by simp[h1,h2]),k1.trans k2,H7.sub,H7.ld.off _ (.head _),H7.ld.off _ (.tail _ (.head _)),hyl⟩
  ·skip
   rw[e1]
   intro s'' hrd
   exact seg_again rfl (ih (i+1) s'' (by exact sb1 (by assumption)) hlt hrd)
end
end
end Mine
namespace Mine
noncomputable section
theorem lookup_snoc {β:Type} (l:List (Str×β)) (n:Str) (v:β) (x:Str):(l++[(n,v)]).lookup x=match l.lookup x with|some y=>some y|none=>if x=n then some v else none:=by
 induction l with
 | nil=>
  rw[List.nil_append,List.lookup_cons]
  by_cases h:x=n
  ·subst h; simp
  ·rw[beq_false_of_ne h]; simp[h]
 | cons p r ih=>
  obtain⟨a,b⟩:=p
  rw[List.cons_append,List.lookup_cons,List.lookup_cons]
  rcases x == a with _|_
  rotate_left
  ·rfl
  ·exact ih
theorem bindL_at (k:Str→Option NameKind):∀(binds:List (Str×Value)) (m:Str→Option Value) (x:Str),k x=some .local→bindL k binds m x=match binds.reverse.lookup x with|some y=>some y|none=>m x
 | [],m,x,_=>rfl
 | (n,v)::r,m,x,h=>by
  unfold bindL
  rw[bindL_at k r _ x h,List.reverse_cons,lookup_snoc]
  rcases r.reverse.lookup x with _|y
  rotate_left
  ·rfl
  ·
   dsimp only
   by_cases e:x=n
   ·subst e; rw[if_pos h]; simp
   ·by_cases hn:k n=some .local
    ·rw[if_pos hn]; simp[e]
    ·rw[if_neg hn]; simp[e]
theorem bindL_off (k:Str→Option NameKind):∀(binds:List (Str×Value)) (m:Str→Option Value) (x:Str),k x≠some .local→bindL k binds m x=m x
 | [],m,x,_=>rfl
 | (n,v)::r,m,x,h=>by
  unfold bindL
  rw[bindL_off k r _ x h]
  by_cases hn:k n=some .local
  ·rw[if_pos hn,if_neg (fun e=>h (by rw[e]; exact hn))]
  ·rw[if_neg hn]
theorem bindC_at (k:Str→Option NameKind):∀(binds:List (Str×Value)) (m:Str→Option Value) (x:Str),k x≠some .local→bindC k binds m x=match binds.reverse.lookup x with|some y=>some y|none=>m x
 | [],m,x,_=>rfl
 | (n,v)::r,m,x,h=>by
  unfold bindC
  rw[bindC_at k r _ x h,List.reverse_cons,lookup_snoc]
  rcases r.reverse.lookup x with _|y
  rotate_left
  ·rfl
  ·
   dsimp only
   by_cases e:x=n
   ·subst e; rw[if_neg h]; simp
   ·by_cases hn:k n=some .local
    ·rw[if_pos hn]; simp[e]
    ·rw[if_neg hn]; simp[e]
theorem cells_mem:∀(names:List (Str×NameKind)) (n:Nat) (acc:List (Str×Addr)) (x:Str) (c:Addr),(x,c)∈cellsFrom n names acc→(x,c)∈acc∨(x,NameKind.cell)∈names
 | [],_,_,_,_,h=>.inl h
 | (y,kind)::r,n,acc,x,c,h=>by
  unfold cellsFrom at h
  split at h
  ·rename_i hk
   rcases cells_mem r _ _ x c h with h|h
   ·rcases List.mem_cons.mp h with e|h
    ·(injection e with e; subst e); exact .inr (by rw[beq_iff_eq.mp hk]; exact .head _)
    ·exact .inl h
   ·exact .inr (.tail _ h)
  ·rcases cells_mem r _ _ x c h with h|h
   ·exact .inl h
   ·exact .inr (.tail _ h)
theorem lookup_of_mem {β:Type} {l:List (Str×β)} (hn:(l.map (·.1)).Nodup) {x:Str} {v:β} (h:(x,v)∈l):l.lookup x=some v:=by
 induction l with
 | nil=>contradiction
 | cons p r ih=>
  obtain⟨a,b⟩:=p
  simp only[List.map_cons,List.nodup_cons] at hn
  rw[List.lookup_cons]
  rcases List.mem_cons.mp h with e|h
  ·(obtain⟨rfl,rfl⟩:=Prod.mk.inj e); simp
  ·have:x≠a:=fun e=>hn.1 (by rw[←e]; exact List.mem_map_of_mem (f:=fun p:Str×β=>p.1) h)
   rw[beq_false_of_ne this]
   exact ih hn.2 h
theorem callCxE {prog:Program} {w:World} {σ:Shared} {P:Heap} {s:Shared} {A:Around} {n:Nat}
  {f:Addr} {pos:List Value} {RR:Result→Shared→Prop} {oc:Value} {od:Option Addr} {osl:Array (Option Value)} {fd:FuncData} {body:List Stmt} (nms:List (Str×NameKind)) (BR:Heap→List (Addr×Asn)→List (Str×Value)→Prop)
  (R:Rm A (n+2)) (hsub:Sub P s.heap) (X:Src (KF w) P) (ho:(KF w).lookup f=some ⟨oc,od,.func fd,osl⟩) (hcd:codeIn (KF w) fd.code fd.qualname=true)
  (hbody:fd.body=.stmts body) (hnm:fd.scope.names=nms) (hclo:fd.closure=[]) (hnd:(nms.map (·.1)).Nodup)
  (hbind:∀(Q':List (Str×Value)→Shared→Prop) (E':Value→Shared→Prop),(∀P1 led binds s1,Sub P P1→BR P1 led binds→At σ P1 led s1→Q' binds s1)→wpAny (model prog w) A.in1 (bindArgs fd ⟨pos,[]⟩) Q' E' s)
  (hown:∀L,((cellsFrom (L+1) nms []).map (·.1)).Nodup)
  (hloc:∀P1 led binds,BR P1 led binds→∀L,∀x∈binds,nms.lookup x.1=some .local∨(nms.lookup x.1=some .cell∧((cellsFrom (L+1) nms []).lookup x.1).isSome=true)) (hdb:nms.lookup ("__debug__" : Str)=none)
  (hg:fd.globals=mainGlobals) (hb:fd.builtins=builtinsNs) (hco:fd.scope.isCoroutine=false) (hgen:fd.scope.isGenerator=false) (hk:fd.scope.kind=.function)
  (h:∀P1 led binds,Sub P P1→BR P1 led binds→∀Γ:Cx ⟨prog,w,σ⟩ P1 nms n,Rm Γ.A (n+1)→Γ.env.code=fd.code→Γ.own=cellsFrom (Γ.L+1) nms []→Γ.env.cells=Γ.own→(Γ.env.frame=some Γ.L∧Γ.A=A.deeper Γ.env)→∀s',Γ.at_ (fun x=>binds.reverse.lookup x) led s'→wpAny (model prog w) Γ.A (execs body Γ.env) (fun fl s''=>RR (.ok (.ret (flowVal fl))) s'') (fun e s''=>wpAny (model prog w) Γ.A (leaving Γ.env e) (fun _ s3=>RR (.error e) s3) (fun e' s3=>RR (.error e') s3) s'') s') :
  codeAny (model prog w) A (.call (.ref f) ⟨pos,[]⟩) RR s:=by
 subst hnm
 have XK:=X.K.keeps hsub
 refine codeAny_call_function R.lim (XK _ _ ho) rfl hco hgen hbody (codeRec_of XK hcd) (hbind _ _ fun P led binds s kP hBR H=>?_)
 clear XK hsub
 have X:=X.mono kP
 have h:=h P led binds kP hBR
 have hloc:=hloc P led binds hBR
 rw[hclo]
 refine wpAny_newFunctionEnv_cells hk (fun x hx=>hloc _ x hx) fun env he s₁ x=>?_
 subst he
 refine⟨(X.nolimit.keeps H.sub).keeps x.toInCall.keep,codeAny_func ?_⟩
 change InCallC s (callEnvC fd s.heap.objs.size f).locals (bindL (callEnvC fd s.heap.objs.size f).kindOf binds fun _=>none) (callEnvC fd s.heap.objs.size f).cells (bindC (callEnvC fd s.heap.objs.size f).kindOf binds fun _=>none) s₁ at x
 generalize hL:s.heap.objs.size=L at x ⊢
 have hcells:(callEnvC fd L f).cells=cellsFrom (L+1) fd.scope.names []:=rfl
 have hkind:∀y,(callEnvC fd L f).kindOf y=fd.scope.names.lookup y:=fun _=>rfl
 rw[hcells] at x
 have xl:(callEnvC fd L f).locals=L:=rfl
 rw[xl] at x
 have ownm:∀y c,(cellsFrom (L+1) fd.scope.names []).lookup y=some c→fd.scope.names.lookup y=some .cell:=fun y c e=>by
  rcases cells_mem _ _ _ _ _ (mem_of_lookup e) with h|h
  ·contradiction
  ·exact lookup_of_mem hnd h
 have ownl:∀y,fd.scope.names.lookup y=some .local→(cellsFrom (L+1) fd.scope.names []).lookup y=none:=fun y hy=>by
  rcases e:(cellsFrom (L+1) fd.scope.names []).lookup y with _|c
  ·rfl
  ·have:=ownm y c e; rw[hy] at this; contradiction
 let Γ:Cx ⟨prog,w,σ⟩ P fd.scope.names n:=⟨callEnvC fd L f,L,A.deeper (callEnvC fd L f),X,⟨rfl,hk,rfl,hg,hb⟩,hdb,R.deeper,cellsFrom (L+1) fd.scope.names [],fun y c e=>e,ownl,hown L⟩
 have new:∀b o,s.heap.get? b=some o→b<L:=fun b o e=>hL▸Heap.lt_size e
 refine E2A1 (x.toInCall.same) fun hh tk ee36=>?_
 subst ee36
 have keep:Sub s.heap hh:=fun b o e=>x.toInCall.keep b o e
 have own_mem:∀p∈cellsFrom (L+1) fd.scope.names [],(cellsFrom (L+1) fd.scope.names []).lookup p.1=some p.2:=fun p hp=>lookup_of_mem (hown L) hp
 have H1:Γ.at_ (fun y=>binds.reverse.lookup y) led { s with heap:=hh,toks:=tk }:=by
  have ekeys:(frOf L (cellsFrom (L+1) fd.scope.names []) (fun y=>binds.reverse.lookup y)++led).map (·.1)=(L::(cellsFrom (L+1) fd.scope.names []).map (·.2))++led.map (·.1):=by
   simp[frOf,Function.comp_def]
  have abv:∀c∈(cellsFrom (L+1) fd.scope.names []).map (·.2),L<c:=fun c hc=>by
   refine E1A2 (List.mem_map.mp hc) fun p hp ee34=>?_
   subst ee34
   exact x.above p.1 p.2 hp
  have ledlt:∀a∈led.map (·.1),a<L:=fun a ha=>by
   refine E1A2 (List.mem_map.mp ha) fun p hp ee31=>?_
   subst ee31
   refine E1A2 (H.ld.pt p hp) fun o e _=>?_
   exact new _ _ e
  have offP:∀c,L≤c→P.get? c=none:=fun c hc=>by
   rcases q:P.get? c with _|o
   ·rfl
   ·exact absurd (new _ _ (H.sub _ _ q)) (Nat.not_lt.mpr hc)
  refine⟨⟨H.ld.sub.trans keep,?_,fun p hp=>?_,fun p hp=>?_⟩,H.os,H.gens⟩
  ·show((frOf L (cellsFrom (L+1) fd.scope.names []) (fun y=>binds.reverse.lookup y)++led).map (·.1)).Nodup
   rw[ekeys,List.nodup_append]
   refine⟨List.nodup_cons.mpr ⟨fun hm=>Nat.lt_irrefl _ (abv _ hm),List.pairwise_map.mpr x.apart⟩,H.ld.nodup,fun a ha b hb e=>?_⟩
   subst e
   have h1:=ledlt a hb
   rcases List.mem_cons.mp ha with rfl|ha
   ·exact Nat.lt_irrefl _ h1
   ·have:=abv a ha; lia
  ·rcases List.mem_append.mp hp with hp|hp
   ·rcases List.mem_cons.mp hp with rfl|hp
    ·refine E3A4 (x.toInCall.ns) fun o es ep e r1 r2 r3=>?_
     refine⟨o,e,es,ep,r1,r2,fun y=>(r3 y).trans ?_⟩
     show _=if((cellsFrom (L+1) fd.scope.names []).lookup y).isSome=true then none else binds.reverse.lookup y
     by_cases hy:fd.scope.names.lookup y=some .local
     ·rw[bindL_at _ _ _ _ ((hkind y).trans hy),ownl y hy]
      obtain⟨⟩:=binds.reverse.lookup y <;> rfl
     ·rw[bindL_off _ _ _ _ (fun q=>hy ((hkind y).symm.trans q))]
      rcases hc:(cellsFrom (L+1) fd.scope.names []).lookup y with _|c
      rotate_left
      ·rfl
      ·
       rcases hb:binds.reverse.lookup y with _|v
       ·rfl
       ·
        exfalso
        have hm:(y,v)∈binds:=List.mem_reverse.mp (mem_of_lookup hb)
        rcases hloc L _ hm with q|⟨_,q⟩
        ·exact hy q
        ·rw[hc] at q; contradiction
    ·refine E1A2 (List.mem_map.mp hp) fun q hq ee19=>?_
     subst ee19
     refine E1A2 (x.cell q.1 q.2 (own_mem q hq)) fun o e r=>?_
     refine⟨o,e,?_⟩
     have hcell:=ownm q.1 q.2 (own_mem q hq)
     rw[bindC_at _ _ _ _ (by rw[hkind,hcell]; exact fun c=>by contradiction)] at r
     show o.data=.cell (binds.reverse.lookup q.1)
     rw[r]
     obtain⟨⟩:=binds.reverse.lookup q.1 <;> rfl
   ·refine E1A2 (H.ld.pt p hp) fun o e r=>?_
    exact⟨o,keep _ _ e,r⟩
  ·rcases List.mem_append.mp hp with hp|hp
   ·rcases List.mem_cons.mp hp with rfl|hp
    ·exact offP _ (Nat.le_refl _)
    ·obtain⟨q,hq,rfl⟩:=List.mem_map.mp hp
     exact offP _ (Nat.le_of_lt (x.above q.1 q.2 hq))
   ·exact H.ld.off p hp
 exact wpAny_mono (h Γ R.deeper rfl rfl rfl ⟨rfl,rfl⟩ _ H1) (fun fl s' q=>by obtain⟨⟩:=fl <;> exact q) fun _ _ q=>q
theorem callCxB {prog:Program} {w:World} {σ:Shared} {P:Heap} {s:Shared} {A:Around} {n:Nat}
  {f:Addr} {pos:List Value} {RR:Result→Shared→Prop} {oc:Value} {od:Option Addr} {osl:Array (Option Value)} {fd:FuncData} {body:List Stmt} (nms:List (Str×NameKind)) (BR:Heap→List (Addr×Asn)→List (Str×Value)→Prop)
  (R:Rm A (n+2)) (hsub:Sub P s.heap) (X:Src (KF w) P) (ho:(KF w).lookup f=some ⟨oc,od,.func fd,osl⟩) (hcd:codeIn (KF w) fd.code fd.qualname=true)
  (hbody:fd.body=.stmts body) (hnm:fd.scope.names=nms) (hclo:fd.closure=[]) (hnd:(nms.map (·.1)).Nodup)
  (hbind:∀(Q':List (Str×Value)→Shared→Prop) (E':Value→Shared→Prop),(∀P1 led binds s1,Sub P P1→BR P1 led binds→At σ P1 led s1→Q' binds s1)→wpAny (model prog w) A.in1 (bindArgs fd ⟨pos,[]⟩) Q' E' s)
  (hown:∀L,((cellsFrom (L+1) nms []).map (·.1)).Nodup)
  (hloc:∀P1 led binds,BR P1 led binds→∀L,∀x∈binds,nms.lookup x.1=some .local∨(nms.lookup x.1=some .cell∧((cellsFrom (L+1) nms []).lookup x.1).isSome=true)) (hdb:nms.lookup ("__debug__" : Str)=none)
  (hg:fd.globals=mainGlobals) (hb:fd.builtins=builtinsNs) (hco:fd.scope.isCoroutine=false) (hgen:fd.scope.isGenerator=false) (hk:fd.scope.kind=.function)
  (h:∀P1 led binds,Sub P P1→BR P1 led binds→∀Γ:Cx ⟨prog,w,σ⟩ P1 nms n,Rm Γ.A (n+1)→Γ.env.code=fd.code→Γ.own=cellsFrom (Γ.L+1) nms []→Γ.env.cells=Γ.own→(Γ.env.frame=some Γ.L∧Γ.A=A.deeper Γ.env)→St Γ (fun x=>binds.reverse.lookup x) led body (fun fl s'=>RR (.ok (.ret (flowVal fl))) s')) :
  codeAny (model prog w) A (.call (.ref f) ⟨pos,[]⟩) RR s:=
 callCxE nms BR R hsub X ho hcd hbody hnm hclo hnd hbind hown hloc hdb hg hb hco hgen hk fun P1 led binds k hbr Γ a b c d e s' H=>wpAny_mono ((h P1 led binds k hbr Γ a b c d e).run s' H) (fun _ _ q=>q) fun _ _ q=>q.elim
theorem callCx {prog:Program} {w:World} {σ:Shared} {P:Heap} {led:List (Addr×Asn)} {s:Shared} {A:Around} {n:Nat}
  {f:Addr} {pos:List Value} {RR:Result→Shared→Prop} {oc:Value} {od:Option Addr} {osl:Array (Option Value)} {fd:FuncData} {body:List Stmt} (nms:List (Str×NameKind)) (binds:List (Str×Value))
  (X:Src (KF w) P) (R:Rm A (n+2)) (H:At σ P led s) (ho:(KF w).lookup f=some ⟨oc,od,.func fd,osl⟩) (hcd:codeIn (KF w) fd.code fd.qualname=true)
  (hbody:fd.body=.stmts body) (hnm:fd.scope.names=nms) (hbind:bindArgs fd ⟨pos,[]⟩=pure binds) (hclo:fd.closure=[]) (hnd:(nms.map (·.1)).Nodup)
  (hown:∀L,((cellsFrom (L+1) nms []).map (·.1)).Nodup)
  (hloc:∀L,∀x∈binds,nms.lookup x.1=some .local∨(nms.lookup x.1=some .cell∧((cellsFrom (L+1) nms []).lookup x.1).isSome=true)) (hdb:nms.lookup ("__debug__" : Str)=none)
  (hg:fd.globals=mainGlobals) (hb:fd.builtins=builtinsNs) (hco:fd.scope.isCoroutine=false) (hgen:fd.scope.isGenerator=false) (hk:fd.scope.kind=.function)
  (h:∀Γ:Cx ⟨prog,w,σ⟩ P nms n,Rm Γ.A (n+1)→Γ.env.code=fd.code→Γ.own=cellsFrom (Γ.L+1) nms []→Γ.env.cells=Γ.own→(Γ.env.frame=some Γ.L∧Γ.A=A.deeper Γ.env)→St Γ (fun x=>binds.reverse.lookup x) led body (fun fl s'=>RR (.ok (.ret (flowVal fl))) s')) :
  codeAny (model prog w) A (.call (.ref f) ⟨pos,[]⟩) RR s:=by
 exact callCxB (P:=P) nms (fun P1 l b=>P1=P∧l=led∧b=binds) R H.sub X ho hcd hbody hnm hclo hnd (fun Q' E' hq=>by rw[hbind]; exact wpAny_pure (hq P led binds s (Sub.refl P) ⟨rfl,rfl,rfl⟩ H)) hown
  (fun P1 l b e=>by obtain⟨rfl,rfl,rfl⟩:=e; exact hloc) hdb hg hb hco hgen hk (fun P1 l b k e=>by obtain⟨rfl,rfl,rfl⟩:=e; exact h)
end
end Mine
namespace Mine
noncomputable section
theorem Rm.in1 {A:Around} {n:Nat} (R:Rm A (n+1)):Rm A.in1 n:=⟨R.handled,by have:=R.depth; show A.depth+n≤900; exact Nat.le_of_lt (by assumption),by have:=R.units; show A.units+1+60*n≤9000; exact un2 (by assumption) rfl⟩
theorem Rm.less {A:Around} {n m:Nat} (R:Rm A n) (h:m≤n):Rm A m:=⟨R.handled,by have:=R.depth; exact dp2 (by assumption) (by assumption),by have:=R.units; exact un4 (by assumption) (by assumption)⟩
section
variable {T:Gx} {nms:List (Str×NameKind)} {cenv:Env} {n':Nat} {elt target iter:Expr} {ifs:List Expr} {scope:Scope} {pos:Pos} {A:Around} {Pv:Heap→Nat→Value→Prop}
theorem seg_gxS (hI:∀σ',It T.prog T.w σ' T.I T.n T.R T.need Pv) (hX:∀P P',Sub P P'→T.X P→T.X P')
  (O:EnvOk cenv T.C nms) (hdb:nms.lookup ("__debug__" : Str)=none) (hco:cenv.scope.isCoroutine=false) (hT:(∀it v,letOwnedTupleGo target it v=pure ())∨∃elts k p,target=.Tuple elts k p)
  (hRm:Rm A (n'+2)) (turn:GTurn T nms cenv n' target elt ifs Pv) (s₀:Shared) (hr:T.sp.Rdy 0 s₀) :
   Seg (model T.prog T.w) A T.sp.fin T.sp.proto T.n s₀ (.compStart (.GeneratorExp elt [⟨target,iter,ifs,0⟩] scope pos) 0 (.ref T.I) .none cenv)
    ((model T.prog T.w).den (.compStart (.GeneratorExp elt [⟨target,iter,ifs,0⟩] scope pos) 0 (.ref T.I) .none cenv)) [] s₀:=by
 have loop:=seg_gx (iter:=iter) (scope:=scope) (pos:=pos) hI (fun _ _ _ _=>(hI T.σ).rfree) hX (fun _ _ _=>(hI T.σ).nmono) O hdb hco hT hRm turn T.n 0 s₀ (Nat.sub_zero _) (Nat.zero_le _) hr
 refine E2A2 (hr) fun P m H _=>?_
 clear hr
 show Seg _ A _ _ _ s₀ _ ((compStart (.GeneratorExp elt [⟨target,iter,ifs,0⟩] scope pos) 0 (.ref T.I) .none cenv).onRaise (leaving cenv)) [] s₀
 rw[Sem.onRaise_eq_wrap]
 refine seg_bind_wrap (wpAny_askSetting ?_)
 split
 ·exact seg_again rfl loop
 ·refine seg_bind_wrap (wpAny_rule ?_)
  exact seg_bind_wrap (wpAny_standAt (seg_bind_wrap ((hI _).self (i:=0) H (.tail _ (.head _)) (seg_again rfl loop))))
end
noncomputable def Asn.codeTab:Asn:=⟨fun _ o=>∃ps,o={ cls:=.none,data:=.fields ps }∧TriplesOk ps.toList,fun _ h=>h⟩
theorem genexprCode_ {M:Model} {A:Around} {E:Value→Shared→Prop} {s:Shared} {env:Env} {c P:Addr} {ps:Array Value} {pos:Pos} {qualname:Str} {scope:Scope} {Q:Value→Shared→Prop} (hc:env.code=.ref c) (hok:s.heap.IsCode c P ps) (htab:s.heap.TableAt c P ps) (htr:TriplesOk ps.toList)
  (hQ:∀code h' tk ps',Heap.ExtBut P s.heap h'→TriplesOk ps'.toList→h'.get? P=some { cls:=.none,data:=.fields ps' }→Q code { s with heap:=h',toks:=tk }):wpAny M A (genexprCode env pos qualname scope) Q E s:=by
 rcases hf:codeAmong pos ps.toList with _|c'
 rotate_left
 ·exact wpAny_genexprCode_hit hc hok hf (hQ c' s.heap s.toks ps (Heap.ExtBut.refl _ _) htr htab.2)
 ·exact wpAny_genexprCodeX hc hok htab hf fun c' h' tk hx _ _ _ _ ht _=>hQ _ h' tk _ hx (by
   have hl:(ps ++ #[rawInt pos.line,rawInt pos.col,Value.ref c']).toList=ps.toList++[rawInt pos.line,rawInt pos.col,.ref c']:=by simp
   rw[hl]; exact TriplesOk_snoc _ _ _ _ htr) ht.2
structure CodeK (w:World) (c Pc:Addr):Prop where
 ex:∃o vs file tf flags tg inF text tt,(KF w).lookup c=some o∧o.cls=.type "code"∧o.data=.fields vs∧vs[11]? = some (.ref Pc)∧vs.getD 18 .none=.str file tf∧vs.getD 7 .none=.int flags tg∧vs.getD 9 .none=.bool inF∧vs.getD 10 .none=.int text tt
 ne:c≠Pc
structure EvZ {G:Gl} {P:Heap} {nms:List (Str×NameKind)} {n:Nat} (Γ:Cx G P nms n) (m:Str→Option Value) (led:List (Addr×Asn)) (e:Expr) (R:Heap→Value→List (Addr×Asn)→Shared→Prop):Prop where
 run:∀(Q:Value→Shared→Prop) (s:Shared),Γ.at_ m led s→(∀P' v led' s' (k:Sub P P'),R P' v led' s'→(Γ.up k).at_ m led' s'→Q v s')→Γ.wp (eval e Γ.env) Q s
noncomputable def Lean1 (P:Heap) (own:List (Str×Addr)) (m:Str→Option Value) (P':Heap):Prop:=
 Sub P P'∧∀x c v,own.lookup x=some c→m x=some v→∃o,P'.get? c=some o∧o.data=.cell (some v)
theorem Lean1.mono {P:Heap} {own:List (Str×Addr)} {m:Str→Option Value} {P' P'':Heap} (k:Sub P' P'') (h:Lean1 P own m P'):Lean1 P own m P'':=
 ⟨h.1.trans k,fun x c v h1 h2=>E1A2 (h.2 x c v h1 h2) fun o e r=>⟨o,k _ _ e,r⟩⟩
noncomputable def GenObj (P:Heap) (ga g:Nat):Prop:=∃nm qn,P.get? ga=some { cls:=.type "generator",dict:=none,data:=.fields #[.int g 0,nm,qn],slots:=#[] }
theorem GenObj.isGen {P:Heap} {ga g:Nat} (h:GenObj P ga g):P.IsGen ga g:=E2A1 (h) fun _ _ e=>⟨_,_,_,e,rfl,rfl,rfl⟩
structure GMade (G:Gl) (P:Heap) (own:List (Str×Addr)) (fr:List (Addr×Asn)) (m:Str→Option Value) (n' N:Nat) (Yl:Heap→Heap→Nat→Value→Prop) (Pin:List (Addr×Asn)→Prop) (P':Heap) (v:Value) (l led:List (Addr×Asn)) (s':Shared):Prop where
 ex:∃ga S,v=.ref ga∧GenObj P' ga S.g∧S.σ=G.σ∧S.n=N∧S.Yl=Yl∧l=(S.C,Asn.nsA)::(S.I,S.R 0)::led∧G.σ.gens[S.g]? = none∧(∀A,Rm A (n'+2)→Gsp.At S G.prog G.w A 0 s') ∧
  ∀i P'' led'' s'',Sub P' P''→Pin led''→At G.σ P'' ((S.C,Asn.nsA)::(S.I,S.R i)::(fr++led'')) s''→S.Rdy i s''
section
variable {G:Gl} {P:Heap} {nms:List (Str×NameKind)} {n:Nat} {Γ:Cx G P nms n} {m:Str→Option Value} {led0 led:List (Addr×Asn)} {elt target iter:Expr} {ifs:List Expr} {scope:Scope} {pos:Pos} {N n':Nat} {Pv:Heap→Nat→Value→Prop}
 {RL:(List (Addr×Asn)→Prop)→Heap→List (Addr×Asn)→Prop} {Yl:Heap→Heap→Nat→Value→Prop} {c Pc:Addr}
theorem At.nsA {σ:Shared} {C:Addr} {s:Shared} (H:At σ P ((C,Asn.nsA)::led) s):∃m,At σ P ((C,Asn.ns m)::led) s:=by
 obtain⟨o,e,es,ep,r1,r2⟩:=H.ld.get (.head _)
 exact⟨fun x=>nsFind es x,(H.upd (R':=Asn.ns fun x=>nsFind es x) (tk:=s.toks) .head (Heap.SameBut.refl _ _) ⟨o,e,es,ep,r1,r2,fun _=>rfl⟩:At _ _ _ { s with heap:=s.heap,toks:=s.toks })⟩
theorem Ld.updX {h h':Heap} {led led':List (Addr×Asn)} {d:Addr} {R R':Asn} (H:Ld P led h) (U:Upd d R R' led led') (hs:Heap.ExtBut d h h') (hd:∃o,h'.get? d=some o∧R'.ok P o):Ld P led' h':=by
 have hk:=U.keys
 have off:P.get? d=none:=H.off _ U.mem
 refine⟨fun b o e=>?_,hk▸H.nodup,fun p hp=>?_,fun p hp=>?_⟩
 ·have:b≠d:=fun q=>by rw[q,off] at e; contradiction
  exact hs _ _ this (H.sub _ _ e)
 ·rcases U.cases' H.nodup p hp with rfl|⟨hm,hne⟩
  ·exact hd
  ·refine E1A2 (H.pt p hm) fun o e r=>?_
   exact⟨o,hs _ _ hne e,r⟩
 ·rcases U.cases' H.nodup p hp with rfl|⟨hm,_⟩
  ·exact off
  ·exact H.off _ hm
theorem At.updX {σ:Shared} {s:Shared} {h':Heap} {tk:Nat} {led led':List (Addr×Asn)} {d:Addr} {R R':Asn} (H:At σ P led s) (U:Upd d R R' led led') (hs:Heap.ExtBut d s.heap h') (hd:∃o,h'.get? d=some o∧R'.ok P o):At σ P led' { s with heap:=h',toks:=tk }:=
 ⟨H.ld.updX U hs hd,H.os,H.gens⟩
theorem At.pushGen {σ:Shared} {s:Shared} {led:List (Addr×Asn)} {x:GenState} (H:At σ P led s) (hb:x.bare=true):At σ P led { s with gens:=s.gens.push x }:=
 ⟨H.ld,H.os,H.gens.bare.push hb,fun g y e=>by
  have:=H.gens.kept g y e
  have hlt:=(Array.getElem?_eq_some_iff.mp this).1
  rw[Array.getElem?_push,if_neg (Nat.ne_of_lt hlt)]
  exact this⟩
theorem Upd.same {d:Addr} {R:Asn} {l l':List (Addr×Asn)} (U:Upd d R R l l'):l'=l:=by
 generalize hR:R=R' at U
 rw[←hR] at U
 clear hR
 revert U
 suffices h:∀R1 R2,Upd d R1 R2 l l'→R1=R2→l'=l from fun U=>h _ _ U rfl
 intro R1 R2 U e
 induction U with
 | head=>subst e; rfl
 | tail _ ih=>rw[ih]
theorem EvZ.genexp (W:Walk Γ m led0 iter N Pv RL) (hcode:Γ.env.code=.ref c) (CK:CodeK G.w c Pc) (hPc:∀Pin P' led,RL Pin P' led→∃led',Upd Pc Asn.codeTab Asn.codeTab led led')
  (hco:scope.isCoroutine=false) (hk:scope.kind=.function) (hcell:∀y∈scope.names,y.2≠.cell) (h0:scope.names.lookup (".0" : Str)=some NameKind.local)
  (hfree:∀x∈scope.names,x.2=.free→(Γ.env.cells.lookup x.1).isSome) (hdb:scope.names.lookup ("__debug__" : Str)=none) (hT:(∀it v,letOwnedTupleGo target it v=pure ())∨∃elts k p,target=.Tuple elts k p)
  (hs:∀env x,genFold iter env x=pure x)
  (turn:∀(P1:Heap) (_:Sub P P1) (C I g:Addr) (R:Nat→Asn) (need:Heap→Heap→Prop) (cenv:Env),(∀x∈freesOf scope.names,cenv.cells.lookup x=Γ.env.cells.lookup x) →
   GTurn ⟨G.prog,G.w,G.σ,C,I,g,R,N,need,Lean1 P1 Γ.own m,Yl⟩ scope.names cenv n' target elt ifs Pv) :
  EvZ Γ m led0 (.GeneratorExp elt [⟨target,iter,ifs,0⟩] scope pos) fun P' v l s'=>∃P1 Pin led,RL Pin P1 led∧Sub P1 P'∧GMade G P Γ.own (Γ.fr m) m n' N Yl Pin P' v l led s':=by
 refine E1A2 (closure_ Γ hfree) fun cl hcl hcl2=>?_
 refine⟨fun Q s H hQ=>?_⟩
 refine wpAny_GeneratorExp_make hco hcl hcell h0 hk Γ.rm.lim (W.run (fun it s₂=>s₂.heap.NoLimit∧_) s H fun I R need Pin P1 led s1 k1 hI hneed hmono hRL H1=>⟨(Γ.src.mono k1).nolimit.keeps H1.sub,?_⟩) (hs _)
 refine E1A1 (hPc _ _ _ hRL) fun led' UP=>?_
 have eUP:=UP.same
 subst eUP
 obtain⟨o,vs,file,tf,flags,tg,inF,text,tt,hc,hcl0,hd,h11,h18,h7,h9,h10⟩:=CK.ex
 obtain⟨ot,et,ps,rfl,htr⟩:=H1.ld.get ((Γ.up k1).tl (.tail _ UP.mem))
 have X1:=Γ.src.mono k1
 have h11':vs.getD 11 .none=.ref Pc:=by rw[Array.getD_eq_getD_getElem?,h11]; rfl
 refine genexprCode_ hcode ⟨o,vs,file,tf,flags,tg,inF,text,tt,_,X1.K.keeps H1.sub _ _ hc,hd,h11',h18,h7,h9,h10,et,rfl,htr,CK.ne⟩ ⟨⟨o,vs,X1.K.keeps H1.sub _ _ hc,hcl0,hd,h11⟩,et⟩ htr fun code h' tk ps' hx htr' hop=>?_
 have H2:At G.σ P1 (Γ.fr m++(I,R 0)::led') { s1 with heap:=h',toks:=tk }:=H1.updX (tk:=tk) ((Γ.up k1).tu (.tail UP)) hx ⟨_,hop,ps',rfl,htr'⟩
 refine E3A7 (X1.bm) fun mg bm ob hg hb0 hbne hob hb1 hb2 hb3=>?_
 refine wpAny_builtinsFor (globals:=Γ.env.globals) (m:=mg) (bm:=bm) (by rw[Γ.eok.globals]; exact hg.keeps H2.sub) hb0 hbne (H2.sub _ _ hob) hb1 hb2 hb3 ?_
 generalize { s1 with heap:=h',toks:=tk }=s4 at H2 ⊢
 intro h5 hns hsb
 have H3:=H2.push (R:=Asn.nsA) (o:={ cls:=.type "frame",data:=.dict #[] }) ⟨#[],0,rfl,fun e he=>by simp at he⟩ rfl
 generalize hC:s4.heap.objs.size=C at H3 hns hsb ⊢
 refine E3A4 (hns) fun oC esC epC eC r1 r2 _=>?_
 clear hns
 have H4:=H3.upd (R':=Asn.nsA) (tk:=s4.toks) .head hsb ⟨oC,eC,esC,epC,r1,r2⟩
 have hgn:G.σ.gens[s4.gens.size]? = none:=by
  rcases q:G.σ.gens[s4.gens.size]? with _|x
  ·rfl
  ·have:=H2.gens.kept _ _ q; rw[Array.getElem?_eq_none (Nat.le_refl _)] at this; contradiction
 have hsz:h5.objs.size=(s4.heap.push { cls:=.type "frame",data:=.dict #[] }).objs.size:=hsb.1
 generalize hgc:(GenState.fresh (.compStart (.GeneratorExp elt [⟨target,iter,ifs,0⟩] scope pos) 0 (.ref I) .none (genEnv scope cl C code builtinsNs Γ.env)))=gc
 have H5:=(H4.pushGen (x:=gc) (by rw[←hgc]; rfl)).push (R:=Asn.eq { cls:=.type "generator",data:=.fields #[.int s4.gens.size 0,.str "<genexpr>" (s4.toks+1),.str (Γ.env.qual ++ "<genexpr>") (s4.toks+1+1)] }) (o:={ cls:=.type "generator",data:=.fields #[.int s4.gens.size 0,.str "<genexpr>" (s4.toks+1),.str (Γ.env.qual ++ "<genexpr>") (s4.toks+1+1)] }) rfl rfl
 refine E2A4 (H5.persist) fun P2 og k2 gg rg H6=>?_
 have rg':og=_:=rg
 subst rg'
 have H7:At G.σ P2 (Γ.fr m++((C,Asn.nsA)::(I,R 0)::led')) { s4 with gens:=s4.gens.push gc,toks:=s4.toks+1+1+1,heap:=h5.push { cls:=.type "generator",data:=.fields #[.int s4.gens.size 0,.str "<genexpr>" (s4.toks+1),.str (Γ.env.qual ++ "<genexpr>") (s4.toks+1+1)] } }:=
  (H6.tok (tk:=s4.toks+1+1+1)).perm List.perm_middle
 refine hQ P2 _ _ _ (k1.trans k2) ⟨P1,Pin,led',hRL,k2,⟨h5.objs.size,(Gx.sp ⟨G.prog,G.w,G.σ,C,I,s4.gens.size,R,N,need,Lean1 P1 Γ.own m,Yl⟩),rfl,⟨_,_,gg⟩,rfl,rfl,rfl,rfl,hgn,fun A hA=>?_,fun i P'' led'' s'' kk hpin HH=>?_⟩⟩ H7
 ·refine⟨gc,Array.getElem?_push_size ..,by rw[←hgc]; rfl,fun s'' hr=>?_⟩
  rw[←hgc]
  exact⟨rfl,seg_gxS (T:=⟨G.prog,G.w,G.σ,C,I,s4.gens.size,R,N,need,Lean1 P1 Γ.own m,Yl⟩) hI (fun _ _ k h=>h.mono k) (cenv:=genEnv scope cl C code builtinsNs Γ.env) ⟨rfl,hk,rfl,Γ.eok.globals,rfl⟩ hdb hco hT hA (turn P1 k1 C I s4.gens.size R need _ hcl2) s'' hr⟩
 ·have nd:=HH.ld.nodup
  simp only[List.map_cons,List.nodup_cons,List.mem_cons] at nd
  have hneed':=hneed P'' _ s'' (k2.trans kk) (hmono _ _ (fun x hx=>.tail _ (.tail _ (List.mem_append_right _ hx))) hpin) HH
  obtain⟨m',H8⟩:=HH.nsA
  have H9:At G.σ P'' [(C,Asn.ns m'),(I,R i)] s'':=H8.subl (List.Sublist.cons_cons _ (List.Sublist.cons_cons _ (List.nil_sublist _)))
  refine E1A4 (H9.ld.wide) fun Pw kw _ Lw ha=>?_
  refine⟨Pw,m',⟨Lw,H9.os,H9.gens⟩,X1.mono (k2.trans (kk.trans kw)),(hI G.σ).nmono kw hneed',k2.trans (kk.trans kw),fun x cc v h1 h2=>?_⟩
  have hm:(cc,Asn.cell (m x))∈Γ.fr m++led'':=List.mem_append_left _ (.tail _ (List.mem_map_of_mem (f:=fun p:Str×Addr=>(p.2,Asn.cell (m p.1))) (mem_of_lookup h1)))
  refine E1A2 (HH.ld.get (.tail _ (.tail _ hm))) fun oc ec rc=>?_
  have rc':oc.data=.cell (m x):=rc
  refine⟨oc,ha _ _ ec ?_,by rw[rc',h2]⟩
  have hmm:=List.mem_map_of_mem (f:=fun p:Addr×Asn=>p.1) hm
  simp only[List.map_cons,List.map_nil,List.mem_cons,List.not_mem_nil,or_false]
  rintro(q|q)
  ·exact nd.1 (.inr (q▸hmm))
  ·exact nd.2.1 (q▸hmm)
end
end
end Mine
namespace Mine
noncomputable section
structure Feed (prog:Program) (w:World) (σ:Shared) (A:Around) (r:Addr) (N:Nat) (base:List (Addr×Asn)) (Pv:Heap→Nat→Value→Prop) (St:Nat→Heap→List (Addr×Asn)→Shared→Prop):Prop where
 next:∀ {E:Value→Shared→Prop} {P:Heap} {front:List (Addr×Asn)} {s:Shared} {Q:Option Value→Shared→Prop} {i:Nat},i<N→St i P front s →
  (∀P' v s',Sub P P'→Pv P' i v→St (i+1) P' front s'→Q (some v) s')→wpAny (model prog w) A (pyNext (.ref r)) Q E s
 done:∀ {E:Value→Shared→Prop} {P:Heap} {front:List (Addr×Asn)} {s:Shared} {Q:Option Value→Shared→Prop},St N P front s→(∀s',At σ P (front++base) s'→Q none s')→wpAny (model prog w) A (pyNext (.ref r)) Q E s
 op:∀ {P:Heap} {front:List (Addr×Asn)} {s:Shared} {i:Nat},St i P front s→∃σ' pre,At σ' P (pre++(front++base)) s∧∀P' front' s',Sub P P'→At σ' P' (pre++(front'++base)) s'→St i P' front' s'
 off:∀ {P:Heap} {front:List (Addr×Asn)} {s:Shared} {i:Nat},St i P front s→At σ P (front++base) s
section
variable {prog:Program} {w:World} {σ:Shared} {A:Around} {I:Addr} {N:Nat} {base:List (Addr×Asn)} {Pv:Heap→Nat→Value→Prop} {R:Nat→Asn} {need:Heap→Heap→Prop} {P0:Heap}
theorem Feed.it (hh:A.handled=none) (hI:It prog w σ I N R need Pv) (hn:∀P led s,Sub P0 P→(∀x∈base,x∈led)→At σ P led s→need P s.heap) :
  Feed prog w σ A I N base Pv (fun i P front s=>Sub P0 P∧At σ P ((I,R i)::(front++base)) s) where
 next:=fun {E P front s Q i} hi zz89 h=>E0A2 zz89 fun k H=>hI.item hi H .head (hn P _ s k (fun x hx=>.tail _ (List.mem_append_right _ hx)) H) fun P' v s' k' hv H'=>h P' v s' k' hv ⟨k.trans k',H'⟩
 done:=fun {E P front s Q} zz87 h=>E0A2 zz87 fun k H=>hI.done hh H (hn P _ s k (fun x hx=>.tail _ (List.mem_append_right _ hx)) H) h
 op:=fun {P front s i} zz84=>E0A2 zz84 fun k H=>⟨σ,[(I,R i)],H,fun P' front' s' k' H'=>⟨k.trans k',H'⟩⟩
 off:=fun {P front s i} zz80=>E0A2 zz80 fun k H=>H.drop
variable {S:Gsp} {ga:Addr}
theorem Feed.gen (hh:A.handled=none) (hroom:A.depth<recursionLimit) (hl:P0.NoLimit) (hg:P0.IsGen ga S.g) (hσ:S.σ.gens[S.g]? = none) (hN:S.n=N)
  (hr:∀i P s,Sub P0 P→Mine.At S.σ P ((S.C,Asn.nsA)::(S.I,S.R i)::base) s→S.Rdy i s)
  (hy:∀i v P led s s',Mine.At S.σ P ((S.C,Asn.nsA)::(S.I,S.R i)::led) s→Mine.At S.σ P ((S.C,Asn.nsA)::(S.I,S.R (i+1))::led) s'→S.Yields i v s s'→∃P',Sub P P'∧Pv P' i v∧Mine.At S.σ P' ((S.C,Asn.nsA)::(S.I,S.R (i+1))::led) s') :
  Feed prog w S.σ A ga N base Pv (fun i P front s=>Sub P0 P∧Mine.At S.σ P ((S.C,Asn.nsA)::(S.I,S.R i)::(front++base)) s∧S.At prog w A.in1 i s) where
 next:=fun {E P front s Q i} hi zz75 h=>E0A3 zz75 fun k H hS=>gen_next hh hroom (hl.keeps k) (hg.keeps k) hσ H hS (hN▸hi) (fun s'' H'=>hr i P s'' k (H'.subl (List.Sublist.cons_cons _ (List.Sublist.cons_cons _ (List.sublist_append_right _ _)))))
  fun v s' H' hY hS'=>E1A3 (hy i v P _ s s' H H' hY) fun P' k' hv H2=>h P' v s' k' hv ⟨k.trans k',H2,hS'⟩
 done:=fun {E P front s Q} zz63 h=>E0A3 zz63 fun k H hS=>by
  subst hN
  exact gen_end hh hroom (hl.keeps k) (hg.keeps k) hσ H hS (fun s'' H'=>hr _ P s'' k (H'.subl (List.Sublist.cons_cons _ (List.Sublist.cons_cons _ (List.sublist_append_right _ _))))) h
 op:=fun {P front s i} ⟨k,H,gs,hgs,hb,hgo⟩=>⟨{ S.σ with gens:=s.gens },[(S.C,Asn.nsA),(S.I,S.R i)],H.base,fun P' front' s' k' H'=>
  ⟨k.trans k',H'.rebase fun g x e=>H.gens.kept g x e,gs,H'.gens.kept _ _ hgs,hb,hgo⟩⟩
 off:=fun {P front s i} zz50=>E0A3 zz50 fun k H hS=>H.drop.drop
end
noncomputable abbrev PvP {α:Type} (R:Rep α) (xs:List α):Heap→Nat→Value→Prop:=fun P i v=>∃x,xs[i]? = some x∧R.is P x v
theorem GMade.feed {G:Gl} {P:Heap} {own:List (Str×Addr)} {fr:List (Addr×Asn)} {m:Str→Option Value} {n' N:Nat} {Yl:Heap→Heap→Nat→Value→Prop} {Pin:List (Addr×Asn)→Prop} {P':Heap} {v:Value} {l led:List (Addr×Asn)} {s':Shared}
  {A:Around} {Pv:Heap→Nat→Value→Prop} (M:GMade G P own fr m n' N Yl Pin P' v l led s') (hpin:Pin led) (hA:Rm A (n'+3)) (hl:P'.NoLimit)
  (hY:∀P0 P1 i v,Yl P0 P1 i v→(∀P,Pv P i v)∨∃a o,v=.ref a∧P0.get? a=none∧P1.get? a=some o∧∀P,P.get? a=some o→Pv P i v)
  (H:At G.σ P' (fr++l) s'):∃ga St,v=.ref ga∧(∃g,GenObj P' ga g)∧Feed G.prog G.w G.σ A ga N (fr++led) Pv St∧St 0 P' [] s':=by
 obtain⟨ga,S,e1,hgen,eσ,eN,eY,el,hgn,hAt,hr⟩:=M.ex
 subst e1 el
 have hgo:=hgen
 have hgen:=hgo.isGen
 refine⟨ga,_,rfl,⟨_,hgo⟩,eσ▸Feed.gen (S:=S) (P0:=P') (base:=fr++led) (A:=A) hA.handled hA.lim hl hgen (eσ▸hgn) eN (fun i P s k H'=>hr i P led s k hpin (eσ▸H')) fun i v P led s s' H H' hYd=>?_,Sub.refl _,?_,hAt A.in1 hA.in1⟩
 ·refine E2A6 (hYd) fun P0 P1 h0 h01 h1 hC hI hy=>?_
  clear hYd
  rw[eY] at hy
  rcases hY P0 P1 i v hy with hp|⟨a,o,rfl,ha0,ha1,hp⟩
  ·exact⟨P,Sub.refl P,hp P,H'⟩
  ·refine E1A4 (H'.ld.wide) fun Pw kw _ Lw hw=>?_
   refine⟨Pw,kw,hp Pw (hw _ _ (h1 _ _ ha1) fun hm=>?_),Lw,H'.os,H'.gens⟩
   have hneC:a≠S.C:=fun q=>by rw[q,hC] at ha1; contradiction
   have hneI:a≠S.I:=fun q=>by rw[q,hI] at ha1; contradiction
   simp only[List.map_cons,List.mem_cons] at hm
   rcases hm with q|q|q
   ·exact hneC q
   ·exact hneI q
   ·refine E1A2 (List.mem_map.mp q) fun p hp' ee10=>?_
    subst ee10
    refine E1A2 (H.ld.pt p (.tail _ (.tail _ hp'))) fun o' e' _=>?_
    have:=h0 _ _ hneC hneI e'
    rw[ha0] at this; contradiction
 ·show At G.σ P' ((S.C,Asn.nsA)::(S.I,S.R 0)::(fr++led)) s'
  exact H.perm ((List.perm_middle.trans (List.Perm.cons _ List.perm_middle)).symm)
section
variable {prog:Program} {w:World} {σ:Shared} {A:Around} {r:Addr} {N:Nat} {base:List (Addr×Asn)} {St:Nat→Heap→List (Addr×Asn)→Shared→Prop} {E:Value→Shared→Prop} {s:Shared} {P:Heap}
theorem all_loop {b:Nat→Bool} {RR:Result→Shared→Prop} (Fd:Feed prog w σ A.in1 r N base (fun _ i v=>v=.bool (b i)) St) (hR:∀P' s' c,Sub P P'→((List.range N).all b=c)→At σ P' base s'→RR (.ok (.ret (.bool c))) s') :
  ∀(k i:Nat) (P1:Heap) (s:Shared),N - i=k→i≤N→Sub P P1→(∀j<i,b j=true)→St i P1 [] s→codeAny (model prog w) A (.builtin "all.loop" ⟨[.ref r],[]⟩) RR s
 | 0,i,P1,s,hk,hi,k1,hb,hs=>by
  have hin:i=N:=by exact sb7 (by assumption) (by assumption)
  subst hin
  refine codeAny_builtin F.entry_all_loop ?_
  rw[Around.under_plainId F.plain_all_loop _]
  refine wpAny_bind (Feed.done Fd hs fun s' H'=>wpAny_bind (wpAny_rule (wpAny_pure (hR P1 s' true k1 ?_ H'))))
  exact List.all_eq_true.mpr fun j hj=>hb j (List.mem_range.mp hj)
 | k+1,i,P1,s,hk,hi,k1,hb,hs=>by
  have hlt:i<N:=by exact sb0 (by assumption)
  refine codeAny_builtin F.entry_all_loop ?_
  rw[Around.under_plainId F.plain_all_loop _]
  refine wpAny_bind (Feed.next Fd hlt hs fun P2 v s2 k2 hv hs2=>?_)
  subst hv
  refine wpAny_bind (wpAny_holding (wpAny_truthy_bool ?_))
  refine wpAny_bind (wpAny_letGo ?_)
  rcases hbi:b i with _|_
  rotate_left
  ·
   exact wpAny_pure ⟨plainId_quiet F.plain_all_loop _,all_loop Fd hR k (i+1) P2 s2 (by exact sb1 (by assumption)) hlt (k1.trans k2) (fun j hj=>by
    rcases Nat.lt_or_eq_of_le (Nat.le_of_lt_succ hj) with q|q
    ·exact hb j q
    ·rw[q]; exact hbi) hs2⟩
  ·
   refine wpAny_bind (wpAny_rule (wpAny_pure (hR P2 s2 false (k1.trans k2) ?_ (Feed.off Fd hs2))))
   rcases hq:(List.range N).all b with _|_
   ·rfl
   ·have:=List.all_eq_true.mp hq i (List.mem_range.mpr hlt); rw[hbi] at this; contradiction
theorem r_all {b:Nat→Bool} {g:Nat} {Q:Value→Shared→Prop} (Fd:Feed prog w σ A.in1 r N base (fun _ i v=>v=.bool (b i)) St) (hg:P.IsGen r g) (hs:St 0 P [] s)
  (h:∀P' s',Sub P P'→At σ P' base s'→Q (.bool ((List.range N).all b)) s'):wpAny (model prog w) A (call (.builtin "all") [.ref r]) Q E s:=by
 refine call_function_tree F.kind_all F.plain_all F.entry_all (F.args_all1 _) ?_
 refine wpAny_bind (m:=oneArg "all" _) (wpAny_pure ?_)
 refine wpAny_bind (wpAny_pyIter_gen (hg.keeps (Feed.off Fd hs).sub) ?_)
 refine wpAny_pure ⟨plainId_quiet F.plain_all_loop _,all_loop Fd (fun P' s' c k e H'=>?_) N 0 P s rfl (Nat.zero_le _) (Sub.refl _) (fun j hj=>absurd hj (Nat.not_lt_zero _)) hs⟩
 subst e
 exact h P' s' k H'
end
end
end Mine
namespace Mine
noncomputable section
theorem miss_keys_list:typeLookup (.type "list") "keys" = pure none:=am_miss_of_fast (by kernel_rfl)
theorem miss_keys_gen:typeLookup (.type "generator") "keys" = pure none:=am_miss_of_fast (by kernel_rfl)
theorem gen_getattr_none:typeLookup (.type "generator") "__getattr__" = pure none:=by rw[typeLookup_type,builtinLookup_eq_fast]; kernel_rfl
theorem slot_gen_getattribute:Slot "generator" "__getattribute__" "object.__getattribute__":=
 .of (owner:="object") (n:="__getattribute__") (by rw[typeLookup_type,builtinLookup_eq_fast]; kernel_rfl) (by decide +kernel) (by decide +kernel) (by decide +kernel)
  (by first|exact .inl (by decide +kernel)|exact .inr (by decide +kernel)) (by rw[isSubtype_type]; kernel_rfl)
set_option maxHeartbeats 1000000 in
theorem keysMiss_list {prog:Program} {w:World} {A:Around} {E:Value→Shared→Prop} {s:Shared} {a:Addr} {xs:Array Value} {k:Nat} {Q:Option Value→Shared→Prop}
  (hx:s.heap.get? a=some (listOf xs k)) (hA:A.handled=none) (h:∀h' tk,Sub s.heap h'→Q none { s with heap:=h',toks:=tk }) :
  wpAny (model prog w) A (getAttr? (.ref a) "keys") Q E s:=by
 obtain⟨hp,g,d,tk,os⟩:=s
 have hT:∀tk',(⟨hp,g,d,tk',os⟩:Shared).TypeIs (.ref a) "list":=fun _=>⟨_,hx,rfl⟩
 have f1:=sub_AttributeError
 have f3:=F.slot_list_getattribute.lookup
 have f4:=F.slot_list_getattribute.bind (.ref a)
 have f5:=am_list_getattr_none
 repeat (any_goals (first|assumption|exact hT _|((with_reducible show wpAny _ _ (call (Value.builtin "list.__getattribute__") _ _) _ _ _); refine call_meets F.slot_list_getattribute (hT _) am_entry_list_getattribute (F.args_list_getattribute_2 _ _) (meets_getattribute_miss_list a xs k #[] "keys" _ miss_keys_list (by decide)) ⟨hx,hA,fun h' tk' e hx'=>?_⟩)|wp_step))
 refine E2A1 (hx'.there) fun t' u' he=>?_
 unfold getattributeRaised
 repeat (any_goals (first|assumption|wp_step))
 exact h _ _ hx'.keeps
set_option maxHeartbeats 1000000 in
theorem meets_miss_gen (a:Addr) (g:Nat) (nm qn:Value) (name:Str) (u:Tok) (hmiss:typeLookup (.type "generator") name=pure none) (hname:(["__module__","__name__","__qualname__","__doc__","__annotations__"]:List Str).contains name=false) (hsz:name.length+100≤sizeLine:=by size_fits) :
  Meets (Builtin.«object.__getattribute__» ⟨[.ref a,.str name u],[]⟩) (fun A R s=>s.heap.get? a=some { cls:=.type "generator",dict:=none,data:=.fields #[.int g 0,nm,qn],slots:=#[] }∧raisesAttr (.ref a) name A R s):=
 Meets.of_wp fun prog w A R s hs=>by
  obtain⟨hp,g,d,tk,os⟩:=s
  refine E0A2 (hs) fun hx hs=>?_
  have hT:(⟨hp,g,d,tk,os⟩:Shared).TypeIs (.ref a) "generator":=⟨_,hx,rfl⟩
  unfold Builtin.«object.__getattribute__»
  repeat (any_goals (first|assumption|wp_step))
  simp only[hname,Bool.false_eq_true,if_false]
  repeat (any_goals (first|assumption|wp_step))
  exact wpAny_raiseAttrError hs.1 hs.2 (attrMsg_fits (by decide +kernel) hsz)
set_option maxHeartbeats 1000000 in
theorem keysMiss_gen {prog:Program} {w:World} {A:Around} {E:Value→Shared→Prop} {s:Shared} {a:Addr} {gn:Nat} {nm qn:Value} {Q:Option Value→Shared→Prop}
  (hx:s.heap.get? a=some { cls:=.type "generator",dict:=none,data:=.fields #[.int gn 0,nm,qn],slots:=#[] }) (hA:A.handled=none) (h:∀h' tk,Sub s.heap h'→Q none { s with heap:=h',toks:=tk }) :
  wpAny (model prog w) A (getAttr? (.ref a) "keys") Q E s:=by
 obtain⟨hp,g,d,tk,os⟩:=s
 have hT:∀tk',(⟨hp,g,d,tk',os⟩:Shared).TypeIs (.ref a) "generator":=fun _=>⟨_,hx,rfl⟩
 have f1:=sub_AttributeError
 have f3:=slot_gen_getattribute.lookup
 have f4:=slot_gen_getattribute.bind (.ref a)
 have f5:=gen_getattr_none
 repeat (any_goals (first|assumption|exact hT _|((with_reducible show wpAny _ _ (call (Value.builtin "object.__getattribute__") _ _) _ _ _); refine call_meets slot_gen_getattribute (hT _) F.entry_object_getattribute (F.args_object_getattribute_2 _ _) (meets_miss_gen a gn nm qn "keys" _ miss_keys_gen (by decide)) ⟨hx,hA,fun h' tk' e hx'=>?_⟩)|wp_step))
 refine E2A1 (hx'.there) fun t' u' he=>?_
 unfold getattributeRaised
 repeat (any_goals (first|assumption|wp_step))
 exact h _ _ hx'.keeps
end
end Mine
namespace Mine
noncomputable section
theorem plain_dict_update_loop:plainId "dict.update.loop" = true:=by decide +kernel
theorem entry_dict_update_loop:entryFor table "dict.update.loop" = some Builtin.«dict.update.loop»:=entryFor_of_fast (by kernel_rfl)
theorem typeCall_dict_0:checkTypeCall "dict" ⟨[],[]⟩=pure ():=by kernel_rfl
theorem newCall_dict_0:checkBuiltinCall "dict.__new__" ⟨[.type "dict"],[]⟩=pure ():=by kernel_rfl
noncomputable def putAll {κ β:Type} [DecidableEq κ] (ps:List (κ×β)) (xs:List (κ×β)):List (κ×β):=xs.foldl (fun a x=>put a x.1 x.2) ps
theorem putAll_snoc {κ β:Type} [DecidableEq κ] (ps xs:List (κ×β)) (x:κ×β):putAll ps (xs++[x])=put (putAll ps xs) x.1 x.2:=by
 unfold putAll; rw[List.foldl_append]; rfl
theorem putAll_len {κ β:Type} [DecidableEq κ] (ps:List (κ×β)):∀xs:List (κ×β),(putAll ps xs).length≤ps.length+xs.length
 | []=>Nat.le_refl _
 | x::xs=>by
  have h:=putAll_len (put ps x.1 x.2) xs
  have h2:(put ps x.1 x.2).length≤ps.length+1:=by rw[put_length]; split <;> lia
  show(putAll (put ps x.1 x.2) xs).length≤_
  simp only[List.length_cons]; lia
section
variable {prog:Program} {w:World} {σ:Shared} {A:Around} {r d:Addr} {base:List (Addr×Asn)} {St:Nat→Heap→List (Addr×Asn)→Shared→Prop} {E:Value→Shared→Prop} {s:Shared} {P:Heap}
 {κ β:Type} {di:DecidableEq κ} {D:DKind prog w κ} {V:Rep β} {xs:List (κ×β)} {led:List (Addr×Asn)}
theorem update_loop {RR:Result→Shared→Prop} (Fd:Feed prog w σ A.in1 r xs.length base (PvP (Rep.pair D.rep V) xs) St) (hz:xs.length≤500) (hu:A.units+2<cLine)
  (hR:∀P' s',Sub P P'→At σ P' ((d,Asn.dict D V (putAll [] xs))::base) s'→RR (.ok (.ret .none)) s') :
  ∀(k i:Nat) (P1:Heap) (s:Shared),xs.length - i=k→i≤xs.length→Sub P P1→St i P1 [(d,Asn.dict D V (putAll [] (xs.take i)))] s →
   codeAny (model prog w) A (.builtin "dict.update.loop" ⟨[.ref d,.ref r,.int i 0,.none],[]⟩) RR s
 | 0,i,P1,s,hk,hi,k1,hs=>by
  have hin:i=xs.length:=by exact sb7 (by assumption) (by assumption)
  subst hin
  rw[List.take_length] at hs
  refine codeAny_builtin entry_dict_update_loop ?_
  rw[Around.under_plainId plain_dict_update_loop _]
  refine wpAny_bind (Feed.done Fd hs fun s' H'=>?_)
  exact wpAny_bind (wpAny_pure (wpAny_pure (hR P1 s' k1 H')))
 | k+1,i,P1,s,hk,hi,k1,hs=>by
  have hlt:i<xs.length:=by exact sb0 (by assumption)
  refine codeAny_builtin entry_dict_update_loop ?_
  rw[Around.under_plainId plain_dict_update_loop _]
  refine wpAny_bind (Feed.next Fd hlt hs fun P2 v s2 k2 zz37 hs2=>E1A2 zz37 fun x hx hv=>?_)
  refine E4A4 (hv) fun a u u' n ee35 g hu1 hu2=>?_
  clear hv
  subst ee35
  refine E2A2 (Feed.op Fd hs2) fun σ' pre H close=>?_
  have hg:=H.sub _ _ g
  refine wpAny_bind (wpAny_holding ?_)
  refine wpAny_bind (wpAny_tryCatch ?_)
  refine wpAny_bind (wpAny_typeOf (T:="tuple") ⟨_,hg,rfl⟩ ?_)
  refine wpAny_bind (wpAny_seqItems hg rfl (wpAny_pure ?_))
  have hlen:(putAll [] (xs.take i)).length≤1000:=by have:=putAll_len ([]:List (κ×β)) (xs.take i); simp only[List.length_nil,List.length_take] at this; lia
  refine wpAny_holding (dictSet_ (A:=A.in1) (led':=pre++([(d,Asn.dict D V (put (putAll [] (xs.take i)) x.1 x.2))]++base)) H (Upd.pre .head _) (by show A.units+1<cLine; exact Nat.le_of_lt (by assumption)) hu1 hu2 hlen fun s3 H3=>?_)
  refine wpAny_pure ⟨plainId_quiet plain_dict_update_loop _,?_⟩
  refine update_loop Fd hz hu hR k (i+1) P2 s3 (by exact sb1 (by assumption)) hlt (k1.trans k2) ?_
  simp only[List.take_add_one,hx,Option.toList_some,putAll_snoc]
  exact close P2 _ s3 (Sub.refl _) H3
theorem code_dict_new0 {Q₁:Value→Shared→Prop} (h:Q₁ (.ref s.heap.objs.size) { s with heap:=s.heap.push { cls:=.type "dict",data:=.dict #[] } }) :
  codeAny (model prog w) A (.call (.builtin "dict.__new__") ⟨[.type "dict"],[]⟩) (wants Q₁ E) s:=by
 refine codeAny_call_builtin F.kt_plain_dict_new F.kt_entry_dict_new (wpAny_of_eq newCall_dict_0 ?_)
 have hsub:=F.kt_sub_dict
 have hmro:=F.kt_mro_dict
 obtain⟨hp,g,d,tk,os⟩:=s
 unfold Builtin.«dict.__new__»
 wp_walk
 exact h
theorem r_dict0 (D:DKind prog w κ) (V:Rep β) {Q:Value→Shared→Prop} (H:At σ P led s) (h:∀d s',At σ P ((d,Asn.dict D V [])::led) s'→Q (.ref d) s'):wpAny (model prog w) A (call (.type "dict") []) Q E s:=by
 refine callType_codes (Q₁:=fun obj s₁=>obj=.ref s.heap.objs.size∧s₁={ s with heap:=s.heap.push { cls:=.type "dict",data:=.dict #[] } }) F.kt_called_dict typeCall_dict_0 F.entry_dict_init (code_dict_new0 ⟨rfl,rfl⟩) ?_
 intro obj s₁ hz29
 refine E0A2 hz29 fun ee27 ee28=>?_
 clear hz29
 subst ee27 ee28
 have H1:=H.push (R:=Asn.dict D V []) (o:=dictOf [] 0) ⟨[],0,⟨rfl,fun _ q=>by cases q⟩,.nil,List.nodup_nil⟩ rfl
 refine⟨H1.dictT (.head _),F.args_dict_init_1 _,?_⟩
 refine wpAny_bind ?_
 refine wpAny_bind (wpAny_notOrdered_dict (H1.dictT (.head _)) ?_)
 refine wpAny_pure ?_
 exact wpAny_bind (wpAny_pure (wpAny_pure ⟨rfl,h _ _ H1⟩))
theorem dictOf_start {T:String} {Q:Value→Shared→Prop} (hT:∀s':Shared,Sub s.heap s'.heap→s'.TypeIs (.ref r) T) (hd:(Value.type T != Value.type "dict")=true)
  (hk:∀(A:Around) (s':Shared) (Q:Option Value→Shared→Prop),A.handled=none→Sub s.heap s'.heap→(∀h' tk,Sub s'.heap h'→Q none { s' with heap:=h',toks:=tk })→wpAny (model prog w) A (getAttr? (.ref r) "keys") Q E s') (hh:A.handled=none)
  (h:∀A' h' tk,A'=A.in1→Sub (s.heap.push { cls:=.type "dict",data:=.dict #[] }) h'→wpAny (model prog w) A'.in1 (pyIter (.ref r)) (fun it s3=>codeAny (model prog w) A' (.builtin "dict.update.loop" ⟨[.ref s.heap.objs.size,it,.int 0 0,.none],[]⟩) (wants (fun v s₂=>v=Value.none∧Q (.ref s.heap.objs.size) s₂) E) s3) E { s with heap:=h',toks:=tk }) :
  wpAny (model prog w) A (call (.type "dict") [.ref r]) Q E s:=by
 refine callType_codes (Q₁:=fun obj s₁=>obj=.ref s.heap.objs.size∧s₁={ s with heap:=s.heap.push { cls:=.type "dict",data:=.dict #[] } }) F.kt_called_dict (F.kt_typeCall_dict_1 _) F.entry_dict_init (kt_code_dict_new _ ⟨rfl,rfl⟩) ?_
 intro obj s₁ hz24
 refine E0A2 hz24 fun ee22 ee23=>?_
 clear hz24
 subst ee22 ee23
 have hS:(s.heap.push { cls:=.type "dict",data:=.dict #[] }).get? s.heap.objs.size=some { cls:=.type "dict",data:=.dict #[] }:=Heap.get?_push_size _ rfl
 have hTd:Shared.TypeIs { s with heap:=s.heap.push { cls:=.type "dict",data:=.dict #[] } } (.ref s.heap.objs.size) "dict":=⟨_,hS,rfl⟩
 refine⟨hTd,F.args_dict_init_2 _ _,?_⟩
 refine wpAny_bind ?_
 refine wpAny_bind (wpAny_notOrdered_dict hTd ?_)
 refine wpAny_pure ?_
 refine wpAny_bind (wpAny_typeOf (hT _ (Sub.push _ _)) ?_)
 rw[if_pos hd]
 refine wpAny_bind (hk _ _ _ hh (Sub.push _ _) fun h' tk k=>?_)
 refine wpAny_bind (wpAny_rule ?_)
 refine wpAny_bind (wpAny_mono (h A.in1 h' tk rfl k) (fun it s3 hc=>?_) fun _ _ e=>e)
 exact wpAny_pure ⟨plainId_quiet plain_dict_update_loop _,hc⟩
theorem r_dictFeed {ga gn:Addr} {nm qn:Value} {Q:Value→Shared→Prop} (Fd:Feed prog w σ A.in1.in1 ga xs.length base (PvP (Rep.pair D.rep V) xs) St) (hs:St 0 P [] s) (hg:P.get? ga=some { cls:=.type "generator",dict:=none,data:=.fields #[.int gn 0,nm,qn],slots:=#[] })
  (hh:A.handled=none) (hz:xs.length≤500) (hu:A.units+3<cLine)
  (h:∀P' d s',Sub P P'→At σ P' ((d,Asn.dict D V (putAll [] xs))::base) s'→Q (.ref d) s'):wpAny (model prog w) A (call (.type "dict") [.ref ga]) Q E s:=by
 refine E2A2 (Feed.op Fd hs) fun σ' pre H close=>?_
 have hsub:=H.sub
 refine dictOf_start (T:="generator") (fun s' k=>⟨_,k _ _ (hsub _ _ hg),rfl⟩) (by decide) (fun A' s' Q' ha k h'=>keysMiss_gen (k _ _ (hsub _ _ hg)) ha h') hh fun A' h' tk e k=>?_
 subst e
 have H1:=(H.push (R:=Asn.dict D V []) (o:=dictOf [] 0) ⟨[],0,⟨rfl,fun _ q=>by cases q⟩,.nil,List.nodup_nil⟩ rfl).grow (h':=h') (tk:=tk) k
 generalize hS:s.heap.objs.size=S at *
 have hs1:=close P [(S,Asn.dict D V [])] _ (Sub.refl P) (H1.perm List.perm_middle)
 refine wpAny_pyIter_gen (g:=gn) ⟨_,_,_,H1.sub _ _ hg,rfl,rfl,rfl⟩ ?_
 exact update_loop (A:=A.in1) Fd hz (by show A.units+1+2<cLine; exact(by assumption)) (fun P' s' k' H'=>⟨rfl,h P' S s' k' H'⟩) xs.length 0 P _ (Nat.sub_zero _) (Nat.zero_le _) (Sub.refl P) hs1
theorem r_dictRep {u:Value} {Q:Value→Shared→Prop} (H:At σ P led s) (h1:(Rep.list (Rep.pair D.rep V)).is P xs u) (hh:A.handled=none) (hz:xs.length≤500) (hu:A.units+3<cLine)
  (h:∀P' d s',Sub P P'→At σ P' ((d,Asn.dict D V (putAll [] xs))::led) s'→Q (.ref d) s'):wpAny (model prog w) A (call (.type "dict") [u]) Q E s:=by
 refine E3A3 (h1) fun l vs n ee2 e f=>?_
 clear h1
 subst ee2
 refine dictOf_start (T:="list") (fun s' k=>⟨_,k _ _ (H.sub _ _ e),rfl⟩) (by decide) (fun A' s' Q' ha k h'=>keysMiss_list (k _ _ (H.sub _ _ e)) ha h') hh fun A' h' tk e' k=>?_
 subst e'
 have H1:=(H.push (R:=Asn.dict D V []) (o:=dictOf [] 0) ⟨[],0,⟨rfl,fun _ q=>by cases q⟩,.nil,List.nodup_nil⟩ rfl).grow (h':=h') (tk:=tk) k
 generalize hS:s.heap.objs.size=S at *
 refine i_list H1 (V:=Rep.pair D.rep V) (xs:=xs) ⟨vs,n,H1.sub _ _ e,f⟩ fun I s3 H3=>?_
 exact update_loop (A:=A.in1) (Feed.it (P0:=P) (base:=led) hh (It.list (l:=l) (V:=Rep.pair D.rep V)) fun P' led' s' k' hs H'=>⟨vs,n,H'.sub _ _ (k' _ _ e),f.imp fun _ _=>(Rep.pair D.rep V).mono k'⟩) hz (by show A.units+1+2<cLine; exact(by assumption)) (fun P' s' k' H'=>⟨rfl,h P' S s' k' H'⟩) xs.length 0 P _ (Nat.sub_zero _) (Nat.zero_le _) (Sub.refl P) ⟨Sub.refl P,H3⟩
end
end
end Mine
namespace Mine
noncomputable section
noncomputable def ValIt (d:Addr) (n ep i:Nat):Asn:=⟨fun _ o=>o.cls=.type "dict_valueiterator"∧o.data=.fields #[.ref d,.int i 0,.int n 0,.int ep 0],fun _ h=>h⟩
section
variable {prog:Program} {w:World} {σ:Shared} {P:Heap} {led led':List (Addr×Asn)} {s:Shared} {A:Around} {E:Value→Shared→Prop} {d I:Addr} {es:List DictEntry} {ep i:Nat} {e:DictEntry}
 {κ β:Type} {di:DecidableEq κ} {D:DKind prog w κ} {V:Rep β} {ps:List (κ×β)}
theorem n_val {Q:Option Value→Shared→Prop} (H:At σ P led s) (U:Upd I (ValIt d es.length ep i) (ValIt d es.length ep (i+1)) led led') (hr:Raw d ep es s.heap) (he:es[i]? = some e)
  (h:∀s',At σ P led' s'→Q (some e.val) s'):wpAny (model prog w) A (pyNext (.ref I)) Q E s:=by
 refine E1A3 (H.ld.get U.mem) fun o ho hc hd=>?_
 have hT:s.TypeIs (.ref I) "dict_valueiterator":=⟨o,ho,hc⟩
 refine wpAny_bind (wpAny_attempt (wpAny_callSpecial?_slot (name:=Str.ofString "__next__") hT F.slot_dict_valueiterator_next
  (wpAny_call_entry F.slot_dict_valueiterator_next hT F.entry_dict_valueiterator_next ?_ (F.args_dict_valueiterator_next_1 _))))
 refine wpAny_bind (wpAny_pure (wpAny_bind (wpAny_bind (wpAny_bind (wpAny_typeNameOfWhole_valiter hT (wpAny_pure ?_))))))
 refine wpAny_bind (wpAny_fieldsOf ho hd ?_)
 refine wpAny_bind (wpAny_pure (wpAny_bind (wpAny_dictEntries hr rfl ?_)))
 rw[if_neg (by simp)]
 refine wpAny_bind (wpAny_pure (wpAny_bind (wpAny_dictEpoch hr rfl ?_)))
 rw[if_neg (by simp)]
 refine wpAny_pure ?_
 simp only[show ¬((i:Int)<0) from by lia,if_false,Int.toNat_natCast,List.getElem?_toArray,he]
 refine wpAny_bind (wpAny_bind (wpAny_typeNameOfWhole_valiter hT (wpAny_pure ?_)))
 refine wpAny_bind (wpAny_isOneOf_valiter hT ?_)
 show wpAny _ _ (setField (.ref I) 1 (rawInt ((i:Int)+1)) >>= _) _ _ s
 refine wpAny_bind (wpAny_setField ho hd (by simp) ?_)
 have ho':=Heap.get?_update_self (Obj.mapFields (·.setIfInBounds 1 (rawInt ((i:Int)+1)))) ho (Obj.isFreed_of_fields (Obj.data_mapFields hd _))
 have H':=H.upd (tk:=s.toks) U (Heap.SameBut.update ..) ⟨_,ho',(Obj.cls_mapFields ..).trans hc,by rw[Obj.data_mapFields hd]; simp[rawInt]⟩
 have hT':Shared.TypeIs { s with heap:=s.heap.update I (Obj.mapFields (·.setIfInBounds 1 (rawInt ((i:Int)+1)))) } (.ref I) "dict_valueiterator":=⟨_,ho',(Obj.cls_mapFields ..).trans hc⟩
 refine wpAny_bind (wpAny_holding (wpAny_bind (wpAny_isOneOf_valiter hT' (wpAny_bind (wpAny_isOneOf_valiter hT' ?_)))))
 exact wpAny_pure (wpAny_pure ⟨_,rfl,wpAny_pure (h _ H')⟩)
theorem n_val_end {Q:Option Value→Shared→Prop} (hh:A.handled=none) (H:At σ P ((I,ValIt d es.length ep es.length)::led) s) (hr:Raw d ep es s.heap)
  (h:∀s',At σ P led s'→Q none s'):wpAny (model prog w) A (pyNext (.ref I)) Q E s:=by
 refine E1A3 (H.ld.get (.head _)) fun o ho hc hd=>?_
 have hT:s.TypeIs (.ref I) "dict_valueiterator":=⟨o,ho,hc⟩
 refine wpAny_bind (wpAny_attempt (wpAny_callSpecial?_slot (name:=Str.ofString "__next__") hT F.slot_dict_valueiterator_next
  (wpAny_call_entry F.slot_dict_valueiterator_next hT F.entry_dict_valueiterator_next ?_ (F.args_dict_valueiterator_next_1 _))))
 refine wpAny_bind (wpAny_pure (wpAny_bind (wpAny_bind (wpAny_bind (wpAny_typeNameOfWhole_valiter hT (wpAny_pure ?_))))))
 refine wpAny_bind (wpAny_fieldsOf ho hd ?_)
 refine wpAny_bind (wpAny_pure (wpAny_bind (wpAny_dictEntries hr rfl ?_)))
 rw[if_neg (by simp)]
 refine wpAny_bind (wpAny_pure (wpAny_bind (wpAny_dictEpoch hr rfl ?_)))
 rw[if_neg (by simp)]
 refine wpAny_pure ?_
 simp only[show ¬((es.length:Int)<0) from by lia,if_false,Int.toNat_natCast,List.getElem?_toArray,List.getElem?_eq_none (Nat.le_refl es.length)]
 refine wpAny_bind (wpAny_bind (wpAny_typeNameOfWhole_valiter hT (wpAny_pure ?_)))
 refine stopsIt (k:=0) (A:=A.in1) hh ho hd (by exact Nat.succ_pos _) fun x s' hx h1 h2 h3=>?_
 refine wpAny_bind (wpAny_isInstance (T:="StopIteration") (b:=true) hx isSubtype_stop ?_)
 exact wpAny_pure (h _ ⟨H.ld.extBut h3,h1.trans H.os,h2▸H.gens⟩)
theorem It.vals:It prog w σ I ps.length (ValIt d ps.length ep) (needD d D V ps ep) (fun P i v=>∃x,(ps.map (·.2))[i]? = some x∧V.is P x v) where
 item:=fun {A E P led led' s Q i} hi H U hn h=>by
  refine E1A2 (hn) fun es hr f=>?_
  clear hn
  have hx:ps[i]? = some ps[i]:=List.getElem?_eq_getElem hi
  refine E1A2 (f.get' hx) fun e he hV=>?_
  rw[f.length] at U
  exact n_val H U hr he fun s' H'=>h P _ s' (Sub.refl P) ⟨_,by rw[List.getElem?_map,hx]; rfl,hV.2.2⟩ H'
 done:=fun {A E P led s Q} hh H hn h=>by
  refine E1A2 (hn) fun es hr f=>?_
  clear hn
  rw[f.length] at H
  exact n_val_end hh H hr h
 go:=fun {A E P led s Q i elts k pos v} H hm h=>by
  refine E1A3 (H.ld.get hm) fun o ho hc hd=>?_
  exact go_none ho hc hd (by decide) (h s H)
 self:=fun {A E P led s Q i} H hm h=>by
  refine E1A3 (H.ld.get hm) fun o ho hc hd=>?_
  have hT:s.TypeIs (.ref I) "dict_valueiterator":=⟨o,ho,hc⟩
  refine wpAny_pyIter_slot hT F.slot_dict_valueiterator_iter (wpAny_call_entry F.slot_dict_valueiterator_iter hT entry_dict_valueiterator_iter ?_ (F.args_dict_valueiterator_iter_1 _))
  exact wpAny_pure ⟨_,rfl,"dict_valueiterator",_,hT,F.slot_dict_valueiterator_next.lookup,h⟩
 nmono:=fun k zz7=>E1A2 zz7 fun es e f=>⟨es,e,f.imp fun _ _=>DRep.mono k⟩
 rfree:=fun h=>h
theorem i_vals {x:Option Nat} {v:Addr} {Q:Value→Shared→Prop} (H:At σ P led s) (hv:(v,View "dict_values" d)∈led) (hm:(d,Asn.dictX D V ps x)∈led)
  (h:∀I ep s',(∀y,x=some y→ep=y)→needD d D V ps ep P s.heap→At σ P ((I,ValIt d ps.length ep 0)::led) s'→Q (.ref I) s'):wpAny (model prog w) A (pyIter (.ref v)) Q E s:=by
 obtain⟨o,ho,es,n,⟨rfl,hn⟩,f,g⟩:=H.ld.get hm
 refine E1A2 (H.ld.get hv) fun ov hov ee2=>?_
 subst ee2
 have hT:s.TypeIs (.ref v) "dict_values":=⟨_,hov,rfl⟩
 refine wpAny_pyIter_slot hT F.slot_dict_values_iter (wpAny_call_entry F.slot_dict_values_iter hT F.entry_dict_values_iter ?_ (F.args_dict_values_iter_1 _))
 refine wpAny_bind (wpAny_pure (wpAny_bind ?_))
 refine wpAny_bind (wpAny_field hov rfl (x:=.ref d) rfl (wpAny_pure (wpAny_bind ?_)))
 refine wpAny_bind (wpAny_dictEntries ho rfl (wpAny_bind (wpAny_dictEpoch ho rfl ?_)))
 simp only[show Builtin.Dict_items.ownsTuple "dict_valueiterator" = false by decide,Bool.false_eq_true,if_false]
 refine wpAny_newObj_type (wpAny_pure ⟨_,rfl,"dict_valueiterator",_,⟨_,Heap.get?_push_size _ rfl,rfl⟩,F.slot_dict_valueiterator_next.lookup,?_⟩)
 exact h _ n _ hn ⟨es,ho,f⟩ (H.push (R:=ValIt d ps.length n 0) ⟨rfl,by simp[rawInt,f.length]⟩ rfl)
theorem r_values {x:Option Nat} {K:Frag} {Q:Value→Shared→Prop} (X:Src K P) (H:At σ P led s) (hm:(d,Asn.dictX D V ps x)∈led) (h:∀vw s',At σ P ((vw,View "dict_values" d)::led) s'→Q (.ref vw) s') :
  wpAny (model prog w) A (call (.builtin "dict.values") [.ref d]) Q E s:=by
 have hT:=H.dictT hm
 refine wpAny_call_entry F.slot_dict_values hT F.entry_dict_values ?_ (F.args_dict_values_1 _)
 refine wpAny_bind ?_
 refine wpAny_bind (wpAny_notOrdered_dict hT ?_)
 refine wpAny_pure ?_
 show wpAny _ _ (Builtin.Dict.showsAll d >>= _) _ _ s
 unfold Builtin.Dict.showsAll
 rw[if_neg (by rw[H.noSys X hm]; exact Bool.false_ne_true)]
 exact wpAny_bind (wpAny_pure (wpAny_bind (wpAny_newObj_type (wpAny_pure ⟨_,rfl,h _ _ (H.push (R:=View "dict_values" d) rfl rfl)⟩))))
end
end
end Mine
namespace Mine
noncomputable section
theorem perm_of_sub {α:Type} [DecidableEq α]:∀ {a b:List α},a.Nodup→(∀x∈a,x∈b)→b.length≤a.length→b.Perm a
 | [],b,_,_,hl=>by
  have:b=[]:=List.length_eq_zero_iff.mp (Nat.le_zero.mp hl)
  rw[this]
 | x::a,b,hn,hs,hl=>by
  simp only[List.nodup_cons] at hn
  have hx:=hs x (.head _)
  have p:=List.perm_cons_erase hx
  refine p.trans (.cons _ (perm_of_sub hn.2 (fun y hy=>(List.mem_erase_of_ne (show y≠x from fun e=>hn.1 (by rw[←e]; exact hy))).mpr (hs y (.tail _ hy))) ?_))
  rw[List.length_erase_of_mem hx]
  simp only[List.length_cons] at hl
  exact Nat.sub_le_sub_right (by assumption) _
theorem erase_at {α:Type} [DecidableEq α] {k:α}:∀ {l:List α} {i:Nat},l.Nodup→l[i]? = some k→l.eraseIdx i=l.erase k
 | [],i,_,h=>by simp at h
 | x::l,0,_,h=>by
  replace h:=Option.some.inj h
  subst h
  simp
 | x::l,i+1,hn,h=>by
  simp only[List.nodup_cons] at hn
  simp only[List.getElem?_cons_succ] at h
  have hne:x≠k:=fun e=>hn.1 (e▸List.mem_of_getElem? h)
  simp only[List.eraseIdx_cons_succ,List.erase_cons_tail (by exact fun z=>hne (eq_of_beq z)),erase_at hn.2 h]
noncomputable def IRep (k:Int) (e:Int×Value):Prop:=e.1=hashInt k∧∃t,e.2=.int k t
noncomputable def Asn.iset (kk:List Int):Asn:=
 ⟨fun _ o=>∃ks es ep t,o=setOf es ep t∧F2 IRep ks es∧ks.Perm kk∧kk.Nodup∧t.fits es.length=true∧es.length<2000,fun _ h=>h⟩
noncomputable def insI (kk:List Int) (x:Int):List Int:=if x∈kk then kk else kk++[x]
theorem insI_nodup {kk:List Int} (h:kk.Nodup) (x:Int):(insI kk x).Nodup:=by
 unfold insI
 refine iteInduction (fun _=>?_) fun _=>?_
 ·exact h
 ·rename_i hx
  rw[List.nodup_append]
  exact⟨h,by simp,fun a ha b hb e=>hx (by rw[List.mem_singleton] at hb; subst hb; exact e▸ha)⟩
theorem mem_insI {kk:List Int} {x y:Int}:y∈insI kk x↔y∈kk∨y=x:=by
 unfold insI
 split
 ·rename_i hx
  exact⟨.inl,fun h=>h.elim id fun e=>e▸hx⟩
 ·simp
theorem insI_len (kk:List Int) (x:Int):(insI kk x).length≤kk.length+1:=by unfold insI; split <;> simp
section
variable {prog:Program} {w:World} {σ:Shared} {P:Heap} {led led':List (Addr×Asn)} {s:Shared} {A:Around} {E:Value→Shared→Prop} {a:Addr} {kk:List Int} {k:Int} {t:Tok}
theorem is_int {k k':Int} {v:Value} (h:(intKind prog w).is k v=true) (e:∃t,v=.int k' t):k=k':=by
 refine E1A1 (e) fun t ee167=>?_
 clear e
 subst ee167
 exact KeyKind.inj (intKind prog w) _ _ _ h (intKind_is ..)
theorem At.iset (H:At σ P led s) (hm:(a,Asn.iset kk)∈led):kk.Nodup∧s.heap.SetOf (intKind prog w) a (fun k=>decide (k∈kk)) kk.length:=by
 obtain⟨o,ho,ks,es,ep,t,rfl,f,p,hn,hf,hz⟩:=H.ld.get hm
 have hl:=f.length
 refine⟨hn,_,es.toArray,ep,t,ho,⟨rfl,rfl,rfl⟩,rfl,fun e he=>?_,fun k=>?_,by show es.toArray.size<4096; simp; exact tr1 (by assumption) rfl,by exact hf,by simp[←hl,p.length_eq]⟩
 ·obtain⟨i,hi⟩:=List.mem_iff_getElem?.mp (show e∈es by exact he)
  obtain⟨k,_,h1,t',h2⟩:=f.get hi
  exact⟨⟨k,by rw[h2]; exact intKind_is ..,h1⟩,by rw[h2]; rfl⟩
 ·rw[decide_eq_true_eq,←p.mem_iff]
  constructor
  ·intro h
   refine E1A1 (List.mem_iff_getElem?.mp h) fun i hi=>?_
   obtain⟨e,he,_,t',h2⟩:=f.get' hi
   exact⟨e,by simpa using List.mem_of_getElem? he,by rw[h2]; exact intKind_is ..⟩
  ·intro hz146
   refine E1A2 hz146 fun e he hk=>?_
   clear hz146
   refine E1A1 (List.mem_iff_getElem?.mp (show e∈es by exact he)) fun i hi=>?_
   refine E1A3 (f.get hi) fun k' hk' _ h2=>?_
   rw[is_int hk h2]
   exact List.mem_of_getElem? hk'
theorem iset_of {h:Heap} {S:Int→Bool} {n:Nat} (hS:h.SetOf (intKind prog w) a S n) (hk:∀k,S k=true↔k∈kk) (hn:kk.Nodup) (hl:n=kk.length) (hz:n<2000) (P:Heap):∃o,h.get? a=some o∧(Asn.iset kk).ok P o:=by
 refine E4A8 (hS) fun o es ep t ho zz128 hd hel hmem hb hf hsz=>?_
 clear hS
 obtain⟨h1,h2,h3⟩:=zz128
 have hks:∃ks,F2 IRep ks es.toList:=by
  clear hmem
  generalize es.toList=l at hel
  induction l with
  | nil=>exact⟨[],.nil⟩
  | cons e l ih=>
   refine E1A1 (ih fun x hx=>hel x (.tail _ hx)) fun ks f=>?_
   refine E0A2 (hel e (.head _)) fun zz116 _=>?_
   obtain⟨k,hk1,hk2⟩:=zz116
   refine⟨k::ks,.cons ⟨hk2,?_⟩ f⟩
   obtain⟨eh,ev⟩:=e
   cases ev with
   | int i t=>exact⟨t,by rw[is_int hk1 ⟨t,rfl⟩]⟩
   | _=>exact absurd hk1 (by intro q; contradiction)
 refine E1A1 (hks) fun ks f=>?_
 clear hks
 have hlen:=f.length
 refine⟨o,ho,ks,es.toList,ep,t,?_,f,perm_of_sub hn (fun x hx=>?_) ?_,hn,by exact hf,by simp; lia⟩
 ·obtain⟨c,d,dt,sl⟩:=o
  simp only at h1 h2 h3 hd
  subst h1 h2 h3 hd
  rfl
 ·refine E1A2 ((hmem x).mp ((hk x).mpr hx)) fun e he hk'=>?_
  obtain⟨i,hi⟩:=List.mem_iff_getElem?.mp he
  refine E1A3 (f.get hi) fun k' hk'' _ h2=>?_
  rw[is_int hk' h2]
  exact List.mem_of_getElem? hk''
 ·rw[hlen]; simp; lia
theorem iadd_ {Q:Bool→Shared→Prop} (H:At σ P led s) (U:Upd a (Asn.iset kk) (Asn.iset (insI kk k)) led led') (hz:kk.length≤1000) (h:∀b s',At σ P led' s'→Q b s'):wpAny (model prog w) A (setAdd a (.int k t)) Q E s:=by
 refine E0A2 (H.iset (prog:=prog) (w:=w) U.mem) fun hn hS=>?_
 refine wpAny_holding ?_
 refine wpAny_bind ((intKind prog w).pyHash (k:=k) (intKind_is ..) ?_)
 refine wpAny_setAddHashed_of (knd:=intKind prog w) (s:={ s with toks:=s.toks+1 }) (k:=k) (intKind_is ..) rfl hS (by show kk.length+1<4096; lia) fun h' hsb hS'=>h _ _ ?_
 refine H.upd (tk:=s.toks+1) U hsb (iset_of hS' (fun k'=>?_) (insI_nodup hn k) ?_ ?_ P)
 ·rw[mem_insI]; simp
 ·unfold insI
  by_cases hk:k∈kk <;> simp[hk]
 ·split <;> lia
theorem r_isetadd {Q:Value→Shared→Prop} (H:At σ P led s) (U:Upd a (Asn.iset kk) (Asn.iset (insI kk k)) led led') (hz:kk.length≤1000) (h:∀s',At σ P led' s'→Q .none s'):wpAny (model prog w) A (call (.builtin "set.add") [.ref a,.int k t]) Q E s:=by
 obtain⟨o,ho,ks,es,ep,tb,rfl,_⟩:=H.ld.get U.mem
 refine wpAny_call_entry F.slot_set_add ⟨_,ho,rfl⟩ F.entry_set_add ?_ (F.args_set_add_2 _ _)
 unfold Builtin.«set.add» Builtin.Frozenset.oneOther
 simp only[List.isEmpty_nil,bind_assoc]
 refine wpAny_bind (wpAny_pure ?_)
 try dsimp only
 refine wpAny_bind (wpAny_pure ?_)
 try dsimp only
 refine wpAny_bind (iadd_ (A:=A.in1) H U hz fun b s' H'=>?_)
 show wpAny _ _ (ret Value.none) _ _ _
 exact wpAny_pure ⟨_,rfl,h s' H'⟩
theorem r_isetremove {Q:Value→Shared→Prop} (H:At σ P led s) (U:Upd a (Asn.iset kk) (Asn.iset (kk.erase k)) led led') (hk:k∈kk) (h:∀s',At σ P led' s'→Q .none s'):wpAny (model prog w) A (call (.builtin "set.remove") [.ref a,.int k t]) Q E s:=by
 obtain⟨o,ho,ks,es,ep,tb,rfl,f,p,hn,hf,hz⟩:=H.ld.get U.mem
 have hl:=f.length
 refine wpAny_call_entry F.slot_set_remove ⟨_,ho,rfl⟩ F.entry_set_remove ?_ (F.args_set_remove_2 _ _)
 unfold Builtin.«set.remove» Builtin.Frozenset.oneOther
 simp only[List.isEmpty_nil,bind_assoc]
 refine wpAny_bind (wpAny_pure ?_)
 try dsimp only
 refine wpAny_bind (wpAny_pure ?_)
 try dsimp only
 refine wpAny_bind (wpAny_tryCatch ?_)
 refine wpAny_holding ?_
 refine wpAny_bind ((intKind prog w).pyHash (k:=k) (intKind_is ..) ?_)
 have ho':({ s with toks:=s.toks+1 }:Shared).heap.get? a=some (setOf es ep tb):=ho
 have hf':tb.fits es.toArray.size=true:=by exact hf
 have hel:ElemsOf (intKind prog w) es.toArray.toList:=fun e he=>by
  obtain⟨i,hi⟩:=List.mem_iff_getElem?.mp (show e∈es by exact he)
  obtain⟨k,_,h1,t',h2⟩:=f.get hi
  exact⟨⟨k,by rw[h2]; exact intKind_is ..,h1⟩,by rw[h2]; rfl⟩
 refine wpAny_bind ?_
 refine wpAny_bind (wpAny_setState_of ho' rfl hf' ?_)
 dsimp only
 rw[byScan_of (knd:=intKind prog w) rfl (by show es.toArray.size<4096; simp; exact tr1 (by assumption) rfl) hel]
 refine wpAny_bind (wpAny_rule ?_)
 have hkk:k∈ks:=p.mem_iff.mpr hk
 obtain⟨i,hi,hix⟩:∃i,ks[i]? = some k∧es.findIdx? (fun e=>(intKind prog w).is k e.2)=some i:=by
  have nd:ks.Nodup:=p.nodup_iff.mpr hn
  refine E1A1 (List.mem_iff_getElem?.mp hkk) fun i hi=>?_
  refine⟨i,hi,?_⟩
  refine E1A3 (f.get' hi) fun e he _ h2=>?_
  obtain⟨hlt,hg⟩:=List.getElem?_eq_some_iff.mp he
  rw[List.findIdx?_eq_some_iff_getElem]
  refine E1A1 (h2) fun t' h2=>?_
  refine⟨hlt,by rw[hg,h2]; exact intKind_is ..,fun j hj hq=>?_⟩
  have hjl:j<es.length:=Nat.lt_trans hj hlt
  refine E1A3 (f.get (List.getElem?_eq_getElem hjl)) fun k' hk' _ h3=>?_
  have:=is_int hq h3
  subst this
  have:=(List.getElem?_inj (List.getElem?_eq_some_iff.mp hi).1 nd).mp (hi.trans hk'.symm)
  lia
 refine wpAny_bind (wpAny_setScan_of (knd:=intKind prog w) (k:=k) (intKind_is ..) ho' rfl hf' hel ?_)
 rw[show es.toArray.toList=es by rfl,hix]
 refine wpAny_pure ?_
 refine wpAny_bind (wpAny_setState_of ho' rfl hf' ?_)
 dsimp only
 rw[Nat.zero_add]
 have hea:SetTable.eraseAt es.toArray i=(es.eraseIdx i).toArray:=by
  apply Array.ext'
  rw[toList_eraseAt]
 rw[hea]
 have hil:i<es.length:=by rw[←hl]; exact(List.getElem?_eq_some_iff.mp hi).1
 have hpl:tb.place.size=es.length∧tb.fill≤tb.mask:=by simpa [SetTable.fits] using hf
 refine wpAny_bind (wpAny_storeSet_of ho' rfl ?_ (by rw[List.size_toArray,List.length_eraseIdx,sizeLine_eq]; split <;> lia))
 refine wpAny_bind (wpAny_point (wpAny_pure ?_))
 show wpAny _ _ (ret Value.none) _ _ _
 refine wpAny_pure ⟨_,rfl,h _ (H.upd (tk:=s.toks+1) U (Heap.SameBut.update ..) ⟨_,Heap.get?_update_self _ ho rfl,ks.eraseIdx i,es.eraseIdx i,ep+1,tb.drop i,rfl,f.erase i,?_,hn.erase k,?_,by rw[List.length_eraseIdx]; split <;> lia⟩)⟩
 ·have e1:ks.eraseIdx i=ks.erase k:=erase_at (p.nodup_iff.mpr hn) hi
  rw[e1]
  exact p.erase k
 ·have hj:tb.place[i]? = some tb.place[i]:=Array.getElem?_eq_getElem (by lia)
  unfold SetTable.drop
  rw[hj]
  unfold SetTable.fits SetTable.fill
  have z1:(SetTable.eraseAt tb.place i).size=tb.place.size - 1:=by rw[←Array.length_toList,toList_eraseAt,List.length_eraseIdx,Array.length_toList,if_pos (by lia)]
  have z2:∀q,(SetTable.insertAt tb.dummies q tb.place[i]).size=tb.dummies.size+1:=fun q=>by rw[←Array.length_toList,toList_insertAt',length_insL,Array.length_toList]
  have hfl:tb.place.size+tb.dummies.size≤tb.mask:=hpl.2
  simp only[z1,z2,List.length_eraseIdx,if_pos hil,Bool.and_eq_true,beq_iff_eq,decide_eq_true_eq]
  lia
end
end
end Mine
namespace Mine
noncomputable section
noncomputable def insAll (kk xs:List Int):List Int:=xs.foldl insI kk
theorem insAll_snoc (kk xs:List Int) (x:Int):insAll kk (xs++[x])=insI (insAll kk xs) x:=by unfold insAll; rw[List.foldl_append]; rfl
theorem insAll_len (kk:List Int):∀xs:List Int,(insAll kk xs).length≤kk.length+xs.length
 | []=>Nat.le_refl _
 | x::xs=>by
  have h:=insAll_len (insI kk x) xs
  have h2:=insI_len kk x
  show(insAll (insI kk x) xs).length≤_
  simp only[List.length_cons]; lia
theorem insAll_nodup:∀(xs kk:List Int),(kk++xs).Nodup→insAll kk xs=kk++xs
 | [],kk,_=>by rw[List.append_nil]; rfl
 | x::xs,kk,h=>by
  have hx:x∉kk:=fun q=>by
   rw[List.nodup_append] at h
   exact h.2.2 x q x (.head _) rfl
  have e:insI kk x=kk++[x]:=if_neg hx
  show insAll (insI kk x) xs=_
  simp only[e,insAll_nodup xs (kk++[x]) (by rw[List.append_assoc]; exact h)]
  exact List.append_assoc ..
section
variable {prog:Program} {w:World} {σ:Shared} {A:Around} {r a:Addr} {base:List (Addr×Asn)} {St:Nat→Heap→List (Addr×Asn)→Shared→Prop} {E:Value→Shared→Prop} {s:Shared} {P:Heap} {xs kk:List Int} {led:List (Addr×Asn)}
theorem set_loop {RR:Result→Shared→Prop} (Fd:Feed prog w σ A.in1 r xs.length base (PvP Rep.int xs) St) (hz:xs.length≤500)
  (hR:∀P' s',Sub P P'→At σ P' ((a,Asn.iset (insAll [] xs))::base) s'→RR (.ok (.ret .none)) s') :
  ∀(k i:Nat) (P1:Heap) (s:Shared),xs.length - i=k→i≤xs.length→Sub P P1→St i P1 [(a,Asn.iset (insAll [] (xs.take i)))] s →
   codeAny (model prog w) A (.builtin "set.update.loop" ⟨[.ref a,.ref r],[]⟩) RR s
 | 0,i,P1,s,hk,hi,k1,hs=>by
  have hin:i=xs.length:=by lia
  subst hin
  rw[List.take_length] at hs
  refine codeAny_builtin F.entry_set_update_loop ?_
  rw[Around.under_plainId F.plain_set_update_loop _]
  exact wpAny_bind (Feed.done Fd hs fun s' H'=>wpAny_pure (hR P1 s' k1 H'))
 | k+1,i,P1,s,hk,hi,k1,hs=>by
  have hlt:i<xs.length:=by lia
  refine codeAny_builtin F.entry_set_update_loop ?_
  rw[Around.under_plainId F.plain_set_update_loop _]
  refine wpAny_bind (Feed.next Fd hlt hs fun P2 v s2 k2 ⟨x,hx,t,hv⟩ hs2=>?_)
  subst hv
  refine E2A2 (Feed.op Fd hs2) fun σ' pre H close=>?_
  have hlen:=insAll_len [] (xs.take i)
  simp only[List.length_nil,List.length_take] at hlen
  refine wpAny_bind (wpAny_holding ?_)
  refine iadd_ (prog:=prog) (w:=w) (led':=pre++([(a,Asn.iset (insI (insAll [] (xs.take i)) x))]++base)) H (Upd.pre .head _) (by lia) fun b s3 H3=>?_
  refine wpAny_pure ⟨plainId_quiet F.plain_set_update_loop _,?_⟩
  refine set_loop Fd hz hR k (i+1) P2 s3 (by lia) hlt (k1.trans k2) ?_
  simp only[List.take_add_one,hx,Option.toList_some,insAll_snoc]
  exact close P2 _ s3 (Sub.refl _) H3
set_option maxHeartbeats 3200000 in
theorem setOf_start {T:String} {Q:Value→Shared→Prop} (hT:∀s':Shared,Sub s.heap s'.heap→s'.TypeIs (.ref r) T) (hsls:isSubtype (.type T) (.type "set")=pure false) (hslf:isSubtype (.type T) (.type "frozenset")=pure false)
  (hne:(Value.type T == Value.type "dict")=false)
  (h:∀led:Bool,wpAny (model prog w) A.in1.in1 (pyIter (.ref r)) (fun it s3=>codeAny (model prog w) A.in1.in1 (.builtin "set.update.loop" ⟨[.ref s.heap.objs.size,it],[]⟩) (fun res s4=>res=.ok (.ret .none)∧Q (.ref s.heap.objs.size) s4) s3) (fun _ _=>False)
   { s with heap:=s.heap.push { cls:=.type "set",dict:=none,data:=.set #[] 0 (.fresh 0 0 led) } }) :
  wpAny (model prog w) A (call (.type "set") [.ref r]) Q E s:=by
 refine E2A1 (F.called_set.mro) fun c tl hmro=>?_
 have hmade:=F.called_set.made
 have hsub:=F.called_set.sub
 refine wpAny_call (codeAny_of_tree ?_)
 refine wpAny_pure ⟨Code.quiet_builtin _ (by decide +kernel),codeAny_builtin F.entry_type_call ?_⟩
 rw[Around.under_plain (weight_type_call_type "set" [.ref r] []) rfl]
 have h1:=F.called_set.notType
 have h2:=F.called_set.canCreate
 have hct:=F.typeCall_set_1 (.ref r)
 repeat (any_goals (first|assumption|wp_step))
 refine codeAny_mono (code_set_new_1 (.ref r) (E:=E) (Q₁:=fun obj s₁=>∃led:Bool,obj=.ref s.heap.objs.size∧s₁={ s with heap:=s.heap.push { cls:=.type "set",dict:=none,data:=.set #[] 0 (.fresh 0 0 led) } }) fun led=>⟨led,rfl,rfl⟩) fun r' s₁ hr=>?_
 cases r' with
 | error e=>exact hr
 | ok fl=>
  cases fl with
  | ret obj=>
   refine E1A2 (hr) fun led ee11 ee12=>?_
   clear hr
   subst ee11 ee12
   have hS:(s.heap.push { cls:=.type "set",dict:=none,data:=.set #[] 0 (.fresh 0 0 led) }).get? s.heap.objs.size=some { cls:=.type "set",dict:=none,data:=.set #[] 0 (.fresh 0 0 led) }:=Heap.get?_push_size _ rfl
   have hTs:Shared.TypeIs { s with heap:=s.heap.push { cls:=.type "set",dict:=none,data:=.set #[] 0 (.fresh 0 0 led) } } (.ref s.heap.objs.size) "set":=⟨_,hS,rfl⟩
   have hli:=F.called_set.init.lookup
   have hbi:=F.called_set.init.bind (.ref s.heap.objs.size)
   repeat (any_goals (first|assumption|wp_step))
   refine codeAny_mono (codeAny_call_builtin (R:=wants (fun r s₂=>r=.none∧Q (.ref s.heap.objs.size) s₂) E) F.called_set.init.plain F.entry_set_init (check_set_init_1 hTs ?_)) fun r₂ s₂ hr₂=>?_
   ·have hTr:=hT { s with heap:=s.heap.push { cls:=.type "set",dict:=none,data:=.set #[] 0 (.fresh 0 0 led) } } (Sub.push _ _)
    have h0:=h led
    unfold Builtin.«set.__init__» noKeywords Builtin.Frozenset.updateFrom
    generalize hPI:pyIter=PI at h0
    wp_walk
    subst hPI
    refine wpAny_mono h0 (fun it s3 hc=>?_) fun _ _ q=>q.elim
    refine wpAny_bind (wpAny_runValue (codeAny_mono hc fun res s4 zz10=>E0A2 zz10 fun e hq=>?_))
    subst e
    refine wpAny_pure ?_
    exact wpAny_pure ⟨rfl,hq⟩
   ·cases r₂ with
    | error e=>exact hr₂
    | ok fl₂=>
     cases fl₂ with
     | ret r=>
      obtain⟨rfl,hq⟩:=hr₂
      repeat (any_goals (first|assumption|wp_step))
     | _=>exact hr₂.elim
  | _=>exact hr.elim
end
end
end Mine
namespace Mine
noncomputable section
theorem sub_gen_set:isSubtype (.type "generator") (.type "set")=pure false:=by rw[isSubtype_type]; kernel_rfl
theorem sub_gen_fset:isSubtype (.type "generator") (.type "frozenset")=pure false:=by rw[isSubtype_type]; kernel_rfl
theorem sub_vals_set:isSubtype (.type "dict_values") (.type "set")=pure false:=by rw[isSubtype_type]; kernel_rfl
theorem sub_vals_fset:isSubtype (.type "dict_values") (.type "frozenset")=pure false:=by rw[isSubtype_type]; kernel_rfl
section
variable {prog:Program} {w:World} {σ:Shared} {A:Around} {r a:Addr} {base:List (Addr×Asn)} {St:Nat→Heap→List (Addr×Asn)→Shared→Prop} {E:Value→Shared→Prop} {s:Shared} {P:Heap} {xs kk:List Int} {led:List (Addr×Asn)}
 {κ:Type} {di:DecidableEq κ} {D:DKind prog w κ} {ps:List (κ×Int)}
theorem push_iset {σ:Shared} {led:List (Addr×Asn)} (H:At σ P led s) (ld:Bool):At σ P ((s.heap.objs.size,Asn.iset [])::led) { s with heap:=s.heap.push { cls:=.type "set",dict:=none,data:=.set #[] 0 (.fresh 0 0 ld) } }:=
 H.push (R:=Asn.iset []) (o:=setOf [] 0 (.fresh 0 0 ld)) ⟨[],[],0,_,rfl,.nil,.refl _,List.nodup_nil,rfl,by decide⟩ rfl
theorem r_setFeed {ga gn:Addr} {Q:Value→Shared→Prop} (Fd:Feed prog w σ A.in1.in1.in1 ga xs.length base (PvP Rep.int xs) St) (hs:St 0 P [] s) (hg:P.IsGen ga gn) (hz:xs.length≤500)
  (h:∀P' d s',Sub P P'→At σ P' ((d,Asn.iset (insAll [] xs))::base) s'→Q (.ref d) s'):wpAny (model prog w) A (call (.type "set") [.ref ga]) Q E s:=by
 refine E2A2 (Feed.op Fd hs) fun σ' pre H close=>?_
 have hg':=hg.keeps H.sub
 refine setOf_start (T:="generator") (fun s' k=>(hg'.keeps k).typeIs) sub_gen_set sub_gen_fset (by decide) fun ld=>?_
 have H1:=push_iset H ld
 generalize hS:s.heap.objs.size=S at *
 have hs1:=close P [(S,Asn.iset [])] _ (Sub.refl P) (H1.perm List.perm_middle)
 refine wpAny_pyIter_gen (g:=gn) (hg.keeps H1.sub) ?_
 exact set_loop (A:=A.in1.in1) Fd hz (fun P' s' k' H'=>⟨rfl,h P' S s' k' H'⟩) xs.length 0 P _ (Nat.sub_zero _) (Nat.zero_le _) (Sub.refl P) hs1
theorem r_setRep {u:Value} {Q:Value→Shared→Prop} (H:At σ P led s) (h1:(Rep.list Rep.int).is P xs u) (hh:A.handled=none) (hz:xs.length≤500)
  (h:∀P' d s',Sub P P'→At σ P' ((d,Asn.iset (insAll [] xs))::led) s'→Q (.ref d) s'):wpAny (model prog w) A (call (.type "set") [u]) Q E s:=by
 refine E3A3 (h1) fun l vs n ee30 e f=>?_
 clear h1
 subst ee30
 refine setOf_start (T:="list") (fun s' k=>⟨_,k _ _ (H.sub _ _ e),rfl⟩) F.sub_list_set F.sub_list_frozenset (by decide) fun ld=>?_
 have H1:=push_iset H ld
 generalize hS:s.heap.objs.size=S at *
 refine i_list H1 (V:=Rep.int) (xs:=xs) ⟨vs,n,H1.sub _ _ e,f⟩ fun I s3 H3=>?_
 exact set_loop (A:=A.in1.in1) (Feed.it (P0:=P) (base:=led) hh (It.list (l:=l) (V:=Rep.int)) fun P' led' s' k' hs H'=>⟨vs,n,H'.sub _ _ (k' _ _ e),f.imp fun _ _=>Rep.int.mono k'⟩) hz (fun P' s' k' H'=>⟨rfl,h P' S s' k' H'⟩) xs.length 0 P _ (Nat.sub_zero _) (Nat.zero_le _) (Sub.refl P) ⟨Sub.refl P,H3⟩
theorem r_setVals {d vw:Addr} {Q:Value→Shared→Prop} (H:At σ P led s) (hv:(vw,View "dict_values" d)∈led) (hm:(d,Asn.dict D Rep.int ps)∈led) (hh:A.handled=none) (hz:ps.length≤500)
  (h:∀P' q s',Sub P P'→At σ P' ((q,Asn.iset (insAll [] (ps.map (·.2))))::led) s'→Q (.ref q) s'):wpAny (model prog w) A (call (.type "set") [.ref vw]) Q E s:=by
 refine E1A1 (At.pin H hm) fun ep hp=>?_
 refine E1A1 (Upd.ex (Asn.dictX D Rep.int ps (some ep)) hm) fun led' U=>?_
 have H0:=hp led' U
 have hne:vw≠d:=fun e=>by
  subst e
  refine E1A2 (H.ld.get hv) fun o ho ee21=>?_
  subst ee21
  refine E2A2 (H.dict hm) fun es n e2 _=>?_
  rw[ho] at e2; exact absurd e2 (by simp[dictOf])
 have hv':=U.other hv hne
 refine E1A2 (H0.ld.get hv') fun o ho ee13=>?_
 subst ee13
 refine setOf_start (T:="dict_values") (fun s' k=>⟨_,k _ _ ho,rfl⟩) sub_vals_set sub_vals_fset (by decide) fun ld=>?_
 have H1:=push_iset H0 ld
 generalize hS:s.heap.objs.size=S at *
 refine i_vals (x:=some ep) H1 (.tail _ hv') (.tail _ U.mem') fun I ep' s3 he hn H3=>?_
 have:=he ep rfl
 subst this
 have hl:ps.length=(ps.map (·.2)).length:=by simp
 have hIt:It prog w σ I (ps.map (·.2)).length (ValIt d ps.length ep') (needD d D Rep.int ps ep') (PvP Rep.int (ps.map (·.2))):=hl▸It.vals
 exact set_loop (A:=A.in1.in1) (Feed.it (P0:=P) (base:=led') hh hIt fun P' led2 s' k' hs H'=>At.raw H' (hs _ U.mem')) (by simpa using hz) (fun P' s' k' H'=>⟨rfl,h P' S s' k' (H'.unpin (.tail U.inv))⟩) _ 0 P _ (Nat.sub_zero _) (Nat.zero_le _) (Sub.refl P) ⟨Sub.refl P,H3⟩
theorem r_isetlen {Q:Value→Shared→Prop} (H:At σ P led s) (hm:(a,Asn.iset kk)∈led) (h:∀t s',At σ P led s'→Q (.int kk.length t) s'):wpAny (model prog w) A (call (.builtin "len") [.ref a]) Q E s:=by
 obtain⟨o,ho,ks,es,ep,tb,rfl,f,p,hn,hf,hz⟩:=H.ld.get hm
 have hl:=f.length
 have hsz:es.toArray.size=kk.length:=by rw[List.size_toArray,←hl,p.length_eq]
 refine call_len_set ho ⟨rfl,rfl,rfl⟩ rfl (by exact hf) (by simp; lia) ?_
 rw[hsz]
 exact h _ _ H.tok
theorem m_iset {name:Str} {id:String} {pl:Sem Bool} {Q:Value×List Value→Shared→Prop} (H:At σ P led s) (hm:(a,Asn.iset kk)∈led) (slot:Slot "set" name id) (hty:typeOf (.builtin id)=pure (.type "method_descriptor"))
  (h:Q (.builtin id,[.ref a]) s):wpAny (model prog w) A (getMethod (.ref a) name pl) Q E s:=by
 obtain⟨o,ho,ks,es,ep,tb,rfl,_⟩:=H.ld.get hm
 exact getMethod_builtin ⟨_,ho,rfl⟩ PySem.F.plainAttrs_set slot hty (fun a q=>by(injection q with q; subst q); exact⟨_,ho,rfl⟩) h
end
end
end Mine
namespace Mine
noncomputable section
section
variable {prog:Program} {w:World} {κ β:Type} {di:DecidableEq κ} {D:DKind prog w κ} {V:Rep β} {ps:List (κ×β)} {k:κ} {v key:Value} {d:Addr}
 {σ:Shared} {P:Heap} {led led':List (Addr×Asn)} {s:Shared} {A:Around} {E:Value→Shared→Prop} {K:Frag} {b:β} {ep:Option Nat}
theorem r_setdefault {dflt:Value} {Q:Value→Shared→Prop} (H:At σ P led s) (X:Src K P) (hm:(d,Asn.dict D V ps)∈led) (hu:A.units+1<cLine) (hk:D.rep.is P k key) (hz:ps.length≤1000)
  (h1:∀b,look ps k=some b→∀u s',V.is P b u→At σ P led s'→Q u s')
  (h2:look ps k=none→∃b led',V.is P b dflt∧Upd d (Asn.dict D V ps) (Asn.dict D V (put ps k b)) led led'∧∀s',At σ P led' s'→Q dflt s'):wpAny (model prog w) A (call (.builtin "dict.setdefault") [.ref d,key,dflt]) Q E s:=by
 have hT:=H.dictT hm
 refine wpAny_call_entry F.slot_dict_setdefault hT F.entry_dict_setdefault ?_ (F.args_dict_setdefault_3 _ _ _)
 refine wpAny_bind ?_
 refine wpAny_bind (wpAny_notOrdered_dict hT ?_)
 refine wpAny_pure ?_
 show wpAny _ _ (if(d == sysModules)=true then _ else(dictSetDefault d key dflt >>= _)) _ _ s
 rw[if_neg (by rw[H.noSys X hm]; exact Bool.false_ne_true)]
 refine wpAny_bind (wpAny_holding ?_)
 refine wpAny_bind (D.pyHash (A:=A.in1) hu (D.rep.mono H.sub hk) fun tk=>?_)
 replace H:=H.tok (tk:=tk)
 generalize { s with toks:=tk }=s at *
 refine E2A3 (H.dict hm) fun es n e f g=>?_
 have hlen:=f.length
 refine wpAny_bind (D.find (A:=A.in1) (ks:=ps.map (·.1)) hu (D.rep.mono H.sub hk) e rfl (F2keys f H.sub) g ?_)
 have L:=idx_look ps k
 cases hi:idx (ps.map (·.1)) k with
 | some i=>
  rw[hi] at L
  dsimp only at L ⊢
  refine wpAny_bind (wpAny_dictEntries e rfl ?_)
  have hlt:i<ps.length:=by
   unfold idx at hi
   obtain⟨q,_⟩:=List.findIdx?_eq_some_iff_getElem.mp hi
   exact Nat.lt_of_lt_of_eq q (List.length_map ..)
  have e1:ps[i]? = some ps[i]:=List.getElem?_eq_getElem hlt
  refine E1A2 (f.get' e1) fun en e2 r=>?_
  rw[e1] at L
  rw[List.getElem?_toArray,e2]
  exact wpAny_bind (wpAny_rule (wpAny_pure (wpAny_pure ⟨_,rfl,h1 _ L.symm en.val s r.2.2 H⟩)))
 | none=>
  rw[hi] at L
  refine E2A3 (h2 L.symm) fun b led' hv U h2=>?_
  refine E0A2 (put_rep (b:=b) f hk hv) fun p1 p2=>?_
  refine wpAny_bind (wpAny_rule ?_)
  refine wpAny_bind (wpAny_updateDictKeys (es:=es.toArray) (ep:=n) (hz:=by rw[List.size_toArray,sizeLine_eq]; exact eq2 (by assumption) (tr1 (by assumption) rfl)) e rfl ?_)
  refine wpAny_pure (wpAny_pure ⟨_,rfl,h2 _ (H.upd (tk:=s.toks) U (Heap.SameBut.update ..) ⟨_,Heap.get?_update_self _ e rfl,es++[⟨D.hash k,key,dflt⟩],n+1,?_,p2 hi,put_nodup _ _ _ g⟩)⟩)
  simp[Obj.mapDictKeys]
theorem erase_keys:∀(l:List (κ×β)) (i:Nat),(l.eraseIdx i).map (·.1)=(l.map (·.1)).eraseIdx i
 | [],i=>by obtain⟨⟩:=i <;> rfl
 | x::l,0=>rfl
 | x::l,i+1=>by simp[erase_keys l i]
theorem takeOut_ {Q:Option DictEntry→Shared→Prop} (H:At σ P led s) (U:Upd d (Asn.dict D V ps) (Asn.dict D V (cut ps k)) led led') (hu:A.units<cLine) (hk:D.rep.is P k key) (hz:ps.length≤1000) (hin:(look ps k).isSome=true)
  (h:∀e s',At σ P led' s'→Q (some e) s'):wpAny (model prog w) A (Builtin.Dict.takeOut d key) Q E s:=by
 refine wpAny_holding ?_
 refine wpAny_bind (D.pyHash hu (D.rep.mono H.sub hk) fun tk=>?_)
 replace H:=H.tok (tk:=tk)
 generalize { s with toks:=tk }=s at *
 refine E2A3 (H.dict U.mem) fun es n e f g=>?_
 have hlen:=f.length
 refine wpAny_bind (D.find (ks:=ps.map (·.1)) hu (D.rep.mono H.sub hk) e rfl (F2keys f H.sub) g ?_)
 have L:=idx_look ps k
 cases hi:idx (ps.map (·.1)) k with
 | none=>rw[hi] at L; rw[←L] at hin; contradiction
 | some i=>
  rw[hi] at L
  dsimp only at L ⊢
  refine wpAny_bind (wpAny_dictEntries e rfl ?_)
  have hlt:i<ps.length:=by
   unfold idx at hi
   obtain⟨q,_⟩:=List.findIdx?_eq_some_iff_getElem.mp hi
   exact Nat.lt_of_lt_of_eq q (List.length_map ..)
  have e1:ps[i]? = some ps[i]:=List.getElem?_eq_getElem hlt
  refine E1A2 (f.get' e1) fun en e2 r=>?_
  rw[List.getElem?_toArray,e2]
  refine wpAny_bind (wpAny_updateDictKeys (es:=es.toArray) (ep:=n) (hz:=by rw[List.size_toArray,sizeLine_eq]; exact eq2 (by assumption) (tr1 (by assumption) rfl)) e rfl ?_)
  have hcut:cut ps k=ps.eraseIdx i:=by unfold cut; rw[hi]
  refine wpAny_pure (h en _ (H.upd (tk:=s.toks) U (Heap.SameBut.update ..) ⟨_,Heap.get?_update_self _ e rfl,es.eraseIdx i,n+1,⟨?_,fun _ q=>by cases q⟩,?_,?_⟩))
  ·simp[Obj.mapDictKeys]
  ·rw[hcut]; exact f.erase i
  ·rw[hcut,erase_keys]; exact g.sublist (List.eraseIdx_sublist ..)
theorem takeOut_none {Q:Option DictEntry→Shared→Prop} (H:At σ P led s) (hm:(d,Asn.dictX D V ps ep)∈led) (hu:A.units<cLine) (hk:D.rep.is P k key) (hin:look ps k=none)
  (h:∀s',At σ P led s'→Q none s'):wpAny (model prog w) A (Builtin.Dict.takeOut d key) Q E s:=by
 refine wpAny_holding ?_
 refine wpAny_bind (D.pyHash hu (D.rep.mono H.sub hk) fun tk=>?_)
 replace H:=H.tok (tk:=tk)
 generalize { s with toks:=tk }=s at *
 refine E2A3 (H.dict hm) fun es n e f g=>?_
 refine wpAny_bind (D.find (ks:=ps.map (·.1)) hu (D.rep.mono H.sub hk) e rfl (F2keys f H.sub) g ?_)
 rw[look_none_idx.mp hin]
 exact wpAny_pure (h s H)
theorem r_delitem {Q:Unit→Shared→Prop} (H:At σ P led s) (U:Upd d (Asn.dict D V ps) (Asn.dict D V (cut ps k)) led led') (hu:A.units+1<cLine) (hk:D.rep.is P k key) (hz:ps.length≤1000) (hin:(look ps k).isSome=true)
  (h:∀s',At σ P led' s'→Q () s'):wpAny (model prog w) A (delItem (.ref d) key) Q E s:=by
 have hT:=H.dictT U.mem
 refine wpAny_delItem_slot hT (by decide) F.slot_dict_delitem (wpAny_call_entry F.slot_dict_delitem hT F.entry_dict_delitem ?_ (F.args_dict_delitem_2 _ _))
 refine wpAny_bind ?_
 refine wpAny_bind (wpAny_notOrdered_dict hT ?_)
 refine wpAny_pure ?_
 show wpAny _ _ (Builtin.Dict.takeOut d key >>= _) _ _ s
 refine wpAny_bind (takeOut_ (A:=A.in1) H U hu hk hz hin fun e s' H'=>?_)
 exact wpAny_bind (wpAny_letGo (wpAny_pure ⟨_,rfl,h s' H'⟩))
end
end
end Mine
namespace Mine
noncomputable section
structure EqR {β:Type} [DecidableEq β] (V:Rep β) (n:Nat):Prop where
 inj:∀ {P:Heap} {x y:β} {v:Value},V.is P x v→V.is P y v→x=y
 eq:∀ {A:Around} {s:Shared} {x y:β} {u v:Value},A.units+n<cLine→V.is s.heap x u→V.is s.heap y v→SeqAt.EqAt A s u v (decide (x=y))
theorem EqR.int:EqR Rep.int 0 where
 inj:=fun zz335 zz336=>E1A1 zz335 fun t e=>E1A1 zz336 fun t' e'=>by rw[e] at e'; exact(Value.int.inj e').1
 eq:=fun {A s x y u v} _ zz319 zz320=>E1A1 zz319 fun t e=>E1A1 zz320 fun t' e'=>by
  subst e e'
  have:=SeqAt.EqAt.int_int (A:=A) (s:=s) x t y t'
  have q:(x == y)=decide (x=y):=by by_cases h:x=y <;> simp[h]
  rwa [q] at this
theorem EqR.pair {β γ:Type} [DecidableEq β] [DecidableEq γ] {V:Rep β} {W:Rep γ} {n:Nat} (hV:EqR V n) (hW:EqR W n):EqR (Rep.pair V W) (n+1) where
 inj:=fun {P x y v} ⟨a,u,u',k,e,g,p,q⟩ ⟨b,w,w',k',e',g',p',q'⟩=>by
  rw[e] at e'
  injection e' with e'
  subst e'
  rw[g] at g'
  simp only[Option.some.injEq,Obj.mk.injEq,Data.seq.injEq,true_and,and_true] at g'
  obtain⟨h1,h2⟩:=g'
  have h1:=congrArg Array.toList h1
  simp only[List.cons.injEq,and_true] at h1
  obtain⟨rfl,rfl⟩:=h1
  exact Prod.ext (hV.inj p p') (hW.inj q q')
 eq:=fun {A s x y u v} hu ⟨a,u1,u2,k,e,g,p,q⟩ ⟨b,w1,w2,k',e',g',p',q'⟩=>by
  subst e e'
  by_cases hab:a=b
  ·subst hab
   have:x=y:=by
    rw[g] at g'
    simp only[Option.some.injEq,Obj.mk.injEq,Data.seq.injEq,true_and,and_true] at g'
    obtain⟨h1,h2⟩:=g'
    have h1:=congrArg Array.toList h1
    simp only[List.cons.injEq,and_true] at h1
    obtain⟨rfl,rfl⟩:=h1
    exact Prod.ext (hV.inj p p') (hW.inj q q')
   subst this
   have:=SeqAt.EqAt.same (A:=A) (s:=s) (.ref a)
   simpa using this
  ·refine SeqAt.EqAt.of_refs hab ?_
   have ht:=SeqAt.RcAt.tuples (A:=A) (s:=s) (l:=a) (b:=b) (items:=#[u1,u2]) (items2:=#[w1,w2]) (e:=fun j=>if j=0 then decide (x.1=y.1) else decide (x.2=y.2)) ⟨_,g,rfl,_,rfl⟩ ⟨_,g',rfl,_,rfl⟩ (by lia) fun j h1 h2=>by
    have hj:j=0∨j=1:=by simp at h1; exact lt2 (by assumption)
    rcases hj with rfl|rfl
    ·exact hV.eq (A:=A.in1) (by show A.units+1+n<cLine; lia) p p'
    ·exact hW.eq (A:=A.in1) (by show A.units+1+n<cLine; lia) q q'
   have e:((List.range (min #[u1,u2].size #[w1,w2].size)).all (fun j=>if j=0 then decide (x.1=y.1) else decide (x.2=y.2)) && #[u1,u2].size == #[w1,w2].size)=decide (x=y):=by
    have h2:List.range (min #[u1,u2].size #[w1,w2].size)=[0,1]:=by simp[List.range,List.range.loop]
    rw[h2]
    obtain⟨x1,x2⟩:=x
    obtain⟨y1,y2⟩:=y
    by_cases e1:x1=y1 <;> by_cases e2:x2=y2 <;> simp[e1,e2]
   rwa [e] at ht
section
variable {prog:Program} {w:World} {κ β:Type} {di:DecidableEq κ} {db:DecidableEq β} {D:DKind prog w κ} {V:Rep β} {ps qs:List (κ×β)} {xs ys:List β} {l m d d':Addr}
 {σ:Shared} {P:Heap} {led:List (Addr×Asn)} {s:Shared} {A:Around} {E:Value→Shared→Prop} {n:Nat} {ep ep':Option Nat}
theorem list_all_eq {β:Type} [DecidableEq β] {V:Rep β} {xs ys:List β} {P:Heap} {vs ws:List Value} (fx:F2 (V.is P) xs vs) (fy:F2 (V.is P) ys ws) (hl:xs.length=ys.length) :
  ((List.range vs.length).all fun j=>decide (xs[j]? = ys[j]?))=decide (xs=ys):=by
 have e:vs.length=xs.length:=fx.length.symm
 rw[e]
 by_cases h:xs=ys
 ·subst h; simp
 ·rw[decide_eq_false h]
  rcases hq:(List.range xs.length).all fun j=>decide (xs[j]? = ys[j]?) with _|_
  ·rfl
  ·
   refine absurd (List.ext_getElem? fun j=>?_) h
   rcases Nat.lt_or_ge j xs.length with q|q
   ·exact of_decide_eq_true (List.all_eq_true.mp hq j (List.mem_range.mpr q))
   ·simp only[List.getElem?_eq_none q,List.getElem?_eq_none (hl▸q)]
theorem items_eq (hV:EqR V n) {A:Around} (hu:A.units+n<cLine) {vs ws:Array Value} (fx:F2 (V.is s.heap) xs vs.toList) (fy:F2 (V.is s.heap) ys ws.toList) :
  ∀j (h1:j<vs.size) (h2:j<ws.size),SeqAt.EqAt A s vs[j] ws[j] (decide (xs[j]? = ys[j]?)):=fun j h1 h2=>by
 refine E1A2 (fx.get (i:=j) (b:=vs[j]) (by simp[h1])) fun x hx hxr=>?_
 refine E1A2 (fy.get (i:=j) (b:=ws[j]) (by simp[h2])) fun y hy hyr=>?_
 simp only[hx,hy]
 have:=hV.eq (A:=A) hu hxr hyr
 simpa using this
noncomputable def dictEqB {κ β:Type} [DecidableEq κ] [DecidableEq β] (ps qs:List (κ×β)):Bool:=ps.length == qs.length && ps.all fun p=>decide (look qs p.1=some p.2)
theorem samePairs_ {nm:String} {Q:Bool→Shared→Prop} {K:Frag} (X:Src K P) (hV:EqR V n) (H:At σ P led s) (h1:(d,Asn.dictX D V ps ep)∈led) (h2:(d',Asn.dictX D V qs ep')∈led) (hu:A.units+n<cLine)
  (h:Q (dictEqB ps qs) s):wpAny (model prog w) A (Builtin.Dict.samePairs nm d d') Q E s:=by
 refine E2A3 (H.dict h1) fun es k e f g=>?_
 refine E2A3 (H.dict h2) fun es' k' e' f' g'=>?_
 have lf:=f.length
 have lf':=f'.length
 have hu0:A.units<cLine:=by lia
 unfold Builtin.Dict.samePairs Builtin.Dict.showsAll
 rw[if_neg (by rw[H.noSys X h1]; exact Bool.false_ne_true),if_neg (by rw[H.noSys X h2]; exact Bool.false_ne_true)]
 refine wpAny_bind (wpAny_pure (wpAny_bind (wpAny_pure ?_)))
 refine wpAny_bind (wpAny_dictEntries e rfl ?_)
 refine wpAny_bind (wpAny_dictEntries e' rfl ?_)
 unfold dictEqB at h
 by_cases hsz:ps.length=qs.length
 case neg=>
  rw[if_pos (by simp[←lf,←lf',hsz])]
  have hbf:(ps.length == qs.length)=false:=by exact decide_eq_false hsz
  simp only[hbf,Bool.false_and] at h
  exact wpAny_bind (wpAny_rule (wpAny_pure h))
 case pos=>
  rw[if_neg (by simp[←lf,←lf',hsz])]
  have hbt:(ps.length == qs.length)=true:=by exact decide_eq_true hsz
  simp only[hbt,Bool.true_and] at h
  refine wpAny_bind (wpAny_dictEpoch e rfl ?_)
  refine wpAny_bind ?_
  rw[Std.Legacy.Range.forIn_eq_forIn_range']
  refine wpAny_forIn_list _
   (fun rest q s'=>s'=s∧q=(none,())∧∃i,rest=List.range' i (es.length - i)∧i≤es.length∧(ps.all fun p=>decide (look qs p.1=some p.2))=((ps.drop i).all fun p=>decide (look qs p.1=some p.2)))
   _ ?_ ?_ _ _ ⟨rfl,rfl,0,by simp,Nat.zero_le _,rfl⟩
  ·rintro x rest q s' ⟨rfl,rfl,i,hr,hi,hpre⟩
   have hlt:i<es.length:=by
    rcases Nat.lt_or_ge i es.length with h|h
    ·exact h
    ·rw[Nat.sub_eq_zero_of_le h] at hr; simp at hr
   obtain⟨rfl,hrest⟩:x=i∧rest=List.range' (i+1) (es.length - (i+1)):=by
    have e:es.length - i=(es.length - (i+1))+1:=by exact sb9 (by assumption)
    simp only[e,List.range'_succ] at hr
    injection hr with h1 h2
    exact⟨h1,h2⟩
   refine E1A2 (f.get (List.getElem?_eq_getElem hlt)) fun p hp hrep=>?_
   have hdrop:ps.drop x=p::ps.drop (x+1):=drop_at hp
   simp only[hdrop,List.all_cons] at hpre
   refine wpAny_bind (wpAny_dictEntries e rfl ?_)
   rw[List.getElem?_toArray,List.getElem?_eq_getElem hlt]
   show wpAny _ _ (holding [es[x].key,es[x].val] _ >>= _) _ _ _
   rw[hrep.1]
   refine wpAny_bind (wpAny_holding (wpAny_bind (D.find (ks:=qs.map (·.1)) (k:=p.1) hu0 (D.rep.mono H.sub hrep.2.1) e' rfl (F2keys f' H.sub) g' ?_)))
   have L:=idx_look qs p.1
   cases hj:idx (qs.map (·.1)) p.1 with
   | none=>
    rw[hj] at L
    have L:look qs p.1=none:=L.symm
    rw[hpre,L] at h
    refine wpAny_pure ?_
    show wpAny _ _ (if(!false)=true then _ else _) _ _ _
    exact wpAny_pure (wpAny_pure (by exact h))
   | some j=>
    rw[hj] at L
    dsimp only at L
    have hjl:j<qs.length:=by
     unfold idx at hj
     obtain⟨q,_⟩:=List.findIdx?_eq_some_iff_getElem.mp hj
     exact Nat.lt_of_lt_of_eq q (List.length_map ..)
    have e1:qs[j]? = some qs[j]:=List.getElem?_eq_getElem hjl
    refine E1A2 (f'.get' e1) fun en e2 hrep'=>?_
    rw[e1] at L
    refine wpAny_bind (wpAny_dictEntries e' rfl ?_)
    rw[List.getElem?_toArray,e2]
    have he:=hV.eq (A:=A) hu (V.mono H.sub hrep.2.2) (V.mono H.sub hrep'.2.2)
    refine wpAny_holding (he prog w _ _ ?_)
    have hL:decide (look qs p.1=some p.2)=decide (p.2=qs[j].2):=by
     rw[←L]
     by_cases c:p.2=qs[j].2
     ·simp[c]
     ·have c':¬(qs[j].2=p.2):=fun q=>c q.symm
      simp[c,c']
    rw[hL] at hpre
    by_cases c:p.2=qs[j].2
    ·rw[decide_eq_true c] at hpre ⊢
     refine wpAny_bind (wpAny_dictEpoch e rfl ?_)
     rw[if_neg (by simp)]
     exact wpAny_pure ⟨rfl,rfl,x+1,hrest,hlt,by rw[hpre,Bool.true_and]⟩
    ·rw[decide_eq_false c] at hpre ⊢
     simp only[hpre,Bool.false_and] at h
     exact wpAny_pure (wpAny_pure h)
  ·rintro q s' ⟨rfl,rfl,i,hr,hi,hpre⟩
   have hin:i=es.length:=by
    rcases Nat.lt_or_ge i es.length with h|h
    ·have e:es.length - i=(es.length - (i+1))+1:=by exact sb9 (by assumption)
     rw[e,List.range'_succ] at hr; exact nomatch hr
    ·exact Nat.le_antisymm hi h
   refine wpAny_pure ?_
   simp only[hin,←lf,List.drop_length] at hpre
   rw[hpre] at h
   exact h
theorem r_dicteq {Q:Value→Shared→Prop} {K:Frag} (X:Src K P) (hV:EqR V n) (H:At σ P led s) (h1:(d,Asn.dictX D V ps ep)∈led) (h2:(d',Asn.dictX D V qs ep')∈led) (hu:A.units+n+1<cLine)
  (h:Q (.bool (dictEqB ps qs)) s):wpAny (model prog w) A (compareOp .Eq (.ref d) (.ref d')) Q E s:=by
 have hT:=H.dictT h1
 refine wpAny_richCompare_same_room (op:=.Eq) hT (H.dictT h2) PySem.F.slot_dict_eq (wpAny_call_entry PySem.F.slot_dict_eq hT PySem.F.entry_dict_eq ?_ (PySem.F.args_dict_eq_2 _ _)) (by lia)
 refine wpAny_bind ?_
 refine wpAny_bind (wpAny_notOrdered_dict hT ?_)
 refine wpAny_pure ?_
 refine wpAny_bind (wpAny_isInstance (T:="dict") (H.dictT h2) PySem.F.sub_dict_dict ?_)
 refine wpAny_bind (wpAny_pure (wpAny_bind (wpAny_pure ?_)))
 refine wpAny_bind (samePairs_ X hV H h1 h2 (A:=A.in1) (by show A.units+1+n<cLine; lia) ?_)
 refine wpAny_pure ⟨_,rfl,?_,?_⟩
 ·exact fun x=>nomatch x
 ·simpa using h
theorem r_dictne {Q:Value→Shared→Prop} {K:Frag} (X:Src K P) (hV:EqR V n) (H:At σ P led s) (h1:(d,Asn.dictX D V ps ep)∈led) (h2:(d',Asn.dictX D V qs ep')∈led) (hu:A.units+n+1<cLine)
  (h:Q (.bool (!dictEqB ps qs)) s):wpAny (model prog w) A (compareOp .NotEq (.ref d) (.ref d')) Q E s:=by
 have hT:=H.dictT h1
 refine wpAny_richCompare_same_room (op:=.NotEq) hT (H.dictT h2) PySem.F.slot_dict_ne (wpAny_call_entry PySem.F.slot_dict_ne hT PySem.F.entry_dict_ne ?_ (PySem.F.args_dict_ne_2 _ _)) (by lia)
 refine wpAny_bind ?_
 refine wpAny_bind (wpAny_notOrdered_dict hT ?_)
 refine wpAny_pure ?_
 refine wpAny_bind (wpAny_isInstance (T:="dict") (H.dictT h2) PySem.F.sub_dict_dict ?_)
 refine wpAny_bind (wpAny_pure (wpAny_bind (wpAny_pure ?_)))
 refine wpAny_bind (samePairs_ X hV H h1 h2 (A:=A.in1) (by show A.units+1+n<cLine; lia) ?_)
 refine wpAny_pure ⟨_,rfl,?_,?_⟩
 ·exact fun x=>nomatch x
 ·simpa using h
end
end
end Mine
namespace Mine
noncomputable section
noncomputable def okT (n:Nat):KasT (Array Nat)→Bool
 | .ret p=>p.toList.isPerm (List.range n)
 | .ask i j k=>decide (i<n) && decide (j<n) && okT n (k true) && okT n (k false)
theorem okT_6:((List.range 7).all fun n=>okT n (kas_sort n))=true:=by decide +kernel
theorem okT_sort {n:Nat} (h:n≤6):okT n (kas_sort n)=true:=List.all_eq_true.mp okT_6 n (List.mem_range.mpr (by lia))
theorem okT_run {cmp:Nat→Nat→(Bool→Shared→Prop)→Shared→Prop} {I:Shared→Prop} {n:Nat} (hc:∀i j C s,i<n→j<n→I s→(∀b s',I s'→C b s')→cmp i j C s) :
  ∀(t:KasT (Array Nat)) (s:Shared),okT n t=true→I s→t.kasWp cmp (fun p s'=>p.toList.Perm (List.range n)∧I s') s
 | .ret p,s,h,hI=>⟨List.isPerm_iff.mp h,hI⟩
 | .ask i j k,s,h,hI=>by
  simp only[okT,Bool.and_eq_true,decide_eq_true_eq] at h
  refine hc i j _ s h.1.1.1 h.1.1.2 hI fun b s' hI'=>?_
  rcases b with _|_
  rotate_left
  ·exact okT_run hc (k true) s' h.1.2 hI'
  ·exact okT_run hc (k false) s' h.2 hI'
end
end Mine
namespace Mine
noncomputable section
section
variable {prog:Program} {w:World} {σ:Shared} {P:Heap} {led led':List (Addr×Asn)} {s:Shared} {A:Around} {E:Value→Shared→Prop} {S:Addr} {ps:List (Int×Int)}
noncomputable abbrev PII:Rep (Int×Int):=Rep.pair Rep.int Rep.int
theorem lt_pairs {p q:Int×Int} {u v:Value} {C:Bool→Shared→Prop} (hu:A.units<cLine) (H:At σ P led s) (hp:PII.is P p u) (hq:PII.is P q v) (h:∀b s',At σ P led s'→C b s'):wpAny (model prog w) A (keyLt' (tuples' true) u v) C (fun _ _=>False) s:=by
 refine E4A4 (hp) fun a x1 x2 n ee119 g zz120 zz121=>?_
 clear hp
 obtain⟨t1,rfl⟩:=zz120
 obtain⟨t2,rfl⟩:=zz121
 subst ee119
 refine E4A4 (hq) fun b y1 y2 k ee113 g' zz114 zz115=>?_
 clear hq
 obtain⟨t3,rfl⟩:=zz114
 obtain⟨t4,rfl⟩:=zz115
 subst ee113
 have hC:∀b,C b s:=fun b=>h b s H
 refine kat_lt (H.sub _ _ g) rfl (H.sub _ _ g') rfl ?_
 have eq:∀ {a b:Int} {t u:Tok} {Q:Bool→Shared→Prop},Q (decide (a=b)) s→wpAny (model prog w) A (eqBool (.int a t) (.int b u)) Q (fun _ _=>False) s:=fun {a b t u Q} hq=>
  EqR.eq EqR.int (A:=A) (x:=a) (y:=b) hu ⟨t,rfl⟩ ⟨u,rfl⟩ _ _ _ _ hq
 refine kat_cons (eq (kat_go (fun _=>kat_yes (kat_cons (eq (kat_go (fun _=>kat_yes (kat_nil (hC _))) fun _=>kat_no (kat_one _ _ (cmpI_run (op:=.Lt) rfl (hC _))))))) fun _=>kat_no (oneLt_int (hC _))))
theorem range_map {α:Type} (d:α) (l:List α):(List.range l.length).map (fun i=>l.getD i d)=l:=by
 apply List.ext_getElem?
 intro i
 by_cases h:i<l.length
 ·rw[List.getElem?_map,List.getElem?_range h,Option.map_some,List.getD_eq_getElem?_getD,List.getElem?_eq_getElem h]; rfl
 ·rw[List.getElem?_eq_none (by simpa using h),List.getElem?_eq_none (by simpa using h)]
theorem r_sort {Q:Value→Shared→Prop} (hu:A.units+1<cLine) (H:At σ P ((S,Asn.list PII ps)::led) s) (hz:ps.length≤6) (h:∀qs s',qs.Perm ps→At σ P ((S,Asn.list PII qs)::led) s'→Q .none s') :
  wpAny (model prog w) A (call (.builtin "list.sort") [.ref S]) Q E s:=by
 refine E2A2 (H.list (.head _)) fun vs n e f=>?_
 obtain⟨vs⟩:=vs
 have hl:ps.length=vs.length:=by have:=f.length; simpa using this
 replace f:F2 (PII.is P) ps vs:=f
 refine wpAny_call_entry slot_list_sort ⟨_,e,rfl⟩ entry_list_sort ?_ (args_list_sort _)
 rw[list_sort_plain]
 refine wpAny_bind (listItems_at e rfl ?_)
 refine wpAny_bind (listUpdate_at e rfl ?_ (by rw[sizeLine_eq,List.size_toArray]; exact eq2 (by assumption) (tr1 (by assumption) rfl)) (Nat.zero_le _))
 obtain⟨n1,e1⟩:∃n1,(s.heap.update S (Obj.mapSeq fun _=>(#[]:Array Value))).get? S=some (listOf #[] n1):=⟨_,IsL.update (show IsL s.heap S vs.toArray n from e) fun _=>#[]⟩
 have H1:=H.upd (R':=Asn.eq (listOf #[] n1)) (tk:=s.toks) .head (Heap.SameBut.update (f:=Obj.mapSeq (fun _=>(#[]:Array Value))) ..) ⟨_,e1,rfl⟩
 refine wpAny_bind (seqEpoch_at e1 rfl ?_)
 refine wpAny_bind (wpAny_newTuple ?_ (by rw[sizeLine_eq]; simp; exact eq2 (by assumption) (tr1 (by assumption) rfl)))
 have H2:=At.drop (At.push H1 (R:=Asn.eq { cls:=.type "tuple",data:=.seq vs.toArray }) rfl rfl)
 refine wpAny_bind (wpAny_newList ?_ (Nat.zero_le _))
 have H3:=At.drop (At.push H2 (R:=Asn.eq { cls:=.type "list",data:=.seq #[] }) rfl rfl)
 refine wpAny_holding ?_
 dsimp only
 replace H3:At σ P ((S,Asn.eq (listOf #[] n1))::led) { s with heap:=((s.heap.update S (Obj.mapSeq fun _=>(#[]:Array Value))).push { cls:=.type "tuple",data:=.seq vs.toArray }).push { cls:=.type "list",data:=.seq #[] } }:=H3
 clear H1 H2
 generalize ({ s with heap:=((s.heap.update S (Obj.mapSeq fun _=>(#[]:Array Value))).push { cls:=.type "tuple",data:=.seq vs.toArray }).push { cls:=.type "list",data:=.seq #[] } }:Shared)=s3 at *
 have e3:=H3.obj (.head _)
 have fill:∀(p:List Nat) (s4:Shared) (Q':Unit→Shared→Prop),p.Perm (List.range vs.length)→At σ P ((S,Asn.eq (listOf #[] n1))::led) s4→(∀qs s',qs.Perm ps→At σ P ((S,Asn.list PII qs)::led) s'→Q' () s') →
   wpAny (model prog w) A.in1 (Builtin.List.listUpdate (.ref S) fun _=>(p.map fun i=>vs.getD i .none).toArray) Q' (fun e s'=>E e s') s4:=fun p s4 Q' hp H4 hq=>by
  have e4:=H4.obj (.head _)
  have hpl:=hp.length_eq
  rw[List.length_range] at hpl
  refine listUpdate_at e4 rfl (hq (p.map fun i=>ps.getD i (0,0)) _ ?_ (H4.upd (R':=Asn.list PII (p.map fun i=>ps.getD i (0,0))) (tk:=s4.toks) .head (Heap.SameBut.update ..) ⟨_,Heap.get?_update_self _ e4 rfl,(p.map fun i=>vs.getD i .none).toArray,_,rfl,?_⟩)) (Nat.zero_le _) (by rw[sizeLine_eq,List.size_toArray,List.length_map]; lia)
  ·refine(hp.map _).trans ?_
   rw[←hl,range_map]
  ·have hin:∀i∈p,i<vs.length:=fun i hi=>List.mem_range.mp (hp.subset hi)
   clear hp hpl
   show F2 (PII.is P) (p.map fun i=>ps.getD i (0,0)) (p.map fun i=>vs.getD i .none)
   induction p with
   | nil=>exact .nil
   | cons i r ih=>
    refine .cons ?_ (ih fun j hj=>hin j (.tail _ hj))
    have hi:=hin i (.head _)
    refine E1A2 (f.get (List.getElem?_eq_getElem hi)) fun a ha hr=>?_
    show PII.is P (ps.getD i (0,0)) (vs.getD i .none)
    simp only[List.getD_eq_getElem?_getD,List.getD_eq_getElem?_getD,ha,List.getElem?_eq_getElem hi]
    exact hr
 by_cases h2:vs.toArray.size<2
 ·rw[if_pos h2,if_pos h2]
  refine wpAny_bind (wpAny_pure ?_)
  rw[StateT.run_pure]
  refine wpAny_bind (wpAny_pure ?_)
  dsimp only
  refine wpAny_bind (seqEpoch_at e3 rfl ?_)
  have hs:(vs.toArray.zip vs.toArray).map (·.2)=((List.range vs.length).map fun i=>vs.getD i .none).toArray:=by
   rw[range_map]
   apply Array.toList_inj.mp
   simp[List.map_snd_zip]
  rw[hs]
  refine wpAny_bind (fill _ s3 _ (List.Perm.refl _) H3 fun qs s5 hq H5=>?_)
  simp only[bne_self_eq_false,Bool.false_eq_true,if_false]
  exact wpAny_pure ⟨_,rfl,h qs s5 hq H5⟩
 ·rw[if_neg h2,if_neg h2]
  obtain⟨fs,hfs,hfl,hfi⟩:∃fs,KatTups s3.heap vs fs∧vs.length=fs.length∧∀v∈fs,∃i t,v=.int i t:=by
   have k:=H3.sub
   clear fill h2 hl e3 e hz h H e1 H3
   induction f with
   | nil=>exact⟨[],trivial,rfl,fun _ h=>absurd h (List.not_mem_nil)⟩
   | cons hp _ ih=>
    refine E4A4 (hp) fun a u1 u2 q ee88 g zz89 _=>?_
    clear hp
    obtain⟨t1,rfl⟩:=zz89
    subst ee88
    refine E1A3 (ih) fun fs h1 hl h2=>?_
    clear ih
    exact⟨_::fs,KatTups.cons (k _ _ g) rfl rfl rfl h1,by rw[List.length_cons,List.length_cons,hl],fun v hv=>by
     rcases List.mem_cons.mp hv with rfl|hv
     ·exact⟨_,_,rfl⟩
     ·exact h2 v hv⟩
  refine wpAny_bind (kat_kind (T:=.type "int") hfs (by rw[←hfl]; simp at h2; exact Nat.le_of_lt (by assumption)) (fun v hv=>by
   refine E2A1 (hfi v hv) fun i t ee69=>?_
   subst ee69
   exact Looks.of_pure rfl) (beq_self_eq_true _) ?_)
  rw[show(Value.type "int" != Value.type "tuple")=true from by decide]
  refine wpAny_bind (wpAny_mono (kat_run (Q:=fun st' s'=>∃p:Array Nat,arrOf st'=p.map (kas_item (vs.toArray.zip vs.toArray))∧failedOf st'=none∧p.toList.Perm (List.range vs.length)∧At σ P ((S,Asn.eq (listOf #[] n1))::led) s')
   (G:=fun p s'=>p.toList.Perm (List.range vs.length)∧At σ P ((S,Asn.eq (listOf #[] n1))::led) s') rfl (by simp at h2; exact(by assumption)) (by lia) (fun p st' s' _ a2 a3 zz60=>E0A2 zz60 fun a4 a5=>⟨p,a2,a3,a4,a5⟩)
   (okT_run (fun i j C s4 hi hj H4 hC=>?_) _ _ (okT_sort (by exact eq2 (by assumption) (by assumption))) H3)) ?_ fun _ _ e=>e)
  ·have hget:∀ {i},i<vs.length→∃x,PII.is P x (vs.getD i .none):=fun {i} hi=>by
    refine E1A2 (f.get (List.getElem?_eq_getElem hi)) fun a _ hr=>?_
    exact⟨a,by rw[List.getD_eq_getElem?_getD,List.getElem?_eq_getElem hi]; exact hr⟩
   obtain⟨x,hx⟩:=hget hi
   obtain⟨y,hy⟩:=hget hj
   exact lt_pairs (A:=A.in1) hu H4 hx hy hC
  ·rintro⟨⟨⟩,st'⟩ s4 ⟨p,har,hf,hp,H4⟩
   refine wpAny_bind (seqEpoch_at (H4.obj (.head _)) rfl ?_)
   rw[kat_snds rfl har]
   refine wpAny_bind (fill p.toList s4 _ hp H4 fun qs s5 hq H5=>?_)
   rw[hf]
   simp only[bne_self_eq_false,Bool.false_eq_true,if_false]
   exact wpAny_pure ⟨_,rfl,h qs s5 hq H5⟩
end
end
end Mine
namespace Mine
noncomputable section
section
variable {prog:Program} {w:World} {σ:Shared} {P:Heap} {led led':List (Addr×Asn)} {s:Shared} {A:Around} {E:Value→Shared→Prop} {d vw:Addr} {ps:List (Int×Int)}
theorem r_sortedItems {Q:Value→Shared→Prop} (hh:A.handled=none) (hu:A.units+4<cLine) (H:At σ P led s) (hv:(vw,View "dict_items" d)∈led) (hm:(d,Asn.dict (DKind.int prog w) Rep.int ps)∈led) (hz:ps.length≤6)
  (h:∀P' q qs s',Sub P P'→qs.Perm ps→At σ P' ((q,Asn.list PII qs)::led) s'→Q (.ref q) s'):wpAny (model prog w) A (call (.builtin "sorted") [.ref vw]) Q E s:=by
 refine E1A1 (At.pin H hm) fun ep hp=>?_
 refine E1A1 (Upd.ex (Asn.dictX (DKind.int prog w) Rep.int ps (some ep)) hm) fun led' U=>?_
 have H1:=hp led' U
 have hv':=U.other hv (view_ne H hv hm)
 have L:Lsrc prog w σ P led' vw "dict_items" ps.length (ItemIt d ps.length ep) (needD d (DKind.int prog w) Rep.int ps ep) (fun P i v=>∃x,ps[i]? = some x∧PII.is P x v):=Lsrc.items (D:=DKind.int prog w) hv' U.mem'
 refine call_function_entry kind_sorted plain_sorted entry_sorted (args_sorted1 _) ?_
 refine wpAny_bind (m:=checkCount "sorted" 1 1 _) (wpAny_pure ?_)
 refine wpAny_bind ?_
 show wpAny _ _ (collect (.ref vw)) _ _ s
 refine wpAny_bind (wpAny_runValue (codeAny_builtin entry_proto_collect' ?_))
 rw[Around.under_plainId PySem.F.plain_proto_collect _]
 show wpAny _ _ (newList [] >>= fun l=>again (.builtin "list.__iadd__" ⟨[l,.ref vw],[]⟩)) _ _ s
 refine wpAny_bind (wpAny_newObj_type ?_ (Nat.zero_le _))
 refine wpAny_pure ⟨plainId_quiet PySem.F.plain_list_iadd _,codeAny_builtin entry_list_iadd' ?_⟩
 rw[Around.under_plainId PySem.F.plain_list_iadd _]
 have hSr:=Nat.ne_of_gt (H.lt hv)
 have H2:=At.push H1 (R:=Asn.list PII []) (o:=listOf #[] 0) ⟨#[],0,rfl,.nil⟩ rfl
 generalize s.heap.objs.size=S at *
 have fin:∀s1,(∃P1,Sub P P1∧At σ P1 ((S,Asn.list PII ps)::led') s1)→wpAny (model prog w) A.in1 (load S >>= fun o=>match o.data with|.seq xs _=>pure xs.toList|_=>unsupported "internal:collect")
   (fun a s'=>wpAny (model prog w) A.in1 (do let l ←newList a; let _ ←holding [l] (call (.builtin "list.sort") [l] []); ret l) (fun fin s'=>∃v,fin=Fin.done (Flow.ret v)∧Q v s') E s') E s1:=by
  intro s1 hz4
  refine E1A2 hz4 fun P1 k1 H3=>?_
  clear hz4
  refine E2A2 (H3.list (.head _)) fun vs n e f=>?_
  have hl:ps.length=vs.size:=by have:=f.length; simpa using this
  refine wpAny_bind (wpAny_load e (wpAny_pure ?_))
  refine wpAny_bind (wpAny_newList ?_ (by rw[sizeLine_eq]; simp; exact eq2 (by assumption) (tr1 (by assumption) rfl)))
  have H4:=At.push (H3.drop) (R:=Asn.list PII ps) (o:=listOf vs 0) ⟨vs,0,rfl,f⟩ rfl
  generalize s1.heap.objs.size=S2 at *
  exact wpAny_bind (wpAny_holding (r_sort (by show A.units+1+1<cLine; lia) H4 hz fun qs s5 hq H5=>wpAny_pure ⟨_,rfl,h P1 S2 qs s5 k1 hq (H5.unpin (.tail U.inv))⟩))
 refine wpAny_mono (extend_with (A:=A.in1) (E:=fun _ _=>False) (V:=PII) (xs:=ps) (RR:=fun q s'=>q=.ok (.ret (.ref S))∧∃P1,Sub P P1∧At σ P1 ((S,Asn.list PII ps)::led') s') L hh (by exact tr1 (by assumption) rfl) (.ref S) hSr H2 fun P1 s1 k1 H3=>⟨rfl,P1,k1,H3⟩) (fun fn s' x=>?_) fun _ _ q=>q.elim
 cases fn with
 | done f=>
  obtain⟨e,x⟩:=x
  (injection e with e; subst e)
  exact fin s' x
 | again c'=>
  refine⟨x.1,codeAny_mono x.2 fun q s2 y=>?_⟩
  obtain⟨e,y⟩:=y
  subst e
  exact fin s2 y
end
end
end Mine
namespace Mine
noncomputable section
section
variable {G:Gl} {P P':Heap} {nms:List (Str×NameKind)} {n:Nat} {Γ:Cx G P nms n} {m:Str→Option Value} {led led' led0:List (Addr×Asn)} {e e1 e2 e3 iter target:Expr} {es:List Expr} {x y a b:Str} {v:Value} {pos p1 p2 p3 pf:Pos}
 {rest body:List Stmt} {Q Q':Flow→Shared→Prop} {α β κ:Type} {A:Rep α} {B:Rep β} {u:α} {w:β} {di:DecidableEq κ} {D:DKind G.prog G.w κ} {V:Rep β} {ps:List (κ×β)} {k:κ} {xs:List β} {d l:Addr} {N:Nat}
 {R R1 R2:Heap→Value→List (Addr×Asn)→Prop}
theorem pair_item {j:Nat} {t:Tok} {w0:Value} {Q:Value→Shared→Prop} {s:Shared} {A':Around} {E:Value→Shared→Prop} {value slice:Expr} {prog:Program} {wd:World} {a:Addr} {u1 u2:Value} {q:Nat}
  (g:s.heap.get? a=some (tupObj [u1,u2] q)) (hj:[u1,u2][j]? = some w0) (h:Q w0 s) (hs:subscripted slice false (.ref a) (.int j t)=operate [.ref a,.int j t] (getItem (.ref a) (.int j t))) :
  wpAny (model prog wd) A' (subscriptTail value slice (.ref a) (.int j t)) Q E s:=by
 have hlt:j<2:=by
  have:=(List.getElem?_eq_some_iff.mp hj).1; exact this
 exact item_tupleT (l:=[u1,u2]) (j:=j) ⟨_,g,rfl,_,rfl⟩ (by exact Int.ofNat_nonneg _) (by lia) (by unfold seqIndex?; simp; lia) hj h hs
theorem Ev.fst {kk:Nat} (h1:Ev Γ m led e1 ((Rep.pair A B).is P (u,w))):Ev Γ m led (.Subscript e1 (.Constant (.int 0) kk p1) pos) (A.is P u):=
 ⟨fun Q s H h=>Subscript_ (h1.run _ s H fun v s1 zz6 H1=>E4A4 zz6 fun a u1 u2 q hv g ha hb=>by
  subst hv
  exact v_int H1 fun t s2 H2=>pair_item (j:=0) (H2.sub _ _ g) rfl (h _ _ ha H2) (by with_unfolding_all rfl))⟩
theorem Ev.snd {kk:Nat} (h1:Ev Γ m led e1 ((Rep.pair A B).is P (u,w))):Ev Γ m led (.Subscript e1 (.Constant (.int 1) kk p1) pos) (B.is P w):=
 ⟨fun Q s H h=>Subscript_ (h1.run _ s H fun v s1 zz5 H1=>E4A4 zz5 fun a u1 u2 q hv g ha hb=>by
  subst hv
  exact v_int H1 fun t s2 H2=>pair_item (j:=1) (H2.sub _ _ g) rfl (h _ _ hb H2) (by with_unfolding_all rfl))⟩
theorem Ev.callB1 {id:String} {R1 R:Value→Prop} (hf:Ev Γ m led (.Name x pf) (Is (.builtin id))) (h1:Ev Γ m led e R1)
  (h2:∀v (Q:Value→Shared→Prop) (s:Shared),R1 v→Γ.at_ m led s→(∀v' s',R v'→Γ.at_ m led s'→Q v' s')→Γ.wp (call (.builtin id) [v]) Q s)
  (he:∀env,eval (.Call (.Name x pf) [e] [] pos) env=(do callWith pos (←eval (.Name x pf) env) [] (backTo pos (starEach [e] env)) (backToKw pos (keywordEach [] env))))
  (hs:∀env,starEach [e] env=(false,eval e env)::starEach [] env):Ev Γ m led (.Call (.Name x pf) [e] [] pos) R:=
 ⟨fun Q s H h=>Call_ (hf.run _ s H fun u s1 hu H1=>by
  subst hu
  exact PyProof.Rows.callWith_builtin1 (spliced_more (h1.run _ s1 H1 fun v s2 hv H2=>spliced_none (h2 v Q s2 hv H2 h)) (hs _)) (hs _) rfl) (he _)⟩
theorem Ev.callB2 {id:String} {R1 R2 R:Value→Prop} (hf:Ev Γ m led (.Name x pf) (Is (.builtin id))) (h1:Ev Γ m led e1 R1) (h2:Ev Γ m led e2 R2)
  (h3:∀v v' (Q:Value→Shared→Prop) (s:Shared),R1 v→R2 v'→Γ.at_ m led s→(∀v s',R v→Γ.at_ m led s'→Q v s')→Γ.wp (call (.builtin id) [v,v']) Q s)
  (he:∀env,eval (.Call (.Name x pf) [e1,e2] [] pos) env=(do callWith pos (←eval (.Name x pf) env) [] (backTo pos (starEach [e1,e2] env)) (backToKw pos (keywordEach [] env))))
  (hs:∀env,starEach [e1,e2] env=(false,eval e1 env)::starEach [e2] env) (hs':∀env,starEach [e2] env=(false,eval e2 env)::starEach [] env):Ev Γ m led (.Call (.Name x pf) [e1,e2] [] pos) R:=
 ⟨fun Q s H h=>Call_ (hf.run _ s H fun u s1 hu H1=>by
  subst hu
  exact PyProof.Rows.callWith_builtin1 (spliced_more (h1.run _ s1 H1 fun v s2 hv H2=>spliced_more (h2.run _ s2 H2 fun v' s3 hv' H3=>spliced_none (h3 v v' Q s3 hv hv' H3 h)) (hs' _)) (hs _)) (hs _) (by rw[hs']; rfl)) (he _)⟩
theorem Tst.orFF {c1 c2:Bool} (h1:Tst Γ m led e1 c1) (h2:Tst Γ m led e2 c2) (hc:(c1 || c2)=false):Tst Γ m led (.BoolOp .Or [e1,e2] pos) false:=
 ⟨fun Q s H h=>by
  have a1:c1=false:=by obtain⟨⟩:=c1 <;> simp_all
  have a2:c2=false:=by obtain⟨⟩:=c2 <;> simp_all
  subst a1 a2
  refine isTrue_or (h1.run _ s H fun s1 H1=>?_)
  refine isTrue_or (h2.run _ s1 H1 fun s2 H2=>?_)
  exact isTrue_or_nil (h s2 H2)⟩
theorem Tst.orT1 (h1:Tst Γ m led e1 true):Tst Γ m led (.BoolOp .Or (e1::es) pos) true:=
 ⟨fun Q s H h=>isTrue_or (h1.run _ s H fun s1 H1=>by rw[if_pos rfl]; exact h s1 H1)⟩
theorem Tst.orT2 (h1:Tst Γ m led e1 false) (h2:Tst Γ m led (.BoolOp .Or es pos) true):Tst Γ m led (.BoolOp .Or (e1::es) pos) true:=
 ⟨fun Q s H h=>isTrue_or (h1.run _ s H fun s1 H1=>by rw[if_neg Bool.false_ne_true]; exact h2.run _ s1 H1 h)⟩
theorem EvG.m0 {id:String} {pl:Sem Bool} (h1:EvG Γ m led e1 R1) (hm:∀P' (k:Sub P P') v l (Q:Value×List Value→Shared→Prop) (s:Shared),R1 P' v l→(Γ.up k).at_ m l s→Q (.builtin id,[v]) s→Γ.wp (getMethod v a pl) Q s)
  (h3:∀P' (k:Sub P P') v l (Q:Value→Shared→Prop) (s:Shared),R1 P' v l→(Γ.up k).at_ m l s→(∀P'' v' l' s' (k':Sub P' P''),R P'' v' l'→((Γ.up k).up k').at_ m l' s'→Q v' s')→Γ.wp (call (.builtin id) [v]) Q s)
  (he:eval (.Call (.Attribute e1 a p1) [] [] pos) Γ.env=(do
   let ov ←eval e1 Γ.env
   standAt p1.atName
   let (f,first) ←holding [ov] (getMethod ov a pl)
   callWith pos f first (backTo pos (starEach [] Γ.env)) [])):EvG Γ m led (.Call (.Attribute e1 a p1) [] [] pos) R:=
 ⟨fun Q s H h=>MethodCall_ (pl:=pl) (h1.run _ s H fun P' v l s1 k hv H1=>hm P' k v l _ s1 hv H1 (PyProof.Rows.callWith_method0 (h3 P' k v l Q s1 hv H1 fun P'' v' l' s' k' hv' H'=>h P'' v' l' s' (k.trans k') hv' H'))) he⟩
theorem EvG.m1 {id:String} {pl:Sem Bool} {R2:Heap→Value→Value→List (Addr×Asn)→Prop} (h1:EvG Γ m led e1 R1) (hm:∀P' (k:Sub P P') v l (Q:Value×List Value→Shared→Prop) (s:Shared),R1 P' v l→(Γ.up k).at_ m l s→Q (.builtin id,[v]) s→Γ.wp (getMethod v a pl) Q s)
  (h2:∀P' (k:Sub P P') v l,R1 P' v l→EvG (Γ.up k) m l e2 fun P'' u l'=>R2 P'' v u l')
  (h3:∀P' (k:Sub P P') v u l (Q:Value→Shared→Prop) (s:Shared),R2 P' v u l→(Γ.up k).at_ m l s→(∀P'' v' l' s' (k':Sub P' P''),R P'' v' l'→((Γ.up k).up k').at_ m l' s'→Q v' s')→Γ.wp (call (.builtin id) [v,u]) Q s)
  (he:eval (.Call (.Attribute e1 a p1) [e2] [] pos) Γ.env=(do
   let ov ←eval e1 Γ.env
   standAt p1.atName
   let (f,first) ←holding [ov] (getMethod ov a pl)
   callWith pos f first (backTo pos (starEach [e2] Γ.env)) [])) (hs:∀env,starEach [e2] env=(false,eval e2 env)::starEach [] env):EvG Γ m led (.Call (.Attribute e1 a p1) [e2] [] pos) R:=
 ⟨fun Q s H h=>MethodCall_ (pl:=pl) (h1.run _ s H fun P' v l s1 k hv H1=>hm P' k v l _ s1 hv H1 (PyProof.Rows.callWith_method1 (spliced_more ((h2 P' k v l hv).run _ s1 H1 fun P2 u l2 s2 k2 hu H2=>
  spliced_none (h3 P2 (k.trans k2) v u l2 Q s2 hu H2 fun P'' v' l' s' k' hv' H'=>h P'' v' l' s' ((k.trans k2).trans k') hv' H')) (hs _)) (hs _) rfl)) he⟩
theorem EvG.m2 {id:String} {pl:Sem Bool} {R2:Heap→Value→Value→List (Addr×Asn)→Prop} {R3:Heap→Value→Value→Value→List (Addr×Asn)→Prop} (h1:EvG Γ m led e1 R1)
  (hm:∀P' (k:Sub P P') v l (Q:Value×List Value→Shared→Prop) (s:Shared),R1 P' v l→(Γ.up k).at_ m l s→Q (.builtin id,[v]) s→Γ.wp (getMethod v a pl) Q s)
  (h2:∀P' (k:Sub P P') v l,R1 P' v l→EvG (Γ.up k) m l e2 fun P'' u l'=>R2 P'' v u l')
  (h2':∀P' (k:Sub P P') v u l,R2 P' v u l→EvG (Γ.up k) m l e3 fun P'' u' l'=>R3 P'' v u u' l')
  (h3:∀P' (k:Sub P P') v u u' l (Q:Value→Shared→Prop) (s:Shared),R3 P' v u u' l→(Γ.up k).at_ m l s→(∀P'' v' l' s' (k':Sub P' P''),R P'' v' l'→((Γ.up k).up k').at_ m l' s'→Q v' s')→Γ.wp (call (.builtin id) [v,u,u']) Q s)
  (he:eval (.Call (.Attribute e1 a p1) [e2,e3] [] pos) Γ.env=(do
   let ov ←eval e1 Γ.env
   standAt p1.atName
   let (f,first) ←holding [ov] (getMethod ov a pl)
   callWith pos f first (backTo pos (starEach [e2,e3] Γ.env)) [])) (hs:∀env,starEach [e2,e3] env=(false,eval e2 env)::starEach [e3] env) (hs':∀env,starEach [e3] env=(false,eval e3 env)::starEach [] env) :
  EvG Γ m led (.Call (.Attribute e1 a p1) [e2,e3] [] pos) R:=
 ⟨fun Q s H h=>MethodCall_ (pl:=pl) (h1.run _ s H fun P' v l s1 k hv H1=>hm P' k v l _ s1 hv H1 (PyProof.Rows.callWith_method1 (spliced_more ((h2 P' k v l hv).run _ s1 H1 fun P2 u l2 s2 k2 hu H2=>
  spliced_more ((h2' P2 (k.trans k2) v u l2 hu).run _ s2 H2 fun P3 u' l3 s3 k3 hu' H3=>
   spliced_none (h3 P3 ((k.trans k2).trans k3) v u u' l3 Q s3 hu' H3 fun P'' v' l' s' k' hv' H'=>h P'' v' l' s' (((k.trans k2).trans k3).trans k') hv' H')) (hs' _)) (hs _)) (hs _) (by rw[hs']; rfl))) he⟩
theorem EvV.subG (h1:Ev Γ m led e1 (Is (.ref d))) {ep:Option Nat} (hm:(d,Asn.dictX D V ps ep)∈led) (h2:EvV Γ m led e2 D.rep k) {b:β} (hb:look ps k=some b)
  (hs:∀o i,subscripted e2 false o i=operate [o,i] (getItem o i)):EvV Γ m led (.Subscript e1 e2 pos) V b:=
 ⟨fun Q s H h=>Subscript_ (h1.run _ s H fun u s1 hu H1=>by
  subst hu
  exact h2.run _ s1 H1 fun P' i l s2 kk zz3 H2=>E0A2 zz3 fun hl hi=>by
   subst hl
   exact r_subdict (H2:At _ _ _ _) (Γ.tl hm) Γ.rm.c1 hi hb (fun u s' hu H'=>h P' u _ s' kk ⟨rfl,hu⟩ H') (hs _ _))⟩
theorem St.delitem (h1:Ev Γ m led e1 (Is (.ref d))) (U:Upd d (Asn.dict D V ps) (Asn.dict D V (cut ps k)) led led') (h2:Ev Γ m led e2 (D.rep.is P k)) (hz:ps.length≤1000) (hin:(look ps k).isSome=true) (h:St Γ m led' rest Q) :
  St Γ m led (.Delete [.Subscript e1 e2 p1] pos::rest) Q:=
 ⟨fun s H=>wpAny_execs_cons (wpAny_Delete (wpAny_deleteEach_cons (by
  rw[arm_delete_Subscript]
  refine wpAny_bind (h1.run _ s H fun o s1 ho H1=>?_)
  subst ho
  refine wpAny_bind (wpAny_holding (h2.run _ s1 H1 fun i s2 hi H2=>?_))
  refine wpAny_bind (wpAny_standAt (wpAny_bind (wpAny_holding (r_delitem (H2:At _ _ _ _) (Γ.tu U) Γ.rm.c1 hi hz hin fun s3 H3=>?_))))
  exact wpAny_release (wpAny_deleteEach_nil (h.run s3 H3)))))⟩
end
end
end Mine
namespace Mine
set_option maxHeartbeats 1000000
noncomputable section
theorem bo_edges (w:World):AttrOk w 199 "_edges":=ao_of (by k_is) (by k_is) (by k_is)
theorem bo_left (w:World):AttrOk w 199 "_left":=ao_of (by k_is) (by k_is) (by k_is)
theorem bo_right (w:World):AttrOk w 199 "_right":=ao_of (by k_is) (by k_is) (by k_is)
theorem bo_graph (w:World):AttrOk w 199 "_graph":=ao_of (by k_is) (by k_is) (by k_is)
theorem bs_edges (w:World):SetOk w 199 "_edges":=so_of (by k_is) (by k_is) (by k_is) (by k_is)
theorem bs_left (w:World):SetOk w 199 "_left":=so_of (by k_is) (by k_is) (by k_is) (by k_is)
theorem bs_right (w:World):SetOk w 199 "_right":=so_of (by k_is) (by k_is) (by k_is) (by k_is)
theorem bs_graph (w:World):SetOk w 199 "_graph":=so_of (by k_is) (by k_is) (by k_is) (by k_is)
theorem bm_find (w:World):MethOk w 199 "find_matching" 175:=mo_of (by k_is) (by k_is) (by k_is) (by k_is)
theorem bm_ewl (w:World):MethOk w 199 "edges_with_labels" 126:=mo_of (by k_is) (by k_is) (by k_is) (by k_is)
theorem bm_edges (w:World):MethOk w 199 "edges" 133:=mo_of (by k_is) (by k_is) (by k_is) (by k_is)
theorem mo_max (w:World):MethOk w 80 "get_maximum_matching" 49:=mo_of (by k_is) (by k_is) (by k_is) (by k_is)
theorem gl_LEFT (w:World):nsIn (KF w) mainGlobals "LEFT" = some (some (.int 0 292)):=gl_of (by k_is)
theorem gl_RIGHT (w:World):nsIn (KF w) mainGlobals "RIGHT" = some (some (.int 1 294)):=gl_of (by k_is)
theorem gl_HK (w:World):nsIn (KF w) mainGlobals "HopcroftKarp" = some (some (.ref 80)):=gl_of (by k_is)
theorem gl_BG (w:World):nsIn (KF w) mainGlobals "BipartiteGraph" = some (some (.ref 199)):=gl_of (by k_is)
theorem gl_weights (w:World):nsIn (KF w) mainGlobals "_law_weights" = some (some (.ref 210)):=gl_of (by k_is)
theorem gl_most (w:World):nsIn (KF w) mainGlobals "_law_most" = some (some (.ref 215)):=gl_of (by k_is)
theorem gl_refused (w:World):nsIn (KF w) mainGlobals "_law_refused" = some (some (.ref 222)):=gl_of (by k_is)
theorem gl_holds (w:World):nsIn (KF w) mainGlobals "_law_holds" = some (some (.ref 227)):=gl_of (by k_is)
theorem nb_isinstance (w:World):nsIn (KF w) mainGlobals "isinstance" = some none:=gl_of (by k_is)
theorem nb_tuple (w:World):nsIn (KF w) mainGlobals "tuple" = some none:=gl_of (by k_is)
theorem nb_set (w:World):nsIn (KF w) mainGlobals "set" = some none:=gl_of (by k_is)
theorem nb_dict (w:World):nsIn (KF w) mainGlobals "dict" = some none:=gl_of (by k_is)
theorem nb_all (w:World):nsIn (KF w) mainGlobals "all" = some none:=gl_of (by k_is)
theorem nb_TypeError (w:World):nsIn (KF w) mainGlobals "TypeError" = some none:=gl_of (by k_is)
theorem nb_KeyError (w:World):nsIn (KF w) mainGlobals "KeyError" = some none:=gl_of (by k_is)
theorem nb_range (w:World):nsIn (KF w) mainGlobals "range" = some none:=gl_of (by k_is)
theorem nb_sum (w:World):nsIn (KF w) mainGlobals "sum" = some none:=gl_of (by k_is)
theorem nb_max (w:World):nsIn (KF w) mainGlobals "max" = some none:=gl_of (by k_is)
theorem nb_sorted (w:World):nsIn (KF w) mainGlobals "sorted" = some none:=gl_of (by k_is)
theorem ck_init (w:World):CodeK w 97 93:=⟨⟨_,_,_,_,_,_,_,_,_,by show(hd.heap_1 w.params).lookup _=_; k_is,rfl,rfl,rfl,rfl,rfl,rfl,rfl⟩,by decide⟩
theorem ck_del (w:World):CodeK w 118 114:=⟨⟨_,_,_,_,_,_,_,_,_,by show(hd.heap_1 w.params).lookup _=_; k_is,rfl,rfl,rfl,rfl,rfl,rfl,rfl⟩,by decide⟩
theorem ck_find (w:World):CodeK w 174 170:=⟨⟨_,_,_,_,_,_,_,_,_,by show(hd.heap_1 w.params).lookup _=_; k_is,rfl,rfl,rfl,rfl,rfl,rfl,rfl⟩,by decide⟩
end
end Mine
namespace Mine
noncomputable section
noncomputable abbrev Ed:=(Int×Int)×Int
noncomputable def adj (es:List Ed) (key:Int×Int):Int×Int→Prop:=fun k=>(key.1=0∧k.1=1∧(key.2,k.2)∈es.map (·.1))∨(key.1=1∧k.1=0∧(k.2,key.2)∈es.map (·.1))
noncomputable def sets (gl:List ((Int×Int)×Addr)) (F:Int×Int→Int×Int→Prop):List (Addr×Asn):=gl.map fun p=>(p.2,Asn.pset (1 - p.1.1) (F p.1))
noncomputable def gvals (gl:List ((Int×Int)×Addr)):List ((Int×Int)×Value):=gl.map fun p=>(p.1,.ref p.2)
noncomputable def bgF (ed lf rt gd:Addr):Str→Option Value:=fun x=>List.lookup x [("_edges",.ref ed),("_left",.ref lf),("_right",.ref rt),("_graph",.ref gd)]
noncomputable def updS (F:Int×Int→Int×Int→Prop) (key:Int×Int) (S:Int×Int→Prop):Int×Int→Int×Int→Prop:=fun k=>if k=key then S else F k
theorem sets_upd {F:Int×Int→Int×Int→Prop} {key:Int×Int} {a:Addr} {S:Int×Int→Prop}:∀ {gl:List ((Int×Int)×Addr)},(gl.map (·.1)).Nodup→(key,a)∈gl →
  Upd a (Asn.pset (1 - key.1) (F key)) (Asn.pset (1 - key.1) S) (sets gl F) (sets gl (updS F key S))
 | [],_,h=>by contradiction
 | p::gl,hn,h=>by
  simp only[List.map_cons,List.nodup_cons] at hn
  unfold sets
  simp only[List.map_cons,List.map_cons]
  by_cases hp:p.1=key
  ·have hin:(key,a)=p:=by
    rcases List.mem_cons.mp h with e|h
    ·exact e
    ·exact absurd (by rw[hp]; exact List.mem_map_of_mem (f:=fun p:(Int×Int)×Addr=>p.1) h) hn.1
   subst hin
   have:gl.map (fun p=>(p.2,Asn.pset (1 - p.1.1) (updS F key S p.1)))=gl.map fun p=>(p.2,Asn.pset (1 - p.1.1) (F p.1)):=
    List.map_congr_left fun q hq=>by
     have hne:q.1≠key:=fun e=>hn.1 (by have:=List.mem_map_of_mem (f:=fun p:(Int×Int)×Addr=>p.1) hq; rw[e] at this; exact this)
     simp only[updS,if_neg hne]
   rw[this]
   simp only[updS,if_true]
   exact .head
  ·have hin:(key,a)∈gl:=by
    rcases List.mem_cons.mp h with e|h
    ·exact absurd (by rw[←e]) hp
    ·exact h
   simp only[updS,if_neg hp]
   exact .tail (sets_upd hn.2 hin)
theorem sets_mem {F:Int×Int→Int×Int→Prop} {key:Int×Int} {a:Addr} {gl:List ((Int×Int)×Addr)} (h:(key,a)∈gl):(a,Asn.pset (1 - key.1) (F key))∈sets gl F:=
 List.mem_map_of_mem (f:=fun p:(Int×Int)×Addr=>(p.2,Asn.pset (1 - p.1.1) (F p.1))) h
theorem sets_congr {F F':Int×Int→Int×Int→Prop} {gl:List ((Int×Int)×Addr)} (h:∀p∈gl,∀k,F p.1 k↔F' p.1 k):sets gl F=sets gl F':=
 List.map_congr_left fun p hp=>by
  have:F p.1=F' p.1:=funext fun k=>propext (h p hp k)
  rw[this]
theorem look_gvals {key:Int×Int} {v:Value}:∀ {gl:List ((Int×Int)×Addr)},look (gvals gl) key=some v→∃a,v=.ref a∧(key,a)∈gl
 | [],h=>by contradiction
 | p::gl,h=>by
  unfold gvals at h
  rw[List.map_cons,look_cons] at h
  by_cases hp:p.1=key
  ·rw[if_pos hp] at h
   (obtain rfl:=Option.some.inj h)
   exact⟨p.2,rfl,by rw[←hp]; exact .head _⟩
  ·rw[if_neg hp] at h
   refine E1A2 (look_gvals h) fun a e hm=>?_
   exact⟨a,e,.tail _ hm⟩
theorem gvals_look {key:Int×Int} {a:Addr} {gl:List ((Int×Int)×Addr)} (hn:(gl.map (·.1)).Nodup) (h:(key,a)∈gl):look (gvals gl) key=some (.ref a):=
 mem_look (by unfold gvals; rw[List.map_map]; exact hn) (List.mem_map_of_mem (f:=fun p:(Int×Int)×Addr=>(p.1,Value.ref p.2)) h)
theorem put_gvals {key:Int×Int} {a:Addr} {gl:List ((Int×Int)×Addr)} (h:key∉gl.map (·.1)):put (gvals gl) key (.ref a)=gvals (gl++[(key,a)]):=by
 unfold put
 have:idx ((gvals gl).map (·.1)) key=none:=by
  rw[←look_none_idx]
  rcases q:look (gvals gl) key with _|v
  ·rfl
  ·
   refine E1A2 (look_gvals q) fun a' _ hm=>?_
   exact absurd (List.mem_map_of_mem (f:=fun p:(Int×Int)×Addr=>p.1) hm) h
 rw[this]
 unfold gvals
 simp
structure Inv (es:List Ed) (gl:List ((Int×Int)×Addr)) (kl kr:List Int):Prop where
 end_:(es.map (·.1)).Nodup
 rng:∀e∈es.map (·.1),(0≤e.1∧e.1<6)∧0≤e.2∧e.2<6
 gnd:(gl.map (·.1)).Nodup
 gok:∀k∈gl.map (·.1),OkS k.1 k
 gk:∀e∈es.map (·.1),(0,e.1)∈gl.map (·.1)∧(1,e.2)∈gl.map (·.1)
 left:∀x,x∈kl↔∃r,(x,r)∈es.map (·.1)
 right:∀x,x∈kr↔∃l,(l,x)∈es.map (·.1)
 lnd:kl.Nodup
 rnd:kr.Nodup
theorem ints6 {l:List Int} (hn:l.Nodup) (h:∀x∈l,0≤x∧x<6):l.length≤6:=by
 have:=nodup_le (m:=[(0:Int),1,2,3,4,5]) hn fun x hx=>by
  have:=h x hx
  have:x=0∨x=1∨x=2∨x=3∨x=4∨x=5:=by exact sixA (by assumption)
  rcases this with e|e|e|e|e|e <;> rw[e] <;> simp
 exact this
theorem pairs36 {l:List (Int×Int)} (hn:l.Nodup) (h:∀e∈l,(0≤e.1∧e.1<6)∧0≤e.2∧e.2<6):l.length≤36:=by
 have:=nodup_le (m:=[(0:Int),1,2,3,4,5].flatMap fun a=>[(0:Int),1,2,3,4,5].map fun b=>(a,b)) hn fun e he=>by
  refine E0A3 (h e he) fun zz2 b1 b2=>?_
  obtain⟨a1,a2⟩:=zz2
  have ha:e.1=0∨e.1=1∨e.1=2∨e.1=3∨e.1=4∨e.1=5:=by exact six (by assumption) (by assumption)
  have hb:e.2=0∨e.2=1∨e.2=2∨e.2=3∨e.2=4∨e.2=5:=by exact six (by assumption) (by assumption)
  refine List.mem_flatMap.mpr ⟨e.1,?_,List.mem_map.mpr ⟨e.2,?_,rfl⟩⟩
  ·rcases ha with e|e|e|e|e|e <;> rw[e] <;> simp
  ·rcases hb with e|e|e|e|e|e <;> rw[e] <;> simp
 exact this
namespace Inv
variable {es:List Ed} {gl:List ((Int×Int)×Addr)} {kl kr:List Int}
theorem elen (I:Inv es gl kl kr):es.length≤36:=by have:=pairs36 I.end_ I.rng; simpa using this
theorem glen (I:Inv es gl kl kr):gl.length≤12:=by
 have:=nodup_le (m:=[(0:Int),1].flatMap fun a=>[(0:Int),1,2,3,4,5].map fun b=>(a,b)) I.gnd fun k hk=>by
  refine E0A2 ((I.gok k hk).mem) fun h1 h2=>?_
  exact List.mem_flatMap.mpr ⟨k.1,h1,List.mem_map.mpr ⟨k.2,h2,rfl⟩⟩
 simpa using this
theorem llen (I:Inv es gl kl kr):kl.length≤6:=ints6 I.lnd fun x hx=>by obtain⟨r,hr⟩:=(I.left x).mp hx; exact(I.rng _ hr).1
theorem rlen (I:Inv es gl kl kr):kr.length≤6:=ints6 I.rnd fun x hx=>by obtain⟨r,hr⟩:=(I.right x).mp hx; exact(I.rng _ hr).2
end Inv
noncomputable def bgL (prog:Program) (w:World) (me dx ed lf rt gd:Addr) (es:List Ed) (gl:List ((Int×Int)×Addr)) (kl kr:List Int) (F:Int×Int→Int×Int→Prop) (rest:List (Addr×Asn)):List (Addr×Asn):=
 (me,Asn.eq (instObj 199 dx))::(dx,Asn.nsN 4 (bgF ed lf rt gd))::(ed,Asn.dict (DKind.pair prog w) Rep.int es)::(lf,Asn.iset kl)::(rt,Asn.iset kr)::(gd,Asn.dict (DKind.pair prog w) Rep.val (gvals gl))::(sets gl F++rest)
end
end Mine
namespace Mine
noncomputable section
section
variable {G:Gl} {P:Heap} {nms:List (Str×NameKind)} {n:Nat} {Γ:Cx G P nms n} {m:Str→Option Value} {pre rst:List (Addr×Asn)} {eg eL ex eR ey:Expr} {x y:Int} {pos p1 p2 p3 pf pt1 pt2 pc1 pc2 ps:Pos} {k1 k2:Nat}
 {rest:List Stmt} {Q:Flow→Shared→Prop} {gd:Addr} {gl:List ((Int×Int)×Addr)} {F:Int×Int→Int×Int→Prop} {side side':Int} {xs:Str}
theorem EvG.callT0 {T:String} {led:List (Addr×Asn)} {R:Heap→Value→List (Addr×Asn)→Prop} (hf:Ev Γ m led (.Name xs pf) (Is (.type T)))
  (h2:∀(Q:Value→Shared→Prop) (s:Shared),Γ.at_ m led s→(∀P' v l s' (k:Sub P P'),R P' v l→(Γ.up k).at_ m l s'→Q v s')→Γ.wp (call (.type T) []) Q s)
  (he:∀env,eval (.Call (.Name xs pf) [] [] pos) env=(do callWith pos (←eval (.Name xs pf) env) [] (backTo pos (starEach [] env)) (backToKw pos (keywordEach [] env)))):EvG Γ m led (.Call (.Name xs pf) [] [] pos) R:=
 ⟨fun Q s H h=>Call_ (hf.run _ s H fun u s1 hu H1=>by
  subst hu
  exact PyProof.Rows.callWith_type0 (h2 Q s1 H1 h)) (he _)⟩
theorem EvG.newSet {led:List (Addr×Asn)} (sd:Int) (hf:Ev Γ m led (.Name xs pf) (Is (.type "set")))
  (he:∀env,eval (.Call (.Name xs pf) [] [] pos) env=(do callWith pos (←eval (.Name xs pf) env) [] (backTo pos (starEach [] env)) (backToKw pos (keywordEach [] env)))) :
  EvG Γ m led (.Call (.Name xs pf) [] [] pos) fun P' v l=>P'=P∧∃a,v=.ref a∧l=(a,Asn.pset sd fun _=>False)::led:=
 EvG.callT0 hf (fun Q s H h=>r_newset (side:=sd) (H:At _ _ _ _) fun a s' H'=>h P _ _ s' (Sub.refl P) ⟨rfl,a,rfl,rfl⟩ (H'.perm List.perm_middle)) he
theorem sets_snoc {key:Int×Int} {a:Addr} (h:∀k,¬F key k):sets (gl++[(key,a)]) F=sets gl F++[(a,Asn.pset (1 - key.1) fun _=>False)]:=by
 unfold sets
 rw[List.map_append]
 have:F key=fun _=>False:=funext fun k=>propext ⟨h k,False.elim⟩
 simp[this]
theorem St.link (hg:Ev Γ m (pre++(gd,Asn.dict (DKind.pair G.prog G.w) Rep.val (gvals gl))::(sets gl F++rst)) eg (Is (.ref gd)))
  (hL:∀P' (kk:Sub P P') l,EvV (Γ.up kk) m l eL Rep.int side) (hx:∀P' (kk:Sub P P') l,EvV (Γ.up kk) m l ex Rep.int x)
  (hR:∀P' (kk:Sub P P') l,EvV (Γ.up kk) m l eR Rep.int side') (hy:∀P' (kk:Sub P P') l,EvV (Γ.up kk) m l ey Rep.int y)
  (hset:∀P' (kk:Sub P P') l,Ev (Γ.up kk) m l (.Name xs pf) (Is (.type "set")))
  (hgn:(gl.map (·.1)).Nodup) (hgz:gl.length≤500) (hside:side'=1 - side) (hok:OkS side' (side',y)) (hF:(side,x)∉gl.map (·.1)→∀k,¬F (side,x) k)
  (hw:∀env,swapsWith (.Call (.Attribute (.Call (.Attribute eg "setdefault" p1) [.Tuple [eL,ex] k1 pt1,.Call (.Name xs pf) [] [] ps] [] pc1) "add" p2) [.Tuple [eR,ey] k2 pt2] [] pc2) none pos.line env=pure false)
  (he1:∃pl,∀env,eval (.Call (.Attribute eg "setdefault" p1) [.Tuple [eL,ex] k1 pt1,.Call (.Name xs pf) [] [] ps] [] pc1) env=(do
   let ov ←eval eg env
   standAt p1.atName
   let (f,first) ←holding [ov] (getMethod ov "setdefault" pl)
   callWith pc1 f first (backTo pc1 (starEach [.Tuple [eL,ex] k1 pt1,.Call (.Name xs pf) [] [] ps] env)) []))
  (he2:∃pl,∀env,eval (.Call (.Attribute (.Call (.Attribute eg "setdefault" p1) [.Tuple [eL,ex] k1 pt1,.Call (.Name xs pf) [] [] ps] [] pc1) "add" p2) [.Tuple [eR,ey] k2 pt2] [] pc2) env=(do
   let ov ←eval (.Call (.Attribute eg "setdefault" p1) [.Tuple [eL,ex] k1 pt1,.Call (.Name xs pf) [] [] ps] [] pc1) env
   standAt p2.atName
   let (f,first) ←holding [ov] (getMethod ov "add" pl)
   callWith pc2 f first (backTo pc2 (starEach [.Tuple [eR,ey] k2 pt2] env)) []))
  (hs0:∀env,eval (.Call (.Name xs pf) [] [] ps) env=(do callWith ps (←eval (.Name xs pf) env) [] (backTo ps (starEach [] env)) (backToKw ps (keywordEach [] env))))
  (hs1:∀env,starEach [.Tuple [eL,ex] k1 pt1,.Call (.Name xs pf) [] [] ps] env=(false,eval (.Tuple [eL,ex] k1 pt1) env)::starEach [.Call (.Name xs pf) [] [] ps] env)
  (hs2:∀env,starEach [.Call (.Name xs pf) [] [] ps] env=(false,eval (.Call (.Name xs pf) [] [] ps) env)::starEach [] env)
  (hs3:∀env,starEach [.Tuple [eR,ey] k2 pt2] env=(false,eval (.Tuple [eR,ey] k2 pt2) env)::starEach [] env)
  (ht1:∀env,starEach [eL,ex] env=(false,eval eL env)::starEach [ex] env) (ht2:∀env,starEach [ex] env=(false,eval ex env)::starEach [] env)
  (ht3:∀env,starEach [eR,ey] env=(false,eval eR env)::starEach [ey] env) (ht4:∀env,starEach [ey] env=(false,eval ey env)::starEach [] env)
  (h:∀P' (kk:Sub P P') gl',(gl'.map (·.1)).Nodup→(∀k,k∈gl'.map (·.1)↔k∈gl.map (·.1)∨k=(side,x)) →
   St (Γ.up kk) m (pre++(gd,Asn.dict (DKind.pair G.prog G.w) Rep.val (gvals gl'))::(sets gl' (updS F (side,x) fun k=>F (side,x) k∨k=(side',y))++rst)) rest Q) :
  St Γ m (pre++(gd,Asn.dict (DKind.pair G.prog G.w) Rep.val (gvals gl))::(sets gl F++rst)) (.Expr (.Call (.Attribute (.Call (.Attribute eg "setdefault" p1) [.Tuple [eL,ex] k1 pt1,.Call (.Name xs pf) [] [] ps] [] pc1) "add" p2) [.Tuple [eR,ey] k2 pt2] [] pc2) pos::rest) Q:=by
 refine E1A1 (he1) fun pl1 he1=>?_
 refine E1A1 (he2) fun pl2 he2=>?_
 refine St.exprG (RL:=fun P' l=>∃gl',(gl'.map (·.1)).Nodup∧(∀k,k∈gl'.map (·.1)↔k∈gl.map (·.1)∨k=(side,x))∧l=pre++(gd,Asn.dict (DKind.pair G.prog G.w) Rep.val (gvals gl'))::(sets gl' (updS F (side,x) fun k=>F (side,x) k∨k=(side',y))++rst)) ?_ hw ?_
 ·refine EvG.m1 (id:="set.add") (pl:=pl2) (R1:=fun P' v l=>∃gl' a,v=.ref a∧((side,x),a)∈gl'∧(gl'.map (·.1)).Nodup∧(∀k,k∈gl'.map (·.1)↔k∈gl.map (·.1)∨k=(side,x))∧l=pre++(gd,Asn.dict (DKind.pair G.prog G.w) Rep.val (gvals gl'))::(sets gl' F++rst))
   (R2:=fun P' v u l=>(∃gl' a,v=.ref a∧((side,x),a)∈gl'∧(gl'.map (·.1)).Nodup∧(∀k,k∈gl'.map (·.1)↔k∈gl.map (·.1)∨k=(side,x))∧l=pre++(gd,Asn.dict (DKind.pair G.prog G.w) Rep.val (gvals gl'))::(sets gl' F++rst))∧(Rep.pair Rep.int Rep.int).is P' (side',y) u) ?_ ?_ ?_ ?_ (he2 _) hs3
  ·refine EvG.m2 (id:="dict.setdefault") (pl:=pl1) (R1:=fun P' v l=>v=.ref gd∧l=pre++(gd,Asn.dict (DKind.pair G.prog G.w) Rep.val (gvals gl))::(sets gl F++rst))
    (R2:=fun P' v u l=>v=.ref gd∧l=pre++(gd,Asn.dict (DKind.pair G.prog G.w) Rep.val (gvals gl))::(sets gl F++rst)∧(Rep.pair Rep.int Rep.int).is P' (side,x) u)
    (R3:=fun P' v u u' l=>v=.ref gd∧(Rep.pair Rep.int Rep.int).is P' (side,x) u∧∃a0,u'=.ref a0∧l=(a0,Asn.pset (1 - side) fun _=>False)::(pre++(gd,Asn.dict (DKind.pair G.prog G.w) Rep.val (gvals gl))::(sets gl F++rst)))
    (EvC.toG hg fun v hv=>⟨hv,rfl⟩) ?_ ?_ ?_ ?_ (he1 _) hs1 hs2
   ·intro P' k v l Q' s hz208
    refine E0A2 hz208 fun ee206 ee207=>?_
    clear hz208
    subst ee206 ee207
    rintro H hq
    exact m_dict (H:At _ _ _ _) ((Γ.up k).tl (List.mem_append_right _ (.head _))) PySem.F.slot_dict_setdefault PySem.F.type_dict_setdefault hq
   ·rintro P' k v l ⟨rfl,rfl⟩
    exact EvG.imp (EvV.pair (hL P' k _) (fun P2 k2=>hx P2 (k.trans k2) _) ht1 ht2) fun P2 u l _ zz189=>E0A2 zz189 fun e hu=>⟨rfl,e,hu⟩
   ·intro P' k v u l hz170
    refine E0A3 hz170 fun ee168 ee169 hu=>?_
    clear hz170
    subst ee168 ee169
    exact EvG.imp (EvG.newSet (1 - side) (hset P' k _) hs0) fun P2 u' l kk ⟨e,a,e1,e2⟩=>⟨rfl,e▸hu,a,e1,e2⟩
   ·rintro P' k v u u' l Q' s ⟨rfl,hu,a0,rfl,rfl⟩ H hq
    have hgz':(gvals gl).length≤1000:=by unfold gvals; rw[List.length_map]; exact tr1 (by assumption) rfl
    refine r_setdefault (D:=DKind.pair G.prog G.w) (V:=Rep.val) (k:=(side,x)) (H:At _ _ _ _) (Γ.up k).src ((Γ.up k).tl (.tail _ (List.mem_append_right _ (.head _)))) Γ.rm.c1 hu hgz' (fun b hb v' s' hv' H'=>?_) fun hno=>?_
    ·have hv':v'=b:=hv'
     subst hv'
     refine E1A2 (look_gvals hb) fun a ee108 hm=>?_
     subst ee108
     refine hq P' _ _ s' (Sub.refl P') ⟨gl,a,rfl,hm,hgn,fun k=>⟨.inl,fun q=>q.elim id fun e=>e▸List.mem_map_of_mem (f:=fun p:(Int×Int)×Addr=>p.1) hm⟩,rfl⟩ ?_
     exact H'.subl ((List.Sublist.refl _).append (List.sublist_cons_self _ _))
    ·have hkey:(side,x)∉gl.map (·.1):=fun q=>by
      refine E1A2 (List.mem_map.mp q) fun p hp e=>?_
      have:=gvals_look (key:=p.1) (a:=p.2) hgn hp
      rw[e,hno] at this; contradiction
     refine⟨.ref a0,_,rfl,(Γ.up k).tu (.tail (Upd.pre .head _)),fun s' H'=>?_⟩
     rw[put_gvals hkey] at H'
     refine hq P' _ _ s' (Sub.refl P') ⟨gl++[((side,x),a0)],a0,rfl,List.mem_append_right _ (.head _),?_,fun k=>by simp[eq_comm],rfl⟩ ?_
     ·rw[List.map_append,List.nodup_append]
      exact⟨hgn,by simp,fun a ha b hb e=>hkey (by simp at hb; rw[←hb,←e]; exact ha)⟩
     ·rw[sets_snoc (hF hkey)]
      refine H'.perm ((List.Perm.refl _).append ?_)
      have e1:∀X:List (Addr×Asn),(pre++(gd,Asn.dict (DKind.pair G.prog G.w) Rep.val (gvals (gl++[((side,x),a0)])))::((sets gl F++[(a0,Asn.pset (1 - side) fun _=>False)])++X)) =
        (pre++(gd,Asn.dict (DKind.pair G.prog G.w) Rep.val (gvals (gl++[((side,x),a0)])))::sets gl F)++(a0,Asn.pset (1 - side) fun _=>False)::X:=fun X=>by simp
      have e2:∀X:List (Addr×Asn),(pre++(gd,Asn.dict (DKind.pair G.prog G.w) Rep.val (gvals (gl++[((side,x),a0)])))::(sets gl F++X)) =
        (pre++(gd,Asn.dict (DKind.pair G.prog G.w) Rep.val (gvals (gl++[((side,x),a0)])))::sets gl F)++X:=fun X=>by simp
      simp only[e1,e2]
      exact List.perm_middle
  ·intro P' k v l Q' s hz87
   refine E2A5 hz87 fun gl' a ee85 hm _ _ ee86=>?_
   clear hz87
   subst ee85 ee86
   rintro H hq
   exact m_set (H:At _ _ _ _) ((Γ.up k).tl (List.mem_append_right _ (.tail _ (List.mem_append_left _ (sets_mem hm))))) PySem.F.slot_set_add PySem.F.type_set_add hq
  ·rintro P' k v l hR1
   exact EvG.imp (EvV.pair (hR P' k _) (fun P2 k2=>hy P2 (k.trans k2) _) ht3 ht4) fun P2 u l _ zz68=>E0A2 zz68 fun e hu=>⟨e▸hR1,hu⟩
  ·intro P' k v u l Q' s hz43
   refine E0A2 hz43 fun zz42 hu=>?_
   clear hz43
   obtain⟨gl',a,rfl,hm,hn',hk',rfl⟩:=zz42
   rintro H hq
   subst hside
   refine r_setadd (k:=(1 - side,y)) (side:=1 - side) (H:At _ _ _ _) ((Γ.up k).tu (Upd.pre (.tail ((sets_upd hn' hm).post rst)) pre)) Γ.rm.c1 hu hok fun s' H'=>?_
   exact hq P' .none _ s' (Sub.refl P') ⟨rfl,gl',hn',hk',rfl⟩ H'
 ·intro P' l kk hz21
  refine E1A3 hz21 fun gl' h1 h2 ee20=>?_
  clear hz21
  subst ee20
  exact h P' kk gl' h1 h2
end
end
end Mine
namespace Mine
set_option maxHeartbeats 1000000
noncomputable section
section
variable {G:Gl} {P:Heap} {nms:List (Str×NameKind)} {n:Nat} {Γ:Cx G P nms n} {m:Str→Option Value} {led:List (Addr×Asn)} {pos p1 p2 p3 p4 p5 p6 p7 p8 p9 p10:Pos} {k1:Nat} {α β:Type} {A:Rep α} {B:Rep β} {z:α×β}
theorem pairTest (hk:∀p,Ev Γ m led (.Name "key" p) ((Rep.pair A B).is P z)) (h1:nms.lookup ("isinstance" : Str)=some .globalImplicit) (h2:nms.lookup ("tuple" : Str)=some .globalImplicit) (h3:nms.lookup ("len" : Str)=some .globalImplicit) :
  Tst Γ m led (.BoolOp .Or [.UnaryOp .Not (.Call (.Name "isinstance" p1) [.Name "key" p2,.Name "tuple" p3] [] p4) p5,.Compare (.Call (.Name "len" p6) [.Name "key" p7] [] p8) [.NotEq] [.Constant (.int 2) k1 p9] p10] pos) false:=by
 refine Tst.orFF (c1:=!true) (c2:=false) (TstC.not (TstC.of_ev ?_ (fun _ _=>rfl))) ?_ rfl
 ·refine Ev.callB2 (R1:=(Rep.pair A B).is P z) (R2:=Is (.type "tuple")) (Ev.builtin (nb_isinstance _) (by boot_by_name) (by decide) rfl h1) (hk _) (Ev.builtin (nb_tuple _) (by boot_by_name) (by decide) rfl h2) ?_ (fun _=>rfl) (fun _=>rfl) (fun _=>rfl)
  intro v _ Q s hz39
  refine E4A3 hz39 fun a u u' q ee38 g _=>?_
  clear hz39
  subst ee38
  rintro rfl H hq
  exact IsiPair.tuple_tuple (H.sub _ _ g) rfl (hq _ s rfl H)
 ·refine Tst.cmpI (x:=2) (y:=2) ?_ Ev.int rfl rfl
  refine Ev.callB1 (R1:=(Rep.pair A B).is P z) (Ev.builtin (nb_len _) (by boot_by_name) (by decide) rfl h3) (hk _) ?_ (fun _=>rfl) (fun _=>rfl)
  intro v Q s hz35
  refine E4A3 hz35 fun a u u' q ee34 g _=>?_
  clear hz35
  subst ee34
  rintro H hq
  exact len_tuple (items:=#[u,u']) ⟨_,H.sub _ _ g,rfl,_,rfl⟩ (by simp) (hq _ _ ⟨_,rfl⟩ (H:At _ _ _ _).tok)
theorem EvC.isetAdd {kk:List Int} {x:Int} {a:Addr} {led':List (Addr×Asn)} {e1 e2:Expr} {pl:Sem Bool} (h1:Ev Γ m led e1 (Is (.ref a))) (U:Upd a (Asn.iset kk) (Asn.iset (insI kk x)) led led') (h2:Ev Γ m led e2 (IsI x)) (hz:kk.length≤1000)
  (hm:eval (.Call (.Attribute e1 "add" p1) [e2] [] pos) Γ.env=(do
   let ov ←eval e1 Γ.env
   standAt p1.atName
   let (f,first) ←holding [ov] (getMethod ov "add" pl)
   callWith pos f first (backTo pos (starEach [e2] Γ.env)) []))
  (hs:∀env,starEach [e2] env=(false,eval e2 env)::starEach [] env):EvC Γ m led (.Call (.Attribute e1 "add" p1) [e2] [] pos) (Is .none) led':=
 ⟨fun Q s H h=>MethodCall_ (pl:=pl) (h1.run _ s H fun u s1 hu H1=>by
  subst hu
  exact m_iset (H1:At _ _ _ _) (Γ.tl U.mem) PySem.F.slot_set_add PySem.F.type_set_add (PyProof.Rows.callWith_method1 (spliced_more (h2.run _ s1 H1 fun o s2 zz31 H2=>E1A1 zz31 fun t ho=>by
   subst ho
   exact spliced_none (r_isetadd (H2:At _ _ _ _) (Γ.tu U) hz fun s' H'=>h _ _ rfl H')) (hs _)) (hs _) rfl)) hm⟩
theorem EvC.isetRemove {kk:List Int} {x:Int} {a:Addr} {led':List (Addr×Asn)} {e1 e2:Expr} {pl:Sem Bool} (h1:Ev Γ m led e1 (Is (.ref a))) (U:Upd a (Asn.iset kk) (Asn.iset (kk.erase x)) led led') (h2:Ev Γ m led e2 (IsI x)) (hx:x∈kk)
  (hm:eval (.Call (.Attribute e1 "remove" p1) [e2] [] pos) Γ.env=(do
   let ov ←eval e1 Γ.env
   standAt p1.atName
   let (f,first) ←holding [ov] (getMethod ov "remove" pl)
   callWith pos f first (backTo pos (starEach [e2] Γ.env)) []))
  (hs:∀env,starEach [e2] env=(false,eval e2 env)::starEach [] env):EvC Γ m led (.Call (.Attribute e1 "remove" p1) [e2] [] pos) (Is .none) led':=
 ⟨fun Q s H h=>MethodCall_ (pl:=pl) (h1.run _ s H fun u s1 hu H1=>by
  subst hu
  exact m_iset (H1:At _ _ _ _) (Γ.tl U.mem) PySem.F.slot_set_remove PySem.F.type_set_remove (PyProof.Rows.callWith_method1 (spliced_more (h2.run _ s1 H1 fun o s2 zz24 H2=>E1A1 zz24 fun t ho=>by
   subst ho
   exact spliced_none (r_isetremove (H2:At _ _ _ _) (Γ.tu U) hx fun s' H'=>h _ _ rfl H')) (hs _)) (hs _) rfl)) hm⟩
end
theorem mem_put_keys {κ β:Type} [DecidableEq κ] (ps:List (κ×β)) (k:κ) (b:β) (x:κ):x∈(put ps k b).map (·.1)↔x∈ps.map (·.1)∨x=k:=by
 rw[←look_isSome,←look_isSome,look_put]
 by_cases h:k=x
 ·simp[h]
 ·rw[if_neg h]; exact⟨.inl,fun q=>q.elim id fun e=>absurd e.symm h⟩
theorem inv_put {es:List Ed} {gl gl':List ((Int×Int)×Addr)} {kl kr:List Int} {l r v:Int} (I:Inv es gl kl kr) (hl:0≤l∧l<6) (hr:0≤r∧r<6) (hn:(gl'.map (·.1)).Nodup)
  (hg:∀k,k∈gl'.map (·.1)↔(k∈gl.map (·.1)∨k=(0,l))∨k=(1,r)):Inv (put es (l,r) v) gl' (insI kl l) (insI kr r) where
 end_:=put_nodup _ _ _ I.end_
 rng:=fun e he=>by
  rcases(mem_put_keys ..).mp he with h|rfl
  ·exact I.rng e h
  ·exact⟨hl,hr⟩
 gnd:=hn
 gok:=fun k hk=>by
  rcases(hg k).mp hk with(h|rfl)|rfl
  ·exact I.gok k h
  ·exact⟨.inl rfl,rfl,hl⟩
  ·exact⟨.inr rfl,rfl,hr⟩
 gk:=fun e he=>by
  rcases(mem_put_keys ..).mp he with h|rfl
  ·exact⟨(hg _).mpr (.inl (.inl (I.gk e h).1)),(hg _).mpr (.inl (.inl (I.gk e h).2))⟩
  ·exact⟨(hg _).mpr (.inl (.inr rfl)),(hg _).mpr (.inr rfl)⟩
 left:=fun x=>by
  rw[mem_insI,I.left]
  constructor
  ·rintro(⟨q,hq⟩|rfl)
   ·exact⟨q,(mem_put_keys ..).mpr (.inl hq)⟩
   ·exact⟨r,(mem_put_keys ..).mpr (.inr rfl)⟩
  ·rintro⟨q,hq⟩
   rcases(mem_put_keys ..).mp hq with h|h
   ·exact .inl ⟨q,h⟩
   ·exact .inr (Prod.mk.inj h).1
 right:=fun x=>by
  rw[mem_insI,I.right]
  constructor
  ·rintro(⟨q,hq⟩|rfl)
   ·exact⟨q,(mem_put_keys ..).mpr (.inl hq)⟩
   ·exact⟨l,(mem_put_keys ..).mpr (.inr rfl)⟩
  ·rintro⟨q,hq⟩
   rcases(mem_put_keys ..).mp hq with h|h
   ·exact .inl ⟨q,h⟩
   ·exact .inr (Prod.mk.inj h).2
 lnd:=insI_nodup I.lnd _
 rnd:=insI_nodup I.rnd _
theorem adj_put' {es:List Ed} {l r v:Int} (key k:Int×Int):adj (put es (l,r) v) key k↔adj es key k∨(key=(0,l)∧k=(1,r))∨(key=(1,r)∧k=(0,l)):=by
 constructor
 ·rintro(⟨a,b,c⟩|⟨a,b,c⟩)
  ·rcases(mem_put_keys ..).mp c with c|c
   ·exact .inl (.inl ⟨a,b,c⟩)
   ·exact .inr (.inl ⟨Prod.ext a (Prod.mk.inj c).1,Prod.ext b (Prod.mk.inj c).2⟩)
  ·rcases(mem_put_keys ..).mp c with c|c
   ·exact .inl (.inr ⟨a,b,c⟩)
   ·exact .inr (.inr ⟨Prod.ext a (Prod.mk.inj c).2,Prod.ext b (Prod.mk.inj c).1⟩)
 ·rintro((⟨a,b,c⟩|⟨a,b,c⟩)|⟨rfl,rfl⟩|⟨rfl,rfl⟩)
  ·exact .inl ⟨a,b,(mem_put_keys ..).mpr (.inl c)⟩
  ·exact .inr ⟨a,b,(mem_put_keys ..).mpr (.inl c)⟩
  ·exact .inl ⟨rfl,rfl,(mem_put_keys ..).mpr (.inr rfl)⟩
  ·exact .inr ⟨rfl,rfl,(mem_put_keys ..).mpr (.inr rfl)⟩
theorem adj_put {es:List Ed} {l r v:Int} (key k:Int×Int) :
  updS (updS (adj es) (0,l) fun k=>adj es (0,l) k∨k=(1,r)) (1,r) (fun k=>updS (adj es) (0,l) (fun k=>adj es (0,l) k∨k=(1,r)) (1,r) k∨k=(0,l)) key k↔adj (put es (l,r) v) key k:=by
 have e1:((1,r):Int×Int)≠(0,l):=fun h=>absurd (Prod.mk.inj h).1 (by decide)
 have e2:updS (adj es) (0,l) (fun k=>adj es (0,l) k∨k=(1,r)) (1,r)=adj es (1,r):=if_neg e1
 rw[e2,adj_put']
 unfold updS
 by_cases h1:key=(1,r)
 ·subst h1
  rw[if_pos rfl]
  exact⟨fun h=>h.elim .inl fun h=>.inr (.inr ⟨rfl,h⟩),fun h=>h.elim .inl fun h=>h.elim (fun q=>absurd q.1 e1) fun q=>.inr q.2⟩
 ·rw[if_neg h1]
  by_cases h2:key=(0,l)
  ·subst h2
   rw[if_pos rfl]
   exact⟨fun h=>h.elim .inl fun h=>.inr (.inl ⟨rfl,h⟩),fun h=>h.elim .inl fun h=>h.elim (fun q=>.inr q.2) fun q=>absurd q.1 h1⟩
  ·rw[if_neg h2]
   exact⟨.inl,fun h=>h.elim id fun h=>h.elim (fun q=>absurd q.1 h2) fun q=>absurd q.1 h1⟩
section
variable {prog:Program} {w:World} {σ:Shared} {P:Heap} {s:Shared} {A:Around} {E:Value→Shared→Prop} {me dx ed lf rt gd:Addr} {es:List Ed} {gl:List ((Int×Int)×Addr)} {kl kr:List Int} {rest:List (Addr×Asn)} {l r v:Int} {kv vv:Value}
theorem set_c {n:Nat} {Q:Value→Shared→Prop} (X:Src (KF w) P) (R:Rm A (n+2)) (H:At σ P (bgL prog w me dx ed lf rt gd es gl kl kr (adj es) rest) s) (I:Inv es gl kl kr) (hl:0≤l∧l<6) (hr:0≤r∧r<6)
  (hk:(Rep.pair Rep.int Rep.int).is P (l,r) kv) (hv:Rep.int.is P v vv)
  (h:∀P' gl' kl' kr' s',Sub P P'→Inv (put es (l,r) v) gl' kl' kr'→At σ P' (bgL prog w me dx ed lf rt gd (put es (l,r) v) gl' kl' kr' (adj (put es (l,r) v)) rest) s'→Q .none s') :
  wpAny (model prog w) A (call (.ref 105) [.ref me,kv,vv]) Q E s:=by
 have z1:=I.elen
 have z2:=I.glen
 have z3:=I.llen
 have z4:=I.rlen
 refine callC (w:=w) (n:=n) [("self",.local),("key",.local),("value",.local),("isinstance",.globalImplicit),("tuple",.globalImplicit),("len",.globalImplicit),("TypeError",.globalImplicit),("LEFT",.globalImplicit),("set",.globalImplicit),("RIGHT",.globalImplicit)]
  [("self",.ref me),("key",kv),("value",vv)]
  X R H (by show(hd.heap_1 w.params).lookup _=_; k_is) (by show codeIn (hd.heap_1 w.params) _ _=_; k_is) rfl rfl rfl rfl rfl rfl rfl rfl rfl rfl rfl fun Γ hR=>?_
 clear H R
 refine St.iteF (pairTest (A:=Rep.int) (B:=Rep.int) (z:=(l,r)) (fun p=>Ev.name rfl hk rfl) rfl rfl rfl) ?_
 refine St.skip ?_
 refine St.setitem (D:=DKind.pair prog w) (V:=Rep.int) (d:=ed) (ps:=es) (k:=(l,r)) (b:=v) (Ev.attr (me:=me) (d:=dx) (C:=199) (Ev.name rfl rfl rfl) (.head _) (.tail _ (.head _)) rfl (bo_edges _) rfl rfl) (.tail (.tail .head)) (Ev.name rfl hk rfl) (Ev.name rfl hv rfl) (by exact tr1 (by assumption) rfl) (fun _=>rfl) ?_
 refine St.expr (EvC.isetAdd (a:=lf) (x:=l) (Ev.attr (me:=me) (d:=dx) (C:=199) (Ev.name rfl rfl rfl) (.head _) (.tail _ (.head _)) rfl (bo_left _) rfl rfl) (.tail (.tail (.tail .head))) (Ev.fst (A:=Rep.int) (B:=Rep.int) (Ev.name rfl hk rfl)) (by exact tr1 (by assumption) rfl) rfl (fun _=>rfl)) (fun _=>rfl) ?_
 refine St.expr (EvC.isetAdd (a:=rt) (x:=r) (Ev.attr (me:=me) (d:=dx) (C:=199) (Ev.name rfl rfl rfl) (.head _) (.tail _ (.head _)) rfl (bo_right _) rfl rfl) (.tail (.tail (.tail (.tail .head)))) (Ev.snd (A:=Rep.int) (B:=Rep.int) (Ev.name rfl hk rfl)) (by exact tr1 (by assumption) rfl) rfl (fun _=>rfl)) (fun _=>rfl) ?_
 have d0:∀F:Int×Int→Int×Int→Prop,F=adj es→(0,l)∉gl.map (·.1)→∀k,¬F (0,l) k:=by
  rintro F rfl hno k (⟨_,_,c⟩|⟨c,_⟩)
  ·exact hno (I.gk _ c).1
  ·exact absurd (show(0:Int)=1 from c) (by decide)
 refine St.link (gd:=gd) (gl:=gl) (F:=adj es) (side:=0) (side':=1) (x:=l) (y:=r) (rst:=rest)
  (pre:=[(me,Asn.eq (instObj 199 dx)),(dx,Asn.nsN 4 (bgF ed lf rt gd)),(ed,Asn.dict (DKind.pair prog w) Rep.int (put es (l,r) v)),(lf,Asn.iset (insI kl l)),(rt,Asn.iset (insI kr r))])
  (Ev.attr (me:=me) (d:=dx) (C:=199) (Ev.name rfl rfl rfl) (.head _) (.tail _ (.head _)) rfl (bo_graph _) rfl rfl)
  (fun P' kk ll=>EvV.of (Ev.glob (gl_LEFT _) ⟨_,rfl⟩ rfl)) (fun P' kk ll=>EvV.of (Ev.fst (A:=Rep.int) (B:=Rep.int) (Ev.name rfl ((Rep.pair Rep.int Rep.int).mono kk hk) rfl)))
  (fun P' kk ll=>EvV.of (Ev.glob (gl_RIGHT _) ⟨_,rfl⟩ rfl)) (fun P' kk ll=>EvV.of (Ev.snd (A:=Rep.int) (B:=Rep.int) (Ev.name rfl ((Rep.pair Rep.int Rep.int).mono kk hk) rfl)))
  (fun P' kk ll=>Ev.builtin (nb_set _) (by boot_by_name) (by decide) rfl rfl) I.gnd (by exact tr1 (by assumption) rfl) rfl ⟨.inr rfl,rfl,hr⟩ (d0 _ rfl) (fun _=>rfl) ⟨_,fun _=>rfl⟩ ⟨_,fun _=>rfl⟩ (fun _=>rfl) (fun _=>rfl) (fun _=>rfl) (fun _=>rfl) (fun _=>rfl) (fun _=>rfl) (fun _=>rfl) (fun _=>rfl) ?_
 intro P1 kk1 gl1 hn1 hg1
 have hg1l:gl1.length≤13:=by
  have h2:=nodup_le (m:=(0,l)::gl.map (·.1)) hn1 fun k hk=>by
   rcases(hg1 k).mp hk with q|q
   ·exact .tail _ q
   ·rw[q]; exact .head _
  simp only[List.length_map,List.length_cons] at h2
  lia
 have d1:(1,r)∉gl1.map (·.1)→∀k,¬updS (adj es) (0,l) (fun k=>adj es (0,l) k∨k=(1,r)) (1,r) k:=by
  intro hno k hq
  have e1:((1,r):Int×Int)≠(0,l):=fun h=>absurd (Prod.mk.inj h).1 (by decide)
  rw[show updS (adj es) (0,l) (fun k=>adj es (0,l) k∨k=(1,r)) (1,r)=adj es (1,r) from if_neg e1] at hq
  rcases hq with⟨c,_⟩|⟨_,_,c⟩
  ·exact absurd (show(1:Int)=0 from c) (by decide)
  ·exact hno ((hg1 _).mpr (.inl (I.gk _ c).2))
 refine St.link (gd:=gd) (gl:=gl1) (F:=updS (adj es) (0,l) fun k=>adj es (0,l) k∨k=(1,r)) (side:=1) (side':=0) (x:=r) (y:=l) (rst:=rest)
  (pre:=[(me,Asn.eq (instObj 199 dx)),(dx,Asn.nsN 4 (bgF ed lf rt gd)),(ed,Asn.dict (DKind.pair prog w) Rep.int (put es (l,r) v)),(lf,Asn.iset (insI kl l)),(rt,Asn.iset (insI kr r))])
  (Ev.attr (me:=me) (d:=dx) (C:=199) (Ev.name rfl rfl rfl) (.head _) (.tail _ (.head _)) rfl (bo_graph _) rfl rfl)
  (fun P' kk ll=>EvV.of (Ev.glob (gl_RIGHT _) ⟨_,rfl⟩ rfl)) (fun P' kk ll=>EvV.of (Ev.snd (A:=Rep.int) (B:=Rep.int) (Ev.name rfl ((Rep.pair Rep.int Rep.int).mono (kk1.trans kk) hk) rfl)))
  (fun P' kk ll=>EvV.of (Ev.glob (gl_LEFT _) ⟨_,rfl⟩ rfl)) (fun P' kk ll=>EvV.of (Ev.fst (A:=Rep.int) (B:=Rep.int) (Ev.name rfl ((Rep.pair Rep.int Rep.int).mono (kk1.trans kk) hk) rfl)))
  (fun P' kk ll=>Ev.builtin (nb_set _) (by boot_by_name) (by decide) rfl rfl) hn1 (by exact tr1 (by assumption) rfl) rfl ⟨.inl rfl,rfl,hl⟩ d1 (fun _=>rfl) ⟨_,fun _=>rfl⟩ ⟨_,fun _=>rfl⟩ (fun _=>rfl) (fun _=>rfl) (fun _=>rfl) (fun _=>rfl) (fun _=>rfl) (fun _=>rfl) (fun _=>rfl) (fun _=>rfl) ?_
 intro P2 kk2 gl2 hn2 hg2
 refine St.nil fun s' H'=>h P2 gl2 (insI kl l) (insI kr r) s' (kk1.trans kk2) (inv_put I hl hr hn2 fun k=>(hg2 k).trans (or_congr_left (hg1 k))) ?_
 have e:=sets_congr (gl:=gl2) fun p _ k=>adj_put (es:=es) (l:=l) (r:=r) (v:=v) p.1 k
 have H2:=At.dropL H'
 rw[e] at H2
 exact H2
end
end
end Mine
namespace Mine
noncomputable section
section
variable {G:Gl} {P P':Heap} {nms:List (Str×NameKind)} {n:Nat} {Γ:Cx G P nms n} {m:Str→Option Value} {led led' led0:List (Addr×Asn)} {e elt iter target:Expr} {ifs:List Expr} {scope:Scope} {x:Str} {v:Value} {pos p1 pf:Pos}
 {rest body orelse:List Stmt} {Q:Flow→Shared→Prop} {κ β:Type} {di:DecidableEq κ} {D:DKind G.prog G.w κ} {V:Rep β} {ps:List (κ×β)} {d c Pc:Addr} {n':Nat}
theorem Ev.freeP {c:Addr} {R:Value→Prop} {o:Obj} (ho:P.get? c=some o) (hd:o.data=.cell (some v)) (hR:R v) (hc:Γ.env.cells.lookup x=some c) (hl:nms.lookup x=some .free) (hn:(x == ("__classdict__" : Str))=false):Ev Γ m led (.Name x pos) R:=
 ⟨fun _ _ H h=>wpAny_Name (wpAny_loadName_free Γ.eok.kind (Γ.eok.kindOf hl) hc ⟨o,H.sub _ _ ho,hd⟩ (h _ _ hR H) hn) (Γ.dbg hl)⟩
structure TstG {G:Gl} {P:Heap} {nms:List (Str×NameKind)} {n:Nat} (Γ:Cx G P nms n) (m:Str→Option Value) (led:List (Addr×Asn)) (e:Expr) (b:Bool) (R:Heap→List (Addr×Asn)→Prop):Prop where
 run:∀(Q:Bool→Shared→Prop) (s:Shared),Γ.at_ m led s→(∀P' led' s' (k:Sub P P'),R P' led'→(Γ.up k).at_ m led' s'→Q b s')→Γ.wp (isTrue e Γ.env (eval e Γ.env)) Q s
theorem TstG.of_ev {b:Bool} {R:Heap→List (Addr×Asn)→Prop} (h:EvG Γ m led e fun P' v l=>v=.bool b∧R P' l) (hp:∀env whole,isTrue e env whole=(do let v ←whole; standAt e.pos; holding [v] (truthy v))):TstG Γ m led e b R:=
 ⟨fun Q s H k=>isTrue_plain (h.run _ s H fun P' v l s' kk hv H'=>by obtain⟨rfl,hl⟩:=hv; exact wpAny_truthy_bool (k P' l s' kk hl H')) (hp _ _)⟩
theorem TstC.toG {b:Bool} {R:Heap→List (Addr×Asn)→Prop} (h:TstC Γ m led e b led') (hR:R P led'):TstG Γ m led e b R:=⟨fun Q s H k=>h.run Q s H fun s' H'=>k P led' s' (Sub.refl P) hR H'⟩
theorem TstG.imp {b:Bool} {R R':Heap→List (Addr×Asn)→Prop} (h:TstG Γ m led e b R) (hR:∀P' l,Sub P P'→R P' l→R' P' l):TstG Γ m led e b R':=⟨fun Q s H k=>h.run Q s H fun P' l s' kk hr H'=>k P' l s' kk (hR _ _ kk hr) H'⟩
theorem TstG.not {b:Bool} {R:Heap→List (Addr×Asn)→Prop} (h:TstG Γ m led e b R):TstG Γ m led (.UnaryOp .Not e pos) (!b) R:=⟨fun Q s H k=>isTrue_not (h.run _ s H fun P' l s' kk hl H'=>k P' l s' kk hl H')⟩
theorem St.iteG {b:Bool} {R:Heap→List (Addr×Asn)→Prop} (h1:TstG Γ m led e b R) (h:∀P' l (k:Sub P P'),R P' l→St (Γ.up k) m l (if b then body else orelse) (Γ.seq rest Q)):St Γ m led (.If e body orelse pos::rest) Q:=
 ⟨fun s H=>wpAny_execs_cons (wpAny_If (h1.run _ s H fun P' l s' kk hl H'=>by
  have q:=(h P' l kk hl).run s' H'
  rcases b with _|_
  rotate_left
  ·rw[if_pos rfl] at q ⊢; exact wpAny_mono q (fun f s3 z=>by obtain⟨⟩:=f <;> exact z) fun _ _ z=>z
  ·rw[if_neg Bool.false_ne_true] at q ⊢; exact wpAny_mono q (fun f s3 z=>by obtain⟨⟩:=f <;> exact z) fun _ _ z=>z))⟩
theorem St.skipG {P':Heap} (k:Sub P P') (h:St (Γ.up k) m led rest Q):St (Γ.up k) m led [] (Γ.seq rest Q):=⟨fun s H=>wpAny_execs_nil (h.run s H)⟩
theorem EvG.allKeys {b:Nat→Bool} (hf:Ev Γ m led0 (.Name x pf) (Is (.builtin "all"))) (hit:Ev Γ m led0 iter (Is (.ref d))) {ledp:Nat→List (Addr×Asn)} (U:∀ep,Upd d (Asn.dict D V ps) (Asn.dictX D V ps (some ep)) led0 (ledp ep))
  (hcode:Γ.env.code=.ref c) (CK:CodeK G.w c Pc) (hPc:(Pc,Asn.codeTab)∈led0) (hPd:Pc≠d)
  (hRm:Rm Γ.A (n'+4))
  (hco:scope.isCoroutine=false) (hk:scope.kind=.function) (hcell:∀y∈scope.names,y.2≠.cell) (h0:scope.names.lookup (".0" : Str)=some NameKind.local)
  (hfree:∀x∈scope.names,x.2=.free→(Γ.env.cells.lookup x.1).isSome) (hdb:scope.names.lookup ("__debug__" : Str)=none) (hT:(∀it v,letOwnedTupleGo target it v=pure ())∨∃elts k p,target=.Tuple elts k p)
  (hs:∀env x,genFold iter env x=pure x)
  (turn:∀(P1:Heap) (_:Sub P P1) (C I g:Addr) (R:Nat→Asn) (need:Heap→Heap→Prop) (cenv:Env),(∀x∈freesOf scope.names,cenv.cells.lookup x=Γ.env.cells.lookup x) →
   GTurn ⟨G.prog,G.w,G.σ,C,I,g,R,ps.length,need,Lean1 P1 Γ.own m,fun _ _ i v=>v=.bool (b i)⟩ scope.names cenv n' target elt [] (fun P i v=>∃p,ps[i]? = some p∧D.rep.is P p.1 v))
  (he:∀env,eval (.Call (.Name x pf) [.GeneratorExp elt [⟨target,iter,[],0⟩] scope p1] [] pos) env=(do callWith pos (←eval (.Name x pf) env) [] (backTo pos (starEach [.GeneratorExp elt [⟨target,iter,[],0⟩] scope p1] env)) (backToKw pos (keywordEach [] env))))
  (hs':∀env,starEach [.GeneratorExp elt [⟨target,iter,[],0⟩] scope p1] env=(false,eval (.GeneratorExp elt [⟨target,iter,[],0⟩] scope p1) env)::starEach [] env) :
  EvG Γ m led0 (.Call (.Name x pf) [.GeneratorExp elt [⟨target,iter,[],0⟩] scope p1] [] pos) fun P' v l=>v=.bool ((List.range ps.length).all b)∧l=led0:=
 ⟨fun Q s H h=>Call_ (hf.run _ s H fun u s1 hu H1=>by
  subst hu
  refine PyProof.Rows.callWith_builtin1 (spliced_more ((EvZ.genexp (Walk.dict hit U) hcode CK (fun Pin P' led zz1=>E1A3 zz1 fun ep _ e _=>⟨led,Upd.again (e▸(U ep).other hPc hPd)⟩) hco hk hcell h0 hfree hdb hT hs turn).run _ s1 H1 fun P' v l s2 k ⟨P1,Pin,led,⟨ep,ePin,el,eP⟩,k1,M⟩ H2=>spliced_none ?_) (hs' _)) (hs' _) rfl
  have X2:=Γ.src.mono k
  obtain⟨ga,St,rfl,⟨g,hg⟩,Fd,hst⟩:=M.feed (A:=Γ.A.in1) (Pv:=fun _ i v=>v=.bool (b i)) (by rw[ePin,el]; exact(U ep).mem') hRm.in1 X2.nolimit (fun P0 P1 i v hy=>.inl fun _=>hy) H2
  refine r_all Fd hg.isGen hst fun P3 s3 k3 H3=>?_
  subst el
  exact h P3 _ _ s3 (k.trans k3) ⟨rfl,rfl⟩ (At.unpin H3 ((Γ.tu (U ep)).inv))) (he _)⟩
end
end
end Mine
namespace Mine
set_option maxHeartbeats 1000000
noncomputable section
noncomputable def otherL (es:List Ed) (l:Int) (i:Nat):Bool:=match es[i]? with|some p=>p.1.1 != l|none=>true
noncomputable def otherR (es:List Ed) (r:Int) (i:Nat):Bool:=match es[i]? with|some p=>p.1.2 != r|none=>true
theorem allL {es:List Ed} {l:Int}:(List.range es.length).all (otherL es l)=true↔¬ ∃r,(l,r)∈es.map (·.1):=by
 rw[List.all_eq_true]
 constructor
 ·intro h hz195
  refine E1A1 hz195 fun r hr=>?_
  clear hz195
  obtain⟨p,hp,e⟩:=List.mem_map.mp hr
  obtain⟨i,hi⟩:=List.mem_iff_getElem?.mp hp
  have:=h i (List.mem_range.mpr (List.getElem?_eq_some_iff.mp hi).1)
  unfold otherL at this
  rw[hi] at this
  simp[e] at this
 ·intro h i hi
  unfold otherL
  rw[List.getElem?_eq_getElem (List.mem_range.mp hi)]
  have:es[i]'(List.mem_range.mp hi)∈es:=List.getElem_mem _
  simp only[bne_iff_ne,ne_eq]
  exact fun e=>h ⟨_,List.mem_map.mpr ⟨_,this,Prod.ext e rfl⟩⟩
theorem allR {es:List Ed} {r:Int}:(List.range es.length).all (otherR es r)=true↔¬ ∃l,(l,r)∈es.map (·.1):=by
 rw[List.all_eq_true]
 constructor
 ·intro h hz192
  refine E1A1 hz192 fun l hr=>?_
  clear hz192
  obtain⟨p,hp,e⟩:=List.mem_map.mp hr
  obtain⟨i,hi⟩:=List.mem_iff_getElem?.mp hp
  have:=h i (List.mem_range.mpr (List.getElem?_eq_some_iff.mp hi).1)
  unfold otherR at this
  rw[hi] at this
  simp[e] at this
 ·intro h i hi
  unfold otherR
  rw[List.getElem?_eq_getElem (List.mem_range.mp hi)]
  have:es[i]'(List.mem_range.mp hi)∈es:=List.getElem_mem _
  simp only[bne_iff_ne,ne_eq]
  exact fun e=>h ⟨_,List.mem_map.mpr ⟨_,this,Prod.ext rfl e⟩⟩
section
variable {prog:Program} {w:World} {σ:Shared} {C I g c:Addr} {R:Nat→Asn} {need:Heap→Heap→Prop} {P P1:Heap} {own:List (Str×Addr)} {m:Str→Option Value} {cenv:Env} {n' k1 k2:Nat} {p1 p2 p3 p4 p5 p6 p7 p8:Pos} {es:List Ed} {l r:Int} {kv:Value}
theorem turnL (hk:(Rep.pair Rep.int Rep.int).is P1 (l,r) kv) (hm:m "key" = some kv) (ho:own.lookup ("key" : Str)=some c) (hc:cenv.cells.lookup ("key" : Str)=some c) :
  GTurn ⟨prog,w,σ,C,I,g,R,es.length,need,Lean1 P1 own m,fun _ _ i v=>v=.bool (otherL es l i)⟩ [(".0",.local),("l",.local),("_",.local),("key",.free)] cenv n'
   (.Tuple [.Name "l" p1,.Name "_" p2] k1 p3) (.Compare (.Name "l" p4) [.NotEq] [.Subscript (.Name "key" p5) (.Constant (.int 0) k2 p6) p7] p8) [] (fun P i v=>∃p,es[i]? = some p∧(DKind.pair prog w).rep.is P p.1 v):=
 ⟨fun σ' i P0 P' k Γ mc v henv hX hi zz186=>E1A2 zz186 fun p hp hv=>by
  refine E0A2 (hX) fun hs hcell=>?_
  clear hX
  obtain⟨o,ho',hd⟩:=hcell _ _ _ ho hm
  refine⟨_,Asg.two (A:=Rep.int) (B:=Rep.int) (u:=p.1.1) (w:=p.1.2) hv (fun v'=>Asg.name rfl) (fun m' v'=>Asg.name rfl) (fun _=>rfl),?_⟩
  intro m'' hz176
  refine E3A4 hz176 fun v1 v2 m1 ha hb ee174 ee175=>?_
  clear hz176
  subst ee174 ee175
  refine⟨Tsts.nil,EvC.toG (Ev.cmpI (x:=p.1.1) (y:=l) (c:=p.1.1 != l) (Ev.name rfl ha rfl) (Ev.fst (A:=Rep.int) (B:=Rep.int) (w:=r) (Ev.freeP ho' hd ((Rep.pair Rep.int Rep.int).mono hs hk) (henv▸hc) rfl rfl)) rfl rfl) fun v hv=>⟨rfl,?_⟩⟩
  show v=.bool (otherL es l i)
  unfold otherL
  rw[hp]; exact hv⟩
theorem turnR (hk:(Rep.pair Rep.int Rep.int).is P1 (l,r) kv) (hm:m "key" = some kv) (ho:own.lookup ("key" : Str)=some c) (hc:cenv.cells.lookup ("key" : Str)=some c) :
  GTurn ⟨prog,w,σ,C,I,g,R,es.length,need,Lean1 P1 own m,fun _ _ i v=>v=.bool (otherR es r i)⟩ [(".0",.local),("_",.local),("r",.local),("key",.free)] cenv n'
   (.Tuple [.Name "_" p1,.Name "r" p2] k1 p3) (.Compare (.Name "r" p4) [.NotEq] [.Subscript (.Name "key" p5) (.Constant (.int 1) k2 p6) p7] p8) [] (fun P i v=>∃p,es[i]? = some p∧(DKind.pair prog w).rep.is P p.1 v):=
 ⟨fun σ' i P0 P' k Γ mc v henv hX hi zz171=>E1A2 zz171 fun p hp hv=>by
  obtain⟨hs,hcell⟩:=hX
  obtain⟨o,ho',hd⟩:=hcell _ _ _ ho hm
  refine⟨_,Asg.two (A:=Rep.int) (B:=Rep.int) (u:=p.1.1) (w:=p.1.2) hv (fun v'=>Asg.name rfl) (fun m' v'=>Asg.name rfl) (fun _=>rfl),?_⟩
  intro m'' hz148
  refine E3A4 hz148 fun v1 v2 m1 ha hb ee146 ee147=>?_
  clear hz148
  subst ee146 ee147
  refine⟨Tsts.nil,EvC.toG (Ev.cmpI (x:=p.1.2) (y:=r) (c:=p.1.2 != r) (Ev.name rfl hb rfl) (Ev.snd (A:=Rep.int) (B:=Rep.int) (u:=l) (Ev.freeP ho' hd ((Rep.pair Rep.int Rep.int).mono hs hk) (henv▸hc) rfl rfl)) rfl rfl) fun v hv=>⟨rfl,?_⟩⟩
  show v=.bool (otherR es r i)
  unfold otherR
  rw[hp]; exact hv⟩
end
theorem mem_cut_keys {κ β:Type} [DecidableEq κ] {ps:List (κ×β)} {k:κ} (hn:(ps.map (·.1)).Nodup) {x:κ}:x∈(cut ps k).map (·.1)↔x∈ps.map (·.1)∧x≠k:=by
 unfold cut
 cases hi:idx (ps.map (·.1)) k with
 | none=>
  refine⟨fun h=>⟨h,fun e=>?_⟩,fun h=>h.1⟩
  subst e
  have:=look_isSome.mpr h
  rw[look_none_idx.mpr hi] at this; contradiction
 | some i=>
  unfold idx at hi
  obtain⟨hlt,hx,_⟩:=List.findIdx?_eq_some_iff_getElem.mp hi
  have hk:(ps.map (·.1))[i]? = some k:=by rw[List.getElem?_eq_getElem hlt]; exact congrArg some (of_decide_eq_true hx)
  rw[erase_keys,erase_at hn hk,hn.mem_erase_iff]
  exact and_comm
theorem cut_nodup {κ β:Type} [DecidableEq κ] {ps:List (κ×β)} {k:κ} (hn:(ps.map (·.1)).Nodup):((cut ps k).map (·.1)).Nodup:=by
 unfold cut
 cases idx (ps.map (·.1)) k with
 | none=>exact hn
 | some i=>show((ps.eraseIdx i).map (·.1)).Nodup; rw[erase_keys]; exact hn.sublist (List.eraseIdx_sublist ..)
noncomputable def eraseIf (c:Bool) (kk:List Int) (x:Int):List Int:=if c then kk.erase x else kk
theorem mem_eraseIf {c:Bool} {kk:List Int} (hn:kk.Nodup) {x y:Int}:y∈eraseIf c kk x↔y∈kk∧(c=true→y≠x):=by
 unfold eraseIf
 rcases c with _|_
 rotate_left
 ·simp only[if_true,hn.mem_erase_iff]; exact⟨fun h=>⟨h.2,fun _=>h.1⟩,fun h=>⟨h.2 trivial,h.1⟩⟩
 ·simp
theorem inv_cut {es:List Ed} {gl:List ((Int×Int)×Addr)} {kl kr:List Int} {l r:Int} (I:Inv es gl kl kr) {c1 c2:Bool} (h1:c1=true↔¬ ∃q,(l,q)∈(cut es (l,r)).map (·.1)) (h2:c2=true↔¬ ∃q,(q,r)∈(cut es (l,r)).map (·.1)) :
  Inv (cut es (l,r)) gl (eraseIf c1 kl l) (eraseIf c2 kr r) where
 end_:=cut_nodup I.end_
 rng:=fun e he=>I.rng e ((mem_cut_keys I.end_).mp he).1
 gnd:=I.gnd
 gok:=I.gok
 gk:=fun e he=>I.gk e ((mem_cut_keys I.end_).mp he).1
 left:=fun x=>by
  rw[mem_eraseIf I.lnd,I.left,h1]
  constructor
  ·intro hz128
   refine E0A2 hz128 fun zz127 hx=>?_
   clear hz128
   obtain⟨q,hq⟩:=zz127
   by_cases e:(x,q)=(l,r)
   ·have e1:x=l:=(Prod.mk.inj e).1
    subst e1
    exact Classical.byContradiction fun hno=>hx hno rfl
   ·exact⟨q,(mem_cut_keys I.end_).mpr ⟨hq,e⟩⟩
  ·intro hz116
   refine E1A1 hz116 fun q hq=>?_
   clear hz116
   exact⟨⟨q,((mem_cut_keys I.end_).mp hq).1⟩,fun hno e=>hno ⟨q,e▸hq⟩⟩
 right:=fun x=>by
  rw[mem_eraseIf I.rnd,I.right,h2]
  constructor
  ·intro hz103
   refine E0A2 hz103 fun zz102 hx=>?_
   clear hz103
   obtain⟨q,hq⟩:=zz102
   by_cases e:(q,x)=(l,r)
   ·have e1:x=r:=(Prod.mk.inj e).2
    subst e1
    exact Classical.byContradiction fun hno=>hx hno rfl
   ·exact⟨q,(mem_cut_keys I.end_).mpr ⟨hq,e⟩⟩
  ·intro hz88
   refine E1A1 hz88 fun q hq=>?_
   clear hz88
   exact⟨⟨q,((mem_cut_keys I.end_).mp hq).1⟩,fun hno e=>hno ⟨q,e▸hq⟩⟩
 lnd:=by unfold eraseIf; split; exact I.lnd.erase _; exact I.lnd
 rnd:=by unfold eraseIf; split; exact I.rnd.erase _; exact I.rnd
theorem adj_cut' {es:List Ed} {l r:Int} (hn:(es.map (·.1)).Nodup) (key k:Int×Int):adj (cut es (l,r)) key k↔adj es key k∧¬(key=(0,l)∧k=(1,r))∧¬(key=(1,r)∧k=(0,l)):=by
 unfold adj
 rw[mem_cut_keys hn,mem_cut_keys hn]
 constructor
 ·rintro(⟨a,b,c,d⟩|⟨a,b,c,d⟩)
  ·refine⟨.inl ⟨a,b,c⟩,fun zz74=>E0A2 zz74 fun e1 e2=>d ?_,fun zz57=>E0A2 zz57 fun e1 e2=>?_⟩
   ·rw[e1,e2]
   ·rw[e1] at a; exact absurd (show(1:Int)=0 from a) (by decide)
  ·refine⟨.inr ⟨a,b,c⟩,fun zz39=>E0A2 zz39 fun e1 e2=>?_,fun zz20=>E0A2 zz20 fun e1 e2=>d ?_⟩
   ·rw[e1] at a; exact absurd (show(0:Int)=1 from a) (by decide)
   ·rw[e1,e2]
 ·rintro⟨⟨a,b,c⟩|⟨a,b,c⟩,h1,h2⟩
  ·exact .inl ⟨a,b,c,fun e=>h1 ⟨Prod.ext a (Prod.mk.inj e).1,Prod.ext b (Prod.mk.inj e).2⟩⟩
  ·exact .inr ⟨a,b,c,fun e=>h2 ⟨Prod.ext a (Prod.mk.inj e).2,Prod.ext b (Prod.mk.inj e).1⟩⟩
theorem adj_cut {es:List Ed} {l r:Int} (hn:(es.map (·.1)).Nodup) (key k:Int×Int) :
  updS (updS (adj es) (0,l) fun k=>adj es (0,l) k∧k≠(1,r)) (1,r) (fun k=>updS (adj es) (0,l) (fun k=>adj es (0,l) k∧k≠(1,r)) (1,r) k∧k≠(0,l)) key k↔adj (cut es (l,r)) key k:=by
 have e1:((1,r):Int×Int)≠(0,l):=fun h=>absurd (Prod.mk.inj h).1 (by decide)
 have e2:updS (adj es) (0,l) (fun k=>adj es (0,l) k∧k≠(1,r)) (1,r)=adj es (1,r):=if_neg e1
 rw[e2,adj_cut' hn]
 unfold updS
 by_cases h1:key=(1,r)
 ·subst h1
  rw[if_pos rfl]
  exact⟨fun h=>⟨h.1,fun q=>e1 q.1,fun q=>h.2 q.2⟩,fun h=>⟨h.1,fun q=>h.2.2 ⟨rfl,q⟩⟩⟩
 ·rw[if_neg h1]
  by_cases h2:key=(0,l)
  ·subst h2
   rw[if_pos rfl]
   exact⟨fun h=>⟨h.1,fun q=>h.2 q.2,fun q=>h1 q.1⟩,fun h=>⟨h.1,fun q=>h.2.1 ⟨rfl,q⟩⟩⟩
  ·rw[if_neg h2]
   exact⟨fun h=>⟨h,fun q=>h2 q.1,fun q=>h1 q.1⟩,fun h=>h.1⟩
end
end Mine
namespace Mine
set_option maxHeartbeats 1000000
noncomputable section
section
variable {G:Gl} {P:Heap} {nms:List (Str×NameKind)} {n:Nat} {Γ:Cx G P nms n} {m:Str→Option Value} {pre rst:List (Addr×Asn)} {eg eL ex eR ey:Expr} {x y:Int} {pos p1 p2 p3 pf pt1 pt2 pc1 pc2 ps:Pos} {k1 k2:Nat}
 {rest:List Stmt} {Q:Flow→Shared→Prop} {gd:Addr} {gl:List ((Int×Int)×Addr)} {F:Int×Int→Int×Int→Prop} {side side':Int}
theorem St.unlink (hg:Ev Γ m (pre++(gd,Asn.dict (DKind.pair G.prog G.w) Rep.val (gvals gl))::(sets gl F++rst)) eg (Is (.ref gd)))
  (hL:∀P' (kk:Sub P P') l,EvV (Γ.up kk) m l eL Rep.int side) (hx:∀P' (kk:Sub P P') l,EvV (Γ.up kk) m l ex Rep.int x)
  (hR:∀P' (kk:Sub P P') l,EvV (Γ.up kk) m l eR Rep.int side') (hy:∀P' (kk:Sub P P') l,EvV (Γ.up kk) m l ey Rep.int y)
  (hgn:(gl.map (·.1)).Nodup) (hside:side'=1 - side) (hkey:(side,x)∈gl.map (·.1)) (hF:F (side,x) (side',y))
  (hw:∀env,swapsWith (.Call (.Attribute (.Subscript eg (.Tuple [eL,ex] k1 pt1) pc1) "remove" p2) [.Tuple [eR,ey] k2 pt2] [] pc2) none pos.line env=pure false)
  (hsub:∀o i,subscripted (.Tuple [eL,ex] k1 pt1) false o i=operate [o,i] (getItem o i))
  (he2:∃pl,∀env,eval (.Call (.Attribute (.Subscript eg (.Tuple [eL,ex] k1 pt1) pc1) "remove" p2) [.Tuple [eR,ey] k2 pt2] [] pc2) env=(do
   let ov ←eval (.Subscript eg (.Tuple [eL,ex] k1 pt1) pc1) env
   standAt p2.atName
   let (f,first) ←holding [ov] (getMethod ov "remove" pl)
   callWith pc2 f first (backTo pc2 (starEach [.Tuple [eR,ey] k2 pt2] env)) []))
  (hs3:∀env,starEach [.Tuple [eR,ey] k2 pt2] env=(false,eval (.Tuple [eR,ey] k2 pt2) env)::starEach [] env)
  (ht1:∀env,starEach [eL,ex] env=(false,eval eL env)::starEach [ex] env) (ht2:∀env,starEach [ex] env=(false,eval ex env)::starEach [] env)
  (ht3:∀env,starEach [eR,ey] env=(false,eval eR env)::starEach [ey] env) (ht4:∀env,starEach [ey] env=(false,eval ey env)::starEach [] env)
  (h:∀P' (kk:Sub P P'),St (Γ.up kk) m (pre++(gd,Asn.dict (DKind.pair G.prog G.w) Rep.val (gvals gl))::(sets gl (updS F (side,x) fun k=>F (side,x) k∧k≠(side',y))++rst)) rest Q) :
  St Γ m (pre++(gd,Asn.dict (DKind.pair G.prog G.w) Rep.val (gvals gl))::(sets gl F++rst)) (.Expr (.Call (.Attribute (.Subscript eg (.Tuple [eL,ex] k1 pt1) pc1) "remove" p2) [.Tuple [eR,ey] k2 pt2] [] pc2) pos::rest) Q:=by
 refine E1A1 (he2) fun pl2 he2=>?_
 refine E1A2 (List.mem_map.mp hkey) fun p hp hpe=>?_
 have hm:((side,x),p.2)∈gl:=by rw[←hpe]; exact hp
 generalize p.2=a at hm
 clear hp hpe
 refine St.exprG (RL:=fun P' l=>l=pre++(gd,Asn.dict (DKind.pair G.prog G.w) Rep.val (gvals gl))::(sets gl (updS F (side,x) fun k=>F (side,x) k∧k≠(side',y))++rst)) ?_ hw ?_
 ·refine EvG.m1 (id:="set.remove") (pl:=pl2) (R1:=fun P' v l=>l=pre++(gd,Asn.dict (DKind.pair G.prog G.w) Rep.val (gvals gl))::(sets gl F++rst)∧v=.ref a)
   (R2:=fun P' v u l=>(l=pre++(gd,Asn.dict (DKind.pair G.prog G.w) Rep.val (gvals gl))::(sets gl F++rst)∧v=.ref a)∧(Rep.pair Rep.int Rep.int).is P' (side',y) u) ?_ ?_ ?_ ?_ (he2 _) hs3
  ·exact EvG.imp (EvV.subG (D:=DKind.pair G.prog G.w) (V:=Rep.val) (k:=(side,x)) (b:=.ref a) hg (List.mem_append_right _ (.head _)) (EvV.pair (hL P (Sub.refl P) _) (fun P2 k2=>hx P2 k2 _) ht1 ht2) (gvals_look hgn hm) hsub) fun P' v l _ h=>h
  ·rintro P' k v l Q' s ⟨rfl,rfl⟩ H hq
   exact m_set (H:At _ _ _ _) ((Γ.up k).tl (List.mem_append_right _ (.tail _ (List.mem_append_left _ (sets_mem hm))))) PySem.F.slot_set_remove PySem.F.type_set_remove hq
  ·rintro P' k v l hR1
   exact EvG.imp (EvV.pair (hR P' k _) (fun P2 k2=>hy P2 (k.trans k2) _) ht3 ht4) fun P2 u l _ zz12=>E0A2 zz12 fun e hu=>⟨e▸hR1,hu⟩
  ·intro P' k v u l Q' s hz5
   refine E0A2 hz5 fun zz4 hu=>?_
   clear hz5
   obtain⟨rfl,rfl⟩:=zz4
   rintro H hq
   subst hside
   refine r_setremove (k:=(1 - side,y)) (side:=1 - side) (H:At _ _ _ _) ((Γ.up k).tu (Upd.pre (.tail ((sets_upd hgn hm).post rst)) pre)) Γ.rm.c1 hu hF fun s' H'=>?_
   exact hq P' .none _ s' (Sub.refl P') ⟨rfl,rfl⟩ H'
 ·rintro P' l kk rfl
  exact h P' kk
theorem St.ifThen {led:List (Addr×Asn)} {e:Expr} {body:List Stmt} {b:Bool} (L:Bool→List (Addr×Asn)) (hL:L false=led) (h1:TstG Γ m led e b fun P' l=>l=led)
  (h2:∀(P':Heap) (kk:Sub P P') R,b=true→St (Γ.up kk) m (L true) [] R→St (Γ.up kk) m led body R) (h:∀(P':Heap) (kk:Sub P P'),St (Γ.up kk) m (L b) rest Q):St Γ m led (.If e body [] pos::rest) Q:=by
 refine St.iteG h1 fun P' l kk e=>?_
 subst e
 have h3:=h P' kk
 rcases b with _|_
 rotate_left
 ·exact h2 P' kk _ rfl (St.skip h3)
 ·rw[if_neg Bool.false_ne_true]; rw[hL] at h3; exact St.skip h3
end
section
variable {prog:Program} {w:World} {σ:Shared} {P:Heap} {s:Shared} {A:Around} {E:Value→Shared→Prop} {me dx ed lf rt gd:Addr} {es:List Ed} {gl:List ((Int×Int)×Addr)} {kl kr:List Int} {rest:List (Addr×Asn)} {l r v:Int} {kv vv:Value}
theorem del_c {n:Nat} {Q:Value→Shared→Prop} (X:Src (KF w) P) (R:Rm A (n+6)) (H:At σ P (bgL prog w me dx ed lf rt gd es gl kl kr (adj es) rest) s) (hPc:(114,Asn.codeTab)∈rest) (I:Inv es gl kl kr) (hin:(l,r)∈es.map (·.1))
  (hk:(Rep.pair Rep.int Rep.int).is P (l,r) kv)
  (h:∀P' kl' kr' s',Sub P P'→Inv (cut es (l,r)) gl kl' kr'→At σ P' (bgL prog w me dx ed lf rt gd (cut es (l,r)) gl kl' kr' (adj (cut es (l,r))) rest) s'→Q .none s') :
  wpAny (model prog w) A (call (.ref 119) [.ref me,kv]) Q E s:=by
 have z1:=I.elen
 have hne:(114:Addr)≠ed:=fun e=>by
  have nd:=H.ld.nodup
  unfold bgL at nd
  simp only[List.map_cons,List.nodup_cons] at nd
  exact nd.2.2.1 (by rw[←e]; exact .tail _ (.tail _ (.tail _ (List.mem_map_of_mem (f:=fun p:Addr×Asn=>p.1) (List.mem_append_right _ hPc)))))
 refine wpAny_call (callCx (w:=w) (n:=n+4) [("self",.local),("key",.cell),("isinstance",.globalImplicit),("tuple",.globalImplicit),("len",.globalImplicit),("TypeError",.globalImplicit),("all",.globalImplicit),("LEFT",.globalImplicit),("RIGHT",.globalImplicit)]
  [("self",.ref me),("key",kv)]
  X R H (by show(hd.heap_1 w.params).lookup _=_; k_is) (by show codeIn (hd.heap_1 w.params) _ _=_; k_is) rfl rfl rfl rfl (by decide) (fun L=>(by decide:[("key" : Str)].Nodup)) (fun L x hx=>?_) rfl rfl rfl rfl rfl rfl fun Γ hR hcode hown hcells _=>?_)
 ·rcases List.mem_cons.mp hx with rfl|hx
  ·exact .inl rfl
  rcases List.mem_cons.mp hx with rfl|hx
  ·exact .inr ⟨rfl,rfl⟩
  contradiction
 clear H R
 have hc0:∀P' (kk:Sub P P'),(Γ.up kk).own.lookup ("key" : Str)=some (Γ.L+1):=fun P' kk=>by
  show Γ.own.lookup _=_
  rw[hown]; rfl
 have hcc:Γ.env.cells.lookup ("key" : Str)=some (Γ.L+1):=by rw[hcells]; exact hc0 P (Sub.refl P)
 have hkey:∀P' (kk:Sub P P') ll p,Ev (Γ.up kk) (fun x=>([("self",Value.ref me),("key",kv)]:List (Str×Value)).reverse.lookup x) ll (.Name "key" p) ((Rep.pair Rep.int Rep.int).is P' (l,r)):=
  fun P' kk ll p=>Ev.cell rfl ((Rep.pair Rep.int Rep.int).mono kk hk) rfl (hc0 P' kk)
 refine St.iteF (pairTest (A:=Rep.int) (B:=Rep.int) (z:=(l,r)) (fun p=>hkey P (Sub.refl P) _ p) rfl rfl rfl) ?_
 refine St.skip ?_
 refine St.delitem (D:=DKind.pair prog w) (V:=Rep.int) (d:=ed) (ps:=es) (k:=(l,r)) (Ev.attr (me:=me) (d:=dx) (C:=199) (Ev.name rfl rfl rfl) (.head _) (.tail _ (.head _)) rfl (bo_edges _) rfl rfl) (.tail (.tail .head)) (hkey P (Sub.refl P) _ _) (by exact tr1 (by assumption) rfl) (look_isSome.mpr hin) ?_
 generalize hes:cut es (l,r)=es' at *
 have hkl:l∈kl:=(I.left _).mpr ⟨r,hin⟩
 have hkr:r∈kr:=(I.right _).mpr ⟨l,hin⟩
 refine St.ifThen (b:=(List.range es'.length).all (otherL es' l)) (fun b=>(me,Asn.eq (instObj 199 dx))::(dx,Asn.nsN 4 (bgF ed lf rt gd))::(ed,Asn.dict (DKind.pair prog w) Rep.int es')::(lf,Asn.iset (eraseIf b kl l))::(rt,Asn.iset kr)::(gd,Asn.dict (DKind.pair prog w) Rep.val (gvals gl))::(sets gl (adj es)++rest)) rfl ?_ ?_ ?_
 ·refine TstG.of_ev (EvG.allKeys (D:=DKind.pair prog w) (V:=Rep.int) (ps:=es') (d:=ed) (n':=n+1) (Ev.builtin (nb_all _) (by boot_by_name) (by decide) rfl rfl) (Ev.attr (me:=me) (d:=dx) (C:=199) (Ev.name rfl rfl rfl) (.head _) (.tail _ (.head _)) rfl (bo_edges _) rfl rfl)
   (fun ep=>.tail (.tail .head)) hcode (ck_del w) (.tail _ (.tail _ (.tail _ (.tail _ (.tail _ (.tail _ (List.mem_append_right _ hPc))))))) hne hR rfl rfl (by decide) rfl (fun x hx hf=>?_) rfl (.inr ⟨_,_,_,rfl⟩) (fun _ _=>rfl) (fun P1 k1 C I g R need cenv hcl=>?_) (fun _=>rfl) (fun _=>rfl)) (fun _ _=>rfl)
  ·rcases List.mem_cons.mp hx with rfl|hx
   ·contradiction
   rcases List.mem_cons.mp hx with rfl|hx
   ·contradiction
   rcases List.mem_cons.mp hx with rfl|hx
   ·contradiction
   rcases List.mem_cons.mp hx with rfl|hx
   ·rw[hcc]; rfl
   contradiction
  ·exact turnL (c:=Γ.L+1) ((Rep.pair Rep.int Rep.int).mono k1 hk) rfl (hc0 P (Sub.refl P)) ((hcl "key" (by decide)).trans hcc)
 ·intro P1 kk R hb hR1
  exact St.expr (EvC.isetRemove (a:=lf) (x:=l) (Ev.attr (me:=me) (d:=dx) (C:=199) (Ev.name rfl rfl rfl) (.head _) (.tail _ (.head _)) rfl (bo_left _) rfl rfl) (.tail (.tail (.tail .head))) (Ev.fst (A:=Rep.int) (B:=Rep.int) (hkey P1 kk _ _)) hkl rfl (fun _=>rfl)) (fun _=>rfl) hR1
 intro P1 kk1
 generalize hb1:(List.range es'.length).all (otherL es' l)=b1
 refine St.ifThen (b:=(List.range es'.length).all (otherR es' r)) (fun b=>(me,Asn.eq (instObj 199 dx))::(dx,Asn.nsN 4 (bgF ed lf rt gd))::(ed,Asn.dict (DKind.pair prog w) Rep.int es')::(lf,Asn.iset (eraseIf b1 kl l))::(rt,Asn.iset (eraseIf b kr r))::(gd,Asn.dict (DKind.pair prog w) Rep.val (gvals gl))::(sets gl (adj es)++rest)) rfl ?_ ?_ ?_
 ·refine TstG.of_ev (EvG.allKeys (D:=DKind.pair prog w) (V:=Rep.int) (ps:=es') (d:=ed) (n':=n+1) (Ev.builtin (nb_all _) (by boot_by_name) (by decide) rfl rfl) (Ev.attr (me:=me) (d:=dx) (C:=199) (Ev.name rfl rfl rfl) (.head _) (.tail _ (.head _)) rfl (bo_edges _) rfl rfl)
   (fun ep=>.tail (.tail .head)) hcode (ck_del w) (.tail _ (.tail _ (.tail _ (.tail _ (.tail _ (.tail _ (List.mem_append_right _ hPc))))))) hne hR rfl rfl (by decide) rfl (fun x hx hf=>?_) rfl (.inr ⟨_,_,_,rfl⟩) (fun _ _=>rfl) (fun P2 k2 C I g R need cenv hcl=>?_) (fun _=>rfl) (fun _=>rfl)) (fun _ _=>rfl)
  ·rcases List.mem_cons.mp hx with rfl|hx
   ·contradiction
   rcases List.mem_cons.mp hx with rfl|hx
   ·contradiction
   rcases List.mem_cons.mp hx with rfl|hx
   ·contradiction
   rcases List.mem_cons.mp hx with rfl|hx
   ·show(Γ.env.cells.lookup _).isSome=true; rw[hcc]; rfl
   contradiction
  ·exact turnR (c:=Γ.L+1) ((Rep.pair Rep.int Rep.int).mono (kk1.trans k2) hk) rfl (hc0 P (Sub.refl P)) ((hcl "key" (by decide)).trans hcc)
 ·intro P2 kk R hb hR1
  exact St.expr (EvC.isetRemove (a:=rt) (x:=r) (Ev.attr (me:=me) (d:=dx) (C:=199) (Ev.name rfl rfl rfl) (.head _) (.tail _ (.head _)) rfl (bo_right _) rfl rfl) (.tail (.tail (.tail (.tail .head)))) (Ev.snd (A:=Rep.int) (B:=Rep.int) (hkey P2 (kk1.trans kk) _ _)) hkr rfl (fun _=>rfl)) (fun _=>rfl) hR1
 intro P2 kk2
 generalize hb2:(List.range es'.length).all (otherR es' r)=b2
 have hI':Inv es' gl (eraseIf b1 kl l) (eraseIf b2 kr r):=by
  subst hes
  exact inv_cut I (by rw[←hb1]; exact allL) (by rw[←hb2]; exact allR)
 have hkk:=kk1.trans kk2
 have hF1:adj es (0,l) (1,r):=.inl ⟨rfl,rfl,hin⟩
 refine St.unlink (gd:=gd) (gl:=gl) (F:=adj es) (side:=0) (side':=1) (x:=l) (y:=r) (rst:=rest)
  (pre:=[(me,Asn.eq (instObj 199 dx)),(dx,Asn.nsN 4 (bgF ed lf rt gd)),(ed,Asn.dict (DKind.pair prog w) Rep.int es'),(lf,Asn.iset (eraseIf b1 kl l)),(rt,Asn.iset (eraseIf b2 kr r))])
  (Ev.attr (me:=me) (d:=dx) (C:=199) (Ev.name rfl rfl rfl) (.head _) (.tail _ (.head _)) rfl (bo_graph _) rfl rfl)
  (fun P' kk ll=>EvV.of (Ev.glob (gl_LEFT _) ⟨_,rfl⟩ rfl)) (fun P' kk ll=>EvV.of (Ev.fst (A:=Rep.int) (B:=Rep.int) (hkey P' (hkk.trans kk) _ _)))
  (fun P' kk ll=>EvV.of (Ev.glob (gl_RIGHT _) ⟨_,rfl⟩ rfl)) (fun P' kk ll=>EvV.of (Ev.snd (A:=Rep.int) (B:=Rep.int) (hkey P' (hkk.trans kk) _ _)))
  I.gnd rfl (I.gk _ hin).1 hF1 (fun _=>rfl) (fun _ _=>rfl) ⟨_,fun _=>rfl⟩ (fun _=>rfl) (fun _=>rfl) (fun _=>rfl) (fun _=>rfl) (fun _=>rfl) ?_
 intro P3 kk3
 have e1:((1,r):Int×Int)≠(0,l):=fun h=>absurd (Prod.mk.inj h).1 (by decide)
 have hF2:updS (adj es) (0,l) (fun k=>adj es (0,l) k∧k≠(1,r)) (1,r) (0,l):=by
  rw[show updS (adj es) (0,l) (fun k=>adj es (0,l) k∧k≠(1,r)) (1,r)=adj es (1,r) from if_neg e1]
  exact .inr ⟨rfl,rfl,hin⟩
 refine St.unlink (gd:=gd) (gl:=gl) (F:=updS (adj es) (0,l) fun k=>adj es (0,l) k∧k≠(1,r)) (side:=1) (side':=0) (x:=r) (y:=l) (rst:=rest)
  (pre:=[(me,Asn.eq (instObj 199 dx)),(dx,Asn.nsN 4 (bgF ed lf rt gd)),(ed,Asn.dict (DKind.pair prog w) Rep.int es'),(lf,Asn.iset (eraseIf b1 kl l)),(rt,Asn.iset (eraseIf b2 kr r))])
  (Ev.attr (me:=me) (d:=dx) (C:=199) (Ev.name rfl rfl rfl) (.head _) (.tail _ (.head _)) rfl (bo_graph _) rfl rfl)
  (fun P' kk ll=>EvV.of (Ev.glob (gl_RIGHT _) ⟨_,rfl⟩ rfl)) (fun P' kk ll=>EvV.of (Ev.snd (A:=Rep.int) (B:=Rep.int) (hkey P' ((hkk.trans kk3).trans kk) _ _)))
  (fun P' kk ll=>EvV.of (Ev.glob (gl_LEFT _) ⟨_,rfl⟩ rfl)) (fun P' kk ll=>EvV.of (Ev.fst (A:=Rep.int) (B:=Rep.int) (hkey P' ((hkk.trans kk3).trans kk) _ _)))
  I.gnd rfl (I.gk _ hin).2 hF2 (fun _=>rfl) (fun _ _=>rfl) ⟨_,fun _=>rfl⟩ (fun _=>rfl) (fun _=>rfl) (fun _=>rfl) (fun _=>rfl) (fun _=>rfl) ?_
 intro P4 kk4
 refine St.nil fun s' H'=>h P4 _ _ s' ((hkk.trans kk3).trans kk4) hI' ?_
 have e:=sets_congr (gl:=gl) fun p _ k=>adj_cut (l:=l) (r:=r) I.end_ p.1 k
 have H2:=At.dropL H'
 simp only[e,hes] at H2
 exact H2
end
end
end Mine
namespace Mine
noncomputable section
section
variable {prog:Program} {w:World} {κ β:Type} {di:DecidableEq κ} {D:DKind prog w κ} {V:Rep β} {ps:List (κ×β)} {d:Addr}
 {σ:Shared} {P:Heap} {led led':List (Addr×Asn)} {s:Shared} {A:Around} {E:Value→Shared→Prop} {K:Frag} {ep:Option Nat}
theorem r_dictlen {Q:Value→Shared→Prop} (X:Src K P) (H:At σ P led s) (hm:(d,Asn.dictX D V ps ep)∈led) (hz:ps.length≤1000) (h:∀t s',At σ P led s'→Q (.int ps.length t) s') :
  wpAny (model prog w) A (call (.builtin "len") [.ref d]) Q E s:=by
 refine E2A3 (H.dict hm) fun es n e f g=>?_
 refine call_function_entry kind_len plain_len entry_len (args_len1 _) ?_
 refine wpAny_bind (m:=oneArg "len" _) (wpAny_pure ?_)
 refine wpAny_bind (m:=callSpecial? (.ref d) (Str.ofString "__len__")) (wpAny_callSpecial?_slot (name:=Str.ofString "__len__") (H.dictT hm) PySem.F.slot_dict_len
  (call_meetsIn (S:=fun _ R s'=>∃t,s'=s∧t=s.toks∧R (.ok (.ret (.int ps.length t))) { s with toks:=s.toks+1 }) PySem.F.slot_dict_len (H.dictT hm) PySem.F.entry_dict_len (PySem.F.args_dict_len_1 _) (.of_wp fun A R s' zz1=>E1A3 zz1 fun t hs ht h'=>?_) ⟨_,rfl,rfl,?_⟩))
 ·subst hs ht
  show wpAny _ _ (dictSize d >>= _) _ _ s'
  refine wpAny_bind (wpAny_bind (wpAny_dictEntries e rfl (wpAny_pure ?_)))
  show wpAny _ _ (Builtin.Dict.pendingCount d >>= _) _ _ s'
  refine wpAny_bind (wpAny_pendingCount_other (H.noSys X hm) ?_)
  refine wpAny_ret_mkInt ?_
  have:es.toArray.size=ps.length:=by rw[List.size_toArray,←f.length]
  rw[Nat.add_zero,this]; exact h'
 ·skip
  refine wpAny_bind (wpAny_holding (wpAny_pure ?_))
  refine wpAny_bind (wpAny_letGo ?_)
  show wpAny _ _ (if((ps.length:Nat):Int)≥2 ^ 63 then _ else _) _ _ _
  rw[if_neg (by lia)]
  exact wpAny_bind (wpAny_mkInt (wpAny_pure ⟨_,rfl,h _ _ H.tok.tok⟩))
end
section
variable {G:Gl} {P P':Heap} {nms:List (Str×NameKind)} {n:Nat} {Γ:Cx G P nms n} {m:Str→Option Value} {led led' led0:List (Addr×Asn)} {e e1 e2 e3:Expr} {es:List Expr} {x a b:Str} {v:Value} {pos p1 p2 p3 pf:Pos}
 {rest body:List Stmt} {Q:Flow→Shared→Prop} {α β κ:Type} {di:DecidableEq κ} {D:DKind G.prog G.w κ} {V:Rep β} {ps:List (κ×β)} {k:κ} {d l:Addr} {op:CmpOp} {ep:Option Nat}
 {R R1:Heap→Value→List (Addr×Asn)→Prop}
theorem EvG.of {R0:Value→Prop} (h:Ev Γ m led e R0):EvG Γ m led e fun P' v l=>P'=P∧l=led∧R0 v:=EvC.toG h fun v hv=>⟨rfl,rfl,hv⟩
theorem EvG.cmp {R2:Heap→Value→Value→List (Addr×Asn)→Prop} (h1:EvG Γ m led e1 R1) (h2:∀P' (k:Sub P P') v l,R1 P' v l→EvG (Γ.up k) m l e2 fun P'' u l'=>R2 P'' v u l')
  (h3:∀P' (k:Sub P P') v u l (Q:Value→Shared→Prop) (s:Shared),R2 P' v u l→(Γ.up k).at_ m l s→(∀P'' v' l' s' (k':Sub P' P''),R P'' v' l'→((Γ.up k).up k').at_ m l' s'→Q v' s')→Γ.wp (compareOp op v u) Q s)
  (hb:behindInMarks op e2=false):EvG Γ m led (.Compare e1 [op] [e2] pos) R:=
 ⟨fun Q s H h=>wpAny_Compare1 (h1.run _ s H fun P1 v l s1 k hv H1=>(h2 P1 k v l hv).run _ s1 H1 fun P2 u l2 s2 k2 hu H2=>
  h3 P2 (k.trans k2) v u l2 Q s2 hu H2 fun P'' v' l' s' k' hv' H'=>h P'' v' l' s' ((k.trans k2).trans k') hv' H') hb⟩
theorem TstG.cmp {c:Bool} {RL:Heap→List (Addr×Asn)→Prop} {R2:Heap→Value→Value→List (Addr×Asn)→Prop} (h1:EvG Γ m led e1 R1) (h2:∀P' (k:Sub P P') v l,R1 P' v l→EvG (Γ.up k) m l e2 fun P'' u l'=>R2 P'' v u l')
  (h3:∀P' (k:Sub P P') v u l (Q:Value→Shared→Prop) (s:Shared),R2 P' v u l→(Γ.up k).at_ m l s→(∀P'' l' s' (k':Sub P' P''),RL P'' l'→((Γ.up k).up k').at_ m l' s'→Q (.bool c) s')→Γ.wp (compareOp op v u) Q s)
  (hb:behindInMarks op e2=false):TstG Γ m led (.Compare e1 [op] [e2] pos) c RL:=
 ⟨fun Q s H h=>wpAny_isTrue_Compare1 (h1.run _ s H fun P1 v l s1 k hv H1=>(h2 P1 k v l hv).run _ s1 H1 fun P2 u l2 s2 k2 hu H2=>
  h3 P2 (k.trans k2) v u l2 _ s2 hu H2 fun P'' l' s' k' hv' H'=>wpAny_truthy_bool (h P'' l' s' ((k.trans k2).trans k') hv' H')) hb⟩
theorem TstG.orF {c:Bool} {RL RL2:Heap→List (Addr×Asn)→Prop} (h1:TstG Γ m led e1 false RL) (h2:∀P' (k:Sub P P') l,RL P' l→TstG (Γ.up k) m l (.BoolOp .Or es pos) c RL2):TstG Γ m led (.BoolOp .Or (e1::es) pos) c RL2:=
 ⟨fun Q s H h=>isTrue_or (h1.run _ s H fun P1 l s1 k hl H1=>by rw[if_neg Bool.false_ne_true]; exact(h2 P1 k l hl).run _ s1 H1 fun P2 l2 s2 k2 hl2 H2=>h P2 l2 s2 (k.trans k2) hl2 H2)⟩
theorem TstG.orN:TstG Γ m led (.BoolOp .Or [] pos) false fun P' l=>P'=P∧l=led:=⟨fun Q s H h=>isTrue_or_nil (h P led s (Sub.refl P) ⟨rfl,rfl⟩ H)⟩
theorem Ev.lenD (hf:Ev Γ m led (.Name x pf) (Is (.builtin "len"))) (h1:Ev Γ m led e (Is (.ref d))) (hm:(d,Asn.dictX D V ps ep)∈led) (hz:ps.length≤1000)
  (he:∀env,eval (.Call (.Name x pf) [e] [] pos) env=(do callWith pos (←eval (.Name x pf) env) [] (backTo pos (starEach [e] env)) (backToKw pos (keywordEach [] env))))
  (hs:∀env,starEach [e] env=(false,eval e env)::starEach [] env):Ev Γ m led (.Call (.Name x pf) [e] [] pos) (IsI ps.length):=
 Ev.callB1 hf h1 (fun v Q s hv H h=>by subst hv; exact r_dictlen Γ.src (H:At _ _ _ _) (Γ.tl hm) hz fun t s' H'=>h _ _ ⟨t,rfl⟩ H') he hs
end
end
end Mine
namespace Mine
set_option maxHeartbeats 1000000
noncomputable section
section
variable {prog:Program} {w:World} {σ:Shared} {P:Heap} {s:Shared} {A:Around} {E:Value→Shared→Prop} {me dx ed lf rt gd:Addr} {es:List Ed} {gl:List ((Int×Int)×Addr)} {kl kr:List Int} {rest:List (Addr×Asn)} {l r v:Int} {kv vv:Value} {F:Int×Int→Int×Int→Prop}
theorem getitem_c {n:Nat} {Q:Value→Shared→Prop} (X:Src (KF w) P) (R:Rm A (n+2)) (H:At σ P (bgL prog w me dx ed lf rt gd es gl kl kr F rest) s) (hb:look es (l,r)=some v)
  (hk:(Rep.pair Rep.int Rep.int).is P (l,r) kv) (h:∀u s',Rep.int.is P v u→At σ P (bgL prog w me dx ed lf rt gd es gl kl kr F rest) s'→Q u s') :
  wpAny (model prog w) A (call (.ref 112) [.ref me,kv]) Q E s:=by
 refine callC (w:=w) (n:=n) [("self",.local),("key",.local),("isinstance",.globalImplicit),("tuple",.globalImplicit),("len",.globalImplicit),("TypeError",.globalImplicit)]
  [("self",.ref me),("key",kv)]
  X R H (by show(hd.heap_1 w.params).lookup _=_; k_is) (by show codeIn (hd.heap_1 w.params) _ _=_; k_is) rfl rfl rfl rfl rfl rfl rfl rfl rfl rfl rfl fun Γ hR=>?_
 refine St.iteF (pairTest (A:=Rep.int) (B:=Rep.int) (z:=(l,r)) (fun p=>Ev.name rfl hk rfl) rfl rfl rfl) ?_
 refine St.skip ?_
 refine St.ret (Ev.sub (D:=DKind.pair prog w) (V:=Rep.int) (k:=(l,r)) (b:=v) (Ev.attr (me:=me) (d:=dx) (C:=199) (Ev.name rfl rfl rfl) (.head _) (.tail _ (.head _)) rfl (bo_edges _) rfl rfl) (.tail _ (.tail _ (.head _))) (Ev.name rfl hk rfl) hb (fun _ _=>rfl)) ?_
 rintro u s' hu H'
 exact h u s' hu (At.dropL H')
theorem len_c {n:Nat} {Q:Value→Shared→Prop} (X:Src (KF w) P) (R:Rm A (n+2)) (H:At σ P (bgL prog w me dx ed lf rt gd es gl kl kr F rest) s) (hz:es.length≤1000)
  (h:∀t s',At σ P (bgL prog w me dx ed lf rt gd es gl kl kr F rest) s'→Q (.int es.length t) s') :
  wpAny (model prog w) A (call (.ref 161) [.ref me]) Q E s:=by
 refine callC (w:=w) (n:=n) [("self",.local),("len",.globalImplicit)] [("self",.ref me)]
  X R H (by show(hd.heap_1 w.params).lookup _=_; k_is) (by show codeIn (hd.heap_1 w.params) _ _=_; k_is) rfl rfl rfl rfl rfl rfl rfl rfl rfl rfl rfl fun Γ hR=>?_
 refine St.ret (Ev.lenD (D:=DKind.pair prog w) (V:=Rep.int) (ps:=es) (Ev.builtin (nb_len _) (by boot_by_name) (by decide) rfl rfl) (Ev.attr (me:=me) (d:=dx) (C:=199) (Ev.name rfl rfl rfl) (.head _) (.tail _ (.head _)) rfl (bo_edges _) rfl rfl) (.tail _ (.tail _ (.head _))) hz (fun _=>rfl) (fun _=>rfl)) ?_
 intro v s' hz105
 refine E1A1 hz105 fun t ee104=>?_
 clear hz105
 subst ee104
 rintro H'
 exact h t s' (At.dropL H')
theorem edges_c {n:Nat} {Q:Value→Shared→Prop} (X:Src (KF w) P) (R:Rm A (n+2)) (H:At σ P (bgL prog w me dx ed lf rt gd es gl kl kr F rest) s)
  (h:∀vw s',At σ P ((vw,View "dict_keys" ed)::bgL prog w me dx ed lf rt gd es gl kl kr F rest) s'→Q (.ref vw) s') :
  wpAny (model prog w) A (call (.ref 133) [.ref me]) Q E s:=by
 refine callC (w:=w) (n:=n) [("self",.local)] [("self",.ref me)]
  X R H (by show(hd.heap_1 w.params).lookup _=_; k_is) (by show codeIn (hd.heap_1 w.params) _ _=_; k_is) rfl rfl rfl rfl rfl rfl rfl rfl rfl rfl rfl fun Γ hR=>?_
 refine St.retG (EvG.keys (D:=DKind.pair prog w) (V:=Rep.int) (ps:=es) (d:=ed) (Ev.attr (me:=me) (d:=dx) (C:=199) (Ev.name rfl rfl rfl) (.head _) (.tail _ (.head _)) rfl (bo_edges _) rfl rfl) (.tail _ (.tail _ (.head _))) rfl) ?_
 rintro P' v l s' k ⟨rfl,vw,rfl,rfl⟩ H'
 exact h vw s' (At.dropL H')
theorem ewl_c {n:Nat} {Q:Value→Shared→Prop} (X:Src (KF w) P) (R:Rm A (n+2)) (H:At σ P (bgL prog w me dx ed lf rt gd es gl kl kr F rest) s)
  (h:∀vw s',At σ P ((vw,View "dict_items" ed)::bgL prog w me dx ed lf rt gd es gl kl kr F rest) s'→Q (.ref vw) s') :
  wpAny (model prog w) A (call (.ref 126) [.ref me]) Q E s:=by
 refine callC (w:=w) (n:=n) [("self",.local)] [("self",.ref me)]
  X R H (by show(hd.heap_1 w.params).lookup _=_; k_is) (by show codeIn (hd.heap_1 w.params) _ _=_; k_is) rfl rfl rfl rfl rfl rfl rfl rfl rfl rfl rfl fun Γ hR=>?_
 refine St.retG (EvG.items (D:=DKind.pair prog w) (V:=Rep.int) (ps:=es) (d:=ed) (Ev.attr (me:=me) (d:=dx) (C:=199) (Ev.name rfl rfl rfl) (.head _) (.tail _ (.head _)) rfl (bo_edges _) rfl rfl) (.tail _ (.tail _ (.head _))) rfl) ?_
 rintro P' v l s' k ⟨rfl,vw,rfl,rfl⟩ H'
 exact h vw s' (At.dropL H')
theorem eq_c {n:Nat} {Q:Value→Shared→Prop} {od:Addr} {qs:List Ed} (X:Src (KF w) P) (R:Rm A (n+2)) (H:At σ P (bgL prog w me dx ed lf rt gd es gl kl kr F rest) s) (hm:(od,Asn.dict (DKind.pair prog w) Rep.int qs)∈rest)
  (h:∀s',At σ P (bgL prog w me dx ed lf rt gd es gl kl kr F rest) s'→Q (.bool (dictEqB es qs)) s') :
  wpAny (model prog w) A (call (.ref 168) [.ref me,.ref od]) Q E s:=by
 refine callC (w:=w) (n:=n) [("self",.local),("other",.local),("isinstance",.globalImplicit),("dict",.globalImplicit),("BipartiteGraph",.globalImplicit),("NotImplemented",.globalImplicit)] [("self",.ref me),("other",.ref od)]
  X R H (by show(hd.heap_1 w.params).lookup _=_; k_is) (by show codeIn (hd.heap_1 w.params) _ _=_; k_is) rfl rfl rfl rfl rfl rfl rfl rfl rfl rfl rfl fun Γ hR=>?_
 refine St.iteT (TstC.of_ev ?_ (fun _ _=>rfl)) ?_
 ·refine Ev.callB2 (R1:=Is (.ref od)) (R2:=Is (.type "dict")) (Ev.builtin (nb_isinstance _) (by boot_by_name) (by decide) rfl rfl) (Ev.name rfl rfl rfl) (Ev.builtin (nb_dict _) (by boot_by_name) (by decide) rfl rfl) ?_ (fun _=>rfl) (fun _=>rfl) (fun _=>rfl)
  rintro v _ Q s rfl rfl H hq
  refine E2A2 ((H:At _ _ _ _).dict (Γ.tl (.tail _ (.tail _ (.tail _ (.tail _ (.tail _ (.tail _ (List.mem_append_right _ hm))))))))) fun xs nn e _=>?_
  exact IsiPair.dict_dict e rfl (hq _ s rfl H)
 refine St.retG (EvG.cmp (R1:=fun P' v l=>P'=P∧l=bgL prog w me dx ed lf rt gd es gl kl kr F rest∧v=.ref ed) (R2:=fun P' v u l=>P'=P∧l=bgL prog w me dx ed lf rt gd es gl kl kr F rest∧v=.ref ed∧u=.ref od) (R:=fun P' v l=>P'=P∧l=bgL prog w me dx ed lf rt gd es gl kl kr F rest∧v=.bool (dictEqB es qs))
  (EvG.of (Ev.attr (me:=me) (d:=dx) (C:=199) (Ev.name rfl rfl rfl) (.head _) (.tail _ (.head _)) rfl (bo_edges _) rfl rfl)) ?_ ?_ rfl) ?_
 ·intro P' k v l hz73
  refine E0A3 hz73 fun ee70 ee71 ee72=>?_
  clear hz73
  subst ee70 ee71 ee72
  exact EvG.imp (EvG.of (Ev.name (R:=Is (.ref od)) rfl rfl rfl)) fun P2 u l _ zz59=>E0A3 zz59 fun e1 e2 e3=>⟨e1,e2,rfl,e3⟩
 ·intro P' k v u l Q s hz43
  refine E0A4 hz43 fun ee39 ee40 ee41 ee42=>?_
  clear hz43
  subst ee39 ee40 ee41 ee42
  rintro H hq
  refine r_dicteq (V:=Rep.int) Γ.src EqR.int (H:At _ _ _ _) ((Γ.up k).tl (.tail _ (.tail _ (.head _)))) ((Γ.up k).tl (.tail _ (.tail _ (.tail _ (.tail _ (.tail _ (.tail _ (List.mem_append_right _ hm)))))))) Γ.rm.c1 (hq _ _ _ _ (Sub.refl _) ⟨rfl,rfl,rfl⟩ H)
 ·intro P' v l s' k hz23
  refine E0A3 hz23 fun ee20 ee21 ee22=>?_
  clear hz23
  subst ee20 ee21 ee22
  rintro H'
  exact h s' (At.dropL H')
end
end
end Mine
namespace Mine
noncomputable section
section
variable {G:Gl} {P P':Heap} {nms:List (Str×NameKind)} {n:Nat} {Γ:Cx G P nms n} {m:Str→Option Value} {led led' led0:List (Addr×Asn)} {e e1 e2 e3:Expr} {es:List Expr} {x a b:Str} {v:Value} {pos p1 p2 p3 pf:Pos}
 {rest body:List Stmt} {Q:Flow→Shared→Prop} {α β κ:Type} {A:Rep α} {B:Rep β} {y:α} {z:β} {di:DecidableEq κ} {D:DKind G.prog G.w κ} {V:Rep β} {k:κ} {d l f:Addr}
 {R R1:Heap→Value→List (Addr×Asn)→Prop}
theorem EvG.pairNew {k:Nat} (h1:EvV Γ m led e1 A y) (h2:∀P' (kk:Sub P P'),EvV (Γ.up kk) m led e2 B z) (hs1:∀env,starEach [e1,e2] env=(false,eval e1 env)::starEach [e2] env) (hs2:∀env,starEach [e2] env=(false,eval e2 env)::starEach [] env) :
  EvG Γ m led (.Tuple [e1,e2] k pos) fun P' v l=>l=led∧∃a u u',v=.ref a∧P.get? a=none∧P'.get? a=some (tupObj [u,u'] 0)∧A.is P' y u∧B.is P' z u':=
 ⟨fun Q s H h=>Tuple_ ((EvsG.cons (R:=fun P' vs=>∃u u',vs=[u,u']∧A.is P' y u∧B.is P' z u') (R2:=fun P' vs=>∃u',vs=[u']∧B.is P' z u') h1 hs1
   (fun P' kk=>EvsG.cons (R2:=fun _ vs=>vs=[]) (h2 P' kk) hs2 (fun _ _=>EvsG.nil rfl) fun _ v vs hb e=>⟨v,by rw[e],hb⟩) fun P' v vs ha zz38=>E1A2 zz38 fun u' e hb=>⟨v,u',by rw[e],ha,hb⟩).run pos _ s H fun P' vs s1 kk zz36 H1=>E2A3 zz36 fun u u' e ha hb=>by
  subst e
  refine wpAny_newTuple ?_
  have off:P.get? s1.heap.objs.size=none:=by
   rcases q:P.get? s1.heap.objs.size with _|x
   ·rfl
   ·exact absurd (Heap.lt_size ((H1:At _ _ _ _).sub _ _ (kk _ _ q))) (Nat.lt_irrefl _)
  refine E2A4 ((At.push (R:=Asn.eq (tupObj [u,u'] 0)) H1 rfl rfl).persist) fun P2 o k2 g r H2=>?_
  have r':o=tupObj [u,u'] 0:=r
  subst r'
  exact h P2 _ led _ (kk.trans k2) ⟨rfl,_,u,u',rfl,off,g,A.mono k2 ha,B.mono k2 hb⟩ H2)⟩
theorem St.setitemG (h3:EvG Γ m led e R) (h:∀P' v l (kk:Sub P P'),R P' v l→∃(κ β:Type) (di:DecidableEq κ) (D:DKind G.prog G.w κ) (V:Rep β) (ps:List (κ×β)) (k:κ) (b:β) (d:Addr) (led':List (Addr×Asn)),
   Ev (Γ.up kk) m l e1 (Is (.ref d))∧Upd d (Asn.dict D V ps) (Asn.dict D V (put ps k b)) l led'∧Ev (Γ.up kk) m l e2 (D.rep.is P' k)∧V.is P' b v∧ps.length≤1000∧St (Γ.up kk) m led' rest Q)
  (hw:∀env,swapsWith e (some (.Subscript e1 e2 p1)) pos.line env=pure false):St Γ m led (.Assign [.Subscript e1 e2 p1] e pos::rest) Q:=
 ⟨fun s H=>wpAny_execs_cons (wpAny_Assign_Subscript (h3.run _ s H fun P' u l s1 kk hu H1=>by
  obtain⟨κ,β,di,D,V,ps,k,b,d,led',h1,U,h2,hb,hz,h⟩:=h P' u l kk hu
  exact h1.run _ s1 H1 fun o s2 ho H2=>by
   subst ho
   exact h2.run _ s2 H2 fun i s3 hi H3=>r_setitem (H3:At _ _ _ _) ((Γ.up kk).tu U) Γ.rm.c1 hi hb hz fun s' H'=>h.run s' H') (hw _))⟩
theorem EvG.callF {R2:Heap→List Value→Prop} (hf:Ev Γ m led (.Name x pf) (Is (.ref f))) (hk:keepIn (KF G.w) (.ref f)=true) (h2:EvsG Γ m led (e::es) R2)
  (h3:∀P' (k:Sub P P') vs (Q:Value→Shared→Prop) (s:Shared),R2 P' vs→(Γ.up k).at_ m led s→(∀P'' v' l' s' (k':Sub P' P''),R P'' v' l'→((Γ.up k).up k').at_ m l' s'→Q v' s')→Γ.wp (call (.ref f) vs) Q s)
  (he:∀env,eval (.Call (.Name x pf) (e::es) [] pos) env=(do callWith pos (←eval (.Name x pf) env) [] (backTo pos (starEach (e::es) env)) (backToKw pos (keywordEach [] env))))
  (hs:∀env,starEach (e::es) env=(false,eval e env)::starEach es env):EvG Γ m led (.Call (.Name x pf) (e::es) [] pos) R:=
 ⟨fun Q s H h=>Call_ (hf.run _ s H fun u s1 hu H1=>by
  subst hu
  have hp:=h2.plain pos
  rw[hs] at hp
  exact callWith_K Γ.src.K hk (h2.run pos _ s1 H1 fun P' vs s2 k hvs H2=>⟨Γ.src.K.keeps (fun _ _ q=>H2.sub _ _ (k _ _ q)),h3 P' k vs Q s2 hvs H2 fun P'' v' l' s' k' hv' H'=>h P'' v' l' s' (k.trans k') hv' H'⟩) (hs _) hp) (he _)⟩
theorem EvG.callF0 (hf:Ev Γ m led (.Name x pf) (Is (.ref f))) (hk:keepIn (KF G.w) (.ref f)=true)
  (h3:∀(Q:Value→Shared→Prop) (s:Shared),Γ.at_ m led s→(∀P'' v' l' s' (k':Sub P P''),R P'' v' l'→(Γ.up k').at_ m l' s'→Q v' s')→Γ.wp (call (.ref f) []) Q s)
  (he:∀env,eval (.Call (.Name x pf) [] [] pos) env=(do callWith pos (←eval (.Name x pf) env) [] (backTo pos (starEach [] env)) (backToKw pos (keywordEach [] env)))):EvG Γ m led (.Call (.Name x pf) [] [] pos) R:=
 ⟨fun Q s H h=>Call_ (hf.run _ s H fun u s1 hu H1=>by
  subst hu
  exact callWith_K0 (Γ.src.K.keeps H1.sub) hk (h3 Q s1 H1 h)) (he _)⟩
theorem EvG.methG {C g:Addr} {pl:Sem Bool} (h1:EvG Γ m led e R1) (hR:∀P' v l,R1 P' v l→∃me d f k,v=.ref me∧(me,Asn.eq (instObj C d))∈l∧(d,Asn.nsN k f)∈l∧f a=none)
  (O:MethOk G.w C a g)
  (hm:eval (.Call (.Attribute e a p1) [] [] pos) Γ.env=(do
   let ov ←eval e Γ.env
   standAt p1.atName
   let (f,first) ←holding [ov] (getMethod ov a pl)
   callWith pos f first (backTo pos (starEach [] Γ.env)) []))
  (h3:∀P' (k:Sub P P') v l (Q:Value→Shared→Prop) (s:Shared),R1 P' v l→(Γ.up k).at_ m l s→(∀P'' v' l' s' (k':Sub P' P''),R P'' v' l'→((Γ.up k).up k').at_ m l' s'→Q v' s')→Γ.wp (call (.ref g) [v]) Q s) :
  EvG Γ m led (.Call (.Attribute e a p1) [] [] pos) R:=
 ⟨fun Q s H h=>MethodCall_ (pl:=pl) (h1.run _ s H fun P' v l s1 k hv H1=>by
  refine E4A4 (hR _ _ _ hv) fun me d f kk ee24 hme hd hf=>?_
  subst ee24
  exact r_method (H1:At _ _ _ _) (Γ.src.mono k).K ((Γ.up k).tl hme) ((Γ.up k).tl hd) hf O.g O.f O.k (callWith_K0 ((Γ.src.mono k).K.keeps H1.sub) O.c (h3 P' k _ l Q s1 hv H1 fun P'' v' l' s' k' hv' H'=>h P'' v' l' s' (k.trans k') hv' H'))) hm⟩
end
noncomputable def lsts (gl:List ((Int×Int)×Addr)) (F:Int×Int→Asn):List (Addr×Asn):=gl.map fun p=>(p.2,F p.1)
theorem lsts_upd {F:Int×Int→Asn} {key:Int×Int} {a:Addr} {S:Asn}:∀ {gl:List ((Int×Int)×Addr)},(gl.map (·.1)).Nodup→(key,a)∈gl →
  Upd a (F key) S (lsts gl F) (lsts gl fun k=>if k=key then S else F k)
 | [],_,h=>by contradiction
 | p::gl,hn,h=>by
  simp only[List.map_cons,List.nodup_cons] at hn
  unfold lsts
  simp only[List.map_cons,List.map_cons]
  by_cases hp:p.1=key
  ·have hin:(key,a)=p:=by
    rcases List.mem_cons.mp h with e|h
    ·exact e
    ·exact absurd (by rw[hp]; exact List.mem_map_of_mem (f:=fun p:(Int×Int)×Addr=>p.1) h) hn.1
   subst hin
   have:gl.map (fun p=>(p.2,if p.1=key then S else F p.1))=gl.map fun p=>(p.2,F p.1):=
    List.map_congr_left fun q hq=>by
     have hne:q.1≠key:=fun e=>hn.1 (by have:=List.mem_map_of_mem (f:=fun p:(Int×Int)×Addr=>p.1) hq; rw[e] at this; exact this)
     rw[if_neg hne]
   show Upd a (F key) S _ ((a,if key=key then S else F key)::gl.map (fun p=>(p.2,if p.1=key then S else F p.1)))
   rw[this,if_pos rfl]
   exact .head
  ·have hin:(key,a)∈gl:=by
    rcases List.mem_cons.mp h with e|h
    ·exact absurd (by rw[←e]) hp
    ·exact h
   show Upd a (F key) S _ ((p.2,if p.1=key then S else F p.1)::lsts gl fun k=>if k=key then S else F k)
   rw[if_neg hp]
   exact .tail (lsts_upd hn.2 hin)
theorem lsts_congr {F F':Int×Int→Asn} {gl:List ((Int×Int)×Addr)} (h:∀p∈gl,F p.1=F' p.1):lsts gl F=lsts gl F':=
 List.map_congr_left fun p hp=>by rw[h p hp]
section
variable {prog:Program} {w:World} {σ:Shared} {P:Heap} {s:Shared} {β:Type} {V:Rep β} {D:DKind prog w (Int×Int)}
theorem lsts_persist {F:Int×Int→List β}:∀ {gl:List ((Int×Int)×Addr)} {P:Heap} {rst:List (Addr×Asn)},At σ P (lsts gl (fun k=>Asn.list V (F k))++rst) s →
  ∃P',Sub P P'∧(∀p∈gl,(Rep.list V).is P' (F p.1) (.ref p.2))∧At σ P' rst s
 | [],P,rst,H=>⟨P,Sub.refl P,fun p hp=>absurd hp (List.not_mem_nil),H⟩
 | p::gl,P,rst,H=>by
  refine E2A4 (At.persist (H:At σ P ((p.2,Asn.list V (F p.1))::(lsts gl (fun k=>Asn.list V (F k))++rst)) s)) fun P1 o k1 g r H1=>?_
  refine E1A3 (lsts_persist H1) fun P2 k2 h2 H2=>?_
  refine E2A2 (r) fun vs nn ee12 f=>?_
  clear r
  subst ee12
  refine⟨P2,k1.trans k2,fun q hq=>?_,H2⟩
  rcases List.mem_cons.mp hq with rfl|hq
  ·exact(Rep.list V).mono k2 ⟨_,vs,nn,rfl,g,f⟩
  ·exact h2 q hq
theorem dict_vals {F:Int×Int→List β} {gl:List ((Int×Int)×Addr)} {d:Addr} {rst:List (Addr×Asn)} (H:At σ P ((d,Asn.dict D Rep.val (gvals gl))::(lsts gl (fun k=>Asn.list V (F k))++rst)) s) :
  ∃P',Sub P P'∧At σ P' ((d,Asn.dict D (Rep.list V) (gl.map fun p=>(p.1,F p.1)))::rst) s:=by
 refine E1A3 (lsts_persist (H.perm (List.perm_middle (l₁:=lsts gl (fun k=>Asn.list V (F k))) (a:=(d,Asn.dict D Rep.val (gvals gl)))))) fun P1 k1 hv H1=>?_
 refine⟨P1,k1,?_⟩
 obtain⟨o,e,es,nn,⟨rfl,hn⟩,f,g⟩:=H1.ld.get (.head _)
 refine(H1.upd (R':=Asn.dict D (Rep.list V) (gl.map fun p=>(p.1,F p.1))) (tk:=s.toks) .head (Heap.SameBut.refl _ _) ⟨_,e,es,nn,⟨rfl,fun x q=>by cases q⟩,?_,?_⟩:At _ _ _ { s with heap:=s.heap,toks:=s.toks })
 ·clear e H H1 g hn
  have:∀(gl:List ((Int×Int)×Addr)) (es:List DictEntry),(∀p∈gl,(Rep.list V).is P1 (F p.1) (.ref p.2))→F2 (DRep D Rep.val P1) (gvals gl) es→F2 (DRep D (Rep.list V) P1) (gl.map fun p=>(p.1,F p.1)) es:=by
   intro gl
   induction gl with
   | nil=>intro es _ f; obtain⟨⟩:=f; exact .nil
   | cons p gl ih=>
    intro es hv f
    cases f with
    | cons h1 h2=>
     refine .cons ⟨h1.1,h1.2.1,?_⟩ (ih _ (fun q hq=>hv q (.tail _ hq)) h2)
     have h3:=h1.2.2
     rw[h3]
     exact hv p (.head _)
  exact this gl es hv f
 ·rw[List.map_map]
  have g':=g
  unfold gvals at g'
  rw[List.map_map] at g'
  exact g'
end
end
end Mine
namespace Mine
noncomputable section
section
variable {G:Gl} {P P':Heap} {nms:List (Str×NameKind)} {n:Nat} {Γ:Cx G P nms n} {m:Str→Option Value} {led led' led0:List (Addr×Asn)} {e elt iter target:Expr} {ifs:List Expr} {scope:Scope} {x:Str} {v:Value} {pos p1 pf:Pos}
 {N n':Nat} {Pv:Heap→Nat→Value→Prop} {RL:(List (Addr×Asn)→Prop)→Heap→List (Addr×Asn)→Prop} {c Pc:Addr} {xs:List (Int×Int)}
theorem Walk.itemsE {κ β:Type} {di:DecidableEq κ} {D:DKind G.prog G.w κ} {V:Rep β} {ps:List (κ×β)} {d:Addr} (h1:EvG Γ m led0 iter (fun P' v l=>P'=P∧∃vw,v=.ref vw∧l=(vw,View "dict_items" d)::led)) {ledp:Nat→List (Addr×Asn)} (U:∀ep,Upd d (Asn.dict D V ps) (Asn.dictX D V ps (some ep)) led (ledp ep)) :
  Walk Γ m led0 iter ps.length (fun P i v=>∃p,ps[i]? = some p∧(Rep.pair D.rep V).is P p v) (fun Pin P' led=>∃ep,Pin=(fun l=>(d,Asn.dictX D V ps (some ep))∈l)∧led=ledp ep∧P'=P):=
 ⟨fun Q s H h=>h1.run _ s H fun P' v l s1 k ⟨e1,vw,e2,e3⟩ H1=>by
  subst e1 e2 e3
  obtain⟨ep,hp⟩:=At.pin (H1:At _ _ _ _) (Γ.tl (.tail _ (U 0).mem))
  have H2:=hp _ (Γ.tu (.tail (U ep)))
  refine i_items (x:=some ep) H2 (Γ.tl (.head _)) (Γ.tl (.tail _ (U ep).mem')) fun I ep' s2 he hn H3=>?_
  have:=he ep rfl
  subst this
  refine h I _ _ (fun l=>(d,Asn.dictX D V ps (some ep'))∈l) P' _ s2 (Sub.refl P') (fun _=>It.items) (fun P'' led'' s'' _ hm H'=>At.raw H' hm) (fun l l' hs hm=>hs _ hm) ⟨ep',rfl,rfl,rfl⟩ ?_
  exact(H3.perm List.perm_middle).subl ((List.Sublist.refl _).append ((List.sublist_cons_self _ _).cons_cons _))⟩
noncomputable def YlP (xs:List (Int×Int)):Heap→Heap→Nat→Value→Prop:=fun P0 P1 i v=>∃a u u' p,v=.ref a∧P0.get? a=none∧P1.get? a=some (tupObj [u,u'] 0)∧xs[i]? = some p∧IsI p.1 u∧IsI p.2 u'
theorem EvG.dictGen (hf:Ev Γ m led0 (.Name x pf) (Is (.type "dict"))) (hN:xs.length=N) (W:Walk Γ m led0 iter N Pv RL) (hcode:Γ.env.code=.ref c) (CK:CodeK G.w c Pc) (hPc:∀Pin P' led,RL Pin P' led→∃led',Upd Pc Asn.codeTab Asn.codeTab led led')
  (hpin:∀Pin P' led,RL Pin P' led→Pin led) (hz:xs.length≤500) (hRm:Rm Γ.A (n'+5))
  (hco:scope.isCoroutine=false) (hk:scope.kind=.function) (hcell:∀y∈scope.names,y.2≠.cell) (h0:scope.names.lookup (".0" : Str)=some NameKind.local)
  (hfree:∀x∈scope.names,x.2=.free→(Γ.env.cells.lookup x.1).isSome) (hdb:scope.names.lookup ("__debug__" : Str)=none) (hT:(∀it v,letOwnedTupleGo target it v=pure ())∨∃elts k p,target=.Tuple elts k p)
  (hs:∀env x,genFold iter env x=pure x)
  (turn:∀(P1:Heap) (_:Sub P P1) (C I g:Addr) (R:Nat→Asn) (need:Heap→Heap→Prop) (cenv:Env),(∀x∈freesOf scope.names,cenv.cells.lookup x=Γ.env.cells.lookup x) →
   GTurn ⟨G.prog,G.w,G.σ,C,I,g,R,N,need,Lean1 P1 Γ.own m,YlP xs⟩ scope.names cenv n' target elt ifs Pv)
  (he:∀env,eval (.Call (.Name x pf) [.GeneratorExp elt [⟨target,iter,ifs,0⟩] scope p1] [] pos) env=(do callWith pos (←eval (.Name x pf) env) [] (backTo pos (starEach [.GeneratorExp elt [⟨target,iter,ifs,0⟩] scope p1] env)) (backToKw pos (keywordEach [] env))))
  (hs':∀env,starEach [.GeneratorExp elt [⟨target,iter,ifs,0⟩] scope p1] env=(false,eval (.GeneratorExp elt [⟨target,iter,ifs,0⟩] scope p1) env)::starEach [] env) :
  EvG Γ m led0 (.Call (.Name x pf) [.GeneratorExp elt [⟨target,iter,ifs,0⟩] scope p1] [] pos) fun P' v l=>∃P1 Pin led d,RL Pin P1 led∧Sub P1 P'∧v=.ref d∧l=(d,Asn.dict (DKind.int G.prog G.w) Rep.int (putAll [] xs))::led:=
 ⟨fun Q s H h=>Call_ (hf.run _ s H fun u s1 hu H1=>by
  subst hu
  subst hN
  refine PyProof.Rows.callWith_type1 (spliced_more ((EvZ.genexp W hcode CK hPc hco hk hcell h0 hfree hdb hT hs turn).run _ s1 H1 fun P' v l s2 k zz11 H2=>E3A3 zz11 fun P1 Pin led hRL k1 M=>spliced_none ?_) (hs' _)) (hs' _) rfl
  have X2:=Γ.src.mono k
  refine E2A4 (M.feed (A:=Γ.A.in1.in1) (Pv:=PvP (Rep.pair (DKind.int G.prog G.w).rep Rep.int) xs) (hpin _ _ _ hRL) hRm.in1.in1 X2.nolimit (fun P0 P1 i v zz5=>E4A6 zz5 fun a u u' p e e0 e1 e2 h1 h2=>.inr ⟨a,_,e,e0,e1,fun P hP=>⟨p,e2,a,u,u',0,e,hP,h1,h2⟩⟩) H2) fun ga St ee6 zz7 Fd hst=>?_
  obtain⟨g,nm,qn,hg⟩:=zz7
  subst ee6
  refine r_dictFeed (D:=DKind.int G.prog G.w) (V:=Rep.int) Fd hst hg Γ.rm.handled hz (by have:=hRm.units; show Γ.A.units+3<9900; exact un0 (by assumption) rfl) fun P3 d s3 k3 H3=>?_
  exact h P3 _ _ s3 (k.trans k3) ⟨P1,Pin,led,d,hRL,k1.trans k3,rfl,rfl⟩ (H3.perm List.perm_middle)) (he _)⟩
end
end
end Mine
namespace Mine
noncomputable section
noncomputable def graphP (es:List (Int×Int)):List ((Int×Int)×List (Int×Int)):=graphM (fun l=>((0:Int),l)) (fun r=>((1:Int),r)) es
noncomputable def hs0 {κ:Type}:HS κ:=⟨[],[],[],-1⟩
noncomputable def foundM (es:List (Int×Int)):List (Int×Int):=match runM (graphP es) 9 hs0 with
 | some x=>x.2.pl.map fun p=>(p.1.2,p.2.2)
 | none=>[]
theorem putAll_nodup {κ β:Type} [DecidableEq κ]:∀(xs ps:List (κ×β)),((ps++xs).map (·.1)).Nodup→putAll ps xs=ps++xs
 | [],ps,_=>by rw[List.append_nil]; rfl
 | x::xs,ps,h=>by
  show putAll (put ps x.1 x.2) xs=_
  have hx:x.1∉ps.map (·.1):=by
   intro hm
   rw[List.map_append,List.nodup_append] at h
   exact h.2.2 _ hm _ (List.mem_cons_self ..) rfl
  have e:put ps x.1 x.2=ps++[x]:=by
   unfold put
   have:idx (ps.map (·.1)) x.1=none:=by
    rw[←look_none_idx]
    rcases q:look ps x.1 with _|b
    ·rfl
    ·exact absurd (look_isSome.mp (by rw[q]; rfl)) hx
   rw[this]
  have e2:ps++x::xs=(ps++[x])++xs:=by simp
  simp only[e,e2]
  exact putAll_nodup xs _ (by rw[←e2]; exact h)
structure FoundOk (es fs:List (Int×Int)):Prop where
 len:(fs.length:Int)=mostM es
 keys:(fs.map (·.1)).Nodup
 vals:(fs.map (·.2)).Nodup
 mem:∀p∈fs,p∈es
 small:fs.length≤7
theorem nodup_mapOn {α β:Type} {f:α→β}:∀ {l:List α},(∀a∈l,∀b∈l,f a=f b→a=b)→l.Nodup→(l.map f).Nodup
 | [],_,_=>List.nodup_nil
 | x::l,h,hn=>by
  simp only[List.map_cons,List.nodup_cons] at hn ⊢
  exact⟨fun hm=>by
   refine E1A2 (List.mem_map.mp hm) fun y hy e=>?_
   exact hn.1 (h x (.head _) y (.tail _ hy) e.symm▸hy),nodup_mapOn (fun a ha b hb=>h a (.tail _ ha) b (.tail _ hb)) hn.2⟩
theorem found_ok {es:List (Int×Int)} (hn:es.Nodup) (he:∀e∈es,0≤e.2∧e.2<6) (hz:es.length≤7) :
  ∃st,runM (graphP es) 9 hs0=some (mostM es,st)∧foundM es=st.pl.map (fun p=>(p.1.2,p.2.2))∧FoundOk es (foundM es)∧(∀p∈st.pl,p.1.1=0)∧st.pl.length≤7∧st.pr.length≤1000∧st.dl.length≤1000:=by
 refine E1A8 (run_most (f:=fun l=>((0:Int),l)) (h:=fun r=>((1:Int),r)) (fun a b q=>(Prod.mk.inj q).2) (fun a b q=>(Prod.mk.inj q).2) hn he hz hs0) fun st e hl n1 n2 hm z1 z2 z3=>?_
 have e1:foundM es=st.pl.map (fun p=>(p.1.2,p.2.2)):=by
  unfold foundM graphP
  rw[e]
 have hz0:∀p∈st.pl,p.1.1=0:=fun p hp=>by
  refine E2A2 (hm p.1 p.2 hp) fun a b h1 _=>?_
  rw[h1]
 have hz1:∀p∈st.pl,p.2.1=1:=fun p hp=>by
  refine E2A3 (hm p.1 p.2 hp) fun a b _ h1 _=>?_
  rw[h1]
 refine⟨st,e,e1,⟨by rw[e1,List.length_map]; exact hl,?_,?_,?_,by rw[e1,List.length_map]; exact z1⟩,hz0,z1,z2,z3⟩
 ·simp only[e1,List.map_map]
  have:=nodup_mapOn (f:=fun k:Int×Int=>k.2) (l:=st.pl.map (·.1)) (fun a ha b hb q=>by
   refine E1A2 (List.mem_map.mp ha) fun p hp ee20=>?_
   subst ee20
   refine E1A2 (List.mem_map.mp hb) fun p' hp' ee19=>?_
   subst ee19
   exact Prod.ext ((hz0 p hp).trans (hz0 p' hp').symm) q) n1
  rw[List.map_map] at this
  exact this
 ·simp only[e1,List.map_map]
  have:=nodup_mapOn (f:=fun k:Int×Int=>k.2) (l:=st.pl.map (·.2)) (fun a ha b hb q=>by
   refine E1A2 (List.mem_map.mp ha) fun p hp ee17=>?_
   subst ee17
   refine E1A2 (List.mem_map.mp hb) fun p' hp' ee14=>?_
   subst ee14
   exact Prod.ext ((hz1 p hp).trans (hz1 p' hp').symm) q) n2
  rw[List.map_map] at this
  exact this
 ·intro p hp
  rw[e1] at hp
  refine E1A2 (List.mem_map.mp hp) fun q hq ee10=>?_
  subst ee10
  refine E2A3 (hm q.1 q.2 hq) fun a b h1 h2 h3=>?_
  simp only[h1,h2]
  exact h3
section
variable {prog:Program} {w:World} {κ:Type} [DecidableEq κ] {D:DKind prog w κ} {x dx gd pl pr lv dl:Addr} {g:List (κ×List κ)} {led:List (Addr×Asn)}
noncomputable abbrev hkLed (D:DKind prog w κ) (x dx gd pl pr lv dl:Addr) (g:List (κ×List κ)) (led:List (Addr×Asn)) (st:HS κ) (t:Tok):List (Addr×Asn):=
 (dl,Asn.dict D Rep.int st.dl)::(lv,Asn.list D.rep (g.map (·.1)))::(pr,Asn.dict D D.rep st.pr)::(pl,Asn.dict D D.rep st.pl)::(x,Asn.eq (instObj 80 dx))::(dx,Asn.nsN 6 (hkF gd pl pr lv dl st.rf t))::led
theorem fam_hk (hg:(gd,Asn.dict D (Rep.list D.rep) g)∈led):Fam D x dx gd pl pr lv dl g (hkLed D x dx gd pl pr lv dl g led) where
 fself _ _:=.tail _ (.tail _ (.tail _ (.tail _ (.head _))))
 fgd _ _:=.tail _ (.tail _ (.tail _ (.tail _ (.tail _ (.tail _ hg)))))
 flv _ _:=.tail _ (.head _)
 fat _ _:=.tail _ (.tail _ (.tail _ (.tail _ (.tail _ (.head _)))))
 upl _ _ _:=.tail (.tail (.tail .head))
 upr _ _ _:=.tail (.tail .head)
 udl _ _ _:=.head
 urf _ _ _ _:=.tail (.tail (.tail (.tail (.tail .head))))
end
end
end Mine
namespace Mine
set_option maxHeartbeats 1000000
noncomputable section
section
variable {G:Gl} {P:Heap} {nms:List (Str×NameKind)} {n:Nat} {Γ:Cx G P nms n} {m:Str→Option Value} {led led':List (Addr×Asn)} {rest:List Stmt} {Q:Flow→Shared→Prop}
theorem St.turn (h:∀s,Γ.at_ m led s→∃(P':Heap) (k:Sub P P') (led':List (Addr×Asn)),(Γ.up k).at_ m led' s∧St (Γ.up k) m led' rest Q):St Γ m led rest Q:=
 ⟨fun s H=>let ⟨_,_,_,H',S⟩:=h s H; S.run s H'⟩
theorem St.facts (h:∀s,Γ.at_ m led s→St Γ m led rest Q):St Γ m led rest Q:=⟨fun s H=>(h s H).run s H⟩
end
theorem map_look {κ β:Type} [DecidableEq κ] {α:Type} {g:List (κ×List β)}:∀ {gl:List (κ×α)},gl.map (·.1)=g.map (·.1)→(g.map (·.1)).Nodup→gl.map (fun p=>(p.1,(look g p.1).getD []))=g:=by
 intro gl hk hn
 have key:∀(gl:List (κ×α)) (g':List (κ×List β)),gl.map (·.1)=g'.map (·.1)→(∀p∈g',look g p.1=some p.2)→gl.map (fun p=>(p.1,(look g p.1).getD []))=g':=by
  intro gl
  induction gl with
  | nil=>intro g' h _; cases g' with|nil=>rfl|cons a b=>contradiction
  | cons p gl ih=>
   intro g' h hl
   rcases g' with _|⟨q,g'⟩
   ·contradiction
   ·
    simp only[List.map_cons,List.cons.injEq] at h
    simp only[List.map_cons,ih g' h.2 fun p hp=>hl p (.tail _ hp),h.1,hl q (.head _)]
    rfl
 exact key gl g hk fun p hp=>mem_look hn hp
theorem graphP_snoc (es:List (Int×Int)) (e:Int×Int):graphP (es++[e])=put (graphP es) (0,e.1) ((look (graphP es) (0,e.1)).getD []++[(1,e.2)]):=by
 unfold graphP graphM
 rw[List.foldl_append]
 rfl
theorem graphP_nodup (es:List (Int×Int)):((graphP es).map (·.1)).Nodup:=(graph_all (f:=fun l=>((0:Int),l)) (h:=fun r=>((1:Int),r)) (fun a b q=>(Prod.mk.inj q).2) es).nd
theorem graphP_len (es:List (Int×Int)):(graphP es).length≤es.length:=(graph_all (f:=fun l=>((0:Int),l)) (h:=fun r=>((1:Int),r)) (fun a b q=>(Prod.mk.inj q).2) es).len
theorem take_snoc {α:Type} {xs:List α} {i:Nat} {x:α} (h:xs[i]? = some x):xs.take (i+1)=xs.take i++[x]:=by
 rw[List.take_add_one,h]; rfl
section
variable {prog:Program} {w:World} {σ:Shared} {C I g:Addr} {R:Nat→Asn} {need:Heap→Heap→Prop} {X1:Heap→Prop} {cenv:Env} {n' k1 k2 k3 k4 k5 k6 N:Nat} {p1 p2 p3 p4 p5 p6 p7 p8 q1 q2 q3 q4 q5 q6 q7:Pos} {pl:List ((Int×Int)×Int×Int)} {xs:List (Int×Int)}
theorem turnF (hx:xs=pl.map fun p=>(p.1.2,p.2.2)) (hz:∀p∈pl,p.1.1=0) :
  GTurn ⟨prog,w,σ,C,I,g,R,N,need,X1,YlP xs⟩ [(".0",.local),("tail",.local),("head",.local),("LEFT",.globalImplicit)] cenv n'
   (.Tuple [.Name "tail" p1,.Name "head" p2] k1 p3) (.Tuple [.Subscript (.Name "tail" p4) (.Constant (.int 1) k2 p5) p6,.Subscript (.Name "head" p7) (.Constant (.int 1) k3 p8) q1] k4 q2)
   [.Compare (.Subscript (.Name "tail" q3) (.Constant (.int 0) k5 q4) q5) [.Eq] [.Name "LEFT" q6] q7] (fun P i v=>∃p,pl[i]? = some p∧(Rep.pair (DKind.pair prog w).rep (DKind.pair prog w).rep).is P p v):=
 ⟨fun σ' i P0 P' k Γ mc v henv hX hi zz18=>E1A2 zz18 fun p hp hv=>by
  refine⟨_,Asg.two (A:=Rep.pair Rep.int Rep.int) (B:=Rep.pair Rep.int Rep.int) (u:=p.1) (w:=p.2) hv (fun v'=>Asg.name rfl) (fun m' v'=>Asg.name rfl) (fun _=>rfl),?_⟩
  intro m'' hz10
  refine E3A4 hz10 fun v1 v2 m1 ha hb ee8 ee9=>?_
  clear hz10
  subst ee8 ee9
  have h0:=hz p (List.mem_of_getElem? hp)
  refine⟨Tsts.one (Tst.cmpI (x:=p.1.1) (y:=0) (Ev.fst (A:=Rep.int) (B:=Rep.int) (u:=p.1.1) (w:=p.1.2) (Ev.name rfl ha rfl)) (Ev.glob (gl_LEFT _) ⟨_,rfl⟩ rfl) (by rw[h0]; rfl) rfl),?_⟩
  refine EvG.imp (EvG.pairNew (A:=Rep.int) (B:=Rep.int) (y:=p.1.2) (z:=p.2.2) (EvV.of (Ev.snd (A:=Rep.int) (B:=Rep.int) (u:=p.1.1) (Ev.name rfl ha rfl)))
   (fun P' kk=>EvV.of (Ev.snd (A:=Rep.int) (B:=Rep.int) (u:=p.2.1) (Ev.name rfl ((Rep.pair Rep.int Rep.int).mono kk hb) rfl))) (fun _=>rfl) (fun _=>rfl)) ?_
  rintro P2 v l kk ⟨rfl,a,u,u',rfl,e0,e1,hu,hu'⟩
  refine⟨rfl,a,u,u',(p.1.2,p.2.2),rfl,?_,e1,by rw[hx,List.getElem?_map,hp]; rfl,hu,hu'⟩
  rcases q:P0.get? a with _|o
  ·rfl
  ·have:=k _ _ q; rw[e0] at this; cases this⟩
end
end
end Mine
namespace Mine
set_option maxHeartbeats 1000000
noncomputable section
section
variable {prog:Program} {w:World} {σ:Shared} {P:Heap} {s:Shared} {A:Around} {E:Value→Shared→Prop} {me dx ed lf rt gd:Addr} {es:List Ed} {gl:List ((Int×Int)×Addr)} {kl kr:List Int} {rest:List (Addr×Asn)} {F:Int×Int→Int×Int→Prop}
noncomputable abbrev PI:Rep (Int×Int):=Rep.pair Rep.int Rep.int
noncomputable abbrev bgP (prog:Program) (w:World) (me dx ed lf rt gd:Addr) (es:List Ed) (gl:List ((Int×Int)×Addr)) (kl kr:List Int) (F:Int×Int→Int×Int→Prop) (rest:List (Addr×Asn)) (ep:Nat):List (Addr×Asn):=
 (me,Asn.eq (instObj 199 dx))::(dx,Asn.nsN 4 (bgF ed lf rt gd))::(ed,Asn.dictX (DKind.pair prog w) Rep.int es (some ep))::(lf,Asn.iset kl)::(rt,Asn.iset kr)::(gd,Asn.dict (DKind.pair prog w) Rep.val (gvals gl))::(sets gl F++rest)
noncomputable abbrev lisF (g:List ((Int×Int)×List (Int×Int))):Int×Int→Asn:=fun k=>Asn.list PI ((look g k).getD [])
theorem lsts_snoc {gl:List ((Int×Int)×Addr)} {key:Int×Int} {a:Addr} {F:Int×Int→Asn}:lsts (gl++[(key,a)]) F=lsts gl F++[(a,F key)]:=by
 unfold lsts; rw[List.map_append]; rfl
theorem look_sum {κ β:Type} [DecidableEq κ] (g:List (κ×List β)) (k:κ):((look g k).getD []).length≤(g.flatMap (·.2)).length:=by
 induction g with
 | nil=>exact Nat.le_refl _
 | cons p r ih=>
  simp only[look_cons,List.flatMap_cons,List.length_append]
  by_cases e:p.1=k
  ·rw[if_pos e]; exact Nat.le_add_right ..
  ·rw[if_neg e]; lia
theorem find_c {n:Nat} {Q:Value→Shared→Prop} (X:Src (KF w) P) (R:Rm A (n+22)) (H:At σ P (bgL prog w me dx ed lf rt gd es gl kl kr F rest) s) (hPc:(170,Asn.codeTab)∈rest) (I:Inv es gl kl kr) (hz:es.length≤7)
  (h:∀P' d s',Sub P P'→At σ P' ((d,Asn.dict (DKind.int prog w) Rep.int (foundM (es.map (·.1))))::bgL prog w me dx ed lf rt gd es gl kl kr F rest) s'→Q (.ref d) s') :
  wpAny (model prog w) A (call (.ref 175) [.ref me]) Q E s:=by
 have hne:(170:Addr)≠ed:=fun e=>by
  have nd:=H.ld.nodup
  unfold bgL at nd
  simp only[List.map_cons,List.nodup_cons] at nd
  exact nd.2.2.1 (by rw[←e]; exact .tail _ (.tail _ (.tail _ (List.mem_map_of_mem (f:=fun p:Addr×Asn=>p.1) (List.mem_append_right _ hPc)))))
 refine wpAny_call (callCx (w:=w) (n:=n+20) [("self",.local),("directed_graph",.local),("left",.local),("right",.local),("tail",.local),("head",.local),("matching",.local),("LEFT",.globalImplicit),("RIGHT",.globalImplicit),("HopcroftKarp",.globalImplicit),("dict",.globalImplicit)]
  [("self",.ref me)]
  X R H (by show(hd.heap_1 w.params).lookup _=_; k_is) (by show codeIn (hd.heap_1 w.params) _ _=_; k_is) rfl rfl rfl rfl (by decide) (fun L=>List.nodup_nil) (fun L x hx=>?_) rfl rfl rfl rfl rfl rfl fun Γ hR hcode hown hcells _=>?_)
 ·rcases List.mem_cons.mp hx with rfl|hx
  ·exact .inl rfl
  contradiction
 clear H R
 refine St.assignG (EvC.dict0 (DKind.pair prog w) Rep.val) rfl (fun _=>rfl) ?_
 rintro P1 _ _ k1 ⟨e1,dd,rfl,rfl⟩
 obtain rfl:=e1.symm
 have X1:=Γ.src.mono k1
 refine St.at X1 ?_
 refine St.forIt (Walk.dict (D:=DKind.pair prog w) (V:=Rep.int) (ps:=es) (d:=ed) (Ev.attr (me:=me) (d:=dx) (C:=199) (Ev.name rfl rfl rfl) (.tail _ (.head _)) (.tail _ (.tail _ (.head _))) rfl (bo_edges _) rfl rfl) (fun ep=>.tail (.tail (.tail .head)))) (fun _ _=>rfl) (.inr ⟨_,_,_,rfl⟩) ?_
 intro Pin P1 led k2 hz525
 refine E1A3 hz525 fun ep ee523 ee524 e1=>?_
 clear hz525
 subst ee523 ee524
 obtain rfl:=e1.symm
 refine⟨fun i P2 m' led'=>m' "directed_graph" = some (.ref dd)∧∃gl',gl'.map (·.1)=(graphP ((es.map (·.1)).take i)).map (·.1) ∧
  led'=(dd,Asn.dict (DKind.pair prog w) Rep.val (gvals gl'))::(lsts gl' (lisF (graphP ((es.map (·.1)).take i)))++bgP prog w me dx ed lf rt gd es gl kl kr F rest ep),?_,⟨rfl,[],rfl,rfl⟩,?_,?_⟩
 ·intro i P2 m' _ hz330
  refine E0A2 hz330 fun _ zz331=>?_
  refine E1A2 zz331 fun gl' _ ee329=>?_
  clear hz330
  subst ee329
  exact .tail _ (List.mem_append_right _ (.tail _ (.tail _ (.head _))))
 ·intro i P2 P3 k3 k4 v it m' _ Q' hi hz298
  refine E0A2 hz298 fun hm zz299=>?_
  refine E1A2 zz299 fun gl' hk' ee297=>?_
  clear hz298
  subst ee297
  rintro⟨p,hp,hv⟩ T
  generalize bgP prog w me dx ed lf rt gd es gl kl kr F rest ep=BP at *
  have hpe:(es.map (·.1))[i]? = some p.1:=by rw[List.getElem?_map,hp]; rfl
  have htk:=take_snoc hpe
  generalize hdone:(es.map (·.1)).take i=done at *
  have hgn:(gl'.map (·.1)).Nodup:=by rw[hk']; exact graphP_nodup _
  have hdl:done.length≤7:=by rw[←hdone]; exact Nat.le_trans (List.length_take_le' ..) (by rw[List.length_map]; exact hz)
  have hgz:(gvals gl').length≤1000:=by
   have h1:=congrArg List.length hk'
   have h2:=graphP_len done
   simp only[List.length_map] at h1
   unfold gvals
   rw[List.length_map]; lia
  refine⟨_,Asg.two (A:=Rep.int) (B:=Rep.int) (u:=p.1.1) (w:=p.1.2) hv (fun v'=>Asg.name rfl) (fun m' v'=>Asg.name rfl) (fun _=>rfl),?_⟩
  intro m'' hz460
  refine E3A4 hz460 fun v1 v2 m1 ha hb ee458 ee459=>?_
  clear hz460
  subst ee458 ee459
  have X3:=X1.mono (k2.trans (k3.trans k4))
  refine St.at2 X3 ?_
  refine St.assignG (EvV.pair (A:=Rep.int) (B:=Rep.int) (y:=0) (z:=p.1.1) (EvV.of (Ev.glob (gl_LEFT _) ⟨_,rfl⟩ rfl)) (fun P' kk=>EvV.of (Ev.name rfl ha rfl)) (fun _=>rfl) (fun _=>rfl)) rfl (fun _=>rfl) ?_
  rintro P4 tv _ k5 ⟨rfl,htv⟩
  have X4:=X3.mono k5
  refine St.at2 X4 ?_
  refine St.assignG (EvV.pair (A:=Rep.int) (B:=Rep.int) (y:=1) (z:=p.1.2) (EvV.of (Ev.glob (gl_RIGHT _) ⟨_,rfl⟩ rfl)) (fun P' kk=>EvV.of (Ev.name rfl hb rfl)) (fun _=>rfl) (fun _=>rfl)) rfl (fun _=>rfl) ?_
  rintro P5 hv' _ k6 ⟨rfl,hhv⟩
  have X5:=X4.mono k6
  refine St.at2 X5 ?_
  have htv5:=PI.mono k6 htv
  have hm5:upd (upd (upd (upd m' "left" v1) "right" v2) "tail" tv) "head" hv' "directed_graph" = some (.ref dd):=hm
  rcases hlk:look (gvals gl') (0,p.1.1) with _|b
  ·
   have hno:(0,p.1.1)∉gl'.map (·.1):=fun hm=>by
    refine E1A2 (List.mem_map.mp hm) fun q hq e=>?_
    have:=gvals_look (key:=q.1) (a:=q.2) hgn hq
    rw[e,hlk] at this; contradiction
   have hg0:look (graphP done) (0,p.1.1)=none:=by
    rcases q:look (graphP done) (0,p.1.1) with _|b
    ·rfl
    ·exact absurd (look_isSome.mp (by rw[q]; rfl)) (hk'▸hno)
   refine St.iteT (Tst.notin (D:=DKind.pair prog w) (V:=Rep.val) (ps:=gvals gl') (d:=dd) (k:=(0,p.1.1)) (Ev.name hm5 rfl rfl) (.tail _ (.head _)) (Ev.name rfl htv5 rfl) (by rw[hlk]; rfl) rfl) ?_
   refine St.setitemG (EvG.list (A:=PI) (ys:=[(1,p.1.2)]) (EvsV.cons (EvV.of (Ev.name rfl hhv rfl)) (fun _=>rfl) fun _ _=>EvsV.nil) (by exact Nat.succ_pos _)) ?_ (fun _=>rfl)
   intro P6 _ _ k7 hz360
   refine E1A2 hz360 fun q ee358 ee359=>?_
   clear hz360
   subst ee358 ee359
   refine⟨_,_,_,DKind.pair prog w,Rep.val,gvals gl',(0,p.1.1),.ref q,dd,_,Ev.name hm5 rfl rfl,.tail (.tail .head),Ev.name rfl (PI.mono k7 htv5) rfl,rfl,hgz,?_⟩
   refine St.skip (St.nil fun s H=>T.next P6 _ ((dd,Asn.dict (DKind.pair prog w) Rep.val (gvals (gl'++[((0,p.1.1),q)])))::(lsts (gl'++[((0,p.1.1),q)]) (lisF (graphP (done++[p.1])))++BP)) s ((k5.trans k6).trans k7) ⟨hm5,gl'++[((0,p.1.1),q)],?_,by rw[htk]⟩ ?_)
   ·rw[htk,graphP_snoc,keys_put,if_neg (hk'▸hno),List.map_append,hk']; rfl
   ·have e1:lsts (gl'++[((0,p.1.1),q)]) (lisF (graphP (done++[p.1])))=lsts gl' (lisF (graphP done))++[(q,Asn.list PI [(1,p.1.2)])]:=by
     rw[lsts_snoc]
     rw[lsts_congr (F':=lisF (graphP done)) fun x hx=>?_]
     ·show _++[(q,Asn.list PI ((look (graphP (done++[p.1])) (0,p.1.1)).getD []))]=_
      rw[graphP_snoc,look_put_self,hg0]; rfl
     ·show Asn.list PI ((look (graphP (done++[p.1])) x.1).getD [])=_
      rw[graphP_snoc,look_put_ne _ _ fun e=>hno (by rw[e]; exact List.mem_map_of_mem (f:=fun p:(Int×Int)×Addr=>p.1) hx)]
    rw[e1]
    rw[put_gvals hno] at H
    refine At.perm H ((List.Perm.refl _).append ?_)
    have e2:∀X:List (Addr×Asn),(lsts gl' (lisF (graphP done))++[(q,Asn.list PI [(1,p.1.2)])])++X=lsts gl' (lisF (graphP done))++(q,Asn.list PI [(1,p.1.2)])::X:=fun X=>by exact List.append_assoc ..
    rw[e2]
    exact((List.perm_middle.cons _).trans (.swap _ _ _)).cons _ |>.trans (.swap _ _ _)
  ·
   obtain⟨a,rfl,hin⟩:=look_gvals hlk
   have hxs:((look (graphP done) (0,p.1.1)).getD []).length≤1000:=by
    have G:=graph_all (f:=fun l=>((0:Int),l)) (h:=fun r=>((1:Int),r)) (fun a b q=>(Prod.mk.inj q).2) done
    have h1:((graphP done).flatMap (·.2)).length=done.length:=G.all
    have h2:=look_sum (graphP done) (0,p.1.1)
    lia
   refine St.iteF (Tst.notin (D:=DKind.pair prog w) (V:=Rep.val) (ps:=gvals gl') (d:=dd) (k:=(0,p.1.1)) (Ev.name hm5 rfl rfl) (.tail _ (.head _)) (Ev.name rfl htv5 rfl) (by rw[hlk]; rfl) rfl) ?_
   refine St.expr (EvC.append (V:=PI) (l:=a) (xs:=(look (graphP done) (0,p.1.1)).getD []) (y:=(1,p.1.2)) (Ev.sub (D:=DKind.pair prog w) (V:=Rep.val) (k:=(0,p.1.1)) (b:=.ref a) (Ev.name hm5 rfl rfl) (.tail _ (.head _)) (Ev.name rfl htv5 rfl) hlk (fun _ _=>rfl))
    (.tail (.tail ((lsts_upd (F:=lisF (graphP done)) hgn hin).post _))) (Ev.name rfl hhv rfl) hxs rfl (fun _=>rfl)) (fun _=>rfl) ?_
   refine St.skip (St.nil fun s H=>T.next P5 _ ((dd,Asn.dict (DKind.pair prog w) Rep.val (gvals gl'))::(lsts gl' (lisF (graphP (done++[p.1])))++BP)) s (k5.trans k6) ⟨hm5,gl',?_,by rw[htk]⟩ ?_)
   ·rw[htk,graphP_snoc,keys_put,if_pos (hk'▸List.mem_map_of_mem (f:=fun p:(Int×Int)×Addr=>p.1) hin),hk']
   ·have e1:lsts gl' (lisF (graphP (done++[p.1])))=lsts gl' (fun k=>if k=(0,p.1.1) then Asn.list PI ((look (graphP done) (0,p.1.1)).getD []++[(1,p.1.2)]) else lisF (graphP done) k):=by
     refine lsts_congr fun x hx=>?_
     show Asn.list PI ((look (graphP (done++[p.1])) x.1).getD [])=_
     by_cases e:x.1=(0,p.1.1)
     ·rw[if_pos e,e,graphP_snoc,look_put_self]; rfl
     ·rw[if_neg e,graphP_snoc,look_put_ne _ _ (Ne.symm e)]
    rw[e1]
    exact H
 ·intro P2 k3 m' _ hz154
  refine E0A2 hz154 fun hm zz155=>?_
  refine E1A2 zz155 fun gl' hk' ee153=>?_
  clear hz154
  subst ee153
  have X2:=X1.mono (k2.trans k3)
  refine St.at2 X2 ?_
  have htl:(es.map (·.1)).take es.length=es.map (·.1):=List.take_of_length_le (by simp)
  rw[htl] at hk' ⊢
  have hmap:=map_look hk' (graphP_nodup _)
  generalize hE:es.map (·.1)=E at *
  refine St.turn fun s H=>?_
  have H1:=At.perm (led':=(dd,Asn.dict (DKind.pair prog w) Rep.val (gvals gl'))::(lsts gl' (lisF (graphP E))++(Γ.fr m'++bgP prog w me dx ed lf rt gd es gl kl kr F rest ep))) H ((List.Perm.cons _ (List.perm_append_comm_assoc _ _ _)).trans List.perm_middle.symm)
  refine E1A2 (dict_vals (V:=PI) (F:=fun k=>(look (graphP E) k).getD []) H1) fun P3 k4 H2=>?_
  rw[hmap] at H2
  have H3:=At.unpin (led':=(dd,Asn.dict (DKind.pair prog w) (Rep.list PI) (graphP E))::(Γ.fr m'++bgL prog w me dx ed lf rt gd es gl kl kr F rest)) H2 (.tail (Upd.pre (.tail (.tail .head)) _))
  refine⟨P3,k4,(dd,Asn.dict (DKind.pair prog w) (Rep.list PI) (graphP E))::bgL prog w me dx ed lf rt gd es gl kl kr F rest,At.perm H3 List.perm_middle,?_⟩
  clear H H1 H2 H3
  have X3:=X2.mono k4
  refine St.at2 X3 ?_
  have hEl:E.length≤7:=by rw[←hE,List.length_map]; exact hz
  refine E1A7 (found_ok (es:=E) (hE▸I.end_) (fun e he=>(I.rng e (hE▸he)).2) hEl) fun st hrun hfm hfo hz0 z1 z2 z3=>?_
  have hgl:=graphP_len E
  generalize hB:(dd,Asn.dict (DKind.pair prog w) (Rep.list PI) (graphP E))::bgL prog w me dx ed lf rt gd es gl kl kr F rest=B
  have hgB:(dd,Asn.dict (DKind.pair prog w) (Rep.list PI) (graphP E))∈B:=hB▸.head _
  refine St.assignG (R:=fun P' v l=>∃x dx' pl pr lv dl t',v=.ref pl∧l=hkLed (DKind.pair prog w) x dx' dd pl pr lv dl (graphP E) B st t') (EvG.methG (C:=80) (g:=49)
   (R1:=fun P' v l=>∃x dx' pl pr lv dl t',v=.ref x∧l=hkLed (DKind.pair prog w) x dx' dd pl pr lv dl (graphP E) B hs0 t')
   (EvG.callF (f:=80) (R2:=fun P' vs=>vs=[.ref dd]) (Ev.glob (gl_HK _) rfl rfl) (by show keepIn (hd.heap_1 w.params) _=_; k_is)
    (EvsG.cons (R2:=fun _ vs=>vs=[]) (EvV.val (Ev.name hm rfl rfl)) (fun _=>rfl) (fun _ _=>EvsG.nil rfl) (fun P' v vs hv e=>by rw[e,(hv:v=.ref dd)])) ?_ (fun _=>rfl) (fun _=>rfl)) ?_ (mo_max w) rfl ?_) rfl (fun _=>rfl) ?_
  ·rintro P' k vs Q' s rfl H hq
   refine make_c (n:=n+1) (D:=DKind.pair prog w) (g:=graphP E) (gd:=dd) (X3.mono k) (hR.less (by lia)) (by lia) H (Γ.tl hgB) fun P'' x dx' pl pr lv dl t s' k' H'=>?_
   exact hq P'' _ _ s' k' ⟨x,dx',pl,pr,lv,dl,t,rfl,rfl⟩ (At.perm H' (List.perm_append_comm_assoc (Γ.fr m') [_,_,_,_,_,_] B))
  ·intro P' v l hz217
   refine E7A2 hz217 fun x dx' pl pr lv dl t' ee215 ee216=>?_
   clear hz217
   subst ee215 ee216
   exact⟨x,dx',_,6,rfl,.tail _ (.tail _ (.tail _ (.tail _ (.head _)))),.tail _ (.tail _ (.tail _ (.tail _ (.tail _ (.head _))))),rfl⟩
  ·intro P' k v l Q' s hz185
   refine E7A2 hz185 fun x dx' pl pr lv dl t' ee183 ee184=>?_
   clear hz185
   subst ee183 ee184
   rintro H hq
   refine max_c (n:=n+3) (N:=9) (D:=DKind.pair prog w) (g:=graphP E) (F:=fun st t=>Γ.fr m'++hkLed (DKind.pair prog w) x dx' dd pl pr lv dl (graphP E) B st t) (X3.mono k) (hR.less (by exact Nat.le_refl _)) ((fam_hk hgB).pre _) hrun (Nat.zero_le _) (Nat.zero_le _) (Nat.zero_le _) H fun P'' t'' s' k' H'=>?_
   exact hq P'' _ _ s' k' ⟨x,dx',pl,pr,lv,dl,t'',rfl,rfl⟩ H'
  intro P4 _ _ k5 hz150
  refine E7A2 hz150 fun x dx' pl pr lv dl t' ee148 ee149=>?_
  clear hz150
  subst ee148 ee149
  have X4:=X3.mono k5
  refine St.at2 X4 ?_
  refine St.facts fun s H=>?_
  have hne2:(170:Addr)≠pl:=fun e=>by
   have nd:=(At.dropL (l:=Γ.fr (upd m' "matching" (.ref pl))) H).ld.nodup
   simp only[List.map_cons,List.nodup_cons] at nd
   refine nd.2.2.2.1 ?_
   rw[←e]
   refine .tail _ (.tail _ ?_)
   rw[←hB]
   exact .tail _ (.tail _ (.tail _ (.tail _ (.tail _ (.tail _ (.tail _ (List.mem_map_of_mem (f:=fun p:Addr×Asn=>p.1) (List.mem_append_right _ hPc))))))))
  clear H
  have hPcB:(170,Asn.codeTab)∈hkLed (DKind.pair prog w) x dx' dd pl pr lv dl (graphP E) B st t':=by
   rw[←hB]
   exact .tail _ (.tail _ (.tail _ (.tail _ (.tail _ (.tail _ (.tail _ (.tail _ (.tail _ (.tail _ (.tail _ (.tail _ (.tail _ (List.mem_append_right _ hPc)))))))))))))
  refine St.retG (EvG.dictGen (xs:=foundM E) (c:=174) (Pc:=170) (n':=1) (Ev.builtin (nb_dict _) (by boot_by_name) (by decide) rfl rfl) (by rw[hfm,List.length_map])
   (Walk.itemsE (D:=DKind.pair prog w) (V:=PI) (ps:=st.pl) (d:=pl) (EvG.items (x:=none) (Ev.name upd_self rfl rfl) (.tail _ (.tail _ (.tail _ (.head _)))) rfl) (fun ep=>.tail (.tail (.tail .head))))
   hcode (ck_find w) ?_ ?_ (by have:=hfo.small; exact tr1 (by assumption) rfl) (hR.less (by exact bl2 rfl)) rfl rfl (by decide) rfl ?_ rfl (.inr ⟨_,_,_,rfl⟩) (fun _ _=>rfl) (fun P1 k1 C I g R need cenv hcl=>turnF hfm hz0) (fun _=>rfl) (fun _=>rfl)) ?_
  ·rintro Pin P' led ⟨ep',ePin,rfl,eP⟩
   exact⟨_,Upd.again (Upd.other (.tail (.tail (.tail .head))) hPcB hne2)⟩
  ·rintro Pin P' led ⟨ep',rfl,rfl,eP⟩
   exact .tail _ (.tail _ (.tail _ (.head _)))
  ·intro y hy hf
   exfalso
   rcases List.mem_cons.mp hy with rfl|hy
   ·contradiction
   rcases List.mem_cons.mp hy with rfl|hy
   ·contradiction
   rcases List.mem_cons.mp hy with rfl|hy
   ·contradiction
   rcases List.mem_cons.mp hy with rfl|hy
   ·contradiction
   contradiction
  intro P5 _ _ s' k6 hz41
  refine E4A4 hz41 fun P6 Pin led d zz38 kk ee39 ee40=>?_
  clear hz41
  obtain⟨ep',ePin,rfl,eP⟩:=zz38
  subst ee39 ee40
  rintro H'
  have e1:putAll [] (foundM E)=foundM E:=putAll_nodup _ _ hfo.keys
  rw[e1] at H'
  refine h P5 d s' (((((k1.trans (k2.trans k3)).trans k4).trans k5)).trans k6) ?_
  subst hB
  exact(At.dropL H').subl ((((((((List.Sublist.refl _).cons _).cons _).cons _).cons _).cons _).cons _).cons _ |>.cons_cons _)
end
end
end Mine
namespace Mine
noncomputable section
section
variable {prog:Program} {w:World} {A:Around} {E:Value→Shared→Prop} {s:Shared} {d a:Addr} {n n':Nat}
theorem merge_empty {Q:Unit→Shared→Prop} (hd:s.heap.get? d=some (dictOf [] n)) (ha:s.heap.get? a=some (dictOf [] n')) (hs:(a == sysModules)=false) (h:Q () s) :
  wpAny (model prog w) A (mergeMapping d (.ref a) true) Q E s:=by
 have hT:s.TypeIs (.ref a) "dict":=⟨_,ha,rfl⟩
 refine wpAny_bind (m:=isInstance _ _) (wpAny_isInstance (T:="dict") hT PySem.F.sub_dict_dict ?_)
 refine wpAny_bind (m:=specialOf _ _) (wpAny_specialOf hT PySem.F.slot_dict_iter.lookup ?_)
 refine wpAny_bind (wpAny_pure ?_)
 rw[show(some (Value.builtin "dict.__iter__") == some (Value.builtin "dict.__iter__"))=true from by decide]
 dsimp only
 rw[hs]
 refine wpAny_bind (wpAny_dictEntries hd rfl ?_)
 refine wpAny_bind (wpAny_dictEntries ha rfl ?_)
 rw[←Array.forIn_toList]
 rw[List.forIn_nil]
 refine wpAny_bind (wpAny_pure ?_)
 refine wpAny_bind (wpAny_dictEntries ha rfl ?_)
 refine wpAny_bind (wpAny_dictEpoch ha rfl ?_)
 show wpAny _ _ (forIn ([]:List Nat) PUnit.unit _ >>= _) _ _ _
 rw[List.forIn_nil]
 exact wpAny_bind (wpAny_pure (wpAny_pure h))
theorem star_empty {Q:List Value→Shared→Prop} {k:Nat} (ha:s.heap.get? a=some { cls:=.type "tuple",data:=.seq #[] k }) (h:∀h',Sub s.heap h'→Q [] { s with heap:=h' }) :
  StarOf (model prog w) A E (.ref a) Q s:=by
 have hT:s.TypeIs (.ref a) "tuple":=⟨_,ha,rfl⟩
 refine wpAny_bind (wpAny_specialOf hT PySem.F.slot_tuple_iter.lookup ?_)
 refine wpAny_pure ⟨rfl,?_⟩
 exact wpAny_collect_seq a (.inr rfl) ha rfl rfl h
theorem kw_empty {f:Value} {Q:List (Str×Value)→Shared→Prop} (hd:s.heap.get? d=some (dictOf [] n)) (h:Q [] s):wpAny (model prog w) A (keywordsIn f d) Q E s:=by
 refine wpAny_bind (wpAny_dictEntries hd rfl ?_)
 refine wpAny_bind (wpAny_pure (wpAny_pure h))
theorem merged_empty {f:Value} {x:Sem Value} {Q:Addr→Shared→Prop}
  (hx:∀(Q':Value→Shared→Prop) (s1:Shared),s1={ s with heap:=s.heap.push (dictOf [] 0) }→(∀v s2 a n',v=.ref a→s2.heap.get? s.heap.objs.size=some (dictOf [] 0)→s2.heap.get? a=some (dictOf [] n')→(a == sysModules)=false→Q s.heap.objs.size s2→Q' v s2)→wpAny (model prog w) A x Q' E s1) :
  wpAny (model prog w) A (mergedKeywords f [(none,x)]) Q E s:=by
 refine wpAny_bind (wpAny_alloc ?_)
 refine wpAny_bind (wpAny_holding ?_)
 dsimp only
 rw[List.forIn_cons]
 refine wpAny_bind (wpAny_bind ?_)
 refine wpAny_bind (wpAny_pure ?_)
 refine wpAny_bind (hx _ _ rfl fun v s2 a n' hv hd ha hs hq=>?_)
 subst hv
 refine wpAny_bind (wpAny_onRaise (wpAny_holding (wpAny_tryCatch (wpAny_onRaise (merge_empty hd ha hs ?_)))))
 refine wpAny_pure ?_
 dsimp only
 rw[List.forIn_nil]
 refine wpAny_pure ?_
 exact wpAny_pure (wpAny_pure hq)
end
section
variable {G:Gl} {P:Heap} {nms:List (Str×NameKind)} {n:Nat} {Γ:Cx G P nms n} {m:Str→Option Value} {led:List (Addr×Asn)} {ea ek:Expr} {x:Str} {pos p1 p2 pf:Pos} {a ka:Addr} {κ β:Type} {di:DecidableEq κ} {k:Nat}
theorem EvG.dictStar (D:DKind G.prog G.w κ) (V:Rep β) (hf:Ev Γ m led (.Name x pf) (Is (.type "dict"))) (ha:Ev Γ m led ea (Is (.ref a))) (hao:P.get? a=some { cls:=.type "tuple",data:=.seq #[] k })
  (hk:∀l,Ev Γ m l ek (Is (.ref ka))) (hko:(ka,Asn.eq (dictOf [] 0))∈led)
  (he:∀env,eval (.Call (.Name x pf) [.Starred ea p1] [⟨none,ek,p2⟩] pos) env=(do callWith pos (←eval (.Name x pf) env) [] (backTo pos [(true,eval ea env)]) (backToKw pos [(none,eval ek env)]))) :
  EvG Γ m led (.Call (.Name x pf) [.Starred ea p1] [⟨none,ek,p2⟩] pos) fun P' v l=>P'=P∧∃q,v=.ref q∧l=(q,Asn.dict D V [])::led:=
 ⟨fun Q s H h=>by
  rw[he]
  refine wpAny_bind (hf.run _ s H fun u s1 hu H1=>?_)
  subst hu
  refine wpAny_bind (wpAny_holding ?_)
  show wpAny _ _ (evalArgs (.type "dict") true [(true,(do let v ←eval ea Γ.env; standAt pos; pure v))] [(none,(do let v ←eval ek Γ.env; standAt pos; pure v))]) _ _ _
  refine wpAny_bind (wpAny_bind (ha.run _ s1 H1 fun v s2 hv H2=>wpAny_bind (wpAny_standAt (wpAny_pure (wpAny_bind (wpAny_pure ?_))))))
  subst hv
  refine wpAny_holding ?_
  refine wpAny_bind (merged_empty fun Q' s3 e3 hq=>?_)
  have H3:Γ.at_ m ((s2.heap.objs.size,Asn.eq (dictOf [] 0))::led) s3:=by
   subst e3
   exact At.perm (At.push (R:=Asn.eq (dictOf [] 0)) H2 rfl rfl) List.perm_middle
  refine wpAny_bind ((hk _).run _ s3 H3 fun v s4 hv H4=>wpAny_bind (wpAny_standAt (wpAny_pure ?_)))
  subst hv
  have g1:s4.heap.get? s2.heap.objs.size=some (dictOf [] 0):=(H4:At _ _ _ _).obj (Γ.tl (.head _))
  have g2:s4.heap.get? ka=some (dictOf [] 0):=(H4:At _ _ _ _).obj (Γ.tl (.tail _ hko))
  refine hq _ s4 ka 0 rfl g1 g2 ((H4:At _ _ _ _).noSys Γ.src (Γ.tl (.tail _ hko))) ?_
  have hst:=star_empty (prog:=G.prog) (w:=G.w) (A:=Γ.A) (E:=fun _ _=>False) (s:=s4) (a:=a) (k:=k) ((H4:At _ _ _ _).sub _ _ hao) (Q:=fun vs s5=>vs=[]∧∃h',Sub s4.heap h'∧s5={ s4 with heap:=h' }) fun h' kk=>⟨rfl,h',kk,rfl⟩
  unfold StarOf at hst
  refine wpAny_bind (wpAny_bind (wpAny_mono hst (fun b s5 hb=>?_) fun _ _ z=>z))
  obtain⟨rfl,hb⟩:=hb
  rw[if_neg Bool.false_ne_true]
  refine wpAny_holding (wpAny_mono hb (fun vs s6 hvs=>?_) fun _ _ z=>z)
  obtain⟨rfl,h',kk,rfl⟩:=hvs
  refine wpAny_bind (wpAny_holding (kw_empty (kk _ _ g1) ?_))
  refine wpAny_pure ?_
  refine wpAny_bind (wpAny_standAt ?_)
  refine wpAny_bind (wpAny_pure ?_)
  have H5:=At.grow (tk:=s4.toks) H4 kk
  have fin:wpAny (model G.prog G.w) Γ.A (call (.type "dict") []) Q (fun _ _=>False) { s4 with heap:=h' }:=
   r_dict0 D V H5 fun q s7 H7=>h P _ ((q,Asn.dict D V [])::led) s7 (Sub.refl P) ⟨rfl,q,rfl,rfl⟩ ((H7.perm List.perm_middle).subl ((List.Sublist.refl _).append ((List.sublist_cons_self _ _).cons_cons _)))
  exact wpAny_bind (wpAny_mono (wpAny_operating fin) (fun r s₂ hr=>wpAny_bind (wpAny_holding (wpAny_point (wpAny_pure hr)))) fun _ _ z=>z)⟩
end
end
end Mine
namespace Mine
noncomputable section
theorem noFree {names:List (Str×NameKind)} {S:Str×NameKind→Prop} (h:(names.all fun x=>x.2 != .free)=true):∀x∈names,x.2=.free→S x:=fun x hx hf=>by
 have:=List.all_eq_true.mp h x hx
 rw[hf] at this
 exact absurd this (by decide)
section
variable {G:Gl} {P P':Heap} {nms:List (Str×NameKind)} {n:Nat} {Γ:Cx G P nms n} {m:Str→Option Value} {led led' led0:List (Addr×Asn)} {e elt iter target:Expr} {ifs:List Expr} {scope:Scope} {x:Str} {v:Value} {pos p1 pf:Pos}
 {N n':Nat} {Pv:Heap→Nat→Value→Prop} {RL:(List (Addr×Asn)→Prop)→Heap→List (Addr×Asn)→Prop} {c Pc:Addr} {xs:List Int}
theorem Walk.keysE {κ β:Type} {di:DecidableEq κ} {D:DKind G.prog G.w κ} {V:Rep β} {ps:List (κ×β)} {d:Addr} (h1:EvG Γ m led0 iter (fun P' v l=>P'=P∧∃vw,v=.ref vw∧l=(vw,View "dict_keys" d)::led)) {ledp:Nat→List (Addr×Asn)} (U:∀ep,Upd d (Asn.dict D V ps) (Asn.dictX D V ps (some ep)) led (ledp ep)) :
  Walk Γ m led0 iter ps.length (fun P i v=>∃p,ps[i]? = some p∧D.rep.is P p.1 v) (fun Pin P' led=>∃ep,Pin=(fun l=>(d,Asn.dictX D V ps (some ep))∈l)∧led=ledp ep∧P'=P):=
 ⟨fun Q s H h=>h1.run _ s H fun P' v l s1 k ⟨e1,vw,e2,e3⟩ H1=>by
  subst e1 e2 e3
  obtain⟨ep,hp⟩:=At.pin (H1:At _ _ _ _) (Γ.tl (.tail _ (U 0).mem))
  have H2:=hp _ (Γ.tu (.tail (U ep)))
  refine i_keys (x:=some ep) H2 (Γ.tl (.head _)) (Γ.tl (.tail _ (U ep).mem')) fun I ep' s2 he hn H3=>?_
  have:=he ep rfl
  subst this
  refine h I _ _ (fun l=>(d,Asn.dictX D V ps (some ep'))∈l) P' _ s2 (Sub.refl P') (fun _=>It.keys) (fun P'' led'' s'' _ hm H'=>At.raw H' hm) (fun l l' hs hm=>hs _ hm) ⟨ep',rfl,rfl,rfl⟩ ?_
  exact(H3.perm List.perm_middle).subl ((List.Sublist.refl _).append ((List.sublist_cons_self _ _).cons_cons _))⟩
noncomputable def YlI (xs:List Int):Heap→Heap→Nat→Value→Prop:=fun _ _ i v=>∃z,xs[i]? = some z∧IsI z v
theorem EvG.setGen (hf:Ev Γ m led0 (.Name x pf) (Is (.type "set"))) (hN:xs.length=N) (W:Walk Γ m led0 iter N Pv RL) (hcode:Γ.env.code=.ref c) (CK:CodeK G.w c Pc) (hPc:∀Pin P' led,RL Pin P' led→∃led',Upd Pc Asn.codeTab Asn.codeTab led led')
  (hpin:∀Pin P' led,RL Pin P' led→Pin led) (hz:xs.length≤500) (hRm:Rm Γ.A (n'+6))
  (hco:scope.isCoroutine=false) (hk:scope.kind=.function) (hcell:∀y∈scope.names,y.2≠.cell) (h0:scope.names.lookup (".0" : Str)=some NameKind.local)
  (hfree:∀x∈scope.names,x.2=.free→(Γ.env.cells.lookup x.1).isSome) (hdb:scope.names.lookup ("__debug__" : Str)=none) (hT:(∀it v,letOwnedTupleGo target it v=pure ())∨∃elts k p,target=.Tuple elts k p)
  (hs:∀env x,genFold iter env x=pure x)
  (turn:∀(P1:Heap) (_:Sub P P1) (C I g:Addr) (R:Nat→Asn) (need:Heap→Heap→Prop) (cenv:Env),(∀x∈freesOf scope.names,cenv.cells.lookup x=Γ.env.cells.lookup x) →
   GTurn ⟨G.prog,G.w,G.σ,C,I,g,R,N,need,Lean1 P1 Γ.own m,YlI xs⟩ scope.names cenv n' target elt ifs Pv)
  (he:∀env,eval (.Call (.Name x pf) [.GeneratorExp elt [⟨target,iter,ifs,0⟩] scope p1] [] pos) env=(do callWith pos (←eval (.Name x pf) env) [] (backTo pos (starEach [.GeneratorExp elt [⟨target,iter,ifs,0⟩] scope p1] env)) (backToKw pos (keywordEach [] env))))
  (hs':∀env,starEach [.GeneratorExp elt [⟨target,iter,ifs,0⟩] scope p1] env=(false,eval (.GeneratorExp elt [⟨target,iter,ifs,0⟩] scope p1) env)::starEach [] env) :
  EvG Γ m led0 (.Call (.Name x pf) [.GeneratorExp elt [⟨target,iter,ifs,0⟩] scope p1] [] pos) fun P' v l=>∃P1 Pin led d,RL Pin P1 led∧Sub P1 P'∧v=.ref d∧l=(d,Asn.iset (insAll [] xs))::led:=
 ⟨fun Q s H h=>Call_ (hf.run _ s H fun u s1 hu H1=>by
  subst hu
  subst hN
  refine PyProof.Rows.callWith_type1 (spliced_more ((EvZ.genexp W hcode CK hPc hco hk hcell h0 hfree hdb hT hs turn).run _ s1 H1 fun P' v l s2 k zz23 H2=>E3A3 zz23 fun P1 Pin led hRL k1 M=>spliced_none ?_) (hs' _)) (hs' _) rfl
  have X2:=Γ.src.mono k
  refine E2A4 (M.feed (A:=Γ.A.in1.in1.in1) (Pv:=PvP Rep.int xs) (hpin _ _ _ hRL) hRm.in1.in1.in1 X2.nolimit (fun P0 P1 i v hy=>.inl fun P=>hy) H2) fun ga St ee15 zz16 Fd hst=>?_
  obtain⟨g,hg⟩:=zz16
  subst ee15
  refine r_setFeed Fd hst hg.isGen hz fun P3 d s3 k3 H3=>?_
  exact h P3 _ _ s3 (k.trans k3) ⟨P1,Pin,led,d,hRL,k1.trans k3,rfl,rfl⟩ (H3.perm List.perm_middle)) (he _)⟩
theorem turn0 {prog:Program} {w:World} {σ:Shared} {C I g:Addr} {R:Nat→Asn} {need:Heap→Heap→Prop} {X1:Heap→Prop} {cenv:Env} {Yl:Heap→Heap→Nat→Value→Prop}:GTurn ⟨prog,w,σ,C,I,g,R,0,need,X1,Yl⟩ nms cenv n' target elt ifs Pv:=⟨fun _ i _ _ _ _ _ _ _ _ hi _=>absurd hi (Nat.not_lt_zero _)⟩
theorem EvG.setKeys0 {κ β:Type} {di:DecidableEq κ} {D:DKind G.prog G.w κ} {V:Rep β} {d:Addr} (hf:Ev Γ m led0 (.Name x pf) (Is (.type "set"))) (h1:EvG Γ m led0 iter (fun P' v l=>P'=P∧∃vw,v=.ref vw∧l=(vw,View "dict_keys" d)::led0)) {ledp:Nat→List (Addr×Asn)} (U:∀ep,Upd d (Asn.dict D V []) (Asn.dictX D V [] (some ep)) led0 (ledp ep))
  (hcode:Γ.env.code=.ref c) (CK:CodeK G.w c Pc) (hPc:(Pc,Asn.codeTab)∈led0) (hPd:Pc≠d) (hRm:Rm Γ.A (1+6))
  (hco:scope.isCoroutine=false) (hk:scope.kind=.function) (hcell:∀y∈scope.names,y.2≠.cell) (h0:scope.names.lookup (".0" : Str)=some NameKind.local)
  (hfree:∀x∈scope.names,x.2=.free→(Γ.env.cells.lookup x.1).isSome) (hdb:scope.names.lookup ("__debug__" : Str)=none) (hT:(∀it v,letOwnedTupleGo target it v=pure ())∨∃elts k p,target=.Tuple elts k p)
  (hs:∀env x,genFold iter env x=pure x)
  (he:∀env,eval (.Call (.Name x pf) [.GeneratorExp elt [⟨target,iter,ifs,0⟩] scope p1] [] pos) env=(do callWith pos (←eval (.Name x pf) env) [] (backTo pos (starEach [.GeneratorExp elt [⟨target,iter,ifs,0⟩] scope p1] env)) (backToKw pos (keywordEach [] env))))
  (hs':∀env,starEach [.GeneratorExp elt [⟨target,iter,ifs,0⟩] scope p1] env=(false,eval (.GeneratorExp elt [⟨target,iter,ifs,0⟩] scope p1) env)::starEach [] env) :
  EvG Γ m led0 (.Call (.Name x pf) [.GeneratorExp elt [⟨target,iter,ifs,0⟩] scope p1] [] pos) fun P' v l=>∃q,v=.ref q∧l=(q,Asn.iset [])::led0:=
 ⟨fun Q s H h=>(EvG.setGen (xs:=[]) (n':=1) hf rfl (Walk.keysE h1 U) hcode CK (fun Pin P' led ⟨ep,_,e,_⟩=>⟨led,Upd.again (e▸(U ep).other hPc hPd)⟩) (fun Pin P' led ⟨ep,e1,e2,_⟩=>by rw[e1,e2]; exact(U ep).mem')
   (Nat.zero_le _) hRm hco hk hcell h0 hfree hdb hT hs (fun _ _ _ _ _ _ _ _ _=>turn0) he hs').run _ s H
   fun P3 v l s' k3 ⟨P4,Pin,led',q,⟨ep,e1,e2,e3⟩,k4,e5,e6⟩ H'=>by
    subst e6 e2
    exact h P3 v _ s' k3 ⟨q,e5,rfl⟩ (At.unpin H' (Γ.tu (.tail (U ep).inv)))⟩
end
end
end Mine
namespace Mine
set_option maxHeartbeats 1000000
noncomputable section
theorem bgF_of (ed lf rt gd:Addr):upd (upd (upd (upd (fun _=>none) "_edges" (.ref ed)) "_left" (.ref lf)) "_right" (.ref rt)) "_graph" (.ref gd)=bgF ed lf rt gd:=by
 funext x
 unfold upd bgF
 by_cases h1:x = "_graph"
 ·subst h1; rfl
 by_cases h2:x = "_right"
 ·subst h2; rfl
 by_cases h3:x = "_left"
 ·subst h3; rfl
 by_cases h4:x = "_edges"
 ·subst h4; rfl
 simp only[if_neg h1,if_neg h2,if_neg h3,if_neg h4,List.lookup_cons,beq_false_of_ne h1,beq_false_of_ne h2,beq_false_of_ne h3,beq_false_of_ne h4,List.lookup_nil]
theorem inv0:Inv [] [] [] []:=⟨.nil,fun _ h=>absurd h (List.not_mem_nil),.nil,fun _ h=>absurd h (List.not_mem_nil),fun _ h=>absurd h (List.not_mem_nil),fun x=>⟨fun h=>absurd h (List.not_mem_nil),fun zz234=>E1A1 zz234 fun _ h=>absurd h (List.not_mem_nil)⟩,fun x=>⟨fun h=>absurd h (List.not_mem_nil),fun zz225=>E1A1 zz225 fun _ h=>absurd h (List.not_mem_nil)⟩,.nil,.nil⟩
section
variable {prog:Program} {w:World} {σ:Shared} {P:Heap} {s:Shared} {A:Around} {E:Value→Shared→Prop} {led:List (Addr×Asn)}
theorem init_c {n:Nat} {Q:Value→Shared→Prop} (X:Src (KF w) P) (R:Rm A (n+20)) (H:At σ P led s) (hPc:(93,Asn.codeTab)∈led)
  (h:∀P' me dx ed lf rt gd s',Sub P P'→At σ P' (bgL prog w me dx ed lf rt gd [] [] [] [] (adj []) led) s'→Q (.ref me) s') :
  wpAny (model prog w) A (call (.ref 199) []) Q E s:=by
 refine r_make (K:=KF w) (C:=199) (fI:=98) X H (by show makesIn (hd.heap_1 w.params) _=_; k_is) (by show findIn (hd.heap_1 w.params) _ _=_; k_is) (by show typeIn (hd.heap_1 w.params) _=_; k_is) fun x dx s1 H1=>?_
 refine callCxB (σ:=σ) (w:=w) (n:=n+15) (P:=P) (f:=98) [("self",.local),("args",.local),("kwargs",.local),("l",.local),("r",.local),("dict",.globalImplicit),("set",.globalImplicit),("LEFT",.globalImplicit),("RIGHT",.globalImplicit)]
  (fun P1 l binds=>∃ta ka k,P1.get? ta=some { cls:=.type "tuple",data:=.seq #[] k }∧l=(ka,Asn.eq (dictOf [] 0))::(x,Asn.eq (instObj 199 dx))::(dx,Asn.nsN 0 fun _=>none)::led∧binds=([("self",Value.ref x),("args",Value.ref ta),("kwargs",Value.ref ka)]:List (Str×Value)))
  (Rm.make (n:=n+17) (R.less (by lia)) _ _) H1.sub X (by show(hd.heap_1 w.params).lookup _=_; k_is) (by show codeIn (hd.heap_1 w.params) _ _=_; k_is) rfl rfl rfl (by decide) ?_ (fun L=>List.nodup_nil) ?_ rfl rfl rfl rfl rfl rfl ?_
 ·intro Q' E' hq
  show wpAny _ _ (newTuple [] >>= fun t=>alloc { cls:=.type "dict",data:=.dict #[] } >>= fun d=>pure ([("self",Value.ref x),("args",t),("kwargs",Value.ref d)]:List (Str×Value))) _ _ _
  refine wpAny_bind (wpAny_newTuple ?_)
  refine E2A4 ((At.push (R:=Asn.eq { cls:=.type "tuple",data:=.seq #[] 0 }) (o:={ cls:=.type "tuple",data:=.seq #[] 0 }) H1 rfl rfl).persist) fun P2 o k2 g r H2=>?_
  have r':o={ cls:=.type "tuple",data:=.seq #[] 0 }:=r
  subst r'
  refine wpAny_bind (wpAny_alloc (wpAny_pure ?_))
  exact hq P2 _ _ _ k2 ⟨_,_,0,g,rfl,rfl⟩ (At.push (R:=Asn.eq (dictOf [] 0)) H2 rfl rfl)
 ·intro P1 l binds hz197
  refine E3A3 hz197 fun ta ka k _ _ ee196=>?_
  clear hz197
  subst ee196
  rintro L y hy
  rcases List.mem_cons.mp hy with rfl|hy
  ·exact .inl rfl
  rcases List.mem_cons.mp hy with rfl|hy
  ·exact .inl rfl
  rcases List.mem_cons.mp hy with rfl|hy
  ·exact .inl rfl
  contradiction
 clear H1 H R
 intro P1 _ _ kP hz185
 refine E3A3 hz185 fun ta ka k hta ee183 ee184=>?_
 clear hz185
 subst ee183 ee184
 rintro Γ hR hcode hown hcells _
 refine St.setattrNew (me:=x) (d:=dx) (C:=199) (k:=0) (f:=fun _=>none) (EvG.dictStar (DKind.pair prog w) Rep.int (a:=ta) (ka:=ka) (Ev.builtin (nb_dict _) (by boot_by_name) (by decide) rfl rfl) (Ev.name rfl rfl rfl) hta (fun _=>Ev.name rfl rfl rfl) (.head _) (fun _=>rfl))
  (fun _ _ _=>Ev.name rfl rfl rfl) (fun _ _ _ ⟨_,_,_,e⟩=>e▸.tail _ (.tail _ (.head _))) rfl (bs_edges w) (fun _=>rfl) (by decide) ?_
 rintro P2 _ _ k1 ⟨e1,ed,rfl,rfl⟩
 obtain rfl:=e1.symm
 refine⟨_,.tail (.tail (.tail .head)),?_⟩
 refine St.facts fun s H=>?_
 have hne:(93:Addr)≠ed:=fun e=>by
  have nd:=(At.dropL (l:=Γ.fr _) H).ld.nodup
  simp only[List.map_cons,List.nodup_cons] at nd
  exact nd.1 (e▸.tail _ (.tail _ (.tail _ (List.mem_map_of_mem (f:=fun p:Addr×Asn=>p.1) hPc))))
 clear H
 refine St.setattrNew (me:=x) (d:=dx) (C:=199) (k:=1) (f:=upd (fun _=>none) "_edges" (.ref ed))
  (EvG.setKeys0 (D:=DKind.pair prog w) (V:=Rep.int) (d:=ed) (c:=97) (Pc:=93) (Ev.builtin (nb_set _) (by boot_by_name) (by decide) rfl rfl)
   (EvG.keys (x:=none) (Ev.attr (me:=x) (d:=dx) (C:=199) (Ev.name rfl rfl rfl) (.tail _ (.tail _ (.head _))) (.tail _ (.tail _ (.tail _ (.head _)))) rfl (bo_edges _) rfl rfl) (.head _) rfl) (fun ep=>.head)
   hcode (ck_init w) (.tail _ (.tail _ (.tail _ (.tail _ hPc)))) hne (hR.less (by exact bl2 rfl)) rfl rfl (by decide) rfl (noFree rfl) rfl (.inr ⟨_,_,_,rfl⟩) (fun _ _=>rfl) (fun _=>rfl) (fun _=>rfl))
  (fun _ _ _=>Ev.name rfl rfl rfl) (fun _ _ _ zz149=>E1A2 zz149 fun _ _ e=>e▸.tail _ (.tail _ (.tail _ (.head _)))) rfl (bs_left w) (fun _=>rfl) (by decide) ?_
 intro P3 _ _ k2 hz126
 refine E1A2 hz126 fun lf ee124 ee125=>?_
 clear hz126
 subst ee124 ee125
 refine⟨_,.tail (.tail (.tail (.tail .head))),?_⟩
 refine St.setattrNew (me:=x) (d:=dx) (C:=199) (k:=2) (f:=upd (upd (fun _=>none) "_edges" (.ref ed)) "_left" (.ref lf))
  (EvG.setKeys0 (D:=DKind.pair prog w) (V:=Rep.int) (d:=ed) (c:=97) (Pc:=93) (Ev.builtin (nb_set _) (by boot_by_name) (by decide) rfl rfl)
   (EvG.keys (x:=none) (Ev.attr (me:=x) (d:=dx) (C:=199) (Ev.name rfl rfl rfl) (.tail _ (.tail _ (.tail _ (.head _)))) (.tail _ (.tail _ (.tail _ (.tail _ (.head _))))) rfl (bo_edges _) rfl rfl) (.tail _ (.head _)) rfl) (fun ep=>.tail .head)
   hcode (ck_init w) (.tail _ (.tail _ (.tail _ (.tail _ (.tail _ hPc))))) hne (hR.less (by exact bl2 rfl)) rfl rfl (by decide) rfl (noFree rfl) rfl (.inr ⟨_,_,_,rfl⟩) (fun _ _=>rfl) (fun _=>rfl) (fun _=>rfl))
  (fun _ _ _=>Ev.name rfl rfl rfl) (fun _ _ _ zz114=>E1A2 zz114 fun _ _ e=>e▸.tail _ (.tail _ (.tail _ (.tail _ (.head _))))) rfl (bs_right w) (fun _=>rfl) (by decide) ?_
 intro P4 _ _ k3 hz86
 refine E1A2 hz86 fun rt ee84 ee85=>?_
 clear hz86
 subst ee84 ee85
 refine⟨_,.tail (.tail (.tail (.tail (.tail .head)))),?_⟩
 refine St.setattrNew (me:=x) (d:=dx) (C:=199) (k:=3) (f:=upd (upd (upd (fun _=>none) "_edges" (.ref ed)) "_left" (.ref lf)) "_right" (.ref rt)) (EvC.dict0 (DKind.pair prog w) Rep.val)
  (fun _ _ _=>Ev.name rfl rfl rfl) (fun _ _ _ ⟨_,_,_,e⟩=>e▸.tail _ (.tail _ (.tail _ (.tail _ (.tail _ (.head _)))))) rfl (bs_graph w) (fun _=>rfl) (by decide) ?_
 rintro P5 _ _ k4 ⟨e1,gd,rfl,rfl⟩
 obtain rfl:=e1.symm
 refine⟨_,.tail (.tail (.tail (.tail (.tail (.tail .head))))),?_⟩
 rw[bgF_of]
 refine St.forIt (Walk.dict (D:=DKind.pair prog w) (V:=Rep.int) (ps:=[]) (d:=ed) (Ev.attr (me:=x) (d:=dx) (C:=199) (Ev.name rfl rfl rfl) (.tail _ (.tail _ (.tail _ (.tail _ (.tail _ (.head _)))))) (.tail _ (.tail _ (.tail _ (.tail _ (.tail _ (.tail _ (.head _))))))) rfl (bo_edges _) rfl rfl) (fun ep=>.tail (.tail (.tail .head)))) (fun _ _=>rfl) (.inr ⟨_,_,_,rfl⟩) ?_
 intro Pin P6 _ k5 hz20
 refine E1A3 hz20 fun ep ee18 ee19 e1=>?_
 clear hz20
 subst ee18 ee19
 obtain rfl:=e1.symm
 refine⟨fun i P2 m' led'=>led'=_,?_,rfl,?_,?_⟩
 ·rintro i P2 m' _ rfl
  exact .tail _ (.tail _ (.tail _ (.head _)))
 ·intro i P2 P3 _ _ v it m' led' Q' hi
  exact absurd hi (Nat.not_lt_zero _)
 rintro P2 k6 m' _ rfl
 refine St.nil fun s' H'=>⟨rfl,h P2 x dx ed lf rt gd s' ?_ ?_⟩
 ·exact kP.trans (k1.trans (k2.trans (k3.trans (k4.trans (k5.trans k6)))))
 have H2:=At.unpin (At.dropL H') (.tail (.tail (.tail .head)))
 have H3:=H2.subl (led':=[(gd,Asn.dict (DKind.pair prog w) Rep.val []),(rt,Asn.iset []),(lf,Asn.iset []),(ed,Asn.dict (DKind.pair prog w) Rep.int [])]++((x,Asn.eq (instObj 199 dx))::(dx,Asn.nsN 4 (bgF ed lf rt gd))::led)) ((((List.sublist_cons_self _ _).cons_cons _).cons_cons _).cons_cons _ |>.cons_cons _)
 refine H3.perm ?_
 refine List.Perm.trans ?_ (List.perm_append_comm_assoc [_,_] _ _)
 refine .cons _ (.cons _ ?_)
 exact(List.perm_append_right_iff led).mpr (List.reverse_perm [(gd,Asn.dict (DKind.pair prog w) Rep.val []),(rt,Asn.iset []),(lf,Asn.iset []),(ed,Asn.dict (DKind.pair prog w) Rep.int [])])
end
end
end Mine
namespace Mine
noncomputable section
section
variable {G:Gl} {P P':Heap} {nms:List (Str×NameKind)} {n:Nat} {Γ:Cx G P nms n} {m:Str→Option Value} {led led' led1:List (Addr×Asn)} {e e1 e2 e3 iter target:Expr} {es:List Expr} {x:Str} {v:Value} {pos p1 p2 pf:Pos}
 {rest body orelse:List Stmt} {Q:Flow→Shared→Prop} {α β γ:Type} {A:Rep α} {B:Rep β} {C:Rep γ} {y:α} {z:β} {u:γ} {ys ys':List α} {op:CmpOp} {bop:Operator} {c c':Bool}
noncomputable def EvA {G:Gl} {P:Heap} {nms:List (Str×NameKind)} {n:Nat} {α:Type} (Γ:Cx G P nms n) (m:Str→Option Value) (led:List (Addr×Asn)) (e:Expr) (A:Rep α) (y:α):Prop:=∀P' (k:Sub P P'),EvV (Γ.up k) m led e A y
noncomputable def TsA {G:Gl} {P:Heap} {nms:List (Str×NameKind)} {n:Nat} (Γ:Cx G P nms n) (m:Str→Option Value) (led:List (Addr×Asn)) (e:Expr) (b:Bool):Prop:=∀P' (k:Sub P P'),TstG (Γ.up k) m led e b fun _ l=>l=led
theorem EvA.up (h:EvA Γ m led e A y) (k:Sub P P'):EvA (Γ.up k) m led e A y:=fun _ k'=>h _ (k.trans k')
theorem TsA.up (h:TsA Γ m led e c) (k:Sub P P'):TsA (Γ.up k) m led e c:=fun _ k'=>h _ (k.trans k')
theorem EvA.now (h:EvA Γ m led e A y):EvV Γ m led e A y:=h P (Sub.refl P)
theorem EvA.ev (h:∀P' (k:Sub P P'),Ev (Γ.up k) m led e (A.is P' y)):EvA Γ m led e A y:=fun _ k=>EvV.of (h _ k)
theorem EvA.name (hv:m x=some v) (hR:A.is P y v) (hl:nms.lookup x=some .local):EvA Γ m led (.Name x pos) A y:=EvA.ev fun _ k=>Ev.name hv (A.mono k hR) hl
theorem EvA.int {i:Int} {k:Nat}:EvA Γ m led (.Constant (.int i) k pos) Rep.int i:=EvA.ev fun _ _=>Ev.int
theorem EvA.bool {b:Bool} {k:Nat}:EvA Γ m led (.Constant (.bool b) k pos) Rep.bool b:=EvA.ev fun _ _=>Ev.bool
theorem Ev.inC {cc:Addr} {R:Value→Prop} (hm:(cc,Asn.cell (some v))∈led) (hR:R v) (hc:Γ.env.cells.lookup x=some cc) (hl:nms.lookup x=some .cell):Ev Γ m led (.Name x pos) R:=
 ⟨fun Q s H h=>wpAny_Name (v_loadCell Γ.eok (H:At _ _ _ _) (Γ.tl hm) hc (h v s hR H) hl) (Γ.dbg hl)⟩
theorem EvA.inC {cc:Addr} (hm:(cc,Asn.cell (some v))∈led) (hR:A.is P y v) (hc:Γ.env.cells.lookup x=some cc) (hl:nms.lookup x=some .cell):EvA Γ m led (.Name x pos) A y:=EvA.ev fun _ k=>Ev.inC hm (A.mono k hR) hc hl
theorem EvA.cell {cc:Addr} (hv:m x=some v) (hR:A.is P y v) (hl:nms.lookup x=some .cell) (hc:Γ.own.lookup x=some cc):EvA Γ m led (.Name x pos) A y:=EvA.ev fun _ k=>Ev.cell hv (A.mono k hR) hl hc
theorem EvG.keepL (h:EvG Γ m led e fun _ v l=>∃q,v=.ref q∧l=(q,Asn.list A ys)::led):EvV Γ m led e (Rep.list A) ys:=
 ⟨fun Q s H hq=>h.run Q s H fun P' v l s' k zz101 H'=>E1A2 zz101 fun q e1 e2=>by
  subst e1 e2
  refine E2A4 (At.persist (At.perm H' List.perm_middle.symm)) fun P2 o k2 ho zz95 H2=>?_
  obtain⟨vs,nn,eo,f⟩:=zz95
  exact hq P2 _ _ s' (k.trans k2) ⟨rfl,q,vs,nn,rfl,eo▸ho,f⟩ H2⟩
theorem St.assignA (h1:EvA Γ m led e A y) (hl:nms.lookup x=some .local) (hw:∀env,swapsWith e (some (.Name x p1)) pos.line env=pure false) (h:∀P' v (k:Sub P P'),A.is P' y v→St (Γ.up k) (upd m x v) led rest Q) :
  St Γ m led (.Assign [.Name x p1] e pos::rest) Q:=St.assignG h1.now hl hw fun P' v l k zz90=>E0A2 zz90 fun e1 hv=>e1▸h P' v k hv
theorem St.assignAC {cc:Addr} (h1:EvA Γ m led e A y) (hl:nms.lookup x=some .cell) (hc:Γ.own.lookup x=some cc) (hw:∀env,swapsWith e (some (.Name x p1)) pos.line env=pure false) (h:∀P' v (k:Sub P P'),A.is P' y v→St (Γ.up k) (upd m x v) led rest Q) :
  St Γ m led (.Assign [.Name x p1] e pos::rest) Q:=St.assignC h1.now hl hc hw fun P' v l k zz83=>E0A2 zz83 fun e1 hv=>e1▸h P' v k hv
theorem St.iteA (h1:TsA Γ m led e c) (h:∀P' (k:Sub P P'),St (Γ.up k) m led (if c then body else orelse) (Γ.seq rest Q)):St Γ m led (.If e body orelse pos::rest) Q:=
 St.iteG (h1 P (Sub.refl P)) fun P' l k e1=>e1▸h P' k
theorem St.pass (h1:TsA Γ m led e false) (h:∀P' (k:Sub P P'),St (Γ.up k) m led rest Q):St Γ m led (.If e body [] pos::rest) Q:=
 St.iteA h1 fun P' k=>St.skipG k (h P' k)
theorem EvA.bin (h1:EvA Γ m led e1 A y) (h2:EvA Γ m led e2 B z)
  (h3:∀P' (k:Sub P P') v w (Q:Value→Shared→Prop) (s:Shared),A.is P' y v→B.is P' z w→(Γ.up k).at_ m led s→(∀P'' v' s' (k':Sub P' P''),C.is P'' u v'→((Γ.up k).up k').at_ m led s'→Q v' s')→Γ.wp (binaryOp bop v w) Q s):EvA Γ m led (.BinOp e1 bop e2 pos) C u:=fun P' k=>
 ⟨fun Q s H h=>wpAny_BinOp ((h1 P' k).run _ s H fun P1 v l s1 k1 zz75 H1=>E0A2 zz75 fun e1 hv=>by
  subst e1
  exact(h2 P1 (k.trans k1)).run _ s1 H1 fun P2 w l s2 k2 zz66 H2=>E0A2 zz66 fun e2 hw=>by
   subst e2
   exact h3 P2 ((k.trans k1).trans k2) v w Q s2 (A.mono k2 hv) hw H2 fun P3 v' s' k3 hv' H'=>h P3 v' _ s' ((k1.trans k2).trans k3) ⟨rfl,hv'⟩ H')⟩
theorem EvA.binI {a b r:Int} (h1:EvA Γ m led e1 Rep.int a) (h2:EvA Γ m led e2 Rep.int b)
  (h3:∀(A':Around) (E:Value→Shared→Prop) (s:Shared) (t t':Tok) (Q:Value→Shared→Prop),(∀t tk,Q (.int r t) { s with toks:=tk })→wpAny (model G.prog G.w) A' (binaryOp bop (.int a t) (.int b t')) Q E s):EvA Γ m led (.BinOp e1 bop e2 pos) Rep.int r:=
 EvA.bin h1 h2 fun P' k v w Q s zz55 zz56 H hq=>E1A1 zz55 fun t ev=>E1A1 zz56 fun t' ew=>by
  subst ev ew
  exact h3 _ _ s t t' Q fun t2 tk=>hq P' _ _ (Sub.refl P') ⟨t2,rfl⟩ (At.tok H)
theorem EvA.add {a b:Int} (h1:EvA Γ m led e1 Rep.int a) (h2:EvA Γ m led e2 Rep.int b):EvA Γ m led (.BinOp e1 .Add e2 pos) Rep.int (a+b):=
 EvA.binI h1 h2 fun _ _ _ _ _ _ h=>add_int (h _ _)
theorem EvA.sub {a b:Int} (h1:EvA Γ m led e1 Rep.int a) (h2:EvA Γ m led e2 Rep.int b):EvA Γ m led (.BinOp e1 .Sub e2 pos) Rep.int (a - b):=
 EvA.binI h1 h2 fun _ _ _ _ _ _ h=>sub_int (h _ _)
theorem EvA.or_ {a b:Int} (h1:EvA Γ m led e1 Rep.int a) (h2:EvA Γ m led e2 Rep.int b):EvA Γ m led (.BinOp e1 .BitOr e2 pos) Rep.int (Builtin.bitOr a b):=
 EvA.binI h1 h2 fun _ _ _ _ _ _ h=>or_int (h _ _)
theorem EvA.fdiv {a b:Int} (h1:EvA Γ m led e1 Rep.int a) (h2:EvA Γ m led e2 Rep.int b) (hb:b≠0) (hs:b.natAbs<1073741824):EvA Γ m led (.BinOp e1 .FloorDiv e2 pos) Rep.int (a.fdiv b):=
 EvA.binI h1 h2 fun _ _ s _ _ _ h=>AutoIntOps.floordiv_1 (by exact fun z=>hb (eq_of_beq z)) (by rw[PyProof.noPylong_small hs]; exact Bool.false_ne_true) (h _ _)
theorem EvA.fmod {a b:Int} (h1:EvA Γ m led e1 Rep.int a) (h2:EvA Γ m led e2 Rep.int b) (hb:b≠0):EvA Γ m led (.BinOp e1 .Mod e2 pos) Rep.int (a.fmod b):=
 EvA.binI h1 h2 fun _ _ s _ _ _ h=>AutoIntOps.mod_1 (by exact fun z=>hb (eq_of_beq z)) (h _ _)
theorem EvA.cat (h1:EvA Γ m led e1 (Rep.list A) ys) (h2:EvA Γ m led e2 (Rep.list A) ys') (hz:ys.length+ys'.length≤1000):EvA Γ m led (.BinOp e1 .Add e2 pos) (Rep.list A) (ys++ys'):=
 EvA.bin h1 h2 fun P' k v w Q s ⟨a,vs,nn,ev,g,f⟩ ⟨a',vs',nn',ew,g',f'⟩ H hq=>by
  subst ev ew
  have l1:=f.length
  have l2:=f'.length
  refine PySem.P.add_list (At.sub H _ _ g) (At.sub H _ _ g') ?_ (by rw[sizeLine_eq]; simp only[Array.length_toList] at l1 l2; lia)
  obtain⟨P2,o,k2,ho,⟨vs2,n2,eo,f2⟩,H2⟩:=At.persist (At.push (R:=Asn.list A (ys++ys')) (o:=listOf (vs++vs') 0) H ⟨vs++vs',0,rfl,by rw[Array.toList_append]; exact f.append f'⟩ rfl)
  exact hq P2 _ _ k2 ⟨_,vs2,n2,rfl,eo▸ho,f2⟩ H2
theorem EvA.item {i:Int} (h1:EvA Γ m led e1 (Rep.list A) ys) (h2:EvA Γ m led e2 Rep.int i) (h0:0≤i) (hy:ys[i.toNat]? = some y) (hz:ys.length≤1000)
  (hs:∀o j,subscripted e2 false o j=operate [o,j] (getItem o j)):EvA Γ m led (.Subscript e1 e2 pos) A y:=fun P' k=>
 ⟨fun Q s H h=>Subscript_ ((h1 P' k).run _ s H fun P1 v l s1 k1 ⟨e1,a,vs,nn,ev,g,f⟩ H1=>by
  subst e1 ev
  exact(h2 P1 (k.trans k1)).run _ s1 H1 fun P2 w l s2 k2 ⟨e2,t,ew⟩ H2=>by
   subst e2 ew
   refine E1A2 (f.get' hy) fun u hu hr=>?_
   have hlt:=(List.getElem?_eq_some_iff.mp hy).1
   exact item_listR (IsL.isList (n:=nn) (At.sub H2 _ _ (k2 _ _ g))) h0 (by lia) (by simpa using hu) (h P2 u _ s2 (k1.trans k2) ⟨rfl,A.mono k2 hr⟩ H2) (hs _ _))⟩
end
end
end Mine
namespace Mine
noncomputable section
section
variable {G:Gl} {P:Heap} {nms:List (Str×NameKind)} {n:Nat} {α β:Type} {A:Rep α} {B:Rep β}
structure TstsG {G:Gl} {P:Heap} {nms:List (Str×NameKind)} {n:Nat} (Γ:Cx G P nms n) (m:Str→Option Value) (led:List (Addr×Asn)) (ifs:List Expr) (b:Bool):Prop where
 run:∀(Q:Bool→Shared→Prop) (s:Shared),Γ.at_ m led s→(∀P' s' (k:Sub P P'),(Γ.up k).at_ m led s'→Q b s') →
  Γ.wp (forIn ifs true fun c r=>if r=true then do let ok ←isTrue c Γ.env (eval c Γ.env); pure (ForInStep.yield ok) else pure (ForInStep.yield r)) Q s
theorem TstsG.nil {Γ:Cx G P nms n} {m:Str→Option Value} {led:List (Addr×Asn)}:TstsG Γ m led [] true:=⟨fun _ s H k=>wpAny_tests_nil (k P s (Sub.refl P) H)⟩
theorem TstsG.one {Γ:Cx G P nms n} {m:Str→Option Value} {led:List (Addr×Asn)} {c:Expr} {b:Bool} (h:TsA Γ m led c b):TstsG Γ m led [c] b:=
 ⟨fun _ s H k=>wpAny_tests_one ((h P (Sub.refl P)).run _ s H fun P' l s' kk e H'=>by subst e; exact k P' s' kk H')⟩
theorem EvA.comp {Γ:Cx G P nms n} {m:Str→Option Value} {led:List (Addr×Asn)} {elt iter:Expr} {ifs:List Expr} {scope:Scope} {pos tp:Pos} {tx:Str} {xs:List β} {f:β→Bool} {g:β→α} {S:List (Addr×Asn)→Prop}
  {RL:(List (Addr×Asn)→Prop)→Heap→List (Addr×Asn)→Prop} (W:∀P' (k:Sub P P'),Walk (Γ.up k) m led iter xs.length (PvP B xs) RL)
  (hRL:∀Pin P' l,RL Pin P' l→Pin l∧S l) (hend:∀l,S l→∀X P' s,At G.σ P' (X++l) s→At G.σ P' (X++led) s) (hz:xs.length≤1000)
  (hs:∀env x,foldedSetIterable iter env x=pure x) (hk:scope.kind=.function) (hcell':(scope.names.all fun y=>y.2 != .cell)=true) (hnames':(scope.names.all fun y=>y.2 != .local || scope.names.lookup y.1 == some .local)=true)
  (hfree':((freesOf scope.names).all fun x=>(Γ.own.lookup x).isSome)=true) (hdb:(relab nms scope.names).lookup ("__debug__" : Str)=none) (htl:(relab nms scope.names).lookup tx=some .local)
  (body:∀l1 P1 (k:Sub P P1) (Γc:Cx G P1 (relab nms scope.names) n) mc v it D ys x,S l1→Γc.A=Γ.A→(∀x∈freesOf scope.names,Γc.env.cells.lookup x=Γ.env.cells.lookup x)→x∈xs→B.is P1 x v →
   TstsG Γc (upd mc tx v) (it::(D,Asn.list A ys)::(Γ.fr m++l1)) ifs (f x)∧(f x=true→EvA Γc (upd mc tx v) (it::(D,Asn.list A ys)::(Γ.fr m++l1)) elt A (g x))) :
  EvA Γ m led (.ListComp elt [⟨.Name tx tp,iter,ifs,0⟩] scope pos) (Rep.list A) ((xs.filter f).map g):=fun P0 k0=>EvG.keepL <| by
 have hcell:∀y∈scope.names,y.2≠.cell:=fun y hy e=>by have:=List.all_eq_true.mp hcell' y hy; rw[e] at this; contradiction
 have hnames:∀y∈scope.names,y.2=.local→scope.names.lookup y.1=some .local:=fun y hy e=>by have:=List.all_eq_true.mp hnames' y hy; rw[e] at this; exact beq_iff_eq.mp this
 have hfree:∀x∈scope.names,x.2=.free→(Γ.env.cells.lookup x.1).isSome:=fun x hx e=>by
  have:=List.all_eq_true.mp hfree' x.1 (List.mem_map.mpr ⟨x,List.mem_filter.mpr ⟨hx,by rw[e]; rfl⟩,rfl⟩)
  obtain⟨c,hc⟩:=Option.isSome_iff_exists.mp this
  rw[Γ.ownc _ _ hc]; rfl
 refine E1A2 (closure_ Γ hfree) fun cl hcl hcl2=>?_
 have hT:∀it v,letOwnedTupleGo (.Name tx tp) it v=pure ():=fun _ _=>rfl
 refine⟨fun Q s H hQ=>?_⟩
 show Γ.wp (eval _ _) Q s
 rw[eval_ListComp]
 refine wpAny_comprehension_free (use:=none) rfl (hs _) hcl hk hnames ?_
 refine wpAny_mono ((W P0 k0).run (fun it s₂=>wpAny (model G.prog G.w) Γ.A (newList []) (fun acc s₃=>
   wpAny (model G.prog G.w) Γ.A (newFunctionEnv scope Γ.env.globals cl [] Γ.env.qual none .none (some Γ.env)) (fun cenv s₄=>
    codeAny (model G.prog G.w) Γ.A (.compStart (.ListComp elt [⟨.Name tx tp,iter,ifs,0⟩] scope pos) 0 it acc { cenv with scope:=relabel scope Γ.env }) (compPost (model G.prog G.w) Γ.A (fun _ _=>False) none Q acc cenv.locals) s₄) (fun _ _=>False) s₃) (fun _ _=>False) s₂) s H
  fun I R' need Pin P1 l1 s1 k1 hI hneed hmono hRL1 H1=>?_) (fun _ _ q=>q) fun _ _ q=>q
 obtain⟨hpin,hS⟩:=hRL _ _ _ hRL1
 refine wpAny_newObj_type ?_ (by show(0:Nat)≤_; exact Nat.zero_le _)
 generalize hD:s1.heap.objs.size=D
 have H2:=At.push H1 (R:=Asn.list A []) (o:=listOf #[] 0) ⟨#[],0,rfl,.nil⟩ rfl
 rw[hD] at H2
 refine newEnv_ (Γ:=Γ.up (k0.trans k1)) hcell hk H2 fun C cenv s2 hc H3=>?_
 have hL:cenv.locals=C:=congrArg Env.locals hc
 have hc':({ cenv with scope:=relabel scope Γ.env }:Env)=compEnvC scope cl C Γ.env:=hc
 rw[hc',hL]
 clear hc hc' hL H2 H1
 have fr0:∀mc,frOf C [] mc=[(C,Asn.ns mc)]:=fun mc=>by simp[frOf]
 have loop:∀s',At G.σ P1 ((C,Asn.ns fun _=>none)::(D,Asn.list A [])::(Γ.fr m++(I,R' 0)::l1)) s' →
   codeAny (model G.prog G.w) Γ.A (.compLoop (.ListComp elt [⟨.Name tx tp,iter,ifs,0⟩] scope pos) 0 (.ref I) (.ref D) (compEnvC scope cl C Γ.env)) (compPost (model G.prog G.w) Γ.A (fun _ _=>False) none Q (.ref D) C) s':=by
  intro s' H'
  refine codeAny_loop rfl (fun j s'=>∃i P2 mc,j=xs.length - i∧i≤xs.length∧Sub P1 P2∧At G.σ P2 (frOf C [] mc++(I,R' i)::(D,Asn.list A (((xs.take i).filter f).map g))::(Γ.fr m++l1)) s') (fun j s' hJ=>?_) xs.length
   ⟨0,P1,fun _=>none,rfl,Nat.zero_le _,Sub.refl P1,?_⟩
  ·refine E3A4 (hJ) fun i P2 mc ee14 hi k2 H2=>?_
   clear hJ
   subst ee14
   have hpl:Pin (frOf C [] mc++(I,R' i)::(D,Asn.list A (((xs.take i).filter f).map g))::(Γ.fr m++l1)):=hmono _ _ (fun x hx=>List.mem_append_right _ (.tail _ (.tail _ (List.mem_append_right _ hx)))) hpin
   have hn:=hneed P2 _ _ k2 hpl H2
   show wpAny _ Γ.A ((compTurn (.ListComp elt [⟨.Name tx tp,iter,ifs,0⟩] scope pos) 0 (.ref I) (.ref D) (compEnvC scope cl C Γ.env)).onRaise (fun x=>do noteFrame x (compEnvC scope cl C Γ.env); theTreesLotGoes x)) _ _ s'
   refine wpAny_noted ?_
   rw[compTurn_list]
   refine wpAny_bind (wpAny_standAt (wpAny_bind ?_))
   rcases Nat.lt_or_ge i xs.length with hlt|hge
   ·refine(hI _).item hlt H2 (Upd.pre .head _) hn fun P3 v s3 k3 zz12 H3=>E1A2 zz12 fun x hx hv=>?_
    refine wpAny_bind (wpAny_of_eq (hT _ _) ?_)
    have htk:xs.take (i+1)=xs.take i++[x]:=take_snoc hx
    have hzz:(((xs.take i).filter f).map g).length≤1000:=by
     rw[List.length_map]
     exact Nat.le_trans (List.length_filter_le _ _) (Nat.le_trans (List.length_take_le' ..) hz)
    let Γc:=(Γ.up (k0.trans (k1.trans (k2.trans k3)))).comp scope cl C hk hdb
    refine E0A2 (body l1 P3 (k0.trans (k1.trans (k2.trans k3))) Γc mc v (I,R' (i+1)) D (((xs.take i).filter f).map g) x hS rfl hcl2 (List.mem_of_getElem? hx) hv) fun ht hy=>?_
    refine wpAny_bind ((Asg.name (Γ:=Γc) (m:=mc) htl).run _ _ _ _ Γ.rm.handled H3 fun m'' s5 hK H5=>?_)
    subst hK
    refine wpAny_bind (wpAny_mono (ht.run (fun ok s6=>ok=f x∧∃P4,Sub P3 P4∧At G.σ P4 (frOf C [] (upd mc tx v)++(I,R' (i+1))::(D,Asn.list A (((xs.take i).filter f).map g))::(Γ.fr m++l1)) s6) s5 H5 fun P4 s6 k4 H6=>⟨rfl,P4,k4,H6⟩) (fun ok s6 ⟨e,P4,k4,H6⟩=>?_) fun _ _ (q:False)=>q.elim)
    subst e
    rcases hb:f x with _|_
    ·exact wpAny_pure ⟨rfl,xs.length - (i+1),by exact Nat.sub_succ_lt_self _ _ (by assumption),i+1,P4,_,rfl,hlt,k2.trans (k3.trans k4),by rw[htk,List.filter_append,List.filter_cons,hb]; simpa using H6⟩
    ·
     refine wpAny_bind (wpAny_bind (wpAny_mono ((hy hb P4 k4).run (fun v s7=>wpAny (model G.prog G.w) Γ.A (call (.builtin "list.append") [.ref D,v]) (fun _ s8=>∃j,j<xs.length - i∧∃i P2 mc,j=xs.length - i∧i≤xs.length∧Sub P1 P2∧At G.σ P2 (frOf C [] mc++(I,R' i)::(D,Asn.list A (((xs.take i).filter f).map g))::(Γ.fr m++l1)) s8) (fun _ _=>False) s7) s6 H6
      fun P' v' l s7 k7 zz4 H7=>E0A2 zz4 fun e hv'=>?_) (fun v s7 z=>wpAny_bind (wpAny_mono z (fun _ s8 z=>wpAny_pure (wpAny_pure ⟨rfl,z⟩)) fun _ _ q=>q.elim)) fun _ _ (q:False)=>q.elim))
     subst e
     refine r_append H7 (led':=frOf C [] (upd mc tx v)++(I,R' (i+1))::(D,Asn.list A (((xs.take i).filter f).map g++[g x]))::(Γ.fr m++l1)) (Upd.pre (.tail .head) _) hv' hzz fun s8 H8=>?_
     exact⟨xs.length - (i+1),by exact Nat.sub_succ_lt_self _ _ (by assumption),i+1,P',_,rfl,hlt,k2.trans (k3.trans (k4.trans k7)),by rw[htk,List.filter_append,List.filter_cons,hb]; simpa using H8⟩
   ·have:i=xs.length:=by lia
    subst this
    rw[List.take_length] at H2
    refine(hI _).done Γ.rm.handled (H2.perm List.perm_middle.symm) hn fun s3 H3=>wpAny_pure ?_
    have Hc:At G.σ P2 ((C,Asn.ns mc)::(D,Asn.list A ((xs.filter f).map g))::(Γ.fr m++l1)) s3:=by
     have:=H3
     rw[fr0] at this
     exact this
    refine⟨mc,Hc.ns (.head _),fun h' hs'=>hQ P2 (.ref D) ((D,Asn.list A ((xs.filter f).map g))::led) _ (k1.trans k2) ⟨D,rfl,rfl⟩ ?_⟩
    have Hd:=hend _ hS ((D,Asn.list A ((xs.filter f).map g))::Γ.fr m) _ _ (Hc.extBut (tk:=s3.toks) hs'.extBut)
    exact Hd.perm List.perm_middle
  ·rw[fr0]
   exact H'.perm ((List.Perm.cons _ ((List.Perm.swap _ _ _).trans (List.Perm.cons _ List.perm_middle.symm))))
 refine codeAny_compStart_list (loop s2 H3) ((hI _).self (i:=0) H3 (.tail _ (.tail _ (List.mem_append_right _ (.head _)))) (loop s2 H3))
end
end
end Mine
namespace Mine
noncomputable section
section
variable {prog:Program} {w:World} {σ:Shared} {P:Heap} {led led':List (Addr×Asn)} {s:Shared} {A:Around} {E:Value→Shared→Prop} {β:Type} {db:DecidableEq β} {V:Rep β} {xs ys:List β} {n:Nat} {u v:Value} {I:Addr}
theorem rep_eq {Q:Value→Shared→Prop} (hV:EqR V n) (h1:(Rep.list V).is s.heap xs u) (h2:(Rep.list V).is s.heap ys v) (hu:A.units+n+1<cLine) (h:Q (.bool (decide (xs=ys))) s):wpAny (model prog w) A (compareOp .Eq u v) Q E s:=by
 obtain⟨l,vs,k,rfl,e,fx⟩:=h1
 obtain⟨m,ws,k',rfl,e',fy⟩:=h2
 have lx:=fx.length
 have ly:=fy.length
 by_cases hl:vs.size=ws.size
 ·have:=SeqAt.RcAt.lists (A:=A) (s:=s) (l:=l) (b:=m) ⟨_,e,rfl,_,rfl⟩ ⟨_,e',rfl,_,rfl⟩ hl (by lia) (items_eq hV (A:=A.in1) (by show A.units+1+n<cLine; lia) fx fy)
  have ha:=list_all_eq fx fy (by simp only[Array.length_toList] at lx ly; exact eqs (by assumption) (by assumption) (by assumption))
  rw[Array.length_toList] at ha
  rw[ha] at this
  exact this prog w E Q h
 ·have:=SeqAt.RcAt.lists_lengths (A:=A) (s:=s) (l:=l) (b:=m) ⟨_,e,rfl,_,rfl⟩ ⟨_,e',rfl,_,rfl⟩ (by simpa using hl) (by lia)
  have hne:xs≠ys:=fun c=>hl (by subst c; simp only[Array.length_toList] at lx ly; lia)
  refine this prog w E Q ?_
  rwa [decide_eq_false hne] at h
theorem rep_ne {Q:Value→Shared→Prop} (hV:EqR V n) (h1:(Rep.list V).is s.heap xs u) (h2:(Rep.list V).is s.heap ys v) (hu:A.units+n+1<cLine) (h:Q (.bool (!decide (xs=ys))) s):wpAny (model prog w) A (compareOp .NotEq u v) Q E s:=by
 obtain⟨l,vs,k,rfl,e,fx⟩:=h1
 obtain⟨m,ws,k',rfl,e',fy⟩:=h2
 have lx:=fx.length
 have ly:=fy.length
 by_cases hl:vs.size=ws.size
 ·have:=SeqAt.RcNeAt.lists (A:=A) (s:=s) (l:=l) (b:=m) ⟨_,e,rfl,_,rfl⟩ ⟨_,e',rfl,_,rfl⟩ hl (by lia) (items_eq hV (A:=A.in1) (by show A.units+1+n<cLine; lia) fx fy)
  have ha:=list_all_eq fx fy (by simp only[Array.length_toList] at lx ly; exact eqs (by assumption) (by assumption) (by assumption))
  rw[Array.length_toList] at ha
  rw[ha] at this
  exact this prog w E Q h
 ·have:=SeqAt.RcNeAt.lists_lengths (A:=A) (s:=s) (l:=l) (b:=m) ⟨_,e,rfl,_,rfl⟩ ⟨_,e',rfl,_,rfl⟩ (by simpa using hl) (by lia)
  have hne:xs≠ys:=fun c=>hl (by subst c; simp only[Array.length_toList] at lx ly; lia)
  refine this prog w E Q ?_
  rwa [decide_eq_false hne] at h
theorem ints_are {h:Heap}:∀ {ns:List Int} {vs:List Value},F2 (Rep.int.is h) ns vs→IntsAre vs ns
 | _,_,.nil=>.nil
 | _,_,.cons ⟨t,e⟩ f=>e▸.cons _ t (ints_are f)
theorem rep_sum {ns:List Int} {Q:Value→Shared→Prop} (hh:A.handled=none) (H:At σ P led s) (h1:(Rep.list Rep.int).is P ns u) (h:∀t s',At σ P led s'→Q (.int ns.sum t) s'):wpAny (model prog w) A (call (.builtin "sum") [u]) Q E s:=by
 refine E3A3 (h1) fun l vs k ee61 e f=>?_
 clear h1
 subst ee61
 have hi:=ints_are f
 refine E1A1 (hi.allInts.items) fun xs hx=>?_
 have hx':vs=intItems xs:=by exact hx
 refine sum_intListG (xs:=xs) hh ⟨_,H.sub _ _ e,rfl,_,by rw[hx']⟩ fun h' tk t' hk=>?_
 have hs:preSum (numAt xs) xs.size=ns.sum:=by
  rw[preSum_eq,List.take_of_length_le (by simp),←nums_intItems xs,←hx',hi.numsOf]
 rw[hs]
 exact h _ _ (H.grow hk)
noncomputable def rng (n:Nat):List Int:=(List.range n).map fun i:Nat=>(i:Int)
theorem rng_len (n:Nat):(rng n).length=n:=by simp[rng]
theorem rng_at {n i:Nat} (h:i<n):(rng n)[i]? = some (i:Int):=by simp[rng,h]
noncomputable def RangeIt (n i:Nat):Asn:=⟨fun _ o=>o={ cls:=.type "range_iterator",dict:=none,data:=.fields #[rawInt (i:Int),rawInt ((n:Int) - i),rawInt 1],slots:=#[] },fun _ h=>h⟩
theorem It.range:It prog w σ I (rng n).length (RangeIt n) (fun _ _=>True) (PvP Rep.int (rng n)) where
 item:=fun {A E P led led' s Q i} hi H U hn h=>by
  rw[rng_len] at hi
  refine E1A2 (H.ld.get U.mem) fun o ho ee51=>?_
  subst ee51
  refine wpAny_pyNext_range_item ho (by lia) fun h' hit hs=>?_
  have e1:(i:Int)+1=((i+1:Nat):Int):=by lia
  have e2:(n:Int) - i - 1=(n:Int) - ((i+1:Nat):Int):=by lia
  simp only[e1,e2] at hit
  exact h P _ _ (Sub.refl P) ⟨i,rng_at hi,_,rfl⟩ (H.upd (tk:=s.toks+1) U hs ⟨_,hit,rfl⟩)
 done:=fun {A E P led s Q} hh H hn h=>by
  rw[rng_len] at H
  refine E1A2 (H.ld.get (.head _)) fun o ho ee45=>?_
  subst ee45
  exact wpAny_pyNext_range_end hh ho (by lia) fun h' he=>h _ (H.extBut (tk:=s.toks) he)
 go:=fun {A E P led s Q i elts k pos v} H hm h=>by
  refine E1A2 (H.ld.get hm) fun o ho ee38=>?_
  subst ee38
  exact go_none ho rfl rfl (by decide) (h s H)
 self:=fun {A E P led s Q i} H hm h=>by
  refine E1A2 (H.ld.get hm) fun o ho ee30=>?_
  subst ee30
  have hT:s.TypeIs (.ref I) "range_iterator":=⟨_,ho,rfl⟩
  refine wpAny_pyIter_slot hT F.slot_range_iterator_iter (wpAny_call_entry F.slot_range_iterator_iter hT F.entry_range_iterator_iter ?_ (F.args_range_iterator_iter_1 _))
  exact wpAny_pure ⟨_,rfl,"range_iterator",_,hT,F.slot_range_iterator_next.lookup,h⟩
 nmono:=fun _ _=>trivial
 rfree:=fun h=>h
noncomputable def Rep.range:Rep Nat:=⟨fun P n v=>∃r t u q,v=.ref r∧P.get? r=some { cls:=.type "range",dict:=none,data:=.fields #[.int 0 t,.int n u,.int 1 q],slots:=#[] },fun k zz21=>E4A2 zz21 fun r t u q e g=>⟨r,t,u,q,e,k _ _ g⟩⟩
theorem i_range {Q:Value→Shared→Prop} (H:At σ P led s) (h1:Rep.range.is P n u) (hz:n≤1000) (h:∀I s',At σ P ((I,RangeIt n 0)::led) s'→Q (.ref I) s'):wpAny (model prog w) A (pyIter u) Q E s:=by
 refine E4A2 (h1) fun r t u q ee10 g=>?_
 clear h1
 subst ee10
 have hn:Builtin.Range.rangeSize 0 (n:Int) 1=(n:Int) - ((0:Nat):Int):=by rw[rangeSize_one]; split <;> lia
 refine wpAny_pyIter_range (H.sub _ _ g) (small_one (by decide) (by decide) (by exact Int.ofNat_nonneg _) (by lia)) (h _ _ (At.push H ?_ rfl))
 rw[hn]; rfl
theorem r_dget {κ β:Type} {di:DecidableEq κ} {D:DKind prog w κ} {V:Rep β} {ps:List (κ×β)} {k:κ} {key dflt:Value} {d:Addr} {ep:Option Nat} {K:Frag} {b:β} {Q:Value→Shared→Prop} (H:At σ P led s) (X:Src K P) (hm:(d,Asn.dictX D V ps ep)∈led) (hu:A.units+1<cLine) (hk:D.rep.is P k key) (hd:V.is P b dflt)
  (h:∀u s',V.is P ((look ps k).getD b) u→At σ P led s'→Q u s'):wpAny (model prog w) A (call (.builtin "dict.get") [.ref d,key,dflt]) Q E s:=by
 refine wpAny_call_entry F.slot_dict_get (H.dictT hm) F.entry_dict_get ?_ (F.args_dict_get_3 _ _ _)
 show wpAny _ _ (dictGet d key >>= _) _ _ s
 refine wpAny_bind (dictGet_ H hm (by show A.units+1<cLine; exact(by assumption)) hk fun tk r hr=>?_)
 rcases hl:look ps k with _|b'
 rotate_left
 ·
  rw[hl] at hr h
  rcases r with _|u
  ·exact hr.elim
  ·exact wpAny_pure ⟨u,rfl,h u _ hr H.tok⟩
 ·
  rw[hl] at hr h
  rcases r with _|u
  rotate_left
  ·exact hr.elim
  ·
   exact wpAny_bind (wpAny_missed_other (H.noSys X hm) (wpAny_pure ⟨dflt,rfl,h dflt _ hd H.tok⟩))
end
end
end Mine
namespace Mine
noncomputable section
section
variable {G:Gl} {P P':Heap} {nms:List (Str×NameKind)} {n:Nat} {Γ:Cx G P nms n} {m:Str→Option Value} {led led':List (Addr×Asn)} {e e1 e2 e3 iter:Expr} {es:List Expr} {x a:Str} {v:Value} {pos p1 p2 pf:Pos}
 {α β γ κ:Type} {A:Rep α} {B:Rep β} {C:Rep γ} {y:α} {z:β} {u:γ} {xs ys:List α} {op:CmpOp} {c c':Bool} {di:DecidableEq κ} {D:DKind G.prog G.w κ} {V:Rep β} {ps qs:List (κ×β)} {k:κ} {d d':Addr} {ep ep':Option Nat}
theorem EvA.callT {T:String} (hf:∀P' (k:Sub P P'),Ev (Γ.up k) m led (.Name x pf) (Is (.type T))) (h1:EvA Γ m led e A y)
  (h2:∀P' (k:Sub P P') v (Q:Value→Shared→Prop) (s:Shared),A.is P' y v→(Γ.up k).at_ m led s→(∀P'' v' s' (k':Sub P' P''),C.is P'' u v'→((Γ.up k).up k').at_ m led s'→Q v' s')→Γ.wp (call (.type T) [v]) Q s)
  (he:∀env,eval (.Call (.Name x pf) [e] [] pos) env=(do callWith pos (←eval (.Name x pf) env) [] (backTo pos (starEach [e] env)) (backToKw pos (keywordEach [] env))))
  (hs:∀env,starEach [e] env=(false,eval e env)::starEach [] env):EvA Γ m led (.Call (.Name x pf) [e] [] pos) C u:=fun P' k=>
 EvG.callT1 (hf P' k) (h1 P' k) (fun P1 k1 v l Q s zz374 H hq=>E0A2 zz374 fun e1 hv=>by
  subst e1
  exact h2 P1 (k.trans k1) v Q s hv H fun P2 v' s' k2 hv' H'=>hq P2 v' _ s' k2 ⟨rfl,hv'⟩ H') he hs
theorem EvA.callB {id:String} (hf:∀P' (k:Sub P P'),Ev (Γ.up k) m led (.Name x pf) (Is (.builtin id))) (h1:EvA Γ m led e A y)
  (h2:∀P' (k:Sub P P') v (Q:Value→Shared→Prop) (s:Shared),A.is P' y v→(Γ.up k).at_ m led s→(∀P'' v' s' (k':Sub P' P''),C.is P'' u v'→((Γ.up k).up k').at_ m led s'→Q v' s')→Γ.wp (call (.builtin id) [v]) Q s)
  (he:∀env,eval (.Call (.Name x pf) [e] [] pos) env=(do callWith pos (←eval (.Name x pf) env) [] (backTo pos (starEach [e] env)) (backToKw pos (keywordEach [] env))))
  (hs:∀env,starEach [e] env=(false,eval e env)::starEach [] env):EvA Γ m led (.Call (.Name x pf) [e] [] pos) C u:=fun P' k=>
 EvG.callB1 (hf P' k) (h1 P' k) (fun P1 k1 v l Q s zz369 H hq=>E0A2 zz369 fun e1 hv=>by
  subst e1
  exact h2 P1 (k.trans k1) v Q s hv H fun P2 v' s' k2 hv' H'=>hq P2 v' _ s' k2 ⟨rfl,hv'⟩ H') he hs
theorem EvA.lenL (hf:∀P' (k:Sub P P'),Ev (Γ.up k) m led (.Name x pf) (Is (.builtin "len"))) (h1:EvA Γ m led e (Rep.list A) ys) (hz:ys.length≤1000)
  (he:∀env,eval (.Call (.Name x pf) [e] [] pos) env=(do callWith pos (←eval (.Name x pf) env) [] (backTo pos (starEach [e] env)) (backToKw pos (keywordEach [] env))))
  (hs:∀env,starEach [e] env=(false,eval e env)::starEach [] env):EvA Γ m led (.Call (.Name x pf) [e] [] pos) Rep.int ys.length:=
 EvA.callB hf h1 (fun P' k v Q s zz363 H hq=>E3A3 zz363 fun l vs nn ev g f=>by
  subst ev
  have hl:ys.length=vs.size:=by have:=f.length; exact this
  refine PyProof.Rows.len_list ⟨_,At.sub H _ _ g,rfl,_,rfl⟩ (by rw[←hl]; lia) ?_
  rw[←hl]
  exact hq P' _ _ (Sub.refl P') ⟨_,rfl⟩ (At.tok H)) he hs
theorem EvA.sum {ns:List Int} (hf:∀P' (k:Sub P P'),Ev (Γ.up k) m led (.Name x pf) (Is (.builtin "sum"))) (h1:EvA Γ m led e (Rep.list Rep.int) ns)
  (he:∀env,eval (.Call (.Name x pf) [e] [] pos) env=(do callWith pos (←eval (.Name x pf) env) [] (backTo pos (starEach [e] env)) (backToKw pos (keywordEach [] env))))
  (hs:∀env,starEach [e] env=(false,eval e env)::starEach [] env):EvA Γ m led (.Call (.Name x pf) [e] [] pos) Rep.int ns.sum:=
 EvA.callB hf h1 (fun P' k v Q s hv H hq=>rep_sum Γ.rm.handled (H:At _ _ _ _) hv fun t s' H'=>hq P' _ s' (Sub.refl P') ⟨t,rfl⟩ H') he hs
theorem EvA.range {i:Nat} (hf:∀P' (k:Sub P P'),Ev (Γ.up k) m led (.Name x pf) (Is (.type "range"))) (h1:EvA Γ m led e Rep.int i)
  (he:∀env,eval (.Call (.Name x pf) [e] [] pos) env=(do callWith pos (←eval (.Name x pf) env) [] (backTo pos (starEach [e] env)) (backToKw pos (keywordEach [] env))))
  (hs:∀env,starEach [e] env=(false,eval e env)::starEach [] env):EvA Γ m led (.Call (.Name x pf) [e] [] pos) Rep.range i:=
 EvA.callT hf h1 (fun P' k v Q s zz356 H hq=>E1A1 zz356 fun t ev=>by
  subst ev
  refine call_range_1 ?_
  refine E2A4 (At.persist (At.push (R:=Asn.eq { cls:=.type "range",data:=.fields #[.int 0 s.toks,.int i t,.int 1 (s.toks+1)] }) H rfl rfl)) fun P2 o k2 ho eo H2=>?_
  have eo:o=_:=eo
  exact hq P2 _ _ k2 ⟨_,_,_,_,rfl,eo▸ho⟩ (At.tok H2)) he hs
theorem EvA.max2 {i j:Int} (hf:∀P' (k:Sub P P'),Ev (Γ.up k) m led (.Name x pf) (Is (.builtin "max"))) (h1:EvA Γ m led e1 Rep.int i) (h2:EvA Γ m led e2 Rep.int j)
  (he:∀env,eval (.Call (.Name x pf) [e1,e2] [] pos) env=(do callWith pos (←eval (.Name x pf) env) [] (backTo pos (starEach [e1,e2] env)) (backToKw pos (keywordEach [] env))))
  (hs:∀env,starEach [e1,e2] env=(false,eval e1 env)::starEach [e2] env) (hs':∀env,starEach [e2] env=(false,eval e2 env)::starEach [] env):EvA Γ m led (.Call (.Name x pf) [e1,e2] [] pos) Rep.int (max i j):=fun P' k=>
 ⟨fun Q s H h=>Call_ ((hf P' k).run _ s H fun u s1 hu H1=>by
  subst hu
  refine PyProof.Rows.callWith_builtin1 (spliced_more ((h1 P' k).run _ s1 H1 fun P1 v l s2 k1 ⟨e1,t,ev⟩ H2=>?_) (hs _)) (hs _) (by rw[hs']; rfl)
  subst e1 ev
  refine spliced_more ((h2 P1 (k.trans k1)).run _ s2 H2 fun P2 v l s3 k2 ⟨e2,t',ew⟩ H3=>?_) (hs' _)
  subst e2 ew
  refine spliced_none (max_two_ints Γ.rm.handled fun h' tk hk=>h P2 _ _ _ (k1.trans k2) ⟨rfl,?_⟩ (At.grow H3 hk))
  by_cases c:j>i
  ·rw[if_pos c]; exact⟨t',by rw[Int.max_eq_right (by exact Int.le_of_lt (by assumption))]⟩
  ·rw[if_neg c]; exact⟨t,by rw[Int.max_eq_left (by lia)]⟩) (he _)⟩
theorem Walk.conv {led0:List (Addr×Asn)} {N N':Nat} {Pv Pv':Heap→Nat→Value→Prop} {RL RL':(List (Addr×Asn)→Prop)→Heap→List (Addr×Asn)→Prop} (W:Walk Γ m led0 iter N Pv RL) (hN:N'=N) (hP:∀P i v,Pv P i v→Pv' P i v) (hR:∀Pin P l,RL Pin P l→RL' Pin P l):Walk Γ m led0 iter N' Pv' RL':=
 hN▸⟨fun Q s H h=>W.run Q s H fun I R need Pin P' led s' k hI hn hm hr H'=>h I R need Pin P' led s' k
  (fun σ'=>{ hI σ' with item:=fun hi H U hn h=>(hI σ').item hi H U hn fun P' v s' k hv H'=>h P' v s' k (hP _ _ _ hv) H' }) hn hm (hR _ _ _ hr) H'⟩
noncomputable abbrev RLc (led:List (Addr×Asn)):(List (Addr×Asn)→Prop)→Heap→List (Addr×Asn)→Prop:=fun Pin _ l=>Pin l∧l=led
noncomputable abbrev RLt (led:List (Addr×Asn)):(List (Addr×Asn)→Prop)→Heap→List (Addr×Asn)→Prop:=fun Pin _ l=>Pin=(fun _=>True)∧l=led
theorem Walk.lstT (h1:EvA Γ m led iter (Rep.list A) xs):Walk Γ m led iter xs.length (PvP A xs) (RLt led):=
 ⟨fun Q s H h=>h1.now.run _ s H fun P1 v l s1 k1 ⟨e1,a,vs,nn,ev,hP,hvs⟩ H1=>by
  subst e1 ev
  exact i_list (H1:At _ _ _ _) ⟨vs,nn,H1.sub _ _ hP,hvs⟩ fun I s2 H3=>h I _ (needL a A xs) (fun _=>True) P1 _ s2 k1 (fun _=>It.list) (fun P'' led'' s'' k _ H'=>⟨vs,nn,H'.sub _ _ (k _ _ hP),hvs.imp fun _ _=>A.mono k⟩) (fun _ _ _ _=>trivial) ⟨rfl,rfl⟩ (H3.perm List.perm_middle)⟩
theorem Walk.lst (h1:EvA Γ m led iter (Rep.list A) xs):Walk Γ m led iter xs.length (PvP A xs) (RLc led):=(Walk.lstT h1).conv rfl (fun _ _ _ h=>h) fun _ _ _ h=>⟨by rw[h.1]; trivial,h.2⟩
theorem Walk.rngT {i:Nat} (h1:EvA Γ m led iter Rep.range i) (hz:i≤1000):Walk Γ m led iter (rng i).length (PvP Rep.int (Mine.rng i)) (RLt led):=
 ⟨fun Q s H h=>h1.now.run _ s H fun P1 v l s1 k1 zz319 H1=>E0A2 zz319 fun e1 hv=>by
  subst e1
  exact i_range (H1:At _ _ _ _) hv hz fun I s2 H3=>h I _ (fun _ _=>True) (fun _=>True) P1 _ s2 k1 (fun _=>It.range) (fun _ _ _ _ _ _=>trivial) (fun _ _ _ _=>trivial) ⟨rfl,rfl⟩ (H3.perm List.perm_middle)⟩
theorem Walk.rng {i:Nat} (h1:EvA Γ m led iter Rep.range i) (hz:i≤1000):Walk Γ m led iter (rng i).length (PvP Rep.int (Mine.rng i)) (RLc led):=(Walk.rngT h1 hz).conv rfl (fun _ _ _ h=>h) fun _ _ _ h=>⟨by rw[h.1]; trivial,h.2⟩
theorem EvA.pair {kk:Nat} (h1:EvA Γ m led e1 A y) (h2:EvA Γ m led e2 B z) (hs1:∀env,starEach [e1,e2] env=(false,eval e1 env)::starEach [e2] env) (hs2:∀env,starEach [e2] env=(false,eval e2 env)::starEach [] env):EvA Γ m led (.Tuple [e1,e2] kk pos) (Rep.pair A B) (y,z):=fun P' k=>
 EvV.pair (h1 P' k) (fun P2 k2=>h2 P2 (k.trans k2)) hs1 hs2
theorem TsA.of_ev (h:EvA Γ m led e Rep.bool c) (hp:∀env whole,isTrue e env whole=(do let v ←whole; standAt e.pos; holding [v] (truthy v))):TsA Γ m led e c:=fun P' k=>
 TstG.of_ev (EvG.imp (h P' k) fun _ _ _ _ zz310=>E0A2 zz310 fun e1 e2=>⟨e2,e1⟩) hp
theorem TsA.cmp (h1:EvA Γ m led e1 A y) (h2:EvA Γ m led e2 B z)
  (h3:∀P' (k:Sub P P') v w (Q:Value→Shared→Prop) (s:Shared),A.is P' y v→B.is P' z w→(Γ.up k).at_ m led s→(∀s',(Γ.up k).at_ m led s'→Q (.bool c) s')→Γ.wp (compareOp op v w) Q s)
  (hb:behindInMarks op e2=false):TsA Γ m led (.Compare e1 [op] [e2] pos) c:=fun P' k=>
 TstG.cmp (R2:=fun P'' v w l=>l=led∧A.is P'' y v∧B.is P'' z w) (h1 P' k) (fun P1 k1 v l zz300=>E0A2 zz300 fun e1 hv=>by subst e1; exact EvG.imp (h2 P1 (k.trans k1)) fun P2 w l' k2 zz289=>E0A2 zz289 fun e2 hw=>⟨e2,A.mono k2 hv,hw⟩)
  (fun P1 k1 v w l Q s zz277 H hq=>E0A3 zz277 fun e1 hv hw=>by
   subst e1
   exact h3 P1 (k.trans k1) v w Q s hv hw H fun s' H'=>hq P1 _ s' (Sub.refl P1) rfl H') hb
theorem EvA.cmp (h1:EvA Γ m led e1 A y) (h2:EvA Γ m led e2 B z)
  (h3:∀P' (k:Sub P P') v w (Q:Value→Shared→Prop) (s:Shared),A.is P' y v→B.is P' z w→(Γ.up k).at_ m led s→(∀s',(Γ.up k).at_ m led s'→Q (.bool c) s')→Γ.wp (compareOp op v w) Q s)
  (hb:behindInMarks op e2=false):EvA Γ m led (.Compare e1 [op] [e2] pos) Rep.bool c:=fun P' k=>
 EvG.cmp (R2:=fun P'' v w l=>l=led∧A.is P'' y v∧B.is P'' z w) (h1 P' k) (fun P1 k1 v l zz264=>E0A2 zz264 fun e1 hv=>by subst e1; exact EvG.imp (h2 P1 (k.trans k1)) fun P2 w l' k2 zz250=>E0A2 zz250 fun e2 hw=>⟨e2,A.mono k2 hv,hw⟩)
  (fun P1 k1 v w l Q s zz235 H hq=>E0A3 zz235 fun e1 hv hw=>by
   subst e1
   exact h3 P1 (k.trans k1) v w Q s hv hw H fun s' H'=>hq P1 _ _ s' (Sub.refl P1) ⟨rfl,rfl⟩ H') hb
theorem TsA.cmpI {i j:Int} (h1:EvA Γ m led e1 Rep.int i) (h2:EvA Γ m led e2 Rep.int j) (hc:Mine.cmpI op i j=some c) (hb:behindInMarks op e2=false):TsA Γ m led (.Compare e1 [op] [e2] pos) c:=
 TsA.cmp h1 h2 (fun P' k v w Q s zz218 zz219 H hq=>E1A1 zz218 fun t ev=>E1A1 zz219 fun t' ew=>by
  subst ev ew
  exact cmpI_run hc (hq s H)) hb
theorem TsA.lne {dA:DecidableEq α} {q:Nat} (hV:EqR A q) (hq:q≤3) (h1:EvA Γ m led e1 (Rep.list A) xs) (h2:EvA Γ m led e2 (Rep.list A) ys) (hc:(!decide (xs=ys))=c) (hb:behindInMarks .NotEq e2=false):TsA Γ m led (.Compare e1 [.NotEq] [e2] pos) c:=
 TsA.cmp h1 h2 (fun P' k v w Q s hv hw H hQ=>rep_ne hV ((Rep.list A).mono (At.sub H) hv) ((Rep.list A).mono (At.sub H) hw) (by have:=Γ.rm.units; unfold cLine; exact un1 (by assumption) (by assumption)) (hc▸hQ s H)) hb
theorem EvA.leq {dA:DecidableEq α} {q:Nat} (hV:EqR A q) (hq:q≤3) (h1:EvA Γ m led e1 (Rep.list A) xs) (h2:EvA Γ m led e2 (Rep.list A) ys) (hc:decide (xs=ys)=c) (hb:behindInMarks .Eq e2=false):EvA Γ m led (.Compare e1 [.Eq] [e2] pos) Rep.bool c:=
 EvA.cmp h1 h2 (fun P' k v w Q s hv hw H hQ=>rep_eq hV ((Rep.list A).mono (At.sub H) hv) ((Rep.list A).mono (At.sub H) hw) (by have:=Γ.rm.units; unfold cLine; exact un1 (by assumption) (by assumption)) (hc▸hQ s H)) hb
theorem TsA.notin (h1:EvA Γ m led e1 D.rep k) (h2:EvA Γ m led e2 Rep.val (.ref d)) (hm:(d,Asn.dictX D V ps ep)∈led) (hc:(!(look ps k).isSome)=c) (hb:behindInMarks .NotIn e2=false):TsA Γ m led (.Compare e1 [.NotIn] [e2] pos) c:=
 TsA.cmp h1 h2 (fun P' k' v w Q s hv hw H hQ=>by
  have hw:w=.ref d:=hw
  subst hw
  exact r_notin (H:At _ _ _ _) (Γ.up k').src (Γ.tl hm) Γ.rm.c1 hv fun s' H'=>hc▸hQ s' H') hb
theorem TsA.orF (h1:TsA Γ m led e1 false) (h2:TsA Γ m led (.BoolOp .Or es pos) c):TsA Γ m led (.BoolOp .Or (e1::es) pos) c:=fun P' k=>TstG.orF (h1 P' k) fun P1 k1 l e=>e▸h2 P1 (k.trans k1)
theorem TsA.orN:TsA Γ m led (.BoolOp .Or [] pos) false:=fun P' k=>TstG.imp TstG.orN fun _ _ _ zz201=>E0A2 zz201 fun _ e=>e
theorem TsA.not (h:TsA Γ m led e c):TsA Γ m led (.UnaryOp .Not e pos) (!c):=fun P' k=>TstG.not (h P' k)
theorem EvA.subD (h1:EvA Γ m led e1 Rep.val (.ref d)) (hm:(d,Asn.dictX D V ps ep)∈led) (h2:EvA Γ m led e2 D.rep k) {b:β} (hb:look ps k=some b)
  (hs:∀o i,subscripted e2 false o i=operate [o,i] (getItem o i)):EvA Γ m led (.Subscript e1 e2 pos) V b:=fun P' k'=>
 ⟨fun Q s H h=>Subscript_ ((h1 P' k').run _ s H fun P1 v l s1 k1 zz182 H1=>E0A2 zz182 fun e1 ev=>by
  have ev:v=.ref d:=ev
  subst e1 ev
  exact(h2 P1 (k'.trans k1)).run _ s1 H1 fun P2 i l s2 k2 zz162 H2=>E0A2 zz162 fun e2 hi=>by
   subst e2
   exact r_subdict (H2:At _ _ _ _) (Γ.tl hm) Γ.rm.c1 hi hb (fun u s' hu H'=>h P2 u _ s' (k1.trans k2) ⟨rfl,hu⟩ H') (hs _ _))⟩
theorem EvA.lenD (hf:∀P' (k:Sub P P'),Ev (Γ.up k) m led (.Name x pf) (Is (.builtin "len"))) (h1:EvA Γ m led e Rep.val (.ref d)) (hm:(d,Asn.dictX D V ps ep)∈led) (hz:ps.length≤1000)
  (he:∀env,eval (.Call (.Name x pf) [e] [] pos) env=(do callWith pos (←eval (.Name x pf) env) [] (backTo pos (starEach [e] env)) (backToKw pos (keywordEach [] env))))
  (hs:∀env,starEach [e] env=(false,eval e env)::starEach [] env):EvA Γ m led (.Call (.Name x pf) [e] [] pos) Rep.int ps.length:=
 EvA.callB hf h1 (fun P' k v Q s hv H hq=>by
  have hv:v=.ref d:=hv
  subst hv
  exact r_dictlen (Γ.up k).src (H:At _ _ _ _) (Γ.tl hm) hz fun t s' H'=>hq P' _ s' (Sub.refl P') ⟨t,rfl⟩ H') he hs
theorem EvA.dget {pl:Sem Bool} {b:β} (h1:EvA Γ m led e1 Rep.val (.ref d)) (hm:(d,Asn.dictX D V ps ep)∈led) (h2:EvA Γ m led e2 D.rep k) (h3:EvA Γ m led e3 V b)
  (he:eval (.Call (.Attribute e1 "get" p1) [e2,e3] [] pos) Γ.env=(do
   let ov ←eval e1 Γ.env
   standAt p1.atName
   let (f,first) ←holding [ov] (getMethod ov "get" pl)
   callWith pos f first (backTo pos (starEach [e2,e3] Γ.env)) [])) (hs:∀env,starEach [e2,e3] env=(false,eval e2 env)::starEach [e3] env) (hs':∀env,starEach [e3] env=(false,eval e3 env)::starEach [] env) :
  EvA Γ m led (.Call (.Attribute e1 "get" p1) [e2,e3] [] pos) V ((look ps k).getD b):=fun P' k'=>
 EvG.m2 (id:="dict.get") (pl:=pl) (R1:=fun P' v l=>l=led∧Rep.val.is P' (.ref d) v) (R2:=fun P' v u l=>v=.ref d∧l=led∧D.rep.is P' k u) (R3:=fun P' v u w l=>v=.ref d∧l=led∧D.rep.is P' k u∧V.is P' b w) (h1 P' k')
  (fun P1 k1 v l Q s zz141 H hq=>E0A2 zz141 fun e1 ev=>by
   have ev:v=.ref d:=ev
   subst e1 ev
   exact m_dict (H:At _ _ _ _) (Γ.tl hm) F.slot_dict_get F.type_dict_get hq)
  (fun P1 k1 v l ⟨e1,ev⟩=>by subst e1; exact EvG.imp (h2 P1 (k'.trans k1)) fun P2 u l' _ zz98=>E0A2 zz98 fun e2 hu=>⟨ev,e2,hu⟩)
  (fun P1 k1 v u l zz75=>E0A3 zz75 fun ev e1 hu=>by subst e1; exact EvG.imp (h3 P1 (k'.trans k1)) fun P2 w l' k2 zz51=>E0A2 zz51 fun e2 hw=>⟨ev,e2,D.rep.mono k2 hu,hw⟩)
  (fun P1 k1 v u w l Q s zz26 H hq=>E0A4 zz26 fun ev e1 hu hw=>by
   subst ev e1
   exact r_dget (H:At _ _ _ _) ((Γ.up k').up k1).src (Γ.tl hm) Γ.rm.c1 hu hw fun r s' hr H'=>hq P1 r _ s' (Sub.refl P1) ⟨rfl,hr⟩ H') he hs hs'
end
end
end Mine
namespace Mine
set_option maxHeartbeats 1000000
noncomputable section
noncomputable def Rep.nat:Rep Nat:=⟨fun _ n v=>∃t,v=.int (n:Int) t,fun _ h=>h⟩
theorem bitOr_nat (a b:Nat):Builtin.bitOr (a:Int) (b:Int)=((a ||| b:Nat):Int):=by
 have e1:decide ((0:Int)≤-(a:Int) - 1)=false:=decide_eq_false (by lia)
 have e2:decide ((0:Int)≤-(b:Int) - 1)=false:=decide_eq_false (by lia)
 have f1:(-(-(a:Int) - 1) - 1).toNat=a:=by lia
 have f2:(-(-(b:Int) - 1) - 1).toNat=b:=by lia
 unfold Builtin.bitOr Builtin.bitAnd Builtin.bitNot
 rw[e1,e2]
 dsimp only
 rw[f1,f2]
 lia
section
variable {G:Gl} {P P':Heap} {nms:List (Str×NameKind)} {n:Nat} {Γ:Cx G P nms n} {m:Str→Option Value} {led led' l1:List (Addr×Asn)} {e e1 e2 e3:Expr} {es:List Expr} {x:Str} {v:Value} {pos p1:Pos}
 {rest:List Stmt} {Q:Flow→Shared→Prop} {α β κ:Type} {A:Rep α} {y:α} {ys:List α} {di:DecidableEq κ} {D:DKind G.prog G.w κ} {V:Rep β} {ps:List (κ×β)} {k:κ} {b:β} {d c:Addr}
theorem EvA.ofNat {i:Nat} (h:EvA Γ m led e Rep.nat i):EvA Γ m led e Rep.int i:=h
theorem EvA.toNat {i:Int} {j:Nat} (h:EvA Γ m led e Rep.int i) (hj:i=(j:Int)):EvA Γ m led e Rep.nat j:=by subst hj; exact h
noncomputable def EvsA {G:Gl} {P:Heap} {nms:List (Str×NameKind)} {n:Nat} {α:Type} (Γ:Cx G P nms n) (m:Str→Option Value) (led:List (Addr×Asn)) (es:List Expr) (A:Rep α) (ys:List α):Prop:=∀P' (k:Sub P P'),EvsV (Γ.up k) m led es A ys
theorem EvsA.nil:EvsA Γ m led [] A []:=fun _ _=>EvsV.nil
theorem EvsA.cons (h1:EvA Γ m led e A y) (hs:∀env,starEach (e::es) env=(false,eval e env)::starEach es env) (h2:EvsA Γ m led es A ys):EvsA Γ m led (e::es) A (y::ys):=fun P' k=>
 EvsV.cons (h1 P' k) hs fun P2 k2=>h2 P2 (k.trans k2)
theorem EvA.list (h:EvsA Γ m led es A ys) (hz:ys.length≤1000):EvA Γ m led (.List es pos) (Rep.list A) ys:=fun P' k=>EvG.keepL (EvG.list (h P' k) hz)
theorem St.setitemA (h3:EvA Γ m led e V b) (h1:∀P' (kk:Sub P P'),Ev (Γ.up kk) m led e1 (Is (.ref d))) (h2:∀P' (kk:Sub P P'),Ev (Γ.up kk) m led e2 (D.rep.is P' k)) (U:Upd d (Asn.dict D V ps) (Asn.dict D V (put ps k b)) led led') (hz:ps.length≤1000)
  (hw:∀env,swapsWith e (some (.Subscript e1 e2 p1)) pos.line env=pure false) (h:∀P' (kk:Sub P P'),St (Γ.up kk) m led' rest Q):St Γ m led (.Assign [.Subscript e1 e2 p1] e pos::rest) Q:=
 St.setitemG h3.now (fun P' v l kk zz7=>E0A2 zz7 fun e1 hv=>by
  subst e1
  exact⟨κ,β,di,D,V,ps,k,b,d,led',h1 P' kk,U,h2 P' kk,hv,hz,h P' kk⟩) hw
theorem St.retA (h1:EvA Γ m led e A y) (h:∀P' v s' (k:Sub P P'),A.is P' y v→(Γ.up k).at_ m led s'→Q (.ret v) s'):St Γ m led (.Return (some e) pos::rest) Q:=
 St.retG h1.now fun P' v l s' k zz6 H=>E0A2 zz6 fun e1 hv=>by subst e1; exact h P' v s' k hv H
theorem Cx.ownIn (h:Γ.own.lookup x=some c) (hv:m x=some v):(c,Asn.cell (some v))∈Γ.fr m:=by
 refine .tail _ ?_
 have:∀l:List (Str×Addr),l.lookup x=some c→(x,c)∈l:=fun l=>by
  induction l with
  | nil=>intro e; contradiction
  | cons q r ih=>
   intro e
   rw[List.lookup_cons] at e
   by_cases hq:(x == q.1)=true
   ·rw[hq] at e
    have:=beq_iff_eq.mp hq
    (obtain rfl:=Option.some.inj e)
    subst this
    exact .head _
   ·rw[Bool.eq_false_iff.mpr hq] at e
    exact .tail _ (ih e)
 refine List.mem_map.mpr ⟨(x,c),this _ h,?_⟩
 rw[hv]
theorem EvA.own {P1:Heap} {nms':List (Str×NameKind)} {Γc:Cx G P1 nms' n} {mc:Str→Option Value} {i1 i2:Addr×Asn} (kk:Sub P P1) (h:Γ.own.lookup x=some c) (hv:m x=some v) (hR:A.is P y v) (hcl:Γc.env.cells.lookup x=Γ.env.cells.lookup x) (hl:nms'.lookup x=some .cell) :
  EvA Γc mc (i1::i2::(Γ.fr m++l1)) (.Name x pos) A y:=
 EvA.inC (.tail _ (.tail _ (List.mem_append_left _ (Γ.ownIn h hv)))) (A.mono kk hR) (hcl.trans (Γ.ownc _ _ h)) hl
end
section
variable {prog:Program} {w:World} {σ:Shared} {P:Heap} {s:Shared} {A:Around} {E:Value→Shared→Prop} {led:List (Addr×Asn)}
noncomputable def wts:List Int:=[1,2,4,8,16,32]
theorem weights_c {n:Nat} {Q:Value→Shared→Prop} (X:Src (KF w) P) (R:Rm A (n+2)) (H:At σ P led s) (h:∀P' v s',Sub P P'→(Rep.list Rep.int).is P' wts v→At σ P' led s'→Q v s') :
  wpAny (model prog w) A (call (.ref 210) []) Q E s:=by
 refine callC (w:=w) (n:=n) [] [] X R H (by show(hd.heap_1 w.params).lookup _=_; k_is) (by show codeIn (hd.heap_1 w.params) _ _=_; k_is) rfl rfl rfl rfl rfl rfl rfl rfl rfl rfl rfl fun Γ hR=>?_
 refine St.retG (EvA.list (A:=Rep.int) (ys:=wts) (EvsA.cons EvA.int (fun _=>rfl) (EvsA.cons EvA.int (fun _=>rfl) (EvsA.cons EvA.int (fun _=>rfl) (EvsA.cons EvA.int (fun _=>rfl) (EvsA.cons EvA.int (fun _=>rfl) (EvsA.cons EvA.int (fun _=>rfl) EvsA.nil)))))) (by decide)).now ?_
 intro P' v l s' k hz2
 refine E0A2 hz2 fun ee1 hv=>?_
 clear hz2
 subst ee1
 rintro H'
 exact h P' v s' k hv (At.dropL H')
end
section
variable {G:Gl} {P:Heap} {nms:List (Str×NameKind)} {n:Nat} {Γ:Cx G P nms n} {m:Str→Option Value} {led:List (Addr×Asn)} {x:Str} {pos pf:Pos}
theorem EvA.weights (hR:Rm Γ.A 2) (hl:nms.lookup ("_law_weights" : Str)=some .globalImplicit):EvA Γ m led (.Call (.Name "_law_weights" pf) [] [] pos) (Rep.list Rep.int) wts:=fun P' k=>
 EvG.callF0 (f:=210) (Ev.glob (gl_weights _) rfl hl) (by show keepIn (hd.heap_1 G.w.params) _=_; k_is) (fun Q s H hq=>weights_c (n:=0) (Γ.up k).src hR H fun P2 v s' k2 hv H'=>hq P2 v _ s' k2 ⟨rfl,hv⟩ H') (fun _=>rfl)
end
end
end Mine
namespace Mine
set_option maxHeartbeats 1000000
noncomputable section
theorem masks_snoc (es:List (Int×Int)) (e:Int×Int):masksM (es++[e])=addBit (masksM es) e:=by
 unfold masksM; rw[List.foldl_append]; rfl
theorem masks_len (es:List (Int×Int)):(masksM es).length≤es.length:=by
 have key:∀(es:List (Int×Int)) (a:List (Int×Nat)),(es.foldl addBit a).length≤a.length+es.length:=by
  intro es
  induction es with
  | nil=>intro a; exact Nat.le_refl _
  | cons e r ih=>
   intro a
   refine Nat.le_trans (ih _) ?_
   have:(addBit a e).length≤a.length+1:=by
    unfold addBit put
    split <;> simp
   simp only[List.length_cons]
   lia
 exact Nat.le_trans (key es []) (by simp)
theorem pairs_snoc (ms:List (Int×Nat)) (p:Int×Nat):pairsM (ms++[p])=pairsM ms++(pairsM ms).map fun x=>(x.1 ||| p.2,x.2+1):=by
 unfold pairsM; rw[List.foldl_append]; rfl
theorem pairs_len (ms:List (Int×Nat)):(pairsM ms).length=2 ^ ms.length:=by
 have key:∀(ms:List (Int×Nat)) (a:List (Nat×Nat)),(ms.foldl (fun acc p=>acc++acc.map fun x=>(x.1 ||| p.2,x.2+1)) a).length=a.length*2 ^ ms.length:=by
  intro ms
  induction ms with
  | nil=>intro a; simp
  | cons e r ih=>
   intro a
   simp only[List.foldl_cons,ih,List.length_append,List.length_map,List.length_cons,Nat.pow_succ,←Nat.two_mul,Nat.mul_comm 2,Nat.mul_assoc,Nat.mul_comm 2]
 rw[pairsM,key]; simp
theorem wts_at {r:Int} (h:0≤r∧r<6):wts[r.toNat]? = some (2 ^ r.toNat):=by
 refine E0A2 (h) fun h0 h1=>?_
 clear h
 have:r=0∨r=1∨r=2∨r=3∨r=4∨r=5:=by exact six (by assumption) (by assumption)
 rcases this with rfl|rfl|rfl|rfl|rfl|rfl <;> rfl
theorem pop_sum (u:Nat):(wts.map fun wt=>((u:Int).fdiv wt).fmod 2).sum=(pop u:Int):=by
 have key:∀r:Nat,((u:Int).fdiv ((2 ^ r:Nat):Int)).fmod 2=((u / 2 ^ r % 2:Nat):Int):=fun r=>by
  rw[Int.fdiv_eq_ediv_of_nonneg _ (Int.natCast_nonneg _),Int.fmod_eq_emod_of_nonneg _ (by decide)]
  push_cast
  rfl
 have e:wts=(List.range 6).map fun r=>((2 ^ r:Nat):Int):=by decide
 simp only[e,List.map_map]
 have:∀l:List Nat,(l.map ((fun wt:Int=>((u:Int).fdiv wt).fmod 2)∘fun r=>((2 ^ r:Nat):Int))).sum=((l.map fun r=>u / 2 ^ r % 2).sum:Nat):=by
  intro l
  induction l with
  | nil=>rfl
  | cons a r ih=>rw[List.map_cons,List.sum_cons,ih,List.map_cons,List.sum_cons,Function.comp,key]; push_cast; rfl
 exact this _
theorem lack_snoc (xs:List (Nat×Nat)) (x:Nat×Nat):lackM (xs++[x])=max (lackM xs) ((x.2:Int) - pop x.1):=by
 unfold lackM; rw[List.foldl_append]; rfl
end
end Mine
namespace Mine
set_option maxHeartbeats 1000000
noncomputable section
theorem filter_all {α:Type} (l:List α):(l.filter fun _=>true)=l:=by induction l with|nil=>rfl|cons a r ih=>rw[List.filter_cons,if_pos rfl,ih]
noncomputable abbrev uns (ms:List (Int×Nat)):List Nat:=(pairsM ms).map (·.1)
noncomputable abbrev szs (ms:List (Int×Nat)):List Nat:=(pairsM ms).map (·.2)
theorem uns_step (ms:List (Int×Nat)) (p:Int×Nat):uns ms++((uns ms).filter fun _=>true).map (· ||| p.2)=uns (ms++[p]):=by
 rw[filter_all,uns,uns,pairs_snoc,List.map_append,List.map_map,List.map_map]; rfl
theorem szs_step (ms:List (Int×Nat)) (p:Int×Nat):szs ms++((szs ms).filter fun _=>true).map (·+1)=szs (ms++[p]):=by
 rw[filter_all,szs,szs,pairs_snoc,List.map_append,List.map_map,List.map_map]; rfl
noncomputable abbrev nmM:List (Str×NameKind):=[("edges",.local),("masks",.cell),("left",.cell),("right",.local),("unions",.cell),("sizes",.local),("lack",.local),("k",.cell),("_law_weights",.globalImplicit),("range",.globalImplicit),("len",.globalImplicit),("max",.globalImplicit),("sum",.globalImplicit)]
theorem wts_ok:∀x∈wts,x≠0∧x.natAbs<1073741824:=by decide
section
variable {prog:Program} {w:World} {σ:Shared} {P:Heap} {s:Shared} {A:Around} {E:Value→Shared→Prop} {led:List (Addr×Asn)}
theorem most_c {n:Nat} {Q:Value→Shared→Prop} {d:Addr} {es:List ((Int×Int)×Int)} (X:Src (KF w) P) (R:Rm A (n+6)) (H:At σ P led s) (hm:(d,Asn.dict (DKind.pair prog w) Rep.int es)∈led) (hz:es.length≤7) (hn:(es.map (·.1)).Nodup)
  (hr:∀e∈es.map (·.1),0≤e.2∧e.2<6) (h:∀P' t s',Sub P P'→At σ P' led s'→Q (.int (mostM (es.map (·.1))) t) s'):wpAny (model prog w) A (call (.ref 215) [.ref d]) Q E s:=by
 refine E1A1 (Classical.axiomOfChoice fun ep:Nat=>Upd.ex (Asn.dictX (DKind.pair prog w) Rep.int es (some ep)) hm) fun ledp hU=>?_
 refine wpAny_call (callCx (w:=w) (n:=n+4) nmM [("edges",.ref d)]
  X R H (by show(hd.heap_1 w.params).lookup _=_; k_is) (by show codeIn (hd.heap_1 w.params) _ _=_; k_is) rfl rfl rfl rfl (by decide) (fun L=>(by decide:([("k" : Str),"unions","left","masks"]:List Str).Nodup)) (fun L x hx=>?_) rfl rfl rfl rfl rfl rfl fun Γ hR hcode hown hcells _=>?_)
 ·rcases List.mem_cons.mp hx with rfl|hx
  ·exact .inl rfl
  contradiction
 clear H R
 have oM:Γ.own.lookup ("masks" : Str)=some (Γ.L+1):=by rw[hown]; rfl
 have oL:Γ.own.lookup ("left" : Str)=some (Γ.L+2):=by rw[hown]; rfl
 have oU:Γ.own.lookup ("unions" : Str)=some (Γ.L+3):=by rw[hown]; rfl
 have oK:Γ.own.lookup ("k" : Str)=some (Γ.L+4):=by rw[hown]; rfl
 have hf1:(([("left" : Str),"masks"]:List Str).all fun x=>(Γ.own.lookup x).isSome)=true:=by rw[hown]; rfl
 have hf2:(([("k" : Str),"unions"]:List Str).all fun x=>(Γ.own.lookup x).isSome)=true:=by rw[hown]; rfl
 have hR2:Rm Γ.A 2:=hR.less (by exact bl2 rfl)
 clear hown hcode hcells
 refine St.assignC (EvC.dict0 (DKind.int prog w) Rep.nat) rfl oM (fun _=>rfl) ?_
 rintro P1 _ _ k1 ⟨e1,dm,rfl,rfl⟩
 obtain rfl:=e1.symm
 have X1:=Γ.src.mono k1
 refine St.at X1 ?_
 refine St.forIt (Walk.dict (D:=DKind.pair prog w) (V:=Rep.int) (ps:=es) (d:=d) (Ev.name rfl rfl rfl) (fun ep=>.tail (hU ep))) (fun _ _=>rfl) (.inr ⟨_,_,_,rfl⟩) ?_
 intro Pin P1 _ k2 hz451
 refine E1A3 hz451 fun ep ee449 ee450 e1=>?_
 clear hz451
 subst ee449 ee450
 obtain rfl:=e1.symm
 generalize hE:es.map (·.1)=E at *
 have hEl:E.length=es.length:=by rw[←hE,List.length_map]
 refine⟨fun i P2 m' led'=>m' "masks" = some (.ref dm)∧led'=(dm,Asn.dict (DKind.int prog w) Rep.nat (masksM (E.take i)))::ledp ep,?_,⟨rfl,rfl⟩,?_,?_⟩
 ·intro i P2 m' _ hz438
  refine E0A2 hz438 fun _ ee437=>?_
  clear hz438
  subst ee437
  exact .tail _ (hU ep).mem'
 ·intro i P2 P3 k3 k4 v it m' _ Q' hi hz424
  refine E0A2 hz424 fun hm' ee423=>?_
  clear hz424
  subst ee423
  rintro⟨p,hp,hv⟩ T
  have hpe:E[i]? = some p.1:=by rw[←hE,List.getElem?_map,hp]; rfl
  have htk:=take_snoc hpe
  have hpr:=hr p.1 (List.mem_of_getElem? hpe)
  have hdl:(masksM (E.take i)).length≤1000:=Nat.le_trans (masks_len _) (by have:=List.length_take_le' i E; lia)
  generalize hdone:E.take i=done at *
  refine⟨_,Asg.two (A:=Rep.int) (B:=Rep.int) (u:=p.1.1) (w:=p.1.2) hv (fun v'=>Asg.cell rfl oL) (fun m' v'=>Asg.name rfl) (fun _=>rfl),?_⟩
  intro m'' hz408
  refine E3A4 hz408 fun v1 v2 m1 ha hb ee406 ee407=>?_
  clear hz408
  subst ee406 ee407
  have X3:=X1.mono (k2.trans (k3.trans k4))
  refine St.at2 X3 ?_
  have hm2:upd (upd m' "left" v1) "right" v2 "masks" = some (.ref dm):=hm'
  refine St.setitemA (D:=DKind.int prog w) (V:=Rep.nat) (ps:=masksM done) (k:=p.1.1) (b:=(look (masksM done) p.1.1).getD 0+2 ^ p.1.2.toNat) (d:=dm)
   (EvA.toNat (EvA.add (EvA.ofNat (EvA.dget (D:=DKind.int prog w) (V:=Rep.nat) (d:=dm) (b:=0) (EvA.cell hm2 rfl rfl oM) (.tail _ (.head _)) (EvA.cell (A:=Rep.int) (y:=p.1.1) rfl ha rfl oL) EvA.int rfl (fun _=>rfl) (fun _=>rfl)))
    (EvA.item (EvA.weights hR2 rfl) (EvA.name (A:=Rep.int) rfl hb rfl) hpr.1 (wts_at hpr) (by decide) (fun _ _=>rfl))) (by push_cast; rfl))
   (fun P' kk=>Ev.cell hm2 rfl rfl oM) (fun P' kk=>Ev.cell rfl (Rep.int.mono kk ha) rfl oL) (.tail .head) hdl (fun _=>rfl) fun P' kk=>?_
  exact St.nil fun s H=>T.next P' _ ((dm,Asn.dict (DKind.int prog w) Rep.nat (masksM (done++[p.1])))::ledp ep) s kk ⟨hm2,by rw[htk]⟩ (by rw[masks_snoc]; exact H)
 intro P2 k3 m' _ hz389
 refine E0A2 hz389 fun hm' ee388=>?_
 clear hz389
 subst ee388
 have X2:=X1.mono (k2.trans k3)
 refine St.at2 X2 ?_
 rw[List.take_of_length_le (by exact Nat.le_of_eq (by assumption))]
 have hml:(masksM E).length≤7:=Nat.le_trans (masks_len _) (by exact eq1 (by assumption) (by assumption))
 have hmn:((masksM E).map (·.1)).Nodup:=(masks_ok hn hr).nd
 generalize hM:masksM E=M at *
 refine St.turn fun s H=>⟨P2,Sub.refl P2,(dm,Asn.dict (DKind.int prog w) Rep.nat M)::led,At.unpin H (Γ.tu (.tail (hU ep).inv)),?_⟩
 clear H
 refine St.assignAC (EvA.list (A:=Rep.nat) (ys:=[0]) (EvsA.cons (EvA.toNat EvA.int rfl) (fun _=>rfl) EvsA.nil) (by decide)) rfl oU (fun _=>rfl) fun P3 vu k4 hvu=>have X3:=X2.mono k4; St.at2 X3 ?_
 refine St.assignA (EvA.list (A:=Rep.nat) (ys:=[0]) (EvsA.cons (EvA.toNat EvA.int rfl) (fun _=>rfl) EvsA.nil) (by decide)) rfl (fun _=>rfl) fun P4 vs k5 hvs=>have X4:=X3.mono k5; St.at2 X4 ?_
 have hm5:upd (upd m' "unions" vu) "sizes" vs "masks" = some (.ref dm):=hm'
 refine St.forIt (Walk.dict (D:=DKind.int prog w) (V:=Rep.nat) (ps:=M) (d:=dm) (by exact Ev.cell hm5 rfl rfl oM) (fun ep=>.head)) (fun _ _=>rfl) (.inl fun _ _=>rfl) ?_
 intro Pin P5 _ k6 hz368
 refine E1A3 hz368 fun ep2 ee366 ee367 e1=>?_
 clear hz368
 subst ee366 ee367
 obtain rfl:=e1.symm
 refine⟨fun i P2 m' led'=>m' "masks" = some (.ref dm)∧(∃v,m' "unions" = some v∧(Rep.list Rep.nat).is P2 (uns (M.take i)) v)∧(∃v,m' "sizes" = some v∧(Rep.list Rep.nat).is P2 (szs (M.take i)) v)∧led'=(dm,Asn.dictX (DKind.int prog w) Rep.nat M (some ep2))::led,?_,⟨hm5,⟨vu,rfl,(Rep.list Rep.nat).mono (k5.trans k6) hvu⟩,⟨vs,rfl,(Rep.list Rep.nat).mono k6 hvs⟩,rfl⟩,?_,?_⟩
 ·intro i P2 m' _ hz344
  refine E0A4 hz344 fun _ _ _ ee343=>?_
  clear hz344
  subst ee343
  exact .head _
 ·intro i P6 P7 k7 k8 v it m1 _ Q' hi hz319
  refine E0A4 hz319 fun hm1 zz316 zz317 ee318=>?_
  clear hz319
  obtain⟨vu1,hu1,hru⟩:=zz316
  obtain⟨vs1,hs1,hrs⟩:=zz317
  subst ee318
  rintro⟨p,hp,hv⟩ T
  have htk:=take_snoc hp
  have hlk:look M p.1=some p.2:=mem_look hmn (List.mem_of_getElem? hp)
  have hl:(pairsM (M.take i)).length≤128:=by
   rw[pairs_len]
   exact Nat.le_trans (Nat.pow_le_pow_right (by decide) (by have:=List.length_take_le' i M; exact Nat.le_trans (by assumption) (by assumption):(M.take i).length≤7)) (by decide)
  generalize hdone:M.take i=done at *
  refine⟨_,Asg.cell rfl oL,?_⟩
  rintro _ rfl
  have hu2:upd m1 "left" v "unions" = some vu1:=hu1
  have hs2:=hs1
  have hm2:upd m1 "left" v "masks" = some (.ref dm):=hm1
  have X7:=X4.mono (k6.trans (k7.trans k8))
  refine St.at2 X7 ?_
  have hru':=(Rep.list Rep.nat).mono k8 hru
  refine St.assignAC (EvA.cat (EvA.cell hu2 hru' rfl oU) (EvA.comp (B:=Rep.nat) (A:=Rep.nat) (xs:=uns done) (f:=fun _=>true) (g:=(· ||| p.2)) (S:=(· = it::(dm,Asn.dictX (DKind.int prog w) Rep.nat M (some ep2))::led)) (fun P' k=>Walk.lst (by exact EvA.cell hu2 ((Rep.list Rep.nat).mono k hru') rfl oU)) (fun _ _ _ h=>h) (fun l e X P s H=>e▸H) (by rw[List.length_map]; exact tr1 (by assumption) rfl)
   (fun _ _=>rfl) rfl rfl rfl hf1 rfl rfl ?_) (by rw[List.length_map,List.length_map,filter_all,List.length_map]; lia)) rfl oU (fun _=>rfl) fun P8 vu2 k9 hvu2=>have X8:=X7.mono k9; St.at2 X8 ?_
  ·rintro l1 P' k Γc mc v' it' D' ys u rfl hA hcl hu hv'
   refine⟨TstsG.nil,fun _=>EvA.toNat (EvA.or_ (EvA.ofNat (EvA.name upd_self hv' rfl)) (EvA.ofNat (EvA.subD (D:=DKind.int prog w) (V:=Rep.nat) (ps:=M) (ep:=some ep2) (EvA.own (A:=Rep.val) k oM hm2 rfl (hcl _ (.tail _ (.head _))) rfl) (.tail _ (.tail _ (List.mem_append_right _ (.tail _ (.head _)))))
    (EvA.own (A:=Rep.int) k oL upd_self hv (hcl _ (.head _)) rfl) hlk (fun _ _=>rfl)))) (bitOr_nat _ _)⟩
  refine St.assignA (EvA.cat (EvA.name (A:=Rep.list Rep.nat) (y:=szs done) hs2 ((Rep.list Rep.nat).mono (k8.trans k9) hrs) rfl) (EvA.comp (B:=Rep.nat) (A:=Rep.nat) (xs:=szs done) (f:=fun _=>true) (g:=(·+1)) (S:=(· = it::(dm,Asn.dictX (DKind.int prog w) Rep.nat M (some ep2))::led)) (fun P' k=>Walk.lst (by exact EvA.name hs2 ((Rep.list Rep.nat).mono ((k8.trans k9).trans k) hrs) rfl)) (fun _ _ _ h=>h) (fun l e X P s H=>e▸H) (by rw[List.length_map]; exact tr1 (by assumption) rfl)
   (fun _ _=>rfl) rfl rfl rfl rfl rfl rfl ?_) (by rw[List.length_map,List.length_map,filter_all,List.length_map]; lia)) rfl (fun _=>rfl) fun P9 vs2 k10 hvs2=>have X9:=X8.mono k10; St.at2 X9 ?_
  ·rintro l1 P' k Γc mc v' it' D' ys u rfl hA hcl hu hv'
   exact⟨TstsG.nil,fun _=>EvA.toNat (EvA.add (EvA.ofNat (EvA.name upd_self hv' rfl)) EvA.int) (by push_cast; rfl)⟩
  rw[uns_step done p] at hvu2
  rw[szs_step done p] at hvs2
  exact St.nil fun s H=>T.next P9 (upd (upd (upd m1 "left" v) "unions" vu2) "sizes" vs2) ((dm,Asn.dictX (DKind.int prog w) Rep.nat M (some ep2))::led) s (k9.trans k10) ⟨hm1,⟨vu2,rfl,by rw[htk]; exact(Rep.list Rep.nat).mono k10 hvu2⟩,⟨vs2,rfl,by rw[htk]; exact hvs2⟩,rfl⟩ H
 intro P6 k7 m1 _ hz290
 refine E0A4 hz290 fun hm1 zz287 zz288 ee289=>?_
 clear hz290
 obtain⟨vu1,hu1,hru⟩:=zz287
 obtain⟨vs1,hs1,hrs⟩:=zz288
 subst ee289
 rw[List.take_of_length_le (Nat.le_refl _)] at hru hrs
 have X6:=X4.mono (k6.trans k7)
 refine St.at2 X6 ?_
 refine St.turn fun s H=>⟨P6,Sub.refl P6,(dm,Asn.dict (DKind.int prog w) Rep.nat M)::led,At.unpin H (Γ.tu .head),?_⟩
 clear H
 have hpl:(pairsM M).length≤128:=by
  rw[pairs_len]
  exact Nat.le_trans (Nat.pow_le_pow_right (by decide) hml) (by decide)
 have hul:(uns M).length=(pairsM M).length:=List.length_map ..
 refine St.assignA EvA.int rfl (fun _=>rfl) fun P7 vl k8 hvl=>have X7:=X6.mono k8; St.at2 X7 ?_
 have hru7:=(Rep.list Rep.nat).mono k8 hru
 have hrs7:=(Rep.list Rep.nat).mono k8 hrs
 have hu3:=hu1
 have hs3:=hs1
 have hm3:=hm1
 refine St.forIt (Walk.rng (i:=(uns M).length) (EvA.range (fun _ _=>Ev.builtin (nb_range _) (by boot_by_name) (by decide) rfl rfl) (EvA.lenL (fun _ _=>Ev.builtin (nb_len _) (by boot_by_name) (by decide) rfl rfl) (A:=Rep.nat) (by exact EvA.cell hu3 hru7 rfl oU) (by exact eq1 (by assumption) (tr1 (by assumption) rfl)) (fun _=>rfl) (fun _=>rfl)) (fun _=>rfl) (fun _=>rfl)) (by exact eq1 (by assumption) (tr1 (by assumption) rfl))) (fun _ _=>rfl) (.inl fun _ _=>rfl) ?_
 intro Pin P8 _ k9 hz257
 refine E0A2 hz257 fun hpin ee256=>?_
 clear hz257
 subst ee256
 refine⟨fun i P2 m' led'=>Pin led'∧m' "masks" = some (.ref dm)∧m' "unions" = some vu1∧m' "sizes" = some vs1∧(∃t,m' "lack" = some (.int (lackM ((pairsM M).take i)) t))∧led'=(dm,Asn.dict (DKind.int prog w) Rep.nat M)::led,?_,⟨hpin,hm3,hu3,hs3,hvl.elim fun t e=>⟨t,congrArg some e⟩,rfl⟩,?_,?_⟩
 ·rintro i P2 m' _ ⟨q,_⟩
  exact q
 ·intro i P9 P10 k10 k11 v it m2 _ Q' hi hz189
  refine E0A6 hz189 fun hpin hm2 hu2 hs2 zz187 ee188=>?_
  clear hz189
  obtain⟨tl,hl2⟩:=zz187
  subst ee188
  rintro⟨z,hz',hv⟩ T
  rw[rng_len] at hi
  have hi':i<(pairsM M).length:=by exact Nat.lt_of_lt_of_eq (by assumption) (by assumption)
  have hzi:z=(i:Int):=by have:=rng_at hi; rw[hz'] at this; exact Option.some.inj this
  subst hzi
  have hx:(pairsM M)[i]? = some (pairsM M)[i]:=List.getElem?_eq_getElem hi'
  generalize (pairsM M)[i]=pr at hx
  have htk:=take_snoc hx
  have hux:(uns M)[((i:Int)).toNat]? = some pr.1:=by rw[Int.toNat_natCast,List.getElem?_map,hx]; rfl
  have hsx:(szs M)[((i:Int)).toNat]? = some pr.2:=by rw[Int.toNat_natCast,List.getElem?_map,hx]; rfl
  refine⟨_,Asg.cell rfl oK,?_⟩
  rintro _ rfl
  have hu3:upd m2 "k" v "unions" = some vu1:=hu2
  have hs3:=hs2
  have hl3:=hl2
  have hm3:=hm2
  have kk:=k9.trans (k10.trans k11)
  have X10:=X7.mono kk
  refine St.at2 X10 ?_
  refine St.assignA (EvA.max2 (fun _ _=>Ev.builtin (nb_max _) (by boot_by_name) (by decide) rfl rfl) (EvA.name (A:=Rep.int) hl3 ⟨_,rfl⟩ rfl) (EvA.sub (EvA.ofNat (EvA.item (EvA.name (A:=Rep.list Rep.nat) hs3 ((Rep.list Rep.nat).mono kk hrs7) rfl) (EvA.cell (A:=Rep.int) rfl hv rfl oK) (by exact Int.ofNat_nonneg _) hsx (by rw[List.length_map]; exact tr1 (by assumption) rfl) (fun _ _=>rfl)))
   (EvA.sum (fun _ _=>Ev.builtin (nb_sum _) (by boot_by_name) (by decide) rfl rfl) (EvA.comp (B:=Rep.int) (A:=Rep.int) (xs:=wts) (f:=fun _=>true) (g:=fun wt=>((pr.1:Int).fdiv wt).fmod 2) (S:=(· = it::(dm,Asn.dict (DKind.int prog w) Rep.nat M)::led)) (fun P' k=>Walk.lst (by exact EvA.weights hR2 rfl)) (fun _ _ _ h=>h) (fun l e X P s H=>e▸H) (by decide)
    (fun _ _=>rfl) rfl rfl rfl hf2 rfl rfl ?_) (fun _=>rfl) (fun _=>rfl))) (fun _=>rfl) (fun _=>rfl) (fun _=>rfl)) rfl (fun _=>rfl) fun P11 vl2 k12 hvl2=>have X11:=X10.mono k12; St.at2 X11 ?_
  ·rintro l1 P' k Γc mc v' it' D' ys wt rfl hA hcl hwt hv'
   obtain⟨w0,w1⟩:=wts_ok wt hwt
   exact⟨TstsG.nil,fun _=>EvA.fmod (EvA.fdiv (EvA.ofNat (EvA.item (EvA.own (A:=Rep.list Rep.nat) k oU hu3 ((Rep.list Rep.nat).mono kk hru7) (hcl _ (.tail _ (.head _))) rfl) (EvA.own (A:=Rep.int) k oK upd_self hv (hcl _ (.head _)) rfl) (by exact Int.ofNat_nonneg _) hux (by exact eq1 (by assumption) (tr1 (by assumption) rfl)) (fun _ _=>rfl))) (EvA.name upd_self hv' rfl) w0 w1) EvA.int (by decide)⟩
  rw[filter_all,pop_sum,←lack_snoc,←htk] at hvl2
  obtain⟨t2,rfl⟩:=hvl2
  exact St.nil fun s H=>T.next P11 (upd (upd m2 "k" v) "lack" (.int (lackM ((pairsM M).take (i+1))) t2)) ((dm,Asn.dict (DKind.int prog w) Rep.nat M)::led) s k12 ⟨hpin,hm2,hu2,hs2,⟨t2,rfl⟩,rfl⟩ H
 intro P9 k10 m2 _ hz78
 refine E0A6 hz78 fun _ hm2 _ _ zz76 ee77=>?_
 clear hz78
 obtain⟨tl,hl2⟩:=zz76
 subst ee77
 rw[rng_len,List.take_of_length_le (by exact Nat.le_of_eq (Eq.symm (by assumption)))] at hl2
 have X9:=X7.mono (k9.trans k10)
 refine St.at2 X9 ?_
 refine St.retA (EvA.sub (EvA.lenD (D:=DKind.int prog w) (V:=Rep.nat) (ps:=M) (fun _ _=>Ev.builtin (nb_len _) (by boot_by_name) (by decide) rfl rfl) (by exact EvA.cell hm2 rfl rfl oM) (.head _) (by exact tr1 (by assumption) rfl) (fun _=>rfl) (fun _=>rfl)) (EvA.name (A:=Rep.int) hl2 ⟨_,rfl⟩ rfl)) ?_
 rintro P10 v s' k11 ⟨t,rfl⟩ H'
 have e:mostM E=(M.length:Int) - lackM (pairsM M):=by rw[mostM,hM]
 refine h P10 t s' (((k1.trans (k2.trans k3)).trans (k4.trans (k5.trans (k6.trans k7)))).trans ((k8.trans (k9.trans k10)).trans k11)) (At.drop (At.dropL H')) |> fun q=>?_
 rw[e] at q
 exact q
end
end
end Mine
namespace Mine
noncomputable section
noncomputable def AtBase (P:Heap) (led:List (Addr×Asn)) (base:Heap):Prop:=Sub P base∧∀p∈led,(∃m,p.2=Asn.ns m)∨∃o,base.get? p.1=some o∧p.2.ok P o
noncomputable def FrsIn (led:List (Addr×Asn)) (l:List Env):Prop:=∀env∈l,env.scope.kind≠.module∧∃L m,env.frame=some L∧(L,Asn.ns m)∈led
noncomputable def Raised (σ:Shared) (P:Heap) (led:List (Addr×Asn)) (cls:String) (e:Value) (s':Shared):Prop:=∃a s args h',e=.ref a∧s'={ s with heap:=h' }∧At σ P led s∧Heap.MadeExc s.heap h' a cls args
noncomputable def Flown (σ:Shared) (P:Heap) (led:List (Addr×Asn)) (l:List Env) (cls:String) (e:Value) (s:Shared):Prop:=∃a base a0,e=.ref a∧At σ P led s∧AtBase P led base∧Heap.FlyingW base l a (.type cls) a0 s.heap
theorem FrsIn.mono {led led':List (Addr×Asn)} {l:List Env} (h:FrsIn led l) (k:∀x∈led,x∈led'):FrsIn led' l:=fun env he=>let ⟨a,L,m,b,c⟩:=h env he; ⟨a,L,m,b,k _ c⟩
section
variable {σ:Shared} {P:Heap} {led full:List (Addr×Asn)} {s:Shared} {h' base:Heap} {l outer:List Env} {env:Env} {cls:String} {e:Value} {M:Model} {A:Around} {E:Value→Shared→Prop}
theorem At.moved (H:At σ P led s) (B:AtBase P led base) (k:base.StaysIn h') (sm:s.heap.UpToSlots h'):At σ P led { s with heap:=h' }:=
 ⟨⟨fun b o e=>k b o (B.1 b o e),H.ld.nodup,fun p hp=>by
  rcases B.2 p hp with⟨m,e⟩|⟨o,e,r⟩
  ·obtain⟨o,ho,r⟩:=H.ld.pt p hp
   rw[e] at r ⊢
   obtain⟨es,ep,hd,r1⟩:=r
   obtain⟨sl,hs⟩:=sm p.1 o ho fun vs q=>by rw[hd] at q; contradiction
   exact⟨_,hs,es,ep,hd,r1⟩
  ·exact⟨o,k _ _ e,r⟩,H.ld.off⟩,H.os,H.gens⟩
theorem frames_of (H:At σ P led s):∀ {l:List Env},FrsIn led l→s.heap.FunFrames P l
 | [],_=>trivial
 | env::r,F=>by
  obtain⟨hk,L,m,hf,hm⟩:=F env (.head _)
  obtain⟨o,ho,es,ep,hd,_⟩:=H.ld.pt _ hm
  exact⟨hk,⟨L,o,hf,H.ld.off _ hm,ho,fun vs q=>by rw[hd] at q; cases q⟩,frames_of H fun env he=>F env (.tail _ he)⟩
theorem base_of (H:At σ P led s) (F:FrsIn led l):∃base,AtBase P led base∧base.StaysIn s.heap∧s.heap.FunFrames base l:=by
 have hin:∀b,b∈l.filterMap (·.frame)→∃m,(b,Asn.ns m)∈led:=fun b hb=>by
  refine E1A2 (List.mem_filterMap.mp hb) fun env he hf=>?_
  obtain⟨_,L,m,hf',hm⟩:=F env he
  rw[hf'] at hf
  exact⟨m,Option.some.inj hf▸hm⟩
 refine⟨hideAll s.heap (l.filterMap (·.frame)),⟨fun b o e=>hideAll_get _ (H.sub _ _ e) fun hb=>?_,fun p hp=>?_⟩,fun b o e=>of_hideAll _ e,funFrames_hide (frames_of H F) fun env he a ha=>List.mem_filterMap.mpr ⟨env,he,ha⟩⟩
 ·refine E1A1 (hin b hb) fun m hm=>?_
  have:=H.ld.off _ hm
  rw[e] at this; contradiction
 ·by_cases hb:p.1∈l.filterMap (·.frame)
  ·refine E1A1 (hin _ hb) fun m hm=>?_
   have nd:=H.ld.nodup
   have:p=(p.1,Asn.ns m):=by
    have key:∀l:List (Addr×Asn),(l.map (·.1)).Nodup→∀x∈l,∀y∈l,x.1=y.1→x=y:=by
     intro l
     induction l with
     | nil=>intro _ x hx; contradiction
     | cons q r ih=>
      intro hn x hx y hy he
      rw[List.map_cons,List.nodup_cons] at hn
      cases hx with
      | head=>
       cases hy with
       | head=>rfl
       | tail _ hy=>exact absurd (he▸List.mem_map_of_mem (f:=fun p:Addr×Asn=>p.1) hy) hn.1
      | tail _ hx=>
       cases hy with
       | head=>exact absurd (he▸List.mem_map_of_mem (f:=fun p:Addr×Asn=>p.1) hx) hn.1
       | tail _ hy=>exact ih hn.2 x hx y hy he
    exact key led nd _ hp _ hm rfl
   exact .inl ⟨m,congrArg Prod.snd this⟩
  ·refine E1A2 (H.ld.pt p hp) fun o ho r=>?_
   exact .inr ⟨o,hideAll_get _ ho hb,r⟩
theorem Raised.leave (h:Raised σ P full cls e s) (F:FrsIn full (env::outer)) (hfr:A.frames=some (env::outer)) (hs:led.Sublist full):wpAny M A (leaving env e) (fun _ s'=>Flown σ P led outer cls e s') E s:=by
 refine E4A4 (h) fun a s0 args h' ee21 ee22 H hx=>?_
 clear h
 subst ee21 ee22
 obtain⟨_,L,m,hf,_⟩:=F env (.head _)
 refine E1A3 (base_of H F) fun base B kb FF=>?_
 refine wpAny_leaves_madeW hfr hf kb FF hx.of fun h2 t hfl _ _ sm=>?_
 have H2:=H.moved B hfl.1 ((Heap.UpToSlots.of_keeps hx.keeps).trans sm)
 exact⟨a,base,_,rfl,H2.subl hs,⟨B.1,fun p hp=>B.2 p (hs.subset hp)⟩,hfl⟩
theorem Flown.caught {hs:List ExceptHandler} {prog:Program} {w:World} {Q:Flow→Shared→Prop} (h:Flown σ P led (env::outer) cls e s) (hfr:A.frames=some (env::outer))
  (k:∀s',Flown σ P led (env::outer) cls e s'→wpAny (model prog w) A (handleBy e env hs) Q E s') :
  wpAny (model prog w) A (noteFrame e env) (fun _ s₂=>wpAny (model prog w) A (setFlight e none) (fun _ s₃=>wpAny (model prog w) A (handleBy e env hs) Q E s₃) E s₂) E s:=by
 refine E3A4 (h) fun a base a0 ee13 H B hfl=>?_
 clear h
 subst ee13
 obtain⟨L,hf⟩:∃L,env.frame=some L:=let ⟨_,_,⟨_,⟨L,_,hf,_⟩,_⟩,_⟩:=hfl; ⟨L,hf⟩
 refine wpAny_looks_onW hfr hf hfl fun h4 hheld sm4=>?_
 refine wpAny_landsW hheld fun h5 hfl5 sm5=>?_
 exact k _ ⟨a,base,a0,rfl,H.moved (s:=s) B hfl5.1 (sm4.trans sm5),B,hfl5⟩
theorem Flown.clause {prog:Program} {w:World} {T:String} {b:Bool} {t:Expr} {b₀:Stmt} {suite:List Stmt} {pos:Pos} {rest:List ExceptHandler} {Q:Flow→Shared→Prop} (h:Flown σ P led l cls e s)
  (hexc:isSubtype (.type T) (.type "BaseException")=pure true) (hnt:isSubtype (.type ((Manifest.find? T).elim "type" fun x=>x.metatype)) (.type "tuple")=pure false) (hsub:isSubtype (.type cls) (.type T)=pure b)
  (ht:∀(A:Around) (E:Value→Shared→Prop) (Q:Value→Shared→Prop) (s:Shared),At σ P led s→(∀s',At σ P led s'→s'.heap=s.heap→Q (.type T) s')→wpAny (model prog w) A (eval t env) Q E s)
  (hit:b=true→∀(A:Around) (E:Value→Shared→Prop) s',At σ P led s'→wpAny (model prog w) A (execs (b₀::suite) env) Q E s')
  (miss:b=false→∀s',Flown σ P led l cls e s'→wpAny (model prog w) A (handleBy e env rest) Q E s') :
  wpAny (model prog w) A (handleBy e env (.ExceptHandler (some t) none (b₀::suite) pos::rest)) Q E s:=by
 refine E3A4 (h) fun a base a0 ee9 H B hfl=>?_
 clear h
 subst ee9
 refine wpAny_handleBy_builtin (X:=cls) (T:=T) (b:=b) hexc hnt hsub (ht _ _ _ s H fun s1 H1 hh=>⟨rfl,?_,?_⟩)
 ·refine E1A2 (hfl.there) fun ob ho hc=>?_
  exact⟨ob,by rw[hh]; exact ho,hc⟩
 ·rcases b with _|_
  ·exact miss rfl s1 ⟨a,base,a0,rfl,H1,B,by rw[hh]; exact hfl⟩
  ·
   exact lands_againW (s:=s1) (by rw[hh]; exact hfl) fun h2 hfl2 sm=>hit rfl _ _ _ (H1.moved B hfl2.1 sm)
end
section
variable {prog:Program} {w:World} {κ β:Type} {di:DecidableEq κ} {D:DKind prog w κ} {V:Rep β} {ps:List (κ×β)} {k:κ} {v key:Value} {d:Addr}
 {σ:Shared} {P:Heap} {led:List (Addr×Asn)} {s:Shared} {A:Around} {E:Value→Shared→Prop} {K:Frag} {ep:Option Nat}
theorem raise_new {cls:String} {args:List Value} {α:Type} {Q:α→Shared→Prop} (hp:PlainExc cls) (hh:A.handled=none) (H:At σ P led s) (hargs:args.length≤4) (h:∀e s',Raised σ P led cls e s'→E e s') :
  wpAny (model prog w) A (do raiseNew (←newExc (.type cls) args):Sem α) Q E s:=
 wpAny_bind (wpAny_newExc_plain hp (fun h' e hm=>wpAny_raiseNew_none hh (h _ _ ⟨e,s,args,h',rfl,rfl,H,hm⟩)) (by rw[sizeLine_eq]; exact tr1 (by assumption) rfl))
theorem r_getmiss {Q:Value→Shared→Prop} (X:Src K P) (hh:A.handled=none) (H:At σ P led s) (hm:(d,Asn.dictX D V ps ep)∈led) (hu:A.units+1<cLine) (hk:D.rep.is P k key) (hb:look ps k=none)
  (h:∀e s',Raised σ P led "KeyError" e s'→E e s'):wpAny (model prog w) A (getItem (.ref d) key) Q E s:=by
 have hT:=H.dictT hm
 unfold getItem
 try with_reducible refine wpAny_holding ?_
 refine wpAny_bind (wpAny_sequenceKey hT (by decide) ?_)
 refine wpAny_bind (wpAny_callSpecial?_slot (name:=Str.ofString "__getitem__") hT slot_dict_getitem
  (wpAny_call_entry slot_dict_getitem hT entry_dict_getitem ?_ (args_dict_getitem _ _)))
 show wpAny _ _ (dictGet d key >>= _) _ _ s
 refine wpAny_bind (dictGet_ H hm (A:=A.in1) hu hk fun tk r hr=>?_)
 rw[hb] at hr
 rcases r with _|u
 rotate_left
 ·exact hr.elim
 ·
  have H1:=H.tok (tk:=tk)
  refine wpAny_bind (wpAny_missed_other (H.noSys X hm) ?_)
  refine wpAny_bind (wpAny_typeOf (H1.dictT hm) ?_)
  exact wpAny_bind (wpAny_rule (raise_new PySem.plainExc_KeyError hh H1 (by exact Nat.succ_pos _) h))
theorem r_delmiss {Q:Unit→Shared→Prop} (X:Src K P) (hh:A.handled=none) (H:At σ P led s) (hm:(d,Asn.dictX D V ps ep)∈led) (hu:A.units+1<cLine) (hk:D.rep.is P k key) (hb:look ps k=none)
  (h:∀e s',Raised σ P led "KeyError" e s'→E e s'):wpAny (model prog w) A (delItem (.ref d) key) Q E s:=by
 have hT:=H.dictT hm
 refine wpAny_delItem_slot hT (by decide) F.slot_dict_delitem (wpAny_call_entry F.slot_dict_delitem hT F.entry_dict_delitem ?_ (F.args_dict_delitem_2 _ _))
 refine wpAny_bind ?_
 refine wpAny_bind (wpAny_notOrdered_dict hT ?_)
 refine wpAny_pure ?_
 show wpAny _ _ (Builtin.Dict.takeOut d key >>= _) _ _ s
 refine wpAny_bind (takeOut_none (A:=A.in1) H hm (by show A.units+1<cLine; exact hu) hk hb fun s' H'=>?_)
 show wpAny _ _ (Builtin.Dict.missedRemoval d key >>= _) _ _ _
 unfold Builtin.Dict.missedRemoval
 rw[if_neg (by rw[H.noSys X hm]; exact Bool.false_ne_true)]
 refine wpAny_bind (wpAny_pure ?_)
 exact wpAny_bind (wpAny_rule (raise_new PySem.plainExc_KeyError hh H' (by exact Nat.succ_pos _) h))
end
end
end Mine
namespace Mine
noncomputable section
section
variable {M:Model} {A:Around} {E:Value→Shared→Prop} {s:Shared} {K:Frag} {x C f:Addr} {ox:Obj} {od:Option Obj} {i v:Value} {name:Str}
theorem key_inst {Q:Value→Shared→Prop} (X:K.In s.heap) (I:InstAt s.heap x ox C od) (hq:noSeq K C=true) (h:Q i s):wpAny M A (sequenceKey (.ref x) i name) Q E s:=by
 refine wpAny_bind (I.type.here (wpAny_bind ((anyM_none X hq).here ?_)))
 exact wpAny_pure h
theorem del_inst {Q:Unit→Shared→Prop} (X:K.In s.heap) (I:InstAt s.heap x ox C od) (hq:noSeq K C=true) (hs:findIn K (.ref C) "__delitem__" = some (some (.ref f))) (hf:isFn K (.ref f)=true)
  (h:wpAny M A (call (.ref f) [.ref x,i]) (fun _ s'=>Q () s') E s):wpAny M A (delItem (.ref x) i) Q E s:=by
 exact wpAny_holding (wpAny_bind (key_inst X I hq (wpAny_bind (special_fn X I hs (beq_iff_eq.mp hf) (wpAny_mono h (fun _ _ z=>wpAny_pure z) fun _ _ z=>z)))))
theorem set_inst {Q:Unit→Shared→Prop} (X:K.In s.heap) (I:InstAt s.heap x ox C od) (hq:noSeq K C=true) (hs:findIn K (.ref C) "__setitem__" = some (some (.ref f))) (hf:isFn K (.ref f)=true)
  (h:wpAny M A (call (.ref f) [.ref x,i,v]) (fun _ s'=>Q () s') E s):wpAny M A (setItem (.ref x) i v) Q E s:=by
 exact wpAny_holding (wpAny_bind (key_inst X I hq (wpAny_bind (special_fn X I hs (beq_iff_eq.mp hf) (wpAny_mono h (fun _ _ z=>wpAny_pure z) fun _ _ z=>z)))))
theorem iter_inst {Q:Value→Shared→Prop} (X:K.In s.heap) (I:InstAt s.heap x ox C od) (hs:findIn K (.ref C) "__iter__" = some (some (.ref f))) (hf:isFn K (.ref f)=true)
  (h:wpAny M A (call (.ref f) [.ref x]) (fun v s'=>Q v s'∧s'.TypeIs v "generator") E s):wpAny M A (pyIter (.ref x)) Q E s:=by
 have got:∀r:Sem Value,wpAny M A (callSpecialIfBoundUnlessNone? (.ref x) "__iter__" r) (fun o s'=>∃v,o=some v∧Q v s'∧s'.TypeIs v "generator") E s:=fun r=>by
  refine wpAny_holding (wpAny_bind (wpAny_bind (wpAny_bind (I.type.here ((looks_findIn X hs).here (wpAny_bind (wpAny_askSetting (wpAny_ite ?_))))))))
  have own:wpAny M A (if(Value.ref f == Value.none)=true then(r >>= fun v=>pure (some v)) else(call (.ref f) [.ref x] >>= fun v=>pure (some v))) (fun o s'=>∃v,o=some v∧Q v s'∧s'.TypeIs v "generator") E s:=by
   exact wpAny_bind (wpAny_mono h (fun v s' z=>wpAny_pure ⟨v,rfl,z⟩) fun _ _ z=>z)
  have bnd:=(bind_fn (M:=M) X (.ref x) (beq_iff_eq.mp hf))
  split
  ·exact wpAny_bind (bnd.here (wpAny_pure (by exact own)))
  ·exact wpAny_tryCatch (wpAny_bind (bnd.here (wpAny_pure (by exact own))))
 refine wpAny_bind (wpAny_bind (I.type.here ((looks_findIn X hs).here ?_)))
 refine wpAny_bind (wpAny_mono (got _) (fun o s' zz20=>E1A3 zz20 fun v e hq hT=>?_) fun _ _ z=>z)
 subst e
 exact wpAny_bind (wpAny_specialOf hT slot_gen_next.lookup (wpAny_pure hq))
end
section
variable {prog:Program} {w:World} {A:Around} {E:Value→Shared→Prop} {s:Shared} {K:Frag} {x C f:Addr} {ox:Obj} {od:Option Obj} {i b tb:Value} {Q:Value→Shared→Prop}
theorem sub_inst {value slice:Expr} (X:K.In s.heap) (I:InstAt s.heap x ox C od) (hs:findIn K (.ref C) "__getitem__" = some (some (.ref f))) (hf:fnIn K f=true) (hfn:isFn K (.ref f)=true)
  (h:wpAny (model prog w) A.in1 (call (.ref f) [.ref x,i]) Q E s)
  (hsl:subscripted slice true (.ref x) i=runValue (.builtin "lifetime.subscript" ⟨[.ref x,i],[]⟩)):wpAny (model prog w) A (subscriptTail value slice (.ref x) i) Q E s:=by
 unfold fnIn at hf
 split at hf
 case h_2=>contradiction
 rename_i e
 refine wpAny_bind (wpAny_bind (wpAny_bind (I.type.here ((looks_findIn X hs).here ?_))))
 refine wpAny_bind (wpAny_load (X _ _ e) (wpAny_pure ?_))
 rw[hsl]
 refine wpAny_bind (wpAny_runValue (codeAny_builtin entry_sub ?_))
 refine wpAny_bind (special_fn X I hs (beq_iff_eq.mp hfn) (wpAny_mono h (fun v s' z=>wpAny_pure ?_) fun _ _ z=>z))
 exact wpAny_bind (wpAny_letTemporaryGo (wpAny_pure z))
theorem len_inst (X:K.In s.heap) (I:InstAt s.heap x ox C od) (hs:findIn K (.ref C) "__len__" = some (some (.ref f))) (hf:isFn K (.ref f)=true)
  (h:wpAny (model prog w) A.in1 (call (.ref f) [.ref x]) (fun v s'=>∃(n:Nat) (t:Tok),v=.int n t∧n≤1000∧∀t tk,Q (.int n t) { s' with toks:=tk }) E s):wpAny (model prog w) A (call (.builtin "len") [.ref x]) Q E s:=by
 refine Calls.call_function_entry kind_len plain_len entry_len (args_len1 _) ?_
 refine wpAny_bind (m:=oneArg "len" _) (wpAny_pure ?_)
 refine wpAny_bind (m:=callSpecial? (.ref x) (Str.ofString "__len__")) (special_fn X I hs (beq_iff_eq.mp hf) (wpAny_mono h (fun r s' hr=>?_) fun _ _ y=>y))
 refine E2A3 (hr) fun n t ee16 hn hq=>?_
 clear hr
 subst ee16
 refine wpAny_bind (wpAny_holding (wpAny_pure ?_))
 refine wpAny_bind (wpAny_letGo ?_)
 show wpAny _ _ (if(n:Int)≥2 ^ 63 then _ else _) _ _ _
 rw[if_neg (by lia)]
 exact wpAny_bind (wpAny_mkInt (wpAny_pure ⟨_,rfl,hq _ _⟩))
theorem eq_inst (hu:A.units<cLine) (X:K.In s.heap) (I:InstAt s.heap x ox C od) (hb:Looks (model prog w) s.heap (typeOf b) tb) (hn:subIn K tb (.ref C)=some false)
  (hs:findIn K (.ref C) (cmpInfo .Eq).2.1=some (some (.ref f))) (hf:isFn K (.ref f)=true)
  (h:wpAny (model prog w) A (call (.ref f) [.ref x,b]) (fun v s'=>∃c,v=.bool c∧Q (.bool c) s') E s):wpAny (model prog w) A (compareOp .Eq (.ref x) b) Q E s:=by
 have one:wpAny (model prog w) A (tryCompare (.ref x) (cmpInfo .Eq).2.1 b) (fun r s'=>∃v,r=some v∧Q v s') E s:=by
  refine wpAny_bind (ifBound_K X I hs hf (wpAny_mono h (fun v s' zz13=>E1A2 zz13 fun c e hv=>?_) fun _ _ e=>e))
  subst e
  exact wpAny_pure ⟨_,rfl,hv⟩
 show wpAny _ _ (richCompare .Eq (.ref x) b) _ _ _
 unfold richCompare
 simp only[oneThing_ref]
 refine wpAny_holding (wpAny_bind (wpAny_cRoomFor hu ?_))
 refine wpAny_bind (I.type.here (wpAny_bind (hb.here ?_)))
 refine wpAny_ite_split (fun _=>?_) fun _=>?_
 ·refine wpAny_bind ((looks_subIn X hn).here ?_)
  exact wpAny_bind (wpAny_mono one (fun r s' ⟨v,e,hq⟩=>by subst e; exact wpAny_pure hq) fun _ _ e=>e)
 ·refine wpAny_bind (wpAny_pure ?_)
  exact wpAny_bind (wpAny_mono one (fun r s' ⟨v,e,hq⟩=>by subst e; exact wpAny_pure hq) fun _ _ e=>e)
end
end
end Mine
namespace Mine
set_option maxHeartbeats 1000000
noncomputable section
inductive BK where
 | int (n:Int)
 | tri
 | str
noncomputable def Rep.bk:Rep BK:=⟨fun P k v=>match k with|.int n=>∃t,v=.int n t|.tri=>∃a q u1 u2 u3,v=.ref a∧P.get? a=some (tupObj [u1,u2,u3] q)|.str=>∃x t,v=.str x t,
 fun {P P' k v} s h=>by cases k with|int n=>exact h|tri=>exact E5A2 (h) fun a q u1 u2 u3 e g=>⟨a,q,u1,u2,u3,e,s _ _ g⟩|str=>exact h⟩
section
variable {G:Gl} {P P':Heap} {nms:List (Str×NameKind)} {n:Nat} {Γ:Cx G P nms n} {m:Str→Option Value} {led:List (Addr×Asn)} {rest:List Stmt} {z:BK}
 {pos p1 p2 p3 p4 p5 p6 p7 p8 p9 p10 q1 q2 q3 q4 q5:Pos} {k1 k2:Nat} {x:Str} {E:Value→Shared→Prop}
theorem badTest (hk:∀p,Ev Γ m led (.Name "key" p) (Rep.bk.is P z)) (h1:nms.lookup ("isinstance" : Str)=some .globalImplicit) (h2:nms.lookup ("tuple" : Str)=some .globalImplicit) (h3:nms.lookup ("len" : Str)=some .globalImplicit) :
  Tst Γ m led (.BoolOp .Or [.UnaryOp .Not (.Call (.Name "isinstance" p1) [.Name "key" p2,.Name "tuple" p3] [] p4) p5,.Compare (.Call (.Name "len" p6) [.Name "key" p7] [] p8) [.NotEq] [.Constant (.int 2) k1 p9] p10] pos) true:=by
 have isi:∀b,(∀(Q:Value→Shared→Prop) (s:Shared) v,Rep.bk.is P z v→Γ.at_ m led s→(∀s',Γ.at_ m led s'→Q (.bool b) s')→Γ.wp (call (.builtin "isinstance") [v,.type "tuple"]) Q s) →
   Tst Γ m led (.UnaryOp .Not (.Call (.Name "isinstance" p1) [.Name "key" p2,.Name "tuple" p3] [] p4) p5) (!b):=fun b h=>
  TstC.not (TstC.of_ev (Ev.callB2 (R1:=Rep.bk.is P z) (R2:=Is (.type "tuple")) (Ev.builtin (nb_isinstance _) (by boot_by_name) (by decide) rfl h1) (hk _) (Ev.builtin (nb_tuple _) (by boot_by_name) (by decide) rfl h2)
   (fun v _ Q s hv hu H hq=>by
    subst hu
    exact h Q s v hv H fun s' H'=>hq _ s' rfl H') (fun _=>rfl) (fun _=>rfl) (fun _=>rfl)) (fun _ _=>rfl))
 cases z with
 | int i=>exact Tst.orT1 (isi false fun Q s v zz73 H hq=>E1A1 zz73 fun t e=>by subst e; exact IsiPair.int_tuple (hq _ (At.tok H)))
 | str=>exact Tst.orT1 (isi false fun Q s v zz69 H hq=>E2A1 zz69 fun y t e=>by subst e; exact IsiPair.str_tuple (hq _ (At.tok H)))
 | tri=>
  refine Tst.orT2 (isi true fun Q s v zz64 H hq=>E5A2 zz64 fun a q u1 u2 u3 e g=>by subst e; exact IsiPair.tuple_tuple (At.sub H _ _ g) rfl (hq _ H)) (Tst.orT1 ?_)
  refine Tst.cmpI (x:=3) (y:=2) ?_ Ev.int rfl rfl
  refine Ev.callB1 (R1:=Rep.bk.is P .tri) (Ev.builtin (nb_len _) (by boot_by_name) (by decide) rfl h3) (hk _) ?_ (fun _=>rfl) (fun _=>rfl)
  intro v Q s hz55
  refine E5A2 hz55 fun a q u1 u2 u3 ee54 g=>?_
  subst ee54
  rintro H hq
  exact len_tuple (items:=#[u1,u2,u3]) ⟨_,At.sub H _ _ g,rfl,_,rfl⟩ (by simp) (hq _ _ ⟨_,rfl⟩ (At.tok H))
theorem badBody (hk:∀p,Ev Γ m led (.Name "key" p) (Rep.bk.is P z)) (h1:nms.lookup ("isinstance" : Str)=some .globalImplicit) (h2:nms.lookup ("tuple" : Str)=some .globalImplicit) (h3:nms.lookup ("len" : Str)=some .globalImplicit)
  (h4:nms.lookup ("TypeError" : Str)=some .globalImplicit) {s:Shared} (H:Γ.at_ m led s) (hE:∀e s',Raised G.σ P (Γ.fr m++led) "TypeError" e s'→E e s') :
  wpAny (model G.prog G.w) Γ.A (execs (.If (.BoolOp .Or [.UnaryOp .Not (.Call (.Name "isinstance" p1) [.Name "key" p2,.Name "tuple" p3] [] p4) p5,.Compare (.Call (.Name "len" p6) [.Name "key" p7] [] p8) [.NotEq] [.Constant (.int 2) k1 p9] p10] pos)
   [.Raise (some (.Call (.Name "TypeError" q1) [.Constant (.str x) k2 q2] [] q3)) none q4] [] q5::rest) Γ.env) (fun _ _=>False) E s:=by
 refine wpAny_execs_cons (wpAny_If (wpAny_mono ((badTest hk h1 h2 h3).run (fun b s'=>b=true∧Γ.at_ m led s') s H fun s' H'=>⟨rfl,H'⟩) (fun b s1 zz50=>E0A2 zz50 fun e H1=>?_) fun _ _ q=>q.elim))
 subst e
 refine wpAny_execs_cons (Raise_madeB PySem.F.excCall_TypeError PySem.F.excRaise_TypeError Γ.rm.handled ?_)
 refine wpAny_mono ((Ev.builtin (Γ:=Γ) (m:=m) (led:=led) (R:=Is (.type "TypeError")) (nb_TypeError _) (by boot_by_name) (by decide) rfl h4).run (fun v s'=>v=.type "TypeError"∧Γ.at_ m led s') s1 H1 fun v s' hv H'=>⟨hv,H'⟩) (fun v s2 zz41=>E0A2 zz41 fun e H2=>⟨e,?_⟩) fun _ _ q=>q.elim
 refine spliced_more (v_str H2 fun t s3 H3=>spliced_none ⟨by rw[sizeLine_eq]; simp,fun h' e hm=>hE _ _ ⟨e,s3,_,h',rfl,rfl,H3,hm⟩⟩) rfl
end
section
variable {prog:Program} {w:World} {σ:Shared} {P:Heap} {s:Shared} {A:Around} {E:Value→Shared→Prop} {led:List (Addr×Asn)}
theorem callR {n:Nat} {f:Addr} {pos:List Value} {Q:Value→Shared→Prop} {cls:String} {outer:List Env} {oc:Value} {od:Option Addr} {osl:Array (Option Value)} {fd:FuncData} {body:List Stmt} (nms:List (Str×NameKind)) (binds:List (Str×Value))
  (X:Src (KF w) P) (R:Rm A (n+2)) (H:At σ P led s) (hfr:A.frames=some outer) (F:FrsIn led outer) (ho:(KF w).lookup f=some ⟨oc,od,.func fd,osl⟩) (hcd:codeIn (KF w) fd.code fd.qualname=true)
  (hbody:fd.body=.stmts body) (hnm:fd.scope.names=nms) (hbind:bindArgs fd ⟨pos,[]⟩=pure binds) (hclo:fd.closure=[]) (hnd:(nms.map (·.1)).Nodup)
  (hown:∀L,((cellsFrom (L+1) nms []).map (·.1)).Nodup)
  (hloc:∀L,∀x∈binds,nms.lookup x.1=some .local∨(nms.lookup x.1=some .cell∧((cellsFrom (L+1) nms []).lookup x.1).isSome=true)) (hdb:nms.lookup ("__debug__" : Str)=none)
  (hg:fd.globals=mainGlobals) (hb:fd.builtins=builtinsNs) (hco:fd.scope.isCoroutine=false) (hgen:fd.scope.isGenerator=false) (hk:fd.scope.kind=.function)
  (h:∀Γ:Cx ⟨prog,w,σ⟩ P nms n,Rm Γ.A (n+1)→Γ.own=cellsFrom (Γ.L+1) nms []→Γ.env.cells=Γ.own→∀s',Γ.at_ (fun x=>binds.reverse.lookup x) led s' →
   wpAny (model prog w) Γ.A (execs body Γ.env) (fun _ _=>False) (fun e s''=>∃m,Raised σ P (Γ.fr m++led) cls e s'') s')
  (hE:∀e s',Flown σ P led outer cls e s'→E e s'):wpAny (model prog w) A (call (.ref f) pos) Q E s:=by
 refine wpAny_call (callCxE (P:=P) nms (fun P1 l b=>P1=P∧l=led∧b=binds) R H.sub X ho hcd hbody hnm hclo hnd (fun Q' E' hq=>by rw[hbind]; exact wpAny_pure (hq P led binds s (Sub.refl P) ⟨rfl,rfl,rfl⟩ H)) hown
  (fun P1 l b e=>by obtain⟨rfl,rfl,rfl⟩:=e; exact hloc) hdb hg hb hco hgen hk (fun P1 l b k e Γ hR hcode ho hc hfA s' H'=>?_))
 obtain⟨hf,hA⟩:=hfA
 obtain⟨rfl,rfl,rfl⟩:=e
 have hfr':Γ.A.frames=some (Γ.env::outer):=by rw[hA]; exact Around.frames_deeper hfr
 refine wpAny_mono (h Γ hR ho hc s' H') (fun _ _ q=>q.elim) fun e s2 zz11=>E1A1 zz11 fun m hr=>?_
 refine wpAny_mono (hr.leave (led:=l) (outer:=outer) (fun env he=>?_) hfr' (List.sublist_append_right _ _)) (fun _ s3 hfl=>hE e s3 hfl) fun _ _ (q:False)=>q.elim
 rcases List.mem_cons.mp he with rfl|he
 ·exact⟨(by rw[Γ.eok.kind]; intro c; contradiction),Γ.L,_,hf,.head _⟩
 ·exact(F.mono fun x hx=>List.mem_append_right _ hx) env he
end
end
end Mine
namespace Mine
set_option maxHeartbeats 1000000
noncomputable section
section
variable {prog:Program} {w:World} {σ:Shared} {P:Heap} {s:Shared} {A:Around} {E:Value→Shared→Prop} {led:List (Addr×Asn)} {n:Nat} {me dx ed:Addr} {kv vv:Value} {z:BK} {Q:Value→Shared→Prop} {outer:List Env}
theorem bad112 (X:Src (KF w) P) (R:Rm A (n+2)) (H:At σ P led s) (hfr:A.frames=some outer) (F:FrsIn led outer) (hk:Rep.bk.is P z kv) (hE:∀e s',Flown σ P led outer "TypeError" e s'→E e s'):wpAny (model prog w) A (call (.ref 112) [.ref me,kv]) Q E s:=by
 refine callR (n:=n) [("self",.local),("key",.local),("isinstance",.globalImplicit),("tuple",.globalImplicit),("len",.globalImplicit),("TypeError",.globalImplicit)] [("self",.ref me),("key",kv)]
  X R H hfr F (by show(hd.heap_1 w.params).lookup _=_; k_is) (by show codeIn (hd.heap_1 w.params) _ _=_; k_is) rfl rfl rfl rfl (by decide) (fun L=>List.nodup_nil) (fun L x hx=>?_) rfl rfl rfl rfl rfl rfl (fun Γ hR ho hc s' H'=>badBody (fun p=>Ev.name rfl hk rfl) rfl rfl rfl rfl H' fun e s2 h=>⟨_,h⟩) hE
 rcases List.mem_cons.mp hx with rfl|hx
 ·exact .inl rfl
 rcases List.mem_cons.mp hx with rfl|hx
 ·exact .inl rfl
 contradiction
theorem bad105 (X:Src (KF w) P) (R:Rm A (n+2)) (H:At σ P led s) (hfr:A.frames=some outer) (F:FrsIn led outer) (hk:Rep.bk.is P z kv) (hE:∀e s',Flown σ P led outer "TypeError" e s'→E e s'):wpAny (model prog w) A (call (.ref 105) [.ref me,kv,vv]) Q E s:=by
 refine callR (n:=n) [("self",.local),("key",.local),("value",.local),("isinstance",.globalImplicit),("tuple",.globalImplicit),("len",.globalImplicit),("TypeError",.globalImplicit),("LEFT",.globalImplicit),("set",.globalImplicit),("RIGHT",.globalImplicit)] [("self",.ref me),("key",kv),("value",vv)]
  X R H hfr F (by show(hd.heap_1 w.params).lookup _=_; k_is) (by show codeIn (hd.heap_1 w.params) _ _=_; k_is) rfl rfl rfl rfl (by decide) (fun L=>List.nodup_nil) (fun L x hx=>?_) rfl rfl rfl rfl rfl rfl (fun Γ hR ho hc s' H'=>badBody (fun p=>Ev.name rfl hk rfl) rfl rfl rfl rfl H' fun e s2 h=>⟨_,h⟩) hE
 rcases List.mem_cons.mp hx with rfl|hx
 ·exact .inl rfl
 rcases List.mem_cons.mp hx with rfl|hx
 ·exact .inl rfl
 rcases List.mem_cons.mp hx with rfl|hx
 ·exact .inl rfl
 contradiction
noncomputable abbrev nm119:List (Str×NameKind):=[("self",.local),("key",.cell),("isinstance",.globalImplicit),("tuple",.globalImplicit),("len",.globalImplicit),("TypeError",.globalImplicit),("all",.globalImplicit),("LEFT",.globalImplicit),("RIGHT",.globalImplicit)]
theorem loc119 (L:Addr):∀x∈([("self",.ref me),("key",kv)]:List (Str×Value)),nm119.lookup x.1=some .local∨(nm119.lookup x.1=some .cell∧((cellsFrom (L+1) nm119 []).lookup x.1).isSome=true):=by
 intro x hx
 rcases List.mem_cons.mp hx with rfl|hx
 ·exact .inl rfl
 rcases List.mem_cons.mp hx with rfl|hx
 ·exact .inr ⟨rfl,rfl⟩
 contradiction
theorem bad119 (X:Src (KF w) P) (R:Rm A (n+2)) (H:At σ P led s) (hfr:A.frames=some outer) (F:FrsIn led outer) (hk:Rep.bk.is P z kv) (hE:∀e s',Flown σ P led outer "TypeError" e s'→E e s'):wpAny (model prog w) A (call (.ref 119) [.ref me,kv]) Q E s:=
 callR (n:=n) nm119 [("self",.ref me),("key",kv)]
  X R H hfr F (by show(hd.heap_1 w.params).lookup _=_; k_is) (by show codeIn (hd.heap_1 w.params) _ _=_; k_is) rfl rfl rfl rfl (by decide) (fun L=>(by decide:[("key" : Str)].Nodup)) loc119 rfl rfl rfl rfl rfl rfl (fun Γ hR ho hc s' H'=>badBody (fun p=>Ev.cell rfl hk rfl (by rw[ho]; rfl)) rfl rfl rfl rfl H' fun e s2 h=>⟨_,h⟩) hE
variable {l r:Int} {es:List Ed}
theorem miss112 (X:Src (KF w) P) (R:Rm A (n+2)) (H:At σ P led s) (hfr:A.frames=some outer) (F:FrsIn led outer) (h1:(me,Asn.eq (instObj 199 dx))∈led) {lf rt gd:Addr} (h2:(dx,Asn.nsN 4 (bgF ed lf rt gd))∈led) (h3:(ed,Asn.dict (DKind.pair prog w) Rep.int es)∈led)
  (hk:(Rep.pair Rep.int Rep.int).is P (l,r) kv) (hb:look es (l,r)=none) (hE:∀e s',Flown σ P led outer "KeyError" e s'→E e s'):wpAny (model prog w) A (call (.ref 112) [.ref me,kv]) Q E s:=by
 refine callR (n:=n) [("self",.local),("key",.local),("isinstance",.globalImplicit),("tuple",.globalImplicit),("len",.globalImplicit),("TypeError",.globalImplicit)] [("self",.ref me),("key",kv)]
  X R H hfr F (by show(hd.heap_1 w.params).lookup _=_; k_is) (by show codeIn (hd.heap_1 w.params) _ _=_; k_is) rfl rfl rfl rfl (by decide) (fun L=>List.nodup_nil) (fun L x hx=>?_) rfl rfl rfl rfl rfl rfl (fun Γ hR ho hc s' H'=>?_) hE
 ·rcases List.mem_cons.mp hx with rfl|hx
  ·exact .inl rfl
  rcases List.mem_cons.mp hx with rfl|hx
  ·exact .inl rfl
  contradiction
 refine wpAny_execs_cons (wpAny_If (wpAny_mono ((pairTest (A:=Rep.int) (B:=Rep.int) (z:=(l,r)) (fun p=>Ev.name rfl hk rfl) rfl rfl rfl).run (fun b s'=>b=false∧Γ.at_ _ led s') s' H' fun s' H'=>⟨rfl,H'⟩) (fun b s1 zz21=>E0A2 zz21 fun e H1=>?_) fun _ _ q=>q.elim))
 subst e
 refine wpAny_execs_nil ?_
 refine wpAny_execs_cons (wpAny_Return_some (Subscript_ (wpAny_mono ((Ev.attr (me:=me) (d:=dx) (C:=199) (a:="_edges") (R:=Is (.ref ed)) (Ev.name rfl rfl rfl) h1 h2 rfl (bo_edges _) rfl rfl).run (fun v s'=>v=.ref ed∧Γ.at_ _ led s') s1 H1 fun v s' hv H'=>⟨hv,H'⟩) (fun v s2 zz20=>E0A2 zz20 fun e H2=>?_) fun _ _ q=>q.elim)))
 subst e
 refine wpAny_mono ((Ev.name (R:=Is kv) rfl rfl rfl:Ev Γ _ led (.Name "key" _) (Is kv)).run (fun v s'=>v=kv∧Γ.at_ _ led s') s2 H2 fun v s' hv H'=>⟨hv,H'⟩) (fun v s3 zz18=>E0A2 zz18 fun e H3=>?_) fun _ _ q=>q.elim
 subst e
 exact tail_any (At.dictT H3 (Γ.tl h3)) slot_dict_getitem.lookup (r_getmiss (D:=DKind.pair prog w) (k:=(l,r)) X Γ.rm.handled H3 (Γ.tl h3) Γ.rm.c1 hk hb fun e s4 h=>⟨_,h⟩) rfl
theorem miss119 (X:Src (KF w) P) (R:Rm A (n+2)) (H:At σ P led s) (hfr:A.frames=some outer) (F:FrsIn led outer) (h1:(me,Asn.eq (instObj 199 dx))∈led) {lf rt gd:Addr} (h2:(dx,Asn.nsN 4 (bgF ed lf rt gd))∈led) (h3:(ed,Asn.dict (DKind.pair prog w) Rep.int es)∈led)
  (hk:(Rep.pair Rep.int Rep.int).is P (l,r) kv) (hb:look es (l,r)=none) (hE:∀e s',Flown σ P led outer "KeyError" e s'→E e s'):wpAny (model prog w) A (call (.ref 119) [.ref me,kv]) Q E s:=by
 refine callR (n:=n) nm119 [("self",.ref me),("key",kv)]
  X R H hfr F (by show(hd.heap_1 w.params).lookup _=_; k_is) (by show codeIn (hd.heap_1 w.params) _ _=_; k_is) rfl rfl rfl rfl (by decide) (fun L=>(by decide:[("key" : Str)].Nodup)) loc119 rfl rfl rfl rfl rfl rfl (fun Γ hR ho hc s' H'=>?_) hE
 have hc0:Γ.own.lookup ("key" : Str)=some (Γ.L+1):=by rw[ho]; rfl
 refine wpAny_execs_cons (wpAny_If (wpAny_mono ((pairTest (A:=Rep.int) (B:=Rep.int) (z:=(l,r)) (fun p=>Ev.cell rfl hk rfl hc0) rfl rfl rfl).run (fun b s'=>b=false∧Γ.at_ _ led s') s' H' fun s' H'=>⟨rfl,H'⟩) (fun b s1 zz15=>E0A2 zz15 fun e H1=>?_) fun _ _ q=>q.elim))
 subst e
 refine wpAny_execs_nil ?_
 refine wpAny_execs_cons (wpAny_Delete (wpAny_deleteEach_cons ?_))
 rw[arm_delete_Subscript]
 refine wpAny_bind (wpAny_mono ((Ev.attr (me:=me) (d:=dx) (C:=199) (a:="_edges") (R:=Is (.ref ed)) (Ev.name rfl rfl rfl) h1 h2 rfl (bo_edges _) rfl rfl).run (fun v s'=>v=.ref ed∧Γ.at_ _ led s') s1 H1 fun v s' hv H'=>⟨hv,H'⟩) (fun v s2 zz11=>E0A2 zz11 fun e H2=>?_) fun _ _ q=>q.elim)
 subst e
 refine wpAny_bind (wpAny_holding (wpAny_mono ((Ev.cell (R:=Is kv) rfl rfl rfl hc0:Ev Γ _ led (.Name "key" _) (Is kv)).run (fun v s'=>v=kv∧Γ.at_ _ led s') s2 H2 fun v s' hv H'=>⟨hv,H'⟩) (fun v s3 zz6=>E0A2 zz6 fun e H3=>?_) fun _ _ q=>q.elim))
 subst e
 exact wpAny_bind (wpAny_standAt (wpAny_bind (wpAny_holding (r_delmiss (D:=DKind.pair prog w) (k:=(l,r)) X Γ.rm.handled H3 (Γ.tl h3) Γ.rm.c1 hk hb fun e s4 h=>⟨_,h⟩))))
end
end
end Mine
namespace Mine
set_option maxHeartbeats 1000000
noncomputable section
theorem sp_get (w:World):findIn (KF w) (.ref 199) "__getitem__" = some (some (.ref 112)):=by show findIn (hd.heap_1 w.params) _ _=_; k_is
theorem sp_set (w:World):findIn (KF w) (.ref 199) "__setitem__" = some (some (.ref 105)):=by show findIn (hd.heap_1 w.params) _ _=_; k_is
theorem sp_del (w:World):findIn (KF w) (.ref 199) "__delitem__" = some (some (.ref 119)):=by show findIn (hd.heap_1 w.params) _ _=_; k_is
theorem sp_iter (w:World):findIn (KF w) (.ref 199) "__iter__" = some (some (.ref 154)):=by show findIn (hd.heap_1 w.params) _ _=_; k_is
theorem sp_len (w:World):findIn (KF w) (.ref 199) "__len__" = some (some (.ref 161)):=by show findIn (hd.heap_1 w.params) _ _=_; k_is
theorem sp_eq (w:World):findIn (KF w) (.ref 199) (cmpInfo .Eq).2.1=some (some (.ref 168)):=by show findIn (hd.heap_1 w.params) _ _=_; k_is
theorem fn_get (w:World):isFn (KF w) (.ref 112)=true:=by show isFn (hd.heap_1 w.params) _=_; k_is
theorem fn_get' (w:World):fnIn (KF w) 112=true:=by show fnIn (hd.heap_1 w.params) _=_; k_is
theorem fn_set (w:World):isFn (KF w) (.ref 105)=true:=by show isFn (hd.heap_1 w.params) _=_; k_is
theorem fn_del (w:World):isFn (KF w) (.ref 119)=true:=by show isFn (hd.heap_1 w.params) _=_; k_is
theorem fn_iter (w:World):isFn (KF w) (.ref 154)=true:=by show isFn (hd.heap_1 w.params) _=_; k_is
theorem fn_len (w:World):isFn (KF w) (.ref 161)=true:=by show isFn (hd.heap_1 w.params) _=_; k_is
theorem fn_eq (w:World):isFn (KF w) (.ref 168)=true:=by show isFn (hd.heap_1 w.params) _=_; k_is
theorem no_seq (w:World):noSeq (KF w) 199=true:=by show noSeq (hd.heap_1 w.params) _=_; k_is
theorem no_dict (w:World):subIn (KF w) (.type "dict") (.ref 199)=some false:=by show subIn (hd.heap_1 w.params) _ _=_; k_is
end
end Mine
namespace Mine
set_option maxHeartbeats 1000000
noncomputable section
noncomputable def deedFn:Int→Addr
 | 0=>112
 | 1=>119
 | _=>105
noncomputable def wordOf (cls:String):Str:=if cls = "KeyError" then "none" else "kind"
noncomputable abbrev nmR:List (Str×NameKind):=[("graph",.local),("edge",.local),("deed",.local),("KeyError",.globalImplicit),("TypeError",.globalImplicit)]
section
variable {prog:Program} {w:World} {σ:Shared} {P:Heap} {s:Shared} {A:Around} {E:Value→Shared→Prop} {led:List (Addr×Asn)} {n:Nat} {me dx:Addr} {ev dv:Value} {Q:Value→Shared→Prop} {outer:List Env} {cls:String} {deed:Int} {lf rt gd ed:Addr}
theorem clauses {Γ:Cx ⟨prog,w,σ⟩ P nmR n} {m:Str→Option Value} {l:List Env} {e:Value} {p1 p2 p3 p4 p5 p6 p7 p8:Pos} {k1 k2:Nat} (hc:cls = "KeyError"∨cls = "TypeError") (h:Flown σ P (Γ.fr m++led) l cls e s)
  {Q:Flow→Shared→Prop} (hq:∀t s',Γ.at_ m led s'→Q (.ret (.str (wordOf cls) t)) s') :
  wpAny (model prog w) Γ.A (handleBy e Γ.env [.ExceptHandler (some (.Name "KeyError" p1)) none [.Return (some (.Constant (.str "none") k1 p2)) p3] p4,.ExceptHandler (some (.Name "TypeError" p5)) none [.Return (some (.Constant (.str "kind") k2 p6)) p7] p8]) Q E s:=by
 have hb:∀ {x:Str} {T:String} {p:Pos},nsIn (KF w) mainGlobals x=some none→bootBuiltins x=some (.type T)→x≠"__name__"→nmR.lookup x=some .globalImplicit→∀(A:Around) (E:Value→Shared→Prop) (Q:Value→Shared→Prop) (s:Shared),At σ P (Γ.fr m++led) s→(∀s',At σ P (Γ.fr m++led) s'→s'.heap=s.heap→Q (.type T) s')→wpAny (model prog w) A (eval (.Name x p) Γ.env) Q E s:=
  fun h1 h2 h3 h4 A E Q s H h=>v_builtin Γ.eok Γ.src H h1 h2 h3 (h s H rfl) h4 (Γ.dbg h4)
 have fin:∀ {x:Str} {k:Nat} {p q:Pos} (A:Around) (E:Value→Shared→Prop) s',At σ P (Γ.fr m++led) s'→(∀t s',Γ.at_ m led s'→Q (.ret (.str x t)) s')→wpAny (model prog w) A (execs [.Return (some (.Constant (.str x) k p)) q] Γ.env) Q E s':=
  fun A E s' H hq=>wpAny_execs_cons (wpAny_Return_some (v_str H fun t s2 H2=>hq t s2 H2))
 rcases hc with rfl|rfl
 ·exact h.clause (T:="KeyError") (b:=true) (isSubtype_of_subB (by decide +kernel)) (isSubtype_of_subB (by decide +kernel)) (isSubtype_of_subB (by decide +kernel)) (hb (nb_KeyError w) (by boot_by_name) (by decide) rfl) (fun _ A E s' H=>fin A E s' H hq) (fun c=>by contradiction)
 ·refine h.clause (T:="KeyError") (b:=false) (isSubtype_of_subB (by decide +kernel)) (isSubtype_of_subB (by decide +kernel)) (isSubtype_of_subB (by decide +kernel)) (hb (nb_KeyError w) (by boot_by_name) (by decide) rfl) (fun c=>by contradiction) fun _ s' h'=>?_
  exact h'.clause (T:="TypeError") (b:=true) (isSubtype_of_subB (by decide +kernel)) (isSubtype_of_subB (by decide +kernel)) (isSubtype_of_subB (by decide +kernel)) (hb (nb_TypeError w) (by boot_by_name) (by decide) rfl) (fun _ A E s' H=>fin A E s' H hq) (fun c=>by contradiction)
theorem refused_c (X:Src (KF w) P) (R:Rm A (n+6)) (H:At σ P led s) (hfr:A.frames=some outer) (F:FrsIn led outer) (h1:(me,Asn.eq (instObj 199 dx))∈led) (h2:(dx,Asn.nsN 4 (bgF ed lf rt gd))∈led) (hc:cls = "KeyError"∨cls = "TypeError")
  (hds:deed=0∨deed=1∨deed=2) (hdv:Rep.int.is P deed dv)
  (hr:∀(A':Around) (s':Shared) (led':List (Addr×Asn)) (outer':List Env) (Q:Value→Shared→Prop) (E:Value→Shared→Prop) (t:Tok),Rm A' (n+2)→At σ P led' s'→(∀x∈led,x∈led')→A'.frames=some outer'→FrsIn led' outer'→(∀e s2,Flown σ P led' outer' cls e s2→E e s2) →
   wpAny (model prog w) A' (call (.ref (deedFn deed)) (.ref me::ev::if deed=2 then [.int 1 t] else [])) Q E s')
  (h:∀t s',At σ P led s'→Q (.str (wordOf cls) t) s'):wpAny (model prog w) A (call (.ref 222) [.ref me,ev,dv]) Q E s:=by
 refine wpAny_call (callCx (w:=w) (n:=n+4) nmR [("graph",.ref me),("edge",ev),("deed",dv)]
  X R H (by show(hd.heap_1 w.params).lookup _=_; k_is) (by show codeIn (hd.heap_1 w.params) _ _=_; k_is) rfl rfl rfl rfl (by decide) (fun L=>List.nodup_nil) (fun L x hx=>?_) rfl rfl rfl rfl rfl rfl fun Γ hR hcode hown hcells hfA=>?_)
 ·rcases List.mem_cons.mp hx with rfl|hx
  ·exact .inl rfl
  rcases List.mem_cons.mp hx with rfl|hx
  ·exact .inl rfl
  rcases List.mem_cons.mp hx with rfl|hx
  ·exact .inl rfl
  contradiction
 have hfr':Γ.A.frames=some (Γ.env::outer):=by rw[hfA.2]; exact Around.frames_deeper hfr
 generalize hm:(fun x=>([("graph",Value.ref me),("edge",ev),("deed",dv)]:List (Str×Value)).reverse.lookup x)=m
 have hg:m "graph" = some (.ref me):=by rw[←hm]; rfl
 have he:m "edge" = some ev:=by rw[←hm]; rfl
 have hdd:m "deed" = some dv:=by rw[←hm]; rfl
 clear hm H
 have F':FrsIn (Γ.fr m++led) (Γ.env::outer):=fun env hh=>by
  rcases List.mem_cons.mp hh with rfl|hh
  ·exact⟨(by rw[Γ.eok.kind]; intro c; contradiction),Γ.L,_,hfA.1,.head _⟩
  ·exact(F.mono fun x hx=>List.mem_append_right _ hx) env hh
 refine⟨fun s H=>wpAny_execs_cons (wpAny_Try_except (wpAny_mono (Q:=fun _ _=>False) (E:=fun e s'=>Flown σ P (Γ.fr m++led) (Γ.env::outer) cls e s') ?_ (fun _ _ q=>q.elim) fun e s2 hfl=>hfl.caught hfr' fun s3 h3=>clauses hc h3 fun t s4 H4=>h t s4 (At.dropL H4)))⟩
 have inst:=fun(s:Shared) (H:At σ P (Γ.fr m++led) s)=>At.inst H (Γ.tl h1) (Γ.tl h2)
 have gE:∀ {p:Pos} (E:Value→Shared→Prop) (Q:Value→Shared→Prop) s,At σ P (Γ.fr m++led) s→(∀s',At σ P (Γ.fr m++led) s'→Q (.ref me) s')→wpAny (model prog w) Γ.A (eval (.Name "graph" p) Γ.env) Q E s:=fun E Q s H hq=>wpAny_Name (Γ.load H hg rfl (hq s H)) (Γ.dbg rfl)
 have eE:∀ {p:Pos} (E:Value→Shared→Prop) (Q:Value→Shared→Prop) s,At σ P (Γ.fr m++led) s→(∀s',At σ P (Γ.fr m++led) s'→Q ev s')→wpAny (model prog w) Γ.A (eval (.Name "edge" p) Γ.env) Q E s:=fun E Q s H hq=>wpAny_Name (Γ.load H he rfl (hq s H)) (Γ.dbg rfl)
 have tst:∀(i:Int) {k:Nat} {p q r:Pos} (Q:Bool→Shared→Prop) (E:Value→Shared→Prop) s,At σ P (Γ.fr m++led) s→(∀s',At σ P (Γ.fr m++led) s'→Q (deed == i) s')→wpAny (model prog w) Γ.A (isTrue (.Compare (.Name "deed" p) [.Eq] [.Constant (.int i) k q] r) Γ.env (eval (.Compare (.Name "deed" p) [.Eq] [.Constant (.int i) k q] r) Γ.env)) Q E s:=fun i k p q r Q E s H hq=>
  wpAny_mono ((Tst.eqI (Γ:=Γ) (m:=m) (led:=led) (Ev.name (R:=IsI deed) hdd hdv rfl) Ev.int rfl rfl).run (fun b s'=>b=(deed == i)∧At σ P (Γ.fr m++led) s') s H fun s' H'=>⟨rfl,H'⟩) (fun b s' zz4=>E0A2 zz4 fun e H'=>e▸hq s' H') fun _ _ z=>z.elim
 have raised:=fun(s':Shared) (H':At σ P (Γ.fr m++led) s') (Q:Value→Shared→Prop) t=>hr Γ.A s' (Γ.fr m++led) (Γ.env::outer) Q _ t (hR.less (by exact bl3 rfl)) H' (fun x hx=>List.mem_append_right _ hx) hfr' F' fun e s2 q=>q
 have raised1:=fun(s':Shared) (H':At σ P (Γ.fr m++led) s') (Q:Value→Shared→Prop) t=>hr Γ.A.in1 s' (Γ.fr m++led) (Γ.env::outer) Q _ t (Rm.in1 (hR.less (by lia))) H' (fun x hx=>List.mem_append_right _ hx) hfr' F' fun e s2 q=>q
 refine wpAny_execs_cons (wpAny_If (tst 0 _ _ s H fun s1 H1=>?_))
 rcases hds with rfl|rfl|rfl
 ·refine wpAny_execs_cons (s_expr Γ.eok (wpAny_mono (Q:=fun _ _=>False) (Subscript_ (gE _ _ s1 H1 fun s2 H2=>eE _ _ s2 H2 fun s3 H3=>?_)) (fun _ _ q=>q.elim) fun _ _ q=>q) rfl)
  refine E3A2 (inst s3 H3) fun od es ep I _=>?_
  exact sub_inst (X.K.keeps H3.sub) I (sp_get w) (fn_get' w) (fn_get w) (raised1 s3 H3 _ 0) rfl
 ·refine wpAny_execs_cons (wpAny_If (tst 1 _ _ s1 H1 fun s2 H2=>?_))
  refine wpAny_execs_cons (wpAny_Delete (wpAny_deleteEach_cons ?_))
  rw[arm_delete_Subscript]
  refine wpAny_bind (gE _ _ s2 H2 fun s3 H3=>wpAny_bind (wpAny_holding (eE _ _ s3 H3 fun s4 H4=>wpAny_bind (wpAny_standAt (wpAny_bind (wpAny_holding ?_))))))
  refine E3A2 (inst s4 H4) fun od es ep I _=>?_
  exact del_inst (X.K.keeps H4.sub) I (no_seq w) (sp_del w) (fn_del w) (wpAny_mono (raised s4 H4 (fun _ _=>False) 0) (fun _ _ q=>q.elim) fun _ _ q=>q)
 ·refine wpAny_execs_cons (wpAny_If (tst 1 _ _ s1 H1 fun s2 H2=>?_))
  refine wpAny_execs_cons (wpAny_Assign_Subscript (v_int H2 fun t s3 H3=>gE _ _ s3 H3 fun s4 H4=>eE _ _ s4 H4 fun s5 H5=>?_) rfl)
  refine E3A2 (inst s5 H5) fun od es ep I _=>?_
  exact set_inst (X.K.keeps H5.sub) I (no_seq w) (sp_set w) (fn_set w) (wpAny_mono (raised s5 H5 (fun _ _=>False) t) (fun _ _ q=>q.elim) fun _ _ q=>q)
end
end
end Mine
namespace Mine
noncomputable section
section
variable {G:Gl} {P P':Heap} {nms:List (Str×NameKind)} {n:Nat} {Γ:Cx G P nms n} {m:Str→Option Value} {led:List (Addr×Asn)} {e e1 e2:Expr} {x y:Str} {pos pos' p1 p2 pf pg:Pos} {κ:Type} {di:DecidableEq κ} {D:DKind G.prog G.w κ} {ps:List (κ×Int)} {d:Addr} {xs:List Int} {v:Value} {led':List (Addr×Asn)} {s:Shared}
theorem Cx.less (l:List (Addr×Asn)) (H:Γ.at_ m (l++led) s):Γ.at_ m led s:=At.subl H ((List.Sublist.refl _).append (List.sublist_append_right _ _))
theorem EvA.lenSetV {pl:Sem Bool} (hl:∀P' (k:Sub P P') l,Ev (Γ.up k) m l (.Name x pf) (Is (.builtin "len"))) (hs:∀P' (k:Sub P P') l,Ev (Γ.up k) m l (.Name y pg) (Is (.type "set"))) (h1:EvA Γ m led e1 Rep.val (.ref d)) (hm:(d,Asn.dict D Rep.int ps)∈led) (hn:(ps.map (·.2)).Nodup) (hz:ps.length≤500)
  (he1:eval (.Call (.Attribute e1 "values" p1) [] [] p2) Γ.env=(do
   let ov ←eval e1 Γ.env
   standAt p1.atName
   let (f,first) ←holding [ov] (getMethod ov "values" pl)
   callWith p2 f first (backTo p2 (starEach [] Γ.env)) []))
  (he2:∀env,eval (.Call (.Name y pg) [.Call (.Attribute e1 "values" p1) [] [] p2] [] pos) env=(do callWith pos (←eval (.Name y pg) env) [] (backTo pos (starEach [.Call (.Attribute e1 "values" p1) [] [] p2] env)) (backToKw pos (keywordEach [] env))))
  (hs2:∀env,starEach [.Call (.Attribute e1 "values" p1) [] [] p2] env=(false,eval (.Call (.Attribute e1 "values" p1) [] [] p2) env)::starEach [] env)
  (he3:∀env,eval (.Call (.Name x pf) [.Call (.Name y pg) [.Call (.Attribute e1 "values" p1) [] [] p2] [] pos] [] pos') env=(do callWith pos' (←eval (.Name x pf) env) [] (backTo pos' (starEach [.Call (.Name y pg) [.Call (.Attribute e1 "values" p1) [] [] p2] [] pos] env)) (backToKw pos' (keywordEach [] env))))
  (hs3:∀env,starEach [.Call (.Name y pg) [.Call (.Attribute e1 "values" p1) [] [] p2] [] pos] env=(false,eval (.Call (.Name y pg) [.Call (.Attribute e1 "values" p1) [] [] p2] [] pos) env)::starEach [] env) :
  EvA Γ m led (.Call (.Name x pf) [.Call (.Name y pg) [.Call (.Attribute e1 "values" p1) [] [] p2] [] pos] [] pos') Rep.int ps.length:=fun P' k=>
 EvG.callB1 (R1:=fun P' v l=>∃q,v=.ref q∧∃vw,l=(q,Asn.iset (insAll [] (ps.map (·.2))))::(vw,View "dict_values" d)::led) (hl P' k _)
  (EvG.callT1 (R1:=fun P' v l=>∃vw,v=.ref vw∧l=(vw,View "dict_values" d)::led) (hs P' k _)
   (EvG.m0 (id:="dict.values") (pl:=pl) (h1 P' k) (fun P1 k1 v l Q s zz46 H hq=>E0A2 zz46 fun e1 ev=>by
     have ev:v=.ref d:=ev
     subst e1 ev
     exact m_dict (H:At _ _ _ _) (Γ.tl hm) F.slot_dict_values F.type_dict_values hq)
    (fun P1 k1 v l Q s zz42 H hq=>E0A2 zz42 fun e1 ev=>by
     have ev:v=.ref d:=ev
     subst e1 ev
     exact r_values ((Γ.up k).up k1).src (H:At _ _ _ _) (Γ.tl hm) fun vw s' H'=>hq P1 _ _ s' (Sub.refl P1) ⟨vw,rfl,rfl⟩ (H'.perm List.perm_middle)) he1)
   (fun P1 k1 v l Q s zz37 H hq=>E1A2 zz37 fun vw ev el=>by
    subst ev el
    exact r_setVals (H:At _ _ _ _) (Γ.tl (.head _)) (Γ.tl (.tail _ hm)) Γ.rm.handled hz fun P2 q s' k2 H'=>hq P2 _ _ s' k2 ⟨q,rfl,vw,rfl⟩ (H'.perm List.perm_middle)) he2 hs2)
  (fun P1 k1 v l Q s ⟨q,ev,vw,el⟩ H hq=>by
   subst ev el
   refine r_isetlen (H:At _ _ _ _) (Γ.tl (.head _)) fun t s' H'=>hq P1 _ _ s' (Sub.refl P1) ⟨rfl,t,?_⟩ (Cx.less [_,_] H')
   rw[insAll_nodup _ _ (by exact hn),List.nil_append,List.length_map]) he3 hs3
theorem EvA.lenSet (hl:∀P' (k:Sub P P') l,Ev (Γ.up k) m l (.Name x pf) (Is (.builtin "len"))) (hs:∀P' (k:Sub P P') l,Ev (Γ.up k) m l (.Name y pg) (Is (.type "set"))) (h1:EvA Γ m led e1 (Rep.list Rep.int) xs) (hn:xs.Nodup) (hz:xs.length≤500)
  (he2:∀env,eval (.Call (.Name y pg) [e1] [] pos) env=(do callWith pos (←eval (.Name y pg) env) [] (backTo pos (starEach [e1] env)) (backToKw pos (keywordEach [] env))))
  (hs2:∀env,starEach [e1] env=(false,eval e1 env)::starEach [] env)
  (he3:∀env,eval (.Call (.Name x pf) [.Call (.Name y pg) [e1] [] pos] [] pos') env=(do callWith pos' (←eval (.Name x pf) env) [] (backTo pos' (starEach [.Call (.Name y pg) [e1] [] pos] env)) (backToKw pos' (keywordEach [] env))))
  (hs3:∀env,starEach [.Call (.Name y pg) [e1] [] pos] env=(false,eval (.Call (.Name y pg) [e1] [] pos) env)::starEach [] env) :
  EvA Γ m led (.Call (.Name x pf) [.Call (.Name y pg) [e1] [] pos] [] pos') Rep.int xs.length:=fun P' k=>
 EvG.callB1 (R1:=fun P' v l=>∃q,v=.ref q∧l=(q,Asn.iset (insAll [] xs))::led) (hl P' k _)
  (EvG.callT1 (hs P' k _) (h1 P' k)
   (fun P1 k1 v l Q s ⟨el,a,vs,nn,ev,g,f⟩ H hq=>by
    subst ev el
    exact r_setRep (H:At _ _ _ _) ⟨a,vs,nn,rfl,g,f⟩ Γ.rm.handled hz fun P2 q s' k2 H'=>hq P2 _ _ s' k2 ⟨q,rfl,rfl⟩ (H'.perm List.perm_middle)) he2 hs2)
  (fun P1 k1 v l Q s zz21 H hq=>E1A2 zz21 fun q ev el=>by
   subst ev el
   refine r_isetlen (H:At _ _ _ _) (Γ.tl (.head _)) fun t s' H'=>hq P1 _ _ s' (Sub.refl P1) ⟨rfl,t,?_⟩ (Cx.less [_] H')
   rw[insAll_nodup _ _ (by exact hn),List.nil_append]) he3 hs3
theorem EvG.sortedItems {pl:Sem Bool} {ps:List (Int×Int)} (hs:∀l,Ev Γ m l (.Name y pg) (Is (.builtin "sorted"))) (h1:Ev Γ m led e1 (Is (.ref d))) (hm:(d,Asn.dict (DKind.int G.prog G.w) Rep.int ps)∈led) (hz:ps.length≤6)
  (he1:eval (.Call (.Attribute e1 "items" p1) [] [] p2) Γ.env=(do
   let ov ←eval e1 Γ.env
   standAt p1.atName
   let (f,first) ←holding [ov] (getMethod ov "items" pl)
   callWith p2 f first (backTo p2 (starEach [] Γ.env)) []))
  (he2:∀env,eval (.Call (.Name y pg) [.Call (.Attribute e1 "items" p1) [] [] p2] [] pos) env=(do callWith pos (←eval (.Name y pg) env) [] (backTo pos (starEach [.Call (.Attribute e1 "items" p1) [] [] p2] env)) (backToKw pos (keywordEach [] env))))
  (hs2:∀env,starEach [.Call (.Attribute e1 "items" p1) [] [] p2] env=(false,eval (.Call (.Attribute e1 "items" p1) [] [] p2) env)::starEach [] env) :
  EvG Γ m led (.Call (.Name y pg) [.Call (.Attribute e1 "items" p1) [] [] p2] [] pos) fun P' v l=>l=led∧∃qs,qs.Perm ps∧(Rep.list PII).is P' qs v:=
 EvG.callB1 (hs _) (EvG.items (x:=none) (D:=DKind.int G.prog G.w) (V:=Rep.int) h1 hm he1)
  (fun P1 k1 v l Q s ⟨e0,vw,ev,el⟩ H hq=>by
   subst ev el
   refine r_sortedItems (H:=(H:At _ _ _ _)) Γ.rm.handled (by have:=Γ.rm.units; unfold cLine; exact un0 (by assumption) rfl) (Γ.tl (.head _)) (Γ.tl (.tail _ hm)) hz fun P2 q qs s' k2 hq' H'=>?_
   refine E2A4 (At.persist H') fun P3 o k3 ho zz1 H3=>?_
   obtain⟨vs,nn,eo,f⟩:=zz1
   exact hq P3 _ _ s' (k2.trans k3) ⟨rfl,qs,hq',q,vs,nn,rfl,eo▸ho,f⟩ (Cx.less [_] H3)) he2 hs2
end
end
end Mine
namespace Mine
noncomputable section
section
variable {G:Gl} {P:Heap} {nms:List (Str×NameKind)} {n:Nat} {Γ:Cx G P nms n} {m:Str→Option Value} {led:List (Addr×Asn)} {pos:Pos}
theorem Ev.len_ (hl:nms.lookup ("len" : Str)=some .globalImplicit):Ev Γ m led (.Name "len" pos) (Is (.builtin "len")):=Ev.builtin (nb_len _) (by boot_by_name) (by decide) rfl hl
theorem Ev.set_ (hl:nms.lookup ("set" : Str)=some .globalImplicit):Ev Γ m led (.Name "set" pos) (Is (.type "set")):=Ev.builtin (nb_set _) (by boot_by_name) (by decide) rfl hl
theorem Ev.range_ (hl:nms.lookup ("range" : Str)=some .globalImplicit):Ev Γ m led (.Name "range" pos) (Is (.type "range")):=Ev.builtin (nb_range _) (by boot_by_name) (by decide) rfl hl
theorem Ev.sorted_ (hl:nms.lookup ("sorted" : Str)=some .globalImplicit):Ev Γ m led (.Name "sorted" pos) (Is (.builtin "sorted")):=Ev.builtin (nb_sorted _) (by boot_by_name) (by decide) rfl hl
theorem Ev.dict_ (hl:nms.lookup ("dict" : Str)=some .globalImplicit):Ev Γ m led (.Name "dict" pos) (Is (.type "dict")):=Ev.builtin (nb_dict _) (by boot_by_name) (by decide) rfl hl
theorem Ev.list_ (hl:nms.lookup ("list" : Str)=some .globalImplicit):Ev Γ m led (.Name "list" pos) (Is (.type "list")):=Ev.builtin (nb_list _) (by boot_by_name) (by decide) rfl hl
end
end
end Mine
namespace Mine
set_option maxHeartbeats 1000000
noncomputable section
theorem bgL_app {prog:Program} {w:World} {me dx ed lf rt gd:Addr} {es:List Ed} {gl:List ((Int×Int)×Addr)} {kl kr:List Int} {F:Int×Int→Int×Int→Prop} {rest:List (Addr×Asn)} :
  bgL prog w me dx ed lf rt gd es gl kl kr F rest=bgL prog w me dx ed lf rt gd es gl kl kr F []++rest:=by unfold bgL; simp
theorem bgL_perm {prog:Program} {w:World} {me dx ed lf rt gd:Addr} {es:List Ed} {gl:List ((Int×Int)×Addr)} {kl kr:List Int} {F:Int×Int→Int×Int→Prop} {rest:List (Addr×Asn)} (X:List (Addr×Asn)) :
  (bgL prog w me dx ed lf rt gd es gl kl kr F (X++rest)).Perm (X++bgL prog w me dx ed lf rt gd es gl kl kr F rest):=by
 rw[bgL_app,bgL_app (rest:=rest)]
 exact List.perm_append_comm_assoc _ _ _
theorem bgL_tail {prog:Program} {w:World} {me dx ed lf rt gd:Addr} {es:List Ed} {gl:List ((Int×Int)×Addr)} {kl kr:List Int} {F:Int×Int→Int×Int→Prop} {rest:List (Addr×Asn)} {x:Addr×Asn} (h:x∈rest) :
  x∈bgL prog w me dx ed lf rt gd es gl kl kr F rest:=by rw[bgL_app]; exact List.mem_append_right _ h
theorem filter_none {α:Type} (l:List α):(l.filter fun _=>false)=[]:=by induction l with|nil=>rfl|cons a r ih=>rw[List.filter_cons,if_neg Bool.false_ne_true,ih]
noncomputable abbrev idG (es:List (Int×Int)):List (Int×List Int):=graphM id id es
theorem idG_snoc (es:List (Int×Int)) (e:Int×Int):idG (es++[e])=put (idG es) e.1 ((look (idG es) e.1).getD []++[e.2]):=by
 unfold idG graphM; rw[List.foldl_append]; rfl
noncomputable abbrev nmH:List (Str×NameKind):=[("graph",.local),("edges",.cell),("most",.local),("found",.cell),("left",.local),("heads",.local),("right",.local),("search",.local),("turn",.local),("count",.local),("pairs",.local),("rows",.local),("_law_most",.globalImplicit),("len",.globalImplicit),("set",.globalImplicit),("HopcroftKarp",.globalImplicit),("range",.globalImplicit),("sorted",.globalImplicit)]
section
variable {prog:Program} {w:World} {σ:Shared} {P:Heap} {s:Shared} {A:Around} {E:Value→Shared→Prop} {me dx ed lf rt gd ed2:Addr} {es:List Ed} {gl:List ((Int×Int)×Addr)} {kl kr:List Int} {rest:List (Addr×Asn)} {F:Int×Int→Int×Int→Prop}
theorem holds_c {n:Nat} {Q:Value→Shared→Prop} (X:Src (KF w) P) (R:Rm A (n+30)) (H:At σ P (bgL prog w me dx ed lf rt gd es gl kl kr F rest) s) (hPc:(170,Asn.codeTab)∈rest) (hd2:(ed2,Asn.dict (DKind.pair prog w) Rep.int es)∈rest) (I:Inv es gl kl kr) (hz:es.length≤7)
  (h:∀P' s',Sub P P'→At σ P' (bgL prog w me dx ed lf rt gd es gl kl kr F rest) s'→Q (.bool true) s'):wpAny (model prog w) A (call (.ref 227) [.ref me,.ref ed2]) Q E s:=by
 have hm1:(me,Asn.eq (instObj 199 dx))∈bgL prog w me dx ed lf rt gd es gl kl kr F rest:=.head _
 have hm2:(dx,Asn.nsN 4 (bgF ed lf rt gd))∈bgL prog w me dx ed lf rt gd es gl kl kr F rest:=.tail _ (.head _)
 have hm3:(ed2,Asn.dict (DKind.pair prog w) Rep.int es)∈bgL prog w me dx ed lf rt gd es gl kl kr F rest:=bgL_tail hd2
 have find:∀ {A:Around} {E:Value→Shared→Prop} {P:Heap} {s:Shared} {X:List (Addr×Asn)} {Q:Value→Shared→Prop},Src (KF w) P→Rm A (n+22)→At σ P (X++bgL prog w me dx ed lf rt gd es gl kl kr F rest) s →
   (∀P' d s',Sub P P'→At σ P' ((d,Asn.dict (DKind.int prog w) Rep.int (foundM (es.map (·.1))))::(X++bgL prog w me dx ed lf rt gd es gl kl kr F rest)) s'→Q (.ref d) s')→wpAny (model prog w) A (call (.ref 175) [.ref me]) Q E s:=fun {A E P s Y Q} X0 R0 H0 hq=>
  find_c (n:=n) X0 R0 (H0.perm (bgL_perm Y)) (List.mem_append_right _ hPc) I hz fun P' d s' k H'=>hq P' d s' k (H'.perm ((bgL_perm Y).symm.cons _))
 have hn:=I.end_
 have hrg:=I.rng
 generalize bgL prog w me dx ed lf rt gd es gl kl kr F rest=L0 at H h hm1 hm2 hm3 find
 clear hPc hd2 I
 refine E1A1 (Classical.axiomOfChoice fun ep:Nat=>Upd.ex (Asn.dictX (DKind.pair prog w) Rep.int es (some ep)) hm3) fun ledp hU=>?_
 generalize hE:es.map (·.1)=EE at find hn hrg
 have hEl:EE.length=es.length:=by rw[←hE,List.length_map]
 have hin:∀e∈EE,(look es e).isSome=true:=fun e he=>look_isSome.mpr (hE▸he)
 have hr2:∀e∈EE,0≤e.2∧e.2<6:=fun e he=>(hrg e he).2
 refine E1A4 (found_ok hn hr2 (by exact eq1 (by assumption) (by assumption))) fun st0 _ _ hfo _=>?_
 generalize foundM EE=F0 at find hfo
 refine wpAny_call (callCx (w:=w) (n:=n+28) nmH [("graph",.ref me),("edges",.ref ed2)]
  X R H (by show(hd.heap_1 w.params).lookup _=_; k_is) (by show codeIn (hd.heap_1 w.params) _ _=_; k_is) rfl rfl rfl rfl (by decide) (fun L=>(by decide:([("found" : Str),"edges"]:List Str).Nodup)) (fun L x hx=>?_) rfl rfl rfl rfl rfl rfl fun Γ hR hcode hown hcells _=>?_)
 ·rcases List.mem_cons.mp hx with rfl|hx
  ·exact .inl rfl
  rcases List.mem_cons.mp hx with rfl|hx
  ·exact .inr ⟨rfl,rfl⟩
  contradiction
 clear H R
 have oE:Γ.own.lookup ("edges" : Str)=some (Γ.L+1):=by rw[hown]; rfl
 have oF:Γ.own.lookup ("found" : Str)=some (Γ.L+2):=by rw[hown]; rfl
 have hf1:(([("edges" : Str),"found"]:List Str).all fun x=>(Γ.own.lookup x).isSome)=true:=by rw[hown]; rfl
 have hf2:(([("edges" : Str)]:List Str).all fun x=>(Γ.own.lookup x).isSome)=true:=by rw[hown]; rfl
 refine St.begin_ (F:=fun m=>m "graph" = some (.ref me)∧m "edges" = some (.ref ed2)) (fun m0 Q0 hm hq0=>?_) ⟨rfl,rfl⟩
 have hbG:=hm.1
 have hbE:=hm.2
 clear hm
 refine St.assignG (R:=fun P' v l=>L0=l∧IsI (mostM EE) v) (EvG.callF (f:=215) (R2:=fun _ vs=>vs=[.ref ed2]) (Ev.glob (gl_most _) rfl rfl) (by show keepIn (hd.heap_1 w.params) _=_; k_is)
  (EvsG.cons (R2:=fun _ vs=>vs=[]) (EvV.val (Ev.cell hbE rfl rfl oE)) (fun _=>rfl) (fun _ _=>EvsG.nil rfl) (fun P' v vs hv e=>by rw[e,(hv:v=.ref ed2)])) ?_ (fun _=>rfl) (fun _=>rfl)) rfl (fun _=>rfl) ?_
 ·rintro P' k vs Q' s rfl H hq
  exact most_c (n:=n) (Γ.up k).src (hR.less (by exact bl3 rfl)) H (Γ.tl hm3) hz (hE▸hn) (hE▸hr2) fun P2 t s' k2 H'=>hq P2 _ _ s' k2 ⟨rfl,t,by rw[hE]⟩ H'
 rintro P1 vm _ k1 ⟨rfl,hvm⟩
 have X1:=Γ.src.mono k1; refine St.at X1 ?_
 refine St.assignC (R:=fun P' v l=>∃fd,v=.ref fd∧l=(fd,Asn.dict (DKind.int prog w) Rep.int F0)::L0) (EvG.meth (me:=me) (d:=dx) (C:=199) (g:=175) (Ev.name hbG rfl rfl) hm1 hm2 rfl (bm_find w) Evs.nil rfl
  ⟨fun m Q s H k=>find ((Γ.up k1).src) (hR.less (by exact bl3 rfl)) H fun P' d s' kk H'=>k P' _ _ s' kk ⟨d,rfl,rfl⟩ (H'.perm List.perm_middle)⟩) rfl oF (fun _=>rfl) ?_
 intro P2 _ _ k2 hz745
 refine E1A2 hz745 fun fd ee743 ee744=>?_
 clear hz745
 subst ee743 ee744
 have X2:=X1.mono k2; refine St.at2 X2 ?_
 have hvm2:=Rep.int.mono k2 hvm
 have hlen:cmpI .NotEq (F0.length:Int) (mostM EE)=some false:=by show some _=_; rw[hfo.len]; simp
 refine St.pass (TsA.orF (TsA.cmpI (i:=F0.length) (j:=mostM EE) ?_ (EvA.name rfl hvm2 rfl) hlen rfl) (TsA.orF (TsA.cmpI (i:=F0.length) (j:=mostM EE) ?_ (EvA.name rfl hvm2 rfl) hlen rfl) TsA.orN)) fun P3 k3=>have X3:=X2.mono k3; St.at2 X3 ?_
 ·exact EvA.lenD (D:=DKind.int prog w) (V:=Rep.int) (d:=fd) (ps:=F0) (fun _ _=>Ev.len_ rfl) (EvA.cell rfl rfl rfl oF) (.head _) (by have:=hfo.small; exact tr1 (by assumption) rfl) (fun _=>rfl) (fun _=>rfl)
 ·exact EvA.lenSetV (D:=DKind.int prog w) (d:=fd) (ps:=F0) (fun _ _ _=>Ev.len_ rfl) (fun _ _ _=>Ev.set_ rfl) (EvA.cell rfl rfl rfl oF) (.head _) hfo.vals (by have:=hfo.small; exact tr1 (by assumption) rfl) rfl (fun _=>rfl) (fun _=>rfl) (fun _=>rfl) (fun _=>rfl)
 refine St.pass (TsA.lne (A:=Rep.int) (xs:=((F0.map (·.1)).filter fun _=>false).map id) (ys:=[]) EqR.int (by exact bl0 rfl) ?_ (EvA.list EvsA.nil (by trivial)) (by rw[filter_none]; rfl) rfl) fun P4 k4=>have X4:=X3.mono k4; St.at2 X4 ?_
 ·refine EvA.comp (B:=Rep.int) (S:=fun l=>∃ep,l=(fd,Asn.dictX (DKind.int prog w) Rep.int F0 (some ep))::L0) (RL:=fun Pin _ l=>Pin l∧∃ep,l=(fd,Asn.dictX (DKind.int prog w) Rep.int F0 (some ep))::L0)
   (fun P' k=>Walk.conv (Walk.dict (D:=DKind.int prog w) (V:=Rep.int) (ps:=F0) (d:=fd) (by exact Ev.cell rfl rfl rfl oF) (fun ep=>.head)) (by rw[List.length_map]) (fun P i v zz740=>E1A2 zz740 fun p hp hv=>⟨p.1,by rw[List.getElem?_map,hp]; rfl,hv⟩) (fun Pin P l zz712=>E1A3 zz712 fun ep e1 e2 _=>⟨by rw[e1,e2]; exact .head _,ep,e2⟩))
   (fun _ _ _ h=>h) (fun l zz683 X P' s H=>E1A1 zz683 fun ep e=>by subst e; exact At.unpin H (Upd.pre .head _)) (by have:=hfo.small; rw[List.length_map]; exact tr1 (by assumption) rfl) (fun _ _=>rfl) rfl rfl rfl hf1 rfl rfl ?_
  rintro l1 P' k Γc mc v it D' ys x ⟨ep,rfl⟩ hA hcl hx hv
  refine E1A2 (List.mem_map.mp hx) fun p hp ee593=>?_
  subst ee593
  refine⟨TstsG.one (TsA.notin (D:=DKind.pair prog w) (V:=Rep.int) (ps:=es) (d:=ed2) (k:=(p.1,p.2)) (EvA.pair (EvA.name upd_self hv rfl) (EvA.subD (D:=DKind.int prog w) (V:=Rep.int) (ps:=F0) (d:=fd) (k:=p.1) (EvA.own (A:=Rep.val) k oF rfl rfl (hcl _ (.tail _ (.head _))) rfl) (.tail _ (.tail _ (List.mem_append_right _ (.head _)))) (EvA.name upd_self hv rfl) (mem_look hfo.keys hp) (fun _ _=>rfl)) (fun _=>rfl) (fun _=>rfl))
   (EvA.own (A:=Rep.val) k oE hbE rfl (hcl _ (.head _)) rfl) (.tail _ (.tail _ (List.mem_append_right _ (.tail _ hm3)))) (by rw[hin _ (hfo.mem p hp)]; rfl) rfl),fun c=>by cases c⟩
 refine St.assignG (EvC.dict0 (DKind.int prog w) (Rep.list Rep.int)) rfl (fun _=>rfl) ?_
 rintro P5 _ _ k5 ⟨e1,hdd,rfl,rfl⟩
 have X5:=X4.mono k5; refine St.at2 X5 ?_
 obtain rfl:=e1.symm
 refine St.forIt (Walk.dict (D:=DKind.pair prog w) (V:=Rep.int) (ps:=es) (d:=ed2) (by exact Ev.cell hbE rfl rfl oE) (fun ep=>.tail (.tail (hU ep)))) (fun _ _=>rfl) (.inr ⟨_,_,_,rfl⟩) ?_
 intro Pin P6 _ k6 hz541
 refine E1A3 hz541 fun ep ee539 ee540 e2=>?_
 clear hz541
 subst ee539 ee540
 obtain rfl:=e2.symm
 refine⟨fun i P2 m' led'=>An4 (m' "heads" = some (.ref hdd)) (m' "most" = some vm) (m' "edges" = some (.ref ed2)) (led'=(hdd,Asn.dict (DKind.int prog w) (Rep.list Rep.int) (idG (EE.take i)))::(fd,Asn.dict (DKind.int prog w) Rep.int F0)::ledp ep),?_,⟨rfl,rfl,hbE,rfl⟩,?_,?_⟩
 ·rintro i P2 m' _ ⟨_,_,_,rfl⟩
  exact .tail _ (.tail _ (hU ep).mem')
 ·rintro i P7 P8 k7 k8 v it m' _ Q' hi ⟨hh1,hh2,hh3,rfl⟩ ⟨p,hp,hv⟩ T
  have hpe:EE[i]? = some p.1:=by rw[←hE,List.getElem?_map,hp]; rfl
  have htk:=take_snoc hpe
  have hdl:(EE.take i).length≤7:=Nat.le_trans (List.length_take_le' ..) (by exact eq1 (by assumption) (by assumption))
  generalize hdone:EE.take i=done at *
  have G:=graph_all (f:=(id:Int→Int)) (h:=id) (fun a b q=>q) done
  have hxs:((look (idG done) p.1.1).getD []).length≤900:=by
   have h1:((idG done).flatMap (·.2)).length=done.length:=G.all
   have h2:=look_sum (idG done) p.1.1
   lia
  refine⟨_,Asg.two (A:=Rep.int) (B:=Rep.int) (u:=p.1.1) (w:=p.1.2) hv (fun v'=>Asg.name rfl) (fun m' v'=>Asg.name rfl) (fun _=>rfl),?_⟩
  intro m'' hz443
  refine E3A4 hz443 fun v1 v2 m1 ha hb ee441 ee442=>?_
  clear hz443
  subst ee441 ee442
  have X8:=X5.mono (k6.trans (k7.trans k8)); refine St.at2 X8 ?_
  have hh4:upd (upd m' "left" v1) "right" v2 "heads" = some (.ref hdd):=hh1
  refine St.setitemA (D:=DKind.int prog w) (V:=Rep.list Rep.int) (ps:=idG done) (k:=p.1.1) (b:=(look (idG done) p.1.1).getD []++[p.1.2]) (d:=hdd)
   (EvA.cat (EvA.dget (D:=DKind.int prog w) (V:=Rep.list Rep.int) (d:=hdd) (b:=[]) (EvA.name (A:=Rep.val) hh4 rfl rfl) (.tail _ (.head _)) (EvA.name (A:=Rep.int) (y:=p.1.1) rfl ha rfl) (EvA.list EvsA.nil (by trivial)) rfl (fun _=>rfl) (fun _=>rfl))
    (EvA.list (EvsA.cons (EvA.name (A:=Rep.int) (y:=p.1.2) rfl hb rfl) (fun _=>rfl) EvsA.nil) (by exact Nat.succ_pos _)) (by simp only[List.length_cons,List.length_nil]; lia))
   (fun P' kk=>Ev.name hh4 rfl rfl) (fun P' kk=>Ev.name rfl (Rep.int.mono kk ha) rfl) (.tail .head) (by have h3:(idG done).length≤done.length:=G.len; lia) (fun _=>rfl) fun P' kk=>?_
  exact St.nil fun s H=>T.next P' (upd (upd m' "left" v1) "right" v2) ((hdd,Asn.dict (DKind.int prog w) (Rep.list Rep.int) (idG (done++[p.1])))::(fd,Asn.dict (DKind.int prog w) Rep.int F0)::ledp ep) s kk ⟨hh1,hh2,hh3,by rw[htk]⟩ (by rw[idG_snoc]; exact H)
 rintro P7 k7 m' _ ⟨hh1,hh2,hh3,rfl⟩
 have X7:=X5.mono (k6.trans k7); refine St.at2 X7 ?_
 rw[List.take_of_length_le (by exact Nat.le_of_eq (by assumption))]
 refine St.turn fun s H=>⟨P7,Sub.refl P7,(hdd,Asn.dict (DKind.int prog w) (Rep.list Rep.int) (idG EE))::(fd,Asn.dict (DKind.int prog w) Rep.int F0)::L0,At.unpin H (Γ.tu (.tail (.tail (hU ep).inv))),?_⟩
 clear H
 have hgl:(idG EE).length≤7:=by have h3:(idG EE).length≤EE.length:=(graph_all (f:=(id:Int→Int)) (h:=id) (fun a b q=>q) EE).len; lia
 have hrun:=fun st:HS Int=>run_most (f:=(id:Int→Int)) (h:=id) (fun a b q=>q) (fun a b q=>q) hn hr2 (by exact eq1 (by assumption) (by assumption)) st
 have hrun':∀st:HS Int,∃st',An8 (runM (idG EE) 9 st=some (mostM EE,st')) ((st'.pl.length:Int)=mostM EE) (st'.pl.map (·.1)).Nodup (st'.pl.map (·.2)).Nodup (∀p∈st'.pl,p∈EE) (st'.pl.length≤7) (st'.pr.length≤1000) (st'.dl.length≤1000):=fun st=>by
  refine E1A6 (hrun st) fun st' a1 a2 a3 a4 a5 a6=>?_
  exact⟨st',a1,a2,a3,a4,fun p hp=>by obtain⟨a,b,e1,e2,h⟩:=a5 p.1 p.2 hp; rw[show p=(a,b) from Prod.ext e1 e2]; exact h,a6.1,a6.2.1,a6.2.2⟩
 clear hrun
 generalize idG EE=gg at hgl hrun'
 generalize hB:(hdd,Asn.dict (DKind.int prog w) (Rep.list Rep.int) gg)::(fd,Asn.dict (DKind.int prog w) Rep.int F0)::L0=B
 have hgB:(hdd,Asn.dict (DKind.int prog w) (Rep.list (DKind.int prog w).rep) gg)∈B:=hB▸.head _
 have heB:(ed2,Asn.dict (DKind.pair prog w) Rep.int es)∈B:=hB▸.tail _ (.tail _ hm3)
 refine St.assignG (R:=fun P' v l=>Ex7 fun x dx' pl pr lv dl t'=>v=.ref x∧l=hkLed (DKind.int prog w) x dx' hdd pl pr lv dl gg B hs0 t') (EvG.callF (f:=80) (R2:=fun P' vs=>vs=[.ref hdd]) (Ev.glob (gl_HK _) rfl rfl) (by show keepIn (hd.heap_1 w.params) _=_; k_is)
    (EvsG.cons (R2:=fun _ vs=>vs=[]) (EvV.val (Ev.name hh1 rfl rfl)) (fun _=>rfl) (fun _ _=>EvsG.nil rfl) (fun P' v vs hv e=>by rw[e,(hv:v=.ref hdd)])) ?_ (fun _=>rfl) (fun _=>rfl)) rfl (fun _=>rfl) ?_
 ·rintro P' k vs Q' s rfl H hq
  refine make_c (n:=n+1) (D:=DKind.int prog w) (g:=gg) (gd:=hdd) (X7.mono k) (hR.less (by lia)) (by exact tr1 (by assumption) rfl) H (Γ.tl hgB) fun P'' x dx' pl pr lv dl t s' k' H'=>?_
  exact hq P'' _ _ s' k' ⟨x,dx',pl,pr,lv,dl,t,rfl,rfl⟩ (At.perm H' (List.perm_append_comm_assoc (Γ.fr m') [_,_,_,_,_,_] B))
 rintro P8 _ _ k8 ⟨x,dx',pl,pr,lv,dl,t',rfl,rfl⟩
 have X8:=X7.mono k8; refine St.at2 X8 ?_
 refine St.forIt (Walk.rngT (i:=2) (EvA.range (fun _ _=>Ev.range_ rfl) (show EvA _ _ _ _ Rep.int ((2:Nat):Int) from EvA.int) (fun _=>rfl) (fun _=>rfl)) (by decide)) (fun _ _=>rfl) (.inl fun _ _=>rfl) ?_
 rintro Pin P9 _ k9 ⟨rfl,rfl⟩
 refine⟨fun i P2 m2 led'=>An4 (m2 "search" = some (.ref x)) (m2 "most" = some vm) (m2 "edges" = some (.ref ed2)) (Ex2 fun st t=>An4 (led'=hkLed (DKind.int prog w) x dx' hdd pl pr lv dl gg B st t) (st.pl.length≤1000) (st.pr.length≤1000) (st.dl.length≤1000)),fun _ _ _ _ _=>trivial,⟨rfl,hh2,hh3,hs0,t',rfl,Nat.zero_le _,Nat.zero_le _,Nat.zero_le _⟩,?_,?_⟩
 ·rintro i P10 P11 k10 k11 v it m2 _ Q' hi ⟨hg1,hg2,hg3,st,t,rfl,z1,z2,z3⟩ hv T
  obtain⟨st2,r1,r2,r3,r4,r5,r6,r7,r8⟩:=hrun' st
  have h6:st2.pl.length≤6:=by
   have:=ints6 r3 fun x hx=>by
    refine E1A2 (List.mem_map.mp hx) fun p hp ee164=>?_
    subst ee164
    exact(hrg p (r5 p hp)).1
   rwa [List.length_map] at this
  refine⟨_,Asg.name rfl,?_⟩
  rintro _ rfl
  have X11:=X8.mono (k9.trans (k10.trans k11)); refine St.at2 X11 ?_
  have hg4:upd m2 "turn" v "search" = some (.ref x):=hg1
  refine St.unpack (A:=Rep.int) (B:=Rep.val) (u:=mostM EE) (w:=.ref pl) (R:=fun P' v l=>∃t',l=it::hkLed (DKind.int prog w) x dx' hdd pl pr lv dl gg B st2 t'∧(Rep.pair Rep.int Rep.val).is P' (mostM EE,.ref pl) v) (EvG.meth (me:=x) (d:=dx') (C:=80) (g:=56) (Ev.name hg4 rfl rfl) (.tail _ (.tail _ (.tail _ (.tail _ (.tail _ (.head _)))))) (.tail _ (.tail _ (.tail _ (.tail _ (.tail _ (.tail _ (.head _))))))) rfl (mo_num w) Evs.nil rfl ?_)
   (fun _ _ _ zz162=>E1A2 zz162 fun _ _ hv=>hv) (fun _ _ _ _=>Asg.name rfl) (fun _ _ _ _ _=>Asg.name rfl) (fun _=>rfl) (fun _=>rfl) (fun _=>rfl) ?_
  ·exact⟨fun m Q s H k=>num_c (n:=n) (N:=9) (D:=DKind.int prog w) (g:=gg) (X11) (hR.less (by lia)) (((fam_hk hgB).pre [it]).pre (Γ.fr m)) r1 z1 z2 z3 H fun P' t' v s' kk hv H'=>k P' _ _ s' kk ⟨t',rfl,hv⟩ H'⟩
  intro P12 vv l v1 v2 m3 m4 k12 hz116
  refine E1A2 hz116 fun t2 ee115 _=>?_
  clear hz116
  subst ee115
  rintro hv1 hv2 rfl rfl
  have X12:=X11.mono k12; refine St.at2 X12 ?_
  have hv2:v2=.ref pl:=hv2
  subst hv2
  have hpm:(pl,Asn.dict (DKind.int prog w) Rep.int st2.pl)∈it::hkLed (DKind.int prog w) x dx' hdd pl pr lv dl gg B st2 t2:=.tail _ (.tail _ (.tail _ (.tail _ (.head _))))
  have hed:(ed2,Asn.dict (DKind.pair prog w) Rep.int es)∈it::hkLed (DKind.int prog w) x dx' hdd pl pr lv dl gg B st2 t2:=.tail _ (.tail _ (.tail _ (.tail _ (.tail _ (.tail _ (.tail _ heB))))))
  generalize hLL:it::hkLed (DKind.int prog w) x dx' hdd pl pr lv dl gg B st2 t2=LL at hpm hed
  refine St.assignG (EvG.sortedItems (ps:=st2.pl) (fun l=>Ev.sorted_ rfl) (Ev.name rfl rfl rfl) hpm h6 rfl (fun _=>rfl) (fun _=>rfl)) rfl (fun _=>rfl) ?_
  rintro P13 vr l13 k13 ⟨e13,qs,hq,hvr⟩
  obtain rfl:=e13.symm
  have X13:=X12.mono k13; refine St.at2 X13 ?_
  have hql:qs.length=st2.pl.length:=hq.length_eq
  have hqn:=((hq.map (·.2)).nodup_iff).mpr r4
  have hqe:∀p∈qs,p∈EE:=fun p hp=>r5 p (hq.subset hp)
  have hc1:cmpI .NotEq (mostM EE) (mostM EE)=some false:=by show some _=_; simp
  have hc2:cmpI .NotEq (qs.length:Int) (mostM EE)=some false:=by show some _=_; rw[hql,r2]; simp
  have hvmm:=Rep.int.mono (((((k3.trans k4).trans (k5.trans k6)).trans k7).trans k8).trans ((((k9.trans k10).trans k11).trans k12).trans k13)) hvm2
  have hmm:upd (upd (upd (upd m2 "turn" v) "count" v1) "pairs" (.ref pl)) "rows" vr "most" = some vm:=hg2
  have hee:upd (upd (upd (upd m2 "turn" v) "count" v1) "pairs" (.ref pl)) "rows" vr "edges" = some (.ref ed2):=hg3
  have hqz:qs.length≤6:=by exact eq1 (by assumption) (by assumption)
  generalize hmR:upd (upd (upd (upd m2 "turn" v) "count" v1) "pairs" (.ref pl)) "rows" vr=mR at hmm hee
  have hrr:mR "rows" = some vr:=by rw[←hmR]; rfl
  have hcc:mR "count" = some v1:=by rw[←hmR]; rfl
  have hss:mR "search" = some (.ref x):=by rw[←hmR]; exact hg4
  clear hmR
  refine St.pass (TsA.orF (TsA.cmpI (i:=mostM EE) (j:=mostM EE) (EvA.name hcc (Rep.int.mono k13 hv1) rfl) (EvA.name hmm hvmm rfl) hc1 rfl)
   (TsA.orF (TsA.cmpI (i:=qs.length) (j:=mostM EE) (EvA.lenL (A:=PII) (fun _ _=>Ev.len_ rfl) (EvA.name hrr hvr rfl) (by exact tr1 (by assumption) rfl) (fun _=>rfl) (fun _=>rfl)) (EvA.name hmm hvmm rfl) hc2 rfl)
   (TsA.orF (TsA.cmpI (i:=((qs.filter fun _=>true).map (·.2)).length) (j:=mostM EE) ?_ (EvA.name hmm hvmm rfl) (by rw[filter_all,List.length_map]; exact hc2) rfl) TsA.orN))) fun P14 k14=>have X14:=X13.mono k14; St.at2 X14 ?_
  ·refine EvA.lenSet (fun _ _ _=>Ev.len_ rfl) (fun _ _ _=>Ev.set_ rfl) ?_ (by rw[filter_all]; exact hqn) (by rw[filter_all,List.length_map]; exact tr1 (by assumption) rfl) (fun _=>rfl) (fun _=>rfl) (fun _=>rfl) (fun _=>rfl)
   refine EvA.comp (B:=PII) (A:=Rep.int) (S:=(· = LL)) (fun P' k=>Walk.lst (by exact EvA.name hrr ((Rep.list PII).mono k hvr) rfl)) (fun _ _ _ h=>h) (fun l e X P s H=>e▸H) (by exact tr1 (by assumption) rfl) (fun _ _=>rfl) rfl rfl rfl rfl rfl rfl ?_
   rintro l1 P' k Γc mc v' it' D' ys u rfl hA hcl hu hv'
   exact⟨TstsG.nil,fun _=>EvA.ev fun _ kk=>Ev.snd (A:=Rep.int) (B:=Rep.int) (Ev.name upd_self (PII.mono kk hv') rfl)⟩
  refine St.pass (TsA.lne (A:=PII) (xs:=(qs.filter fun _=>false).map id) (ys:=[]) (EqR.pair EqR.int EqR.int) (by exact bl0 rfl) ?_ (EvA.list EvsA.nil (by trivial)) (by rw[filter_none]; rfl) rfl) fun P15 k15=>have X15:=X14.mono k15; St.at2 X15 ?_
  ·refine EvA.comp (B:=PII) (S:=(· = LL)) (fun P' k=>Walk.lst (by exact EvA.name hrr ((Rep.list PII).mono (k14.trans k) hvr) rfl)) (fun _ _ _ h=>h) (fun l e X P s H=>e▸H) (by exact tr1 (by assumption) rfl) (fun _ _=>rfl) rfl rfl rfl hf2 rfl rfl ?_
   rintro l1 P' k Γc mc v' it' D' ys u rfl hA hcl hu hv'
   exact⟨TstsG.one (TsA.notin (D:=DKind.pair prog w) (V:=Rep.int) (ps:=es) (d:=ed2) (k:=u) (EvA.name upd_self hv' rfl) (EvA.own (A:=Rep.val) k oE hee rfl (hcl _ (.head _)) rfl) (.tail _ (.tail _ (List.mem_append_right _ hed))) (by rw[hin _ (hqe u hu)]; rfl) rfl),fun c=>by cases c⟩
  subst hLL
  exact St.nil fun s H=>T.next P15 mR (hkLed (DKind.int prog w) x dx' hdd pl pr lv dl gg B st2 t2) s (((k12.trans k13).trans k14).trans k15) ⟨hss,hmm,hee,st2,t2,rfl,by exact tr1 (by assumption) rfl,by exact(by assumption),by exact(by assumption)⟩ H
 ·rintro P10 k10 m2 _ ⟨hg1,hg2,hg3,st,t,rfl,z1,z2,z3⟩
  have X10:=X8.mono (k9.trans k10); refine St.at2 X10 ?_
  refine St.retA EvA.bool ?_
  rintro P11 v s' k11 hv H'
  have hv:v=.bool true:=hv
  subst hv
  refine hq0 _ _ (h P11 s' (((((((((k1.trans k2).trans (k3.trans k4)).trans (k5.trans k6)).trans k7).trans k8).trans k9).trans k10).trans k11)) ?_)
  subst hB
  exact(At.dropL H').subl ((((((((List.Sublist.refl _).cons _).cons _).cons _).cons _).cons _).cons _).cons _ |>.cons _)
end
end
end Mine
namespace Mine
noncomputable section
noncomputable def Rep.str:Rep Str:=⟨fun _ x v=>∃t,v=.str x t,fun _ h=>h⟩
theorem EqR.str:EqR Rep.str 0 where
 inj:=fun zz156 zz157=>E1A1 zz156 fun t e=>E1A1 zz157 fun t' e'=>by rw[e] at e'; exact(Value.str.inj e').1
 eq:=fun {A s x y u v} hu zz150 zz151=>E1A1 zz150 fun t e=>E1A1 zz151 fun t' e'=>by
  subst e e'
  exact fun prog w E Q hq=>wpAny_eqBool_str hq
section
variable {G:Gl} {P P':Heap} {nms:List (Str×NameKind)} {n:Nat} {Γ:Cx G P nms n} {m:Str→Option Value} {led led':List (Addr×Asn)} {e e1 e2 e3 iter:Expr} {es:List Expr} {x a:Str} {v:Value} {pos p1 p2 pf:Pos}
 {α β γ κ:Type} {A:Rep α} {B:Rep β} {C:Rep γ} {y:α} {z:β} {u:γ} {xs ys:List α} {op:CmpOp} {c c':Bool} {di:DecidableEq κ} {D:DKind G.prog G.w κ} {V:Rep β} {ps qs:List (κ×β)} {k:κ} {d d':Addr} {ep ep':Option Nat}
theorem EvA.str {i:Str} {kk:Nat}:EvA Γ m led (.Constant (.str i) kk pos) Rep.str i:=EvA.ev fun _ _=>Ev.str
theorem EvA.neg1 {kk:Nat}:EvA Γ m led (.UnaryOp .USub (.Constant (.int 1) kk p1) pos) Rep.int (-1):=EvA.ev fun _ _=>
 ⟨fun Q s H h=>wpAny_UnaryOp (Ev.int.run _ s H fun v s1 zz143 H1=>E1A1 zz143 fun t e=>by subst e; exact v_neg (H1:At _ _ _ _) fun t s' H'=>h _ _ ⟨t,rfl⟩ H')⟩
theorem TsA.strNe {i j:Str} (h1:EvA Γ m led e1 Rep.str i) (h2:EvA Γ m led e2 Rep.str j) (hc:(i != j)=c) (hb:behindInMarks .NotEq e2=false):TsA Γ m led (.Compare e1 [.NotEq] [e2] pos) c:=
 TsA.cmp h1 h2 (fun P' k v w Q s zz133 zz134 H hq=>E1A1 zz133 fun t ev=>E1A1 zz134 fun t' ew=>by
  subst ev ew
  exact PyProof.Rows.ne_str (hc▸hq s H)) hb
theorem TsA.andT (h1:TsA Γ m led e true) (h2:TsA Γ m led (.BoolOp .And es pos) c):TsA Γ m led (.BoolOp .And (e::es) pos) c:=fun P' k=>
 ⟨fun Q s H h=>isTrue_and ((h1 P' k).run _ s H fun P1 l s1 k1 e H1=>by
  subst e
  exact(h2 P1 (k.trans k1)).run _ s1 H1 fun P2 l s2 k2 e H2=>h P2 l s2 (k1.trans k2) e H2)⟩
theorem TsA.andF (h1:TsA Γ m led e false):TsA Γ m led (.BoolOp .And (e::es) pos) false:=fun P' k=>
 ⟨fun Q s H h=>isTrue_and ((h1 P' k).run _ s H fun P1 l s1 k1 e H1=>by
  exact h P1 l s1 k1 e H1)⟩
theorem TsA.andN:TsA Γ m led (.BoolOp .And [] pos) true:=fun P' k=>⟨fun Q s H h=>isTrue_and_nil (h P' led s (Sub.refl P') rfl H)⟩
theorem EvA.and2 (h1:EvA Γ m led e1 Rep.bool true) (h2:EvA Γ m led e2 Rep.bool c):EvA Γ m led (.BoolOp .And [e1,e2] pos) Rep.bool c:=fun P' k=>
 ⟨fun Q s H h=>BoolOp_and ((h1 P' k).run _ s H fun P1 v l s1 k1 zz123 H1=>E0A2 zz123 fun e ev=>by
  have ev:v=.bool true:=ev
  subst e ev
  refine wpAny_truthy_bool ?_
  exact BoolOp_one ((h2 P1 (k.trans k1)).run _ s1 H1 fun P2 v l s2 k2 hv H2=>h P2 v l s2 (k1.trans k2) hv H2))⟩
theorem F2.take {R:α→β→Prop} {as:List α} {bs:List β} (h:F2 R as bs):∀i,F2 R (as.take i) (bs.take i):=by
 induction h with
 | nil=>intro i; rw[List.take_nil,List.take_nil]; exact .nil
 | cons p _ ih=>intro i; cases i with
  | zero=>exact .nil
  | succ i=>exact .cons p (ih i)
noncomputable def Rep.listI {α:Type} (A:Rep α):Rep (List α):=⟨fun P xs v=>∃a o vs n,v=.ref a∧P.get? a=some o∧o.cls=.type "list"∧o.data=.seq vs n∧F2 (A.is P) xs vs.toList,
 fun k zz111=>E4A5 zz111 fun a o vs n e g c d f=>⟨a,o,vs,n,e,k _ _ g,c,d,f.imp fun _ _=>A.mono k⟩⟩
theorem Rep.toI {α:Type} {A:Rep α} {P:Heap} {xs:List α} {v:Value}:(Rep.list A).is P xs v→(Rep.listI A).is P xs v:=fun zz98=>E3A3 zz98 fun a vs n e g f=>⟨a,_,vs,n,e,g,rfl,rfl,f⟩
theorem EvA.slice {i:Int} {q:Nat} (h1:EvA Γ m led e1 (Rep.listI A) xs) (h2:EvA Γ m led e2 Rep.int i) (hz:xs.length≤1000) (hq:∀vs:Array Value,vs.size=xs.length→slicePick vs none (some i) none=(vs.toList.take q).toArray) (ht:∀o r,letTemporaryGo e1 o r=pure ()) :
  EvA Γ m led (.Subscript e1 (.Slice none (some e2) none p2) pos) (Rep.list A) (xs.take q):=fun P' k=>
 ⟨fun Q s H h=>wpAny_Subscript_list_slice ((h1 P' k).run _ s H fun P1 v l s1 k1 ⟨e,a,oo,vs,nn,ev,g,gc,gd,f⟩ H1=>by
  subst e ev
  refine wpAny_evalPart_none (wpAny_evalPart_some ((h2 P1 (k.trans k1)).run _ s1 H1 fun P2 v l s2 k2 ⟨e,t,ev⟩ H2=>?_))
  subst e ev
  have hl:xs.length=vs.size:=by have:=f.length; exact this
  refine⟨a,vs,none,some i,rfl,⟨_,At.sub H2 _ _ (k2 _ _ g),gc,_,gd⟩,by rw[sizeLine_eq]; exact eq2 (by assumption) (tr1 (by assumption) rfl),.none,.int _ _,?_⟩
  have H3:=At.drop (At.push H2 (R:=Asn.eq { cls:=.type "slice",data:=.fields #[.none,.int i t,.none] }) rfl rfl)
  rw[hq vs hl.symm]
  have H4:=At.push H3 (R:=Asn.list A (xs.take q)) (o:=listOf (vs.toList.take q).toArray 0) ⟨_,0,rfl,(f.imp fun _ _=>A.mono k2).take q⟩ rfl
  refine E2A4 (At.persist H4) fun P3 o k3 ho zz46 H5=>?_
  obtain⟨ws,n2,eo,f2⟩:=zz46
  rw[Heap.size_push] at ho
  exact h P3 _ _ _ ((k1.trans k2).trans k3) ⟨rfl,_,ws,n2,rfl,eo▸ho,f2⟩ H5) ht⟩
theorem EvA.last (h1:EvA Γ m led e1 (Rep.list A) xs) (h2:EvA Γ m led e2 Rep.int (-1)) (hy:xs.getLast? = some y) (hz:xs.length≤1000)
  (hs:∀o j,subscripted e2 false o j=operate [o,j] (getItem o j)):EvA Γ m led (.Subscript e1 e2 pos) A y:=fun P' k=>
 ⟨fun Q s H h=>Subscript_ ((h1 P' k).run _ s H fun P1 v l s1 k1 ⟨e,a,vs,nn,ev,g,f⟩ H1=>by
  subst e ev
  exact(h2 P1 (k.trans k1)).run _ s1 H1 fun P2 w l s2 k2 ⟨e,t,ew⟩ H2=>by
   subst e ew
   have hl:xs.length=vs.size:=by have:=f.length; exact this
   rw[List.getLast?_eq_getElem?] at hy
   refine E1A2 (f.get' hy) fun u hu hr=>?_
   have hlt:=(List.getElem?_eq_some_iff.mp hy).1
   have hi:(-1+(vs.size:Int)).toNat=xs.length - 1:=by lia
   refine subscriptTail_builtinR (x:=u) (IsL.isList (n:=nn) (At.sub H2 _ _ (k2 _ _ g))).typeIs slot_list_getitem.lookup (wpAny_getItem_list_neg (IsL.isList (n:=nn) (At.sub H2 _ _ (k2 _ _ g))) (by decide) (by lia) (by decide) (by rw[hi]; simpa using hu) ⟨rfl,h P2 u _ s2 (k1.trans k2) ⟨rfl,A.mono k2 hr⟩ H2⟩) (hs _ _))⟩
end
end
end Mine
namespace Mine
noncomputable section
section
variable {prog:Program} {w:World} {σ:Shared} {C I g ed:Addr} {ep:Nat} {raw:List DictEntry}
noncomputable def keyGsp (w:World) (σ:Shared) (C I g ed:Addr) (ep:Nat) (raw:List DictEntry):Gsp:=
 ⟨σ,C,I,g,KeyIt ed raw.length ep,raw.length,fun i s=>∃P m,At σ P [(C,Asn.ns m),(I,KeyIt ed raw.length ep i)] s∧Src (KF w) P∧Raw ed ep raw s.heap,fun _ _ i v=>∃e,raw[i]? = some e∧v=e.key⟩
noncomputable abbrev nmI:List (Str×NameKind):=[("self",.local),("edge",.local)]
theorem Fr2.refl {C I:Addr} {s:Shared} (h:AllBare s.gens):Fr2 C I s s:=⟨fun _ _ _ _ e=>e,rfl,⟨h,fun _ _ e=>e⟩⟩
theorem Fr2.trans {C I:Addr} {s₀ s s':Shared} (a:Fr2 C I s₀ s) (b:Fr2 C I s s'):Fr2 C I s₀ s':=⟨fun x o h1 h2 e=>b.heap x o h1 h2 (a.heap x o h1 h2 e),b.os.trans a.os,⟨b.gens.bare,fun g x e=>b.gens.kept g x (a.gens.kept g x e)⟩⟩
variable {env:Env} {A:Around} {p1 p2 p3 p4 p5 p6 p7:Pos} {kk:Result→Sem Fin} {gl:List Value} {cc:Code} {pp:Pos}
theorem seg_keys {n':Nat} (O:EnvOk env C nmI) (hco:env.scope.isCoroutine=false) (hia:interactive env=false) (hRm:Rm A (n'+2))
  (hfin:∀s₀ s,Fr2 C I s₀ s→Seg (model prog w) A (keyGsp w σ C I g ed ep raw).fin (keyGsp w σ C I g ed ep raw).proto 0 s₀ cc (kk (.ok .next)) [] s) :
  ∀(k i:Nat) (s₀ s:Shared),raw.length - i=k→i≤raw.length→Fr2 C I s₀ s→(keyGsp w σ C I g ed ep raw).Rdy i s →
   Seg (model prog w) A (keyGsp w σ C I g ed ep raw).fin (keyGsp w σ C I g ed ep raw).proto k s₀ (.forLoop (.Name "edge" p1) (.ref I) [.Expr (.Yield (some (.Name "edge" p4)) p5) p6] [] env)
    ((model prog w).den (.forLoop (.Name "edge" p1) (.ref I) [.Expr (.Yield (some (.Name "edge" p4)) p5) p6] [] env)) [.ret kk none false gl cc pp []] s:=by
 intro k
 induction k with
 | zero=>
  intro i s₀ s hk hi F hz14
  refine E2A3 hz14 fun P m H X hr=>?_
  clear hz14
  have hin:i=raw.length:=by exact sb7 (by assumption) (by assumption)
  subst hin
  refine E1A4 (H.base.ld.wide) fun P0 k0 _ H0 ha=>?_
  have H1:At { σ with gens:=s.gens } P0 [(C,Asn.ns m),(I,KeyIt ed raw.length ep raw.length)] s:=⟨H0,H.os,H.base.gens⟩
  show Seg _ A _ _ _ s₀ _ ((forTurn _ _ _ _ env).onRaise (fun x=>do noteFrame x env; theTreesLotGoes x)) _ s
  rw[Sem.onRaise_eq_wrap]
  refine seg_bind_wrap (wpAny_standAt ?_)
  refine seg_bind_wrap (wpAny_onRaise (n_key_end (by exact hRm.handled) (H1.perm (List.Perm.swap _ _ _)) hr fun s' H'=>?_))
  refine seg_again rfl ?_
  show Seg _ A _ _ _ s₀ _ (((execs [] env).onRaise (fun x=>do noteFrame x env; theTreesLotGoes x)) >>= fun f=>pure (.done f)) _ s'
  refine seg_bind (wpAny_onRaise (wpAny_execs_nil ?_))
  refine seg_leaf (.ok .next) (hfin _ _ (F.trans ⟨fun b o h1 h2 e=>H'.sub _ _ (ha b o e ?_),H'.os.trans H.os.symm,⟨H'.gens.bare,H'.gens.kept⟩⟩))
  simp[h1,h2]
 | succ k ih=>
  intro i s₀ s hk hi F hz12
  refine E2A3 hz12 fun P m H X hr=>?_
  clear hz12
  have hlt:i<raw.length:=by exact sb0 (by assumption)
  refine E1A4 (H.base.ld.wide) fun P0 k0 _ H0 ha=>?_
  have H1:At { σ with gens:=s.gens } P0 [(C,Asn.ns m),(I,KeyIt ed raw.length ep i)] s:=⟨H0,H.os,H.base.gens⟩
  show Seg _ A _ _ _ s₀ _ ((forTurn _ _ _ _ env).onRaise (fun x=>do noteFrame x env; theTreesLotGoes x)) _ s
  rw[Sem.onRaise_eq_wrap]
  refine seg_bind_wrap (wpAny_standAt ?_)
  refine seg_bind_wrap (wpAny_onRaise (n_key H1 (.tail .head) hr (List.getElem?_eq_getElem hlt) fun s1 H2=>?_))
  refine seg_bind_wrap (wpAny_of_eq (a:=()) rfl ?_)
  refine seg_bind_wrap (wpAny_assign_Name (v_store O H2 .head (fun s2 H3=>?_) rfl))
  rw[Sem.bind_eq_wrap',Sem.wrap_wrap]
  refine seg_execs_cons (seg_Expr_Yield rfl rfl rfl ?_ hco hia)
  refine wpAny_Name (v_loadName O H3 (.head _) upd_self ?_ rfl) rfl
  intro kap hkap
  have e1:raw.length - k=i+1:=by exact sb4 (by assumption) (by assumption)
  have e2:raw.length - 1 - k=i:=by exact sb3 (by assumption)
  have FF:Fr2 C I s s2:=⟨fun b o h1 h2 e=>H3.sub _ _ (ha b o e (by simp[h1,h2])),H3.os.trans H.os.symm,⟨H3.gens.bare,H3.gens.kept⟩⟩
  refine⟨by show k<raw.length; exact sb0 (by assumption),F.trans FF,?_,?_,?_⟩
  ·show Gsp.Lives _ (raw.length - k) s2
   rw[e1]
   obtain⟨o,eo,es,ep',r1,r2,_⟩:=H3.ld.get (.head _)
   refine E1A2 (H3.ld.get (.tail _ (.head _))) fun o' eo' r'=>?_
   exact⟨⟨o,eo,es,ep',r1,r2⟩,o',eo',fun P=>r'⟩
  ·show Gsp.Yields _ (raw.length - 1 - k) _ s₀ s2
   rw[e2]
   refine⟨P0,P0,fun b o (h1:b≠C) (h2:b≠I) e=>ha b o (F.heap b o h1 h2 e) (by simp[h1,h2]),Sub.refl P0,H3.sub,H3.ld.off _ (.head _),H3.ld.off _ (.tail _ (.head _)),⟨raw[i],List.getElem?_eq_getElem hlt,rfl⟩⟩
  ·show ∀s'',Gsp.Rdy _ (raw.length - k) s''→_
   rw[e1]
   intro s'' hrd
   refine hkap .none s'' ?_
   exact seg_execs_nil (seg_again rfl (ih (i+1) s'' s'' (by exact sb1 (by assumption)) hlt (Fr2.refl (E2A2 (hrd) fun _ _ H _=>H.gens.bare)) hrd))
noncomputable abbrev iterBody (p1 p2 p3 p4 p5 p6 p7:Pos):List Stmt:=[.For (.Name "edge" p1) (.Attribute (.Name "self" p2) "_edges" p3) [.Expr (.Yield (some (.Name "edge" p4)) p5) p6] [] p7]
theorem seg_iter {n':Nat} {P:Heap} {s₀:Shared} {m0:Str→Option Value} {me dx:Addr} {f0:Str→Option Value} {kz:Nat} (O:EnvOk env C nmI) (hco:env.scope.isCoroutine=false) (hia:interactive env=false) (hRm:Rm A (n'+2)) (X:Src (KF w) P)
  (H:At σ P [(C,Asn.ns m0),(me,Asn.eq (instObj 199 dx)),(dx,Asn.nsN kz f0),(ed,Asn.eq (dictOf raw ep))] s₀) (hm0:m0 "self" = some (.ref me)) (hf0:f0 "_edges" = some (.ref ed)) (ao:AttrOk w 199 "_edges") (hI:I=s₀.heap.objs.size) :
  Seg (model prog w) A (keyGsp w σ C I g ed ep raw).fin (keyGsp w σ C I g ed ep raw).proto raw.length s₀ (.func (iterBody p1 p2 p3 p4 p5 p6 p7) env) ((model prog w).den (.func (iterBody p1 p2 p3 p4 p5 p6 p7) env)) [] s₀:=by
 refine seg_func (seg_execs_cons ?_)
 rw[arm_exec_For]
 refine seg_bind_wrap (wpAny_standAt ?_)
 refine seg_bind_wrap (Attribute_name (wpAny_Name (v_loadName O H (.head _) hm0 ?_ rfl) rfl))
 refine E3A6 (H.inst (.tail _ (.head _)) (.tail _ (.tail _ (.head _)))) fun od es ep' Io a b c _ _=>?_
 refine get_value (X.K.keeps H.sub) Io (plainGet_of ao.g).1 (findObj_own ao.h ao.f rfl (lookIn_ns a b ((c _).trans hf0))) rfl ?_
 refine seg_bind_wrap (wpAny_of_eq (a:=.ref ed) rfl ?_)
 refine seg_bind_wrap (wpAny_standAt ?_)
 have he:=H.obj (.tail _ (.tail _ (.tail _ (.head _))))
 have hed:=H.noSys X (.tail _ (.tail _ (.tail _ (.head _))))
 refine seg_bind_wrap (wpAny_holding ?_)
 have hT:({ s₀ with toks:=_ }:Shared).TypeIs (.ref ed) "dict":=⟨_,he,rfl⟩
 refine wpAny_pyIter_slot hT F.slot_dict_iter (wpAny_call_entry F.slot_dict_iter hT F.entry_dict_iter ?_ (F.args_dict_iter_1 _))
 refine wpAny_bind ?_
 refine wpAny_bind (wpAny_notOrdered_dict hT (wpAny_pure ?_))
 show wpAny _ _ (Builtin.Dict.showsAll ed >>= _) _ _ _
 unfold Builtin.Dict.showsAll
 rw[if_neg (by rw[hed]; exact Bool.false_ne_true)]
 refine wpAny_bind (wpAny_pure (wpAny_bind (wpAny_dictEntries he rfl (wpAny_bind (wpAny_dictEpoch he rfl ?_)))))
 refine wpAny_bind (wpAny_newObj_type (wpAny_pure ⟨_,rfl,"dict_keyiterator",_,⟨_,Heap.get?_push_size _ rfl,rfl⟩,F.slot_dict_keyiterator_next.lookup,?_⟩))
 have H1:=At.push (H.tok (tk:=s₀.toks+1)) (R:=KeyIt ed raw.length ep 0) (o:={ cls:=.type "dict_keyiterator",data:=.fields #[.ref ed,rawInt 0,rawInt (raw.toArray.size:Int),rawInt ep] }) ⟨rfl,by simp[rawInt]⟩ rfl
 subst hI
 refine seg_call fun p=>?_
 refine seg_keys O hco hia hRm (fun s₁ s F=>?_) raw.length 0 s₀ _ (Nat.sub_zero _) (Nat.zero_le _) ⟨fun b o _ _ e=>Heap.get?_push_of_some _ e,rfl,⟨H.gens.bare,fun _ _ e=>e⟩⟩
  ⟨P,m0,At.perm (H1.subl (.cons_cons _ (.cons_cons _ (List.nil_sublist _)))) (List.Perm.swap _ _ _),X,Heap.get?_push_of_some _ he⟩
 exact seg_end (.ok (.ret .none)) ⟨.inr rfl,rfl,F⟩
end
end
end Mine
namespace Mine
noncomputable section
theorem Fr2.new {σ:Shared} {P:Heap} {led:List (Addr×Asn)} {s₀ s:Shared} {C I:Addr} {R:Asn} (F:Fr2 C I s₀ s) (hI:I=s₀.heap.objs.size) (H:At σ P ((C,R)::led) s₀) :
  ∃s₀',Fr2 C I s₀' s∧At σ P ((C,R)::(I,Asn.eq { cls:=.type "list",data:=.seq #[] })::led) s₀':=by
 subst hI
 refine⟨{ s₀ with heap:=s₀.heap.push { cls:=.type "list",data:=.seq #[] } },⟨fun b o h1 h2 e=>F.heap b o h1 h2 ?_,F.os,⟨F.gens.bare,F.gens.kept⟩⟩,(H.push (R:=Asn.eq { cls:=.type "list",data:=.seq #[] }) rfl rfl).perm (List.Perm.swap _ _ _)⟩
 have e:(s₀.heap.push _).get? b=some o:=e
 rwa [Heap.get?_push_ne _ _ _ h2] at e
section
variable {prog:Program} {w:World} {σ:Shared} {A:Around} {C ga g ed me dx:Addr} {ep:Nat} {raw:List DictEntry} {env:Env} {base:List (Addr×Asn)} {P0:Heap} {m0 f0:Str→Option Value} {kz n':Nat} {p1 p2 p3 p4 p5 p6 p7:Pos}
noncomputable def iterSt (prog:Program) (w:World) (σ:Shared) (A:Around) (C g ed:Addr) (ep:Nat) (raw:List DictEntry) (body:List Stmt) (env:Env) (base:List (Addr×Asn)) (P0:Heap) (m0:Str→Option Value):Nat→Heap→List (Addr×Asn)→Shared→Prop
 | 0,P,front,s=>Sub P0 P∧At σ P ((C,Asn.ns m0)::(front++base)) s∧s.gens[g]? = some (.fresh (.func body env))
 | i+1,P,front,s=>Sub P0 P∧∃I,At σ P ((C,Asn.nsA)::(I,KeyIt ed raw.length ep (i+1))::(front++base)) s∧(keyGsp w σ C I g ed ep raw).At prog w A.in1 (i+1) s
theorem feed_iter (hA:Rm A (n'+3)) (hl:P0.NoLimit) (X:Src (KF w) P0) (hg:P0.IsGen ga g) (hσ:σ.gens[g]? = none) (O:EnvOk env C nmI) (hco:env.scope.isCoroutine=false) (hia:interactive env=false)
  (hsub:[(me,Asn.eq (instObj 199 dx)),(dx,Asn.nsN kz f0),(ed,Asn.eq (dictOf raw ep))].Sublist base) (hm0:m0 "self" = some (.ref me)) (hf0:f0 "_edges" = some (.ref ed)) :
  Feed prog w σ A ga raw.length base (fun _ i v=>∃e,raw[i]? = some e∧v=e.key) (iterSt prog w σ A C g ed ep raw (iterBody p1 p2 p3 p4 p5 p6 p7) env base P0 m0) where
 next:=fun {E P front s Q i} hi hst h=>by
  rcases i with _|i
  ·
   refine E0A3 (hst) fun k H hgs=>?_
   clear hst
   have H0:=H.setGen (x:=.running) hσ rfl
   have S0:At σ P [(C,Asn.ns m0),(me,Asn.eq (instObj 199 dx)),(dx,Asn.nsN kz f0),(ed,Asn.eq (dictOf raw ep))] (s.setGen g .running):=H0.subl (.cons_cons _ (hsub.trans (List.sublist_append_right _ _)))
   have seg:=seg_iter (prog:=prog) (A:=A.in1) (g:=g) (p1:=p1) (p2:=p2) (p3:=p3) (p4:=p4) (p5:=p5) (p6:=p6) (p7:=p7) O hco hia hA.in1 (X.mono k) S0 hm0 hf0 (bo_edges w) rfl
   generalize hI:(s.setGen g .running).heap.objs.size=I at seg
   obtain⟨q,hq⟩:∃q,raw.length=q+1:=⟨raw.length - 1,by exact sb8 (by assumption)⟩
   refine pn_gen (P:=fun n s₀ s₁=>n=0∧Fr2 C I s₀ s₁) (Y:=(keyGsp w σ C I g ed ep raw).proto) (n:=raw.length) hA.handled (hl.keeps (fun b o e=>H.sub _ _ (k _ _ e))) hA.lim (hg.keeps fun b o e=>H.sub _ _ (k _ _ e)) hgs ⟨rfl,seg⟩ (fun v s₁ gs' hb' hv=>?_) (fun s₁ hp=>by have:=hp.1; omega)
   refine E0A5 (hv) fun _ hF zz14 hY hk=>?_
   clear hv
   obtain⟨hL1,hL2⟩:=zz14
   have e1:raw.length - (raw.length - 1)=1:=by exact sb11 (by assumption)
   have e2:raw.length - 1 - (raw.length - 1)=0:=by exact sb3 (by assumption)
   have hL2:∃o,s₁.heap.get? I=some o∧∀P,((keyGsp w σ C I g ed ep raw).R (raw.length - (raw.length - 1))).ok P o:=hL2
   have hY:(keyGsp w σ C I g ed ep raw).Yields (raw.length - 1 - (raw.length - 1)) v (s.setGen g .running) s₁:=hY
   rw[e1] at hL2
   rw[e2] at hY
   refine E1A2 (hF.new hI.symm H0) fun s0' F' H1=>?_
   have H2:At σ P ((C,Asn.nsA)::(I,KeyIt ed raw.length ep 1)::(front++base)) s₁:=F'.at_ H1 (E1A2 (hL1) fun o e r=>⟨o,e,r⟩) (E1A2 (hL2) fun o e r=>⟨o,e,r P⟩)
   have hrun:s₁.gens[g]? = some .running:=hF.gens.kept g .running (setGen_self hgs)
   obtain⟨_,_,_,_,_,_,_,hyl⟩:=hY
   refine h P v _ (Sub.refl P) hyl ⟨k,I,H2.setGen hσ hb',gs',setGen_self hrun,hb',fun s'' hR=>?_⟩
   have hk':=hk s'' (by rw[show(keyGsp w σ C I g ed ep raw).n - (raw.length - 1)=1 from e1]; exact hR)
   rw[hq] at hk'
   have e3:(keyGsp w σ C I g ed ep raw).n - (0+1)=q:=by show raw.length - 1=q; exact sb1 (by assumption)
   rw[e3]
   exact hk'
  ·
   obtain⟨k,I,H,hS⟩:=hst
   refine gen_next (S:=keyGsp w σ C I g ed ep raw) hA.handled hA.lim (hl.keeps k) (hg.keeps k) hσ H hS hi (fun s'' H'=>?_) fun v s' H' hY hS'=>?_
   ·obtain⟨m,hm⟩:=(H'.subl (.cons_cons _ (.cons_cons _ (List.nil_sublist _)))).nsA
    exact⟨P,m,hm,X.mono k,H'.obj (.tail _ (.tail _ (List.mem_append_right _ (hsub.subset (.tail _ (.tail _ (.head _)))))))⟩
   ·obtain⟨_,_,_,_,_,_,_,hyl⟩:=hY
    exact h P v s' (Sub.refl P) hyl ⟨k,I,H',hS'⟩
 done:=fun {E P front s Q} hst h=>by
  generalize hN:raw.length=N at hst
  rcases N with _|i
  ·
   refine E0A3 (hst) fun k H hgs=>?_
   clear hst
   have H0:=H.setGen (x:=.running) hσ rfl
   have S0:At σ P [(C,Asn.ns m0),(me,Asn.eq (instObj 199 dx)),(dx,Asn.nsN kz f0),(ed,Asn.eq (dictOf raw ep))] (s.setGen g .running):=H0.subl (.cons_cons _ (hsub.trans (List.sublist_append_right _ _)))
   have seg:=seg_iter (prog:=prog) (A:=A.in1) (g:=g) (p1:=p1) (p2:=p2) (p3:=p3) (p4:=p4) (p5:=p5) (p6:=p6) (p7:=p7) O hco hia hA.in1 (X.mono k) S0 hm0 hf0 (bo_edges w) rfl
   generalize hI:(s.setGen g .running).heap.objs.size=I at seg
   refine pn_gen (P:=fun n s₀ s₁=>n=0∧Fr2 C I s₀ s₁) (Y:=(keyGsp w σ C I g ed ep raw).proto) (n:=raw.length) hA.handled (hl.keeps (fun b o e=>H.sub _ _ (k _ _ e))) hA.lim (hg.keeps fun b o e=>H.sub _ _ (k _ _ e)) hgs ⟨rfl,seg⟩ (fun v s₁ gs' hb' hv=>?_) (fun s₁ hp h' hk=>?_)
   ·have hlt:raw.length - 1<raw.length:=hv.1
    omega
   ·refine E1A2 (hp.2.new hI.symm H0) fun s0' F' H1=>?_
    exact h _ ((F'.drop H1).setGen (x:=.finished) hσ rfl |>.grow (tk:=(s₁.setGen g .finished).toks) (h':=h') hk)
  ·
   obtain⟨k,I,H,hS⟩:=hst
   rw[←hN] at H hS
   refine gen_end (S:=keyGsp w σ C I g ed ep raw) hA.handled hA.lim (hl.keeps k) (hg.keeps k) hσ H hS (fun s'' H'=>?_) h
   obtain⟨m,hm⟩:=(H'.subl (.cons_cons _ (.cons_cons _ (List.nil_sublist _)))).nsA
   exact⟨P,m,hm,X.mono k,H'.obj (.tail _ (.tail _ (List.mem_append_right _ (hsub.subset (.tail _ (.tail _ (.head _)))))))⟩
 op:=fun {P front s i} hst=>by
  rcases i with _|i
  ·
   refine E0A3 (hst) fun k H hgs=>?_
   clear hst
   exact⟨{ σ with gens:=s.gens },[(C,Asn.ns m0)],H.base,fun P' front' s' k' H'=>⟨k.trans k',H'.rebase fun g x e=>H.gens.kept g x e,H'.gens.kept _ _ hgs⟩⟩
  ·
   obtain⟨k,I,H,gs,hgs,hb,hgo⟩:=hst
   exact⟨{ σ with gens:=s.gens },[(C,Asn.nsA),(I,KeyIt ed raw.length ep (i+1))],H.base,fun P' front' s' k' H'=>⟨k.trans k',I,H'.rebase fun g x e=>H.gens.kept g x e,gs,H'.gens.kept _ _ hgs,hb,hgo⟩⟩
 off:=fun {P front s i} hst=>by
  rcases i with _|i
  ·exact hst.2.1.drop
  ·obtain⟨k,I,H,_⟩:=hst; exact H.drop.drop
end
end
end Mine
namespace Mine
set_option maxHeartbeats 1000000
noncomputable section
section
variable {prog:Program} {w:World} {σ:Shared} {P:Heap} {s:Shared} {A:Around} {E:Value→Shared→Prop} {led:List (Addr×Asn)} {me:Addr}
noncomputable def selfM (me:Addr):Str→Option Value:=fun x=>([("self",Value.ref me)]:List (Str×Value)).reverse.lookup x
theorem iter_c {n:Nat} {Q:Value→Shared→Prop} (X:Src (KF w) P) (R:Rm A (n+1)) (H:At σ P led s)
  (h:∀P' ga C g env s' p1 p2 p3 p4 p5 p6 p7,Sub P P'→GenObj P' ga g→σ.gens[g]? = none→EnvOk env C nmI→env.scope.isCoroutine=false→interactive env=false→At σ P' ((C,Asn.ns (selfM me))::led) s' →
   s'.gens[g]? = some (.fresh (.func (iterBody p1 p2 p3 p4 p5 p6 p7) env))→Q (.ref ga) s'):wpAny (model prog w) A (call (.ref 154) [.ref me]) Q E s:=by
 have code:∀ {oc:Value} {od:Option Addr} {osl:Array (Option Value)} {fd:FuncData} {p1 p2 p3 p4 p5 p6 p7:Pos},(KF w).lookup 154=some ⟨oc,od,.func fd,osl⟩→codeIn (KF w) fd.code fd.qualname=true→fd.body=.stmts (iterBody p1 p2 p3 p4 p5 p6 p7)→fd.scope.names=nmI →
   bindArgs fd ⟨[Value.ref me],[]⟩=pure ([("self",Value.ref me)]:List (Str×Value))→fd.globals=mainGlobals→fd.builtins=builtinsNs→fd.scope.isCoroutine=false→fd.scope.isGenerator=true→fd.scope.kind=.function→wpAny (model prog w) A (call (.ref 154) [Value.ref me]) Q E s:=by
  intro oc od osl fd p1 p2 p3 p4 p5 p6 p7 ho hcd hbody hnm hbind hg hb hco hgen hk
  refine wpAny_call (codeAny_call_generator R.lim (X.K.keeps H.sub _ _ ho) rfl hco hgen hbody (codeRec_of (X.K.keeps H.sub) hcd) ?_)
  rw[hbind]
  have hl:∀x∈([("self",Value.ref me)]:List (Str×Value)),fd.scope.names.lookup x.1=some .local:=by
   intro x hx
   rw[hnm]
   rcases List.mem_cons.mp hx with rfl|hx
   ·rfl
   ·contradiction
  refine wpAny_pure (wpAny_newFunctionEnv (by rw[hnm]; decide) hl (fun h' hn hs=>?_) hk)
  have H1:=At.push H (R:=Asn.eq { cls:=.type "frame",data:=.dict #[] }) rfl rfl
  refine E3A2 (hn) fun o es ep e r=>?_
  clear hn
  have H2:=H1.upd (R':=Asn.ns (selfM me)) (tk:=s.toks+1) .head hs ⟨o,e,es,ep,r⟩
  refine⟨X.nolimit.keeps H2.sub,?_⟩
  generalize s.heap.objs.size=C at *
  generalize hgc:GenState.fresh (.func (iterBody p1 p2 p3 p4 p5 p6 p7) (newEnv fd.scope C fd.globals fd.closure (fd.qualname ++ ".<locals>.") (some 154) fd.code none fd.builtins))=gc
  have H3:=(H2.pushGen (x:=gc) (by rw[←hgc]; rfl)).push (R:=Asn.eq { cls:=.type "generator",data:=.fields #[.int s.gens.size 0,.str fd.name (s.toks+1),.str fd.qualname (s.toks+1+1)] }) (o:={ cls:=.type "generator",data:=.fields #[.int s.gens.size 0,.str fd.name (s.toks+1),.str fd.qualname (s.toks+1+1)] }) rfl rfl
  refine E2A4 (H3.persist) fun P2 og k2 gg rg H4=>?_
  have rg:og=_:=rg
  subst rg
  have hgn:σ.gens[s.gens.size]? = none:=by
   rcases q:σ.gens[s.gens.size]? with _|x
   ·rfl
   ·have:=H.gens.kept _ _ q; rw[Array.getElem?_eq_none (Nat.le_refl _)] at this; contradiction
  refine h P2 _ C s.gens.size (newEnv fd.scope C fd.globals fd.closure (fd.qualname ++ ".<locals>.") (some 154) fd.code none fd.builtins) _ p1 p2 p3 p4 p5 p6 p7 k2 ⟨_,_,gg⟩ hgn ⟨rfl,hk,hnm,hg,hb⟩ hco ?_ (H4.tok (tk:=s.toks+1+1+1)) ?_
  ·unfold interactive
   rw[show(newEnv fd.scope C fd.globals fd.closure (fd.qualname ++ ".<locals>.") (some 154) fd.code none fd.builtins).scope.kind=.function from hk]
   rfl
  ·rw[hgc]
   exact Array.getElem?_push_size ..
 exact code (by show(hd.heap_1 w.params).lookup _=_; k_is) (by show codeIn (hd.heap_1 w.params) _ _=_; k_is) rfl rfl rfl rfl rfl rfl rfl rfl
end
end
end Mine
namespace Mine
noncomputable section
noncomputable def Cx.re {G:Gl} {P:Heap} {nms:List (Str×NameKind)} {n:Nat} (Γ:Cx G P nms n) (σ':Shared):Cx ⟨G.prog,G.w,σ'⟩ P nms n:=⟨Γ.env,Γ.L,Γ.A,Γ.src,Γ.eok,Γ.nod,Γ.rm,Γ.own,Γ.ownc,Γ.ownl,Γ.ownd⟩
theorem At.swap {σ:Shared} {P:Heap} {led led':List (Addr×Asn)} {s:Shared} {d:Addr} {R R':Asn} (H:At σ P led s) (U:Upd d R R' led led') (hd:∃o,s.heap.get? d=some o∧R'.ok P o):At σ P led' s:=
 (H.upd (tk:=s.toks) U (Heap.SameBut.refl _ _) hd:At _ _ _ { s with heap:=s.heap,toks:=s.toks })
section
variable {G:Gl} {P:Heap} {nms:List (Str×NameKind)} {n:Nat} {Γ:Cx G P nms n} {m:Str→Option Value} {e1:Expr} {pos tp p2:Pos} {tx:Str} {scope:Scope}
 {me dx ed lf rt gd:Addr} {es:List Ed} {gl:List ((Int×Int)×Addr)} {kl kr:List Int} {F:Int×Int→Int×Int→Prop} {rst:List (Addr×Asn)}
theorem EvA.oneG (hR:Rm Γ.A 4) (h1:EvA Γ m (bgL G.prog G.w me dx ed lf rt gd es gl kl kr F rst) e1 Rep.val (.ref me)) (hz:es.length≤500)
  (hs:∀env x,foldedSetIterable e1 env x=pure x) (hk:scope.kind=.function) (hcell':(scope.names.all fun y=>y.2 != .cell)=true) (hnames':(scope.names.all fun y=>y.2 != .local || scope.names.lookup y.1 == some .local)=true)
  (hfree':(scope.names.all fun x=>x.2 != .free)=true) (hdb:(relab nms scope.names).lookup ("__debug__" : Str)=none) (htl:(relab nms scope.names).lookup tx=some .local) :
  EvA Γ m (bgL G.prog G.w me dx ed lf rt gd es gl kl kr F rst) (.ListComp (.Name tx p2) [⟨.Name tx tp,e1,[],0⟩] scope pos) (Rep.list (Rep.pair Rep.int Rep.int)) (es.map (·.1)):=fun P0 k0=>EvG.keepL <| by
 have hcell:∀y∈scope.names,y.2≠.cell:=fun y hy e=>by have:=List.all_eq_true.mp hcell' y hy; rw[e] at this; contradiction
 have hnames:∀y∈scope.names,y.2=.local→scope.names.lookup y.1=some .local:=fun y hy e=>by have:=List.all_eq_true.mp hnames' y hy; rw[e] at this; exact beq_iff_eq.mp this
 refine E1A2 (closure_ Γ (scope:=scope) (noFree hfree')) fun cl hcl hcl2=>?_
 refine⟨fun Q s H hQ=>?_⟩
 show wpAny (model G.prog G.w) Γ.A (eval _ Γ.env) Q (fun _ _=>False) s
 rw[eval_ListComp]
 refine wpAny_comprehension_free (use:=none) rfl (hs _) hcl hk hnames ?_
 refine(h1 P0 k0).run _ s H fun P1 v l s1 k1 zz23 H1=>E0A2 zz23 fun el ev=>?_
 have ev:v=.ref me:=ev
 subst el ev
 have X1:Src (KF G.w) P1:=Γ.src.mono (k0.trans k1)
 refine E2A3 (At.dict (H1:At _ _ _ _) (List.mem_append_right _ (.tail _ (.tail _ (.head _))))) fun raw ep hraw f hnd=>?_
 generalize hL':((me,Asn.eq (instObj 199 dx))::(dx,Asn.nsN 4 (bgF ed lf rt gd))::(ed,Asn.eq (dictOf raw ep))::(lf,Asn.iset kl)::(rt,Asn.iset kr)::(gd,Asn.dict (DKind.pair G.prog G.w) Rep.val (gvals gl))::(sets gl F++rst):List (Addr×Asn))=L'
 have U:Upd ed (Asn.dict (DKind.pair G.prog G.w) Rep.int es) (Asn.eq (dictOf raw ep)) (bgL G.prog G.w me dx ed lf rt gd es gl kl kr F rst) L':=by rw[←hL']; exact .tail (.tail .head)
 have hsub:[(me,Asn.eq (instObj 199 dx)),(dx,Asn.nsN 4 (bgF ed lf rt gd)),(ed,Asn.eq (dictOf raw ep))].Sublist (Γ.fr m++L'):=by
  rw[←hL']; exact List.Sublist.trans (.cons_cons _ (.cons_cons _ (.cons_cons _ (List.nil_sublist _)))) (List.sublist_append_right _ _)
 have H2:At G.σ P1 (Γ.fr m++L') s1:=At.swap H1 (U.pre _) ⟨_,hraw,rfl⟩
 have hlen:es.length=raw.length:=f.length
 obtain⟨_,I⟩:∃od,InstAt s1.heap me (instObj 199 dx) 199 (some od):=E3A2 (At.inst H2 (hsub.subset (.head _)) (hsub.subset (.tail _ (.head _)))) fun od _ _ I _=>⟨od,I⟩
 refine iter_inst (X1.K.keeps H2.sub) I (sp_iter _) (fn_iter _) (iter_c (n:=3) X1 hR H2 fun P2 ga C g env s2 q1 q2 q3 q4 q5 q6 q7 k2 hgen hσ O hco hia H3 hgs=>⟨?_,E2A1 (hgen) fun _ _ e=>⟨_,H3.sub _ _ e,rfl⟩⟩)
 have Fd:=feed_iter (prog:=G.prog) (A:=Γ.A) (n':=1) (P0:=P2) (base:=Γ.fr m++L') (m0:=selfM me) (f0:=bgF ed lf rt gd) (kz:=4) (p1:=q1) (p2:=q2) (p3:=q3) (p4:=q4) (p5:=q5) (p6:=q6) (p7:=q7) hR (X1.mono k2).nolimit (X1.mono k2) hgen.isGen hσ O hco hia hsub rfl rfl
 refine wpAny_newObj_type ?_ (by show(0:Nat)≤_; exact Nat.zero_le _)
 have H4:=At.push H3 (R:=Asn.list (Rep.pair Rep.int Rep.int) []) (o:=listOf #[] 0) ⟨#[],0,rfl,.nil⟩ rfl
 generalize hD:s2.heap.objs.size=D at H4
 generalize hLL:Γ.fr m++L'=LL at Fd H4
 have S0:iterSt G.prog G.w G.σ Γ.A C g ed ep raw (iterBody q1 q2 q3 q4 q5 q6 q7) env LL P2 (selfM me) 0 P2 [(D,Asn.list (Rep.pair Rep.int Rep.int) [])] { s2 with heap:=s2.heap.push (listOf #[] 0) }:=⟨Sub.refl _,H4.perm (List.Perm.swap _ _ _),hgs⟩
 refine E2A2 (Fd.op S0) fun σ1 pre H5 close=>?_
 refine newEnv_ (Γ:=((Γ.up (k0.trans (k1.trans k2))).re σ1)) hcell hk H5 fun C' cenv s4 hc H6=>?_
 have hL2:cenv.locals=C':=congrArg Env.locals hc
 have hc':({ cenv with scope:=relabel scope Γ.env }:Env)=compEnvC scope cl C' Γ.env:=hc
 rw[hc',hL2]
 have S1:=close P2 ((C',Asn.ns fun _=>none)::[(D,Asn.list (Rep.pair Rep.int Rep.int) [])]) _ (Sub.refl _) (At.perm H6 List.perm_middle)
 clear hc hc' hL2 H6 H5 close S0 H4 H2 H1
 have fr0:∀mc,frOf C' [] mc=[(C',Asn.ns mc)]:=fun mc=>by simp[frOf]
 have pm:∀(pre2:List (Addr×Asn)) mc' led',(frOf C' [] mc'++(pre2++led')).Perm (pre2++(frOf C' [] mc'++led')):=fun pre2 mc' led'=>by rw[fr0]; exact(List.perm_middle (a:=(C',Asn.ns mc')) (l₁:=pre2) (l₂:=led')).symm
 have loop:codeAny (model G.prog G.w) Γ.A (.compLoop (.ListComp (.Name tx p2) [⟨.Name tx tp,e1,[],0⟩] scope pos) 0 (.ref ga) (.ref D) (compEnvC scope cl C' Γ.env)) (compPost (model G.prog G.w) Γ.A (fun _ _=>False) none Q (.ref D) C') s4:=by
  refine codeAny_loop rfl (fun j s'=>∃i P3 mc,j=raw.length - i∧i≤raw.length∧Sub P2 P3∧iterSt G.prog G.w G.σ Γ.A C g ed ep raw (iterBody q1 q2 q3 q4 q5 q6 q7) env LL P2 (selfM me) i P3 (frOf C' [] mc++[(D,Asn.list (Rep.pair Rep.int Rep.int) ((es.take i).map (·.1)))]) s') (fun j s' hJ=>?_) raw.length
   ⟨0,P2,fun _=>none,rfl,Nat.zero_le _,Sub.refl _,by rw[fr0]; exact S1⟩
  refine E3A4 (hJ) fun i P3 mc ee17 hi k3 hSt=>?_
  clear hJ
  subst ee17
  show wpAny _ Γ.A ((compTurn (.ListComp (.Name tx p2) [⟨.Name tx tp,e1,[],0⟩] scope pos) 0 (.ref ga) (.ref D) (compEnvC scope cl C' Γ.env)).onRaise (fun x=>do noteFrame x (compEnvC scope cl C' Γ.env); theTreesLotGoes x)) _ _ s'
  refine wpAny_noted ?_
  rw[compTurn_list]
  refine wpAny_bind (wpAny_standAt (wpAny_bind ?_))
  rcases Nat.lt_or_ge i raw.length with hlt|hge
  ·refine Fd.next hlt hSt fun P4 v s5 k4 hv hSt'=>?_
   refine E2A2 (Fd.op hSt') fun σ2 pre2 H7 close2=>?_
   have hlt':i<es.length:=by exact Nat.lt_of_lt_of_eq (by assumption) (Eq.symm (by assumption))
   have hx:es[i]? = some es[i]:=List.getElem?_eq_getElem hlt'
   refine wpAny_bind (wpAny_of_eq rfl ?_)
   have htk:es.take (i+1)=es.take i++[es[i]]:=take_snoc hx
   have hvv:(Rep.pair Rep.int Rep.int).is P4 es[i].1 v:=by
    refine E1A2 (hv) fun e he ee13=>?_
    clear hv
    subst ee13
    refine E1A2 (f.get he) fun p hp hr=>?_
    have:=hx.symm.trans hp
    injection this with this
    rw[this]
    exact Rep.mono _ (k2.trans (k3.trans k4)) hr.2.1
   let Γc:=(((Γ.up (k0.trans (k1.trans (k2.trans (k3.trans k4))))).re σ2).comp scope cl C' hk hdb)
   have H8:Γc.at_ mc (pre2++([(D,Asn.list (Rep.pair Rep.int Rep.int) ((es.take i).map (·.1)))]++LL)) s5:=by
    rw[List.append_assoc] at H7
    exact At.perm H7 (pm pre2 mc _)
   refine wpAny_bind ((Asg.name (Γ:=Γc) (m:=mc) (pos:=tp) (v:=v) htl).run _ _ _ _ Γ.rm.handled H8 fun m'' s6 hK H9=>?_)
   subst hK
   refine wpAny_bind (wpAny_tests_nil ?_)
   refine wpAny_bind (wpAny_bind (wpAny_mono ((Ev.name (Γ:=Γc) (m:=upd mc tx v) (pos:=p2) (R:=Is v) (by simp[upd]) rfl htl).run (fun v' s7=>v'=v∧Γc.at_ (upd mc tx v) (pre2++([(D,Asn.list (Rep.pair Rep.int Rep.int) ((es.take i).map (·.1)))]++LL)) s7) _ H9 fun v' s7 hv' H10=>⟨hv',H10⟩) (fun v' s7 zz8=>E0A2 zz8 fun hv' H10=>?_) fun _ _ (q:False)=>q.elim))
   subst hv'
   have H10:At σ2 P4 (frOf C' [] (upd mc tx v')++(pre2++([(D,Asn.list (Rep.pair Rep.int Rep.int) ((es.take i).map (·.1)))]++LL))) s7:=H10
   refine wpAny_bind (wpAny_mono (r_append (E:=fun _ _=>False) (Q:=fun _ s8=>∃j,j<raw.length - i∧∃i P3 mc,j=raw.length - i∧i≤raw.length∧Sub P2 P3∧iterSt G.prog G.w G.σ Γ.A C g ed ep raw (iterBody q1 q2 q3 q4 q5 q6 q7) env LL P2 (selfM me) i P3 (frOf C' [] mc++[(D,Asn.list (Rep.pair Rep.int Rep.int) ((es.take i).map (·.1)))]) s8)
    H10 (led':=frOf C' [] (upd mc tx v')++(pre2++([(D,Asn.list (Rep.pair Rep.int Rep.int) ((es.take i).map (·.1)++[es[i].1]))]++LL))) (Upd.pre (Upd.pre .head pre2) _) hvv (by rw[List.length_map]; exact Nat.le_trans (List.length_take_le' ..) (by exact tr1 (by assumption) rfl)) fun s8 H11=>?_) (fun _ s8 z=>wpAny_pure (wpAny_pure ⟨rfl,z⟩)) fun _ _ (q:False)=>q.elim)
   refine⟨raw.length - (i+1),by exact Nat.sub_succ_lt_self _ _ (by assumption),i+1,P4,upd mc tx v',rfl,hlt,k3.trans k4,?_⟩
   rw[htk,List.map_append]
   exact close2 P4 (frOf C' [] (upd mc tx v')++[(D,Asn.list (Rep.pair Rep.int Rep.int) ((es.take i).map (·.1)++[es[i].1]))]) _ (Sub.refl _) (by rw[List.append_assoc]; exact At.perm H11 (pm pre2 _ _).symm)
  ·have:i=raw.length:=by lia
   subst this
   rw[←hlen,List.take_length,hlen] at hSt
   refine Fd.done hSt fun s5 H7=>wpAny_pure ?_
   have Hc:At G.σ P3 ((C',Asn.ns mc)::(D,Asn.list (Rep.pair Rep.int Rep.int) (es.map (·.1)))::LL) s5:=by
    rw[fr0] at H7
    exact H7
   refine⟨mc,Hc.ns (.head _),fun h' hs'=>hQ P3 (.ref D) ((D,Asn.list (Rep.pair Rep.int Rep.int) (es.map (·.1)))::bgL G.prog G.w me dx ed lf rt gd es gl kl kr F rst) _ (k1.trans (k2.trans k3)) ⟨D,rfl,rfl⟩ ?_⟩
   have Hd:=Hc.extBut (tk:=s5.toks) hs'.extBut
   have U':Upd ed (Asn.eq (dictOf raw ep)) (Asn.dict (DKind.pair G.prog G.w) Rep.int es) L' (bgL G.prog G.w me dx ed lf rt gd es gl kl kr F rst):=by rw[←hL']; exact .tail (.tail .head)
   subst hLL
   have Hf:=At.swap Hd (Upd.tail (U'.pre (Γ.fr m))) ?_
   ·exact At.perm Hf List.perm_middle
   ·refine E1A2 (Hd.ld.get (.tail _ (U'.pre (Γ.fr m)).mem)) fun o eo ro=>?_
    have ro:o=dictOf raw ep:=ro
    subst ro
    exact⟨_,eo,raw,ep,⟨rfl,fun _ q=>by cases q⟩,f.imp fun _ _=>DRep.mono (k2.trans k3),hnd⟩
 exact codeAny_compStart_list loop (wpAny_pyIter_gen (hgen.isGen.keeps (Fd.off S1).sub) loop)
end
end
end Mine
namespace Mine
noncomputable section
section
variable {G:Gl} {P P':Heap} {nms:List (Str×NameKind)} {n:Nat} {Γ:Cx G P nms n} {m:Str→Option Value} {e e1 e2 e3 iter:Expr} {x:Str} {v:Value} {pos p1 p2 pf pg:Pos} {c:Bool} {rest:List Stmt} {Q:Flow→Shared→Prop}
 {me dx ed lf rt gd od:Addr} {es qs:List Ed} {gl:List ((Int×Int)×Addr)} {kl kr:List Int} {F:Int×Int→Int×Int→Prop} {rst:List (Addr×Asn)} {l r i:Int} {key:Int×Int}
theorem At.instG {σ:Shared} {prog:Program} {w:World} {s:Shared} {X:List (Addr×Asn)} (H:At σ P (X++bgL prog w me dx ed lf rt gd es gl kl kr F rst) s):∃od,InstAt s.heap me (instObj 199 dx) 199 (some od):=
 E3A2 (At.inst H (List.mem_append_right _ (.head _)) (List.mem_append_right _ (.tail _ (.head _)))) fun od _ _ I _=>⟨od,I⟩
theorem EvA.getG (hR:Rm Γ.A 4) (h1:EvA Γ m (bgL G.prog G.w me dx ed lf rt gd es gl kl kr F rst) e1 Rep.val (.ref me)) (h2:EvA Γ m (bgL G.prog G.w me dx ed lf rt gd es gl kl kr F rst) e2 (Rep.pair Rep.int Rep.int) key) (hb:look es key=some i)
  (hs:∀j,subscripted e2 true (.ref me) j=runValue (.builtin "lifetime.subscript" ⟨[.ref me,j],[]⟩)) :
  EvA Γ m (bgL G.prog G.w me dx ed lf rt gd es gl kl kr F rst) (.Subscript e1 e2 pos) Rep.int i:=fun P' k=>
 ⟨fun Q s H h=>Subscript_ ((h1 P' k).run _ s H fun P1 v l s1 k1 zz30 H1=>E0A2 zz30 fun e ev=>by
  have ev:v=.ref me:=ev
  subst e ev
  exact(h2 P1 (k.trans k1)).run _ s1 H1 fun P2 j l s2 k2 zz28 H2=>E0A2 zz28 fun e hj=>by
   subst e
   obtain⟨od,I⟩:=At.instG H2
   exact sub_inst ((((Γ.up k).up k1).up k2).src.K.keeps (At.sub H2)) I (sp_get _) (fn_get' _) (fn_get _)
    (getitem_c (n:=1) (((Γ.up k).up k1).up k2).src (Rm.in1 hR) (At.perm H2 (bgL_perm _)) hb hj fun u s' hu H'=>h P2 u _ s' (k1.trans k2) ⟨rfl,hu⟩ (At.perm H' (bgL_perm _).symm)) (hs j))⟩
theorem EvA.lenG (hR:Rm Γ.A 4) (hf:∀P' (k:Sub P P'),Ev (Γ.up k) m (bgL G.prog G.w me dx ed lf rt gd es gl kl kr F rst) (.Name x pf) (Is (.builtin "len"))) (h1:EvA Γ m (bgL G.prog G.w me dx ed lf rt gd es gl kl kr F rst) e1 Rep.val (.ref me)) (hz:es.length≤1000)
  (he:∀env,eval (.Call (.Name x pf) [e1] [] pos) env=(do callWith pos (←eval (.Name x pf) env) [] (backTo pos (starEach [e1] env)) (backToKw pos (keywordEach [] env))))
  (hs:∀env,starEach [e1] env=(false,eval e1 env)::starEach [] env):EvA Γ m (bgL G.prog G.w me dx ed lf rt gd es gl kl kr F rst) (.Call (.Name x pf) [e1] [] pos) Rep.int es.length:=
 EvA.callB hf h1 (fun P' k v Q s hv H hq=>by
  have hv:v=.ref me:=hv
  subst hv
  obtain⟨od,I⟩:=At.instG H
  exact len_inst ((Γ.up k).src.K.keeps (At.sub H)) I (sp_len _) (fn_len _) (len_c (n:=1) (Γ.up k).src (Rm.in1 hR) (At.perm H (bgL_perm _)) hz fun t s' H'=>⟨_,t,rfl,hz,fun t2 tk=>hq P' _ _ (Sub.refl P') ⟨t2,rfl⟩ (At.tok (At.perm H' (bgL_perm _).symm))⟩)) he hs
theorem eqG {σ:Shared} {prog:Program} {w:World} {s:Shared} {X:List (Addr×Asn)} {A:Around} {E:Value→Shared→Prop} {Q:Value→Shared→Prop} (S:Src (KF w) P) (hR:Rm A 4) (H:At σ P (X++bgL prog w me dx ed lf rt gd es gl kl kr F rst) s)
  (hm:(od,Asn.dict (DKind.pair prog w) Rep.int qs)∈X++rst) (h:∀s',At σ P (X++bgL prog w me dx ed lf rt gd es gl kl kr F rst) s'→Q (.bool (dictEqB es qs)) s'):wpAny (model prog w) A (compareOp .Eq (.ref me) (.ref od)) Q E s:=by
 refine E1A1 (At.instG H) fun o2 I=>?_
 refine E2A2 (At.dict (At.perm H (bgL_perm X)) (bgL_tail hm)) fun xs nn e _=>?_
 refine eq_inst (tb:=.type "dict") hR.c0 (S.K.keeps H.sub) I ((Looks.ld e).andThen .now) (no_dict w) (sp_eq w) (fn_eq w) ?_
 exact eq_c (n:=2) S hR (At.perm H (bgL_perm X)) hm fun s' H'=>⟨_,rfl,h s' (At.perm H' (bgL_perm X).symm)⟩
theorem TsA.eqG (hR:Rm Γ.A 4) (h1:EvA Γ m (bgL G.prog G.w me dx ed lf rt gd es gl kl kr F rst) e1 Rep.val (.ref me)) (h2:EvA Γ m (bgL G.prog G.w me dx ed lf rt gd es gl kl kr F rst) e2 Rep.val (.ref od)) (hm:(od,Asn.dict (DKind.pair G.prog G.w) Rep.int qs)∈rst)
  (hc:dictEqB es qs=c) (hb:behindInMarks .Eq e2=false):TsA Γ m (bgL G.prog G.w me dx ed lf rt gd es gl kl kr F rst) (.Compare e1 [.Eq] [e2] pos) c:=
 TsA.cmp h1 h2 (fun P' k v w Q s hv hw H hq=>by
  have hv:v=.ref me:=hv
  have hw:w=.ref od:=hw
  subst hv hw
  exact Mine.eqG (Γ.up k).src hR H (List.mem_append_right _ hm) fun s' H'=>hc▸hq s' H') hb
theorem TsA.eqGD {xs:List Ed} (hR:Rm Γ.A 4) (h1:EvA Γ m (bgL G.prog G.w me dx ed lf rt gd es gl kl kr F rst) e1 Rep.val (.ref me)) (hf:∀P' (k:Sub P P'),Ev (Γ.up k) m (bgL G.prog G.w me dx ed lf rt gd es gl kl kr F rst) (.Name x pf) (Is (.type "dict")))
  (h2:EvA Γ m (bgL G.prog G.w me dx ed lf rt gd es gl kl kr F rst) e2 (Rep.list (Rep.pair (Rep.pair Rep.int Rep.int) Rep.int)) xs) (hz:xs.length≤500) (hc:dictEqB es (putAll [] xs)=c)
  (he:∀env,eval (.Call (.Name x pf) [e2] [] pg) env=(do callWith pg (←eval (.Name x pf) env) [] (backTo pg (starEach [e2] env)) (backToKw pg (keywordEach [] env))))
  (hs:∀env,starEach [e2] env=(false,eval e2 env)::starEach [] env) (hb:behindInMarks .Eq (.Call (.Name x pf) [e2] [] pg)=false):TsA Γ m (bgL G.prog G.w me dx ed lf rt gd es gl kl kr F rst) (.Compare e1 [.Eq] [.Call (.Name x pf) [e2] [] pg] pos) c:=fun P' k=>
 TstG.cmp (R2:=fun _ v w l=>v=.ref me∧∃q,w=.ref q∧l=(q,Asn.dict (DKind.pair G.prog G.w) Rep.int (putAll [] xs))::bgL G.prog G.w me dx ed lf rt gd es gl kl kr F rst) (h1 P' k)
  (fun P1 k1 v l zz13=>E0A2 zz13 fun el hv=>by
   subst el
   exact EvG.callT1 (hf P1 (k.trans k1)) (h2 P1 (k.trans k1)) (fun P2 k2 w l Q s zz9 H hq=>E0A2 zz9 fun el hw=>by
    subst el
    exact r_dictRep (D:=DKind.pair G.prog G.w) (V:=Rep.int) (H:At _ _ _ _) hw Γ.rm.handled hz (by show Γ.A.units+3<cLine; have:=Γ.rm.units; unfold cLine; exact un0 (by assumption) rfl) fun P3 q s' k3 H'=>hq P3 _ _ s' k3 ⟨hv,q,rfl,rfl⟩ (At.perm H' List.perm_middle)) he hs)
  (fun P1 k1 v w l Q s ⟨hv,q,hw,el⟩ H hq=>by
   subst hv hw el
   have H1:At G.σ P1 ((Γ.fr m++[(q,Asn.dict (DKind.pair G.prog G.w) Rep.int (putAll [] xs))])++bgL G.prog G.w me dx ed lf rt gd es gl kl kr F rst) s:=by rw[List.append_assoc]; exact H
   refine Mine.eqG ((Γ.up k).up k1).src hR H1 (List.mem_append_left _ (List.mem_append_right _ (.head _))) fun s' H'=>hc▸hq P1 _ s' (Sub.refl P1) rfl (Cx.less [(q,Asn.dict (DKind.pair G.prog G.w) Rep.int (putAll [] xs))] ?_)
   rw[List.append_assoc] at H'
   exact H') hb
end
end
end Mine
namespace Mine
set_option maxHeartbeats 1000000
noncomputable section
section
variable {G:Gl} {P P':Heap} {nms:List (Str×NameKind)} {n:Nat} {Γ:Cx G P nms n} {m:Str→Option Value} {led led':List (Addr×Asn)} {e e1 e2 e3 iter:Expr} {x:Str} {v:Value} {pos p1 p2 p3 p4 pf pg:Pos} {c:Bool} {rest:List Stmt} {Q:Flow→Shared→Prop}
 {me dx ed lf rt gd od:Addr} {es qs:List Ed} {gl:List ((Int×Int)×Addr)} {kl kr:List Int} {F:Int×Int→Int×Int→Prop} {rst:List (Addr×Asn)} {l r i:Int} {key:Int×Int}
 {α β κ:Type} {A:Rep α} {B:Rep β} {y:α} {z:β} {di:DecidableEq κ} {db:DecidableEq β} {D:DKind G.prog G.w κ} {V:Rep β} {ps:List (κ×β)} {d:Addr}
theorem EvA.as (h:EvA Γ m led e A y) (hR:∀P v,A.is P y v→B.is P z v):EvA Γ m led e B z:=fun P' k=>EvG.imp (h P' k) fun _ _ _ _ zz52=>E0A2 zz52 fun a b=>⟨a,hR _ _ b⟩
theorem EvA.tri {kk:Nat} {u1 u2 u3:α} (h:EvsA Γ m led [e1,e2,e3] A [u1,u2,u3]):EvA Γ m led (.Tuple [e1,e2,e3] kk pos) Rep.bk .tri:=fun P' k=>
 ⟨fun Q s H h'=>Tuple_ ((h P' k).run pos _ s H fun P2 vs s1 k2 hvs H1=>by
  obtain⟨v1,v2,v3,rfl⟩:∃v1 v2 v3,vs=[v1,v2,v3]:=by
   cases hvs with|cons _ h=>cases h with|cons _ h=>cases h with|cons _ h=>obtain⟨⟩:=h; exact⟨_,_,_,rfl⟩
  refine wpAny_newTuple ?_
  refine E2A4 ((At.push (R:=Asn.eq (tupObj [v1,v2,v3] 0)) H1 rfl rfl).persist) fun P3 o k3 g r H2=>?_
  have r':o=tupObj [v1,v2,v3] 0:=r
  subst r'
  exact h' P3 _ led _ (k2.trans k3) ⟨rfl,_,0,v1,v2,v3,rfl,g⟩ H2)⟩
theorem EvA.listD (hf:∀P' (k:Sub P P'),Ev (Γ.up k) m led (.Name x pf) (Is (.type "list"))) (h1:EvA Γ m led e Rep.val (.ref d)) (hm:(d,Asn.dict D V ps)∈led) (hz:ps.length≤1000)
  (he:∀env,eval (.Call (.Name x pf) [e] [] pos) env=(do callWith pos (←eval (.Name x pf) env) [] (backTo pos (starEach [e] env)) (backToKw pos (keywordEach [] env))))
  (hs:∀env,starEach [e] env=(false,eval e env)::starEach [] env):EvA Γ m led (.Call (.Name x pf) [e] [] pos) (Rep.list D.rep) (ps.map (·.1)):=fun P' k=>
 EvG.keepL (EvG.callT1 (hf P' k) (h1 P' k) (fun P2 k2 v l Q s zz44 H hq=>E0A2 zz44 fun el hv=>by
  have hv:v=.ref d:=hv
  subst el hv
  exact r_list_dict (H:=(H:At _ _ _ _)) Γ.rm.handled ((Γ.up k).up k2).src hz (List.mem_append_right _ hm) fun P3 q s' k3 H'=>hq P3 _ ((q,Asn.list D.rep (ps.map (·.1)))::l) s' k3 ⟨q,rfl,rfl⟩ (At.perm H' List.perm_middle)) he hs)
theorem EvA.listItems {pl:Sem Bool} (hf:∀P' (k:Sub P P') l,Ev (Γ.up k) m l (.Name x pf) (Is (.type "list"))) (h1:∀P' (k:Sub P P'),Ev (Γ.up k) m led e1 (Is (.ref d))) (hm:(d,Asn.dict D V ps)∈led) (hz:ps.length≤1000)
  (hi:eval (.Call (.Attribute e1 "items" p1) [] [] p2) Γ.env=(do
   let ov ←eval e1 Γ.env
   standAt p1.atName
   let (f,first) ←holding [ov] (getMethod ov "items" pl)
   callWith p2 f first (backTo p2 (starEach [] Γ.env)) []))
  (he:∀env,eval (.Call (.Name x pf) [.Call (.Attribute e1 "items" p1) [] [] p2] [] pos) env=(do callWith pos (←eval (.Name x pf) env) [] (backTo pos (starEach [.Call (.Attribute e1 "items" p1) [] [] p2] env)) (backToKw pos (keywordEach [] env))))
  (hs:∀env,starEach [.Call (.Attribute e1 "items" p1) [] [] p2] env=(false,eval (.Call (.Attribute e1 "items" p1) [] [] p2) env)::starEach [] env) :
  EvA Γ m led (.Call (.Name x pf) [.Call (.Attribute e1 "items" p1) [] [] p2] [] pos) (Rep.list (Rep.pair D.rep V)) ps:=fun P' k=>
 EvG.keepL (EvG.callT1 (hf P' k _) (EvG.items (h1 P' k) hm hi) (fun P2 k2 v l Q s ⟨_,vw,hv,el⟩ H hq=>by
  subst hv el
  exact r_list_items (H:=(H:At _ _ _ _)) Γ.rm.handled hz (List.mem_append_right _ (.head _)) (List.mem_append_right _ (.tail _ hm)) fun P3 q s' k3 H'=>hq P3 _ ((q,Asn.list (Rep.pair D.rep V) ps)::led) s' k3 ⟨q,rfl,rfl⟩
   (At.perm (At.subl H' (.cons_cons _ ((List.Sublist.refl _).append (List.sublist_cons_self _ _)))) List.perm_middle)) he hs)
theorem EvA.listEwl {pl:Sem Bool} (hR:Rm Γ.A 4) (hf:∀P' (k:Sub P P') l,Ev (Γ.up k) m l (.Name x pf) (Is (.type "list"))) (h1:∀P' (k:Sub P P'),Ev (Γ.up k) m (bgL G.prog G.w me dx ed lf rt gd es gl kl kr F rst) e1 (Is (.ref me))) (hz:es.length≤1000)
  (hi:eval (.Call (.Attribute e1 "edges_with_labels" p1) [] [] p2) Γ.env=(do
   let ov ←eval e1 Γ.env
   standAt p1.atName
   let (f,first) ←holding [ov] (getMethod ov "edges_with_labels" pl)
   callWith p2 f first (backTo p2 (starEach [] Γ.env)) []))
  (he:∀env,eval (.Call (.Name x pf) [.Call (.Attribute e1 "edges_with_labels" p1) [] [] p2] [] pos) env=(do callWith pos (←eval (.Name x pf) env) [] (backTo pos (starEach [.Call (.Attribute e1 "edges_with_labels" p1) [] [] p2] env)) (backToKw pos (keywordEach [] env))))
  (hs:∀env,starEach [.Call (.Attribute e1 "edges_with_labels" p1) [] [] p2] env=(false,eval (.Call (.Attribute e1 "edges_with_labels" p1) [] [] p2) env)::starEach [] env) :
  EvA Γ m (bgL G.prog G.w me dx ed lf rt gd es gl kl kr F rst) (.Call (.Name x pf) [.Call (.Attribute e1 "edges_with_labels" p1) [] [] p2] [] pos) (Rep.list (Rep.pair (Rep.pair Rep.int Rep.int) Rep.int)) es:=fun P' k=>
 EvG.keepL (EvG.callT1 (hf P' k _) (R1:=fun _ v l=>∃vw,v=.ref vw∧l=(vw,View "dict_items" ed)::bgL G.prog G.w me dx ed lf rt gd es gl kl kr F rst)
  (EvG.meth (me:=me) (d:=dx) (C:=199) (g:=126) (h1 P' k) (.head _) (.tail _ (.head _)) rfl (bm_ewl _) Evs.nil hi
   ⟨fun m Q s H hq=>ewl_c (n:=1) (Γ.up k).src (hR.less (by exact bl0 rfl)) (At.perm H (bgL_perm _)) fun vw s' H'=>hq P' _ _ s' (Sub.refl P') ⟨vw,rfl,rfl⟩ (At.perm H' (List.perm_middle.trans ((bgL_perm _).symm.cons _)))⟩)
  (fun P2 k2 v l Q s zz35 H hq=>E1A2 zz35 fun vw hv el=>by
   subst hv el
   exact r_list_items (D:=DKind.pair G.prog G.w) (V:=Rep.int) (ps:=es) (H:=(H:At _ _ _ _)) Γ.rm.handled hz (List.mem_append_right _ (.head _)) (List.mem_append_right _ (.tail _ (.tail _ (.tail _ (.head _))))) fun P3 q s' k3 H'=>hq P3 _ ((q,Asn.list (Rep.pair (Rep.pair Rep.int Rep.int) Rep.int) es)::bgL G.prog G.w me dx ed lf rt gd es gl kl kr F rst) s' k3 ⟨q,rfl,rfl⟩
    (At.perm (At.subl H' (.cons_cons _ ((List.Sublist.refl _).append (List.sublist_cons_self _ _)))) List.perm_middle)) he hs)
theorem EvA.listEdges {pl:Sem Bool} (hR:Rm Γ.A 4) (hf:∀P' (k:Sub P P') l,Ev (Γ.up k) m l (.Name x pf) (Is (.type "list"))) (h1:∀P' (k:Sub P P'),Ev (Γ.up k) m (bgL G.prog G.w me dx ed lf rt gd es gl kl kr F rst) e1 (Is (.ref me))) (hz:es.length≤1000)
  (hi:eval (.Call (.Attribute e1 "edges" p1) [] [] p2) Γ.env=(do
   let ov ←eval e1 Γ.env
   standAt p1.atName
   let (f,first) ←holding [ov] (getMethod ov "edges" pl)
   callWith p2 f first (backTo p2 (starEach [] Γ.env)) []))
  (he:∀env,eval (.Call (.Name x pf) [.Call (.Attribute e1 "edges" p1) [] [] p2] [] pos) env=(do callWith pos (←eval (.Name x pf) env) [] (backTo pos (starEach [.Call (.Attribute e1 "edges" p1) [] [] p2] env)) (backToKw pos (keywordEach [] env))))
  (hs:∀env,starEach [.Call (.Attribute e1 "edges" p1) [] [] p2] env=(false,eval (.Call (.Attribute e1 "edges" p1) [] [] p2) env)::starEach [] env) :
  EvA Γ m (bgL G.prog G.w me dx ed lf rt gd es gl kl kr F rst) (.Call (.Name x pf) [.Call (.Attribute e1 "edges" p1) [] [] p2] [] pos) (Rep.list (Rep.pair Rep.int Rep.int)) (es.map (·.1)):=fun P' k=>
 EvG.keepL (EvG.callT1 (hf P' k _) (R1:=fun _ v l=>∃vw,v=.ref vw∧l=(vw,View "dict_keys" ed)::bgL G.prog G.w me dx ed lf rt gd es gl kl kr F rst)
  (EvG.meth (me:=me) (d:=dx) (C:=199) (g:=133) (h1 P' k) (.head _) (.tail _ (.head _)) rfl (bm_edges _) Evs.nil hi
   ⟨fun m Q s H hq=>edges_c (n:=1) (Γ.up k).src (hR.less (by exact bl0 rfl)) (At.perm H (bgL_perm _)) fun vw s' H'=>hq P' _ _ s' (Sub.refl P') ⟨vw,rfl,rfl⟩ (At.perm H' (List.perm_middle.trans ((bgL_perm _).symm.cons _)))⟩)
  (fun P2 k2 v l Q s zz29 H hq=>E1A2 zz29 fun vw hv el=>by
   subst hv el
   exact r_list_keys (D:=DKind.pair G.prog G.w) (V:=Rep.int) (ps:=es) (H:=(H:At _ _ _ _)) Γ.rm.handled hz (List.mem_append_right _ (.head _)) (List.mem_append_right _ (.tail _ (.tail _ (.tail _ (.head _))))) fun P3 q s' k3 H'=>hq P3 _ ((q,Asn.list (Rep.pair Rep.int Rep.int) (es.map (·.1)))::bgL G.prog G.w me dx ed lf rt gd es gl kl kr F rst) s' k3 ⟨q,rfl,rfl⟩
    (At.perm (At.subl H' (.cons_cons _ ((List.Sublist.refl _).append (List.sublist_cons_self _ _)))) List.perm_middle)) he hs)
theorem TsA.dne0 {q:Nat} (hV:EqR V q) (hq:q≤3) (h1:EvA Γ m led e1 Rep.val (.ref d)) (hm:(d,Asn.dict D V ps)∈led) (hc:(!dictEqB ps [])=c):TsA Γ m led (.Compare e1 [.NotEq] [.Dict [] [] p1] pos) c:=fun P' k=>
 TstG.cmp (R2:=fun _ v w l=>v=.ref d∧∃q,w=.ref q∧l=(q,Asn.dict D V [])::led) (h1 P' k)
  (fun P1 k1 v l zz22=>E0A2 zz22 fun el hv=>by
   subst el
   exact EvG.imp (EvC.dict0 D V) fun P2 w l _ ⟨_,q,ew,el⟩=>⟨hv,q,ew,el⟩)
  (fun P1 k1 v w l Q s ⟨hv,q,hw,el⟩ H hq'=>by
   subst hv hw el
   exact r_dictne ((Γ.up k).up k1).src hV (H:At _ _ _ _) (List.mem_append_right _ (.tail _ hm)) (List.mem_append_right _ (.head _)) (by have:=Γ.rm.units; show Γ.A.units+_+1<cLine; unfold cLine; exact un1 (by assumption) (by assumption)) (hc▸hq' P1 _ s (Sub.refl P1) rfl (Cx.less [(q,Asn.dict D V [])] H))) rfl
end
end
end Mine
namespace Mine
set_option maxHeartbeats 1000000
noncomputable section
section
variable {κ β:Type} [DecidableEq κ] [DecidableEq β]
theorem dictEqB_self {ps:List (κ×β)} (h:(ps.map (·.1)).Nodup):dictEqB ps ps=true:=by
 unfold dictEqB
 rw[Bool.and_eq_true]
 exact⟨beq_self_eq_true _,List.all_eq_true.mpr fun p hp=>decide_eq_true (mem_look h hp)⟩
theorem dictEqB_len {ps qs:List (κ×β)} (h:ps.length≠qs.length):dictEqB ps qs=false:=by
 unfold dictEqB
 rw[beq_false_of_ne h]; rfl
theorem dictEqB_ne {ps qs:List (κ×β)} {p:κ×β} (hp:p∈ps) (h:look qs p.1≠some p.2):dictEqB ps qs=false:=by
 unfold dictEqB
 rw[Bool.and_eq_false_iff]
 exact .inr (by rw[List.all_eq_false]; exact⟨p,hp,by simpa using h⟩)
end
theorem pick_last {vs:Array Value}:slicePick vs none (some (-1)) none=(vs.toList.take (vs.size - 1)).toArray:=by
 by_cases h:vs.size=0
 ·have:vs = #[]:=by simpa using h
  subst this
  rfl
 ·have e:sliceBounds none (some (-1)) none vs.size=sliceBounds none (some ((vs.size - 1:Nat):Int)) none vs.size:=by
   simp only[sliceBounds,Option.getD_none]
   congr 1
   congr 1
   have h2:¬(((vs.size - 1:Nat):Int)<0):=by lia
   lia
  rw[←slicePick_upto vs (vs.size - 1) (by exact Nat.sub_le _ _)]
  unfold slicePick
  rw[e]
section
variable {G:Gl} {P P':Heap} {nms:List (Str×NameKind)} {n:Nat} {Γ:Cx G P nms n} {m:Str→Option Value} {led led':List (Addr×Asn)} {e e1 e2 e3 iter:Expr} {x:Str} {v:Value} {pos p1 p2 p3 p4 pf pg:Pos} {c:Bool} {rest:List Stmt} {Q:Flow→Shared→Prop}
 {me dx ed lf rt gd od:Addr} {es qs:List Ed} {gl:List ((Int×Int)×Addr)} {kl kr:List Int} {F:Int×Int→Int×Int→Prop} {rst:List (Addr×Asn)} {l r i:Int} {key:Int×Int}
 {α β κ:Type} {A:Rep α} {y:α} {wd:Str} {outer:List Env} {z:BK} {ev dv:Value} {s:Shared}
theorem EvA.refused (hl:nms.lookup ("_law_refused" : Str)=some .globalImplicit) (h1:EvA Γ m led e1 Rep.val (.ref me)) (h2:EvA Γ m led e2 A y) (h3:EvA Γ m led e3 Rep.int i)
  (hc:∀P' (k:Sub P P') ev dv (Q:Value→Shared→Prop) s,A.is P' y ev→Rep.int.is P' i dv→(Γ.up k).at_ m led s→(∀t s',(Γ.up k).at_ m led s'→Q (.str wd t) s')→Γ.wp (call (.ref 222) [.ref me,ev,dv]) Q s)
  (he:∀env,eval (.Call (.Name "_law_refused" pf) [e1,e2,e3] [] pos) env=(do callWith pos (←eval (.Name "_law_refused" pf) env) [] (backTo pos (starEach [e1,e2,e3] env)) (backToKw pos (keywordEach [] env))))
  (hs1:∀env,starEach [e1,e2,e3] env=(false,eval e1 env)::starEach [e2,e3] env) (hs2:∀env,starEach [e2,e3] env=(false,eval e2 env)::starEach [e3] env) (hs3:∀env,starEach [e3] env=(false,eval e3 env)::starEach [] env) :
  EvA Γ m led (.Call (.Name "_law_refused" pf) [e1,e2,e3] [] pos) Rep.str wd:=fun P' k=>
 EvG.callF (f:=222) (R2:=fun P2 vs=>∃ev dv,vs=[.ref me,ev,dv]∧A.is P2 y ev∧Rep.int.is P2 i dv) (Ev.glob (gl_refused _) rfl hl) (by show keepIn (hd.heap_1 _) _=_; k_is)
  (EvsG.cons (R2:=fun P2 vs=>∃ev dv,vs=[ev,dv]∧A.is P2 y ev∧Rep.int.is P2 i dv) (h1 P' k) hs1
   (fun P2 k2=>EvsG.cons (R2:=fun P2 vs=>∃dv,vs=[dv]∧Rep.int.is P2 i dv) (h2 P2 (k.trans k2)) hs2
    (fun P3 k3=>EvsG.cons (R2:=fun _ vs=>vs=[]) (h3 P3 ((k.trans k2).trans k3)) hs3 (fun _ _=>EvsG.nil rfl) fun _ v vs hv e=>⟨v,by rw[e],hv⟩)
    fun _ v vs hv zz34=>E1A2 zz34 fun dv e hd=>⟨v,dv,by rw[e],hv,hd⟩)
   fun _ v vs hv zz33=>E2A3 zz33 fun ev dv e a b=>⟨ev,dv,by rw[e,(hv:v=.ref me)],a,b⟩)
  (fun P2 k2 vs Q s zz31 H hq=>E2A3 zz31 fun ev dv evs a b=>by
   subst evs
   exact hc P2 (k.trans k2) ev dv Q s a b H fun t s' H'=>hq P2 _ _ s' (Sub.refl P2) ⟨rfl,t,rfl⟩ H') he hs1
theorem refuse_miss (hR:Rm Γ.A 8) (hfr:Γ.A.frames=some outer) (Fr:FrsIn (Γ.fr m++led) outer) (h1:(me,Asn.eq (instObj 199 dx))∈Γ.fr m++led) (h2:(dx,Asn.nsN 4 (bgF ed lf rt gd))∈Γ.fr m++led) (h3:(ed,Asn.dict (DKind.pair G.prog G.w) Rep.int es)∈Γ.fr m++led) (hb:look es (l,r)=none) (hi:i=0∨i=1)
  (k:Sub P P') {Q:Value→Shared→Prop} (a:(Rep.pair Rep.int Rep.int).is P' (l,r) ev) (b:Rep.int.is P' i dv) (H:(Γ.up k).at_ m led s) (hq:∀t s',(Γ.up k).at_ m led s'→Q (.str "none" t) s'):Γ.wp (call (.ref 222) [.ref me,ev,dv]) Q s:=by
 refine refused_c (n:=1) (cls:="KeyError") (deed:=i) (Γ.up k).src (hR.less (by exact bl0 rfl)) H hfr Fr h1 h2 (.inl rfl) (hi.elim .inl fun h=>.inr (.inl h)) b (fun A' s' led' outer' Q E t R' H' hsub hfr' F' hE=>?_) hq
 rcases hi with rfl|rfl
 ·exact miss112 (n:=1) (Γ.up k).src R' H' hfr' F' (hsub _ h1) (hsub _ h2) (hsub _ h3) a hb hE
 ·exact miss119 (n:=1) (Γ.up k).src R' H' hfr' F' (hsub _ h1) (hsub _ h2) (hsub _ h3) a hb hE
theorem refuse_bad (hR:Rm Γ.A 8) (hfr:Γ.A.frames=some outer) (Fr:FrsIn (Γ.fr m++led) outer) (h1:(me,Asn.eq (instObj 199 dx))∈Γ.fr m++led) (h2:(dx,Asn.nsN 4 (bgF ed lf rt gd))∈Γ.fr m++led) (hi:i=0∨i=1∨i=2)
  (k:Sub P P') {Q:Value→Shared→Prop} (a:Rep.bk.is P' z ev) (b:Rep.int.is P' i dv) (H:(Γ.up k).at_ m led s) (hq:∀t s',(Γ.up k).at_ m led s'→Q (.str "kind" t) s'):Γ.wp (call (.ref 222) [.ref me,ev,dv]) Q s:=by
 refine refused_c (n:=1) (cls:="TypeError") (deed:=i) (Γ.up k).src (hR.less (by exact bl0 rfl)) H hfr Fr h1 h2 (.inr rfl) hi b (fun A' s' led' outer' Q E t R' H' hsub hfr' F' hE=>?_) hq
 rcases hi with rfl|rfl|rfl
 ·exact bad112 (n:=1) (Γ.up k).src R' H' hfr' F' a hE
 ·exact bad119 (n:=1) (Γ.up k).src R' H' hfr' F' a hE
 ·exact bad105 (n:=1) (Γ.up k).src R' H' hfr' F' a hE
theorem St.delG (hR:Rm Γ.A 8) (hPc:(114,Asn.codeTab)∈rst) (I:Inv es gl kl kr) (hin:(l,r)∈es.map (·.1)) (h1:Ev Γ m (bgL G.prog G.w me dx ed lf rt gd es gl kl kr (adj es) rst) e1 (Is (.ref me))) (h2:Ev Γ m (bgL G.prog G.w me dx ed lf rt gd es gl kl kr (adj es) rst) e2 ((Rep.pair Rep.int Rep.int).is P (l,r)))
  (h:∀P' kl' kr' (k:Sub P P'),Inv (cut es (l,r)) gl kl' kr'→St (Γ.up k) m (bgL G.prog G.w me dx ed lf rt gd (cut es (l,r)) gl kl' kr' (adj (cut es (l,r))) rst) rest Q) :
  St Γ m (bgL G.prog G.w me dx ed lf rt gd es gl kl kr (adj es) rst) (.Delete [.Subscript e1 e2 p1] pos::rest) Q:=
 ⟨fun s H=>wpAny_execs_cons (wpAny_Delete (wpAny_deleteEach_cons (by
  rw[arm_delete_Subscript]
  refine wpAny_bind (h1.run _ s H fun o s1 ho H1=>?_)
  subst ho
  refine wpAny_bind (wpAny_holding (h2.run _ s1 H1 fun i s2 hi H2=>?_))
  obtain⟨od,Is⟩:=At.instG H2
  refine wpAny_bind (wpAny_standAt (wpAny_bind (wpAny_holding (del_inst (Γ.src.K.keeps (At.sub H2)) Is (no_seq _) (sp_del _) (fn_del _) ?_))))
  exact del_c (n:=1) Γ.src (hR.less (by exact bl0 rfl)) (At.perm H2 (bgL_perm _)) (List.mem_append_right _ hPc) I hin hi fun P' kl' kr' s' k I' H'=>wpAny_release (wpAny_deleteEach_nil ((h P' kl' kr' k I').run s' (At.perm H' (bgL_perm _).symm))))))⟩
theorem St.setG (hR:Rm Γ.A 8) (I:Inv es gl kl kr) (hl:0≤l∧l<6) (hr:0≤r∧r<6) (h3:EvA Γ m (bgL G.prog G.w me dx ed lf rt gd es gl kl kr (adj es) rst) e Rep.int i) (h1:∀P' (k:Sub P P'),Ev (Γ.up k) m (bgL G.prog G.w me dx ed lf rt gd es gl kl kr (adj es) rst) e1 (Is (.ref me)))
  (h2:∀P' (k:Sub P P'),Ev (Γ.up k) m (bgL G.prog G.w me dx ed lf rt gd es gl kl kr (adj es) rst) e2 ((Rep.pair Rep.int Rep.int).is P' (l,r))) (hw:∀env,swapsWith e (some (.Subscript e1 e2 p1)) pos.line env=pure false)
  (h:∀P' gl' kl' kr' (k:Sub P P'),Inv (put es (l,r) i) gl' kl' kr'→St (Γ.up k) m (bgL G.prog G.w me dx ed lf rt gd (put es (l,r) i) gl' kl' kr' (adj (put es (l,r) i)) rst) rest Q) :
  St Γ m (bgL G.prog G.w me dx ed lf rt gd es gl kl kr (adj es) rst) (.Assign [.Subscript e1 e2 p1] e pos::rest) Q:=
 ⟨fun s H=>wpAny_execs_cons (wpAny_Assign_Subscript ((h3 P (Sub.refl P)).run _ s H fun P1 u l1 s1 k1 zz25 H1=>E0A2 zz25 fun el hu=>by
  subst el
  exact(h1 P1 k1).run _ s1 H1 fun o s2 ho H2=>by
   subst ho
   exact(h2 P1 k1).run _ s2 H2 fun j s3 hj H3=>by
    obtain⟨od,Is⟩:=At.instG H3
    exact set_inst ((Γ.up k1).src.K.keeps (At.sub H3)) Is (no_seq _) (sp_set _) (fn_set _) (set_c (n:=1) (Γ.up k1).src (hR.less (by exact bl0 rfl)) (At.perm H3 (bgL_perm _)) I hl hr hj hu fun P' gl' kl' kr' s' k I' H'=>(h P' gl' kl' kr' (k1.trans k) I').run s' (At.perm H' (bgL_perm _).symm))) (hw _))⟩
theorem EvA.find2 {pl pl':Sem Bool} (hR:Rm Γ.A 30) (hPc:(170,Asn.codeTab)∈rst) (I:Inv es gl kl kr) (hz:es.length≤7) (h1:∀P' (k:Sub P P') l,Ev (Γ.up k) m l e1 (Is (.ref me))) (h2:∀P' (k:Sub P P') l,Ev (Γ.up k) m l e2 (Is (.ref me)))
  (hi:eval (.Call (.Attribute e1 "find_matching" p1) [] [] p2) Γ.env=(do
   let ov ←eval e1 Γ.env
   standAt p1.atName
   let (f,first) ←holding [ov] (getMethod ov "find_matching" pl)
   callWith p2 f first (backTo p2 (starEach [] Γ.env)) []))
  (hi':eval (.Call (.Attribute e2 "find_matching" p3) [] [] p4) Γ.env=(do
   let ov ←eval e2 Γ.env
   standAt p3.atName
   let (f,first) ←holding [ov] (getMethod ov "find_matching" pl')
   callWith p4 f first (backTo p4 (starEach [] Γ.env)) [])) :
  EvA Γ m (bgL G.prog G.w me dx ed lf rt gd es gl kl kr F rst) (.Compare (.Call (.Attribute e1 "find_matching" p1) [] [] p2) [.Eq] [.Call (.Attribute e2 "find_matching" p3) [] [] p4] pos) Rep.bool true:=fun P' k=>
 EvG.cmp (R1:=fun _ v l=>∃f,v=.ref f∧l=(f,Asn.dict (DKind.int G.prog G.w) Rep.int (foundM (es.map (·.1))))::bgL G.prog G.w me dx ed lf rt gd es gl kl kr F rst)
  (R2:=fun _ v w l=>∃f g,v=.ref f∧w=.ref g∧l=(g,Asn.dict (DKind.int G.prog G.w) Rep.int (foundM (es.map (·.1))))::(f,Asn.dict (DKind.int G.prog G.w) Rep.int (foundM (es.map (·.1))))::bgL G.prog G.w me dx ed lf rt gd es gl kl kr F rst)
  (EvG.meth (me:=me) (d:=dx) (C:=199) (g:=175) (h1 P' k _) (.head _) (.tail _ (.head _)) rfl (bm_find _) Evs.nil hi
   ⟨fun m Q s H hq=>find_c (n:=1) (Γ.up k).src (hR.less (by exact bl0 rfl)) (At.perm H (bgL_perm _)) (List.mem_append_right _ hPc) I hz fun P2 f s' k2 H'=>hq P2 _ _ s' k2 ⟨f,rfl,rfl⟩ (At.perm H' (List.perm_middle.trans ((bgL_perm _).symm.cons _)))⟩)
  (fun P2 k2 v l zz17=>E1A2 zz17 fun f ev el=>by
   subst ev el
   refine EvG.meth (me:=me) (d:=dx) (C:=199) (g:=175) (h2 P2 (k.trans k2) _) (.tail _ (.head _)) (.tail _ (.tail _ (.head _))) rfl (bm_find _) Evs.nil hi' ⟨fun m Q s H hq=>?_⟩
   have H1:At G.σ P2 ((Γ.fr m++[(f,Asn.dict (DKind.int G.prog G.w) Rep.int (foundM (es.map (·.1))))])++bgL G.prog G.w me dx ed lf rt gd es gl kl kr F rst) s:=by rw[List.append_assoc]; exact H
   refine find_c (n:=1) ((Γ.up k).up k2).src (hR.less (by exact bl0 rfl)) (At.perm H1 (bgL_perm _)) (List.mem_append_right _ hPc) I hz fun P3 g s' k3 H'=>hq P3 _ _ s' k3 ⟨f,g,rfl,rfl,rfl⟩ ?_
   have H2:=At.perm H' ((bgL_perm (prog:=G.prog) (w:=G.w) (me:=me) (dx:=dx) (ed:=ed) (lf:=lf) (rt:=rt) (gd:=gd) (es:=es) (gl:=gl) (kl:=kl) (kr:=kr) (F:=F) (rest:=rst) (Γ.fr m++[(f,Asn.dict (DKind.int G.prog G.w) Rep.int (foundM (es.map (·.1))))])).symm.cons _)
   rw[List.append_assoc] at H2
   exact At.perm H2 List.perm_middle)
  (fun P2 k2 v w l Q s zz12 H hq=>E2A3 zz12 fun f g ev ew el=>by
   subst ev ew el
   refine E2A3 (At.dict (H:At _ _ _ _) (List.mem_append_right _ (.head _))) fun _ _ _ _ nd=>?_
   refine r_dicteq ((Γ.up k).up k2).src EqR.int (H:At _ _ _ _) (List.mem_append_right _ (.tail _ (.head _))) (List.mem_append_right _ (.head _)) (by have:=Γ.rm.units; show Γ.A.units+0+1<cLine; unfold cLine; exact un0 (by assumption) rfl) ?_
   rw[dictEqB_self nd]
   exact hq P2 _ _ s (Sub.refl P2) ⟨rfl,rfl⟩ (Cx.less [(g,Asn.dict (DKind.int G.prog G.w) Rep.int (foundM (es.map fun x:Ed=>x.1))),(f,Asn.dict (DKind.int G.prog G.w) Rep.int (foundM (es.map fun x:Ed=>x.1)))] H)) rfl
theorem EvA.holds (hR:Rm Γ.A 40) (hl:nms.lookup ("_law_holds" : Str)=some .globalImplicit) (hPc:(170,Asn.codeTab)∈rst) (hd2:(od,Asn.dict (DKind.pair G.prog G.w) Rep.int es)∈rst) (I:Inv es gl kl kr) (hz:es.length≤7)
  (h1:EvA Γ m (bgL G.prog G.w me dx ed lf rt gd es gl kl kr F rst) e1 Rep.val (.ref me)) (h2:EvA Γ m (bgL G.prog G.w me dx ed lf rt gd es gl kl kr F rst) e2 Rep.val (.ref od))
  (he:∀env,eval (.Call (.Name "_law_holds" pf) [e1,e2] [] pos) env=(do callWith pos (←eval (.Name "_law_holds" pf) env) [] (backTo pos (starEach [e1,e2] env)) (backToKw pos (keywordEach [] env))))
  (hs1:∀env,starEach [e1,e2] env=(false,eval e1 env)::starEach [e2] env) (hs2:∀env,starEach [e2] env=(false,eval e2 env)::starEach [] env) :
  EvA Γ m (bgL G.prog G.w me dx ed lf rt gd es gl kl kr F rst) (.Call (.Name "_law_holds" pf) [e1,e2] [] pos) Rep.bool true:=fun P' k=>
 EvG.callF (f:=227) (R2:=fun _ vs=>vs=[.ref me,.ref od]) (Ev.glob (gl_holds _) rfl hl) (by show keepIn (hd.heap_1 _) _=_; k_is)
  (EvsG.cons (R2:=fun _ vs=>vs=[.ref od]) (h1 P' k) hs1
   (fun P2 k2=>EvsG.cons (R2:=fun _ vs=>vs=[]) (h2 P2 (k.trans k2)) hs2 (fun _ _=>EvsG.nil rfl) fun _ v vs hv e=>by rw[e,(hv:v=.ref od)])
   fun _ v vs hv e=>by rw[e,(hv:v=.ref me)])
  (fun P2 k2 vs Q s evs H hq=>by
   subst evs
   exact holds_c (n:=1) ((Γ.up k).up k2).src (hR.less (by exact bl0 rfl)) (At.perm H (bgL_perm _)) (List.mem_append_right _ hPc) (List.mem_append_right _ hd2) I hz fun P3 s' k3 H'=>hq P3 _ _ s' k3 ⟨rfl,rfl⟩ (At.perm H' (bgL_perm _).symm)) he hs1
end
end
end Mine
namespace Mine
set_option maxHeartbeats 1000000
noncomputable section
section
variable {G:Gl} {P P':Heap} {nms:List (Str×NameKind)} {n:Nat} {Γ:Cx G P nms n} {m:Str→Option Value} {led led':List (Addr×Asn)} {e e1 e2 e3 iter:Expr} {stm:Stmt} {x:Str} {v:Value} {pos p1 p2 p3 p4 pf pg:Pos} {c:Bool} {rest body orelse:List Stmt} {Q:Flow→Shared→Prop}
 {α β:Type} {A:Rep α} {B:Rep β} {y:α×β}
theorem EvA.fst {kk:Nat} (h1:EvA Γ m led e1 (Rep.pair A B) y):EvA Γ m led (.Subscript e1 (.Constant (.int 0) kk p1) pos) A y.1:=fun P' k=>
 ⟨fun Q s H h=>Subscript_ ((h1 P' k).run _ s H fun P2 v l s1 k1 ⟨el,a,u1,u2,q,hv,g,ha,hb⟩ H1=>by
  subst el hv
  exact v_int H1 fun t s2 H2=>pair_item (j:=0) (H2.sub _ _ g) rfl (h P2 _ _ s2 k1 ⟨rfl,ha⟩ H2) (by with_unfolding_all rfl))⟩
theorem EvA.snd {kk:Nat} (h1:EvA Γ m led e1 (Rep.pair A B) y):EvA Γ m led (.Subscript e1 (.Constant (.int 1) kk p1) pos) B y.2:=fun P' k=>
 ⟨fun Q s H h=>Subscript_ ((h1 P' k).run _ s H fun P2 v l s1 k1 ⟨el,a,u1,u2,q,hv,g,ha,hb⟩ H1=>by
  subst el hv
  exact v_int H1 fun t s2 H2=>pair_item (j:=1) (H2.sub _ _ g) rfl (h P2 _ _ s2 k1 ⟨rfl,hb⟩ H2) (by with_unfolding_all rfl))⟩
theorem St.permL (p:(Γ.fr m++led').Perm (Γ.fr m++led)) (h:St Γ m led' body Q):St Γ m led body Q:=⟨fun s H=>h.run s (At.perm H p)⟩
theorem EqR.up {β:Type} [DecidableEq β] {V:Rep β} {q:Nat} (h:EqR V q):EqR V (q+1):=⟨h.inj,fun hu a b=>h.eq (by exact Nat.le_of_lt (by assumption)) a b⟩
noncomputable abbrev PEI:Rep Ed:=Rep.pair (Rep.pair Rep.int Rep.int) Rep.int
theorem EqR.pei:EqR PEI 2:=EqR.pair (EqR.pair EqR.int EqR.int) EqR.int.up
theorem EvA.listDP {ps:List Ed} {d:Addr} (hf:∀P' (k:Sub P P'),Ev (Γ.up k) m led (.Name x pf) (Is (.type "list"))) (h1:EvA Γ m led e Rep.val (.ref d)) (hm:(d,Asn.dict (DKind.pair G.prog G.w) Rep.int ps)∈led) (hz:ps.length≤1000)
  (he:∀env,eval (.Call (.Name x pf) [e] [] pos) env=(do callWith pos (←eval (.Name x pf) env) [] (backTo pos (starEach [e] env)) (backToKw pos (keywordEach [] env))))
  (hs:∀env,starEach [e] env=(false,eval e env)::starEach [] env):EvA Γ m led (.Call (.Name x pf) [e] [] pos) (Rep.list (Rep.pair Rep.int Rep.int)) (ps.map (·.1)):=EvA.listD (D:=DKind.pair G.prog G.w) (V:=Rep.int) hf h1 hm hz he hs
theorem EvA.listItemsP {ps:List Ed} {d:Addr} {pl:Sem Bool} (hf:∀P' (k:Sub P P') l,Ev (Γ.up k) m l (.Name x pf) (Is (.type "list"))) (h1:∀P' (k:Sub P P'),Ev (Γ.up k) m led e1 (Is (.ref d))) (hm:(d,Asn.dict (DKind.pair G.prog G.w) Rep.int ps)∈led) (hz:ps.length≤1000)
  (hi:eval (.Call (.Attribute e1 "items" p1) [] [] p2) Γ.env=(do
   let ov ←eval e1 Γ.env
   standAt p1.atName
   let (f,first) ←holding [ov] (getMethod ov "items" pl)
   callWith p2 f first (backTo p2 (starEach [] Γ.env)) []))
  (he:∀env,eval (.Call (.Name x pf) [.Call (.Attribute e1 "items" p1) [] [] p2] [] pos) env=(do callWith pos (←eval (.Name x pf) env) [] (backTo pos (starEach [.Call (.Attribute e1 "items" p1) [] [] p2] env)) (backToKw pos (keywordEach [] env))))
  (hs:∀env,starEach [.Call (.Attribute e1 "items" p1) [] [] p2] env=(false,eval (.Call (.Attribute e1 "items" p1) [] [] p2) env)::starEach [] env) :
  EvA Γ m led (.Call (.Name x pf) [.Call (.Attribute e1 "items" p1) [] [] p2] [] pos) (Rep.list PEI) ps:=EvA.listItems (D:=DKind.pair G.prog G.w) (V:=Rep.int) hf h1 hm hz hi he hs
theorem TsA.andT' (h:TsA Γ m led e c):TsA Γ m led (.BoolOp .And [e] pos) c:=by
 rcases c with _|_
 rotate_left
 ·exact TsA.andT h TsA.andN
 ·exact TsA.andF h
theorem St.split (J:(P':Heap)→(Str→Option Value)→List (Addr×Asn)→Prop) (h2:∀P' (k:Sub P P') m' led',J P' m' led'→St (Γ.up k) m' led' rest Q)
  (h1:(∀P' (k:Sub P P') m' led',J P' m' led'→St (Γ.up k) m' led' rest Q)→St Γ m led (stm::rest) Q):St Γ m led (stm::rest) Q:=h1 h2
theorem St.iteE (K:Bool→Prop) (h1:∃c,K c∧TsA Γ m led e c) (h:∀c P' (k:Sub P P'),K c→St (Γ.up k) m led (if c then body else orelse) (Γ.seq rest Q)):St Γ m led (.If e body orelse pos::rest) Q:=
 E1A2 (h1) fun c hk ht=>St.iteA ht fun P' k=>h c P' k hk
theorem St.guard (h1:TsA Γ m led e c) (hb:c=true→∀P' (k:Sub P P') Q',(∀P'' (k':Sub P' P''),St ((Γ.up k).up k') m led [] Q')→St (Γ.up k) m led body Q') (h:∀P' (k:Sub P P'),St (Γ.up k) m led rest Q):St Γ m led (.If e body [] pos::rest) Q:=
 St.iteA h1 fun P' k=>by
  rcases c with _|_
  rotate_left
  ·exact hb rfl P' k _ fun P'' k'=>St.skipG (k.trans k') (h P'' (k.trans k'))
  ·exact St.skipG k (h P' k)
end
section
variable {prog:Program} {w:World} {me dx ed lf rt gd:Addr} {es:List Ed} {gl:List ((Int×Int)×Addr)} {kl kr:List Int} {F:Int×Int→Int×Int→Prop} {r1 r2:List (Addr×Asn)}
theorem bgL_upd {d:Addr} {R R':Asn} (U:Upd d R R' r1 r2):Upd d R R' (bgL prog w me dx ed lf rt gd es gl kl kr F r1) (bgL prog w me dx ed lf rt gd es gl kl kr F r2):=by
 rw[bgL_app,bgL_app (rest:=r2)]; exact U.pre _
theorem cut_len {κ β:Type} [DecidableEq κ] (ps:List (κ×β)) (k:κ):(cut ps k).length≤ps.length:=by
 unfold cut
 split
 ·rw[List.length_eraseIdx]; split <;> lia
 ·exact Nat.le_refl _
theorem put_len {κ β:Type} [DecidableEq κ] (ps:List (κ×β)) (k:κ) (v:β):(put ps k v).length≤ps.length+1:=by
 rw[put_length]; split <;> lia
theorem eq_more {es:List Ed} (hn:(es.map (·.1)).Nodup) {k:Int×Int} (hk:k∉es.map (·.1)) {v:Int}:dictEqB es (putAll [] (es++[(k,v)]))=false:=by
 rw[putAll_nodup]
 ·exact dictEqB_len (by simp)
 ·simp only[List.nil_append,List.map_append,List.map_cons,List.map_nil]
  exact List.nodup_append.mpr ⟨hn,by simp,fun a ha b hb=>by simp at hb; subst hb; exact fun e=>hk (e▸ha)⟩
theorem eq_label {es:List Ed} (hn:(es.map (·.1)).Nodup) {y:Ed} (hy:es.getLast? = some y):dictEqB es (putAll [] (es.take (es.length - 1)++[(y.1,y.2+1)]))=false:=by
 refine E1A1 (List.getLast?_eq_some_iff.mp hy) fun ys ee1=>?_
 subst ee1
 have e:(ys++[y]).take ((ys++[y]).length - 1)=ys:=by simp
 rw[e]
 have hk:((ys++[(y.1,y.2+1)]).map (·.1))=((ys++[y]).map (·.1)):=by simp
 rw[putAll_nodup _ _ (by rw[List.nil_append,hk]; exact hn),List.nil_append]
 refine dictEqB_ne (p:=y) (by simp) ?_
 rw[mem_look (by rw[hk]; exact hn) (show(y.1,y.2+1)∈ys++[(y.1,y.2+1)] by simp)]
 intro c
 have:=Option.some.inj c
 lia
theorem dict_empty {es:List Ed}:dictEqB es ([]:List Ed)=es.isEmpty:=by
 rcases es with _|⟨p,l⟩
 ·rfl
 ·exact dictEqB_len (by simp)
end
end
end Mine
namespace Mine
set_option maxHeartbeats 2000000
noncomputable section
noncomputable abbrev nmL:List (Str×NameKind):=[("script",.local),("graph",.cell),("edges",.local),("number",.local),("rest",.local),("edge",.local),("key",.cell),("rows",.local),("BipartiteGraph",.globalImplicit),("list",.globalImplicit),("len",.globalImplicit),("_law_refused",.globalImplicit),("range",.globalImplicit),("dict",.globalImplicit),("_law_holds",.globalImplicit)]
section
variable {prog:Program} {w:World} {σ:Shared} {P:Heap} {s:Shared} {A:Around} {E:Value→Shared→Prop} {led:List (Addr×Asn)} {script:List Int} {sv:Value}
theorem law_c {n:Nat} {Q:Value→Shared→Prop} (X:Src (KF w) P) (R:Rm A (n+100)) (hfr:A.frames=some []) (H:At σ P led s) (h93:(93,Asn.codeTab)∈led) (h114:(114,Asn.codeTab)∈led) (h170:(170,Asn.codeTab)∈led)
  (hs:(Rep.listI Rep.int).is P script sv) (hlen:script.length≤1000) (h:∀P' s',Sub P P'→At σ P' led s'→Q (.bool true) s'):wpAny (model prog w) A (call (.ref 232) [sv]) Q E s:=by
 refine wpAny_call (callCx (w:=w) (n:=n+98) nmL [("script",sv)]
  X R H (by show(hd.heap_1 w.params).lookup _=_; k_is) (by show codeIn (hd.heap_1 w.params) _ _=_; k_is) rfl rfl rfl rfl (by decide) (fun L=>(by decide:([("key" : Str),"graph"]:List Str).Nodup)) (fun L x hx=>?_) rfl rfl rfl rfl rfl rfl fun Γ hR hcode hown hcells hfA=>?_)
 ·rcases List.mem_cons.mp hx with rfl|hx
  ·exact .inl rfl
  contradiction
 clear H R
 have oG:Γ.own.lookup ("graph" : Str)=some (Γ.L+1):=by rw[hown]; rfl
 have oK:Γ.own.lookup ("key" : Str)=some (Γ.L+2):=by rw[hown]; rfl
 have hf1:(([("graph" : Str),"key"]:List Str).all fun x=>(Γ.own.lookup x).isSome)=true:=by rw[hown]; rfl
 have hfr':Γ.A.frames=some [Γ.env]:=by rw[hfA.2]; exact Around.frames_deeper hfr
 have hFr:∀ {led2:List (Addr×Asn)} {m:Str→Option Value},(∀x∈Γ.fr m,x∈led2)→FrsIn led2 [Γ.env]:=fun hsub env hh=>by
  rcases List.mem_cons.mp hh with rfl|hh
  ·exact⟨(by rw[Γ.eok.kind]; intro c; contradiction),Γ.L,_,hfA.1,hsub _ (.head _)⟩
  ·contradiction
 clear hown hcode hcells hfA hfr
 refine St.assignC (R:=fun P' v l=>∃me dx ed lf rt gd,v=.ref me∧l=bgL prog w me dx ed lf rt gd [] [] [] [] (adj []) led) (EvG.callF0 (f:=199) (Ev.glob (gl_BG _) rfl rfl) (by show keepIn (hd.heap_1 w.params) _=_; k_is) (fun Q' s H hq=>?_) (fun _=>rfl)) rfl oG (fun _=>rfl) ?_
 ·exact init_c (n:=n) Γ.src (hR.less (by exact bl3 rfl)) H (Γ.tl h93) fun P' me dx ed lf rt gd s' k' H'=>hq P' _ _ s' k' ⟨me,dx,ed,lf,rt,gd,rfl,rfl⟩ (At.perm H' (bgL_perm _).symm)
 intro P1 _ _ k1 hz181
 refine E6A2 hz181 fun me dx ed lf rt gd ee179 ee180=>?_
 clear hz181
 subst ee179 ee180
 have X1:=Γ.src.mono k1
 refine St.at X1 ?_
 refine St.assignG (EvC.dict0 (DKind.pair prog w) Rep.int) rfl (fun _=>rfl) ?_
 rintro P2 _ _ k2 ⟨_,e2,rfl,rfl⟩
 have X2:=X1.mono k2
 refine St.at2 X2 ?_
 refine St.permL (led':=bgL prog w me dx ed lf rt gd [] [] [] [] (adj []) ((e2,Asn.dict (DKind.pair prog w) Rep.int [])::led)) ((bgL_perm [(e2,Asn.dict (DKind.pair prog w) Rep.int [])]).append_left _) ?_
 refine St.forIt (Walk.lstT (A:=Rep.int) (xs:=script.take 7) (EvA.slice (q:=7) (EvA.name rfl ((Rep.listI Rep.int).mono (k1.trans k2) hs) rfl) EvA.int hlen (fun vs _=>slicePick_upto' vs 7) (fun _ _=>rfl))) (fun _ _=>rfl) (.inl fun _ _=>rfl) ?_
 rintro Pin P3 _ k3 ⟨rfl,rfl⟩
 refine⟨fun i P' m' led'=>An3 (m' "graph" = some (.ref me)) (m' "edges" = some (.ref e2)) (Ex4 fun es gl kl kr=>An3 (led'=bgL prog w me dx ed lf rt gd es gl kl kr (adj es) ((e2,Asn.dict (DKind.pair prog w) Rep.int es)::led)) (Inv es gl kl kr) (es.length≤i)),fun _ _ _ _ _=>trivial,⟨rfl,rfl,[],[],[],[],rfl,inv0,Nat.le_refl _⟩,?_,?_⟩
 ·rintro i P4 P5 k4 k5 v it m2 _ Q' hi ⟨hg,he,es,gl,kl,kr,rfl,I,hz⟩ ⟨num,hnum,hv⟩ T
  have hi7:i<7:=by rw[List.length_take] at hi; exact ll1 (by assumption) _ rfl
  refine⟨_,Asg.name rfl,?_⟩
  rintro _ rfl
  have X5:=X2.mono (k3.trans (k4.trans k5))
  refine St.at2 X5 ?_
  refine St.permL (led':=bgL prog w me dx ed lf rt gd es gl kl kr (adj es) (it::(e2,Asn.dict (DKind.pair prog w) Rep.int es)::led)) ((bgL_perm [it]).append_left _) ?_
  refine St.assignA (EvA.fdiv (EvA.name (A:=Rep.int) (y:=num) rfl hv rfl) (EvA.int (i:=3)) (by decide) (by decide)) rfl (fun _=>rfl) fun P6 vr k6 hvr=>have X6:=X5.mono k6; St.at2 X6 ?_
  refine St.assignA (EvA.pair (A:=Rep.int) (B:=Rep.int) (EvA.fmod (EvA.name (A:=Rep.int) (y:=num.fdiv 3) rfl hvr rfl) (EvA.int (i:=6)) (by decide)) (EvA.fmod (EvA.fdiv (EvA.name (A:=Rep.int) (y:=num.fdiv 3) rfl hvr rfl) (EvA.int (i:=6)) (by decide) (by decide)) (EvA.int (i:=6)) (by decide)) (fun _=>rfl) (fun _=>rfl)) rfl (fun _=>rfl) fun P7 ve k7 hve=>have X7:=X6.mono k7; St.at2 X7 ?_
  have hm1:upd (upd (upd m2 "number" v) "rest" vr) "edge" ve "graph" = some (.ref me):=hg
  have hm2:upd (upd (upd m2 "number" v) "rest" vr) "edge" ve "edges" = some (.ref e2):=he
  have hm3:upd (upd (upd m2 "number" v) "rest" vr) "edge" ve "number" = some v:=rfl
  have hm4:upd (upd (upd m2 "number" v) "rest" vr) "edge" ve "rest" = some vr:=rfl
  have hm5:upd (upd (upd m2 "number" v) "rest" vr) "edge" ve "edge" = some ve:=rfl
  have hvr:=Rep.int.mono k7 hvr
  have hv:=Rep.int.mono (k6.trans k7) hv
  generalize upd (upd (upd m2 "number" v) "rest" vr) "edge" ve=m3 at hm1 hm2 hm3 hm4 hm5
  generalize hre:num.fdiv 3=re at hvr hve
  have hl0:0≤re.fmod 6∧re.fmod 6<6:=⟨Int.fmod_nonneg_of_pos _ (by decide),Int.fmod_lt_of_pos _ (by decide)⟩
  have hr0:0≤(re.fdiv 6).fmod 6∧(re.fdiv 6).fmod 6<6:=⟨Int.fmod_nonneg_of_pos _ (by decide),Int.fmod_lt_of_pos _ (by decide)⟩
  have hkk:Sub P5 P7:=k6.trans k7
  clear hg he hnum hre hi
  refine St.split (fun P' m' led'=>An3 (m' "graph" = some (.ref me)) (m' "edges" = some (.ref e2)) (Ex4 fun es' gl' kl' kr'=>An3 (led'=bgL prog w me dx ed lf rt gd es' gl' kl' kr' (adj es') (it::(e2,Asn.dict (DKind.pair prog w) Rep.int es')::led)) (Inv es' gl' kl' kr') (es'.length≤i+1))) ?_ (fun hk=>?_)
  ·clear hm1 hm2 hm3 hm4 hm5 hvr hv I hz hve hl0 hr0
   rintro P8 k8 m4 _ ⟨hm1,hm2,es,gl,kl,kr,rfl,I,hz⟩
   have X8:=X7.mono k8
   refine St.at2 X8 ?_
   have hz7:es.length≤7:=by exact Nat.le_trans (by assumption) (by assumption)
   have hd2:(e2,Asn.dict (DKind.pair prog w) Rep.int es)∈it::(e2,Asn.dict (DKind.pair prog w) Rep.int es)::led:=.tail _ (.head _)
   have hPc:(170,Asn.codeTab)∈it::(e2,Asn.dict (DKind.pair prog w) Rep.int es)::led:=.tail _ (.tail _ h170)
   generalize hRR:it::(e2,Asn.dict (DKind.pair prog w) Rep.int es)::led=RR at hd2 hPc
   have hd3:(e2,Asn.dict (DKind.pair prog w) Rep.int es)∈bgL prog w me dx ed lf rt gd es gl kl kr (adj es) RR:=bgL_tail hd2
   refine St.pass (TsA.orF (TsA.lne (A:=Rep.pair Rep.int Rep.int) (xs:=es.map fun x:Ed=>x.1) (ys:=es.map fun x:Ed=>x.1) (EqR.pair EqR.int EqR.int) (by exact bl0 rfl) (by exact EvA.oneG (hR.less (by exact bl2 rfl)) (EvA.cell (A:=Rep.val) hm1 rfl rfl oG) (by exact tr1 (by assumption) rfl) (fun _ _=>rfl) rfl rfl rfl rfl rfl rfl)
     (by exact EvA.listDP (ps:=es) (d:=e2) (fun _ _=>Ev.list_ rfl) (EvA.name (A:=Rep.val) hm2 rfl rfl) hd3 (by exact tr1 (by assumption) rfl) (fun _=>rfl) (fun _=>rfl)) (by rw[decide_eq_true rfl]; rfl) rfl)
    (TsA.orF (TsA.cmpI (i:=es.length) (j:=es.length) (EvA.lenG (hR.less (by exact bl2 rfl)) (fun _ _=>Ev.len_ rfl) (EvA.cell (A:=Rep.val) hm1 rfl rfl oG) (by exact tr1 (by assumption) rfl) (fun _=>rfl) (fun _=>rfl))
     (by exact EvA.lenD (D:=DKind.pair prog w) (V:=Rep.int) (ps:=es) (d:=e2) (fun _ _=>Ev.len_ rfl) (EvA.name (A:=Rep.val) hm2 rfl rfl) hd3 (by exact tr1 (by assumption) rfl) (fun _=>rfl) (fun _=>rfl)) (by show some _=_; simp) rfl)
    (TsA.orF (TsA.not (c:=true) (TsA.eqG (hR.less (by exact bl2 rfl)) (EvA.cell (A:=Rep.val) hm1 rfl rfl oG) (EvA.name (A:=Rep.val) hm2 rfl rfl) hd2 (dictEqB_self I.end_) rfl)) TsA.orN))) fun P9 k9=>have X9:=X8.mono k9; St.at2 X9 ?_
   refine St.pass (TsA.orF (TsA.lne (A:=PEI) (xs:=es) (ys:=es) EqR.pei (by exact bl0 rfl)
     (EvA.listEwl (hR.less (by exact bl2 rfl)) (fun _ _ _=>Ev.list_ rfl) (fun _ _=>Ev.cell hm1 rfl rfl oG) (by exact tr1 (by assumption) rfl) rfl (fun _=>rfl) (fun _=>rfl))
     (by exact EvA.listItemsP (ps:=es) (d:=e2) (fun _ _ _=>Ev.list_ rfl) (fun _ _=>Ev.name hm2 rfl rfl) hd3 (by exact tr1 (by assumption) rfl) rfl (fun _=>rfl) (fun _=>rfl)) (by rw[decide_eq_true rfl]; rfl) rfl)
    (TsA.orF (TsA.lne (A:=Rep.pair Rep.int Rep.int) (xs:=es.map fun x:Ed=>x.1) (ys:=es.map fun x:Ed=>x.1) (EqR.pair EqR.int EqR.int) (by exact bl0 rfl)
     (EvA.listEdges (hR.less (by exact bl2 rfl)) (fun _ _ _=>Ev.list_ rfl) (fun _ _=>Ev.cell hm1 rfl rfl oG) (by exact tr1 (by assumption) rfl) rfl (fun _=>rfl) (fun _=>rfl))
     (by exact EvA.listDP (ps:=es) (d:=e2) (fun _ _=>Ev.list_ rfl) (EvA.name (A:=Rep.val) hm2 rfl rfl) hd3 (by exact tr1 (by assumption) rfl) (fun _=>rfl) (fun _=>rfl)) (by rw[decide_eq_true rfl]; rfl) rfl) TsA.orN)) fun P10 k10=>have X10:=X9.mono k10; St.at2 X10 ?_
   refine St.assignA (A:=Rep.list PEI) (y:=es) (by exact EvA.listItemsP (ps:=es) (d:=e2) (fun _ _ _=>Ev.list_ rfl) (fun _ _=>Ev.name hm2 rfl rfl) hd3 (by exact tr1 (by assumption) rfl) rfl (fun _=>rfl) (fun _=>rfl)) rfl (fun _=>rfl) fun P11 vw k11 hvw=>have X11:=X10.mono k11; St.at2 X11 ?_
   have hn1:upd m4 "rows" vw "graph" = some (.ref me):=hm1
   have hn2:upd m4 "rows" vw "edges" = some (.ref e2):=hm2
   have hn3:upd m4 "rows" vw "rows" = some vw:=rfl
   generalize upd m4 "rows" vw=m5 at hn1 hn2 hn3
   clear hm1 hm2
   have h77:((7:Int),(7:Int))∉es.map (·.1):=fun c=>by have:=(I.rng _ c).1.2; omega
   refine St.pass (TsA.orF (TsA.eqGD (xs:=es++[((7,7),1)]) (hR.less (by exact bl2 rfl)) (EvA.cell (A:=Rep.val) hn1 rfl rfl oG) (fun _ _=>Ev.dict_ rfl)
     (EvA.cat (EvA.name hn3 hvw rfl) (EvA.list (EvsA.cons (EvA.pair (EvA.pair EvA.int EvA.int (fun _=>rfl) (fun _=>rfl)) EvA.int (fun _=>rfl) (fun _=>rfl)) (fun _=>rfl) EvsA.nil) (by trivial)) (by simp only[List.length_cons,List.length_nil]; omega))
     (by rw[List.length_append]; simp only[List.length_cons,List.length_nil]; omega) (eq_more I.end_ h77) (fun _=>rfl) (fun _=>rfl) rfl) (TsA.orF ?_ TsA.orN)) fun P12 k12=>have X12:=X11.mono k12; St.at2 X12 ?_
   ·rcases hes:es.getLast? with _|y
    ·
     have hnil:es=[]:=List.getLast?_eq_none_iff.mp hes
     exact TsA.andF (TsA.lne (A:=PEI) (xs:=es) (ys:=[]) EqR.pei (by exact bl0 rfl) (EvA.name hn3 hvw rfl) (EvA.list EvsA.nil (by trivial)) (by rw[decide_eq_true hnil]; rfl) rfl)
    ·
     have hne:es≠[]:=fun c=>by rw[c] at hes; contradiction
     refine TsA.andT (TsA.lne (A:=PEI) (xs:=es) (ys:=[]) EqR.pei (by exact bl0 rfl) (EvA.name hn3 hvw rfl) (EvA.list EvsA.nil (by trivial)) (by rw[decide_eq_false hne]; rfl) rfl) (TsA.andT' ?_)
     exact TsA.eqGD (xs:=es.take (es.length - 1)++[(y.1,y.2+1)]) (hR.less (by exact bl2 rfl)) (EvA.cell (A:=Rep.val) hn1 rfl rfl oG) (fun _ _=>Ev.dict_ rfl)
      (EvA.cat (EvA.slice (EvA.as (EvA.name (A:=Rep.list PEI) (y:=es) hn3 hvw rfl) fun _ _=>Rep.toI) EvA.neg1 (by exact tr1 (by assumption) rfl) (fun vs hvs=>by rw[pick_last,hvs]) (fun _ _=>rfl))
       (EvA.list (EvsA.cons (EvA.pair (EvA.fst (EvA.last (EvA.name (A:=Rep.list PEI) (y:=es) hn3 hvw rfl) EvA.neg1 hes (by exact tr1 (by assumption) rfl) (fun _ _=>rfl))) (EvA.add (EvA.snd (EvA.last (EvA.name (A:=Rep.list PEI) (y:=es) hn3 hvw rfl) EvA.neg1 hes (by exact tr1 (by assumption) rfl) (fun _ _=>rfl))) EvA.int) (fun _=>rfl) (fun _=>rfl)) (fun _=>rfl) EvsA.nil) (by exact Nat.succ_pos _)) (by simp only[List.length_cons,List.length_nil,List.length_take]; omega))
      (by rw[List.length_append,List.length_take]; simp only[List.length_cons,List.length_nil]; omega) (eq_label I.end_ hes) (fun _=>rfl) (fun _=>rfl) rfl
   refine St.pass (TsA.not (c:=true) (TsA.of_ev (EvA.holds (hR.less (by exact bl2 rfl)) rfl hPc hd2 I hz7 (EvA.cell (A:=Rep.val) hn1 rfl rfl oG) (EvA.name (A:=Rep.val) hn2 rfl rfl) (fun _=>rfl) (fun _=>rfl) (fun _=>rfl)) (fun _ _=>rfl))) fun P13 k13=>have X13:=X12.mono k13; St.at2 X13 ?_
   subst hRR
   refine St.nil fun s H=>T.next P13 m5 (bgL prog w me dx ed lf rt gd es gl kl kr (adj es) ((e2,Asn.dict (DKind.pair prog w) Rep.int es)::led)) s ((((((k6.trans k7).trans k8).trans k9).trans k10).trans k11).trans (k12.trans k13)) ⟨hn1,hn2,es,gl,kl,kr,rfl,I,hz⟩ ?_
   exact At.perm H ((bgL_perm [it]).symm.append_left _)
  ·have hd2:(e2,Asn.dict (DKind.pair prog w) Rep.int es)∈it::(e2,Asn.dict (DKind.pair prog w) Rep.int es)::led:=.tail _ (.head _)
   have h114':(114,Asn.codeTab)∈it::(e2,Asn.dict (DKind.pair prog w) Rep.int es)::led:=.tail _ (.tail _ h114)
   have hd3:(e2,Asn.dict (DKind.pair prog w) Rep.int es)∈bgL prog w me dx ed lf rt gd es gl kl kr (adj es) (it::(e2,Asn.dict (DKind.pair prog w) Rep.int es)::led):=bgL_tail hd2
   have hkey:=fun {P0:Heap} (k:Sub P7 P0)=>(Rep.pair Rep.int Rep.int).mono k hve
   refine St.iteE (fun c=>c=true→es≠[]) ?_ (fun c P8 k8 hc=>?_)
   ·by_cases h1:num.fmod 3=2
    ·by_cases h2:es=[]
     ·exact⟨false,fun c=>(by contradiction),TsA.andT (TsA.cmpI (i:=num.fmod 3) (j:=2) (EvA.fmod (EvA.name (A:=Rep.int) (y:=num) hm3 hv rfl) EvA.int (by decide)) EvA.int (by rw[h1]; rfl) rfl)
       (TsA.andF (by exact TsA.dne0 (D:=DKind.pair prog w) (V:=Rep.int) (ps:=es) (d:=e2) EqR.int (by exact bl0 rfl) (EvA.name (A:=Rep.val) hm2 rfl rfl) hd3 (by rw[h2]; rfl)))⟩
     ·by_cases h3:0<re.fmod 4
      ·exact⟨true,fun _=>h2,TsA.andT (TsA.cmpI (i:=num.fmod 3) (j:=2) (EvA.fmod (EvA.name (A:=Rep.int) (y:=num) hm3 hv rfl) EvA.int (by decide)) EvA.int (by rw[h1]; rfl) rfl)
        (TsA.andT (by exact TsA.dne0 (D:=DKind.pair prog w) (V:=Rep.int) (ps:=es) (d:=e2) EqR.int (by exact bl0 rfl) (EvA.name (A:=Rep.val) hm2 rfl rfl) hd3 (by rw[dict_empty]; cases es with|nil=>exact absurd rfl h2|cons _ _=>rfl))
        (TsA.andT' (TsA.cmpI (i:=re.fmod 4) (j:=0) (EvA.fmod (EvA.name (A:=Rep.int) (y:=re) hm4 hvr rfl) EvA.int (by decide)) EvA.int (by show some _=_; rw[decide_eq_true h3]) rfl)))⟩
      ·exact⟨false,fun c=>(by contradiction),TsA.andT (TsA.cmpI (i:=num.fmod 3) (j:=2) (EvA.fmod (EvA.name (A:=Rep.int) (y:=num) hm3 hv rfl) EvA.int (by decide)) EvA.int (by rw[h1]; rfl) rfl)
        (TsA.andT (by exact TsA.dne0 (D:=DKind.pair prog w) (V:=Rep.int) (ps:=es) (d:=e2) EqR.int (by exact bl0 rfl) (EvA.name (A:=Rep.val) hm2 rfl rfl) hd3 (by rw[dict_empty]; cases es with|nil=>exact absurd rfl h2|cons _ _=>rfl))
        (TsA.andT' (TsA.cmpI (i:=re.fmod 4) (j:=0) (EvA.fmod (EvA.name (A:=Rep.int) (y:=re) hm4 hvr rfl) EvA.int (by decide)) EvA.int (by show some _=_; rw[decide_eq_false h3]) rfl)))⟩
    ·exact⟨false,fun c=>(by contradiction),TsA.andF (TsA.cmpI (i:=num.fmod 3) (j:=2) (EvA.fmod (EvA.name (A:=Rep.int) (y:=num) hm3 hv rfl) EvA.int (by decide)) EvA.int (by show some _=_; rw[beq_false_of_ne h1]) rfl)⟩
   ·rcases c with _|_
    rotate_left
    ·
     have h2:=hc rfl
     have hlen0:0<es.length:=List.length_pos_iff.mpr h2
     have hj:0≤(re.fdiv 4).fmod es.length∧(re.fdiv 4).fmod es.length<es.length:=⟨Int.fmod_nonneg_of_pos _ (by omega),Int.fmod_lt_of_pos _ (by omega)⟩
     generalize hjj:(re.fdiv 4).fmod es.length=j at hj
     obtain⟨y,hy⟩:∃y,(es.map fun x:Ed=>x.1)[j.toNat]? = some y:=⟨_,List.getElem?_eq_getElem (by rw[List.length_map]; omega)⟩
     have hym:=List.mem_of_getElem? hy
     obtain⟨b,hb⟩:=Option.isSome_iff_exists.mp (look_isSome.mpr hym)
     refine St.assignA (A:=Rep.pair Rep.int Rep.int) (y:=y) (EvA.item (i:=j) (by exact EvA.listDP (ps:=es) (d:=e2) (fun _ _=>Ev.list_ rfl) (EvA.name (A:=Rep.val) hm2 rfl rfl) hd3 (by omega) (fun _=>rfl) (fun _=>rfl))
      (by rw[←hjj]; exact EvA.fmod (EvA.fdiv (EvA.name (A:=Rep.int) (y:=re) hm4 (Rep.int.mono k8 hvr) rfl) (EvA.int (i:=4)) (by decide) (by decide)) (by exact EvA.lenD (D:=DKind.pair prog w) (V:=Rep.int) (ps:=es) (d:=e2) (fun _ _=>Ev.len_ rfl) (EvA.name (A:=Rep.val) hm2 rfl rfl) hd3 (by omega) (fun _=>rfl) (fun _=>rfl)) (by omega))
      hj.1 hy (by rw[List.length_map]; omega) (fun _ _=>rfl)) rfl (fun _=>rfl) fun P9 vy k9 hvy=>?_
     have hn1:upd m3 "edge" vy "graph" = some (.ref me):=hm1
     have hn2:upd m3 "edge" vy "edges" = some (.ref e2):=hm2
     have hn5:upd m3 "edge" vy "edge" = some vy:=rfl
     generalize upd m3 "edge" vy=m5 at hn1 hn2 hn5
     refine St.pass (TsA.cmpI (i:=b) (j:=b) (by exact EvA.getG (hR.less (by exact bl2 rfl)) (EvA.cell (A:=Rep.val) hn1 rfl rfl oG) (EvA.name hn5 hvy rfl) hb (fun _=>rfl))
      (by exact EvA.subD (D:=DKind.pair prog w) (V:=Rep.int) (ps:=es) (d:=e2) (k:=y) (EvA.name (A:=Rep.val) hn2 rfl rfl) hd3 (EvA.name hn5 hvy rfl) hb (fun _ _=>rfl)) (by show some _=_; simp) rfl) fun P10 k10=>?_
     refine St.delG (l:=y.1) (r:=y.2) (hR.less (by exact bl2 rfl)) h114' I hym (Ev.cell hn1 rfl rfl oG) (Ev.name hn5 ((Rep.pair Rep.int Rep.int).mono k10 hvy) rfl) fun P11 kl' kr' k11 I'=>?_
     refine St.delitem (D:=DKind.pair prog w) (V:=Rep.int) (ps:=es) (k:=y) (d:=e2) (Ev.name hn2 rfl rfl) (bgL_upd (.tail .head)) (Ev.name hn5 ((Rep.pair Rep.int Rep.int).mono (k10.trans k11) hvy) rfl) (by omega) (look_isSome.mpr hym) ?_
     exact St.skipG (((k8.trans k9).trans k10).trans k11) (hk P11 _ m5 _ ⟨hn1,hn2,cut es y,gl,kl',kr',rfl,I',by have:=cut_len es y; omega⟩)
    ·
     refine St.iteE (fun _=>True) ⟨num.fmod 3 == 2,trivial,TsA.cmpI (i:=num.fmod 3) (j:=2) (EvA.fmod (EvA.name (A:=Rep.int) (y:=num) hm3 (Rep.int.mono k8 hv) rfl) EvA.int (by decide)) EvA.int rfl rfl⟩ (fun c P9 k9 _=>?_)
     rcases c with _|_
     rotate_left
     ·
      refine St.guard (c:=!(look es (re.fmod 6,(re.fdiv 6).fmod 6)).isSome) (by exact TsA.notin (D:=DKind.pair prog w) (V:=Rep.int) (ps:=es) (d:=e2) (EvA.name hm5 (hkey (k8.trans k9)) rfl) (EvA.name (A:=Rep.val) hm2 rfl rfl) hd3 rfl rfl) (fun hb P10 k10 Q'' hk2=>?_) fun P10 k10=>?_
      ·have hb:look es (re.fmod 6,(re.fdiv 6).fmod 6)=none:=by simpa using hb
       refine St.pass (TsA.orF (TsA.strNe (i:="none") (j:="none") (by exact EvA.refused (i:=0) (A:=Rep.pair Rep.int Rep.int) (y:=(re.fmod 6,(re.fdiv 6).fmod 6)) rfl (EvA.cell (A:=Rep.val) hm1 rfl rfl oG) (EvA.name hm5 (hkey ((k8.trans k9).trans k10)) rfl) EvA.int (fun P' k ev dv Q s a b H hq=>refuse_miss (i:=0) (by exact hR.less (by exact bl2 rfl)) (by exact hfr') (by exact hFr fun x hx=>List.mem_append_left _ hx) (by exact List.mem_append_right _ (.head _)) (by exact List.mem_append_right _ (.tail _ (.head _))) (by exact List.mem_append_right _ (.tail _ (.tail _ (.head _)))) hb (.inl rfl) k a b H hq) (fun _=>rfl) (fun _=>rfl) (fun _=>rfl) (fun _=>rfl)) EvA.str rfl rfl)
        (TsA.orF (TsA.strNe (i:="none") (j:="none") (by exact EvA.refused (i:=1) (A:=Rep.pair Rep.int Rep.int) (y:=(re.fmod 6,(re.fdiv 6).fmod 6)) rfl (EvA.cell (A:=Rep.val) hm1 rfl rfl oG) (EvA.name hm5 (hkey ((k8.trans k9).trans k10)) rfl) EvA.int (fun P' k ev dv Q s a b H hq=>refuse_miss (i:=1) (by exact hR.less (by exact bl2 rfl)) (by exact hfr') (by exact hFr fun x hx=>List.mem_append_left _ hx) (by exact List.mem_append_right _ (.head _)) (by exact List.mem_append_right _ (.tail _ (.head _))) (by exact List.mem_append_right _ (.tail _ (.tail _ (.head _)))) hb (.inr rfl) k a b H hq) (fun _=>rfl) (fun _=>rfl) (fun _=>rfl) (fun _=>rfl)) EvA.str rfl rfl) TsA.orN)) fun P11 k11=>hk2 P11 k11
      refine St.forIt (Walk.lstT (A:=Rep.bk) (xs:=[.int (re.fmod 6),.tri,.str]) (by exact EvA.list (EvsA.cons (EvA.as (EvA.fmod (EvA.name (A:=Rep.int) (y:=re) hm4 (Rep.int.mono ((k8.trans k9).trans k10) hvr) rfl) (EvA.int (i:=6)) (by decide)) fun _ _ h=>h) (fun _=>rfl) (EvsA.cons (EvA.tri (A:=Rep.int) (EvsA.cons EvA.int (fun _=>rfl) (EvsA.cons EvA.int (fun _=>rfl) (EvsA.cons EvA.int (fun _=>rfl) EvsA.nil)))) (fun _=>rfl) (EvsA.cons (EvA.as EvA.str fun _ _ h=>⟨_,h⟩) (fun _=>rfl) EvsA.nil))) (by simp))) (fun _ _=>rfl) (.inl fun _ _=>rfl) ?_
      rintro Pin P11 _ k11 ⟨rfl,rfl⟩
      refine⟨fun _ _ m' led'=>An3 (m' "graph" = some (.ref me)) (m' "edges" = some (.ref e2)) (led'=bgL prog w me dx ed lf rt gd es gl kl kr (adj es) (it::(e2,Asn.dict (DKind.pair prog w) Rep.int es)::led)),fun _ _ _ _ _=>trivial,⟨hm1,hm2,rfl⟩,?_,?_⟩
      ·intro j P12 P13 k12 k13 vk it2 m6 _ Q3 hj hz62
       obtain⟨hg1,hg2,rfl⟩:=hz62
       rintro⟨z,_,hvk⟩ T2
       refine⟨_,Asg.cell rfl oK,?_⟩
       rintro _ rfl
       have hg3:upd m6 "key" vk "graph" = some (.ref me):=hg1
       have hg4:=hg2
       have hg5:upd m6 "key" vk "key" = some vk:=rfl
       have hk3:((Mine.rng 3).filter fun _=>true).map (fun _=>("kind" : Str))=([("kind" : Str),"kind","kind"]:List Str):=rfl
       refine St.pass (TsA.lne (A:=Rep.str) (xs:=((Mine.rng 3).filter fun _=>true).map fun _=>"kind") (ys:=["kind","kind","kind"]) EqR.str (by exact bl0 rfl) ?_ (EvA.list (EvsA.cons EvA.str (fun _=>rfl) (EvsA.cons EvA.str (fun _=>rfl) (EvsA.cons EvA.str (fun _=>rfl) EvsA.nil))) (by trivial)) (by rw[hk3,decide_eq_true rfl]; rfl) rfl) fun P14 k14=>?_
       ·refine EvA.comp (B:=Rep.int) (S:=(· = it2::bgL prog w me dx ed lf rt gd es gl kl kr (adj es) (it::(e2,Asn.dict (DKind.pair prog w) Rep.int es)::led))) (fun P' k=>Walk.rng (i:=3) (EvA.range (fun _ _=>Ev.range_ rfl) (show EvA _ _ _ _ Rep.int ((3:Nat):Int) from EvA.int) (fun _=>rfl) (fun _=>rfl)) (by decide)) (fun _ _ _ h=>h) (fun l e X P s H=>e▸H) (by decide) (fun _ _=>rfl) rfl rfl rfl hf1 rfl rfl ?_
        rintro l1 P' k Γc mc v' it' D' ys x rfl hA hcl hx hv'
        have hx3:x=0∨x=1∨x=2:=by
         have hx:x∈[(0:Int),1,2]:=hx
         simpa using hx
        exact⟨TstsG.nil,fun _=>EvA.refused (A:=Rep.bk) (y:=z) (i:=x) rfl (EvA.own (A:=Rep.val) k oG hg3 rfl (hcl _ (.head _)) rfl) (EvA.own (A:=Rep.bk) (y:=z) k oK hg5 hvk (hcl _ (.tail _ (.head _))) rfl) (EvA.name upd_self hv' rfl)
         (fun P' k ev dv Q s a b H hq=>refuse_bad (i:=x) (by rw[hA]; exact hR.less (by exact bl2 rfl)) (by rw[hA]; exact hfr') (hFr fun x hx=>List.mem_append_right _ (.tail _ (.tail _ (List.mem_append_left _ hx)))) (List.mem_append_right _ (.tail _ (.tail _ (List.mem_append_right _ (.tail _ (.head _))))))
          (List.mem_append_right _ (.tail _ (.tail _ (List.mem_append_right _ (.tail _ (.tail _ (.head _))))))) hx3 k a b H hq) (fun _=>rfl) (fun _=>rfl) (fun _=>rfl) (fun _=>rfl)⟩
       ·exact St.nil fun s H=>T2.next P14 (upd m6 "key" vk) _ s k14 ⟨hg3,hg4,rfl⟩ H
      ·intro P12 k12 m6 _ hz42
       obtain⟨hg1,hg2,rfl⟩:=hz42
       exact St.skipG ((k9.trans k10).trans (k11.trans k12)) (St.skipG (k8.trans ((k9.trans k10).trans (k11.trans k12))) (hk P12 _ m6 _ ⟨hg1,hg2,es,gl,kl,kr,rfl,I,by exact Nat.le_trans (by assumption) (Nat.le_succ _)⟩))
     ·
      refine St.setG (l:=re.fmod 6) (r:=(re.fdiv 6).fmod 6) (i:=num.fmod 5) (hR.less (by exact bl2 rfl)) I hl0 hr0 (EvA.fmod (EvA.name (A:=Rep.int) (y:=num) hm3 (Rep.int.mono (k8.trans k9) hv) rfl) EvA.int (by decide)) (fun _ _=>Ev.cell hm1 rfl rfl oG) (fun P' k=>Ev.name hm5 (hkey ((k8.trans k9).trans k)) rfl) (fun _=>rfl) fun P10 gl' kl' kr' k10 I'=>?_
      refine St.setitemA (D:=DKind.pair prog w) (V:=Rep.int) (ps:=es) (k:=(re.fmod 6,(re.fdiv 6).fmod 6)) (b:=num.fmod 5) (d:=e2) (EvA.fmod (EvA.name (A:=Rep.int) (y:=num) hm3 (Rep.int.mono ((k8.trans k9).trans k10) hv) rfl) EvA.int (by decide)) (fun _ _=>Ev.name hm2 rfl rfl) (fun P' k=>Ev.name hm5 (hkey (((k8.trans k9).trans k10).trans k)) rfl) (bgL_upd (.tail .head)) (by omega) (fun _=>rfl) fun P11 k11=>?_
      exact St.skipG ((k9.trans k10).trans k11) (St.skipG (k8.trans ((k9.trans k10).trans k11)) (hk P11 _ m3 _ ⟨hm1,hm2,put es (re.fmod 6,(re.fdiv 6).fmod 6) (num.fmod 5),gl',kl',kr',rfl,I',by have:=put_len es (re.fmod 6,(re.fdiv 6).fmod 6) (num.fmod 5); exact Nat.le_trans (by assumption) (Nat.add_le_add_right (by assumption) _)⟩))
 ·intro P4 k4 m2 _ hz34
  obtain⟨hg,he,es,gl,kl,kr,rfl,I,hz⟩:=hz34
  have hz:es.length≤7:=by rw[List.length_take] at hz; exact ll1 (by assumption) _ rfl
  refine St.retA (A:=Rep.bool) (y:=true) (EvA.and2 (c:=true) (by exact EvA.find2 (hR.less (by exact bl2 rfl)) (.tail _ h170) I hz (fun _ _ _=>Ev.cell hg rfl rfl oG) (fun _ _ _=>Ev.cell hg rfl rfl oG) rfl rfl)
   (by exact EvA.leq (A:=Rep.pair Rep.int Rep.int) (xs:=es.map fun x:Ed=>x.1) (ys:=es.map fun x:Ed=>x.1) (EqR.pair EqR.int EqR.int) (by exact bl0 rfl) (by exact EvA.oneG (hR.less (by exact bl2 rfl)) (EvA.cell (A:=Rep.val) hg rfl rfl oG) (by exact tr1 (by assumption) rfl) (fun _ _=>rfl) rfl rfl rfl rfl rfl rfl) (by exact EvA.listDP (ps:=es) (d:=e2) (fun _ _=>Ev.list_ rfl) (EvA.name (A:=Rep.val) he rfl rfl) (bgL_tail (.head _)) (by exact tr1 (by assumption) rfl) (fun _=>rfl) (fun _=>rfl)) (decide_eq_true rfl) rfl)) ?_
  rintro P5 v s' k5 hv H'
  have hv:v=.bool true:=hv
  subst hv
  exact h P5 s' ((((k1.trans k2).trans k3).trans k4).trans k5) (by
   have H2:=At.dropL H'
   rw[bgL_app] at H2
   exact H2.subl (List.Sublist.trans (List.sublist_cons_self _ _) (List.sublist_append_right _ _)))
end
end
end Mine
namespace Mine
set_option maxHeartbeats 2000000
noncomputable section
theorem ns_hide {h:Heap} {a:Addr} {m:Str→Option Value} {l:List Addr} (H:h.Ns a m) (hn:a∉l):(hideAll h l).Ns a m:=E3A2 (H) fun o es ep e r=>⟨o,es,ep,hideAll_get _ e hn,r⟩
theorem no_tab (w:World) {a:Addr} {o:Obj} (e:(KF w).lookup a=some o):a∉[93,114,170]:=by
 have h:((hd.heap_1 w.params).all fun p=>!([93,114,170]:List Addr).contains p.1)=true:=by kernel_rfl
 refine E2A2 (List.lookup_eq_some_iff.mp e) fun l1 l2 e1 _=>?_
 have hm:(a,o)∈hd.heap_1 w.params:=by
  show(a,o)∈KF w
  rw[e1]
  exact List.mem_append_right _ (.head _)
 have:=List.all_eq_true.mp h _ hm
 simpa using this
theorem post_ok {args:List WData}:(PySem.Challenge.rw_jf0028_01.row.toRowW.claim).post args (.bool true) args=true:=by
 unfold OpenLaw.row RowW.claim
 dsimp only
 rw[holdsW_of_value (X:=true)]
 ·rfl
 ·simp only[WTm.value]
  rw[show PySem.W.same (WData.bool true) (WData.bool true)=true by decide +kernel]
theorem gl_law (w:World):nsIn (KF w) mainGlobals "law" = some (some (.ref 232)):=gl_of (by k_is)
theorem ints_F2 {h:Heap}:∀ {vs:List Value} {ns:List Int},IntsAre vs ns→F2 (Rep.int.is h) ns vs
 | _,_,.nil=>.nil
 | _,_,.cons _ t r=>.cons ⟨t,rfl⟩ (ints_F2 r)
noncomputable abbrev tabs3:List Addr:=[93,114,170]
theorem src_top {w:World} {h:Heap} {p:Program} {loose:List Str} {mean:ExcName→Option Value} {mg mb:Str→Option Value} (T:Top p loose mean mg mb h) (K:(KF w).In h) (ht:∀a∈tabs3,h.get? a=some { cls:=.none,data:=.fields #[] }) (hs:∃o,h.get? sysModules=some o):Src (KF w) (hideAll h tabs3):=by
 refine⟨fun a o e=>hideAll_get _ (K a o e) (no_tab w e),E1A1 (hs) fun o e=>⟨o,hideAll_get _ e (by decide)⟩,E1A2 (T.nolimit) fun mc a b=>⟨mc,ns_hide a (by decide),b⟩,⟨mg,ns_hide T.g (by decide)⟩,⟨mb,ns_hide T.b (by decide),T.builtins⟩,?_⟩
 ·refine E2A6 (T.bmain) fun bm ob h1 h2 h3 h4 h5 h6=>?_
  exact⟨mg,bm,ob,ns_hide T.g (by decide),h1,h2,hideAll_get _ h3 (fun hm=>by have:=ht _ hm; rw[h3] at this; (obtain rfl:=Option.some.inj this); contradiction),h4,h5,h6⟩
theorem tab_of {w:World} {h:Heap} (K:(KF w).In h):∀a∈tabs3,isCodeTable h a:=by
 have one:∀ {c P:Addr},CodeK w c P→isCodeTable h P:=fun⟨⟨o,vs,_,_,_,_,_,_,_,e,h1,h2,h3,_⟩,_⟩=>⟨_,o,vs,K _ _ e,h1,h2,h3⟩
 intro a ha
 rcases List.mem_cons.mp ha with rfl|ha
 ·exact one (ck_init w)
 rcases List.mem_cons.mp ha with rfl|ha
 ·exact one (ck_del w)
 rcases List.mem_cons.mp ha with rfl|ha
 ·exact one (ck_find w)
 contradiction
theorem old_top {σ:Shared} {w:World} {h:Heap} {P':Heap} {s':Shared} (K:(KF w).In h) (ht:∀a∈tabs3,h.get? a=some { cls:=.none,data:=.fields #[] }) (k:Sub (hideAll h tabs3) P') (H:At σ P' (tabs3.map fun a=>(a,Asn.codeTab)) s'):OldK h s'.heap:=by
 have tb:∀a∈tabs3,∃ps,s'.heap.get? a=some { cls:=.none,data:=.fields ps }:=fun a ha=>by
  obtain⟨o,e,ps,rfl,_⟩:=H.ld.get (List.mem_map.mpr ⟨a,ha,rfl⟩)
  exact⟨ps,e⟩
 have ke:∀b o,h.get? b=some o→b∉tabs3→s'.heap.get? b=some o:=fun b o e hb=>H.sub _ _ (k _ _ (hideAll_get _ e hb))
 refine⟨fun b o e=>?_,fun b o e=>?_⟩
 ·by_cases hb:b∈tabs3
  ·have:=ht b hb
   rw[e] at this
   (obtain rfl:=Option.some.inj this)
   obtain⟨ps,hps⟩:=tb b hb
   exact .inr (.inl ⟨tab_of K b hb,rfl,#[],ps,rfl,by rw[hps]; simp⟩)
  ·exact .inl (ke b o e hb)
 ·by_cases hb:b∈tabs3
  ·refine E1A1 (tb b hb) fun ps hps=>?_
   exact⟨_,hps⟩
  ·exact⟨o,ke b o e hb⟩
theorem top:PySem.Challenge.rw_jf0028_01.Holds:=hd (by
 intro w s₀ s₁ mg mb G Y fa o pm cd doc dV kV ho hdd hcd hD hmg hg args vals as hpre hlay hrd hwl hlo
 have K1:(KF w).In s₁.heap:=kIn_of Y.1
 have hfa:fa=232:=by
  have e:=mg_of K1 G.T.g (gl_law w)
  have e2:=e.symm.trans hmg
  injection e2 with e2
  injection e2 with e2
  exact e2.symm
 subst hfa
 clear ho hdd hcd hD hmg
 wrow_args hpre hlay hrd hwl hlo
 rename_i ns _ _ _ _ _ _ _ l vs _ hL _ _ _ hI _ hcond _
 obtain⟨ol,hol,hlc,nl,hld⟩:=hL
 have hX:=src_top G.T K1 Y.2.1 Y.2.2
 have H0:At s₁ (hideAll s₁.heap tabs3) (tabs3.map fun a=>(a,Asn.codeTab)) s₁:=by
  refine⟨⟨fun b o e=>of_hideAll _ e,by decide,fun p hp=>?_,fun p hp=>?_⟩,rfl,⟨?_,fun _ _ e=>e⟩⟩
  ·refine E1A2 (List.mem_map.mp hp) fun a ha ee6=>?_
   subst ee6
   exact⟨_,Y.2.1 a ha,#[],rfl,trivial⟩
  ·refine E1A2 (List.mem_map.mp hp) fun a ha ee3=>?_
   subst ee3
   exact hideAll_none _ ha
  ·rw[hg]; exact fun y h=>by simp at h
 refine law_c (n:=1) (script:=ns) (led:=tabs3.map fun a=>(a,Asn.codeTab)) hX ⟨rfl,by decide,by decide⟩ rfl H0 (by exact .head _) (by exact .tail _ (.head _)) (by exact .tail _ (.tail _ (.head _))) ⟨l,ol,_,nl,rfl,hideAll_get _ hol (fun hm=>?_),hlc,hld,ints_F2 hI⟩ (by omega) fun P' s' k H'=>?_
 ·have:=Y.2.1 l hm
  rw[hol] at this
  (obtain rfl:=Option.some.inj this)
  contradiction
 ·exact⟨.inl ⟨.bool true,.bool true,[],rfl,fun _=>rfl,.bool true,post_ok,fun _=>⟨.nil,fun _ h=>by cases h⟩⟩,old_top K1 Y.2.1 k H',H'.os,H'.gens.bare⟩)
end
end Mine
theorem PySem.Challenge.cw_jf0028_01_holds : PySem.Challenge.rw_jf0028_01.Holds :=
  Mine.top
